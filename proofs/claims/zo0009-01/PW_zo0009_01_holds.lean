import PyProof.Rows.All
import Wide.All
import OpenK.AllK
import Wide.FinOn
import PyProof.PureStr
import PyProof.Cells
import PyProof.StrLoop
import PyProof.StrWalks
import PyProof.PureInt
import PyProof.Draws
import PyProof.EnumMake
import PyProof.ExcArgs
import PyProof.ListNew
import PyProof.WalksPairs
import PyProof.Rows.RuleB_floordiv
import PyProof.Rows.RuleB_mod
import PyProof.Rows.RuleB_xor
import PyProof.Rows.RuleM_int
import PyProof.Rows.RuleN_abs
import PyProof.Rows.RuleN_isinstance
import PyProof.StrReplace2
import Wide.BytesRules
import KE.KxBytes
import KE.BytesMake
import KE.KBytesWalk
import KE.KIntText
import KE.KLcPair
import KE.KRevIter
import PySem.Challenge.RW_zo0009_01
set_option Elab.async false
set_option genSizeOf false
set_option genSizeOfSpec false
set_option genInjectivity false
set_option bootstrap.genMatcherCode false
section
open PySem PySem.W PyProof.Rows
set_option Elab.async false
namespace Mine

/-- values of the mini language -/
inductive PV where
  | none
  | bool (b : Bool)
  | int (i : Int)
  | str (l : List Nat)
  | bytes (l : List UInt8)
  | tup (l : List PV)
  | lst (l : List PV)
  | mtch (l : List Nat) (sp : List Int)
  | cells (l : List (Int × Int))

noncomputable abbrev listO (vs : List Value) (n : Nat) : Obj := { cls := .type "list", data := .seq vs.toArray n }
noncomputable abbrev tupO (vs : List Value) (n : Nat) : Obj := { cls := .type "tuple", data := .seq vs.toArray n }

/-- a match object: its text and its spans; the pattern is at pa, the tuple of the spans at ta -/
inductive IsMtch (h : Heap) (W : Addr → Prop) (a : Addr) (l : List Nat) (sp : List Int) : Prop where
  | mk (t : Tok) (pa : Addr) (pos lim li : Int) (ta : Addr) (n : Nat) (hta : ¬ W ta) (h1 : h.get? a = some { cls := .type "re.Match", data := .fields #[.str ⟨l.toArray⟩ t, .ref pa, .int pos 0, .int lim 0, .int li 0, .ref ta] })
    (h2 : h.get? ta = some { cls := .type "tuple", data := .seq (sp.map fun i => Value.int i 0).toArray n }) : IsMtch h W a l sp

/-- a cell: a tuple of two ints; f tells of each token its int -/
inductive CellA (h : Heap) (W : Addr → Prop) (f : Tok → Int) (p : Int × Int) : Value → Prop where
  | mk (b : Addr) (m : Nat) (t u : Tok) (hw : ¬ W b) (hg : h.get? b = some (tupO [.int p.1 t, .int p.2 u] m)) (ht : t ≠ 0) (hu : u ≠ 0) (h1 : f t = p.1) (h2 : f u = p.2) : CellA h W f p (.ref b)
/-- a list of cells -/
inductive CellL (h : Heap) (W : Addr → Prop) (f : Tok → Int) : List (Int × Int) → List Value → Prop where
  | nil : CellL h W f [] []
  | cons {p : Int × Int} {v : Value} {ps : List (Int × Int)} {r : List Value} : CellA h W f p v → CellL h W f ps r → CellL h W f (p :: ps) (v :: r)

mutual
noncomputable def Den (h : Heap) (W : Addr → Prop) : PV → Value → Prop
  | .none, v => v = .none
  | .bool b, v => v = .bool b
  | .int i, v => ∃ t, v = .int i t
  | .str l, v => ∃ t, v = .str ⟨l.toArray⟩ t
  | .bytes l, v => ∃ t, v = .bytes l.toArray t
  | .tup l, v => ∃ a vs n, v = .ref a ∧ ¬ W a ∧ h.get? a = some (tupO vs n) ∧ DenL h W l vs
  | .lst l, v => ∃ a vs n, v = .ref a ∧ ¬ W a ∧ h.get? a = some (listO vs n) ∧ DenL h W l vs
  | .mtch l sp, v => ∃ a, v = .ref a ∧ ¬ W a ∧ IsMtch h W a l sp
  | .cells l, v => ∃ a vs n f, v = .ref a ∧ ¬ W a ∧ h.get? a = some (listO vs n) ∧ CellL h W f l vs
noncomputable def DenL (h : Heap) (W : Addr → Prop) : List PV → List Value → Prop
  | [], vs => vs = []
  | p :: ps, vs => ∃ v r, vs = v :: r ∧ Den h W p v ∧ DenL h W ps r
end

/-- what stays: every object of h outside of W; and what is forbidden later was forbidden already, of the objects that stood -/
structure Keeps (W : Addr → Prop) (h : Heap) (W' : Addr → Prop) (h' : Heap) : Prop where
  get : ∀ b o, h.get? b = some o → ¬ W b → h'.get? b = some o
  wl : ∀ b o, h.get? b = some o → W' b → W b

theorem IsMtch.keeps {W W' : Addr → Prop} {h h' : Heap} {a : Addr} {l : List Nat} {sp : List Int} (k : Keeps W h W' h') (hw : ¬ W a) (x : IsMtch h W a l sp) : IsMtch h' W' a l sp := by
  obtain ⟨t, pa, pos, lim, li, ta, n, hta, h1, h2⟩ := x
  exact ⟨t, pa, pos, lim, li, ta, n, fun q => hta (k.wl _ _ h2 q), k.get _ _ h1 hw, k.get _ _ h2 hta⟩

theorem CellA.keeps {W W' : Addr → Prop} {h h' : Heap} {f : Tok → Int} (k : Keeps W h W' h') {p : Int × Int} {v : Value} : CellA h W f p v → CellA h' W' f p v
  | ⟨b, m, t, u, hw, hg, ht, hu, h1, h2⟩ => ⟨b, m, t, u, fun q => hw (k.wl _ _ hg q), k.get _ _ hg hw, ht, hu, h1, h2⟩
theorem CellL.keeps {W W' : Addr → Prop} {h h' : Heap} {f : Tok → Int} (k : Keeps W h W' h') {ps : List (Int × Int)} {vs : List Value} (x : CellL h W f ps vs) : CellL h' W' f ps vs := by
  induction x with
  | nil => exact .nil
  | cons a _ ih => exact .cons (a.keeps k) ih

mutual
theorem Den.keeps {W W' : Addr → Prop} {h h' : Heap} (k : Keeps W h W' h') : ∀ {p : PV} {v : Value}, Den h W p v → Den h' W' p v
  | .none, _, x => by unfold Den at x ⊢; exact x
  | .bool _, _, x => by unfold Den at x ⊢; exact x
  | .int _, _, x => by unfold Den at x ⊢; exact x
  | .str _, _, x => by unfold Den at x ⊢; exact x
  | .bytes _, _, x => by unfold Den at x ⊢; exact x
  | .tup l, v, x => by
    unfold Den at x ⊢
    obtain ⟨a, vs, n, e, hw, hg, hd⟩ := x
    exact ⟨a, vs, n, e, fun q => hw (k.wl _ _ hg q), k.get _ _ hg hw, DenL.keeps k hd⟩
  | .lst l, v, x => by
    unfold Den at x ⊢
    obtain ⟨a, vs, n, e, hw, hg, hd⟩ := x
    exact ⟨a, vs, n, e, fun q => hw (k.wl _ _ hg q), k.get _ _ hg hw, DenL.keeps k hd⟩
  | .mtch l sp, v, x => by
    unfold Den at x ⊢
    obtain ⟨a, e, hw, hm⟩ := x
    exact ⟨a, e, fun q => hm.rec (motive := fun _ => False) fun _ _ _ _ _ _ _ _ hg _ => hw (k.wl _ _ hg q), hm.keeps k hw⟩
  | .cells l, v, x => by
    unfold Den at x ⊢
    obtain ⟨a, vs, n, f, e, hw, hg, hd⟩ := x
    exact ⟨a, vs, n, f, e, fun q => hw (k.wl _ _ hg q), k.get _ _ hg hw, hd.keeps k⟩
theorem DenL.keeps {W W' : Addr → Prop} {h h' : Heap} (k : Keeps W h W' h') : ∀ {ps : List PV} {vs : List Value}, DenL h W ps vs → DenL h' W' ps vs
  | [], _, x => by unfold DenL at x ⊢; exact x
  | p :: ps, vs, x => by
    unfold DenL at x ⊢
    obtain ⟨v, r, e, hd, hl⟩ := x
    exact ⟨v, r, e, Den.keeps k hd, DenL.keeps k hl⟩
end

theorem DenL.length {W : Addr → Prop} {h : Heap} : ∀ {ps : List PV} {vs : List Value}, DenL h W ps vs → vs.length = ps.length
  | [], _, x => by unfold DenL at x; subst x; rfl
  | p :: ps, vs, x => by
    unfold DenL at x
    obtain ⟨v, r, rfl, _, hl⟩ := x
    simp [DenL.length hl]

theorem DenL.get {W : Addr → Prop} {h : Heap} : ∀ {ps : List PV} {vs : List Value} {i : Nat} {p : PV}, DenL h W ps vs → ps[i]? = some p → ∃ v, vs[i]? = some v ∧ Den h W p v
  | [], _, _, _, _, e => by simp at e
  | p :: ps, vs, 0, q, x, e => by
    unfold DenL at x
    obtain ⟨v, r, rfl, hd, _⟩ := x
    simp at e; subst e
    exact ⟨v, rfl, hd⟩
  | p :: ps, vs, i + 1, q, x, e => by
    unfold DenL at x
    obtain ⟨v, r, rfl, _, hl⟩ := x
    simpa using DenL.get hl (by simpa using e)

theorem DenL.append {W : Addr → Prop} {h : Heap} : ∀ {ps qs : List PV} {vs us : List Value}, DenL h W ps vs → DenL h W qs us → DenL h W (ps ++ qs) (vs ++ us)
  | [], _, _, _, x, y => by unfold DenL at x; subst x; exact y
  | p :: ps, qs, vs, us, x, y => by
    unfold DenL at x
    obtain ⟨v, r, rfl, hd, hl⟩ := x
    show DenL h W (p :: (ps ++ qs)) (v :: (r ++ us))
    unfold DenL
    exact ⟨v, _, rfl, hd, DenL.append hl y⟩
theorem DenL.drop {W : Addr → Prop} {h : Heap} : ∀ {ps : List PV} {vs : List Value} (k : Nat), DenL h W ps vs → DenL h W (ps.drop k) (vs.drop k)
  | _, _, 0, x => x
  | [], vs, k + 1, x => by unfold DenL at x; subst x; simp [DenL]
  | p :: ps, vs, k + 1, x => by
    unfold DenL at x
    obtain ⟨v, r, rfl, _, hl⟩ := x
    exact DenL.drop k hl
theorem DenL.take {W : Addr → Prop} {h : Heap} : ∀ {ps : List PV} {vs : List Value} (k : Nat), DenL h W ps vs → DenL h W (ps.take k) (vs.take k)
  | _, _, 0, x => by simp [DenL]
  | [], vs, k + 1, x => by unfold DenL at x; subst x; simp [DenL]
  | p :: ps, vs, k + 1, x => by
    unfold DenL at x
    obtain ⟨v, r, rfl, hd, hl⟩ := x
    show DenL h W (p :: ps.take k) (v :: r.take k)
    unfold DenL
    exact ⟨v, _, rfl, hd, DenL.take k hl⟩
theorem DenL.cons {W : Addr → Prop} {h : Heap} {p : PV} {v : Value} {ps : List PV} {vs : List Value} (x : Den h W p v) (y : DenL h W ps vs) : DenL h W (p :: ps) (v :: vs) := by
  unfold DenL; exact ⟨v, vs, rfl, x, y⟩
theorem DenL.nil {W : Addr → Prop} {h : Heap} : DenL h W [] [] := by unfold DenL; rfl
inductive OutAt (h : Heap) (W : Addr → Prop) (p : PV) (ps : List PV) (vs : List Value) : Prop where
  | mk (v : Value) (r : List Value) (e : vs = v :: r) (d : Den h W p v) (dl : DenL h W ps r) : OutAt h W p ps vs
theorem DenL.out {W : Addr → Prop} {h : Heap} {p : PV} {ps : List PV} {vs : List Value} (x : DenL h W (p :: ps) vs) : OutAt h W p ps vs := by
  unfold DenL at x
  obtain ⟨v, r, e, d, dl⟩ := x
  exact ⟨v, r, e, d, dl⟩
theorem DenL.out0 {W : Addr → Prop} {h : Heap} {vs : List Value} (x : DenL h W [] vs) : vs = [] := by
  unfold DenL at x; exact x
theorem DenL.replicate {W : Addr → Prop} {h : Heap} {ps : List PV} {vs : List Value} (x : DenL h W ps vs) : ∀ k : Nat, DenL h W (List.replicate k ps).flatten (List.replicate k vs).flatten
  | 0 => DenL.nil
  | k + 1 => by
    simp only [List.replicate_succ, List.flatten_cons]
    exact x.append (DenL.replicate x k)
theorem DenL.reverse {W : Addr → Prop} {h : Heap} : ∀ {ps : List PV} {vs : List Value}, DenL h W ps vs → DenL h W ps.reverse vs.reverse
  | [], _, x => by rw [x.out0]; exact DenL.nil
  | p :: ps, vs, x => by
    obtain ⟨v, r, rfl, hd, hl⟩ := x.out
    simp only [List.reverse_cons]
    exact (DenL.reverse hl).append (DenL.cons hd DenL.nil)
theorem DenL.set {W : Addr → Prop} {h : Heap} : ∀ {ps : List PV} {vs : List Value} {p : PV} {v : Value} (i : Nat), DenL h W ps vs → Den h W p v → DenL h W (ps.set i p) (vs.set i v)
  | [], _, _, _, _, x, _ => by rw [x.out0]; exact DenL.nil
  | q :: ps, vs, p, v, 0, x, y => by
    obtain ⟨u, r, rfl, hd, hl⟩ := x.out
    exact DenL.cons y hl
  | q :: ps, vs, p, v, i + 1, x, y => by
    obtain ⟨u, r, rfl, hd, hl⟩ := x.out
    exact DenL.cons hd (DenL.set i hl y)

theorem CellL.length {W : Addr → Prop} {h : Heap} {f : Tok → Int} {ps : List (Int × Int)} {vs : List Value} (x : CellL h W f ps vs) : vs.length = ps.length := by
  induction x with
  | nil => rfl
  | cons _ _ ih => simp [ih]
theorem CellL.get {W : Addr → Prop} {h : Heap} {f : Tok → Int} {ps : List (Int × Int)} {vs : List Value} (x : CellL h W f ps vs) : ∀ {i : Nat} {p : Int × Int}, ps[i]? = some p → ∃ v, vs[i]? = some v ∧ CellA h W f p v := by
  induction x with
  | nil => intro i p e; cases e
  | cons a _ ih =>
    intro i p e
    cases i with
    | zero => cases e; exact ⟨_, rfl, a⟩
    | succ i => exact ih e

end Mine
end

section
open PySem PySem.W PyProof.Rows
set_option Elab.async false
namespace Mine

inductive BOp where
  | add | sub | mul | fdiv | mod | pow | shl | shr | bor
inductive COp where
  | eq | ne | lt | gt | isa | isnt | inn
inductive BI where
  | len | int | str | chr | abs | bytes | isBytes
inductive Me where
  | lower | upper | starts | ends | join | span | group
inductive SK where
  | direct | range | enum | rev
set_option genCtorIdx false
inductive Tg where
  | one (i : Nat)
  | two (i j : Nat)

/-- expressions -/
inductive PE where
  | var (i : Nat)
  | const (c : PV)
  | bin (op : BOp) (l r : PE)
  | cmp (op : COp) (l r : PE)
  | not (e : PE)
  | and (l r : PE)
  | or (l r : PE)
  | ite (t a b : PE)
  | tup (es : List PE)
  | lst (es : List PE)
  | idx (e i : PE)
  | slice (e : PE) (lo hi : Option PE)
  | call (f : Nat) (es : List PE)
  | bi (b : BI) (es : List PE)
  | bytesOwn (i : Nat)
  | meth (m : Me) (o : PE) (es : List PE)
  | search (k : Bool) (e : PE)
  | text (e : PE)
  | repl (o : PE) (a b : Nat)
  | countS (e : PE) (c : Nat)
  | countC (i : Nat) (e : PE)
  | cellsOf (j : Nat)
  | comp (elt : PE) (tg : Tg) (k : SK) (args : List PE) (caps : List Nat)

inductive PS where
  | set (i : Nat) (e : PE)
  | setOwn (i : Nat) (es : List PE)
  | setOwnB (i : Nat) (e : PE)
  | set2 (i j : Nat) (e : PE)
  | aug (i : Nat) (op : BOp) (e : PE)
  | augIdx (i : Nat) (ix e : PE)
  | setIdxB (i : Nat) (ix e : PE)
  | app (i : Nat) (e : PE)
  | ite (t : PE) (a b : List PS)
  | loop (tg : Tg) (k : SK) (args : List PE) (body : List PS)
  | ret (e : PE)
  | freeze (i : Nat)

set_option genCtorIdx true
inductive AV where
  | im (v : PV)
  | own (l : List PV)
  | ownb (l : List UInt8)
noncomputable abbrev Sg := List (Option AV)

noncomputable def small (i : Int) : Bool := decide (-(2 ^ 62) < i) && decide (i < 2 ^ 62)
noncomputable def fits (n : Nat) : Bool := Nat.ble n 100000

/-! what a value must be, for the rest to go on -/
noncomputable def oInt {α : Type} (v : PV) (f : Int → Option α) : Option α := match v with | .int i => f i | _ => none
noncomputable def oStr {α : Type} (v : PV) (f : List Nat → Option α) : Option α := match v with | .str i => f i | _ => none
noncomputable def oLst {α : Type} (v : PV) (f : List PV → Option α) : Option α := match v with | .lst i => f i | _ => none
noncomputable def oByt {α : Type} (v : PV) (f : List UInt8 → Option α) : Option α := match v with | .bytes i => f i | _ => none
noncomputable def oBool {α : Type} (v : PV) (f : Bool → Option α) : Option α := match v with | .bool i => f i | _ => none
noncomputable def oTup {α : Type} (v : PV) (f : List PV → Option α) : Option α := match v with | .tup i => f i | _ => none
noncomputable def oCel {α : Type} (v : PV) (f : List (Int × Int) → Option α) : Option α := match v with | .cells i => f i | _ => none
noncomputable def oMt {α : Type} (v : PV) (f : List Nat → List Int → Option α) : Option α := match v with | .mtch l sp => f l sp | _ => none
noncomputable def o0 {α : Type} (vs : List PV) (x : Option α) : Option α := match vs with | [] => x | _ => none
noncomputable def o1 {α : Type} (vs : List PV) (f : PV → Option α) : Option α := match vs with | [v] => f v | _ => none
noncomputable def o2 {α : Type} (vs : List PV) (f : PV → PV → Option α) : Option α := match vs with | [v, w] => f v w | _ => none
noncomputable def o3 {α : Type} (vs : List PV) (f : PV → PV → PV → Option α) : Option α := match vs with | [u, v, w] => f u v w | _ => none
noncomputable def oIm {α : Type} (σ : Sg) (i : Nat) (f : PV → Option α) : Option α := match σ[i]? with | some (some (.im v)) => f v | _ => none
noncomputable def oOwn {α : Type} (σ : Sg) (i : Nat) (f : List PV → Option α) : Option α := match σ[i]? with | some (some (.own v)) => f v | _ => none
noncomputable def oOwnb {α : Type} (σ : Sg) (i : Nat) (f : List UInt8 → Option α) : Option α := match σ[i]? with | some (some (.ownb v)) => f v | _ => none

section
variable {α β : Type} {P : Prop} {p : α}
theorem no1 (h : (none : Option α) = some p) : P := nomatch h
theorem no2 {X : Prop} (h : (none : Option α) = some p) (_ : X) : P := nomatch h
theorem oInt_out {v : PV} {f : Int → Option α} (h : oInt v f = some p) (k : ∀ i, v = .int i → f i = some p → P) : P :=
  PV.casesOn (motive_1 := fun v => oInt v f = some p → (∀ i, v = .int i → f i = some p → P) → P) v no2 (fun _ => no2) (fun x0 h k => k x0 rfl h) (fun _ => no2) (fun _ => no2) (fun _ => no2) (fun _ => no2) (fun _ _ => no2) (fun _ => no2) h k
theorem oStr_out {v : PV} {f : List Nat → Option α} (h : oStr v f = some p) (k : ∀ i, v = .str i → f i = some p → P) : P :=
  PV.casesOn (motive_1 := fun v => oStr v f = some p → (∀ i, v = .str i → f i = some p → P) → P) v no2 (fun _ => no2) (fun _ => no2) (fun x0 h k => k x0 rfl h) (fun _ => no2) (fun _ => no2) (fun _ => no2) (fun _ _ => no2) (fun _ => no2) h k
theorem oLst_out {v : PV} {f : List PV → Option α} (h : oLst v f = some p) (k : ∀ i, v = .lst i → f i = some p → P) : P :=
  PV.casesOn (motive_1 := fun v => oLst v f = some p → (∀ i, v = .lst i → f i = some p → P) → P) v no2 (fun _ => no2) (fun _ => no2) (fun _ => no2) (fun _ => no2) (fun _ => no2) (fun x0 h k => k x0 rfl h) (fun _ _ => no2) (fun _ => no2) h k
theorem oByt_out {v : PV} {f : List UInt8 → Option α} (h : oByt v f = some p) (k : ∀ i, v = .bytes i → f i = some p → P) : P :=
  PV.casesOn (motive_1 := fun v => oByt v f = some p → (∀ i, v = .bytes i → f i = some p → P) → P) v no2 (fun _ => no2) (fun _ => no2) (fun _ => no2) (fun x0 h k => k x0 rfl h) (fun _ => no2) (fun _ => no2) (fun _ _ => no2) (fun _ => no2) h k
theorem oBool_out {v : PV} {f : Bool → Option α} (h : oBool v f = some p) (k : ∀ i, v = .bool i → f i = some p → P) : P :=
  PV.casesOn (motive_1 := fun v => oBool v f = some p → (∀ i, v = .bool i → f i = some p → P) → P) v no2 (fun x0 h k => k x0 rfl h) (fun _ => no2) (fun _ => no2) (fun _ => no2) (fun _ => no2) (fun _ => no2) (fun _ _ => no2) (fun _ => no2) h k
theorem oTup_out {v : PV} {f : List PV → Option α} (h : oTup v f = some p) (k : ∀ i, v = .tup i → f i = some p → P) : P :=
  PV.casesOn (motive_1 := fun v => oTup v f = some p → (∀ i, v = .tup i → f i = some p → P) → P) v no2 (fun _ => no2) (fun _ => no2) (fun _ => no2) (fun _ => no2) (fun x0 h k => k x0 rfl h) (fun _ => no2) (fun _ _ => no2) (fun _ => no2) h k
theorem oCel_out {v : PV} {f : List (Int × Int) → Option α} (h : oCel v f = some p) (k : ∀ i, v = .cells i → f i = some p → P) : P :=
  PV.casesOn (motive_1 := fun v => oCel v f = some p → (∀ i, v = .cells i → f i = some p → P) → P) v no2 (fun _ => no2) (fun _ => no2) (fun _ => no2) (fun _ => no2) (fun _ => no2) (fun _ => no2) (fun _ _ => no2) (fun x0 h k => k x0 rfl h) h k
theorem oMt_out {v : PV} {f : List Nat → List Int → Option α} (h : oMt v f = some p) (k : ∀ l sp, v = .mtch l sp → f l sp = some p → P) : P :=
  PV.casesOn (motive_1 := fun v => oMt v f = some p → (∀ l sp, v = .mtch l sp → f l sp = some p → P) → P) v no2 (fun _ => no2) (fun _ => no2) (fun _ => no2) (fun _ => no2) (fun _ => no2) (fun _ => no2) (fun x0 x1 h k => k x0 x1 rfl h) (fun _ => no2) h k
theorem o0_out {vs : List PV} {x : Option α} (h : o0 vs x = some p) (k : vs = [] → x = some p → P) : P := by
  cases vs <;> first | exact k rfl h | cases h
theorem o1_out {vs : List PV} {f : PV → Option α} (h : o1 vs f = some p) (k : ∀ v, vs = [v] → f v = some p → P) : P :=
  match vs, h with | [_], h => k _ rfl h
theorem o2_out {vs : List PV} {f : PV → PV → Option α} (h : o2 vs f = some p) (k : ∀ v w, vs = [v, w] → f v w = some p → P) : P :=
  match vs, h with | [_, _], h => k _ _ rfl h
theorem o3_out {vs : List PV} {f : PV → PV → PV → Option α} (h : o3 vs f = some p) (k : ∀ u v w, vs = [u, v, w] → f u v w = some p → P) : P :=
  match vs, h with | [_, _, _], h => k _ _ _ rfl h
theorem av_cases {x : Option (Option AV)} (n : x = none ∨ x = some none → P) (a : ∀ v, x = some (some (.im v)) → P) (b : ∀ v, x = some (some (.own v)) → P) (c : ∀ v, x = some (some (.ownb v)) → P) : P :=
  match x with | none => n (.inl rfl) | some none => n (.inr rfl) | some (some (.im _)) => a _ rfl | some (some (.own _)) => b _ rfl | some (some (.ownb _)) => c _ rfl
theorem oIm_out {σ : Sg} {i : Nat} {f : PV → Option α} (h : oIm σ i f = some p) (k : ∀ v, σ[i]? = some (some (.im v)) → f v = some p → P) : P := by
  unfold oIm at h
  refine av_cases (x := σ[i]?) (fun e => ?_) (fun v e => k v e ?_) (fun v e => ?_) fun v e => ?_
  · rcases e with e | e <;> (rw [e] at h; cases h)
  all_goals (rw [e] at h; first | exact h | cases h)
theorem oOwn_out {σ : Sg} {i : Nat} {f : List PV → Option α} (h : oOwn σ i f = some p) (k : ∀ v, σ[i]? = some (some (.own v)) → f v = some p → P) : P := by
  unfold oOwn at h
  refine av_cases (x := σ[i]?) (fun e => ?_) (fun v e => ?_) (fun v e => k v e ?_) fun v e => ?_
  · rcases e with e | e <;> (rw [e] at h; cases h)
  all_goals (rw [e] at h; first | exact h | cases h)
theorem oOwnb_out {σ : Sg} {i : Nat} {f : List UInt8 → Option α} (h : oOwnb σ i f = some p) (k : ∀ v, σ[i]? = some (some (.ownb v)) → f v = some p → P) : P := by
  unfold oOwnb at h
  refine av_cases (x := σ[i]?) (fun e => ?_) (fun v e => ?_) (fun v e => ?_) fun v e => k v e ?_
  · rcases e with e | e <;> (rw [e] at h; cases h)
  all_goals (rw [e] at h; first | exact h | cases h)
theorem oIm_in {σ : Sg} {i : Nat} {f : PV → Option α} {v : PV} (e : σ[i]? = some (some (.im v))) : oIm σ i f = f v := by unfold oIm; rw [e]
theorem oOwn_in {σ : Sg} {i : Nat} {f : List PV → Option α} {v : List PV} (e : σ[i]? = some (some (.own v))) : oOwn σ i f = f v := by unfold oOwn; rw [e]
theorem oOwnb_in {σ : Sg} {i : Nat} {f : List UInt8 → Option α} {v : List UInt8} (e : σ[i]? = some (some (.ownb v))) : oOwnb σ i f = f v := by unfold oOwnb; rw [e]
/-- a guarded value -/
theorem if_out {b : Bool} {x : Option α} (h : (if b = true then x else none) = some p) (k : b = true → x = some p → P) : P := by
  cases b with
  | true => exact k rfl h
  | false => cases h
theorem so_out {x : α} (h : some x = some p) (k : x = p → P) : P := k (Option.some.inj h)
theorem bd_out {o : Option β} {f : β → Option α} (h : o.bind f = some p) (k : ∀ a, o = some a → f a = some p → P) : P := by
  cases o with
  | none => cases h
  | some a => exact k a rfl h
theorem mp_out {o : Option β} {f : β → α} (h : o.map f = some p) (k : ∀ a, o = some a → f a = p → P) : P := by
  cases o with
  | none => cases h
  | some a => exact k a rfl (Option.some.inj h)
theorem bd_in {o : Option β} {f : β → Option α} {a : β} (h : o = some a) (k : f a = some p) : o.bind f = some p := by subst h; exact k
theorem mp_in {o : Option β} {f : β → α} {a : β} (h : o = some a) (k : f a = p) : o.map f = some p := by subst h; subst k; rfl
theorem if_in {b : Bool} {x : Option α} (h : b = true) (k : x = some p) : (if b = true then x else none) = some p := by subst h; exact k
end

noncomputable def addPV (a b : PV) : Option PV := match a with
  | .int i => oInt b fun j => some (.int (i + j))
  | .str x => oStr b fun y => if fits (x.length + y.length) then some (.str (x ++ y)) else none
  | .lst x => oLst b fun y => if fits (x.length + y.length) then some (.lst (x ++ y)) else none
  | .bytes x => oByt b fun y => if fits (x.length + y.length) then some (.bytes (x ++ y)) else none
  | _ => none
noncomputable def mulPV (a b : PV) : Option PV := match a with
  | .int i => oInt b fun j => if small i && small j then some (.int (i * j)) else none
  | .lst l => oInt b fun k => if decide (0 ≤ k) && decide (k ≤ 1000) && fits (l.length * k.toNat) then some (.lst (List.replicate k.toNat l).flatten) else none
  | _ => none
noncomputable def binPV (op : BOp) (a b : PV) : Option PV := match op with
  | .add => addPV a b
  | .sub => oInt a fun i => oInt b fun j => some (.int (i - j))
  | .mul => mulPV a b
  | .fdiv => oInt a fun i => oInt b fun j => if decide (0 < j) && decide (j < 1000) then some (.int (i / j)) else none
  | .mod => oInt a fun i => oInt b fun j => if decide (0 < j) then some (.int (i % j)) else none
  | .pow => oInt a fun i => oInt b fun j => if decide (0 ≤ i) && decide (i ≤ 64) && decide (0 ≤ j) && decide (j ≤ 16) then some (.int (i ^ j.toNat)) else none
  | .shl => oInt a fun i => oInt b fun j => if decide (0 ≤ i) && decide (i ≤ 1000) && decide (0 ≤ j) && decide (j ≤ 16) then some (.int (i * 2 ^ j.toNat)) else none
  | .shr => oInt a fun i => oInt b fun j => if small i && decide (0 ≤ j) && decide (j ≤ 60) then some (.int (i / 2 ^ j.toNat)) else none
  | .bor => oInt a fun i => oInt b fun j => if decide (0 ≤ i) && decide (0 ≤ j) && small i && small j then some (.int (i.toNat ||| j.toNat : Nat)) else none

mutual
noncomputable def toD : PV → Option PyData
  | .int i => some (.int i)
  | .str l => some (.str ⟨l.toArray⟩)
  | .bool b => some (.bool b)
  | .tup l => (toDL l).map .tuple
  | .lst l => (toDL l).map .list
  | _ => none
noncomputable def toDL : List PV → Option (List PyData)
  | [] => some []
  | p :: ps => (toD p).bind fun x => (toDL ps).map (x :: ·)
end
noncomputable def eqD (a b : PV) : Option Bool := (toD a).bind fun x => (toD b).bind fun y => if PySem.SeqAt.shaped x && PySem.SeqAt.shaped y then some (PyData.eqv x y) else none
/-- == of two values -/
noncomputable def eqPV (a b : PV) : Option Bool := match a with
  | .str x => oStr b fun y => some (x == y)
  | .int x => oInt b fun y => some (x == y)
  | .bool x => oBool b fun y => some (x == y)
  | a => eqD a b

noncomputable def intsOf : List PV → Option (List Int)
  | [] => some []
  | .int i :: r => (intsOf r).map (i :: ·)
  | _ :: _ => none
noncomputable def strsOf : List PV → Option (List (List Nat))
  | [] => some []
  | .str i :: r => (strsOf r).map (i :: ·)
  | _ :: _ => none

noncomputable def noPV (b : PV) : Option Bool := match b with | .none => some true | .mtch _ _ => some false | _ => none
noncomputable def isPV (a b : PV) : Option Bool := match a with
  | .none => noPV b
  | .mtch _ _ => match b with | .none => some false | _ => none
  | .bool x => oBool b fun y => some (x == y)
  | _ => none

noncomputable def cmpPV (op : COp) (a b : PV) : Option Bool := match op with
  | .eq => eqPV a b
  | .ne => (eqPV a b).map (!·)
  | .lt => oInt a fun i => oInt b fun j => some (decide (i < j))
  | .gt => oInt a fun i => oInt b fun j => some (decide (j < i))
  | .isa => isPV a b
  | .isnt => (isPV a b).map (!·)
  | .inn => oInt a fun i => oLst b fun l => (intsOf l).map fun x => x.any (· == i)

noncomputable def truthPV : PV → Option Bool
  | .bool b => some b
  | .none => some false
  | .mtch .. => some true
  | _ => none

noncomputable def idxPV (a b : PV) : Option PV := oInt b fun k => match a with
  | .lst l => if fits l.length then if decide (0 ≤ k) && decide (k < l.length) then l[k.toNat]? else if decide (k < 0) && decide (-(l.length : Int) ≤ k) then l[(k + l.length).toNat]? else none else none
  | .tup l => if decide (0 ≤ k) && decide (k < l.length) && fits l.length then l[k.toNat]? else none
  | .bytes l => if decide (0 ≤ k) && decide (k < l.length) && fits l.length then (l[k.toNat]?).map fun c => .int c.toNat else none
  | .cells l => if decide (0 ≤ k) && decide (k < l.length) && fits l.length then (l[k.toNat]?).map fun c => .tup [.int c.1, .int c.2] else none
  | _ => none

noncomputable def cut {α : Type} (l : List α) (a b : Nat) : List α := (l.take b).drop a
/-- one bound alone, within the text -/
noncomputable def sliceLo (v : PV) (k : Int) : Option PV := match v with
  | .str l => if decide (0 ≤ k) && decide (k ≤ l.length) && fits l.length then some (.str (l.drop k.toNat)) else none
  | .lst l => if decide (0 ≤ k) && fits l.length then some (.lst (l.drop k.toNat)) else none
  | _ => none
noncomputable def sliceHi (v : PV) (k : Int) : Option PV := match v with
  | .str l => if decide (0 ≤ k) && decide (k ≤ l.length) && fits l.length then some (.str (l.take k.toNat)) else none
  | .lst l => if decide (0 ≤ k) && fits l.length then some (.lst (l.take k.toNat)) else none
  | _ => none
noncomputable def slicePV (v : PV) (lo hi : Option PV) : Option PV := match lo, hi with
  | some a, none => oInt a (sliceLo v)
  | none, some b => oInt b (sliceHi v)
  | _, _ => none

noncomputable def ascii (l : List Nat) : Bool := l.all fun c => Nat.blt c 128
noncomputable def bytesOf : List Int → Option (List UInt8)
  | [] => some []
  | i :: r => if decide (0 ≤ i) && decide (i < 256) then (bytesOf r).map (UInt8.ofNat i.toNat :: ·) else none

noncomputable def lenPV (v : PV) : Option PV := match v with
  | .lst l => if fits l.length then some (.int l.length) else none
  | .cells l => if fits l.length then some (.int l.length) else none
  | .bytes l => if fits l.length then some (.int l.length) else none
  | _ => none
noncomputable def digPV (l : List Nat) : Option PV := match l with
  | [c] => if Nat.ble 48 c && Nat.ble c 57 then some (.int ((c : Int) - 48)) else none
  | _ => none
noncomputable def intPV (v : PV) : Option PV := match v with
  | .bool b => some (.int (if b then 1 else 0))
  | .str l => digPV l
  | _ => none
noncomputable def biPV (b : BI) (vs : List PV) : Option PV := match b with
  | .len => o1 vs lenPV
  | .int => o1 vs intPV
  | .str => o1 vs fun v => oInt v fun i => if decide (0 ≤ i) && decide (i < 10) then some (.str [i.toNat + 48]) else none
  | .chr => o1 vs fun v => oInt v fun i => if decide (0 ≤ i) && decide (i < 128) then some (.str [i.toNat]) else none
  | .abs => o1 vs fun v => oInt v fun i => some (.int i.natAbs)
  | .bytes => o1 vs fun v => oLst v fun l => (intsOf l).bind fun x => if fits x.length then (bytesOf x).map .bytes else none
  | .isBytes => o1 vs fun v => oByt v fun _ => some (.bool true)

noncomputable abbrev S (l : List Nat) : PySem.Str := ⟨l.toArray⟩
noncomputable def spanPV (sp : List Int) : Option PV := match sp with | a :: b :: _ => some (.tup [.int a, .int b]) | _ => none
noncomputable def groupPV (l : List Nat) (sp : List Int) (k : Int) : Option PV :=
  if decide (0 ≤ k) && decide (2 * k.toNat < sp.length) && fits l.length then sp[2 * k.toNat]?.bind fun a => sp[2 * k.toNat + 1]?.bind fun b =>
      if decide (0 ≤ a) && decide (a ≤ b) && decide (b ≤ l.length) then some (.str (cut l a.toNat b.toNat)) else none
    else none
noncomputable def mePV (m : Me) (v : PV) (as : List PV) : Option PV := match m with
  | .lower => oStr v fun l => o0 as (if ascii l && fits l.length then some (.str (l.map lo1)) else none)
  | .upper => oStr v fun l => o0 as (if ascii l && fits l.length then some (.str (l.map up1)) else none)
  | .starts => oStr v fun l => o1 as fun w => oStr w fun m => some (.bool (PySem.Txt.startswith (S l) (S m)))
  | .ends => oStr v fun l => o1 as fun w => oStr w fun m => some (.bool (PySem.Txt.endswith (S l) (S m)))
  | .join => oStr v fun s => o1 as fun w => oLst w fun l => (strsOf l).bind fun x => if JoinOk (S s) (x.map S) then some (.str (PySem.Txt.join (S s) (x.map S)).cps.toList) else none
  | .span => oMt v fun _ sp => o1 as fun w => oInt w fun k => if k = 0 then spanPV sp else none
  | .group => oMt v fun l sp => o1 as fun w => oInt w fun k => groupPV l sp k

noncomputable def headerCode : List Nat := [14, 8, 1, 2, 2, 1, 1, 92, 0, 16, 92, 17, 0, 2, 17, 1, 1]
noncomputable def ipv4Code : List Nat := [14, 8, 1, 2, 4294967295, 1, 1, 46, 0, 16, 46, 24, 9, 1, 4294967295, 13, 4, 8, 0, 0, 1, 6, 5, 1]

/-- the machine's run to its end, at most n times four steps -/
noncomputable def sreRun : Nat → Sre.M → Option Sre.M
  | 0, _ => none
  | n + 1, m => let m := m.runFor Builtin.Re.reTurnSteps; if m.outcome.isSome then some m else sreRun n m

noncomputable def sreSpans (groups : Nat) (m : Sre.M) : List Int := (m.start : Int) :: (m.handed : Int) :: ((List.range groups).flatMap fun g =>
    match if ((2 * g + 1 : Nat) : Int) ≤ m.lastmark then (m.marks.getD (2 * g) none, m.marks.getD (2 * g + 1) none) else (none, none) with
    | (some b, some e) => [(b : Int), (e : Int)]
    | _ => [-1, -1])

/-- what pattern.search(text) gives: k = true: HEADER_ESCAPE_RE, false: IPV4_RE -/
noncomputable def searchPV (k : Bool) (l : List Nat) : Option PV :=
  if fits l.length then
    match sreRun 400 (Sre.forSearch (if k then headerCode else ipv4Code).toArray l.toArray (if k then 1 else 0) 0 l.length false) with
    | some m => match m.outcome with
      | some .matched => if (List.range (if k then 1 else 0)).any (fun g => match m.marks.getD (2 * g) none, m.marks.getD (2 * g + 1) none with | some b, some e => decide (((2 * g + 1 : Nat) : Int) ≤ m.lastmark) && decide (e < b) | _, _ => false)
          then none else some (.mtch l (sreSpans (if k then 1 else 0) m))
      | some .failed => some .none
      | _ => none
    | none => none
  else none

noncomputable def rangeL (a : Int) (step : Int) : Nat → List PV
  | 0 => []
  | n + 1 => .int a :: rangeL (a + step) step n
noncomputable def enumL : Nat → List PV → List PV
  | _, [] => []
  | i, x :: r => .tup [.int i, x] :: enumL (i + 1) r

noncomputable def dirPV (v : PV) : Option (List PV) := match v with
  | .lst l => if fits l.length then some l else none
  | .tup l => if fits l.length then some l else none
  | _ => none
noncomputable def numPV (v : PV) : Option (List PV) := match v with
  | .lst l => if fits l.length then some (enumL 0 l) else none
  | .bytes l => if fits l.length then some (enumL 0 (l.map fun c => .int c.toNat)) else none
  | _ => none
noncomputable def rng1PV (v : PV) : Option (List PV) := oInt v fun n => if decide (n ≤ 100000) && decide (-100000 ≤ n) then some (rangeL 0 1 n.toNat) else none
noncomputable def rng3PV (u v w : PV) : Option (List PV) := oInt u fun a => oInt v fun b => oInt w fun c => if decide (0 ≤ a) && decide (a ≤ b) && decide (b ≤ 100000) && decide (0 < c) && decide (c ≤ 100000) then some (rangeL a c ((b - a + c - 1) / c).toNat) else none
noncomputable def rngPV (vs : List PV) : Option (List PV) := match vs with
  | [v] => rng1PV v
  | [u, v, w] => rng3PV u v w
  | _ => none
noncomputable def revPV (v : PV) : Option (List PV) := oLst v fun l => if fits l.length then some l.reverse else none
noncomputable def srcPV (k : SK) (vs : List PV) : Option (List PV) := match k with
  | .direct => o1 vs dirPV
  | .range => rngPV vs
  | .enum => o1 vs numPV
  | .rev => o1 vs revPV

/-- the pairs of a row's octets -/
noncomputable def pairsOf : List UInt8 → List (Int × Int)
  | a :: b :: r => ((a.toNat : Int), (b.toNat : Int)) :: pairsOf r
  | _ => []
noncomputable def countN (c : Nat) (l : List Nat) : Int := (l.filter fun x => x == c).length
noncomputable def countP (c : Int × Int) (l : List (Int × Int)) : Int := (l.filter fun x => decide (x = c)).length

noncomputable def evL (f : PE → Option PV) : List PE → Option (List PV)
  | [] => some []
  | e :: r => (f e).bind fun v => (evL f r).map (v :: ·)

noncomputable def bindTg (tg : Tg) (v : PV) (σ : Sg) : Option Sg := match tg with
  | .one i => some (σ.set i (some (.im v)))
  | .two i j => oTup v fun l => o2 l fun a b => some ((σ.set i (some (.im a))).set j (some (.im b)))

noncomputable def capsOf (σ : Sg) : List Nat → Sg
  | [] => []
  | i :: r => (match σ[i]? with | some (some (.im v)) => some (AV.im v) | _ => none) :: capsOf σ r

/-- the comprehension's own names: the target's (one or two), then the captured ones -/
noncomputable def compSg (tg : Tg) (caps : Sg) : Sg := match tg with
  | .one _ => none :: caps
  | .two _ _ => none :: none :: caps

noncomputable def evC (f : Sg → Option PV) (tg : Tg) (σ : Sg) : List PV → Option (List PV)
  | [] => some []
  | v :: r => (bindTg tg v σ).bind fun σ' => (f σ').bind fun x => (evC f tg σ r).map (x :: ·)

noncomputable def optE (f : PE → Option PV) : Option PE → Option (Option PV)
  | none => some none
  | some e => (f e).map some

noncomputable def ev (G : Nat → List PV → Option PV) : Nat → Bool → Sg → PE → Option PV
  | 0, _, _, _ => none
  | n + 1, false, σ, e => match e with
    | .var i => oIm σ i some
    | .const c => some c
    | .bin op l r => (ev G n false σ l).bind fun a => (ev G n false σ r).bind fun b => binPV op a b
    | .cmp op l r => (ev G n false σ l).bind fun a => (ev G n false σ r).bind fun b => (cmpPV op a b).map .bool
    | .and l r => (ev G n false σ l).bind fun a => oBool a fun x => if x = true then ev G n false σ r else some (.bool false)
    | .ite t a b => (ev G n true σ t).bind fun y => oBool y fun x => if x = true then ev G n false σ a else ev G n false σ b
    | .tup es => if fits es.length then (evL (ev G n false σ) es).map .tup else none
    | .lst es => if fits es.length then (evL (ev G n false σ) es).map .lst else none
    | .idx e i => (ev G n false σ e).bind fun a => (ev G n false σ i).bind fun b => idxPV a b
    | .slice e lo hi => (ev G n false σ e).bind fun a => (optE (ev G n false σ) lo).bind fun x => (optE (ev G n false σ) hi).bind fun y => slicePV a x y
    | .call f es => (evL (ev G n false σ) es).bind fun vs => G f vs
    | .bi b es => (evL (ev G n false σ) es).bind fun vs => biPV b vs
    | .bytesOwn i => oOwnb σ i fun l => if fits l.length then some (.bytes l) else none
    | .meth m o es => (ev G n false σ o).bind fun a => (evL (ev G n false σ) es).bind fun vs => mePV m a vs
    | .search k e => (ev G n false σ e).bind fun a => oStr a fun l => searchPV k l
    | .text e => (ev G n false σ e).bind fun a => oMt a fun l _ => some (.str l)
    | .repl o a b => (ev G n false σ o).bind fun v => oStr v fun l => if fits l.length && !(a == b) then some (.str (PySem.Txt.replace (S l) (S [a]) (S [b])).cps.toList) else none
    | .countS e c => (ev G n false σ e).bind fun v => oStr v fun l => if ascii l && fits l.length && Nat.blt c 128 then some (.int (countN c l)) else none
    | .countC i e => oIm σ i fun v => oCel v fun l => if fits l.length then (ev G n false σ e).bind fun w => oInt w fun k => if decide (0 ≤ k) && decide (k < l.length) then l[k.toNat]?.bind fun p => some (.int (countP p l)) else none else none
    | .cellsOf j => oIm σ j fun v => oByt v fun l => if fits l.length && l.length % 2 == 0 then some (.cells (pairsOf l)) else none
    | .comp elt tg k args caps => (evL (ev G n false σ) args).bind fun vs => (srcPV k vs).bind fun items => (evC (fun σ' => ev G n false σ' elt) tg (compSg tg (capsOf σ caps)) items).map .lst
    | _ => none
  | n + 1, true, σ, e => match e with
    | .not t => (ev G n true σ t).bind fun a => oBool a fun b => some (.bool (!b))
    | .and l r => (ev G n true σ l).bind fun a => oBool a fun x => if x = true then ev G n true σ r else some (.bool false)
    | .or l r => (ev G n true σ l).bind fun a => oBool a fun x => if x = true then some (.bool true) else ev G n true σ r
    | .cmp op l r => (ev G n false σ l).bind fun a => (ev G n false σ r).bind fun b => (cmpPV op a b).map .bool
    | e => (ev G n false σ e).bind fun v => (truthPV v).map .bool

/-- a run that came to a value had a step left -/
theorem ev_step {G : Nat → List PV → Option PV} {n : Nat} {b : Bool} {σ : Sg} {e : PE} {v : PV} {P : Prop} (h : ev G n b σ e = some v) (k : ∀ m, ev G (m + 1) b σ e = some v → P) : P := by
  cases n with
  | zero => cases h
  | succ m => exact k m h

set_option genCtorIdx false in
inductive Res where
  | next (σ : Sg)
  | ret (v : PV)

/-- one more step, unless the def was left -/
noncomputable def Res.on (x : Res) (f : Sg → Option Res) : Option Res := match x with
  | .next σ => f σ
  | .ret v => some (.ret v)

noncomputable def loopR (f : Sg → Option Res) (tg : Tg) : List PV → Sg → Option Res
  | [], σ => some (.next σ)
  | v :: r, σ => (bindTg tg v σ).bind fun σ' => (f σ').bind fun x => x.on (loopR f tg r)

noncomputable def exL (f : PS → Sg → Option Res) : List PS → Sg → Option Res
  | [], σ => some (.next σ)
  | s :: r, σ => (f s σ).bind fun x => x.on (exL f r)

noncomputable def ex (G : Nat → List PV → Option PV) : Nat → PS → Sg → Option Res
  | 0, _, _ => none
  | n + 1, st, σ => match st with
    | .set i e => (ev G n false σ e).map fun v => .next (σ.set i (some (.im v)))
    | .setOwn i es => if fits es.length then (evL (ev G n false σ) es).map fun vs => .next (σ.set i (some (.own vs))) else none
    | .setOwnB i e => (ev G n false σ e).bind fun v => oInt v fun k => if decide (0 ≤ k) && decide (k ≤ 100000) then some (.next (σ.set i (some (.ownb (List.replicate k.toNat 0))))) else none
    | .set2 i j e => (ev G n false σ e).bind fun v => oTup v fun l => o2 l fun a b => some (.next ((σ.set i (some (.im a))).set j (some (.im b))))
    | .aug _ _ _ => none
    | .augIdx i ix e => oOwn σ i fun l => (ev G n false σ ix).bind fun v => oInt v fun k => if decide (0 ≤ k) && decide (k < l.length) && fits l.length then l[k.toNat]?.bind fun x => oInt x fun a => (ev G n false σ e).bind fun y => oInt y fun b =>
        some (.next (σ.set i (some (.own (l.set k.toNat (.int (a + b))))))) else none
    | .setIdxB i ix e => oOwnb σ i fun l => (ev G n false σ ix).bind fun v => oInt v fun k => if decide (0 ≤ k) && decide (k < l.length) && fits l.length then (ev G n false σ e).bind fun y => oInt y fun c =>
        if decide (0 ≤ c) && decide (c < 256) then some (.next (σ.set i (some (.ownb (l.set k.toNat (UInt8.ofNat c.toNat)))))) else none else none
    | .app i e => oOwn σ i fun l => (ev G n false σ e).bind fun v => if fits l.length then some (.next (σ.set i (some (.own (l ++ [v]))))) else none
    | .ite t a b => (ev G n true σ t).bind fun y => oBool y fun x => if x = true then exL (ex G n) a σ else exL (ex G n) b σ
    | .loop tg k args body => (evL (ev G n false σ) args).bind fun vs => (srcPV k vs).bind fun items => loopR (exL (ex G n) body) tg items σ
    | .ret e => (ev G n false σ e).map .ret
    | .freeze i => oOwn σ i fun l => some (.next (σ.set i (some (.im (.lst l)))))
theorem ex_step {G : Nat → List PV → Option PV} {n : Nat} {σ : Sg} {e : PS} {v : Res} {P : Prop} (h : ex G n e σ = some v) (k : ∀ m, ex G (m + 1) e σ = some v → P) : P := by
  cases n with
  | zero => cases h
  | succ m => exact k m h

/-- a def's value: its body from its arguments on; nv: how many names it has -/
noncomputable def run (G : Nat → List PV → Option PV) (n nv : Nat) (body : List PS) (args : List PV) : Option PV :=
  match exL (ex G n) body (args.map (fun v => some (AV.im v)) ++ List.replicate (nv - args.length) none) with
  | some (.ret v) => some v
  | some (.next _) => some .none
  | none => none

end Mine
end

section
open PySem PySem.W PyProof.Rows
set_option Elab.async false
namespace Mine
/-- unmatched: its names -/
noncomputable def nt0 : List PySem.Str := ["match", "start", "end"]
noncomputable def body0 : List PS := [.set2 1 2 (.meth .span (.var 0) [.const (.int 0)]),
  .ret (.bin .add (.slice (.text (.var 0)) none (some (.var 1))) (.slice (.text (.var 0)) (some (.var 2)) none))]
/-- liberal_is_HDN: its names -/
noncomputable def nt1 : List PySem.Str := ["text"]
noncomputable def body1 : List PS := [.ite (.search false (.var 0)) [.ret (.const (.bool false))] [],
  .ret (.const (.bool true))]
/-- user_domain_match: its names -/
noncomputable def nt2 : List PySem.Str := ["A", "B", "initial_dot"]
noncomputable def body2 : List PS := [.set 0 (.meth .lower (.var 0) []),
  .set 1 (.meth .lower (.var 1) []),
  .ite (.not (.and (.call 1 [.var 0]) (.call 1 [.var 1]))) [.ite (.cmp .eq (.var 0) (.var 1)) [.ret (.const (.bool true))] [],
  .ret (.const (.bool false))] [],
  .set 2 (.meth .starts (.var 1) [.const (.str [46])]),
  .ite (.and (.var 2) (.meth .ends (.var 0) [.var 1])) [.ret (.const (.bool true))] [],
  .ite (.and (.not (.var 2)) (.cmp .eq (.var 0) (.var 1))) [.ret (.const (.bool true))] [],
  .ret (.const (.bool false))]
/-- ne: its names -/
noncomputable def nt5 : List PySem.Str := ["a", "b"]
noncomputable def body5 : List PS := [.ret (.cmp .ne (.var 0) (.var 1))]
/-- lshift: its names -/
noncomputable def nt6 : List PySem.Str := ["a", "b"]
noncomputable def body6 : List PS := [.ret (.bin .shl (.var 0) (.var 1))]
/-- or_: its names -/
noncomputable def nt7 : List PySem.Str := ["a", "b"]
noncomputable def body7 : List PS := [.ret (.bin .bor (.var 0) (.var 1))]
/-- sub: its names -/
noncomputable def nt8 : List PySem.Str := ["a", "b"]
noncomputable def body8 : List PS := [.ret (.bin .sub (.var 0) (.var 1))]
/-- _byteswap: its names -/
noncomputable def nt10 : List PySem.Str := ["data", "width", "swapped_data", "i", "j"]
noncomputable def body10 : List PS := [.setOwnB 2 (.bi .len [.var 0]),
  .loop (.one 3) .range [.const (.int 0), .bi .len [.var 0], .var 1] [.loop (.one 4) .range [.var 1] [.setIdxB 2 (.bin .sub (.bin .sub (.bin .add (.var 3) (.var 1)) (.const (.int 1))) (.var 4)) (.idx (.var 0) (.bin .add (.var 3) (.var 4)))]],
  .ret (.bytesOwn 2)]
/-- _law_grown: its names -/
noncomputable def nt11 : List PySem.Str := ["order", "row", "step", "side", "raised", "half", "back", "mirrored"]
noncomputable def body11 : List PS := [.set 1 (.bi .bytes [.lst [.const (.int 0), .const (.int 0)]]),
  .loop (.one 2) .range [.var 0] [.set 3 (.call 6 [.const (.int 1), .var 2]),
  .set 4 (.comp (.ite (.cmp .eq (.bin .mod (.var 0) (.const (.int 2))) (.const (.int 1))) (.call 7 [.var 1, .var 2]) (.var 1)) (.two 0 1) .enum [.var 1] [3]),
  .set 5 (.bin .add (.call 10 [.var 1, .const (.int 2)]) (.bi .bytes [.var 4])),
  .set 6 (.call 10 [.call 10 [.var 5, .bi .len [.var 5]], .const (.int 2)]),
  .set 7 (.comp (.ite (.cmp .eq (.bin .mod (.var 0) (.const (.int 2))) (.const (.int 1))) (.var 1) (.call 8 [.bin .sub (.bin .mul (.const (.int 2)) (.var 2)) (.const (.int 1)), .var 1])) (.two 0 1) .enum [.var 6] [3]),
  .set 1 (.bin .add (.var 5) (.bi .bytes [.var 7]))],
  .ret (.var 1)]
/-- _law_figures: its names -/
noncomputable def nt12 : List PySem.Str := ["place", "order", "figures"]
noncomputable def body12 : List PS := [.set 2 (.call 3 [.var 0, .const (.int 2)]),
  .ret (.bin .add (.var 2) (.bin .mul (.lst [.const (.int 0)]) (.bin .sub (.var 1) (.bi .len [.var 2]))))]
/-- _law_address: its names -/
noncomputable def nt13 : List PySem.Str := ["place", "order"]
noncomputable def body13 : List PS := [.ret (.bin .add (.const (.str [120])) (.meth .join (.const (.str [])) [.comp (.bin .add (.const (.str [46])) (.bi .str [.var 0])) (.one 0) .rev [.call 12 [.var 0, .var 1]] []]))]
/-- _law_host: its names -/
noncomputable def nt14 : List PySem.Str := ["place", "order"]
noncomputable def body14 : List PS := [.ret (.meth .join (.const (.str [46])) [.bin .add (.comp (.bi .chr [.bin .add (.const (.int 97)) (.var 0)]) (.one 0) .direct [.call 12 [.var 0, .var 1]] []) (.lst [.const (.str [120])])])]
/-- _law_told: its names -/
noncomputable def nt15 : List PySem.Str := ["address", "order", "ladder", "rights", "ups", "step", "found", "figure", "right", "up", "threes"]
noncomputable def body15 : List PS := [.setOwn 2 [.var 0],
  .setOwn 3 [],
  .setOwn 4 [],
  .loop (.one 5) .range [.var 1] [.set 6 (.search false (.var 0)),
  .ite (.cmp .isa (.var 6) (.const .none)) [.freeze 2,
  .ret (.tup [.var 2, .tup [.const (.int (-1)), .const (.int (-1))]])] [],
  .set 7 (.bi .int [.slice (.meth .group (.var 6) [.const (.int 0)]) (some (.const (.int 1))) none]),
  .set 0 (.call 0 [.var 6]),
  .set 8 (.bin .fdiv (.var 7) (.const (.int 2))),
  .set 9 (.bi .int [.call 5 [.var 8, .bin .mod (.var 7) (.const (.int 2))]]),
  .set 10 (.countS (.var 0) 51),
  .ite (.cmp .eq (.bin .mod (.bin .add (.countS (.var 0) 48) (.var 10)) (.const (.int 2))) (.const (.int 1))) [.set2 8 9 (.tup [.var 9, .var 8])] [],
  .ite (.cmp .eq (.bin .mod (.var 10) (.const (.int 2))) (.const (.int 1))) [.set2 8 9 (.tup [.bin .sub (.const (.int 1)) (.var 8), .bin .sub (.const (.int 1)) (.var 9)])] [],
  .app 3 (.var 8),
  .app 4 (.var 9),
  .app 2 (.var 0)],
  .freeze 2,
  .freeze 3,
  .freeze 4,
  .ret (.tup [.var 2, .tup [.call 4 [.var 3, .const (.int 1)], .call 4 [.var 4, .const (.int 1)]]])]
/-- _law_led: its names -/
noncomputable def nt16 : List PySem.Str := ["text", "order", "right", "up", "changed", "turned", "step", "found", "figure", "one", "other"]
noncomputable def body16 : List PS := [.set 2 (.const (.int 0)),
  .set 3 (.const (.int 0)),
  .set 4 (.const (.bool false)),
  .set 5 (.const (.bool false)),
  .loop (.one 6) .range [.var 1] [.set 7 (.search true (.var 0)),
  .ite (.cmp .isa (.var 7) (.const .none)) [.ret (.tup [.var 0, .tup [.const (.int (-1)), .const (.int (-1))]])] [],
  .set 8 (.bi .int [.meth .group (.var 7) [.const (.int 1)]]),
  .set 0 (.call 0 [.var 7]),
  .set2 9 10 (.tup [.bin .fdiv (.var 8) (.const (.int 2)), .bin .mod (.bin .fdiv (.bin .add (.var 8) (.const (.int 1))) (.const (.int 2))) (.const (.int 2))]),
  .ite (.var 4) [.set2 9 10 (.tup [.var 10, .var 9])] [],
  .ite (.var 5) [.set2 9 10 (.tup [.bin .sub (.const (.int 1)) (.var 9), .bin .sub (.const (.int 1)) (.var 10)])] [],
  .set 2 (.bin .add (.bin .mul (.const (.int 2)) (.var 2)) (.var 9)),
  .set 3 (.bin .add (.bin .mul (.const (.int 2)) (.var 3)) (.var 10)),
  .set 4 (.cmp .ne (.var 4) (.cmp .inn (.var 8) (.lst [.const (.int 0), .const (.int 3)]))),
  .set 5 (.cmp .ne (.var 5) (.cmp .eq (.var 8) (.const (.int 3))))],
  .ret (.tup [.var 0, .tup [.var 2, .var 3]])]
/-- law: its names -/
noncomputable def nt17 : List PySem.Str := ["script", "sums", "turn", "x", "order", "row", "cells", "places", "first", "ladders", "place", "address", "ladder", "cell", "onward", "host", "one", "other", "off", "near", "i", "j"]
noncomputable def body17 : List PS := [.setOwn 1 [.const (.int 2), .const (.int 27), .const (.int 14), .const (.int 45), .const (.int 58), .const (.int 38)],
  .loop (.two 2 3) .enum [.slice (.var 0) none (some (.const (.int 24)))] [.augIdx 1 (.bin .mod (.var 2) (.const (.int 6))) (.bin .mod (.var 3) (.bin .pow (.const (.int 10)) (.const (.int 6))))],
  .freeze 1,
  .set 4 (.bin .add (.const (.int 1)) (.bin .mod (.idx (.var 1) (.const (.int 0))) (.const (.int 3)))),
  .set 5 (.call 11 [.var 4]),
  .ite (.not (.bi .isBytes [.var 5])) [.ret (.const (.bool false))] [],
  .set 6 (.cellsOf 5),
  .set 7 (.comp (.bin .mod (.var 0) (.bin .pow (.const (.int 4)) (.var 1))) (.one 0) .direct [.slice (.var 1) (some (.const (.int 1))) none] [4]),
  .set 8 (.call 14 [.idx (.var 7) (.const (.int 0)), .var 4]),
  .setOwn 9 [],
  .loop (.one 10) .direct [.var 7] [.set 11 (.call 13 [.var 10, .var 4]),
  .set2 12 13 (.call 15 [.var 11, .var 4]),
  .ite (.or (.cmp .ne (.idx (.var 12) (.const (.int (-1)))) (.const (.str [120]))) (.cmp .ne (.var 13) (.idx (.var 6) (.var 10)))) [.ret (.const (.bool false))] [],
  .ite (.cmp .ne (.call 16 [.bin .add (.repl (.var 11) 46 92) (.const (.str [121])), .var 4]) (.tup [.const (.str [120, 121]), .var 13])) [.ret (.const (.bool false))] [],
  .app 9 (.var 12),
  .ite (.cmp .lt (.bin .add (.var 10) (.const (.int 1))) (.bi .len [.var 6])) [.set 14 (.idx (.var 6) (.bin .add (.var 10) (.const (.int 1)))),
  .ite (.cmp .ne (.bin .add (.bi .abs [.bin .sub (.idx (.var 14) (.const (.int 0))) (.idx (.var 13) (.const (.int 0)))]) (.bi .abs [.bin .sub (.idx (.var 14) (.const (.int 1))) (.idx (.var 13) (.const (.int 1)))])) (.const (.int 1))) [.ret (.const (.bool false))] []] [],
  .set 15 (.call 14 [.var 10, .var 4]),
  .loop (.two 16 17) .direct [.lst [.tup [.var 11, .slice (.var 11) (some (.const (.int 1))) none], .tup [.var 15, .const (.str [120])]]] [.ite (.cmp .isnt (.call 2 [.var 16, .var 17]) (.const (.bool false))) [.ret (.const (.bool false))] []],
  .loop (.one 18) .range [.bin .add (.var 4) (.const (.int 1))] [.set 19 (.cmp .eq (.comp (.bin .shr (.var 0) (.var 1)) (.one 0) .direct [.var 13] [18]) (.comp (.bin .shr (.var 0) (.var 1)) (.one 0) .direct [.idx (.var 6) (.idx (.var 7) (.const (.int 0)))] [18])),
  .ite (.cmp .isnt (.call 2 [.meth .upper (.var 15) [], .bin .add (.const (.str [46])) (.slice (.var 8) (some (.bin .mul (.const (.int 2)) (.var 18))) none)]) (.and (.cmp .gt (.var 18) (.const (.int 0))) (.var 19))) [.ret (.const (.bool false))] []]],
  .ite (.cmp .ne (.countC 6 (.idx (.var 7) (.const (.int 0)))) (.const (.int 1))) [.ret (.const (.bool false))] [],
  .freeze 9,
  .loop (.one 20) .range [.bi .len [.var 7]] [.loop (.one 21) .range [.var 20] [.loop (.one 18) .range [.bin .add (.var 4) (.const (.int 1))] [.set 16 (.comp (.bin .shr (.var 0) (.var 1)) (.one 0) .direct [.idx (.var 6) (.idx (.var 7) (.var 20))] [18]),
  .set 17 (.comp (.bin .shr (.var 0) (.var 1)) (.one 0) .direct [.idx (.var 6) (.idx (.var 7) (.var 21))] [18]),
  .ite (.cmp .isnt (.call 2 [.idx (.idx (.var 9) (.var 20)) (.var 18), .meth .upper (.idx (.idx (.var 9) (.var 21)) (.var 18)) []]) (.cmp .eq (.var 16) (.var 17))) [.ret (.const (.bool false))] []]]],
  .ret (.const (.bool true))]
end Mine
end

section
open PySem PySem.W PyProof.Rows
set_option Elab.async false
set_option linter.unusedVariables false
namespace Mine

/-- what is fixed for a whole run: the program, the world, the heap that stands below, the code tables -/
structure Cx where
  prog : Program
  w : World
  G : Heap
  TB : Addr → Prop
  Tab : Addr → Obj → Prop
  Qn : Addr → PySem.Str

noncomputable abbrev Cx.M (c : Cx) : Model := model c.prog c.w

/-- a code object that bears a name -/
noncomputable def CodQ (q : PySem.Str) (o : Obj) : Prop := ∃ vs t, o.data = .fields vs ∧ vs[1]? = some (.str q t)
theorem noCod_data {o : Obj} (h : ∀ vs, o.data ≠ .fields vs) : ∀ q, ¬ CodQ q o := fun _ ⟨vs, _, e, _⟩ => h vs e
theorem noCod_fields {o : Obj} {vs : Array Value} (h : o.data = .fields vs) (h1 : ∀ q t, vs[1]? ≠ some (.str q t)) : ∀ q, ¬ CodQ q o := fun q ⟨us, t, e, e1⟩ => by rw [h] at e; cases e; exact h1 q t e1

inductive TabAt (c : Cx) (h : Heap) (b : Addr) : Prop where
  | mk (o : Obj) (get : h.get? b = some o) (tab : c.Tab b o) : TabAt c h b
/-- the heap stands over G, and the code tables are in order -/
structure J (c : Cx) (h : Heap) : Prop where
  ext : ∀ b o, c.G.get? b = some o → h.get? b = some o
  tab : ∀ b, c.TB b → TabAt c h b
  cod : ∀ b o ps x, c.TB b → h.get? b = some o → o.data = .fields ps → Value.ref x ∈ ps.toList → ∃ o', h.get? x = some o' ∧ CodQ (c.Qn b) o'

noncomputable def Kept (X : Addr → Prop) (h h' : Heap) : Prop := ∀ b o, h.get? b = some o → ¬ X b → h'.get? b = some o
theorem Kept.refl {X : Addr → Prop} {h : Heap} : Kept X h h := fun _ _ e _ => e
theorem Kept.trans {X : Addr → Prop} {h h' h'' : Heap} (a : Kept X h h') (b : Kept X h' h'') : Kept X h h'' := fun x o e n => b x o (a x o e n) n
theorem Kept.all {X : Addr → Prop} {h h' : Heap} (a : ∀ b o, h.get? b = some o → h'.get? b = some o) : Kept X h h' := fun b o e _ => a b o e
theorem Kept.mono {X Y : Addr → Prop} {h h' : Heap} (a : Kept X h h') (s : ∀ b, X b → Y b) : Kept Y h h' := fun b o e n => a b o e fun q => n (s b q)

theorem J.but {c : Cx} {h h' : Heap} {X : Addr → Prop} (x : J c h) (k : Kept X h h') (hG : ∀ b, X b → c.G.get? b = none) (hT : ∀ b, X b → ¬ c.TB b) (hC : ∀ b o q, X b → h.get? b = some o → ¬ CodQ q o) : J c h' :=
  ⟨fun b o e => k b o (x.ext b o e) (fun q => by rw [hG b q] at e; cases e), fun b e => let ⟨o, ho, ht⟩ := x.tab b e; ⟨o, k b o ho (fun q => hT b q e), ht⟩, fun b o ps y hb e hd hm => by
    obtain ⟨o₁, h1, _⟩ := x.tab b hb
    have h2 := k b o₁ h1 fun q => hT b q hb
    rw [e] at h2; cases h2
    obtain ⟨o', h3, h4⟩ := x.cod b o ps y hb h1 hd hm
    exact ⟨o', k y o' h3 fun q => hC y o' _ q h3 h4, h4⟩⟩
theorem J.all {c : Cx} {h h' : Heap} (x : J c h) (k : ∀ b o, h.get? b = some o → h'.get? b = some o) : J c h' :=
  x.but (X := fun _ => False) (fun b o e _ => k b o e) (fun _ q => q.elim) (fun _ q => q.elim) (fun _ _ _ q => q.elim)

structure Room (A : Around) (n : Nat) : Prop where
  handled : A.handled = none
  depth : A.depth + n < recursionLimit
  units : A.units + 20 * n + 100 < cLine
theorem Room.le {A : Around} {n m : Nat} (r : Room A n) (h : m ≤ n) : Room A m := ⟨r.handled, by have := r.depth; omega, by have := r.units; omega⟩

structure FI where
  env : Env
  nt : List PySem.Str
  place : Nat → Option Addr
  capt : Bool

noncomputable abbrev Vals := Nat → Option Value
noncomputable def isOwn : AV → Bool
  | .im _ => false
  | _ => true

inductive OwnAt (h : Heap) (W mu : Addr → Prop) (l : List PV) (v : Value) : Prop where
  | mk (a : Addr) (vs : List Value) (n : Nat) (e : v = .ref a) (m : mu a) (g : h.get? a = some (listO vs n)) (d : DenL h W l vs) : OwnAt h W mu l v
inductive OwnbAt (h : Heap) (mu : Addr → Prop) (l : List UInt8) (v : Value) : Prop where
  | mk (a : Addr) (n : Nat) (e : v = .ref a) (m : mu a) (g : h.get? a = some { cls := .type "bytearray", data := .bytearray l.toArray n }) : OwnbAt h mu l v
/-- the value of a name: a value outside of the activation's own, or an object of its own -/
noncomputable def AVat (h : Heap) (W mu : Addr → Prop) : AV → Value → Prop
  | .im p, v => Den h W p v
  | .own l, v => OwnAt h W mu l v
  | .ownb l, v => OwnbAt h mu l v

inductive LocAt (h : Heap) (fi : FI) (val : Vals) : Prop where
  | mk (m : PySem.Str → Option Value) (ns : h.Ns fi.env.locals m) (q : ∀ i x, fi.nt[i]? = some x → fi.place i = none → fi.env.kindOf x = some .local ∧ ∀ v, val i = some v → m x = some v) : LocAt h fi val
inductive CelIn (h : Heap) (a : Addr) (u : Option Value) : Prop where
  | mk (o : Obj) (ov : Option Value) (g : h.get? a = some o) (d : o.data = .cell ov) (q : ∀ v, u = some v → ov = some v) : CelIn h a u
structure CelAt (c : Cx) (W : Addr → Prop) (h : Heap) (fi : FI) (u : Option Value) (x : PySem.Str) (a : Addr) : Prop where
  look : fi.env.cells.lookup x = some a
  w : W a
  nt : ¬ c.TB a
  kd : fi.env.kindOf x = some .cell ∨ fi.env.kindOf x = some .free
  inn : CelIn h a u
inductive ValAt (h : Heap) (W mu : Addr → Prop) (fi : FI) (val : Vals) (i : Nat) (av : AV) : Prop where
  | mk (x : PySem.Str) (v : Value) (e : fi.nt[i]? = some x) (ev : val i = some v) (d : AVat h W mu av v) : ValAt h W mu fi val i av

/-- W: the addresses that no value's footprint may hold (those of the frames below: W₀, and the activation's own: mu) -/
structure Rel (c : Cx) (W mu : Addr → Prop) (h : Heap) (fi : FI) (val : Vals) (σ : Sg) : Prop where
  kind : fi.env.scope.kind = .function
  gl : fi.env.globals = mainGlobals
  bl : fi.env.builtins = builtinsNs
  wex : ∀ b, W b → ∃ o, h.get? b = some o
  muW : ∀ b, mu b → W b
  muT : ∀ b, mu b → ¬ c.TB b
  muG : ∀ b, mu b → c.G.get? b = none
  lmu : mu fi.env.locals
  loc : LocAt h fi val
  cel : ∀ i x a, fi.nt[i]? = some x → fi.place i = some a → CelAt c W h fi (val i) x a
  cmu : fi.capt = false → ∀ i x a, fi.nt[i]? = some x → fi.place i = some a → mu a ∧ fi.env.kindOf x = some .cell
  celd : ∀ i j a, fi.place i = some a → fi.place j = some a → i = j
  vals : ∀ i av, σ[i]? = some (some av) → ValAt h W mu fi val i av
  sep : ∀ i j a av bv, σ[i]? = some (some av) → σ[j]? = some (some bv) → isOwn av = true → isOwn bv = true → val i = some (.ref a) → val j = some (.ref a) → i = j
  nd : ∀ (i j : Nat) (x : PySem.Str), fi.nt[i]? = some x → fi.nt[j]? = some x → i = j
  ndb : ∀ (i : Nat) (x : PySem.Str), fi.nt[i]? = some x → (x == (PySem.Str.ofString "__debug__")) = false ∧ (x == (PySem.Str.ofString "__classdict__")) = false

theorem AVat.keeps {h h' : Heap} {W mu : Addr → Prop} (k : ∀ b o, h.get? b = some o → (¬ W b ∨ mu b) → h'.get? b = some o) : ∀ {av : AV} {v : Value}, AVat h W mu av v → AVat h' W mu av v
  | .im p, v, x => Den.keeps ⟨fun b o e n => k b o e (.inl n), fun _ _ _ q => q⟩ x
  | .own l, v, ⟨a, vs, n, e, m, g, d⟩ => ⟨a, vs, n, e, m, k _ _ g (.inr m), DenL.keeps ⟨fun b o e n => k b o e (.inl n), fun _ _ _ q => q⟩ d⟩
  | .ownb l, v, ⟨a, n, e, m, g⟩ => ⟨a, n, e, m, k _ _ g (.inr m)⟩

/-- what an expression leaves: all but the tables; the tables in order -/
structure Step (c : Cx) (h h' : Heap) : Prop where
  kept : Kept c.TB h h'
  j : J c h'
theorem Step.refl {c : Cx} {h : Heap} (x : J c h) : Step c h h := ⟨.refl, x⟩
theorem Step.trans {c : Cx} {h h' h'' : Heap} (a : Step c h h') (b : Step c h' h'') : Step c h h'' := ⟨a.kept.trans b.kept, b.j⟩
theorem Step.all {c : Cx} {h h' : Heap} (x : J c h) (k : ∀ b o, h.get? b = some o → h'.get? b = some o) : Step c h h' := ⟨.all k, x.all k⟩
theorem Step.ex {c : Cx} {h h' : Heap} (a : Step c h h') {b : Addr} {o : Obj} (e : h.get? b = some o) : ∃ o', h'.get? b = some o' := by
  by_cases q : c.TB b
  · obtain ⟨o', ho, _⟩ := a.j.tab b q
    exact ⟨o', ho⟩
  · exact ⟨o, a.kept b o e q⟩
theorem Step.push {c : Cx} {h : Heap} (x : J c h) (o : Obj) : Step c h (h.push o) := .all x fun b o' e => Heap.get?_push_of_some _ e

/-- the tables are forbidden -/
noncomputable def TW (c : Cx) (W : Addr → Prop) : Prop := ∀ b, c.TB b → W b

theorem Den.step {c : Cx} {W : Addr → Prop} {h h' : Heap} {p : PV} {v : Value} (t : TW c W) (a : Step c h h') (d : Den h W p v) : Den h' W p v :=
  d.keeps ⟨fun b o e n => a.kept b o e fun q => n (t b q), fun _ _ _ q => q⟩
theorem DenL.step {c : Cx} {W : Addr → Prop} {h h' : Heap} {p : List PV} {v : List Value} (t : TW c W) (a : Step c h h') (d : DenL h W p v) : DenL h' W p v :=
  d.keeps ⟨fun b o e n => a.kept b o e fun q => n (t b q), fun _ _ _ q => q⟩

theorem Rel.step {c : Cx} {W mu : Addr → Prop} {h h' : Heap} {fi : FI} {val : Vals} {σ : Sg} (t : TW c W) (R : Rel c W mu h fi val σ) (a : Step c h h') : Rel c W mu h' fi val σ where
  kind := R.kind
  gl := R.gl
  bl := R.bl
  wex := fun b hb => let ⟨_, e⟩ := R.wex b hb; a.ex e
  muW := R.muW
  muT := R.muT
  muG := R.muG
  lmu := R.lmu
  loc := by
    obtain ⟨m, ⟨o, es, ep, ho, r⟩, q⟩ := R.loc
    exact ⟨m, ⟨o, es, ep, a.kept _ _ ho (R.muT _ R.lmu), r⟩, q⟩
  cel := fun i x b h1 h2 => by
    obtain ⟨q1, q2, q3, q4, o, ov, q5, q6, q7⟩ := R.cel i x b h1 h2
    exact ⟨q1, q2, q3, q4, o, ov, a.kept _ _ q5 q3, q6, q7⟩
  cmu := R.cmu
  celd := R.celd
  vals := fun i av e => by
    obtain ⟨x, v, h1, h2, h3⟩ := R.vals i av e
    refine ⟨x, v, h1, h2, h3.keeps fun b o e n => a.kept b o e fun q => ?_⟩
    rcases n with n | n
    · exact n (t b q)
    · exact R.muT b n q
  sep := R.sep
  nd := R.nd
  ndb := R.ndb

/-- what a statement leaves: all but the tables and the activation's own -/
structure Go (c : Cx) (W mu : Addr → Prop) (h : Heap) (W' mu' : Addr → Prop) (h' : Heap) : Prop where
  kept : ∀ b o, h.get? b = some o → ¬ c.TB b → ¬ mu b → h'.get? b = some o
  mul : ∀ b, mu' b → mu b ∨ h.get? b = none
  wl : ∀ b, W' b → W b ∨ h.get? b = none
  wk : ∀ b, W b → ¬ mu b → W' b
  j : J c h'
  ex : ∀ b o, h.get? b = some o → ∃ o', h'.get? b = some o'
theorem Go.refl {c : Cx} {W mu : Addr → Prop} {h : Heap} (x : J c h) : Go c W mu h W mu h :=
  ⟨fun _ _ e _ _ => e, fun _ q => .inl q, fun _ q => .inl q, fun _ q _ => q, x, fun _ o e => ⟨o, e⟩⟩
theorem Go.of_step {c : Cx} {W mu : Addr → Prop} {h h' : Heap} (a : Step c h h') : Go c W mu h W mu h' :=
  ⟨fun b o e n _ => a.kept b o e n, fun _ q => .inl q, fun _ q => .inl q, fun _ q _ => q, a.j, fun _ _ e => a.ex e⟩
theorem Go.trans {c : Cx} {W mu W' mu' W'' mu'' : Addr → Prop} {h h' h'' : Heap} (a : Go c W mu h W' mu' h') (b : Go c W' mu' h' W'' mu'' h'') (hw : ∀ b, W b → ∃ o, h.get? b = some o) : Go c W mu h W'' mu'' h'' := by
  have none_of : ∀ x, h'.get? x = none → h.get? x = none := fun x e => by
    cases q : h.get? x with
    | none => rfl
    | some o => obtain ⟨o', e'⟩ := a.ex x o q; rw [e] at e'; cases e'
  refine ⟨fun x o e n m => b.kept x o (a.kept x o e n m) n fun q => ?_, fun x q => ?_, fun x q => ?_, fun x q m => b.wk x (a.wk x q m) fun q' => ?_, b.j, fun x o e => let ⟨_, e'⟩ := a.ex x o e; b.ex x _ e'⟩
  · rcases a.mul x q with q | q
    · exact m q
    · rw [e] at q; cases q
  · rcases b.mul x q with q | q
    · exact a.mul x q
    · exact .inr (none_of x q)
  · rcases b.wl x q with q | q
    · exact a.wl x q
    · exact .inr (none_of x q)
  · rcases a.mul x q' with z | z
    · exact m z
    · obtain ⟨o, e⟩ := hw x q
      rw [e] at z; cases z

noncomputable abbrev KontE (c : Cx) (s : Shared) (W : Addr → Prop) (p : PV) (Q : Value → Shared → Prop) : Prop :=
  ∀ v h' tk, 0 < tk → Step c s.heap h' → Den h' W p v → Q v { s with heap := h', toks := tk }

/-- a def's value at its arguments, with n frames of room -/
noncomputable def FnOK (c : Cx) (n : Nat) (f : Addr) (args : List PV) (res : PV) : Prop :=
  ∀ (A : Around) (s : Shared) (W : Addr → Prop) (vs : List Value) (Q E : Value → Shared → Prop), Room A n → 0 < s.toks → J c s.heap → TW c W → (∀ b, W b → ∃ o, s.heap.get? b = some o) → DenL s.heap W args vs →
    KontE c s W res Q → wpAny c.M A (call (.ref f) vs) Q E s

/-- an expression's value -/
noncomputable def SoundE (c : Cx) (n : Nat) (fi : FI) (σ : Sg) (x : Expr) (p : PV) : Prop :=
  ∀ (A : Around) (s : Shared) (W mu : Addr → Prop) (val : Vals) (Q E : Value → Shared → Prop), Room A n → 0 < s.toks → J c s.heap → TW c W → Rel c W mu s.heap fi val σ →
    KontE c s W p Q → wpAny c.M A (eval x fi.env) Q E s

/-- a test's truth -/
noncomputable def SoundT (c : Cx) (n : Nat) (fi : FI) (σ : Sg) (x : Expr) (b : Bool) : Prop :=
  ∀ (A : Around) (s : Shared) (W mu : Addr → Prop) (val : Vals) (Q : Bool → Shared → Prop) (E : Value → Shared → Prop), Room A n → 0 < s.toks → J c s.heap → TW c W → Rel c W mu s.heap fi val σ →
    (∀ h' tk, 0 < tk → Step c s.heap h' → Q b { s with heap := h', toks := tk }) → wpAny c.M A (isTrue x fi.env (eval x fi.env)) Q E s

end Mine
end

section
open PySem PySem.W PyProof.Rows
set_option Elab.async false
set_option linter.unusedVariables false
namespace Mine

noncomputable abbrev WEx (W : Addr → Prop) (h : Heap) : Prop := ∀ b, W b → ∃ o, h.get? b = some o
theorem WEx.step {c : Cx} {W : Addr → Prop} {h h' : Heap} (x : WEx W h) (a : Step c h h') : WEx W h' := fun b hb => let ⟨_, e⟩ := x b hb; a.ex e
theorem WEx.fresh {W : Addr → Prop} {h : Heap} (x : WEx W h) : ¬ W h.objs.size := fun q => by
  obtain ⟨o, e⟩ := x _ q
  exact absurd (Heap.lt_size e) (Nat.lt_irrefl _)
theorem get_fresh {h : Heap} : h.get? h.objs.size = none := by
  cases q : h.get? h.objs.size with
  | none => rfl
  | some o => exact absurd (Heap.lt_size q) (Nat.lt_irrefl _)

/-- a one-place and a two-place operation of the interpreter -/
noncomputable def Val1 (c : Cx) (n : Nat) (t : Value → Sem Value) (a p : PV) : Prop :=
  ∀ (A : Around) (s : Shared) (W : Addr → Prop) (x : Value) (Q E : Value → Shared → Prop), Room A n → 0 < s.toks → J c s.heap → TW c W → WEx W s.heap → Den s.heap W a x →
    KontE c s W p Q → wpAny c.M A (t x) Q E s
noncomputable def Val2 (c : Cx) (n : Nat) (t : Value → Value → Sem Value) (a b p : PV) : Prop :=
  ∀ (A : Around) (s : Shared) (W : Addr → Prop) (x y : Value) (Q E : Value → Shared → Prop), Room A n → 0 < s.toks → J c s.heap → TW c W → WEx W s.heap → Den s.heap W a x → Den s.heap W b y →
    KontE c s W p Q → wpAny c.M A (t x y) Q E s
noncomputable def ValL (c : Cx) (n : Nat) (t : List Value → Sem Value) (as : List PV) (p : PV) : Prop :=
  ∀ (A : Around) (s : Shared) (W : Addr → Prop) (xs : List Value) (Q E : Value → Shared → Prop), Room A n → 0 < s.toks → J c s.heap → TW c W → WEx W s.heap → DenL s.heap W as xs →
    KontE c s W p Q → wpAny c.M A (t xs) Q E s

variable {c : Cx} {n : Nat} {fi : FI} {σ : Sg}

theorem KontE.next {s : Shared} {W : Addr → Prop} {p : PV} {Q : Value → Shared → Prop} (k : KontE c s W p Q) {h₁ : Heap} {tk₁ : Nat} (a : Step c s.heap h₁) : KontE c { s with heap := h₁, toks := tk₁ } W p Q :=
  fun v h' tk p b d => k v h' tk p (a.trans b) d
theorem KontE.here {s : Shared} {W : Addr → Prop} {p : PV} {Q : Value → Shared → Prop} (k : KontE c s W p Q) (j : J c s.heap) {v : Value} (tk : Nat) (hp : 0 < tk) (d : Den s.heap W p v) : Q v { s with toks := tk } :=
  k v s.heap tk hp (.refl j) d
theorem KontE.int {s : Shared} {W : Addr → Prop} {i : Int} {Q : Value → Shared → Prop} (k : KontE c s W (.int i) Q) (j : J c s.heap) {t : Tok} {tk : Nat} (hp : 0 < tk) : Q (.int i t) { s with toks := tk } :=
  k.here j tk hp (by unfold Den; exact ⟨t, rfl⟩)
theorem KontE.bool {s : Shared} {W : Addr → Prop} {b : Bool} {Q : Value → Shared → Prop} (k : KontE c s W (.bool b) Q) (j : J c s.heap) {tk : Nat} (hp : 0 < tk) : Q (.bool b) { s with toks := tk } :=
  k.here j tk hp (by unfold Den; rfl)
theorem KontE.str {s : Shared} {W : Addr → Prop} {l : List Nat} {Q : Value → Shared → Prop} (k : KontE c s W (.str l) Q) (j : J c s.heap) {t : Tok} {tk : Nat} (hp : 0 < tk) : Q (.str ⟨l.toArray⟩ t) { s with toks := tk } :=
  k.here j tk hp (by unfold Den; exact ⟨t, rfl⟩)
theorem KontE.bytes {s : Shared} {W : Addr → Prop} {l : List UInt8} {Q : Value → Shared → Prop} (k : KontE c s W (.bytes l) Q) (j : J c s.heap) {t : Tok} {tk : Nat} (hp : 0 < tk) : Q (.bytes l.toArray t) { s with toks := tk } :=
  k.here j tk hp (by unfold Den; exact ⟨t, rfl⟩)
theorem KontE.none {s : Shared} {W : Addr → Prop} {Q : Value → Shared → Prop} (k : KontE c s W .none Q) (j : J c s.heap) {tk : Nat} (hp : 0 < tk) : Q .none { s with toks := tk } :=
  k.here j tk hp (by unfold Den; rfl)

theorem push_keeps {W : Addr → Prop} {h : Heap} {o : Obj} : Keeps W h W (h.push o) := ⟨fun _ _ e _ => Heap.get?_push_of_some _ e, fun _ _ _ q => q⟩
theorem KontE.list {s : Shared} {W : Addr → Prop} {ps : List PV} {vs : List Value} {Q : Value → Shared → Prop} (k : KontE c s W (.lst ps) Q) (j : J c s.heap) (hw : WEx W s.heap) (d : DenL s.heap W ps vs) {m tk : Nat} (hp : 0 < tk) :
    Q (.ref s.heap.objs.size) { s with heap := s.heap.push (listO vs m), toks := tk } :=
  k _ _ tk hp (.push j _) (by unfold Den; exact ⟨_, vs, m, rfl, hw.fresh, Heap.get?_push_size _ rfl, d.keeps push_keeps⟩)
theorem KontE.tuple {s : Shared} {W : Addr → Prop} {ps : List PV} {vs : List Value} {Q : Value → Shared → Prop} (k : KontE c s W (.tup ps) Q) (j : J c s.heap) (hw : WEx W s.heap) (d : DenL s.heap W ps vs) {m tk : Nat} (hp : 0 < tk) :
    Q (.ref s.heap.objs.size) { s with heap := s.heap.push (tupO vs m), toks := tk } :=
  k _ _ tk hp (.push j _) (by unfold Den; exact ⟨_, vs, m, rfl, hw.fresh, Heap.get?_push_size _ rfl, d.keeps push_keeps⟩)

theorem sound_bin {l r : Expr} {op : Operator} {pos : Pos} {a b p : PV} (hl : SoundE c n fi σ l a) (hr : SoundE c n fi σ r b) (ho : Val2 c n (binaryOp op) a b p) : SoundE c n fi σ (.BinOp l op r pos) p :=
  fun A s W mu val Q E hA hP hJ hT hR k => wpAny_BinOp (hl A s W mu val _ _ hA hP hJ hT hR fun v₁ h₁ tk₁ p₁ s₁ d₁ => hr A _ W mu val _ _ hA p₁ s₁.j hT (hR.step hT s₁) fun v₂ h₂ tk₂ p₂ s₂ d₂ =>
    ho A _ W v₁ v₂ _ _ hA p₂ s₂.j hT (WEx.step (WEx.step hR.wex s₁) s₂) (d₁.step hT s₂) d₂ (KontE.next k (s₁.trans s₂)))

theorem sound_cmp {l r : Expr} {op : CmpOp} {pos : Pos} {a b p : PV} (hl : SoundE c n fi σ l a) (hr : SoundE c n fi σ r b) (ho : Val2 c n (compareOp op) a b p) (hm : behindInMarks op r = false) :
    SoundE c n fi σ (.Compare l [op] [r] pos) p :=
  fun A s W mu val Q E hA hP hJ hT hR k => wpAny_Compare1 (hl A s W mu val _ _ hA hP hJ hT hR fun v₁ h₁ tk₁ p₁ s₁ d₁ => hr A _ W mu val _ _ hA p₁ s₁.j hT (hR.step hT s₁) fun v₂ h₂ tk₂ p₂ s₂ d₂ =>
    ho A _ W v₁ v₂ _ _ hA p₂ s₂.j hT (WEx.step (WEx.step hR.wex s₁) s₂) (d₁.step hT s₂) d₂ (KontE.next k (s₁.trans s₂))) hm

theorem sound_cmpT {l r : Expr} {op : CmpOp} {pos : Pos} {a b : PV} {z : Bool} (hl : SoundE c n fi σ l a) (hr : SoundE c n fi σ r b) (ho : Val2 c n (compareOp op) a b (.bool z)) (hm : behindInMarks op r = false) :
    SoundT c n fi σ (.Compare l [op] [r] pos) z :=
  fun A s W mu val Q E hA hP hJ hT hR k => wpAny_isTrue_Compare1 (hl A s W mu val _ _ hA hP hJ hT hR fun v₁ h₁ tk₁ p₁ s₁ d₁ => hr A _ W mu val _ _ hA p₁ s₁.j hT (hR.step hT s₁) fun v₂ h₂ tk₂ p₂ s₂ d₂ =>
    ho A _ W v₁ v₂ _ _ hA p₂ s₂.j hT (WEx.step (WEx.step hR.wex s₁) s₂) (d₁.step hT s₂) d₂ fun v h' tk p₃ s₃ d => by
      unfold Den at d
      subst d
      exact wpAny_truthy_bool (k h' tk p₃ ((s₁.trans s₂).trans s₃))) hm

theorem sound_var {x : PySem.Str} {pos : Pos} {i : Nat} {p : PV} (hx : fi.nt[i]? = some x) (hv : σ[i]? = some (some (.im p))) : SoundE c n fi σ (.Name x pos) p :=
  fun A s W mu val Q E hA hP hJ hT hR k => by
    obtain ⟨y, v, h1, h2, h3⟩ := hR.vals i _ hv
    obtain rfl : x = y := Option.some.inj (hx.symm.trans h1)
    have hd := hR.ndb i x hx
    have q : Q v s := k.here hJ s.toks hP h3
    refine wpAny_Name ?_ hd.1
    cases hp : fi.place i with
    | none =>
      obtain ⟨m, hn, hl⟩ := hR.loc
      obtain ⟨h4, h5⟩ := hl i x hx hp
      exact wpAny_loadName_local hR.kind h4 hn (h5 v h2) q
    | some a =>
      obtain ⟨h4, _, _, h5, o, ov, ho, hov, h6⟩ := hR.cel i x a hx hp
      have hc : s.heap.IsCell a (some v) := ⟨o, ho, by rw [hov, h6 v h2]⟩
      rcases h5 with h5 | h5
      · exact wpAny_loadName_cell hR.kind h5 h4 hc q
      · exact wpAny_loadName_free hR.kind h5 h4 hc q hd.2

theorem sound_int {i : Int} {k : Nat} {pos : Pos} : SoundE c n fi σ (.Constant (.int i) k pos) (.int i) :=
  fun A s W mu val Q E hA hP hJ hT hR k => wpAny_Constant_int (k.int hJ (by first | exact hP | exact Nat.succ_pos _))
theorem sound_str {x : PySem.Str} {l : List Nat} {k : Nat} {pos : Pos} (hx : x = ⟨l.toArray⟩) : SoundE c n fi σ (.Constant (.str x) k pos) (.str l) :=
  fun A s W mu val Q E hA hP hJ hT hR k => Calls.Constant_str (by subst hx; exact k.str hJ (by first | exact hP | exact Nat.succ_pos _))
theorem sound_bool {b : Bool} {k : Nat} {pos : Pos} : SoundE c n fi σ (.Constant (.bool b) k pos) (.bool b) :=
  fun A s W mu val Q E hA hP hJ hT hR k => Constant_bool (k.bool hJ (by first | exact hP | exact Nat.succ_pos _))
theorem sound_none {k : Nat} {pos : Pos} : SoundE c n fi σ (.Constant .none k pos) .none :=
  fun A s W mu val Q E hA hP hJ hT hR k => Constant_none (k.none hJ (by first | exact hP | exact Nat.succ_pos _))
theorem sound_neg {i : Int} {k : Nat} {p₁ p₂ : Pos} : SoundE c n fi σ (.UnaryOp .USub (.Constant (.int i) k p₁) p₂) (.int (-i)) :=
  fun A s W mu val Q E hA hP hJ hT hR k => UnaryOp_ (wpAny_Constant_int (by
    refine wpAny_mono (neg_int (Q := fun v s' => v = .int (-i) (s.toks + 1) ∧ s' = { s with toks := s.toks + 1 + 1 }) ⟨rfl, rfl⟩) (fun v s' q => ?_) fun _ _ x => x
    obtain ⟨rfl, rfl⟩ := q
    exact k.int hJ (by first | exact hP | exact Nat.succ_pos _)))

theorem sound_ite {t a b : Expr} {pos : Pos} {z : Bool} {p : PV} (ht : SoundT c n fi σ t z) (ha : z = true → SoundE c n fi σ a p) (hb : z = false → SoundE c n fi σ b p) : SoundE c n fi σ (.IfExp t a b pos) p :=
  fun A s W mu val Q E hA hP hJ hT hR k => IfExp_ (ht A s W mu val _ _ hA hP hJ hT hR fun h₁ tk₁ p₁ s₁ => by
    cases z with
    | true => exact ha rfl A _ W mu val _ _ hA p₁ s₁.j hT (hR.step hT s₁) (KontE.next k s₁)
    | false => exact hb rfl A _ W mu val _ _ hA p₁ s₁.j hT (hR.step hT s₁) (KontE.next k s₁))

theorem sound_and {a b : Expr} {pos : Pos} {z : Bool} {p : PV} (ha : SoundE c n fi σ a (.bool z)) (hb : z = true → SoundE c n fi σ b p) (hp : z = false → p = .bool false) : SoundE c n fi σ (.BoolOp .And [a, b] pos) p :=
  fun A s W mu val Q E hA hP hJ hT hR k => BoolOp_and (ha A s W mu val _ _ hA hP hJ hT hR fun v₁ h₁ tk₁ p₁ s₁ d₁ => by
    unfold Den at d₁
    subst d₁
    refine wpAny_truthy_bool ?_
    cases z with
    | true => exact BoolOp_one (hb rfl A _ W mu val _ _ hA p₁ s₁.j hT (hR.step hT s₁) (KontE.next k s₁))
    | false => rw [hp rfl] at k; exact k _ _ _ p₁ s₁ (by unfold Den; rfl))

theorem soundT_not {t : Expr} {pos : Pos} {z : Bool} (ht : SoundT c n fi σ t z) : SoundT c n fi σ (.UnaryOp .Not t pos) (!z) :=
  fun A s W mu val Q E hA hP hJ hT hR k => isTrue_not (ht A s W mu val _ _ hA hP hJ hT hR fun h₁ tk₁ p₁ s₁ => k h₁ tk₁ p₁ s₁)
theorem soundT_and {a b : Expr} {pos : Pos} {y z : Bool} (ha : SoundT c n fi σ a y) (hb : y = true → SoundT c n fi σ b z) (hy : y = false → z = false) : SoundT c n fi σ (.BoolOp .And [a, b] pos) z :=
  fun A s W mu val Q E hA hP hJ hT hR k => isTrue_and (ha A s W mu val _ _ hA hP hJ hT hR fun h₁ tk₁ p₁ s₁ => by
    cases y with
    | true => exact isTrue_and (hb rfl A _ W mu val _ _ hA p₁ s₁.j hT (hR.step hT s₁) fun h₂ tk₂ p₂ s₂ => by
        cases z with
        | true => exact isTrue_and_nil (k _ _ p₂ (s₁.trans s₂))
        | false => exact k _ _ p₂ (s₁.trans s₂))
    | false => rw [hy rfl] at k; exact k _ _ p₁ s₁)
theorem soundT_or {a b : Expr} {pos : Pos} {y z : Bool} (ha : SoundT c n fi σ a y) (hb : y = false → SoundT c n fi σ b z) (hy : y = true → z = true) : SoundT c n fi σ (.BoolOp .Or [a, b] pos) z :=
  fun A s W mu val Q E hA hP hJ hT hR k => isTrue_or (ha A s W mu val _ _ hA hP hJ hT hR fun h₁ tk₁ p₁ s₁ => by
    cases y with
    | false => exact isTrue_or (hb rfl A _ W mu val _ _ hA p₁ s₁.j hT (hR.step hT s₁) fun h₂ tk₂ p₂ s₂ => by
        cases z with
        | false => exact isTrue_or_nil (k _ _ p₂ (s₁.trans s₂))
        | true => exact k _ _ p₂ (s₁.trans s₂))
    | true => rw [hy rfl] at k; exact k _ _ p₁ s₁)

/-- a value's truth, where the text is no chain of tests -/
noncomputable def Truth (c : Cx) (n : Nat) (p : PV) (z : Bool) : Prop :=
  ∀ (A : Around) (s : Shared) (W : Addr → Prop) (x : Value) (Q : Bool → Shared → Prop) (E : Value → Shared → Prop), Room A n → 0 < s.toks → J c s.heap → Den s.heap W p x → (∀ h' tk, 0 < tk → Step c s.heap h' → Q z { s with heap := h', toks := tk }) → wpAny c.M A (truthy x) Q E s
theorem soundT_plain {e : Expr} {p : PV} {z : Bool} (he : SoundE c n fi σ e p) (ht : Truth c n p z) (hp : ∀ (env : Env) (whole : Sem Value), isTrue e env whole = (do let v ← whole; standAt e.pos; holding [v] (truthy v))) : SoundT c n fi σ e z :=
  fun A s W mu val Q E hA hP hJ hT hR k => isTrue_plain (he A s W mu val _ _ hA hP hJ hT hR fun v₁ h₁ tk₁ p₁ s₁ d₁ => ht A _ W v₁ _ _ hA p₁ s₁.j d₁ fun h₂ tk₂ p₂ s₂ => k _ _ p₂ (s₁.trans s₂)) (hp _ _)
theorem truth_bool {b : Bool} : Truth c n (.bool b) b := fun A s W x Q E hA hP hJ d k => by
  unfold Den at d
  subst d
  exact wpAny_truthy_bool (k s.heap s.toks hP (.refl hJ))
theorem truth_none : Truth c n .none false := fun A s W x Q E hA hP hJ d k => by
  unfold Den at d
  subst d
  exact truthy_none (k s.heap s.toks hP (.refl hJ))

/-- several expressions, one after the other -/
inductive SoundEs (c : Cx) (n : Nat) (fi : FI) (σ : Sg) : List Expr → List PV → Prop where
  | nil : SoundEs c n fi σ [] []
  | cons {x : Expr} {p : PV} {xs : List Expr} {ps : List PV} : SoundE c n fi σ x p → (∀ e q, x ≠ .Starred e q) → SoundEs c n fi σ xs ps → SoundEs c n fi σ (x :: xs) (p :: ps)

theorem starEach_plain {env : Env} {x : Expr} {xs : List Expr} (h : ∀ e q, x ≠ .Starred e q) : starEach (x :: xs) env = (false, eval x env) :: starEach xs env := by
  cases x <;> first | rfl | exact absurd rfl (h _ _)

theorem SoundEs.spliced {pos : Pos} {A : Around} {W mu : Addr → Prop} {val : Vals} {E : Value → Shared → Prop} {xs : List Expr} {ps : List PV} {s : Shared} {Q : List Value → Shared → Prop} (H : SoundEs c n fi σ xs ps) (hA : Room A n) (hT : TW c W) (hP : 0 < s.toks) (hJ : J c s.heap) (hR : Rel c W mu s.heap fi val σ)
    (k : ∀ vs h' tk, 0 < tk → Step c s.heap h' → DenL h' W ps vs → Q vs { s with heap := h', toks := tk }) : wpAny c.M A (PySem.spliced (backTo pos (starEach xs fi.env))) Q E s := by
  induction H generalizing s Q with
  | nil => exact Calls.spliced_nil (k [] s.heap s.toks hP (.refl hJ) DenL.nil)
  | cons hx hs _ ih =>
    rw [starEach_plain hs]
    refine Calls.spliced_cons (hx A s W mu val _ _ hA hP hJ hT hR fun v₁ h₁ tk₁ p₁ s₁ d₁ => ?_)
    exact ih p₁ s₁.j (hR.step hT s₁) fun vs h₂ tk₂ p₂ s₂ d₂ => k _ _ _ p₂ (s₁.trans s₂) (DenL.cons (d₁.step hT s₂) d₂)

theorem sound_tup {es : List Expr} {k : Nat} {pos : Pos} {ps : List PV} (h : SoundEs c n fi σ es ps) (hf : ps.length ≤ 100000) : SoundE c n fi σ (.Tuple es k pos) (.tup ps) :=
  fun A s W mu val Q E hA hP hJ hT hR kk => Tuple_ (h.spliced hA hT hP hJ hR fun vs h₁ tk₁ p₁ s₁ d₁ => wpAny_newTuple (KontE.tuple (KontE.next kk s₁) s₁.j (WEx.step hR.wex s₁) d₁ (by first | exact p₁ | exact Nat.succ_pos _)) (by
    have := d₁.length
    rw [sizeLine_eq]; omega))
theorem sound_lst {es : List Expr} {pos : Pos} {ps : List PV} (h : SoundEs c n fi σ es ps) (hf : ps.length ≤ 100000) : SoundE c n fi σ (.List es pos) (.lst ps) :=
  fun A s W mu val Q E hA hP hJ hT hR kk => List_ (h.spliced hA hT hP hJ hR fun vs h₁ tk₁ p₁ s₁ d₁ => wpAny_newObj_type (KontE.list (KontE.next kk s₁) s₁.j (WEx.step hR.wex s₁) d₁ (by first | exact p₁ | exact Nat.succ_pos _)) (by
    have := d₁.length
    show vs.toArray.size ≤ sizeLine
    rw [List.size_toArray, sizeLine_eq]; omega))

end Mine
end

section
open PySem PySem.W PyProof.Rows
set_option Elab.async false
set_option linter.unusedVariables false
namespace Mine

variable {c : Cx} {n : Nat}

theorem den_int {h : Heap} {W : Addr → Prop} {i : Int} {v : Value} (d : Den h W (.int i) v) : ∃ t, v = .int i t := by unfold Den at d; exact d
theorem den_str {h : Heap} {W : Addr → Prop} {l : List Nat} {v : Value} (d : Den h W (.str l) v) : ∃ t, v = .str ⟨l.toArray⟩ t := by unfold Den at d; exact d
theorem den_bytes {h : Heap} {W : Addr → Prop} {l : List UInt8} {v : Value} (d : Den h W (.bytes l) v) : ∃ t, v = .bytes l.toArray t := by unfold Den at d; exact d
theorem den_bool {h : Heap} {W : Addr → Prop} {b : Bool} {v : Value} (d : Den h W (.bool b) v) : v = .bool b := by unfold Den at d; exact d
theorem den_none {h : Heap} {W : Addr → Prop} {v : Value} (d : Den h W .none v) : v = .none := by unfold Den at d; exact d
inductive LstAt (h : Heap) (W : Addr → Prop) (l : List PV) (v : Value) : Prop where
  | mk (a : Addr) (vs : List Value) (n : Nat) (e : v = .ref a) (w : ¬ W a) (g : h.get? a = some (listO vs n)) (d : DenL h W l vs) : LstAt h W l v
theorem den_lst {h : Heap} {W : Addr → Prop} {l : List PV} {v : Value} (d : Den h W (.lst l) v) : LstAt h W l v := by
  unfold Den at d
  obtain ⟨a, vs, n, e, w, g, d⟩ := d
  exact ⟨a, vs, n, e, w, g, d⟩
inductive TupAt (h : Heap) (W : Addr → Prop) (l : List PV) (v : Value) : Prop where
  | mk (a : Addr) (vs : List Value) (n : Nat) (e : v = .ref a) (w : ¬ W a) (g : h.get? a = some (tupO vs n)) (d : DenL h W l vs) : TupAt h W l v
theorem den_tup {h : Heap} {W : Addr → Prop} {l : List PV} {v : Value} (d : Den h W (.tup l) v) : TupAt h W l v := by
  unfold Den at d
  obtain ⟨a, vs, n, e, w, g, d⟩ := d
  exact ⟨a, vs, n, e, w, g, d⟩
theorem den_mtch {h : Heap} {W : Addr → Prop} {l : List Nat} {sp : List Int} {v : Value} (d : Den h W (.mtch l sp) v) : ∃ a, v = .ref a ∧ ¬ W a ∧ IsMtch h W a l sp := by unfold Den at d; exact d
inductive ClsAt (h : Heap) (W : Addr → Prop) (l : List (Int × Int)) (v : Value) : Prop where
  | mk (a : Addr) (vs : List Value) (n : Nat) (f : Tok → Int) (e : v = .ref a) (w : ¬ W a) (g : h.get? a = some (listO vs n)) (d : CellL h W f l vs) : ClsAt h W l v
theorem den_cells {h : Heap} {W : Addr → Prop} {l : List (Int × Int)} {v : Value} (d : Den h W (.cells l) v) : ClsAt h W l v := by
  unfold Den at d
  obtain ⟨a, vs, n, f, e, w, g, d⟩ := d
  exact ⟨a, vs, n, f, e, w, g, d⟩

theorem ext_le {s : Shared} (hp : 0 < s.toks) (k : Nat) : 0 < s.toks + k := Nat.lt_of_lt_of_le hp (Nat.le_add_right _ _)

theorem lift {α : Type} {M : Model} {A : Around} {s : Shared} {t : Sem α} {Q : α → Shared → Prop} {E : Value → Shared → Prop} (hp : 0 < s.toks) (h : wpAny M A t (fun a s' => 0 < s'.toks → Q a s') E s) : wpAny M A t Q E s :=
  wpAny_with_toks (n := 1) hp (wpAny_mono h (fun a s' q r => q r) fun _ _ e _ => e)

noncomputable def opOf : BOp → Operator
  | .add => .Add | .sub => .Sub | .mul => .Mult | .fdiv => .FloorDiv | .mod => .Mod | .pow => .Pow | .shl => .LShift | .shr => .RShift | .bor => .BitOr

theorem small_out {i : Int} (h : small i = true) : -(2 ^ 62) < i ∧ i < 2 ^ 62 := by simpa [small] using h
theorem fits_out {k : Nat} (h : fits k = true) : k ≤ 100000 := by simpa [fits] using h
theorem small_abs {i : Int} (h : small i = true) : i.natAbs < 2 ^ 64 := by have := small_out h; omega

theorem isList_of {h : Heap} {a : Addr} {vs : List Value} {k : Nat} (e : h.get? a = some (listO vs k)) : h.IsList a vs.toArray := ⟨_, e, rfl, _, rfl⟩
theorem str_add (l m : List Nat) : (⟨l.toArray⟩ : PySem.Str) ++ ⟨m.toArray⟩ = ⟨(l ++ m).toArray⟩ := by
  show PySem.Str.append _ _ = _
  simp [PySem.Str.append]
theorem str_len (l : List Nat) : (⟨l.toArray⟩ : PySem.Str).length = l.length := rfl

theorem mul_list_any {prog : Program} {w : World} {A : Around} {s : Shared} {E : Value → Shared → Prop} {l : Addr} {items : Array Value} {k : Nat} {x : Int} {u : Tok} {Q : Value → Shared → Prop}
    (hl : s.heap.get? l = some { cls := .type "list", dict := none, data := .seq items k, slots := #[] })
    (hlo : -(2 ^ 63 : Int) ≤ x) (hhi : x < 2 ^ 63) (hsz : items.size * x.toNat ≤ 2 ^ 24)
    (h : Q (.ref s.heap.objs.size) { s with heap := s.heap.push { cls := .type "list", data := .seq (List.foldl (fun x1 x2 => x1 ++ x2) #[] (List.replicate (if items.isEmpty = true then 0 else x.toNat) items)) } }) :
    wpAny (model prog w) A (binaryOp .Mult (.ref l) (.int x u)) Q E s :=
  wpAny_binaryOp_repeat_ref (T := "list") (U := "int") (by decide) ⟨_, hl, rfl⟩ (fun s' => typeIs_int s' x u) noFill_list_mul F.fills_int_mul F.slot_int_rmul repeat_list F.slot_int_index.lookup
    (call_meets F.slot_int_rmul (typeIs_int s x u) F.entry_int_rmul (F.args_int_rmul_2 _ _) (int___rmul___int_list x u l items k)
      ⟨hl, rfl, ⟨_, hl, rfl⟩, call_meets F.slot_list_mul ⟨_, hl, rfl⟩ F.entry_list_mul (F.args_list_mul_2 _ _)
        (AutoListH.list___mul___list_int_3 l items k x u (by simp [Builtin.List.listFitsIndex]; omega) (by omega) (by simp [Builtin.List.listTooLong, sizeLine]; omega))
        ⟨hl, h⟩⟩)

theorem foldl_rep (vs : List Value) : ∀ (k : Nat) (a : Array Value), (List.replicate k vs.toArray).foldl (fun x y => x ++ y) a = a ++ (List.replicate k vs).flatten.toArray
  | 0, a => by simp
  | k + 1, a => by
    rw [List.replicate_succ, List.foldl_cons, foldl_rep vs k]
    simp [List.replicate_succ, Array.append_assoc]

/-- an operation on two ints -/
theorem val2_ints {t : Value → Value → Sem Value} {f : Int → Int → Option PV} {a b p : PV} (h : ∀ (i j : Int) (t₁ u₁ : Tok) (A : Around) (s : Shared) (Q E : Value → Shared → Prop), f i j = some p → 0 < s.toks → (∀ k, p = .int k → ∀ t' tk, 0 < tk → Q (.int k t') { s with toks := tk }) → wpAny c.M A (t (.int i t₁) (.int j u₁)) Q E s)
    (e : (oInt a fun i => oInt b fun j => f i j) = some p) : Val2 c n t a b p :=
  oInt_out e fun i ha e => oInt_out e fun j hb e => by
    subst ha hb
    intro A s W x y Q E hA hP hJ hT hW dx dy k
    obtain ⟨t₁, rfl⟩ := den_int dx; obtain ⟨u₁, rfl⟩ := den_int dy
    exact h i j t₁ u₁ A s Q E e hP fun k' hk t' tk hp => (by subst hk; exact KontE.int k hJ hp)

theorem val2_add {a b p : PV} (e : addPV a b = some p) : Val2 c n (binaryOp .Add) a b p := by
  cases a <;> try cases e
  · refine oInt_out e fun j h e1 => so_out e1 fun e2 => ?_
    clear e
    subst h e2
    intro A s W x y Q E hA hP hJ hT hW dx dy k
    obtain ⟨t, rfl⟩ := den_int dx; obtain ⟨u, rfl⟩ := den_int dy
    exact add_int (k.int hJ (Nat.succ_pos _))
  · refine oStr_out e fun m h e1 => if_out e1 fun hf e1 => so_out e1 fun e2 => ?_
    clear e
    subst h e2
    intro A s W x y Q E hA hP hJ hT hW dx dy k
    obtain ⟨t, rfl⟩ := den_str dx; obtain ⟨u, rfl⟩ := den_str dy
    exact lift hP (PyProof.Rows.add_str (fun t' tk hp => by rw [str_add]; exact k.str hJ hp) (by
      have := fits_out hf
      rw [str_len, str_len, sizeLine_eq]; omega))
  · refine oByt_out e fun m h e1 => if_out e1 fun hf e1 => so_out e1 fun e2 => ?_
    clear e
    subst h e2
    intro A s W x y Q E hA hP hJ hT hW dx dy k
    obtain ⟨t, rfl⟩ := den_bytes dx; obtain ⟨u, rfl⟩ := den_bytes dy
    exact lift hP (KBy.add_bytes (by have := fits_out hf; simp; omega) (fun t' tk hp => by rw [List.append_toArray]; exact k.bytes hJ hp))
  · refine oLst_out e fun m h e1 => if_out e1 fun hf e1 => so_out e1 fun e2 => ?_
    clear e
    subst h e2
    intro A s W x y Q E hA hP hJ hT hW dx dy k
    obtain ⟨a, vs, n1, rfl, wa, ga, da⟩ := den_lst dx; obtain ⟨b, us, n2, rfl, wb, gb, db⟩ := den_lst dy
    have e1 := da.length; have e2 := db.length; have e3 := fits_out hf
    refine P.add_list (items := vs.toArray) (items2 := us.toArray) ga gb ?_ (by simp [sizeLine_eq]; omega)
    simp only [List.append_toArray]
    exact k.list hJ hW (da.append db) hP

theorem val2_mul {a b p : PV} (e : mulPV a b = some p) : Val2 c n (binaryOp .Mult) a b p := by
  cases a <;> try cases e
  · refine oInt_out e fun j h e1 => if_out e1 fun hf e1 => so_out e1 fun e2 => ?_
    clear e
    subst h e2
    intro A s W x y Q E hA hP hJ hT hW dx dy k
    obtain ⟨t, rfl⟩ := den_int dx; obtain ⟨u, rfl⟩ := den_int dy
    have := small_out (Bool.and_eq_true_iff.mp hf).1
    exact mul_int (k.int hJ (Nat.succ_pos _)) (IntMulOk.of_left (intBits_le_64 (by omega) (by omega)))
  · refine oInt_out e fun j h e1 => if_out e1 fun hf e1 => so_out e1 fun e2 => ?_
    clear e
    subst h e2
    intro A s W x y Q E hA hP hJ hT hW dx dy k
    simp only [Bool.and_eq_true, decide_eq_true_eq] at hf
    obtain ⟨a, vs, n1, rfl, wa, ga, da⟩ := den_lst dx; obtain ⟨u, rfl⟩ := den_int dy
    have e1 := da.length; have e3 := fits_out hf.2
    refine mul_list_any (items := vs.toArray) ga (by omega) (by omega) (by simp [e1]; omega) ?_
    have : List.foldl (fun x1 x2 => x1 ++ x2) #[] (List.replicate (if vs.toArray.isEmpty = true then 0 else j.toNat) vs.toArray) = (List.replicate j.toNat vs).flatten.toArray := by
      rw [foldl_rep]
      cases vs with
      | nil => simp
      | cons v r => simp
    rw [this]
    exact k.list hJ hW (da.replicate _) hP

theorem bor_nat {i j : Int} (hi : 0 ≤ i) (hj : 0 ≤ j) : Builtin.bitOr i j = ((i.toNat ||| j.toNat : Nat) : Int) := by
  obtain ⟨a, rfl⟩ := Int.eq_ofNat_of_zero_le hi
  obtain ⟨b, rfl⟩ := Int.eq_ofNat_of_zero_le hj
  have n1 : ∀ a : Nat, decide (0 ≤ Builtin.bitNot (a : Int)) = false := fun a => by simp [Builtin.bitNot]; omega
  have n2 : ∀ a : Int, Builtin.bitNot (Builtin.bitNot a) = a := fun a => by simp [Builtin.bitNot]; omega
  simp [Builtin.bitOr, Builtin.bitAnd, n1, n2]

theorem and2 {a b : Prop} [Decidable a] [Decidable b] (h : (decide a && decide b) = true) : a ∧ b := by simpa using h

theorem val2_bin {op : BOp} {a b p : PV} (e : binPV op a b = some p) : Val2 c n (binaryOp (opOf op)) a b p := by
  cases op
  · exact val2_add e
  · exact val2_ints (fun i j t u A s Q E e hP k => sub_int (k _ (Option.some.inj e).symm _ _ (Nat.succ_pos _))) e
  · exact val2_mul e
  · refine val2_ints (fun i j t u A s Q E e hP k => if_out e fun hf e => so_out e fun e => ?_) e
    have := and2 hf
    refine floordiv_int (hp := .inl (PyProof.noPylong_small (by omega))) (by omega) ?_
    rw [Int.fdiv_eq_ediv_of_nonneg _ (by omega)]
    exact k _ e.symm _ _ (Nat.succ_pos _)
  · refine val2_ints (fun i j t u A s Q E e hP k => if_out e fun hf e => so_out e fun e => ?_) e
    have hb := of_decide_eq_true hf
    refine mod_int' (Int.ne_of_gt hb) ?_
    rw [Int.fmod_eq_emod_of_nonneg _ (Int.le_of_lt hb)]
    exact k _ e.symm _ _ (Nat.succ_pos _)
  · refine val2_ints (fun i j t u A s Q E e hP k => if_out e fun hf e => so_out e fun e => ?_) e
    simp only [Bool.and_eq_true, decide_eq_true_eq] at hf
    exact pow_int_small (by omega) (by omega) (by omega) (k _ e.symm _ _ (Nat.succ_pos _))
  · refine val2_ints (fun i j t u A s Q E e hP k => if_out e fun hf e => so_out e fun e => ?_) e
    simp only [Bool.and_eq_true, decide_eq_true_eq] at hf
    have := intBits_le_64 (k := i) (by omega) (by omega)
    exact lshift_int (by omega) (by omega) (k _ e.symm _ _ (Nat.succ_pos _))
  · refine val2_ints (fun i j t u A s Q E e hP k => if_out e fun hf e => so_out e fun e => ?_) e
    simp only [Bool.and_eq_true, decide_eq_true_eq] at hf
    refine rshift_int (by omega) ?_
    rw [Int.fdiv_eq_ediv_of_nonneg _ (Int.pow_nonneg (by decide))]
    exact k _ e.symm _ _ (Nat.succ_pos _)
  · refine val2_ints (fun i j t u A s Q E e hP k => if_out e fun hf e => so_out e fun e => ?_) e
    have hf := and2 (Bool.and_eq_true_iff.mp (Bool.and_eq_true_iff.mp hf).1).1
    refine or_int ?_
    rw [bor_nat hf.1 hf.2]
    exact k _ e.symm _ _ (Nat.succ_pos _)
end Mine
end

section
open PySem PySem.W PyProof.Rows
set_option Elab.async false
set_option linter.unusedVariables false
namespace Mine

variable {c : Cx} {n : Nat}

mutual
theorem reads_of {h : Heap} {W : Addr → Prop} : ∀ {p : PV} {d : PyData} {v : Value}, toD p = some d → Den h W p v → ∃ as, Reads h v d as
  | .none, _, _, e, _ => no1 e
  | .bool b, _, v, e, d => so_out e fun e => by rw [← e, den_bool d]; exact ⟨_, .bool b⟩
  | .int i, _, v, e, d => so_out e fun e => by
    obtain ⟨t, rfl⟩ := den_int d; exact e ▸ ⟨_, .int i t⟩
  | .str l, _, v, e, d => so_out e fun e => by
    obtain ⟨t, rfl⟩ := den_str d; exact e ▸ ⟨_, .str _ t⟩
  | .bytes _, _, _, e, _ => no1 e
  | .mtch _ _, _, _, e, _ => no1 e
  | .cells _, _, _, e, _ => no1 e
  | .tup l, _, v, e, d => mp_out e fun x hx e => by
    obtain ⟨a, vs, m, rfl, _, hg, hd⟩ := den_tup d
    obtain ⟨as, hr⟩ := readsL_of hx hd
    exact e ▸ ⟨_, .tuple hg rfl rfl hr⟩
  | .lst l, _, v, e, d => mp_out e fun x hx e => by
    obtain ⟨a, vs, m, rfl, _, hg, hd⟩ := den_lst d
    obtain ⟨as, hr⟩ := readsL_of hx hd
    exact e ▸ ⟨_, .list hg rfl rfl hr⟩
theorem readsL_of {h : Heap} {W : Addr → Prop} : ∀ {p : List PV} {d : List PyData} {v : List Value}, toDL p = some d → DenL h W p v → ∃ as, ReadsAll h v d as
  | [], _, _, e, d => so_out e fun e => by rw [← e, d.out0]; exact ⟨_, .nil⟩
  | p :: ps, _, v, e, d => bd_out e fun x hx e => mp_out e fun xs hxs e => by
    obtain ⟨u, r, rfl, d1, d2⟩ := d.out
    obtain ⟨as, h1⟩ := reads_of hx d1
    obtain ⟨bs, h2⟩ := readsL_of hxs d2
    exact e ▸ ⟨_, .cons h1 h2⟩
end

theorem ints_of {h : Heap} {W : Addr → Prop} : ∀ {p : List PV} {is : List Int} {v : List Value}, intsOf p = some is → DenL h W p v → IntsAre v is
  | [], _, _, e, d => so_out e fun e => by rw [← e, d.out0]; exact .nil
  | p :: ps, _, _, e, d => by
    cases p with
    | int i =>
      exact mp_out e fun xs hx e => by
        obtain ⟨u, r, rfl, d1, d2⟩ := d.out
        obtain ⟨t, rfl⟩ := den_int d1
        exact e ▸ .cons i t (ints_of hx d2)
    | _ => exact no1 e

theorem str_beq (x y : List Nat) : ((⟨x.toArray⟩ : PySem.Str) == ⟨y.toArray⟩) = (x == y) := by
  rw [Bool.eq_iff_iff]; simp
theorem bool_beq (x y : Bool) : (Value.bool x == Value.bool y) = (x == y) := by
  cases x <;> cases y <;> rfl
theorem eqD_out {a b : PV} {z : Bool} {P : Prop} (e : eqD a b = some z) (d : ∀ u v, toD a = some u → toD b = some v → PySem.SeqAt.shaped u = true → PySem.SeqAt.shaped v = true → PyData.eqv u v = z → P) : P :=
  bd_out e fun u hu e => bd_out e fun v hv e => if_out e fun hs e => so_out e fun e => d u v hu hv (Bool.and_eq_true_iff.mp hs).1 (Bool.and_eq_true_iff.mp hs).2 e
theorem eq_cases {a b : PV} {z : Bool} {P : Prop} (e : eqPV a b = some z) (s : ∀ x y, a = .str x → b = .str y → (x == y) = z → P) (i : ∀ x y, a = .int x → b = .int y → (x == y) = z → P) (t : ∀ x y, a = .bool x → b = .bool y → (x == y) = z → P)
    (d : ∀ u v, toD a = some u → toD b = some v → PySem.SeqAt.shaped u = true → PySem.SeqAt.shaped v = true → PyData.eqv u v = z → P) : P := by
  cases a with
  | str x => exact oStr_out e fun y hy e => so_out e fun e => s x y rfl hy e
  | int x => exact oInt_out e fun y hy e => so_out e fun e => i x y rfl hy e
  | bool x => exact oBool_out e fun y hy e => so_out e fun e => t x y rfl hy e
  | _ => exact eqD_out e d
theorem val2_eq {a b : PV} {z : Bool} (e : eqPV a b = some z) : Val2 c n (compareOp .Eq) a b (.bool z) := fun A s W x y Q E hA hP hJ hT hW dx dy k =>
  eq_cases e
    (fun l m ha hb q => by
      subst ha hb q
      obtain ⟨t, rfl⟩ := den_str dx; obtain ⟨u, rfl⟩ := den_str dy
      exact eq_str (by rw [str_beq]; exact k.bool hJ hP))
    (fun l m ha hb q => by
      subst ha hb q
      obtain ⟨t, rfl⟩ := den_int dx; obtain ⟨u, rfl⟩ := den_int dy
      exact eq_int (k.bool hJ hP))
    (fun l m ha hb q => by
      subst ha hb q
      rw [den_bool dx, den_bool dy]
      exact eq_bool (k.bool hJ hP))
    fun u v hu hv s1 s2 q => by
      subst q
      obtain ⟨as, ra⟩ := reads_of hu dx
      obtain ⟨bs, rb⟩ := reads_of hv dy
      exact eq_dataH ra rb s1 s2 (by have := hA.units; omega) (k.bool hJ hP)
theorem val2_ne {a b : PV} {z : Bool} (e : eqPV a b = some z) : Val2 c n (compareOp .NotEq) a b (.bool (!z)) := fun A s W x y Q E hA hP hJ hT hW dx dy k =>
  eq_cases e
    (fun l m ha hb q => by
      subst ha hb q
      obtain ⟨t, rfl⟩ := den_str dx; obtain ⟨u, rfl⟩ := den_str dy
      exact ne_str (by rw [bne, str_beq]; exact k.bool hJ hP))
    (fun l m ha hb q => by
      subst ha hb q
      obtain ⟨t, rfl⟩ := den_int dx; obtain ⟨u, rfl⟩ := den_int dy
      exact ne_int (k.bool hJ hP))
    (fun l m ha hb q => by
      subst ha hb q
      rw [den_bool dx, den_bool dy]
      exact ne_bool (k.bool hJ hP))
    fun u v hu hv s1 s2 q => by
      subst q
      obtain ⟨as, ra⟩ := reads_of hu dx
      obtain ⟨bs, rb⟩ := reads_of hv dy
      exact ne_dataH ra rb s1 s2 (by have := hA.units; omega) (k.bool hJ hP)

noncomputable def copOf : COp → CmpOp
  | .eq => .Eq | .ne => .NotEq | .lt => .Lt | .gt => .Gt | .isa => .Is | .isnt => .IsNot | .inn => .In

/-- what «is» gives -/
structure Same (x y : Value) (z : Bool) : Prop where
  pl : plainIs x y = true
  eq : (x == y) = z
theorem no_of {h : Heap} {W : Addr → Prop} {b : PV} {z : Bool} {y : Value} (e : noPV b = some z) (dy : Den h W b y) : Same .none y z := by
  cases b with
  | none => exact so_out e fun e => by rw [den_none dy, ← e]; exact ⟨rfl, rfl⟩
  | mtch l sp =>
    exact so_out e fun e => by
      obtain ⟨a, rfl, _⟩ := den_mtch dy
      rw [← e]; exact ⟨rfl, rfl⟩
  | _ => exact no1 e
theorem same_of {h : Heap} {W : Addr → Prop} {a b : PV} {z : Bool} {x y : Value} (e : isPV a b = some z) (dx : Den h W a x) (dy : Den h W b y) : Same x y z := by
  cases a with
  | none => rw [den_none dx]; exact no_of e dy
  | bool v =>
    exact oBool_out e fun w hw e1 => so_out e1 fun e2 => by
      subst hw
      rw [den_bool dx, den_bool dy]
      exact ⟨rfl, (bool_beq _ _).trans e2⟩
  | mtch l sp =>
    cases b with
    | none =>
      exact so_out e fun e => by
        obtain ⟨a, rfl, _⟩ := den_mtch dx
        rw [den_none dy, ← e]; exact ⟨rfl, rfl⟩
    | _ => exact no1 e
  | _ => exact no1 e

theorem val2_is {a b : PV} {z : Bool} (e : isPV a b = some z) : Val2 c n (compareOp .Is) a b (.bool z) := fun A s W x y Q E hA hP hJ hT hW dx dy k =>
  have q := same_of e dx dy
  wpAny_is_plain q.pl (q.eq ▸ k.bool hJ hP)
theorem val2_isnt {a b : PV} {z : Bool} (e : isPV a b = some z) : Val2 c n (compareOp .IsNot) a b (.bool (!z)) := fun A s W x y Q E hA hP hJ hT hW dx dy k =>
  have q := same_of e dx dy
  wpAny_isNot_plain q.pl (q.eq ▸ k.bool hJ hP)

theorem val2_cmp {op : COp} {a b : PV} {z : Bool} (e : cmpPV op a b = some z) : Val2 c n (compareOp (copOf op)) a b (.bool z) := by
  cases op
  · exact val2_eq e
  · exact mp_out e fun y q h => h ▸ val2_ne q
  · refine oInt_out e fun i ha e1 => oInt_out e1 fun j hb e2 => so_out e2 fun e3 => ?_
    subst ha hb e3
    intro A s W x y Q E hA hP hJ hT hW dx dy k
    obtain ⟨t, rfl⟩ := den_int dx; obtain ⟨u, rfl⟩ := den_int dy
    exact lt_int (k.bool hJ hP)
  · refine oInt_out e fun i ha e1 => oInt_out e1 fun j hb e2 => so_out e2 fun e3 => ?_
    subst ha hb e3
    intro A s W x y Q E hA hP hJ hT hW dx dy k
    obtain ⟨t, rfl⟩ := den_int dx; obtain ⟨u, rfl⟩ := den_int dy
    exact gt_int (k.bool hJ hP)
  · exact val2_is e
  · exact mp_out e fun y q h => h ▸ val2_isnt q
  · refine oInt_out e fun i ha e1 => oLst_out e1 fun l hb e2 => mp_out e2 fun is q e3 => ?_
    subst ha hb e3
    intro A s W x v Q E hA hP hJ hT hW dx dy k
    obtain ⟨t, rfl⟩ := den_int dx; obtain ⟨a, vs, m, rfl, _, hg, hd⟩ := den_lst dy
    exact in_list_ints (isList_of hg) (ints_of q hd) (k.bool hJ hP)

theorem noBool_mtch : typeLookup (.type "re.Match") "__bool__" = pure none := by rw [typeLookup_type, builtinLookup_eq_fast]; kernel_rfl
theorem noLen_mtch : typeLookup (.type "re.Match") "__len__" = pure none := by rw [typeLookup_type, builtinLookup_eq_fast]; kernel_rfl
theorem truthy_match {prog : Program} {w : World} {A : Around} {s : Shared} {a : Addr} {Q : Bool → Shared → Prop} {E : Value → Shared → Prop} (hT : s.TypeIs (.ref a) "re.Match") (h : Q true s) : wpAny (model prog w) A (truthy (.ref a)) Q E s := by
  unfold truthy
  refine wpAny_bind (wpAny_callSpecial?_none (name := Str.ofString "__bool__") hT noBool_mtch ?_)
  refine wpAny_bind (wpAny_specialOf hT noLen_mtch ?_)
  exact wpAny_pure h
theorem truth_mtch {l : List Nat} {sp : List Int} : Truth c n (.mtch l sp) true := fun A s W x Q E hA hP hJ d k => by
  obtain ⟨a, rfl, _, t, pa, pos, lim, li, ta, m, _, h1, _⟩ := den_mtch d
  exact truthy_match ⟨_, h1, rfl⟩ (k s.heap s.toks hP (.refl hJ))
theorem truth_any {p : PV} {z : Bool} (e : truthPV p = some z) : Truth c n p z := by
  cases p with
  | bool b => exact so_out e fun e => e ▸ truth_bool
  | none => exact so_out e fun e => e ▸ truth_none
  | mtch l sp => exact so_out e fun e => e ▸ truth_mtch
  | _ => exact no1 e
end Mine
end

section
open PySem PySem.W PyProof.Rows
set_option Elab.async false
set_option linter.unusedVariables false
namespace Mine

variable {c : Cx} {n : Nat} {fi : FI} {σ : Sg}

theorem letTemp {prog : Program} {w : World} {A : Around} {s : Shared} {value : Expr} {o r : Value} {Q : Unit → Shared → Prop} {E : Value → Shared → Prop} (h : Q () s) : wpAny (model prog w) A (letTemporaryGo value o r) Q E s := by
  have key : wpAny (model prog w) A (do let _ ← holding [r] (runValue (.builtin "proto.let_go" {})); pure ()) Q E s := by
    refine wpAny_bind (wpAny_holding (wpAny_runValue (codeAny_builtin entry_let_go ?_)))
    rw [Around.under_plainId plain_let_go _]
    exact wpAny_pure (wpAny_pure h)
  unfold letTemporaryGo
  split
  · exact wpAny_pure h
  · exact key
  · exact wpAny_pure h

theorem tail_item {prog : Program} {w : World} {A : Around} {s : Shared} {E : Value → Shared → Prop} {value slice : Expr} {o i : Value} {T id : String} {Q : Value → Shared → Prop} (hT : s.TypeIs o T)
    (hl : typeLookup (.type T) "__getitem__" = pure (some (.builtin id))) (h : wpAny (model prog w) A (getItem o i) Q E s) (hs : ∀ a b p, slice ≠ .Slice a b none p) :
    wpAny (model prog w) A (subscriptTail value slice o i) Q E s := by
  unfold subscriptTail
  refine wpAny_bind ?_
  rw [getitemInPython_of_ne hT.not_modules]
  refine wpAny_bind (wpAny_specialOf hT hl ?_)
  have e : subscripted slice false o i = operate [o, i] (getItem o i) := by
    unfold subscripted
    split
    · exact absurd rfl (hs _ _ _)
    · simp_all
    · rfl
  have fin : wpAny (model prog w) A (subscripted slice false o i) (fun r s₃ => wpAny (model prog w) A (letTemporaryGo value o r >>= fun _ => pure r) Q E s₃) E s := by
    rw [e]
    exact wpAny_operating (wpAny_mono h (fun r s₃ h₃ => wpAny_bind (letTemp (wpAny_pure h₃))) fun _ _ x => x)
  first
    | exact wpAny_pure (wpAny_bind fin)
    | exact wpAny_bind (wpAny_pure (wpAny_bind fin))
    | exact wpAny_bind fin
theorem tail_slice {prog : Program} {w : World} {A : Around} {s : Shared} {E : Value → Shared → Prop} {value : Expr} {lo up : Option Expr} {p : Pos} {o i : Value} {T id : String} {Q : Value → Shared → Prop} (hT : s.TypeIs o T)
    (hl : typeLookup (.type T) "__getitem__" = pure (some (.builtin id))) (h : wpAny (model prog w) A (getItem o i) Q E s) :
    wpAny (model prog w) A (subscriptTail value (.Slice lo up none p) o i) Q E s := by
  unfold subscriptTail
  refine wpAny_bind ?_
  rw [getitemInPython_of_ne hT.not_modules]
  refine wpAny_bind (wpAny_specialOf hT hl ?_)
  have fin : wpAny (model prog w) A (subscripted (.Slice lo up none p) false o i) (fun r s₃ => wpAny (model prog w) A (letTemporaryGo value o r >>= fun _ => pure r) Q E s₃) E s :=
    wpAny_operating (wpAny_mono h (fun r s₃ h₃ => wpAny_bind (letTemp (wpAny_pure h₃))) fun _ _ x => x)
  first
    | exact wpAny_pure (wpAny_bind fin)
    | exact wpAny_bind (wpAny_pure (wpAny_bind fin))
    | exact wpAny_bind fin

theorem seqIndex_nn {k : Int} {m : Nat} (h0 : 0 ≤ k) (h1 : k < m) : seqIndex? k m = some k.toNat := by
  unfold seqIndex?
  simp only [show ¬ k < 0 by omega, if_false]
  simp; omega

theorem and3 {a b : Prop} {z : Bool} [Decidable a] [Decidable b] (h : (decide a && decide b && z) = true) : (a ∧ b) ∧ z = true := by simpa using h
theorem val2_idx {value slice : Expr} (hs : ∀ a b p, slice ≠ .Slice a b none p) {a b p : PV} (e : idxPV a b = some p) : Val2 c n (subscriptTail value slice) a b p := by
  refine oInt_out e fun i hb e1 => ?_
  clear e
  subst hb
  intro A s W x y Q E hA hP hJ hT hW dx dy k
  obtain ⟨u, rfl⟩ := den_int dy
  cases a <;> try cases e1
  · refine if_out e1 fun hc e2 => mp_out e2 fun w hw e3 => ?_
    clear e1 e2
    subst e3
    obtain ⟨t, rfl⟩ := den_bytes dx
    have hc := and3 hc
    have hf := fits_out hc.2
    refine tail_item (typeIs_bytes s _ t) FB.slot_bytes_getitem.lookup (getItem_bytes (by omega) hc.1.1 hc.1.2 ?_) hs
    rw [List.getD_eq_getElem?_getD, hw]
    exact k.int hJ (Nat.succ_pos _)
  · refine if_out e1 fun hc e2 => ?_
    clear e1
    obtain ⟨a, vs, m, rfl, wa, ga, da⟩ := den_tup dx
    have hlen := da.length
    have hc := and3 hc
    have hf := fits_out hc.2
    obtain ⟨v, hv, dv⟩ := da.get e2
    have ht : IsTup s.heap a vs.toArray := ⟨_, ga, rfl, _, rfl⟩
    exact tail_item ht.typeIs slot_tuple_getitem.lookup (getItem_tuple ht (by omega) (by omega) (j := i.toNat) (seqIndex_nn hc.1.1 (by simp; omega)) (by simpa using hv) (k.here hJ s.toks hP dv)) hs
  · refine if_out e1 fun hf e2 => ?_
    clear e1
    obtain ⟨a, vs, m, rfl, wa, ga, da⟩ := den_lst dx
    have hlen := da.length
    have hf := fits_out hf
    split at e2
    · rename_i hc
      have hc := and2 hc
      obtain ⟨v, hv, dv⟩ := da.get e2
      exact tail_item ⟨_, ga, rfl⟩ slot_list_getitem.lookup (wpAny_getItem_list (isList_of ga) hc.1 (by omega) (by simpa using hv) (k.here hJ s.toks hP dv)) hs
    · refine if_out e2 fun hc e3 => ?_
      have hc := and2 hc
      obtain ⟨v, hv, dv⟩ := da.get e3
      exact tail_item ⟨_, ga, rfl⟩ slot_list_getitem.lookup (wpAny_getItem_list_neg (isList_of ga) hc.1 (by simp; omega) (by omega) (by simpa [hlen] using hv) (k.here hJ s.toks hP dv)) hs
  · refine if_out e1 fun hc e2 => mp_out e2 fun w hw e3 => ?_
    clear e1 e2
    subst e3
    obtain ⟨a, vs, m, f, rfl, wa, ga, da⟩ := den_cells dx
    have hlen := da.length
    have hc := and3 hc
    have hf := fits_out hc.2
    obtain ⟨_, hv, ⟨b, m', t, u', wb, gb, _, _, _, _⟩⟩ := da.get hw
    refine tail_item ⟨_, ga, rfl⟩ slot_list_getitem.lookup (wpAny_getItem_list (isList_of ga) hc.1.1 (by omega) (by simpa using hv) (k.here hJ s.toks hP ?_)) hs
    unfold Den
    refine ⟨b, _, _, rfl, wb, gb, ?_⟩
    exact DenL.cons (by unfold Den; exact ⟨_, rfl⟩) (DenL.cons (by unfold Den; exact ⟨_, rfl⟩) DenL.nil)

theorem sound_idx {l r : Expr} {pos : Pos} {a b p : PV} (hl : SoundE c n fi σ l a) (hr : SoundE c n fi σ r b) (e : idxPV a b = some p) (hs : ∀ a b p, r ≠ .Slice a b none p) : SoundE c n fi σ (.Subscript l r pos) p :=
  fun A s W mu val Q E hA hP hJ hT hR k => Subscript_ (hl A s W mu val _ _ hA hP hJ hT hR fun v₁ h₁ tk₁ p₁ s₁ d₁ => hr A _ W mu val _ _ hA p₁ s₁.j hT (hR.step hT s₁) fun v₂ h₂ tk₂ p₂ s₂ d₂ =>
    val2_idx hs e A _ W v₁ v₂ _ _ hA p₂ s₂.j hT (WEx.step (WEx.step hR.wex s₁) s₂) (d₁.step hT s₂) d₂ (KontE.next k (s₁.trans s₂)))

theorem slice_drop (l : List Nat) {k : Int} (h0 : 0 ≤ k) (h1 : k ≤ l.length) : Txt.slice ⟨l.toArray⟩ (some k) none = ⟨(l.drop k.toNat).toArray⟩ := by
  obtain ⟨a, rfl⟩ := Int.eq_ofNat_of_zero_le h0
  have ha : a ≤ l.length := by omega
  have e1 : Builtin.Str.strSliceIndices (some (a : Int)) none 1 l.length = (List.range (l.length - a)).map (fun k => a + k) := by
    rw [StrLaws.sliceIdx_none_hi, StrLaws.strSliceIndices_plain ha (Nat.le_refl _)]
  have e2 : ((List.range (l.length - a)).map (fun k => a + k)).filterMap (l.toArray[·]?) = l.drop a := by
    have := StrLaws.picks l (l.length - a) a (by omega)
    simp only [List.getElem?_toArray]
    rw [this, List.take_of_length_le (by simp)]
  unfold Txt.slice
  rw [str_len, e1]
  split
  · rename_i hc
    simp at hc
    have : a = 0 := by
      by_cases h : l.length = 0
      · omega
      · omega
    subst this; simp
  · rw [e2]; rfl
theorem slice_take (l : List Nat) {k : Int} (h0 : 0 ≤ k) (h1 : k ≤ l.length) : Txt.slice ⟨l.toArray⟩ none (some k) = ⟨(l.take k.toNat).toArray⟩ := by
  obtain ⟨a, rfl⟩ := Int.eq_ofNat_of_zero_le h0
  have ha : a ≤ l.length := by omega
  have e1 : Builtin.Str.strSliceIndices none (some (a : Int)) 1 l.length = (List.range (a - 0)).map (fun k => 0 + k) := by
    rw [StrLaws.sliceIdx_none_lo]; exact StrLaws.strSliceIndices_plain (a := 0) (Nat.zero_le _) ha
  have e2 : ((List.range (a - 0)).map (fun k => 0 + k)).filterMap (l.toArray[·]?) = l.take a := by
    have := StrLaws.picks l (a - 0) 0 (by omega)
    simp only [List.getElem?_toArray]
    rw [this]; simp
  unfold Txt.slice
  rw [str_len, e1]
  split
  · rename_i hc
    simp at hc
    rw [show (a : Int).toNat = a by simp, List.take_of_length_le (by omega)]
  · rw [e2]; rfl

theorem isSlice_new {s : Shared} (a b : Option (Int × Tok)) : (s.heap.push { cls := .type "slice", data := .fields #[partValue a, partValue b, .none] }).IsSlice s.heap.objs.size a b none := ⟨_, Heap.get?_push_size _ rfl, rfl, rfl⟩

theorem getItem_str_sl {A : Around} {s : Shared} {W : Addr → Prop} {l y : List Nat} {t : Tok} {a b : Option (Int × Tok)} {Q E : Value → Shared → Prop} (hP : 0 < s.toks) (hJ : J c s.heap) (hf : l.length ≤ 100000) (hy : y.length ≤ l.length)
    (e : Txt.slice ⟨l.toArray⟩ (a.map (·.1)) (b.map (·.1)) = ⟨y.toArray⟩) (k : KontE c s W (.str y) Q) :
    wpAny c.M A (getItem (.str ⟨l.toArray⟩ t) (.ref s.heap.objs.size)) Q E { s with heap := s.heap.push { cls := .type "slice", data := .fields #[partValue a, partValue b, .none] } } := by
  have st := Step.push hJ { cls := .type "slice", data := .fields #[partValue a, partValue b, .none] }
  refine lift hP (wpAny_getItem_str_slice (isSlice_new (s := s) a b) rfl ?_)
  unfold sliceMade
  unfold Txt.slice at e
  refine post_val_or_str ⟨?_, fun t' tk hp => ?_⟩
  · show PySem.Str.length (if _ then _ else _) ≤ _
    refine Nat.le_trans (Nat.le_of_eq (congrArg PySem.Str.length e)) ?_
    rw [str_len, sizeLine_eq]; omega
  · have : ∀ z : PySem.Str, z = ⟨y.toArray⟩ → Q (.str z t') { s with heap := s.heap.push { cls := .type "slice", data := .fields #[partValue a, partValue b, .none] }, toks := tk } := by
      rintro z rfl
      exact k _ _ tk hp st (by unfold Den; exact ⟨_, rfl⟩)
    exact this _ e

/-- what a slice gives, its bounds known -/
noncomputable def SlOK (c : Cx) (n : Nat) (a : PV) (lo hi : Option Int) (p : PV) : Prop :=
  ∀ (A : Around) (s : Shared) (W : Addr → Prop) (x : Value) (va vb : Option (Int × Tok)) (e : Expr) (el eh : Option Expr) (ps : Pos) (Q E : Value → Shared → Prop), va.map (·.1) = lo → vb.map (·.1) = hi → 0 < s.toks → J c s.heap → TW c W → WEx W s.heap → Den s.heap W a x → KontE c s W p Q →
    wpAny c.M A (subscriptTail e (.Slice el eh none ps) x (.ref s.heap.objs.size)) Q E { s with heap := s.heap.push { cls := .type "slice", data := .fields #[partValue va, partValue vb, .none] } }
theorem isPart (a : Option (Int × Tok)) : IsPart (partValue a) (a.map (·.1)) := by
  cases a with
  | none => exact .none
  | some x => exact .int _ _
theorem slOK_str {l y : List Nat} {lo hi : Option Int} (hf : l.length ≤ 100000) (hy : y.length ≤ l.length) (e : Txt.slice ⟨l.toArray⟩ lo hi = ⟨y.toArray⟩) : SlOK c n (.str l) lo hi (.str y) :=
  fun A s W x va vb _ _ _ _ Q E ha hb hP hJ hT hW d k => by
    obtain ⟨t, rfl⟩ := den_str d
    subst ha hb
    exact tail_slice (typeIs_str _ _ _) F.slot_str_getitem.lookup (getItem_str_sl hP hJ hf hy e k)
theorem slOK_lst {l y : List PV} {lo hi : Option Int} (hf : l.length ≤ 100000) (g : List Value → List Value) (hg : ∀ vs : List Value, slicePick vs.toArray lo hi none = (g vs).toArray) (hd : ∀ (h : Heap) (W : Addr → Prop) (vs : List Value), DenL h W l vs → DenL h W y (g vs)) : SlOK c n (.lst l) lo hi (.lst y) :=
  fun A s W x va vb _ _ _ _ Q E ha hb hP hJ hT hW d k => by
    obtain ⟨a, vs, m, rfl, wa, ga, da⟩ := den_lst d
    have hlen := da.length
    have st := Step.push hJ { cls := .type "slice", data := .fields #[partValue va, partValue vb, .none] }
    refine tail_slice (T := "list") ⟨_, Heap.get?_push_of_some _ ga, rfl⟩ slot_list_getitem.lookup (wpAny_getItem_list_slice (isList_of (Heap.get?_push_of_some _ ga)) (Heap.IsSliceOf.new ..) (isPart va) (isPart vb) .none (by simp) ?_ (by simp [sizeLine_eq]; omega))
    rw [ha, hb, hg]
    exact KontE.list (KontE.next k st) st.j (WEx.step hW st) (hd _ _ _ (da.step hT st)) hP
theorem slice_lo {a p : PV} {i : Int} (e : sliceLo a i = some p) : SlOK c n a (some i) none p := by
  cases a <;> try cases e
  · refine if_out e fun hc e => so_out e fun e => e ▸ ?_
    have hc := and3 hc
    exact slOK_str (fits_out hc.2) (by simp) (slice_drop _ hc.1.1 hc.1.2)
  · refine if_out e fun hc e => so_out e fun e => e ▸ ?_
    have hc := Bool.and_eq_true_iff.mp hc
    obtain ⟨j, rfl⟩ := Int.eq_ofNat_of_zero_le (of_decide_eq_true hc.1)
    exact slOK_lst (fits_out hc.2) (fun vs => vs.drop j) (fun vs => slicePick_from' _ _) fun _ _ _ d => d.drop _
theorem slice_hi {a p : PV} {i : Int} (e : sliceHi a i = some p) : SlOK c n a none (some i) p := by
  cases a <;> try cases e
  · refine if_out e fun hc e => so_out e fun e => e ▸ ?_
    have hc := and3 hc
    exact slOK_str (fits_out hc.2) (by simp; omega) (slice_take _ hc.1.1 hc.1.2)
  · refine if_out e fun hc e => so_out e fun e => e ▸ ?_
    have hc := Bool.and_eq_true_iff.mp hc
    obtain ⟨j, rfl⟩ := Int.eq_ofNat_of_zero_le (of_decide_eq_true hc.1)
    exact slOK_lst (fits_out hc.2) (fun vs => vs.take j) (fun vs => slicePick_upto' _ _) fun _ _ _ d => d.take _

theorem sound_slice_lo {l r : Expr} {pos p' : Pos} {a b p : PV} (hl : SoundE c n fi σ l a) (hr : SoundE c n fi σ r b) (e : slicePV a (some b) none = some p) : SoundE c n fi σ (.Subscript l (.Slice (some r) none none p') pos) p :=
  oInt_out e fun i hb e1 A s W mu val Q E hA hP hJ hT hR k => by
    clear e
    subst hb
    refine Subscript_ (hl A s W mu val _ _ hA hP hJ hT hR fun v₁ h₁ tk₁ p₁ s₁ d₁ => wpAny_Slice ?_)
    rw [evalPart_some]
    refine hr A _ W mu val _ _ hA p₁ s₁.j hT (hR.step hT s₁) fun v₂ h₂ tk₂ p₂ s₂ d₂ => ?_
    rw [evalPart_none]
    refine wpAny_pure (wpAny_pure ?_)
    obtain ⟨u, rfl⟩ := den_int d₂
    exact slice_lo (n := n) e1 A _ W _ (some (i, u)) none _ _ _ _ _ _ rfl rfl p₂ s₂.j hT (WEx.step (WEx.step hR.wex s₁) s₂) (d₁.step hT s₂) (KontE.next k (s₁.trans s₂))
theorem sound_slice_hi {l r : Expr} {pos p' : Pos} {a b p : PV} (hl : SoundE c n fi σ l a) (hr : SoundE c n fi σ r b) (e : slicePV a none (some b) = some p) : SoundE c n fi σ (.Subscript l (.Slice none (some r) none p') pos) p :=
  oInt_out e fun i hb e1 A s W mu val Q E hA hP hJ hT hR k => by
    clear e
    subst hb
    refine Subscript_ (hl A s W mu val _ _ hA hP hJ hT hR fun v₁ h₁ tk₁ p₁ s₁ d₁ => wpAny_Slice ?_)
    rw [evalPart_none]
    refine wpAny_pure ?_
    rw [evalPart_some]
    refine hr A _ W mu val _ _ hA p₁ s₁.j hT (hR.step hT s₁) fun v₂ h₂ tk₂ p₂ s₂ d₂ => wpAny_pure ?_
    obtain ⟨u, rfl⟩ := den_int d₂
    exact slice_hi (n := n) e1 A _ W _ none (some (i, u)) _ _ _ _ _ _ rfl rfl p₂ s₂.j hT (WEx.step (WEx.step hR.wex s₁) s₂) (d₁.step hT s₂) (KontE.next k (s₁.trans s₂))

end Mine
end

section
open PySem PySem.W PyProof.Rows
set_option Elab.async false
set_option linter.unusedVariables false
namespace Mine

variable {c : Cx} {n : Nat} {fi : FI} {σ : Sg}

/-- a global name's value -/
noncomputable def Glob (c : Cx) (x : PySem.Str) (v : Value) : Prop :=
  ∀ (A : Around) (s : Shared) (env : Env) (pos : Pos) (Q E : Value → Shared → Prop), J c s.heap → env.scope.kind = .function → env.kindOf x = some .globalImplicit → env.globals = mainGlobals → env.builtins = builtinsNs →
    Q v s → wpAny c.M A (eval (.Name x pos) env) Q E s
theorem Glob.of_global {x : PySem.Str} {v : Value} {mg} (hg : c.G.Ns mainGlobals mg) (hv : mg x = some v) (hd : (x == ("__debug__" : PySem.Str)) = false) : Glob c x v :=
  fun A s env pos Q E hJ hk hx h1 h2 q => Calls.Name_function_global hk hx (Calls.loadGlobal_global (h1 ▸ hg.at' fun o e => hJ.ext _ o e) hv q) hd
theorem Glob.of_builtin {x : PySem.Str} {v : Value} {mg mb} (hg : c.G.Ns mainGlobals mg) (hm : mg x = none) (hb : c.G.Ns builtinsNs mb) (hv : mb x = some v) (hd : (x == ("__debug__" : PySem.Str)) = false) : Glob c x v :=
  fun A s env pos Q E hJ hk hx h1 h2 q => Calls.Name_function_global hk hx (Calls.loadGlobal_builtin (h1 ▸ hg.at' fun o e => hJ.ext _ o e) hm (h2 ▸ hb.at' fun o e => hJ.ext _ o e) hv q) hd

theorem sound_glob {x : PySem.Str} {v : Value} {p : PV} {pos : Pos} (hg : Glob c x v) (hk : fi.env.kindOf x = some .globalImplicit) (hd : ∀ h W, Den h W p v) : SoundE c n fi σ (.Name x pos) p :=
  fun A s W mu val Q E hA hP hJ hT hR k => hg A s _ pos _ _ hJ hR.kind hk hR.gl hR.bl (k.here hJ s.toks hP (hd _ _))

theorem SoundEs.any {pos : Pos} {env : Env} : ∀ {xs : List Expr} {ps : List PV}, SoundEs c n fi σ xs ps → (backTo pos (starEach xs env)).any (·.1) = false
  | _, _, .nil => rfl
  | _, _, .cons (xs := xs) hx hs hxs => by
    rw [starEach_plain hs]
    have := SoundEs.any (pos := pos) (env := env) hxs
    show (false || (backTo pos (starEach xs env)).any (·.1)) = false
    rw [this]; rfl

theorem SoundEs.args {pos : Pos} {f : Value} {A : Around} {W mu : Addr → Prop} {val : Vals} {E : Value → Shared → Prop} (hA : Room A n) (hT : TW c W) {xs : List Expr} {ps : List PV} {s : Shared} {Q : Args → Shared → Prop} (h : SoundEs c n fi σ xs ps) (hne : ps ≠ []) (hP : 0 < s.toks) (hJ : J c s.heap)
    (hR : Rel c W mu s.heap fi val σ) (k : ∀ vs h' tk, 0 < tk → Step c s.heap h' → DenL h' W ps vs → Q ⟨vs, []⟩ { s with heap := h', toks := tk }) : wpAny c.M A (evalArgs f true (backTo pos (starEach xs fi.env)) []) Q E s := by
  have h' := h.spliced (pos := pos) (E := E) hA hT hP hJ hR (Q := fun vs s' => Q ⟨vs, []⟩ s') k
  cases h with
  | nil => exact absurd rfl hne
  | cons hx hs hxs =>
    rw [starEach_plain hs] at h' ⊢
    exact Calls.evalArgs_plain h'

/-- a call of a function of the text -/
theorem sound_call {x : PySem.Str} {p pos : Pos} {f : Addr} {xs : List Expr} {ps : List PV} {res : PV} (hg : Glob c x (.ref f)) (hk : fi.env.kindOf x = some .globalImplicit) (hf : ∃ o fd, c.G.get? f = some o ∧ o.data = .func fd)
    (hs : SoundEs c n fi σ xs ps) (hne : ps ≠ []) (hok : FnOK c n f ps res) : SoundE c n fi σ (.Call (.Name x p) xs [] pos) res :=
  fun A s W mu val Q E hA hP hJ hT hR k => by
    refine Call_Name rfl (hg A s _ p _ _ hJ hR.kind hk hR.gl hR.bl ?_)
    obtain ⟨o, fd, ho, hd⟩ := hf
    refine Calls.callWith_function (o := o) (fd := fd) (hs.args hA hT hne hP hJ hR fun vs h₁ tk₁ p₁ s₁ d₁ => ⟨⟨s₁.j.ext _ _ ho, hd⟩, ?_⟩)
    exact hok A _ W vs _ _ hA p₁ s₁.j hT (WEx.step hR.wex s₁) d₁ (KontE.next k s₁)

theorem sound_bi {x : PySem.Str} {p pos : Pos} {id : String} {xs : List Expr} {ps : List PV} {res : PV} (hg : Glob c x (.builtin id)) (hk : fi.env.kindOf x = some .globalImplicit)
    (hs : SoundEs c n fi σ xs ps) (hne : ps ≠ []) (hok : ValL c n (fun vs => call (.builtin id) vs) ps res) : SoundE c n fi σ (.Call (.Name x p) xs [] pos) res :=
  fun A s W mu val Q E hA hP hJ hT hR k => by
    refine Call_Name rfl (hg A s _ p _ _ hJ hR.kind hk hR.gl hR.bl ?_)
    refine Calls.callWith_builtin hs.any (hs.args hA hT hne hP hJ hR fun vs h₁ tk₁ p₁ s₁ d₁ => ?_)
    exact hok A _ W vs _ _ hA p₁ s₁.j hT (WEx.step hR.wex s₁) d₁ (KontE.next k s₁)
theorem sound_ty {x : PySem.Str} {p pos : Pos} {id : String} {xs : List Expr} {ps : List PV} {res : PV} (hg : Glob c x (.type id)) (hk : fi.env.kindOf x = some .globalImplicit)
    (hs : SoundEs c n fi σ xs ps) (hne : ps ≠ []) (hok : ValL c n (fun vs => call (.type id) vs) ps res) : SoundE c n fi σ (.Call (.Name x p) xs [] pos) res :=
  fun A s W mu val Q E hA hP hJ hT hR k => by
    refine Call_Name rfl (hg A s _ p _ _ hJ hR.kind hk hR.gl hR.bl ?_)
    refine PyProof.Rows.callWith_type hs.any (hs.args hA hT hne hP hJ hR fun vs h₁ tk₁ p₁ s₁ d₁ => ?_)
    exact hok A _ W vs _ _ hA p₁ s₁.j hT (WEx.step hR.wex s₁) d₁ (KontE.next k s₁)

/-- a method's body, called with its object -/
noncomputable def MethOK (c : Cx) (n : Nat) (name : PySem.Str) (a : PV) (ps : List PV) (res : PV) : Prop :=
  ∃ T id, PlainAttrs T ∧ Slot T name id ∧ typeOf (.builtin id) = pure (.type "method_descriptor") ∧
    (∀ (s : Shared) (W : Addr → Prop) (x : Value), Den s.heap W a x → s.TypeIs x T ∧ (∀ a, x = .ref a → ∃ ob, s.heap.get? a = some ob ∧ ob.dict = none)) ∧
    ∀ (A : Around) (s : Shared) (W : Addr → Prop) (x : Value) (vs : List Value) (Q E : Value → Shared → Prop), Room A n → 0 < s.toks → J c s.heap → TW c W → WEx W s.heap → Den s.heap W a x → DenL s.heap W ps vs →
      KontE c s W res Q → wpAny c.M A (call (.builtin id) (x :: vs)) Q E s

theorem SoundEs.len : ∀ {xs : List Expr} {ps : List PV}, SoundEs c n fi σ xs ps → xs.length = ps.length
  | _, _, .nil => rfl
  | _, _, .cons _ _ hxs => by simp [SoundEs.len hxs]
theorem SoundEs.plainAll {pos : Pos} {env : Env} : ∀ {xs : List Expr} {ps : List PV}, SoundEs c n fi σ xs ps → (backTo pos (starEach xs env)).all (fun x => !x.1) = true
  | _, _, .nil => rfl
  | _, _, .cons (xs := xs) hx hs hxs => by
    rw [starEach_plain hs]
    have := SoundEs.plainAll (pos := pos) (env := env) hxs
    show (true && (backTo pos (starEach xs env)).all (fun x => !x.1)) = true
    rw [this]; rfl
theorem sound_meth {o : Expr} {name : PySem.Str} {apos pos : Pos} {xs : List Expr} {ps : List PV} {a res : PV} (ho : SoundE c n fi σ o a) (hs : SoundEs c n fi σ xs ps)
    (hm : MethOK c n name a ps res) (hb : ∀ env t, attributeBase o name env t = t) (hline : (apos.endLine == pos.line) = true) (hfew : ps.length < 20) :
    SoundE c n fi σ (.Call (.Attribute o name apos) xs [] pos) res :=
  fun A s W mu val Q E hA hP hJ hT hR k => by
    obtain ⟨T, id, pa, slot, hty, ht, hm⟩ := hm
    refine wpAny_Call_method (T := T) (id := id) (hb _ _) ?_ hline pa slot hty (ho A s W mu val _ _ hA hP hJ hT hR fun v₁ h₁ tk₁ p₁ s₁ d₁ => ⟨(ht ⟨h₁, s.gens, s.drawn, tk₁, s.os⟩ W v₁ d₁).1, (ht ⟨h₁, s.gens, s.drawn, tk₁, s.os⟩ W v₁ d₁).2, ?_⟩)
    · have h1 := hs.plainAll (pos := pos) (env := fi.env)
      have h2 := hs.len
      rw [h1]
      exact decide_eq_true (p := xs.length + 0 + 0 < 30) (by omega)
    · refine Calls.callWith_builtin hs.any ?_
      by_cases hne : ps = []
      · subst hne
        cases hs
        exact PySem.evalArgs_none (hm A _ W v₁ [] _ _ hA p₁ s₁.j hT (WEx.step hR.wex s₁) d₁ DenL.nil (KontE.next k s₁))
      · exact hs.args hA hT hne p₁ s₁.j (hR.step hT s₁) fun vs h₂ tk₂ p₂ s₂ d₂ => hm A _ W v₁ vs _ _ hA p₂ s₂.j hT (WEx.step (WEx.step hR.wex s₁) s₂) (d₁.step hT s₂) d₂ (KontE.next k (s₁.trans s₂))

/-- the attribute of a value -/
noncomputable def AttrOK (c : Cx) (n : Nat) (name : PySem.Str) (a res : PV) : Prop :=
  ∀ (A : Around) (s : Shared) (W : Addr → Prop) (x : Value) (Q E : Value → Shared → Prop), Room A n → 0 < s.toks → J c s.heap → TW c W → WEx W s.heap → Den s.heap W a x → KontE c s W res Q → wpAny c.M A (getAttr x name true) Q E s
theorem sound_attr {o : Expr} {name : PySem.Str} {pos : Pos} {a res : PV} (ho : SoundE c n fi σ o a) (hm : AttrOK c n name a res) (hb : ∀ env t, attributeBase o name env t = t) : SoundE c n fi σ (.Attribute o name pos) res :=
  fun A s W mu val Q E hA hP hJ hT hR k => by
    rw [arm_eval_Attribute, hb]
    exact wpAny_bind (ho A s W mu val _ _ hA hP hJ hT hR fun v₁ h₁ tk₁ p₁ s₁ d₁ => wpAny_bind (wpAny_standAt (wpAny_bind (wpAny_holding (hm A _ W v₁ _ _ hA p₁ s₁.j hT (WEx.step hR.wex s₁) d₁ fun v₂ h₂ tk₂ p₂ s₂ d₂ =>
      wpAny_bind (letTemp (wpAny_pure (k v₂ h₂ tk₂ p₂ (s₁.trans s₂) d₂))))))))
end Mine
end

section
open PySem PySem.W PyProof.Rows
set_option Elab.async false
set_option linter.unusedVariables false
namespace Mine

variable {c : Cx} {n : Nat} {fi : FI} {σ : Sg}

noncomputable def biVal : BI → Value
  | .len => .builtin "len" | .int => .type "int" | .str => .type "str" | .chr => .builtin "chr" | .abs => .builtin "abs" | .bytes => .type "bytes" | .isBytes => .builtin "isinstance"

theorem den1 {h : Heap} {W : Addr → Prop} {p : PV} {vs : List Value} (d : DenL h W [p] vs) : ∃ v, vs = [v] ∧ Den h W p v := by
  obtain ⟨v, r, rfl, d1, d2⟩ := d.out
  rw [d2.out0]; exact ⟨v, rfl, d1⟩
inductive TwoAt (h : Heap) (W : Addr → Prop) (p q : PV) (vs : List Value) : Prop where
  | mk (v u : Value) (e : vs = [v, u]) (d : Den h W p v) (d' : Den h W q u) : TwoAt h W p q vs
theorem den2 {h : Heap} {W : Addr → Prop} {p q : PV} {vs : List Value} (d : DenL h W [p, q] vs) : TwoAt h W p q vs := by
  obtain ⟨v, r, rfl, d1, d2⟩ := d.out
  obtain ⟨u, rfl, d3⟩ := den1 d2
  exact ⟨v, u, rfl, d1, d3⟩
theorem den0 {h : Heap} {W : Addr → Prop} {vs : List Value} (d : DenL h W [] vs) : vs = [] := d.out0

theorem int_digit : ∀ k : Nat, k < 10 → PySem.intText? ⟨#[k + 48]⟩ = some (k : Int) := by decide +kernel
theorem str_digit : ∀ k : Nat, k < 10 → PySem.Str.ofString (toString (k : Int)) = ⟨#[k + 48]⟩ := by decide +kernel

theorem bytesOf_arr : ∀ {ns : List Int} {l : List UInt8}, bytesOf ns = some l → byteArr ns = l.toArray ∧ ∀ x ∈ ns, 0 ≤ x ∧ x < 256
  | [], l, e => by simp [bytesOf] at e; subst e; exact ⟨rfl, by simp⟩
  | i :: r, l, e => by
    simp only [bytesOf] at e
    split at e <;> try cases e
    rename_i hc
    simp only [Bool.and_eq_true, decide_eq_true_eq] at hc
    obtain ⟨m, hm, rfl⟩ := Option.map_eq_some_iff.mp e
    obtain ⟨h1, h2⟩ := bytesOf_arr hm
    refine ⟨?_, fun x hx => ?_⟩
    · have : byteArr r = m.toArray := h1
      simp only [byteArr, List.map_cons] at this ⊢
      have h3 := congrArg Array.toList this
      simp at h3
      rw [h3]
    · rcases List.mem_cons.mp hx with rfl | hx
      · exact hc
      · exact h2 x hx

theorem valL_one {t : List Value → Sem Value} {f : PV → Option PV} {ps : List PV} {p : PV} (e : o1 ps f = some p) (h : ∀ v, f v = some p → Val1 c n (fun x => t [x]) v p) : ValL c n t ps p :=
  o1_out e fun v hv e1 A s W xs Q E hA hP hJ hT hW dx k => by
    clear e
    subst hv
    obtain ⟨x, rfl, d⟩ := den1 dx
    exact h v e1 A s W x Q E hA hP hJ hT hW d k
theorem val1_int {t : Value → Sem Value} {f : Int → Option PV} {v p : PV} (e : oInt v f = some p) (h : ∀ (i : Int) (u : Tok) (A : Around) (s : Shared) (W : Addr → Prop) (Q E : Value → Shared → Prop), f i = some p → 0 < s.toks → J c s.heap → KontE c s W p Q → wpAny c.M A (t (.int i u)) Q E s) : Val1 c n t v p :=
  oInt_out e fun i hi e1 A s W x Q E hA hP hJ hT hW d k => by
    clear e
    subst hi
    obtain ⟨u, rfl⟩ := den_int d
    exact h i u A s W Q E e1 hP hJ k

theorem val_len {v p : PV} (e : lenPV v = some p) : Val1 c n (fun x => call (.builtin "len") [x]) v p := by
  intro A s W x Q E hA hP hJ hT hW d k
  cases v <;> try cases e
  · refine if_out e fun hf e => so_out e fun e1 => ?_
    clear e
    subst e1
    have hf := fits_out hf
    obtain ⟨t, rfl⟩ := den_bytes d
    exact len_bytes (by simp; omega) (k.int hJ (Nat.succ_pos _))
  · refine if_out e fun hf e => so_out e fun e1 => ?_
    clear e
    subst e1
    have hf := fits_out hf
    obtain ⟨a, vs, m, rfl, wa, ga, da⟩ := den_lst d
    rw [← da.length] at hf k
    exact PySem.Calls.call_len_list (isList_of ga) (by simp; omega) (k.int hJ (Nat.succ_pos _))
  · refine if_out e fun hf e => so_out e fun e1 => ?_
    clear e
    subst e1
    have hf := fits_out hf
    obtain ⟨a, vs, m, f, rfl, wa, ga, da⟩ := den_cells d
    rw [← da.length] at hf k
    exact PySem.Calls.call_len_list (isList_of ga) (by simp; omega) (k.int hJ (Nat.succ_pos _))
theorem dig_out {l : List Nat} {p : PV} (e : digPV l = some p) : ∃ ch, l = [ch] ∧ (if Nat.ble 48 ch && Nat.ble ch 57 then some (PV.int ((ch : Int) - 48)) else none) = some p :=
  match l, e with
  | [ch], e => ⟨ch, rfl, e⟩
theorem val_num {v p : PV} (e : intPV v = some p) : Val1 c n (fun x => call (.type "int") [x]) v p := by
  intro A s W x Q E hA hP hJ hT hW d k
  cases v <;> try cases e
  · rw [den_bool d]
    exact PySem.call_int_bool (k.int hJ (Nat.succ_pos _))
  · rename_i l
    have e : digPV l = some p := e
    obtain ⟨ch, rfl, e⟩ := dig_out e
    refine if_out e fun hc e => so_out e fun e1 => ?_
    clear e
    subst e1
    simp only [Bool.and_eq_true, Nat.ble_eq] at hc
    obtain ⟨t, rfl⟩ := den_str d
    obtain ⟨j, rfl⟩ : ∃ j, ch = j + 48 := ⟨ch - 48, by omega⟩
    refine KIN.call_text (n := (j : Int)) (int_digit j (by omega)) (by rw [str_len]; simp) ?_
    rw [show ((j + 48 : Nat) : Int) - 48 = j by omega] at k
    exact k.int hJ (Nat.succ_pos _)
theorem log_digit : ∀ j : Nat, j < 10 → (j : Int).natAbs.log2 < 1920 := by decide +kernel
theorem valL_bi {b : BI} {ps : List PV} {p : PV} (hb : (match b with | .isBytes => false | _ => true) = true) (e : biPV b ps = some p) : ValL c n (fun vs => call (biVal b) vs) ps p := by
  cases b
  · exact valL_one e fun v e => val_len e
  · exact valL_one e fun v e => val_num e
  · refine valL_one e fun v e => val1_int e fun i u A s W Q E e hP hJ k => if_out e fun hc e => so_out e fun e1 => ?_
    have hc := and2 hc
    obtain ⟨j, rfl⟩ := Int.eq_ofNat_of_zero_le hc.1
    have hj : j < 10 := by omega
    refine P.str_of_int (log_digit j hj) ?_
    rw [str_digit j hj]
    rw [← e1] at k
    exact k.str (l := [j + 48]) hJ (Nat.succ_pos _)
  · refine valL_one e fun v e => val1_int e fun i u A s W Q E e hP hJ k => if_out e fun hc e => so_out e fun e1 => ?_
    have hc := and2 hc
    rw [← e1] at k
    exact P.chr_of_int (by simp; omega) (k.str (l := [i.toNat]) hJ (Nat.succ_pos _))
  · refine valL_one e fun v e => val1_int e fun i u A s W Q E e hP hJ k => so_out e fun e1 => ?_
    rw [← e1] at k
    refine lift hP (call_abs_int fun u tk hp => ?_)
    rw [show (if i < 0 then -i else i) = (i.natAbs : Int) by split <;> omega]
    exact k.int hJ hp
  · refine valL_one e fun v e A s W x Q E hA hP hJ hT hW d k => oLst_out e fun l hl e1 => bd_out e1 fun ns hns e2 => if_out e2 fun hf e3 => mp_out e3 fun z hz e4 => ?_
    clear e e1 e2 e3
    subst hl e4
    have hf := fits_out hf
    obtain ⟨h1, h2⟩ := bytesOf_arr hz
    obtain ⟨a, vs, m, rfl, wa, ga, da⟩ := den_lst d
    have hi := ints_of hns da
    have hl := hi.length
    refine lift hP (call_bytes_ints (isList_of ga) hi h2 (by rw [sizeLine_eq]; omega) hA.handled fun h' t tk hk hp => ?_)
    rw [h1]
    exact k _ _ _ hp (.all hJ hk) (by unfold Den; exact ⟨_, rfl⟩)
  · cases hb

theorem isinst_bytes {prog : Program} {w : World} {A : Around} {s : Shared} {b : Array UInt8} {t : Tok} {Q E : Value → Shared → Prop} (h : Q (.bool true) s) : wpAny (model prog w) A (call (.builtin "isinstance") [.bytes b t, .type "bytes"]) Q E s :=
  call_isinstance_yes (PySem.W.typeIs_bytes s b t) (by rfl) (by rw [isSubtype_type]; kernel_rfl) h

theorem sound_isBytes {x y : PySem.Str} {p p' pos : Pos} {e : Expr} {l : List UInt8} (hg : Glob c x (.builtin "isinstance")) (hk : fi.env.kindOf x = some .globalImplicit) (hg' : Glob c y (.type "bytes")) (hk' : fi.env.kindOf y = some .globalImplicit)
    (he : SoundE c n fi σ e (.bytes l)) (hs : ∀ a b, e ≠ .Starred a b) : SoundE c n fi σ (.Call (.Name x p) [e, .Name y p'] [] pos) (.bool true) :=
  fun A s W mu val Q E hA hP hJ hT hR k => by
    refine Call_Name rfl (hg A s _ p _ _ hJ hR.kind hk hR.gl hR.bl ?_)
    rw [starEach_plain hs]
    refine Calls.callWith_builtin rfl (Calls.evalArgs_plain (Calls.spliced_cons (he A s W mu val _ _ hA hP hJ hT hR fun v₁ h₁ tk₁ p₁ s₁ d₁ => ?_)))
    refine Calls.spliced_cons (hg' A _ _ p' _ _ s₁.j hR.kind hk' hR.gl hR.bl (Calls.spliced_nil ?_))
    obtain ⟨t, rfl⟩ := den_bytes d₁
    exact isinst_bytes (k _ _ _ p₁ s₁ (by unfold Den; rfl))
end Mine
end

section
open PySem PySem.W PyProof.Rows
set_option Elab.async false
set_option linter.unusedVariables false
namespace Mine
theorem plainAttrs_match : PlainAttrs "re.Match" :=
  ⟨⟨"object.__getattribute__", by rw [typeLookup_type, builtinLookup_eq_fast]; kernel_rfl, by decide +kernel⟩, by rw [typeLookup_type, builtinLookup_eq_fast]; kernel_rfl⟩
theorem slot_match_span : Slot "re.Match" "span" "re.Match.span" :=
  .of (owner := "re.Match") (n := "span") (by rw [typeLookup_type, builtinLookup_eq_fast]; kernel_rfl) (by decide +kernel) (by decide +kernel) (by decide +kernel)
    (by first | exact .inl (by decide +kernel) | exact .inr (by decide +kernel)) (by rw [isSubtype_type]; kernel_rfl)
theorem type_match_span : typeOf (.builtin "re.Match.span") = pure (.type "method_descriptor") := by show builtinType _ = _; rw [builtinType_eq_fast]; kernel_rfl
theorem entry_match_span : entryFor table "re.Match.span" = some Builtin.«re.Match.span» := entryFor_of_tree (by kernel_rfl)
theorem slot_match_group : Slot "re.Match" "group" "re.Match.group" :=
  .of (owner := "re.Match") (n := "group") (by rw [typeLookup_type, builtinLookup_eq_fast]; kernel_rfl) (by decide +kernel) (by decide +kernel) (by decide +kernel)
    (by first | exact .inl (by decide +kernel) | exact .inr (by decide +kernel)) (by rw [isSubtype_type]; kernel_rfl)
theorem type_match_group : typeOf (.builtin "re.Match.group") = pure (.type "method_descriptor") := by show builtinType _ = _; rw [builtinType_eq_fast]; kernel_rfl
theorem entry_match_group : entryFor table "re.Match.group" = some Builtin.«re.Match.group» := entryFor_of_tree (by kernel_rfl)
theorem plainAttrs_pat : PlainAttrs "re.Pattern" :=
  ⟨⟨"object.__getattribute__", by rw [typeLookup_type, builtinLookup_eq_fast]; kernel_rfl, by decide +kernel⟩, by rw [typeLookup_type, builtinLookup_eq_fast]; kernel_rfl⟩
theorem slot_pat_search : Slot "re.Pattern" "search" "re.Pattern.search" :=
  .of (owner := "re.Pattern") (n := "search") (by rw [typeLookup_type, builtinLookup_eq_fast]; kernel_rfl) (by decide +kernel) (by decide +kernel) (by decide +kernel)
    (by first | exact .inl (by decide +kernel) | exact .inr (by decide +kernel)) (by rw [isSubtype_type]; kernel_rfl)
theorem type_pat_search : typeOf (.builtin "re.Pattern.search") = pure (.type "method_descriptor") := by show builtinType _ = _; rw [builtinType_eq_fast]; kernel_rfl
theorem entry_pat_search : entryFor table "re.Pattern.search" = some Builtin.«re.Pattern.search» := entryFor_of_tree (by kernel_rfl)
theorem args_match_span (a b : Value) : argsOk "re.Match.span" ⟨[a, b], []⟩ := by
  unfold argsOk; kernel_rfl
theorem args_match_group (a b : Value) : argsOk "re.Match.group" ⟨[a, b], []⟩ := by
  unfold argsOk; kernel_rfl
theorem args_pat_search (a b : Value) : argsOk "re.Pattern.search" ⟨[a, b], []⟩ := by
  unfold argsOk; kernel_rfl
end Mine
end

section
open PySem PySem.W PyProof.Rows
set_option Elab.async false
set_option linter.unusedVariables false
namespace Mine
open Builtin Builtin.Re
variable {c : Cx} {n : Nat} {fi : FI} {σ : Sg}

theorem raw_map (sp : List Int) : ((sp.map fun i => Value.int i 0).toArray).map reRawOf = sp.toArray := by
  rw [List.map_toArray, List.map_map]
  congr 1
  induction sp with
  | nil => rfl
  | cons a r ih => simp [ih, reRawOf]

theorem reFound_ok {M : Model} {A : Around} {s : Shared} {W : Addr → Prop} {a : Addr} {l : List Nat} {sp : List Int} {Q : ReFound → Shared → Prop} {E : Value → Shared → Prop} (hm : IsMtch s.heap W a l sp)
    (hQ : ∀ x : ReFound, x.spans = sp.toArray → (∃ t, x.fields.getD 0 .none = .str ⟨l.toArray⟩ t) → Q x s) : wpAny M A (reFound (.ref a)) Q E s := by
  obtain ⟨t, pa, pos, lim, li, ta, m, _, h1, h2⟩ := hm
  unfold reFound
  refine wpAny_bind (wpAny_fieldsOf h1 rfl ?_)
  refine wpAny_bind ?_
  unfold reRawItems
  refine wpAny_bind (m := seqItems? (.ref ta)) (wpAny_seqItems h2 rfl ?_)
  refine wpAny_pure (wpAny_pure (hQ _ ?_ ⟨t, rfl⟩))
  show (Array.map reRawOf _) = _
  exact raw_map sp

theorem reGroup_ok {M : Model} {A : Around} {s : Shared} {x : ReFound} {i : Int} {t : Tok} {Q : Nat → Shared → Prop} {E : Value → Shared → Prop} (h0 : 0 ≤ i) (h1 : 2 * i < x.spans.size) (hQ : Q i.toNat s) :
    wpAny M A (reGroupNumber x (.int i t)) Q E s := by
  unfold reGroupNumber
  refine wpAny_bind (m := asInt? (.int i t)) (wpAny_pure ?_)
  show wpAny M A (asIndex (.int i t) >>= _) _ _ _
  refine wpAny_bind (wpAny_of_eq (a := i) rfl ?_)
  have : ¬ ((decide (i < 0) || decide (2 * i ≥ (x.spans.size : Int))) = true) := by simp; omega
  dsimp only
  rw [if_neg this]
  exact wpAny_pure hQ

theorem getD_list (sp : List Int) (k : Nat) (d : Int) : sp.toArray.getD k d = sp.getD k d := by
  simp [Array.getD, List.getD_eq_getElem?_getD]
  split <;> simp_all

theorem body_span {prog : Program} {w : World} {A : Around} {s : Shared} {W : Addr → Prop} {a : Addr} {l : List Nat} {p q : Int} {r : List Int} {t : Tok} {Q : Value → Shared → Prop} {E : Value → Shared → Prop} (hm : IsMtch s.heap W a l (p :: q :: r))
    (hQ : ∀ m, Q (.ref s.heap.objs.size) { s with heap := s.heap.push (tupO [.int p s.toks, .int q (s.toks + 1)] m), toks := s.toks + 1 + 1 }) :
    wpAny (model prog w) A (Builtin.«re.Match.span» ⟨[.ref a, .int 0 t], []⟩) (fun fin s' => ∃ v, fin = .done (.ret v) ∧ Q v s') E s := by
  unfold Builtin.«re.Match.span» reOneGroup
  refine wpAny_bind (wpAny_bind (wpAny_of_eq (a := (Value.ref a, [Value.int 0 t])) rfl ?_))
  dsimp only
  refine wpAny_bind (reFound_ok hm fun x hx _ => ?_)
  refine wpAny_bind (reGroup_ok (by decide) (by rw [hx]; simp; omega) ?_)
  refine wpAny_pure ?_
  dsimp only
  refine wpAny_bind (wpAny_mkInt (wpAny_bind (wpAny_mkInt (wpAny_bind (wpAny_newTuple ?_ ?_)))))
  · rw [hx, getD_list, getD_list]
    exact wpAny_pure ⟨_, rfl, hQ _⟩
  · show 2 ≤ sizeLine; rw [sizeLine_eq]; decide

theorem body_group {prog : Program} {w : World} {A : Around} {s : Shared} {W : Addr → Prop} {a : Addr} {l : List Nat} {sp : List Int} {p q : Int} {k : Int} {t : Tok} {Q : Value → Shared → Prop} {E : Value → Shared → Prop} (hm : IsMtch s.heap W a l sp)
    (h0 : 0 ≤ k) (h1 : 2 * k < sp.length) (hp : sp[2 * k.toNat]? = some p) (hq : sp[2 * k.toNat + 1]? = some q) (hp0 : 0 ≤ p) (hq0 : 0 ≤ q) (hl : l.length ≤ 100000)
    (hQ : Q (.str ⟨(cut l p.toNat q.toNat).toArray⟩ s.toks) { s with toks := s.toks + 1 }) :
    wpAny (model prog w) A (Builtin.«re.Match.group» ⟨[.ref a, .int k t], []⟩) (fun fin s' => ∃ v, fin = .done (.ret v) ∧ Q v s') E s := by
  unfold Builtin.«re.Match.group»
  refine wpAny_bind (wpAny_of_eq (a := ()) rfl ?_)
  dsimp only
  refine wpAny_bind (reFound_ok hm fun x hx ht => ?_)
  obtain ⟨u, hu⟩ := ht
  refine wpAny_bind (reGroup_ok h0 (by rw [hx]; simpa using h1) ?_)
  have e1 : x.spans.getD (2 * k.toNat) (-1) = p := by rw [hx, getD_list, List.getD_eq_getElem?_getD, hp]; rfl
  have e2 : x.spans.getD (2 * k.toNat + 1) (-1) = q := by rw [hx, getD_list, List.getD_eq_getElem?_getD, hq]; rfl
  refine wpAny_bind ?_
  unfold reGroupText
  rw [e1, e2]
  have : ¬ ((decide (p < 0) || decide (q < 0)) = true) := by simp; omega
  dsimp only
  rw [if_neg this, hu]
  refine wpAny_bind (wpAny_of_eq (a := (l.toArray, 0)) rfl ?_)
  show wpAny _ _ (mkStr ⟨l.toArray.extract p.toNat q.toNat⟩) _ _ _
  have e3 : l.toArray.extract p.toNat q.toNat = (cut l p.toNat q.toNat).toArray := by
    rw [List.extract_toArray, List.extract_eq_take_drop, cut, List.drop_take]
  rw [e3]
  refine wpAny_mkStr (wpAny_pure ⟨_, rfl, hQ⟩) ?_
  rw [str_len, sizeLine_eq]
  simp [cut]; omega

/-- what the run of the machine says -/
theorem drive_ok {M : Model} {A : Around} {s : Shared} {E : Value → Shared → Prop} {Q : Sre.M → Shared → Prop} : ∀ (k : Nat) (turns : Nat) (m m' : Sre.M), sreRun k m = some m' → k ≤ turns → Q m' s → wpAny M A (reDrive turns m) Q E s
  | 0, _, _, _, e, _, _ => by simp [sreRun] at e
  | k + 1, 0, _, _, _, h, _ => absurd h (by omega)
  | k + 1, turns + 1, m, m', e, h, q => by
    unfold sreRun at e
    unfold reDrive
    dsimp only at e ⊢
    split at e
    · cases e
      rename_i hs
      rw [if_pos hs]
      exact wpAny_pure q
    · rename_i hs
      rw [if_neg hs]
      exact wpAny_bind (wpAny_rule (drive_ok k turns _ _ e (by omega) q))

theorem seen_ok {M : Model} {A : Around} {s : Shared} {E : Value → Shared → Prop} {Q : PUnit → Shared → Prop} {m : Sre.M} : ∀ (l : List Nat), Q ⟨⟩ s →
    wpAny M A (forIn l PUnit.unit fun i _ => if m.seen.has i = true then do rule (Sre.names.getD i ""); pure (ForInStep.yield PUnit.unit) else pure (ForInStep.yield PUnit.unit)) Q E s
  | [], q => wpAny_pure q
  | a :: l, q => by
    rw [List.forIn_cons]
    refine wpAny_bind ?_
    split
    · exact wpAny_bind (wpAny_rule (wpAny_pure (seen_ok l q)))
    · exact wpAny_pure (seen_ok l q)

theorem toEnd_ok {M : Model} {A : Around} {s : Shared} {E : Value → Shared → Prop} {Q : Option Sre.M → Shared → Prop} {k : Nat} {m m' : Sre.M} (e : sreRun k m = some m') (hk : k ≤ 2 ^ 64)
    (hQ : (m'.outcome = some .matched ∧ Q (some m') s) ∨ (m'.outcome = some .failed ∧ Q none s)) : wpAny M A (reRunToEnd m) Q E s := by
  unfold reRunToEnd
  refine wpAny_bind (drive_ok k _ m m' e hk ?_)
  refine wpAny_bind ?_
  refine seen_ok _ ?_
  rcases hQ with ⟨h, q⟩ | ⟨h, q⟩ <;> rw [h] <;> exact wpAny_pure q

theorem spans_len (g : Nat) (m : Sre.M) : (sreSpans g m).length = 2 + 2 * g := by
  have : ∀ gs : List Nat, (List.flatMap (fun g => match if ((2 * g + 1 : Nat) : Int) ≤ m.lastmark then (m.marks.getD (2 * g) none, m.marks.getD (2 * g + 1) none) else (none, none) with
          | (some b, some e) => [(b : Int), (e : Int)]
          | _ => [-1, -1]) gs).length = 2 * gs.length := by
    intro gs
    induction gs with
    | nil => rfl
    | cons a r ih =>
      rw [List.flatMap_cons, List.length_append, ih]
      have : ∀ z : Option Nat × Option Nat, (match z with | (some b, some e) => [(b : Int), (e : Int)] | _ => [-1, -1]).length = 2 := by
        intro z; split <;> rfl
      rw [this]; simp; omega
  show (_ :: _ :: _).length = _
  rw [List.length_cons, List.length_cons]
  have h := this (List.range g)
  rw [List.length_range] at h
  have h' : (List.flatMap _ (List.range g)).length = 2 * g := h
  have h'' := congrArg (fun x => x + 1 + 1) h'
  exact h''.trans (by omega)

/-- the pattern's object -/
noncomputable def IsPat (h : Heap) (pa : Addr) (k : Bool) : Prop :=
  ∃ o fs ca co codes m, h.get? pa = some o ∧ o.cls = .type "re.Pattern" ∧ o.dict = none ∧ o.data = .fields fs ∧ reRawNat (fs.getD 6 .none) = 0 ∧ reRawNat (fs.getD 2 .none) = (if k then 1 else 0) ∧ fs.getD 5 .none = .ref ca ∧
    h.get? ca = some co ∧ co.data = .seq codes m ∧ (codes.map reRawOf).map (·.toNat) = (if k then headerCode else ipv4Code).toArray

theorem target_ok {prog : Program} {w : World} {A : Around} {s : Shared} {pa : Addr} {k : Bool} {l : List Nat} {t : Tok} {Q : ReTarget → Shared → Prop} {E : Value → Shared → Prop} (hm : IsPat s.heap pa k) (hl : l.length ≤ 100000)
    (hQ : Q { pattern := .ref pa, string := .str ⟨l.toArray⟩ t, code := (if k then headerCode else ipv4Code).toArray, text := l.toArray, kind := 0, groups := if k then 1 else 0, pos := 0, lim := l.length } s) :
    wpAny (model prog w) A (reTarget "re.Pattern.search" "search" ⟨[.ref pa, .str ⟨l.toArray⟩ t], []⟩) Q E s := by
  obtain ⟨o, fs, ca, co, codes, m, h1, h2, h3, h4, h5, h6, h7, h8, h9, h10⟩ := hm
  unfold reTarget
  dsimp only
  refine wpAny_bind (wpAny_of_eq (a := [some (.str ⟨l.toArray⟩ t), none, none]) rfl ?_)
  dsimp only
  refine wpAny_bind (wpAny_pure (wpAny_bind (wpAny_pure (wpAny_bind (wpAny_fieldsOf h1 h4 ?_)))))
  refine wpAny_bind (wpAny_of_eq (a := (l.toArray, 0)) rfl ?_)
  dsimp only
  rw [h5, h6, h7]
  refine wpAny_bind (wpAny_of_eq (a := ()) rfl ?_)
  refine wpAny_bind ?_
  unfold reRawItems
  refine wpAny_bind (m := seqItems? (.ref ca)) (wpAny_seqItems h8 h9 ?_)
  refine wpAny_pure (wpAny_pure ?_)
  dsimp only [Option.getD]
  rw [h10]
  have e1 : min (0 : Int).toNat l.toArray.size = 0 := by simp
  have e2 : min ((2 : Int) ^ 63 - 1).toNat l.toArray.size = l.length := by
    have : ((2 : Int) ^ 63 - 1).toNat = 9223372036854775807 := by decide
    rw [this]; simp; omega
  rw [e1, e2]
  exact hQ

theorem body_search {prog : Program} {w : World} {A : Around} {s : Shared} {pa : Addr} {k : Bool} {l : List Nat} {t : Tok} {res : PV} {Q : Value → Shared → Prop} {E : Value → Shared → Prop} (hm : IsPat s.heap pa k) (e : searchPV k l = some res)
    (hQ : (res = .none ∧ Q .none s) ∨ (∃ sp, res = .mtch l sp ∧ ∀ m li, Q (.ref (s.heap.objs.size + 1)) { s with heap := (s.heap.push (tupO (sp.map fun i => .int i 0) m)).push { cls := .type "re.Match", data := .fields #[.str ⟨l.toArray⟩ t, .ref pa, .int 0 0, .int l.length 0, .int li 0, .ref s.heap.objs.size] } })) :
    wpAny (model prog w) A (Builtin.«re.Pattern.search» ⟨[.ref pa, .str ⟨l.toArray⟩ t], []⟩) (fun fin s' => ∃ v, fin = .done (.ret v) ∧ Q v s') E s := by
  unfold searchPV at e
  split at e <;> try cases e
  rename_i hf
  have hf := fits_out hf
  split at e <;> try cases e
  rename_i m hm'
  unfold Builtin.«re.Pattern.search»
  refine wpAny_bind (target_ok hm hf ?_)
  unfold reAnswer
  generalize hg : (if k = true then 1 else 0) = g at e ⊢ hm'
  refine wpAny_bind (toEnd_ok (k := 400) (m' := m) hm' (by decide) ?_)
  split at e
  · rename_i ho
    refine .inl ⟨ho, ?_⟩
    split at e <;> cases e
    rename_i hw
    rcases hQ with ⟨h, _⟩ | ⟨sp, hsp, q⟩
    · cases h
    cases hsp
    dsimp only
    refine wpAny_bind ?_
    unfold reNewMatch
    dsimp only
    refine wpAny_ite_split (fun h => absurd h hw) fun _ => ?_
    have e2 : ∀ gs : List Nat, List.flatMap (fun g => match if ((2 * g + 1 : Nat) : Int) ≤ m.lastmark then (m.marks.getD (2 * g) none, m.marks.getD (2 * g + 1) none) else (none, none) with
          | (some b, some e) => [rawInt b, rawInt e]
          | _ => [rawInt (-1), rawInt (-1)]) gs = (List.flatMap (fun g => match if ((2 * g + 1 : Nat) : Int) ≤ m.lastmark then (m.marks.getD (2 * g) none, m.marks.getD (2 * g + 1) none) else (none, none) with
          | (some b, some e) => [(b : Int), (e : Int)]
          | _ => [-1, -1]) gs).map fun i => Value.int i 0 := fun gs => by
      rw [List.map_flatMap]
      congr 1
      funext g
      split <;> simp [rawInt]
    have e3 : (rawInt (m.start : Int) :: rawInt (m.handed : Int) :: List.flatMap (fun g => match if ((2 * g + 1 : Nat) : Int) ≤ m.lastmark then (m.marks.getD (2 * g) none, m.marks.getD (2 * g + 1) none) else (none, none) with
          | (some b, some e) => [rawInt b, rawInt e]
          | _ => [rawInt (-1), rawInt (-1)]) (List.range g)) = (sreSpans g m).map fun i => Value.int i 0 := by
      rw [e2]; rfl
    refine wpAny_bind (Eq.mpr (congrArg (fun x => wpAny (model prog w) A (newTuple x) _ E s) e3) (wpAny_newTuple ?_ ?_))
    · refine wpAny_newObj_type ?_ (by size_fits)
      refine wpAny_pure ⟨_, rfl, ?_⟩
      dsimp only
      rw [Heap.size_push]
      exact q 0 m.lastindex
    · rw [List.length_map, spans_len, sizeLine_eq]
      have : g ≤ 1 := by rw [← hg]; split <;> decide
      omega
  · rename_i ho
    refine .inr ⟨ho, ?_⟩
    cases e
    rcases hQ with ⟨_, q⟩ | ⟨_, h, _⟩
    · exact wpAny_pure ⟨_, rfl, q⟩
    · cases h
  · cases e
theorem mtchTy {s : Shared} {W : Addr → Prop} {l : List Nat} {sp : List Int} {x : Value} (d : Den s.heap W (.mtch l sp) x) : s.TypeIs x "re.Match" ∧ (∀ a, x = .ref a → ∃ ob, s.heap.get? a = some ob ∧ ob.dict = none) := by
  obtain ⟨a, rfl, _, t, pa, pos, lim, li, ta, m, _, h1, _⟩ := den_mtch d
  exact ⟨⟨_, h1, rfl⟩, fun b e => by cases e; exact ⟨_, h1, rfl⟩⟩

end Mine
end

section
open PySem PySem.W PyProof.Rows
set_option Elab.async false
set_option linter.unusedVariables false
namespace Mine

variable {c : Cx} {n : Nat} {fi : FI} {σ : Sg}

noncomputable def meName : Me → PySem.Str
  | .lower => "lower" | .upper => "upper" | .starts => "startswith" | .ends => "endswith" | .join => "join" | .span => "span" | .group => "group"

theorem ascii_out {l : List Nat} (h : ascii l = true) : ∀ c ∈ l, c < 128 := by simpa [ascii] using h
theorem lower_eq {l : List Nat} (h : ascii l = true) : PySem.Txt.lower (S l) = S (l.map lo1) := by
  rw [lower_ascii (by simpa using ascii_out h)]; simp
theorem upper_eq {l : List Nat} (h : ascii l = true) : PySem.Txt.upper (S l) = S (l.map up1) := by
  rw [upper_ascii (by simpa using ascii_out h)]; simp
theorem tooLong_no {k : Nat} (h : k ≤ 1000000) : Builtin.Str.tooLong k = false := by
  unfold Builtin.Str.tooLong; rw [sizeLine_eq]; simp; omega
theorem S_list (x : PySem.Str) : (⟨x.cps.toList.toArray⟩ : PySem.Str) = x := by simp

theorem strs_of {h : Heap} {W : Addr → Prop} : ∀ {p : List PV} {is : List (List Nat)} {v : List Value}, strsOf p = some is → DenL h W p v → ∃ l : List (PySem.Str × Tok), v = strValues l ∧ l.map (·.1) = is.map S
  | [], _, _, e, d => by
    simp only [strsOf, Option.some.injEq] at e; subst e
    exact ⟨[], d.out0, rfl⟩
  | p :: ps, _, _, e, d => by
    cases p <;> simp only [strsOf] at e <;> try cases e
    rename_i i
    cases hx : strsOf ps with
    | none => rw [hx] at e; cases e
    | some xs =>
      rw [hx] at e; cases e
      obtain ⟨u, r, rfl, d1, d2⟩ := d.out
      obtain ⟨t, rfl⟩ := den_str d1
      obtain ⟨l, rfl, hl⟩ := strs_of hx d2
      exact ⟨(S i, t) :: l, rfl, by simp [hl]⟩

theorem strTy {s : Shared} {W : Addr → Prop} {l : List Nat} {x : Value} (d : Den s.heap W (.str l) x) : s.TypeIs x "str" ∧ (∀ a, x = .ref a → ∃ ob, s.heap.get? a = some ob ∧ ob.dict = none) := by
  obtain ⟨t, rfl⟩ := den_str d
  exact ⟨typeIs_str _ _ _, fun _ e => nomatch e⟩

theorem and3' {a b d : Prop} [Decidable a] [Decidable b] [Decidable d] (h : (decide a && decide b && decide d) = true) : (a ∧ b) ∧ d := by simpa using h
theorem meth_span {l : List Nat} {sp : List Int} {res : PV} (e : spanPV sp = some res) : MethOK c n (meName .span) (.mtch l sp) [.int 0] res := by
  unfold spanPV at e
  split at e <;> cases e
  rename_i p q r
  refine ⟨"re.Match", _, plainAttrs_match, slot_match_span, type_match_span, fun s W x d => mtchTy d, fun A s W x vs Q E hA hP hJ hT hW dx dl k => ?_⟩
  obtain ⟨v, rfl, dv⟩ := den1 dl
  obtain ⟨t, rfl⟩ := den_int dv
  have ht := (mtchTy dx).1
  obtain ⟨a, rfl, wa, hm⟩ := den_mtch dx
  refine wpAny_call_entry slot_match_span ht entry_match_span (body_span hm fun m => ?_) (args_match_span _ _)
  exact k.tuple hJ hW (DenL.cons (by unfold Den; exact ⟨_, rfl⟩) (DenL.cons (by unfold Den; exact ⟨_, rfl⟩) DenL.nil)) (Nat.succ_pos _)
theorem meth_group {l : List Nat} {sp : List Int} {k : Int} {res : PV} (e : groupPV l sp k = some res) : MethOK c n (meName .group) (.mtch l sp) [.int k] res :=
  if_out e fun hc e1 => bd_out e1 fun p hp e2 => bd_out e2 fun q hq e3 => if_out e3 fun hr e4 => so_out e4 fun e5 => by
    clear e e1 e2 e3 e4
    subst e5
    have hc := and3 hc
    have hr := and3' hr
    have hf := fits_out hc.2
    refine ⟨"re.Match", _, plainAttrs_match, slot_match_group, type_match_group, fun s W x d => mtchTy d, fun A s W x vs Q E hA hP hJ hT hW dx dl k => ?_⟩
    obtain ⟨v, rfl, dv⟩ := den1 dl
    obtain ⟨t, rfl⟩ := den_int dv
    have ht := (mtchTy dx).1
    obtain ⟨a, rfl, wa, hm⟩ := den_mtch dx
    exact wpAny_call_entry slot_match_group ht entry_match_group (body_group hm hc.1.1 (by omega) hp hq hr.1.1 (by omega) hf (k.str hJ (Nat.succ_pos _))) (args_match_group _ _)

theorem meth_any {m : Me} {a : PV} {ps : List PV} {res : PV} (e : mePV m a ps = some res) : MethOK c n (meName m) a ps res := by
  cases m
  · refine oStr_out e fun l ha e1 => o0_out e1 fun hp e2 => if_out e2 fun hc e3 => so_out e3 fun e4 => ?_
    clear e e1 e2 e3
    subst ha hp e4
    have hc := Bool.and_eq_true_iff.mp hc
    have hf := fits_out hc.2
    refine ⟨"str", _, F.plainAttrs_str, F.slot_str_lower, F.type_str_lower, fun s W x d => strTy d, fun A s W x vs Q E hA hP hJ hT hW dx dl k => ?_⟩
    rw [dl.out0]
    obtain ⟨t, rfl⟩ := den_str dx
    exact SC.lower (by rw [lower_eq hc.1]; exact tooLong_no (by show Array.size _ ≤ _; simp; omega)) (by rw [lower_eq hc.1]; exact k.str hJ (Nat.succ_pos _))
  · refine oStr_out e fun l ha e1 => o0_out e1 fun hp e2 => if_out e2 fun hc e3 => so_out e3 fun e4 => ?_
    clear e e1 e2 e3
    subst ha hp e4
    have hc := Bool.and_eq_true_iff.mp hc
    have hf := fits_out hc.2
    refine ⟨"str", _, F.plainAttrs_str, F.slot_str_upper, F.type_str_upper, fun s W x d => strTy d, fun A s W x vs Q E hA hP hJ hT hW dx dl k => ?_⟩
    rw [dl.out0]
    obtain ⟨t, rfl⟩ := den_str dx
    exact SC.upper (by rw [upper_eq hc.1]; exact tooLong_no (by show Array.size _ ≤ _; simp; omega)) (by rw [upper_eq hc.1]; exact k.str hJ (Nat.succ_pos _))
  · refine oStr_out e fun l ha e1 => o1_out e1 fun w hp e2 => oStr_out e2 fun m hw e3 => so_out e3 fun e4 => ?_
    clear e e1 e2 e3
    subst ha hp hw e4
    refine ⟨"str", _, F.plainAttrs_str, F.slot_str_startswith, F.type_str_startswith, fun s W x d => strTy d, fun A s W x vs Q E hA hP hJ hT hW dx dl k => ?_⟩
    obtain ⟨v, rfl, dv⟩ := den1 dl
    obtain ⟨t, rfl⟩ := den_str dx
    obtain ⟨u, rfl⟩ := den_str dv
    exact SC.startswith (k.bool hJ hP)
  · refine oStr_out e fun l ha e1 => o1_out e1 fun w hp e2 => oStr_out e2 fun m hw e3 => so_out e3 fun e4 => ?_
    clear e e1 e2 e3
    subst ha hp hw e4
    refine ⟨"str", _, F.plainAttrs_str, F.slot_str_endswith, F.type_str_endswith, fun s W x d => strTy d, fun A s W x vs Q E hA hP hJ hT hW dx dl k => ?_⟩
    obtain ⟨v, rfl, dv⟩ := den1 dl
    obtain ⟨t, rfl⟩ := den_str dx
    obtain ⟨u, rfl⟩ := den_str dv
    exact SC.endswith (k.bool hJ hP)
  · refine oStr_out e fun l ha e1 => o1_out e1 fun w hp e2 => oLst_out e2 fun m hw e3 => bd_out e3 fun xs hxs e4 => if_out e4 fun hc e5 => so_out e5 fun e6 => ?_
    clear e e1 e2 e3 e4 e5
    subst ha hp hw e6
    refine ⟨"str", _, F.plainAttrs_str, F.slot_str_join, F.type_str_join, fun s W x d => strTy d, fun A s W x vs Q E hA hP hJ hT hW dx dl k => ?_⟩
    obtain ⟨v, rfl, dv⟩ := den1 dl
    obtain ⟨t, rfl⟩ := den_str dx
    obtain ⟨a, us, q, rfl, wa, ga, da⟩ := den_lst dv
    obtain ⟨l2, rfl, hl2⟩ := strs_of hxs da
    refine lift hP (SC.join (isList_of ga) hl2 hc fun t' tk hp => ?_)
    have := k.str (t := t') hJ hp
    rw [S_list] at this
    exact this
  · refine oMt_out e fun l sp ha e1 => o1_out e1 fun w hp e2 => oInt_out e2 fun k hw e3 => ?_
    split at e3
    · rename_i hk
      exact ha ▸ hp ▸ hw ▸ hk ▸ meth_span e3
    · cases e3
  · exact oMt_out e fun l sp ha e1 => o1_out e1 fun w hp e2 => oInt_out e2 fun k hw e3 => ha ▸ hp ▸ hw ▸ meth_group e3

/-- a text's replace, with two one-sign constants -/
theorem sound_repl {o : Expr} {apos pos q₁ q₂ : Pos} {k₁ k₂ : Nat} {l : List Nat} {a b : Nat} {x y : PySem.Str} (hx : x = S [a]) (hy : y = S [b]) (ho : SoundE c n fi σ o (.str l)) (hf : l.length ≤ 100000) (hab : a ≠ b)
    (hb : ∀ env t, attributeBase o ("replace" : PySem.Str) env t = t) (hline : (apos.endLine == pos.line) = true) :
    SoundE c n fi σ (.Call (.Attribute o ("replace" : PySem.Str) apos) [.Constant (.str x) k₁ q₁, .Constant (.str y) k₂ q₂] [] pos) (.str (PySem.Txt.replace (S l) (S [a]) (S [b])).cps.toList) :=
  fun A s W mu val Q E hA hP hJ hT hR k => by
    subst hx hy
    refine wpAny_Call_method (T := "str") (id := "str.replace") (hb _ _) (by rfl) hline F.plainAttrs_str F.slot_str_replace F.type_str_replace (ho A s W mu val _ _ hA hP hJ hT hR fun v₁ h₁ tk₁ p₁ s₁ d₁ => ?_)
    obtain ⟨t, rfl⟩ := den_str d₁
    refine ⟨typeIs_str _ _ _, (fun _ e => nomatch e), ?_⟩
    refine Calls.callWith_builtin rfl ?_
    show wpAny _ _ (evalArgs _ true [(false, eval (.Constant (.str (S [a])) k₁ q₁) fi.env), (false, eval (.Constant (.str (S [b])) k₂ q₂) fi.env)] []) _ _ _
    refine Calls.evalArgs_plain (Calls.spliced_cons (Calls.Constant_str (Calls.spliced_cons (Calls.Constant_str (Calls.spliced_nil ?_)))))
    refine lift (Nat.lt_of_lt_of_le p₁ (Nat.le_trans (Nat.le_succ _) (Nat.le_succ _))) (SC.replace ?_ ?_ ?_ ?_ ?_ fun t' tk hp => ?_)
    · show tk₁ ≠ 0; omega
    · show tk₁ + 1 ≠ 0; omega
    · show tk₁ ≠ tk₁ + 1; omega
    · rw [show (S [a] == S [b]) = ([a] == [b]) from str_beq _ _]; simp [hab]
    · show l.toArray.size + (l.toArray.size + 1) * [b].toArray.size ≤ _
      simp; omega
    · refine k _ _ _ hp s₁ ?_
      unfold Den
      exact ⟨t', by rw [S_list]⟩
theorem search_res {k : Bool} {l : List Nat} {res : PV} (hr : searchPV k l = some res) : res = .none ∨ ∃ sp, res = .mtch l sp := by
  unfold searchPV at hr
  generalize (if k = true then 1 else 0) = g at hr
  split at hr <;> try cases hr
  split at hr <;> try cases hr
  split at hr
  · split at hr <;> cases hr
    exact .inr ⟨_, rfl⟩
  · cases hr; exact .inl rfl
  · cases hr
/-- pattern.search(text) -/
theorem sound_search {x : PySem.Str} {xp apos pos : Pos} {pa : Addr} {k : Bool} {e : Expr} {l : List Nat} {res : PV} (hg : Glob c x (.ref pa)) (hk : fi.env.kindOf x = some .globalImplicit) (hpat : IsPat c.G pa k)
    (he : SoundE c n fi σ e (.str l)) (hs : ∀ a b, e ≠ .Starred a b) (hr : searchPV k l = some res) (hb : ∀ env t, attributeBase (.Name x xp) ("search" : PySem.Str) env t = t) (hline : (apos.endLine == pos.line) = true) :
    SoundE c n fi σ (.Call (.Attribute (.Name x xp) ("search" : PySem.Str) apos) [e] [] pos) res :=
  fun A s W mu val Q E hA hP hJ hT hR kk => by
    have hpat' : ∀ h : Heap, J c h → IsPat h pa k := fun h j => by
      obtain ⟨o, fs, ca, co, codes, m, h1, h2, h3, h4, h5, h6, h7, h8, h9, h10⟩ := hpat
      exact ⟨o, fs, ca, co, codes, m, j.ext _ _ h1, h2, h3, h4, h5, h6, h7, j.ext _ _ h8, h9, h10⟩
    refine wpAny_Call_method (T := "re.Pattern") (id := "re.Pattern.search") (hb _ _) ?_ hline plainAttrs_pat slot_pat_search type_pat_search (hg A s _ xp _ _ hJ hR.kind hk hR.gl hR.bl ?_)
    · rw [starEach_plain hs]; rfl
    · obtain ⟨o, fs, ca, co, codes, m, h1, h2, h3, h4, h5, h6, h7, h8, h9, h10⟩ := hpat' _ hJ
      refine ⟨⟨o, h1, h2⟩, fun a e => by cases e; exact ⟨o, h1, h3⟩, ?_⟩
      rw [starEach_plain hs]
      refine Calls.callWith_builtin rfl (Calls.evalArgs_plain (Calls.spliced_cons (he A s W mu val _ _ hA hP hJ hT hR fun v₁ h₁ tk₁ p₁ s₁ d₁ => Calls.spliced_nil ?_)))
      obtain ⟨t, rfl⟩ := den_str d₁
      have hp₁ := hpat' h₁ s₁.j
      have hp₂ := hp₁
      obtain ⟨o, fs, ca, co, codes, m, h1, h2, _⟩ := hp₂
      refine wpAny_call_entry slot_pat_search ⟨o, h1, h2⟩ entry_pat_search (body_search hp₁ hr ?_) (args_pat_search _ _)
      have k₁ := KontE.next (tk₁ := tk₁) kk s₁
      rcases search_res hr with rfl | ⟨sp, rfl⟩
      · exact .inl ⟨rfl, k₁.none s₁.j p₁⟩
      · refine .inr ⟨_, rfl, fun m li => ?_⟩
        have st₁ := Step.push s₁.j (tupO (List.map (fun i => Value.int i 0) sp) m)
        have hw := WEx.step hR.wex s₁
        refine k₁ _ _ tk₁ p₁ (st₁.trans (Step.push st₁.j _)) ?_
        have hsz : (h₁.push (tupO (List.map (fun i => Value.int i 0) sp) m)).objs.size = h₁.objs.size + 1 := Heap.size_push ..
        have hnew : ∀ ob : Obj, ob.isFreed = false → ((h₁.push (tupO (List.map (fun i => Value.int i 0) sp) m)).push ob).get? (h₁.objs.size + 1) = some ob := fun ob hf => by rw [← hsz]; exact Heap.get?_push_size _ hf
        unfold Den
        refine ⟨_, rfl, fun q => ?_, t, pa, 0, l.length, li, h₁.objs.size, m, hw.fresh, ?_, ?_⟩
        · obtain ⟨o', e'⟩ := hw _ q
          have := Heap.lt_size e'
          exact absurd this (by show ¬ (h₁.objs.size + 1 < h₁.objs.size); omega)
        · exact hnew _ rfl
        · exact Heap.get?_push_of_some _ (Heap.get?_push_size _ rfl)

theorem slot_match_string : True := trivial

end Mine
end

section
open PySem PySem.W PyProof.Rows
set_option Elab.async false
set_option maxRecDepth 100000
set_option linter.unusedVariables false
namespace Mine
variable {prog : Program} {w : World} {A : Around} {E : Value → Shared → Prop} {h : Heap} {g : Array GenState} {d : Drawn} {t : Nat} {os : OsState} {a : Addr} {o : Obj} {vs : Array Value} {a0 : Value}

theorem type_match_string : typeOf (.builtin "re.Match.string") = pure (.type "member_descriptor") := by kernel_rfl
theorem entry_match_string : entryFor table "re.Match.string" = some Builtin.«re.Match.string» := entryFor_of_tree (by kernel_rfl)
theorem owner_match_string : (".".intercalate ("re.Match.string".cutAt '.').dropLast) = "re.Match" := by
  have e0 : "re.Match.string".cutAt '.' = ["re", "Match", "string"] := by first | rfl | decide +kernel
  rw [e0]; decide +kernel
theorem slot_md_get : Slot "member_descriptor" "__get__" "member_descriptor.__get__" :=
  .of (owner := "member_descriptor") (n := "__get__") (by rw [typeLookup_type, builtinLookup_eq_fast]; kernel_rfl) (by decide +kernel) (by decide +kernel) (by decide +kernel)
    (by first | exact .inl (by decide +kernel) | exact .inr (by decide +kernel)) (by rw [isSubtype_type]; kernel_rfl)
theorem slot_md_set : Slot "member_descriptor" "__set__" "member_descriptor.__set__" :=
  .of (owner := "member_descriptor") (n := "__set__") (by rw [typeLookup_type, builtinLookup_eq_fast]; kernel_rfl) (by decide +kernel) (by decide +kernel) (by decide +kernel)
    (by first | exact .inl (by decide +kernel) | exact .inr (by decide +kernel)) (by rw [isSubtype_type]; kernel_rfl)
theorem entry_md_get : entryFor table "member_descriptor.__get__" = some Builtin.«member_descriptor.__get__» := entryFor_of_tree (by kernel_rfl)
theorem args_md_get (a b c : Value) : argsOk "member_descriptor.__get__" ⟨[a, b, c], []⟩ := by unfold argsOk; kernel_rfl
theorem slot_match_ga : Slot "re.Match" "__getattribute__" "object.__getattribute__" :=
  .of (owner := "object") (n := "__getattribute__") (by rw [typeLookup_type, builtinLookup_eq_fast]; kernel_rfl) (by decide +kernel) (by decide +kernel) (by decide +kernel)
    (by first | exact .inl (by decide +kernel) | exact .inr (by decide +kernel)) (by rw [isSubtype_type]; kernel_rfl)
theorem lk_match_string : typeLookup (.type "re.Match") "string" = pure (some (.builtin "re.Match.string")) := by rw [typeLookup_type, builtinLookup_eq_fast]; kernel_rfl
theorem sub_match : isSubtype (.type "re.Match") (.type "re.Match") = pure true := by rw [isSubtype_type]; kernel_rfl
theorem entry_object_ga : entryFor table "object.__getattribute__" = some Builtin.«object.__getattribute__» := entryFor_of_tree (by kernel_rfl)
theorem args_object_ga (a b : Value) : argsOk "object.__getattribute__" ⟨[a, b], []⟩ := by unfold argsOk; kernel_rfl

theorem string_get {R : Result → Shared → Prop} (hx : h.get? a = some o) (hc : o.cls = .type "re.Match") (hd : o.data = .fields vs) (h0 : vs[0]? = some a0) (hnd : (a0 == doubtfulMember) = false) (hq : R (.ok (.ret a0)) ⟨h, g, d, t, os⟩) :
    codeAny (model prog w) A (.call (.builtin "member_descriptor.__get__") ⟨[.builtin "re.Match.string", .ref a, .type "re.Match"], []⟩) R ⟨h, g, d, t, os⟩ := by
  have hT : (⟨h, g, d, t, os⟩ : Shared).TypeIs (.ref a) "re.Match" := ⟨_, hx, hc⟩
  have hT5 : (⟨h, g, d, t, os⟩ : Shared).TypeIs (.builtin "re.Match.string") "member_descriptor" := type_match_string
  have f8 : isSubtype (.type "re.Match") (.type (".".intercalate ("re.Match.string".cutAt '.').dropLast)) = pure true := by rw [owner_match_string]; exact sub_match
  refine codeAny_call_builtin slot_md_get.plain entry_md_get (slot_md_get.check _ _ _ _ _ _ _ _ hT5 (args_md_get _ _ _) ?_)
  repeat (any_goals (first | assumption | wp_step))
  refine ⟨Code.quiet_builtin _ (by decide +kernel), codeAny_builtin entry_match_string ?_⟩
  unfold Builtin.«re.Match.string»
  refine wpAny_bind (m := field (.ref a) 0) (wpAny_field hx hd h0 ?_)
  exact wpAny_pure hq

theorem string_entry {tk : Tok} {Q : Fin → Shared → Prop} (hx : h.get? a = some o) (hc : o.cls = .type "re.Match") (hd : o.data = .fields vs) (h0 : vs[0]? = some a0) (hnd : (a0 == doubtfulMember) = false) (hq : Q (.done (.ret a0)) ⟨h, g, d, t, os⟩) :
    wpAny (model prog w) A (Builtin.«object.__getattribute__» ⟨[.ref a, .str "string" tk], []⟩) Q E ⟨h, g, d, t, os⟩ := by
  have hT : (⟨h, g, d, t, os⟩ : Shared).TypeIs (.ref a) "re.Match" := ⟨_, hx, hc⟩
  have hT5 : (⟨h, g, d, t, os⟩ : Shared).TypeIs (.builtin "re.Match.string") "member_descriptor" := type_match_string
  have f4 := lk_match_string
  have f5 := type_match_string
  have f6 := slot_md_get.lookup
  have f7 := slot_md_set.lookup
  repeat (any_goals (first | assumption | wp_step))
  refine string_get hx hc hd h0 hnd ?_
  repeat (any_goals (first | assumption | wp_step))

theorem string_call {tk : Tok} {R : Result → Shared → Prop} (hx : h.get? a = some o) (hc : o.cls = .type "re.Match") (hd : o.data = .fields vs) (h0 : vs[0]? = some a0) (hnd : (a0 == doubtfulMember) = false) (hq : R (.ok (.ret a0)) ⟨h, g, d, t, os⟩) :
    codeAny (model prog w) A (.call (.builtin "object.__getattribute__") ⟨[.ref a, .str "string" tk], []⟩) R ⟨h, g, d, t, os⟩ :=
  codeAny_call_builtin slot_match_ga.plain entry_object_ga (slot_match_ga.check _ _ _ _ _ _ _ _ (show (⟨h, g, d, t, os⟩ : Shared).TypeIs (.ref a) "re.Match" from ⟨_, hx, hc⟩) (args_object_ga _ _) (string_entry hx hc hd h0 hnd hq))

theorem string_by {tk : Tok} {fill expr : Bool} {x : PySem.Str} {u : Tok} {Q : Value → Shared → Prop} (hx : h.get? a = some o) (hc : o.cls = .type "re.Match") (hd : o.data = .fields vs) (h0 : vs[0]? = some (.str x u))
    (hq : Q (.str x u) ⟨h, g, d, t, os⟩) : wpAny (model prog w) A (getAttrBy (.ref a) (.str "string" tk) fill expr) Q E ⟨h, g, d, t, os⟩ := by
  have hT : (⟨h, g, d, t, os⟩ : Shared).TypeIs (.ref a) "re.Match" := ⟨_, hx, hc⟩
  have f2 := slot_match_ga.lookup
  have f3 := slot_match_ga.bind (.ref a)
  have hx0 : (expr && onTheHeap (Value.builtin "object.__getattribute__")) = false := by cases expr <;> rfl
  repeat (any_goals (first | assumption | wp_step))
  refine string_call hx hc hd h0 (by rfl) ?_
  repeat (any_goals (first | assumption | wp_step))

theorem string_attr {expr : Bool} {x : PySem.Str} {u : Tok} {Q : Value → Shared → Prop} (hx : h.get? a = some o) (hc : o.cls = .type "re.Match") (hd : o.data = .fields vs) (h0 : vs[0]? = some (.str x u))
    (hq : Q (.str x u) ⟨h, g, d, t + 1, os⟩) : wpAny (model prog w) A (getAttr (.ref a) "string" expr) Q E ⟨h, g, d, t, os⟩ := by
  unfold getAttr
  repeat (any_goals (first | assumption | with_reducible apply string_by hx hc hd h0 | wp_step))

theorem attr_string {c : Cx} {n : Nat} {l : List Nat} {sp : List Int} : AttrOK c n ("string" : PySem.Str) (.mtch l sp) (.str l) := by
  intro A s W x Q E hA hP hJ hT hW d k
  obtain ⟨a, rfl, _, t, pa, pos, lim, li, ta, m, _, h1, _⟩ := den_mtch d
  obtain ⟨h, g, dr, tk, os⟩ := s
  exact string_attr h1 rfl rfl rfl (k.str hJ (Nat.succ_pos _))
end Mine
end

section
open PySem PySem.W PyProof.Rows
set_option Elab.async false
set_option linter.unusedVariables false
namespace Mine

variable {c : Cx} {n : Nat} {fi : FI} {σ : Sg}

theorem Go.tw {W mu W' mu' : Addr → Prop} {h h' : Heap} (g : Go c W mu h W' mu' h') (t : TW c W) (m : ∀ b, mu b → ¬ c.TB b) : TW c W' := fun b q => g.wk b (t b q) fun q' => m b q' q

noncomputable def KontS (c : Cx) (s : Shared) (W mu : Addr → Prop) (fi : FI) (r : Res) (Q : Flow → Shared → Prop) : Prop :=
  match r with
  | .next σ' => ∀ W' mu' val' h' tk, 0 < tk → Go c W mu s.heap W' mu' h' → Rel c W' mu' h' fi val' σ' → Q .next { s with heap := h', toks := tk }
  | .ret p => ∀ W' mu' v h' tk, 0 < tk → Go c W mu s.heap W' mu' h' → Den h' W' p v → Q (.ret v) { s with heap := h', toks := tk }

/-- a statement's (or a block's) effect -/
noncomputable def SoundS (c : Cx) (n : Nat) (fi : FI) (σ : Sg) (t : Env → Sem Flow) (r : Res) : Prop :=
  ∀ (A : Around) (s : Shared) (W mu : Addr → Prop) (val : Vals) (Q : Flow → Shared → Prop) (E : Value → Shared → Prop), Room A n → 0 < s.toks → J c s.heap → TW c W → Rel c W mu s.heap fi val σ →
    KontS c s W mu fi r Q → wpAny c.M A (t fi.env) Q E s

theorem KontS.go {s : Shared} {W mu W₁ mu₁ : Addr → Prop} {r : Res} {Q : Flow → Shared → Prop} {h₁ : Heap} {tk₁ : Nat} (k : KontS c s W mu fi r Q) (hw : WEx W s.heap) (g : Go c W mu s.heap W₁ mu₁ h₁) : KontS c { s with heap := h₁, toks := tk₁ } W₁ mu₁ fi r Q := by
  cases r with
  | next σ' => exact fun W' mu' val' h' tk p g' R => k W' mu' val' h' tk p (g.trans g' hw) R
  | ret p => exact fun W' mu' v h' tk p g' d => k W' mu' v h' tk p (g.trans g' hw) d

theorem soundS_nil : SoundS c n fi σ (execs []) (.next σ) :=
  fun A s W mu val Q E hA hP hJ hT hR k => wpAny_execs_nil (k W mu val s.heap s.toks hP (Go.refl hJ) hR)
theorem soundS_cons {st : Stmt} {rest : List Stmt} {σ' : Sg} {r : Res} (h₁ : SoundS c n fi σ (exec st) (.next σ')) (h₂ : SoundS c n fi σ' (execs rest) r) : SoundS c n fi σ (execs (st :: rest)) r :=
  fun A s W mu val Q E hA hP hJ hT hR k => wpAny_execs_cons (h₁ A s W mu val _ _ hA hP hJ hT hR fun W' mu' val' h' tk p g R =>
    h₂ A _ W' mu' val' _ _ hA p g.j (g.tw hT hR.muT) R (k.go hR.wex g))
theorem soundS_stop {st : Stmt} {rest : List Stmt} {p : PV} (h₁ : SoundS c n fi σ (exec st) (.ret p)) : SoundS c n fi σ (execs (st :: rest)) (.ret p) :=
  fun A s W mu val Q E hA hP hJ hT hR k => wpAny_execs_cons (h₁ A s W mu val _ _ hA hP hJ hT hR fun W' mu' v h' tk p g d => k W' mu' v h' tk p g d)

theorem soundS_ret {e : Expr} {pos : Pos} {p : PV} (h : SoundE c n fi σ e p) : SoundS c n fi σ (exec (.Return (some e) pos)) (.ret p) :=
  fun A s W mu val Q E hA hP hJ hT hR k => wpAny_Return_some (h A s W mu val _ _ hA hP hJ hT hR fun v h₁ tk p s₁ d => k W mu v h₁ tk p (Go.of_step s₁) d)

theorem soundS_if {t : Expr} {a b : List Stmt} {pos : Pos} {z : Bool} {r : Res} (ht : SoundT c n fi σ t z) (ha : z = true → SoundS c n fi σ (execs a) r) (hb : z = false → SoundS c n fi σ (execs b) r) : SoundS c n fi σ (exec (.If t a b pos)) r :=
  fun A s W mu val Q E hA hP hJ hT hR k => wpAny_If (ht A s W mu val _ _ hA hP hJ hT hR fun h₁ tk₁ p₁ s₁ => by
    cases z with
    | true => exact ha rfl A _ W mu val _ _ hA p₁ s₁.j hT (hR.step hT s₁) (k.go hR.wex (Go.of_step s₁))
    | false => exact hb rfl A _ W mu val _ _ hA p₁ s₁.j hT (hR.step hT s₁) (k.go hR.wex (Go.of_step s₁)))

noncomputable def upd (val : Vals) (i : Nat) (v : Value) : Vals := fun j => if j = i then some v else val j

/-- objects that are no values of names: namespaces and cells -/
noncomputable def Odd (o : Obj) : Prop := (∃ es ep, o.data = .dict es ep) ∨ ∃ v, o.data = .cell v

theorem noCod_odd {o : Obj} (h : Odd o) : ∀ q, ¬ CodQ q o := noCod_data fun vs e => by
  rcases h with ⟨_, _, q⟩ | ⟨_, q⟩ <;> rw [q] at e <;> cases e

theorem AVat.but {h h' : Heap} {W mu : Addr → Prop} {a : Addr} {o : Obj} (ho : h.get? a = some o) (hodd : Odd o) (hWa : W a) (k : ∀ b o, b ≠ a → h.get? b = some o → h'.get? b = some o) : ∀ {av : AV} {v : Value}, AVat h W mu av v → AVat h' W mu av v
  | .im p, v, x => Den.keeps ⟨fun b o e n => k b o (fun q => n (q ▸ hWa)) e, fun _ _ _ q => q⟩ x
  | .own l, v, ⟨b, vs, n, e, m, g, d⟩ => ⟨b, vs, n, e, m, k _ _ (fun q => by
      rw [q, ho] at g; cases g
      rcases hodd with ⟨es, ep, hd⟩ | ⟨v, hd⟩ <;> exact absurd hd (by simp)) g, DenL.keeps ⟨fun b o e n => k b o (fun q => n (q ▸ hWa)) e, fun _ _ _ q => q⟩ d⟩
  | .ownb l, v, ⟨b, n, e, m, g⟩ => ⟨b, n, e, m, k _ _ (fun q => by
      rw [q, ho] at g; cases g
      rcases hodd with ⟨es, ep, hd⟩ | ⟨v, hd⟩ <;> exact absurd hd (by simp)) g⟩

theorem get_set {σ : Sg} {i j : Nat} {x : Option AV} {av : AV} (e : (σ.set i x)[j]? = some (some av)) : (j = i ∧ x = some av) ∨ (j ≠ i ∧ σ[j]? = some (some av)) := by
  by_cases h : i = j
  · subst h
    rw [List.getElem?_set_self'] at e
    cases hh : σ[i]? with
    | none => rw [hh] at e; cases e
    | some y => rw [hh] at e; simp at e; exact .inl ⟨rfl, e⟩
  · rw [List.getElem?_set_ne h] at e
    exact .inr ⟨fun q => h q.symm, e⟩

/-- a name's store -/
theorem store_any {A : Around} {s : Shared} {W mu : Addr → Prop} {val : Vals} {i : Nat} {x : PySem.Str} {v : Value} {av : AV} {Q : Unit → Shared → Prop} {E : Value → Shared → Prop} (hP : 0 < s.toks) (hJ : J c s.heap) (hR : Rel c W mu s.heap fi val σ) (hcap : fi.capt = false ∨ fi.place i = none) (hx : fi.nt[i]? = some x)
    (d : AVat s.heap W mu av v) (hsep : isOwn av = true → ∀ j bv a, j ≠ i → σ[j]? = some (some bv) → isOwn bv = true → val j = some (.ref a) → v ≠ .ref a)
    (hQ : ∀ h' tk, 0 < tk → Go c W mu s.heap W mu h' → Rel c W mu h' fi (upd val i v) (σ.set i (some av)) → (∀ b o, (¬ mu b ∨ ¬ Odd o) → s.heap.get? b = some o → h'.get? b = some o) → Q () { s with heap := h', toks := tk }) : wpAny c.M A (storeName fi.env x v) Q E s := by
  have common : ∀ (a : Addr) (o o' : Obj) (h' : Heap), s.heap.get? a = some o → Odd o → mu a → (∀ b o, b ≠ a → s.heap.get? b = some o → h'.get? b = some o) → h'.get? a = some o' →
      LocAt h' fi (upd val i v) →
      (∀ j y b, fi.nt[j]? = some y → fi.place j = some b → CelIn h' b (upd val i v j)) →
      Go c W mu s.heap W mu h' ∧ Rel c W mu h' fi (upd val i v) (σ.set i (some av)) := by
    intro a o o' h' ho hodd hmu hk ha' hloc hcel
    have hkeep : ∀ b o, s.heap.get? b = some o → ¬ mu b → h'.get? b = some o := fun b o e nm => hk b o (fun q => nm (q ▸ hmu)) e
    have hex : ∀ b o, s.heap.get? b = some o → ∃ o', h'.get? b = some o' := fun b o e => by
      by_cases q : b = a
      · subst q; exact ⟨o', ha'⟩
      · exact ⟨o, hk b o q e⟩
    refine ⟨⟨fun b o e _ nm => hkeep b o e nm, fun _ q => .inl q, fun _ q => .inl q, fun _ q _ => q, J.but hJ (X := fun b => b = a) (fun b o e nm => hk b o nm e) (fun b q => q ▸ hR.muG _ hmu) (fun b q => q ▸ hR.muT _ hmu) (fun b o₁ q z e => by subst z; rw [ho] at e; cases e; exact noCod_odd hodd q), hex⟩, ?_⟩
    have hav : ∀ {bv : AV} {u : Value}, AVat s.heap W mu bv u → AVat h' W mu bv u := fun z => z.but ho hodd (hR.muW _ hmu) hk
    exact {
      kind := hR.kind, gl := hR.gl, bl := hR.bl
      wex := fun b hb => let ⟨_, e⟩ := hR.wex b hb; hex b _ e
      muW := hR.muW, muT := hR.muT, muG := hR.muG, lmu := hR.lmu
      loc := hloc
      cel := fun j y b h1 h2 => by
        obtain ⟨q1, q2, q3, q4, _⟩ := hR.cel j y b h1 h2
        exact ⟨q1, q2, q3, q4, hcel j y b h1 h2⟩
      cmu := hR.cmu, celd := hR.celd
      vals := fun j bv e => by
        rcases get_set e with ⟨rfl, e9⟩ | ⟨hne, e⟩
        · cases e9; exact ⟨x, v, hx, by simp [upd], hav d⟩
        · obtain ⟨y, u, h1, h2, h3⟩ := hR.vals j bv e
          exact ⟨y, u, h1, by simp [upd, hne, h2], hav h3⟩
      sep := fun j k b av' bv' e1 e2 o1 o2 v1 v2 => by
        rcases get_set e1 with ⟨z1, f1⟩ | ⟨z1, f1⟩ <;> rcases get_set e2 with ⟨z2, f2⟩ | ⟨z2, f2⟩
        · rw [z1, z2]
        · cases f1
          have w1 : v = .ref b := by simpa [upd, z1] using v1
          exact absurd w1 (hsep o1 k bv' b z2 f2 o2 (by simpa [upd, z2] using v2))
        · cases f2
          have w1 : v = .ref b := by simpa [upd, z2] using v2
          exact absurd w1 (hsep o2 j av' b z1 f1 o1 (by simpa [upd, z1] using v1))
        · exact hR.sep j k b av' bv' f1 f2 o1 o2 (by simpa [upd, z1] using v1) (by simpa [upd, z2] using v2)
      nd := hR.nd, ndb := hR.ndb }
  cases hp : fi.place i with
  | none =>
    obtain ⟨m, hn, hl⟩ := hR.loc
    refine wpAny_storeName_local (hl i x hx hp).1 hn (fun h' hn' hs' => ?_) (by rw [hR.kind]; rfl)
    obtain ⟨o, es, ep, ho, hd, hn2⟩ := hn
    obtain ⟨o', es', ep', ho', hd', hn2'⟩ := id hn'
    have gR := common fi.env.locals o o' h' ho (.inl ⟨es, ep, hd⟩) hR.lmu (fun b o q e => hs'.extBut b o q e) ho' ⟨_, hn', fun j y h1 h2 => ⟨(hl j y h1 h2).1, fun u hu => ?_⟩⟩ (fun j y b h1 h2 => ?_)
    · exact hQ h' _ (Nat.succ_pos _) gR.1 gR.2 fun b o nm e => hs'.extBut b o (fun q => nm.elim (fun nm => nm (q ▸ hR.lmu)) fun no => no (by rw [q, ho] at e; cases e; exact .inl ⟨es, ep, hd⟩)) e
    · by_cases q : j = i
      · subst q
        obtain rfl : x = y := Option.some.inj (hx.symm.trans h1)
        simp [upd] at hu
        simp [hu]
      · have : y ≠ x := fun q' => q (hR.nd j i y h1 (q' ▸ hx))
        simp [upd, q] at hu
        simp [this, (hl j y h1 h2).2 u hu]
    · obtain ⟨_, _, _, _, o1, ov, h3, h4, h5⟩ := hR.cel j y b h1 h2
      have hne : b ≠ fi.env.locals := fun q => by
        rw [q, ho] at h3; cases h3; rw [hd] at h4; cases h4
      refine ⟨o1, ov, hs'.extBut b _ hne h3, h4, fun u hu => h5 u ?_⟩
      have : j ≠ i := fun q => by subst q; rw [hp] at h2; cases h2
      simpa [upd, this] using hu
  | some a =>
    obtain ⟨h1, h2, h3, _, o, ov, ho, hd, h5⟩ := hR.cel i x a hx hp
    have hcap : fi.capt = false := hcap.elim id fun q => by rw [hp] at q; cases q
    obtain ⟨hmu, hkd⟩ := hR.cmu hcap i x a hx hp
    refine wpAny_storeName_cell hR.kind hkd h1 ⟨o, ho, hd⟩ (fun h' hc' hs' => ?_)
    obtain ⟨o', ho', hd'⟩ := hc'
    obtain ⟨m, hn, hl⟩ := hR.loc
    obtain ⟨ol, es, ep, hol, hdl, hn2⟩ := id hn
    have hne : fi.env.locals ≠ a := fun q => by rw [q, ho] at hol; cases hol; rw [hd] at hdl; cases hdl
    have gR := common a o o' h' ho (.inr ⟨ov, hd⟩) hmu (fun b o q e => hs'.extBut b o q e) ho' ⟨m, hn.sameBut hs' hne, fun j y h1 h2 => ⟨(hl j y h1 h2).1, fun u hu => ?_⟩⟩ (fun j y b h1' h2' => ?_)
    · exact hQ h' _ hP gR.1 gR.2 fun b o1 nm e => hs'.extBut b o1 (fun q => nm.elim (fun nm => nm (q ▸ hmu)) fun no => no (by rw [q, ho] at e; cases e; exact .inr ⟨ov, hd⟩)) e
    · have : j ≠ i := fun q => by subst q; rw [hp] at h2; cases h2
      exact (hl j y h1 h2).2 u (by simpa [upd, this] using hu)
    · by_cases q : b = a
      · subst q
        have : j = i := hR.celd j i b h2' hp
        subst this
        exact ⟨o', some v, ho', hd', fun u hu => by simp [upd] at hu; rw [hu]⟩
      · obtain ⟨_, _, _, _, o1, ov1, h3, h4, h5⟩ := hR.cel j y b h1' h2'
        refine ⟨o1, ov1, hs'.extBut b _ q h3, h4, fun u hu => h5 u ?_⟩
        have : j ≠ i := fun q' => q (by subst q'; rw [hp] at h2'; cases h2'; rfl)
        simpa [upd, this] using hu
end Mine
end

section
open PySem PySem.W PyProof.Rows
set_option Elab.async false
set_option linter.unusedVariables false
namespace Mine

variable {c : Cx} {n : Nat} {fi : FI} {σ : Sg}

noncomputable def add1 (W : Addr → Prop) (a : Addr) : Addr → Prop := fun b => W b ∨ b = a

/-- one address more for the activation's own -/
theorem Rel.grow {W mu : Addr → Prop} {h h' : Heap} {val : Vals} {a : Addr} (R : Rel c W mu h fi val σ) (hJ : J c h) (hT : TW c W) (k : ∀ b o, h.get? b = some o → h'.get? b = some o) (hn : h.get? a = none) (he : ∃ o, h'.get? a = some o) :
    Rel c (add1 W a) (add1 mu a) h' fi val σ ∧ Go c W mu h (add1 W a) (add1 mu a) h' := by
  have na : ∀ b o, h.get? b = some o → b ≠ a := fun b o e q => by rw [q, hn] at e; cases e
  have wa : ∀ b o, h.get? b = some o → add1 W a b → W b := fun b o e q => q.elim id fun q => absurd q (na b o e)
  have nT : ¬ c.TB a := fun q => by obtain ⟨o, e, _⟩ := hJ.tab a q; rw [hn] at e; cases e
  have nG : c.G.get? a = none := by
    cases q : c.G.get? a with
    | none => rfl
    | some o => have := hJ.ext _ _ q; rw [hn] at this; cases this
  have st := Step.all hJ k
  have kp : Keeps W h (add1 W a) h' := ⟨fun b o e _ => k b o e, wa⟩
  refine ⟨{ (R.step hT st) with
    wex := fun b hb => hb.elim (fun q => let ⟨_, e⟩ := R.wex b q; ⟨_, k _ _ e⟩) (fun q => q ▸ he)
    muW := fun b hb => hb.elim (fun q => .inl (R.muW b q)) .inr
    muT := fun b hb => hb.elim (fun q => R.muT b q) (fun q => q ▸ nT)
    muG := fun b hb => hb.elim (fun q => R.muG b q) (fun q => q ▸ nG)
    lmu := .inl R.lmu
    cel := fun i x b h1 h2 => by
      obtain ⟨q1, q2, q3, q4, o, ov, q5, q6, q7⟩ := R.cel i x b h1 h2
      exact ⟨q1, .inl q2, q3, q4, o, ov, k _ _ q5, q6, q7⟩
    cmu := fun e i x b h1 h2 => ⟨.inl (R.cmu e i x b h1 h2).1, (R.cmu e i x b h1 h2).2⟩
    vals := fun i av e => by
      obtain ⟨x, v, h1, h2, h3⟩ := R.vals i av e
      refine ⟨x, v, h1, h2, ?_⟩
      cases av with
      | im p => exact Den.keeps kp h3
      | own l =>
        obtain ⟨b, vs, m, e, hm, g, d⟩ := h3
        exact ⟨b, vs, m, e, .inl hm, k _ _ g, DenL.keeps kp d⟩
      | ownb l =>
        obtain ⟨b, m, e, hm, g⟩ := h3
        exact ⟨b, m, e, .inl hm, k _ _ g⟩ },
    ⟨fun b o e _ _ => k b o e, fun b q => q.elim .inl fun q => .inr (q ▸ hn), fun b q => q.elim .inl fun q => .inr (q ▸ hn), fun b q _ => .inl q, st.j, fun b o e => ⟨o, k b o e⟩⟩⟩

/-- x = e -/
theorem soundS_set {x : PySem.Str} {p' pos : Pos} {e : Expr} {i : Nat} {p : PV} (he : SoundE c n fi σ e p) (hcap : fi.capt = false) (hx : fi.nt[i]? = some x) (hs : swapsWith e (some (.Name x p')) pos.line fi.env = pure false) :
    SoundS c n fi σ (exec (.Assign [.Name x p'] e pos)) (.next (σ.set i (some (.im p)))) :=
  fun A s W mu val Q E hA hP hJ hT hR k => wpAny_Assign_Name (he A s W mu val _ _ hA hP hJ hT hR fun v h₁ tk₁ p₁ s₁ d₁ =>
    store_any (σ := σ) (val := val) (s := ⟨h₁, s.gens, s.drawn, tk₁, s.os⟩) p₁ s₁.j (hR.step hT s₁) (.inl hcap) hx (av := .im p) d₁ (fun e => by cases e) fun h' tk hp g R _ => k W mu _ h' tk hp ((Go.of_step s₁).trans g hR.wex) R) hs

theorem DenL.wider {W W' : Addr → Prop} {h : Heap} {ps : List PV} {vs : List Value} (w : ∀ b o, h.get? b = some o → W' b → W b) (d : DenL h W ps vs) : DenL h W' ps vs := d.keeps ⟨fun _ _ e _ => e, w⟩
theorem Den.wider {W W' : Addr → Prop} {h : Heap} {p : PV} {v : Value} (w : ∀ b o, h.get? b = some o → W' b → W b) (d : Den h W p v) : Den h W' p v := d.keeps ⟨fun _ _ e _ => e, w⟩

/-- x = [..], a list of its own -/
theorem soundS_setOwn {x : PySem.Str} {p' pos lp : Pos} {es : List Expr} {ps : List PV} {i : Nat} (he : SoundEs c n fi σ es ps) (hf : ps.length ≤ 100000) (hcap : fi.capt = false) (hx : fi.nt[i]? = some x) :
    SoundS c n fi σ (exec (.Assign [.Name x p'] (.List es lp) pos)) (.next (σ.set i (some (.own ps)))) :=
  fun A s W mu val Q E hA hP hJ hT hR k => wpAny_Assign_Name (List_ (he.spliced hA hT hP hJ hR fun vs h₁ tk₁ p₁ s₁ d₁ => wpAny_newObj_type (by
    have hn : h₁.get? h₁.objs.size = none := get_fresh
    obtain ⟨R₂, g₂⟩ := Rel.grow (h' := h₁.push (listO vs 0)) (hR.step hT s₁) s₁.j hT (fun b o e => Heap.get?_push_of_some _ e) hn ⟨_, Heap.get?_push_size _ rfl⟩
    have hw := WEx.step hR.wex s₁
    refine store_any (s := ⟨h₁.push (listO vs 0), s.gens, s.drawn, tk₁, s.os⟩) p₁ g₂.j R₂ (.inl hcap) hx (av := .own ps) ⟨_, vs, 0, rfl, .inr rfl, Heap.get?_push_size _ rfl, DenL.keeps ⟨fun b o e _ => Heap.get?_push_of_some _ e, fun b o e q => q.elim id fun q => by rw [q, hn] at e; cases e⟩ d₁⟩
      (fun _ j bv a hj e1 e2 e3 q => ?_) fun h' tk hp g R _ => k _ _ _ h' tk hp (((Go.of_step s₁).trans g₂ hR.wex).trans g hR.wex) R
    cases q
    have := (hR.step hT s₁).vals j bv e1
    obtain ⟨y, u, f1, f2, f3⟩ := this
    rw [e3] at f2; cases f2
    cases bv with
    | im p => cases e2
    | own l => obtain ⟨b, vs', m, f4, _, f5, _⟩ := f3; cases f4; rw [hn] at f5; cases f5
    | ownb l => obtain ⟨b, m, f4, _, f5⟩ := f3; cases f4; rw [hn] at f5; cases f5) (by
      have := d₁.length
      show vs.toArray.size ≤ sizeLine
      rw [List.size_toArray, sizeLine_eq]; omega)))

/-- two stores, one after the other -/
theorem store_two {A : Around} {s : Shared} {W mu : Addr → Prop} {val : Vals} {i j : Nat} {x y : PySem.Str} {u v : Value} {p q : PV} {Q : Unit → Shared → Prop} {E : Value → Shared → Prop} (hP : 0 < s.toks) (hJ : J c s.heap) (hT : TW c W) (hR : Rel c W mu s.heap fi val σ) (hcap : fi.capt = false ∨ fi.place i = none) (hcap' : fi.capt = false ∨ fi.place j = none) (hx : fi.nt[i]? = some x) (hy : fi.nt[j]? = some y)
    (du : Den s.heap W p u) (dv : Den s.heap W q v)
    (hQ : ∀ h' tk val', 0 < tk → Go c W mu s.heap W mu h' → Rel c W mu h' fi val' ((σ.set i (some (.im p))).set j (some (.im q))) → (∀ b o, (¬ mu b ∨ ¬ Odd o) → s.heap.get? b = some o → h'.get? b = some o) → Q () { s with heap := h', toks := tk }) : wpAny c.M A (storeName fi.env x u) (fun _ s₁ => wpAny c.M A (storeName fi.env y v) Q E s₁) E s :=
  store_any hP hJ hR hcap hx (av := .im p) du (fun e => by cases e) fun h₁ tk₁ p₁ g₁ R₁ kp₁ =>
    store_any (s := ⟨h₁, s.gens, s.drawn, tk₁, s.os⟩) p₁ g₁.j R₁ hcap' hy (av := .im q) (Den.keeps ⟨fun b o e nw => kp₁ b o (.inl fun m => nw (hR.muW b m)) e, fun _ _ _ w => w⟩ dv) (fun e => by cases e) fun h₂ tk₂ p₂ g₂ R₂ kp₂ => hQ h₂ tk₂ _ p₂ (g₁.trans g₂ hR.wex) R₂ fun b o q e => kp₂ b o q (kp₁ b o q e)

/-- x, y = e -/
theorem soundS_set2 {x y : PySem.Str} {q₁ q₂ tp pos : Pos} {kk : Nat} {e : Expr} {i j : Nat} {a b : PV} (he : SoundE c n fi σ e (.tup [a, b])) (hcap : fi.capt = false) (hx : fi.nt[i]? = some x) (hy : fi.nt[j]? = some y) (hij : i ≠ j)
    (hso : swapsWithSole [.Tuple [.Name x q₁, .Name y q₂] kk tp] e pos.line fi.env = pure false)
    (hs : swappedStores [.Tuple [.Name x q₁, .Name y q₂] kk tp] e fi.env = pure none ∨ swappedStores [.Tuple [.Name x q₁, .Name y q₂] kk tp] e fi.env = pure (some [x, y])) :
    SoundS c n fi σ (exec (.Assign [.Tuple [.Name x q₁, .Name y q₂] kk tp] e pos)) (.next ((σ.set i (some (.im a))).set j (some (.im b)))) :=
  fun A s W mu val Q E hA hP hJ hT hR k => by
    rcases hs with hs | hs
    · refine Assign_Tuple (hs := hso) (hw := hs) (he A s W mu val _ _ hA hP hJ hT hR fun v h₁ tk₁ p₁ s₁ d₁ => ?_)
      obtain ⟨t, vs, m, rfl, wt, gt, dt⟩ := den_tup d₁
      obtain ⟨u, w, rfl, du, dw⟩ := den2 dt
      refine assign_Tuple_tuple (items := #[u, w]) hA.handled ⟨_, gt, rfl, _, rfl⟩ rfl rfl fun h₂ ext => ?_
      have s₂ := Step.all s₁.j fun b o e => ext b o (Nat.ne_of_lt (Heap.lt_size e)) e
      have hR₂ := (hR.step hT s₁).step hT s₂
      show wpAny c.M A (do holding [w] (assign (.Name x q₁) fi.env u); (do holding [] (assign (.Name y q₂) fi.env w); pure ())) _ _ _
      refine wpAny_bind (wpAny_holding (PyProof.Rows.assign_Name (wpAny_mono (store_two (s := ⟨h₂, s.gens, s.drawn, tk₁, s.os⟩) (Q := fun _ s' => Q .next s') (E := E) p₁ s₂.j hT hR₂ (.inl hcap) (.inl hcap) hx hy (du.step hT s₂) (dw.step hT s₂) fun h' tk val' hp g R _ => k W mu val' h' tk hp (((Go.of_step s₁).trans (Go.of_step s₂) hR.wex).trans g hR.wex) R) (fun _ s₃ h₃ => wpAny_bind (wpAny_holding (PyProof.Rows.assign_Name (wpAny_mono h₃ (fun _ s₄ h₄ => wpAny_pure h₄) fun _ _ e => e)))) fun _ _ e => e)))
    · refine Assign_Tuple_swapped (hs := hso) (hw := hs) (he A s W mu val _ _ hA hP hJ hT hR fun v h₁ tk₁ p₁ s₁ d₁ => ?_)
      obtain ⟨t, vs, m, rfl, wt, gt, dt⟩ := den_tup d₁
      obtain ⟨u, w, rfl, du, dw⟩ := den2 dt
      refine unpackItems_tuple (items := #[u, w]) hA.handled ⟨_, gt, rfl, _, rfl⟩ fun h₂ ext => ?_
      have s₂ := Step.all s₁.j fun b o e => ext b o (Nat.ne_of_lt (Heap.lt_size e)) e
      have hR₂ := (hR.step hT s₁).step hT s₂
      show wpAny c.M A (do holding [u] (bindName fi.env y w); (do holding [] (bindName fi.env x u); pure ())) _ _ _
      have hsw : (σ.set i (some (.im a))).set j (some (.im b)) = (σ.set j (some (.im b))).set i (some (.im a)) := List.set_comm _ _ hij
      rw [hsw] at k
      refine wpAny_bind (wpAny_holding (wpAny_bindName (wpAny_mono (store_two (s := ⟨h₂, s.gens, s.drawn, tk₁, s.os⟩) (Q := fun _ s' => Q .next s') (E := E) p₁ s₂.j hT hR₂ (.inl hcap) (.inl hcap) hy hx (dw.step hT s₂) (du.step hT s₂) fun h' tk val' hp g R _ => k W mu val' h' tk hp (((Go.of_step s₁).trans (Go.of_step s₂) hR.wex).trans g hR.wex) R) (fun _ s₃ h₃ => wpAny_bind (wpAny_holding (wpAny_bindName (wpAny_mono h₃ (fun _ s₄ h₄ => wpAny_pure h₄) fun _ _ e => e)))) fun _ _ e => e)))
end Mine
end

section
open PySem PySem.W PyProof.Rows
set_option Elab.async false
set_option linter.unusedVariables false
namespace Mine

variable {c : Cx} {n : Nat} {fi : FI} {σ : Sg}

theorem own_kind {h : Heap} {W mu : Addr → Prop} {av : AV} {a : Addr} (ho : isOwn av = true) (d : AVat h W mu av (.ref a)) : mu a ∧ ∃ o, h.get? a = some o ∧ ¬ Odd o := by
  cases av with
  | im p => cases ho
  | own l =>
    obtain ⟨b, vs, m, e, hm, g, _⟩ := d
    cases e
    exact ⟨hm, _, g, fun q => by rcases q with ⟨_, _, q⟩ | ⟨_, q⟩ <;> cases q⟩
  | ownb l =>
    obtain ⟨b, m, e, hm, g⟩ := d
    cases e
    exact ⟨hm, _, g, fun q => by rcases q with ⟨_, _, q⟩ | ⟨_, q⟩ <;> cases q⟩

theorem own_noCod {h : Heap} {W mu : Addr → Prop} {av : AV} {a : Addr} {o : Obj} (ho : isOwn av = true) (d : AVat h W mu av (.ref a)) (e : h.get? a = some o) : ∀ q, ¬ CodQ q o := by
  cases av with
  | im p => cases ho
  | own l =>
    obtain ⟨b, vs, m, e', hm, g, _⟩ := d
    cases e'
    rw [e] at g; cases g
    exact noCod_data fun _ q => by cases q
  | ownb l =>
    obtain ⟨b, m, e', hm, g⟩ := d
    cases e'
    rw [e] at g; cases g
    exact noCod_data fun _ q => by cases q

/-- an object of the activation's own changes -/
theorem Rel.mutate {W mu : Addr → Prop} {h h' : Heap} {val : Vals} {a : Addr} {i : Nat} {av av' : AV} (R : Rel c W mu h fi val σ) (hJ : J c h) (hi : σ[i]? = some (some av)) (ho : isOwn av = true) (ho' : isOwn av' = true) (hv : val i = some (.ref a))
    (hs : ∀ b o, b ≠ a → h.get? b = some o → h'.get? b = some o) (d' : AVat h' W mu av' (.ref a)) : Rel c W mu h' fi val (σ.set i (some av')) ∧ Go c W mu h W mu h' := by
  obtain ⟨x, v, f1, f2, f3⟩ := R.vals i av hi
  rw [hv] at f2; cases f2
  obtain ⟨hmu, oa, hoa, hodd⟩ := own_kind ho f3
  obtain ⟨_, oa', hoa', _⟩ := own_kind ho' d'
  have hkeep : ∀ b o, h.get? b = some o → ¬ mu b → h'.get? b = some o := fun b o e nm => hs b o (fun q => nm (q ▸ hmu)) e
  have hex : ∀ b o, h.get? b = some o → ∃ o', h'.get? b = some o' := fun b o e => by
    by_cases q : b = a
    · subst q; exact ⟨_, hoa'⟩
    · exact ⟨o, hs b o q e⟩
  have ne_odd : ∀ b o, h.get? b = some o → Odd o → b ≠ a := fun b o e q z => by
    rw [z, hoa] at e; cases e; exact hodd q
  have im_keep : ∀ {p : PV} {u : Value}, Den h W p u → Den h' W p u := fun d => Den.keeps ⟨fun b o e nw => hs b o (fun q => nw (q ▸ R.muW _ hmu)) e, fun _ _ _ q => q⟩ d
  have l_keep : ∀ {p : List PV} {u : List Value}, DenL h W p u → DenL h' W p u := fun d => DenL.keeps ⟨fun b o e nw => hs b o (fun q => nw (q ▸ R.muW _ hmu)) e, fun _ _ _ q => q⟩ d
  refine ⟨{
    kind := R.kind, gl := R.gl, bl := R.bl
    wex := fun b hb => let ⟨_, e⟩ := R.wex b hb; hex b _ e
    muW := R.muW, muT := R.muT, muG := R.muG, lmu := R.lmu
    loc := by
      obtain ⟨m, ⟨o, es, ep, q1, q2, q3⟩, q⟩ := R.loc
      exact ⟨m, ⟨o, es, ep, hs _ _ (ne_odd _ _ q1 (.inl ⟨es, ep, q2⟩)) q1, q2, q3⟩, q⟩
    cel := fun j y b h1 h2 => by
      obtain ⟨q1, q2, q3, q4, o, ov, q5, q6, q7⟩ := R.cel j y b h1 h2
      exact ⟨q1, q2, q3, q4, o, ov, hs _ _ (ne_odd _ _ q5 (.inr ⟨ov, q6⟩)) q5, q6, q7⟩
    cmu := R.cmu, celd := R.celd
    vals := fun j bv e => by
      rcases get_set e with ⟨z, f⟩ | ⟨z, f⟩
      · cases f; subst z; exact ⟨x, _, f1, hv, d'⟩
      · obtain ⟨y, u, g1, g2, g3⟩ := R.vals j bv f
        refine ⟨y, u, g1, g2, ?_⟩
        cases bv with
        | im p => exact im_keep g3
        | own l =>
          obtain ⟨b, vs, m, e1, e2, e3, e4⟩ := g3
          refine ⟨b, vs, m, e1, e2, hs b _ (fun q => z ?_) e3, l_keep e4⟩
          exact R.sep j i a _ _ f hi rfl ho (by rw [g2, e1, q]) hv
        | ownb l =>
          obtain ⟨b, m, e1, e2, e3⟩ := g3
          refine ⟨b, m, e1, e2, hs b _ (fun q => z ?_) e3⟩
          exact R.sep j i a _ _ f hi rfl ho (by rw [g2, e1, q]) hv
    sep := fun j k b av1 av2 e1 e2 o1 o2 v1 v2 => by
      rcases get_set e1 with ⟨z1, f1⟩ | ⟨z1, f1⟩ <;> rcases get_set e2 with ⟨z2, f2⟩ | ⟨z2, f2⟩
      · rw [z1, z2]
      · exact (R.sep j k b av av2 (z1 ▸ hi) f2 ho o2 v1 v2)
      · exact (R.sep j k b av1 av f1 (z2 ▸ hi) o1 ho v1 v2)
      · exact R.sep j k b av1 av2 f1 f2 o1 o2 v1 v2
    nd := R.nd, ndb := R.ndb },
    ⟨fun b o e _ nm => hkeep b o e nm, fun _ q => .inl q, fun _ q => .inl q, fun _ q _ => q, J.but hJ (X := fun b => b = a) (fun b o e nm => hs b o nm e) (fun b q => q ▸ R.muG _ hmu) (fun b q => q ▸ R.muT _ hmu) (fun b o₁ q z e => by subst z; exact own_noCod ho f3 e q), hex⟩⟩

/-- the name of an object of its own -/
theorem eval_own {A : Around} {s : Shared} {W mu : Addr → Prop} {val : Vals} {x : PySem.Str} {pos : Pos} {i : Nat} {av : AV} {Q E : Value → Shared → Prop} (hR : Rel c W mu s.heap fi val σ) (hx : fi.nt[i]? = some x) (hv : σ[i]? = some (some av))
    (k : ∀ v, val i = some v → AVat s.heap W mu av v → Q v s) : wpAny c.M A (eval (.Name x pos) fi.env) Q E s := by
  obtain ⟨y, v, h1, h2, h3⟩ := hR.vals i _ hv
  obtain rfl : x = y := Option.some.inj (hx.symm.trans h1)
  have hd := hR.ndb i x hx
  have q : Q v s := k v h2 h3
  refine wpAny_Name ?_ hd.1
  cases hp : fi.place i with
  | none =>
    obtain ⟨m, hn, hl⟩ := hR.loc
    obtain ⟨h4, h5⟩ := hl i x hx hp
    exact wpAny_loadName_local hR.kind h4 hn (h5 v h2) q
  | some a =>
    obtain ⟨h4, _, _, h5, o, ov, ho, hov, h6⟩ := hR.cel i x a hx hp
    have hc : s.heap.IsCell a (some v) := ⟨o, ho, by rw [hov, h6 v h2]⟩
    rcases h5 with h5 | h5
    · exact wpAny_loadName_cell hR.kind h5 h4 hc q
    · exact wpAny_loadName_free hR.kind h5 h4 hc q hd.2

theorem own_list {h : Heap} {W mu : Addr → Prop} {l : List PV} {v : Value} (d : AVat h W mu (.own l) v) : OwnAt h W mu l v := d

/-- x.append(e) -/
theorem soundS_app {x : PySem.Str} {xp apos cpos pos : Pos} {e : Expr} {i : Nat} {l : List PV} {p : PV} (hx : fi.nt[i]? = some x) (hi : σ[i]? = some (some (.own l))) (he : SoundE c n fi σ e p) (hf : l.length ≤ 100000) (hns : ∀ a b, e ≠ .Starred a b)
    (hb : ∀ env t, attributeBase (.Name x xp) ("append" : PySem.Str) env t = t) (hline : (apos.endLine == cpos.line) = true) (hin : interactive fi.env = false)
    (hsw : swapsWith (.Call (.Attribute (.Name x xp) ("append" : PySem.Str) apos) [e] [] cpos) none pos.line fi.env = pure false) :
    SoundS c n fi σ (exec (.Expr (.Call (.Attribute (.Name x xp) ("append" : PySem.Str) apos) [e] [] cpos) pos)) (.next (σ.set i (some (.own (l ++ [p]))))) :=
  fun A s W mu val Q E hA hP hJ hT hR k => by
    refine wpAny_Expr (hi := hin) (hs := hsw) ?_
    refine wpAny_Call_method (T := "list") (id := "list.append") (hb _ _) ?_ hline F.plainAttrs_list F.slot_list_append F.type_list_append (eval_own hR hx hi fun v hv hav => ?_)
    · rw [starEach_plain hns]; rfl
    · obtain ⟨a, vs, m, rfl, hmu, hg, hd⟩ := own_list hav
      refine ⟨⟨_, hg, rfl⟩, fun b q => by cases q; exact ⟨_, hg, rfl⟩, ?_⟩
      rw [starEach_plain hns]
      refine Calls.callWith_builtin rfl (Calls.evalArgs_plain (Calls.spliced_cons (he A s W mu val _ _ hA hP hJ hT hR fun v₁ h₁ tk₁ p₁ s₁ d₁ => Calls.spliced_nil ?_)))
      have hR₁ := hR.step hT s₁
      have hg₁ := s₁.kept _ _ hg (hR.muT _ hmu)
      have hlen := hd.length
      refine append_at (s := ⟨h₁, s.gens, s.drawn, tk₁, s.os⟩) hg₁ (fun h₂ hs hg₂ => ?_) (by simp [sizeLine_eq]; omega)
      have ha : W a := hR.muW _ hmu
      have kp : Keeps W h₁ W h₂ := ⟨fun b o e nw => hs.extBut b o (fun q => nw (q ▸ ha)) e, fun _ _ _ q => q⟩
      have hg₂' : h₂.get? a = some (listO (vs ++ [v₁]) (m + 1)) := by rw [hg₂]; simp
      obtain ⟨R₂, g₂⟩ := Rel.mutate (av' := .own (l ++ [p])) hR₁ s₁.j hi rfl rfl hv (fun b o q e => hs.extBut b o q e) ⟨a, _, _, rfl, hmu, hg₂', ((hd.step hT s₁).keeps kp).append (DenL.cons (d₁.keeps kp) DenL.nil)⟩
      exact k W mu val h₂ tk₁ p₁ ((Go.of_step s₁).trans g₂ hR.wex) R₂

theorem setItem_at {prog : Program} {w : World} {A : Around} {s : Shared} {E : Value → Shared → Prop} {l : Addr} {its : Array Value} {n : Nat} {k : Int} {t : Tok} {v : Value} {Q : Unit → Shared → Prop} (ho : s.heap.get? l = some { cls := .type "list", data := .seq its n })
    (h0 : 0 ≤ k) (hfit : k < 2 ^ 63) (hn : k < its.size)
    (hQ : ∀ h' m, h'.get? l = some { cls := .type "list", data := .seq (its.setIfInBounds k.toNat v) m } → Heap.SameBut l s.heap h' → Q () { s with heap := h' }) :
    wpAny (model prog w) A (setItem (.ref l) (.int k t) v) Q E s := by
  have hT : s.TypeIs (.ref l) "list" := ⟨_, ho, rfl⟩
  unfold setItem
  try with_reducible refine wpAny_holding ?_
  first | refine wpAny_bind (wpAny_pure ?_) | skip
  refine wpAny_bind (wpAny_sequenceKey hT (by decide) ?_)
  refine wpAny_bind (wpAny_callSpecial?_slot (name := Str.ofString "__setitem__") hT slot_list_setitem
    (wpAny_call_entry slot_list_setitem hT entry_list_setitem ?_ (args_list_setitem _ _ _)))
  show wpAny _ _ (Builtin.List.listSubscript? (.int k t) >>= _) _ _ s
  refine wpAny_bind (wpAny_listSubscript_int (fitsIndex_of h0 hfit) ?_)
  obtain ⟨j, rfl⟩ := Int.eq_ofNat_of_zero_le h0
  have hj : j < its.size := by omega
  have hx' : its[j]? = some its[j] := Array.getElem?_eq_getElem hj
  show wpAny _ _ ((seqItemAt l j >>= fun r => pure (r.map (j, ·))) >>= _) _ _ s
  refine wpAny_bind (wpAny_bind (wpAny_seqItemAt ho rfl (wpAny_pure ?_)))
  rw [hx']
  show wpAny _ _ (setSeqItemAt l j v >>= _) _ _ s
  have hfin : ∃ m, (s.heap.update l (Obj.mapSeq (·.setIfInBounds j v))).get? l = some { cls := .type "list", data := .seq (its.setIfInBounds j v) m } :=
    ⟨_, by rw [Heap.get?_update_self _ ho (by simp [Obj.mapSeq]; rfl)]; simp [Obj.mapSeq]; rfl⟩
  obtain ⟨m, hm⟩ := hfin
  refine wpAny_bind (wpAny_setSeqItemAt ho rfl ?_)
  first
    | exact wpAny_bind (wpAny_pure (wpAny_pure ⟨.none, rfl, wpAny_pure (hQ _ m hm (Heap.SameBut.update ..))⟩))
    | exact wpAny_pure ⟨.none, rfl, wpAny_pure (hQ _ m hm (Heap.SameBut.update ..))⟩

/-- x[e₁] += e₂ -/
theorem soundS_augIdx {x : PySem.Str} {xp tpos pos : Pos} {e₁ e₂ : Expr} {i : Nat} {l : List PV} {k a b : Int} (hx : fi.nt[i]? = some x) (hi : σ[i]? = some (some (.own l))) (h1 : SoundE c n fi σ e₁ (.int k)) (h2 : SoundE c n fi σ e₂ (.int b)) (hk0 : 0 ≤ k) (hk1 : k < l.length)
    (hf : l.length ≤ 100000) (hl : l[k.toNat]? = some (.int a)) (hst : ∀ ov iv new, augStore e₁ ov iv new = (do holding [new, ov, iv] (setItem ov iv new); release [new, ov, iv] []; pure .next)) :
    SoundS c n fi σ (exec (.AugAssign (.Subscript (.Name x xp) e₁ tpos) .Add e₂ pos)) (.next (σ.set i (some (.own (l.set k.toNat (.int (a + b))))))) :=
  fun A s W mu val Q E hA hP hJ hT hR kk => by
    refine wpAny_AugAssign_SubscriptAny (hi := hst) (eval_own hR hx hi fun v hv hav => ?_)
    obtain ⟨ad, vs, m, rfl, hmu, hg, hd⟩ := own_list hav
    refine h1 A s W mu val _ _ hA hP hJ hT hR fun v₁ h₁ tk₁ p₁ s₁ d₁ => ?_
    obtain ⟨t, rfl⟩ := den_int d₁
    have hR₁ := hR.step hT s₁
    have hg₁ := s₁.kept _ _ hg (hR.muT _ hmu)
    have hd₁ := hd.step hT s₁
    have hlen := hd.length
    obtain ⟨old, hold, dold⟩ := hd₁.get hl
    obtain ⟨u, rfl⟩ := den_int dold
    refine wpAny_getItem_list (isList_of hg₁) hk0 (by omega) (by simpa using hold) ?_
    refine h2 A _ W mu val _ _ hA p₁ s₁.j hT hR₁ fun v₂ h₂ tk₂ p₂ s₂ d₂ => ?_
    obtain ⟨t₂, rfl⟩ := den_int d₂
    refine PySem.P.iadd_int ?_
    have hR₂ := hR₁.step hT s₂
    have hg₂ := s₂.kept _ _ hg₁ (hR.muT _ hmu)
    have hd₂ := hd₁.step hT s₂
    refine setItem_at hg₂ hk0 (by omega) (by simp; omega) fun h₃ m' hg₃ hs => ?_
    have ha : W ad := hR.muW _ hmu
    have kp : Keeps W h₂ W h₃ := ⟨fun b o e nw => hs.extBut b o (fun q => nw (q ▸ ha)) e, fun _ _ _ q => q⟩
    have hg₃' : h₃.get? ad = some (listO (vs.set k.toNat (.int (a + b) tk₂)) m') := by rw [hg₃]; simp
    obtain ⟨R₃, g₃⟩ := Rel.mutate (av' := .own (l.set k.toNat (.int (a + b)))) hR₂ s₂.j hi rfl rfl hv (fun b o q e => hs.extBut b o q e) ⟨ad, _, _, rfl, hmu, hg₃', (hd₂.keeps kp).set _ (by unfold Den; exact ⟨_, rfl⟩)⟩
    exact kk W mu val h₃ _ (Nat.succ_pos _) (((Go.of_step s₁).trans (Go.of_step s₂) hR.wex).trans g₃ hR.wex) R₃
end Mine
end

section
open PySem PySem.W PyProof.Rows
set_option Elab.async false
set_option linter.unusedVariables false
namespace Mine

variable {c : Cx} {n : Nat} {fi : FI} {σ : Sg}

/-- a list of its own is a value from here on -/
theorem Rel.freeze {W mu : Addr → Prop} {h : Heap} {val : Vals} {i : Nat} {l : List PV} (hi : σ[i]? = some (some (.own l))) (R : Rel c W mu h fi val σ) : ∃ a, mu a ∧ Rel c (fun b => W b ∧ b ≠ a) (fun b => mu b ∧ b ≠ a) h fi val (σ.set i (some (.im (.lst l)))) := by
  obtain ⟨x, v, f1, f2, f3⟩ := R.vals i _ hi
  obtain ⟨a, vs, m, rfl, hmu, hg, hd⟩ := own_list f3
  have ne_odd : ∀ b o, h.get? b = some o → Odd o → b ≠ a := fun b o e q z => by
    rw [z, hg] at e; cases e
    rcases q with ⟨_, _, q⟩ | ⟨_, q⟩ <;> cases q
  have hW : ∀ b o, h.get? b = some o → (W b ∧ b ≠ a) → W b := fun _ _ _ q => q.1
  exact ⟨a, hmu, {
    kind := R.kind, gl := R.gl, bl := R.bl
    wex := fun b hb => R.wex b hb.1
    muW := fun b hb => ⟨R.muW b hb.1, hb.2⟩
    muT := fun b hb => R.muT b hb.1
    muG := fun b hb => R.muG b hb.1
    lmu := ⟨R.lmu, by
      obtain ⟨m, ⟨o, es, ep, q1, q2, q3⟩, q⟩ := R.loc
      exact ne_odd _ _ q1 (.inl ⟨es, ep, q2⟩)⟩
    loc := R.loc
    cel := fun j y b h1 h2 => by
      obtain ⟨q1, q2, q3, q4, o, ov, q5, q6, q7⟩ := R.cel j y b h1 h2
      exact ⟨q1, ⟨q2, ne_odd _ _ q5 (.inr ⟨ov, q6⟩)⟩, q3, q4, o, ov, q5, q6, q7⟩
    cmu := fun e j y b h1 h2 => by
      obtain ⟨q1, q2, q3, q4, o, ov, q5, q6, q7⟩ := R.cel j y b h1 h2
      exact ⟨⟨(R.cmu e j y b h1 h2).1, ne_odd _ _ q5 (.inr ⟨ov, q6⟩)⟩, (R.cmu e j y b h1 h2).2⟩
    celd := R.celd
    vals := fun j bv e => by
      rcases get_set e with ⟨z, f⟩ | ⟨z, f⟩
      · cases f; subst z
        refine ⟨x, _, f1, f2, ?_⟩
        show Den _ _ _ _
        unfold Den
        exact ⟨a, vs, m, rfl, fun q => q.2 rfl, hg, hd.wider hW⟩
      · obtain ⟨y, u, g1, g2, g3⟩ := R.vals j bv f
        refine ⟨y, u, g1, g2, ?_⟩
        cases bv with
        | im p => exact Den.wider hW g3
        | own l' =>
          obtain ⟨b, vs', m', e1, e2, e3, e4⟩ := g3
          exact ⟨b, vs', m', e1, ⟨e2, fun q => z (R.sep j i a _ _ f hi rfl rfl (by rw [g2, e1, q]) f2)⟩, e3, e4.wider hW⟩
        | ownb l' =>
          obtain ⟨b, m', e1, e2, e3⟩ := g3
          exact ⟨b, m', e1, ⟨e2, fun q => z (R.sep j i a _ _ f hi rfl rfl (by rw [g2, e1, q]) f2)⟩, e3⟩
    sep := fun j k b av1 av2 e1 e2 o1 o2 v1 v2 => by
      rcases get_set e1 with ⟨z1, f1⟩ | ⟨z1, f1⟩ <;> rcases get_set e2 with ⟨z2, f2⟩ | ⟨z2, f2⟩
      · rw [z1, z2]
      · cases f1; cases o1
      · cases f2; cases o2
      · exact R.sep j k b av1 av2 f1 f2 o1 o2 v1 v2
    nd := R.nd, ndb := R.ndb }⟩
theorem KontS.less {s : Shared} {W mu : Addr → Prop} {r : Res} {Q : Flow → Shared → Prop} {a : Addr} (k : KontS c s W mu fi r Q) (hmu : mu a) : KontS c s (fun b => W b ∧ b ≠ a) (fun b => mu b ∧ b ≠ a) fi r Q := by
  have conv : ∀ W' mu' h', Go c (fun b => W b ∧ b ≠ a) (fun b => mu b ∧ b ≠ a) s.heap W' mu' h' → Go c W mu s.heap W' mu' h' := fun W' mu' h' g =>
    ⟨fun b o e nt nm => g.kept b o e nt fun q => nm q.1, fun b q => (g.mul b q).elim (fun q => .inl q.1) .inr, fun b q => (g.wl b q).elim (fun q => .inl q.1) .inr,
      fun b q nm => g.wk b ⟨q, fun z => nm (z ▸ hmu)⟩ fun q => nm q.1, g.j, g.ex⟩
  cases r with
  | next σ' => exact fun W' mu' val' h' tk p g R' => k W' mu' val' h' tk p (conv _ _ _ g) R'
  | ret p => exact fun W' mu' v h' tk hp g d => k W' mu' v h' tk hp (conv _ _ _ g) d
theorem soundS_freeze {i : Nat} {l : List PV} {t : Env → Sem Flow} {r : Res} (hi : σ[i]? = some (some (.own l))) (h : SoundS c n fi (σ.set i (some (.im (.lst l)))) t r) : SoundS c n fi σ t r :=
  fun A s W mu val Q E hA hP hJ hT R k =>
    let ⟨a, hmu, R'⟩ := R.freeze hi
    h A s _ _ val Q E hA hP hJ (fun b q => ⟨hT b q, fun z => R.muT a hmu (z ▸ q)⟩) R' (k.less hmu)

/-- the target of a loop -/
inductive TgOK (fi : FI) : Expr → Tg → Bool → Prop where
  | one {x : PySem.Str} {p : Pos} {i : Nat} : fi.nt[i]? = some x → (fi.capt = false ∨ fi.place i = none) → TgOK fi (.Name x p) (.one i) false
  | two {x y : PySem.Str} {p q tp : Pos} {kk i j : Nat} : fi.nt[i]? = some x → fi.nt[j]? = some y → (fi.capt = false ∨ fi.place i = none) → (fi.capt = false ∨ fi.place j = none) → TgOK fi (.Tuple [.Name x p, .Name y q] kk tp) (.two i j) true

/-- captured cells stood at h₀ already -/
noncomputable def CapIn (fi : FI) (h₀ : Heap) : Prop := fi.capt = true → ∀ i a, fi.place i = some a → ∃ o, h₀.get? a = some o

structure Drawer (c : Cx) (A : Around) (two : Bool) (it : Value) (items : List PV) (W₀ mu₀ : Addr → Prop) (h₀ : Heap) (Inv : Nat → (Addr → Prop) → (Addr → Prop) → Heap → Prop) : Prop where
  base : ∀ k W mu h, Inv k W mu h → Go c W₀ mu₀ h₀ W mu h
  frame : ∀ k W mu h W' mu' h', Inv k W mu h → TW c W → (∀ b, mu b → W b) → Go c W mu h W' mu' h' → Inv k W' mu' h'
  draw : ∀ (fi : FI) (tgt : Expr) (tg : Tg) (k : Nat) (p : PV) (σ σ' : Sg) (W mu : Addr → Prop) (val : Vals) (s : Shared) (Q : Unit → Shared → Prop) (E : Value → Shared → Prop), TgOK fi tgt tg two → CapIn fi h₀ → items[k]? = some p → bindTg tg p σ = some σ' →
    Inv k W mu s.heap → 0 < s.toks → J c s.heap → TW c W → Rel c W mu s.heap fi val σ →
    (∀ val' h' tk, 0 < tk → J c h' → Rel c W mu h' fi val' σ' → Inv (k + 1) W mu h' → (∀ b o, (¬ W b ∨ (mu b ∧ ¬ Odd o)) → s.heap.get? b = some o → h'.get? b = some o) → Q () { s with heap := h', toks := tk }) →
    wpAny c.M A (pyNext it) (fun r s₁ => match r with
      | none => False
      | some v => wpAny c.M A (letOwnedTupleGo tgt it v) (fun _ s₂ => wpAny c.M A (assign tgt fi.env v) Q E s₂) E s₁) E s
  done : ∀ (fi : FI) (σ : Sg) (W mu : Addr → Prop) (val : Vals) (s : Shared) (Q : Shared → Prop) (E : Value → Shared → Prop), CapIn fi h₀ → Inv items.length W mu s.heap → 0 < s.toks → J c s.heap → TW c W → Rel c W mu s.heap fi val σ →
    (∀ W' h' tk, 0 < tk → Go c W₀ mu₀ h₀ W' mu h' → Rel c W' mu h' fi val σ → (∀ b o, (∃ o', h₀.get? b = some o') ∨ mu b ∨ ¬ W b → s.heap.get? b = some o → h'.get? b = some o) → (∀ b, W' b → W b) → Q { s with heap := h', toks := tk }) →
    wpAny c.M A (pyNext it) (fun r s₁ => r = none ∧ Q s₁) E s
  self : ∀ (k : Nat) (W mu : Addr → Prop) (s : Shared) (Q : Value → Shared → Prop) (E : Value → Shared → Prop), Inv k W mu s.heap → Q it s → wpAny c.M A (pyIter it) Q E s

/-- less is forbidden -/
theorem Rel.less {W W' mu : Addr → Prop} {h : Heap} {val : Vals} (R : Rel c W mu h fi val σ) (hw : ∀ b, W' b → W b) (hm : ∀ b, mu b → W' b) (hc : ∀ i x a, fi.nt[i]? = some x → fi.place i = some a → W' a) : Rel c W' mu h fi val σ where
  kind := R.kind
  gl := R.gl
  bl := R.bl
  wex := fun b hb => R.wex b (hw b hb)
  muW := hm
  muT := R.muT
  muG := R.muG
  lmu := R.lmu
  loc := R.loc
  cel := fun i x b h1 h2 => by
    obtain ⟨q1, q2, q3, q4, q5⟩ := R.cel i x b h1 h2
    exact ⟨q1, hc i x b h1 h2, q3, q4, q5⟩
  cmu := R.cmu
  celd := R.celd
  vals := fun i av e => by
    obtain ⟨x, v, h1, h2, h3⟩ := R.vals i av e
    refine ⟨x, v, h1, h2, ?_⟩
    cases av with
    | im p => exact Den.wider (fun b _ _ q => hw b q) h3
    | own l =>
      obtain ⟨b, vs, m, e1, e2, e3, e4⟩ := h3
      exact ⟨b, vs, m, e1, e2, e3, e4.wider fun b _ _ q => hw b q⟩
    | ownb l => exact h3
  sep := R.sep
  nd := R.nd
  ndb := R.ndb

/-- what an iterator's own step leaves -/
theorem Rel.wr {W mu : Addr → Prop} {h h' : Heap} {val : Vals} {wr : List Addr} (R : Rel c W mu h fi val σ) (k : ∀ b o, b ∉ wr → h.get? b = some o → h'.get? b = some o) (hex : ∀ b o, h.get? b = some o → ∃ o', h'.get? b = some o')
    (hw : ∀ b ∈ wr, W b) (hm : ∀ b ∈ wr, ¬ mu b) (hc : ∀ i x a, fi.nt[i]? = some x → fi.place i = some a → a ∉ wr) : Rel c W mu h' fi val σ where
  kind := R.kind
  gl := R.gl
  bl := R.bl
  wex := fun b hb => let ⟨_, e⟩ := R.wex b hb; hex _ _ e
  muW := R.muW
  muT := R.muT
  muG := R.muG
  lmu := R.lmu
  loc := by
    obtain ⟨m, ⟨o, es, ep, ho, r⟩, q⟩ := R.loc
    exact ⟨m, ⟨o, es, ep, k _ _ (fun q => hm _ q R.lmu) ho, r⟩, q⟩
  cel := fun i x b h1 h2 => by
    obtain ⟨q1, q2, q3, q4, o, ov, q5, q6, q7⟩ := R.cel i x b h1 h2
    exact ⟨q1, q2, q3, q4, o, ov, k _ _ (hc i x b h1 h2) q5, q6, q7⟩
  cmu := R.cmu
  celd := R.celd
  vals := fun i av e => by
    obtain ⟨x, v, h1, h2, h3⟩ := R.vals i av e
    refine ⟨x, v, h1, h2, h3.keeps fun b o e n => k b o (fun q => ?_) e⟩
    rcases n with n | n
    · exact n (hw b q)
    · exact hm b q n
  sep := R.sep
  nd := R.nd
  ndb := R.ndb
end Mine
end

section
open PySem PySem.W PyProof.Rows
set_option Elab.async false
set_option linter.unusedVariables false
namespace Mine

variable {c : Cx} {n : Nat} {fi : FI} {σ : Sg}

theorem Go.wr {W mu W₀ mu₀ : Addr → Prop} {h₀ h h' : Heap} {wr : List Addr} (g : Go c W₀ mu₀ h₀ W mu h) (hJ₀ : J c h₀) (hn : ∀ b ∈ wr, h₀.get? b = none) (nc : ∀ b ∈ wr, ∀ o q, h.get? b = some o → ¬ CodQ q o) (k : ∀ b o, b ∉ wr → h.get? b = some o → h'.get? b = some o) : Go c W₀ mu₀ h₀ W mu h' := by
  have no : ∀ b o, h₀.get? b = some o → b ∉ wr := fun b o e q => by rw [hn b q] at e; cases e
  refine ⟨fun b o e nt nm => k b o (no b o e) (g.kept b o e nt nm), g.mul, g.wl, g.wk, ?_, fun b o e => ?_⟩
  · refine g.j.but (X := fun b => b ∈ wr) (fun b o e nw => k b o nw e) (fun b q => ?_) (fun b q z => ?_) fun b o q z e => nc b z o q e
    · cases e : c.G.get? b with
      | none => rfl
      | some o => exact absurd q (no b o (hJ₀.ext b o e))
    · obtain ⟨o₀, e₀, _⟩ := hJ₀.tab b z
      exact no b _ e₀ q
  · obtain ⟨o', e'⟩ := g.ex b o e
    exact ⟨o', k b o' (no b o e) e'⟩

noncomputable def InvW (c : Cx) (W₀ mu₀ : Addr → Prop) (h₀ : Heap) (fp wr : List Addr) (DP : (Addr → Prop) → Heap → Prop) (St : Nat → Heap → Prop) (k : Nat) (W mu : Addr → Prop) (h : Heap) : Prop :=
  Go c W₀ mu₀ h₀ W mu h ∧ St k h ∧ (∀ b ∈ fp, ¬ mu b ∧ ¬ c.TB b) ∧ (∀ b ∈ wr, W b) ∧ DP W h

section
variable {A : Around} {I : Addr} {fp wr : List Addr} {items : List PV} {P : Nat → Value → Prop} {Pt : Nat → Array Value → Prop} {Mid : Nat → Addr → Heap → Prop} {DP : (Addr → Prop) → Heap → Prop} {St : Nat → Heap → Prop} {W₀ mu₀ : Addr → Prop} {h₀ : Heap}

/-- what is written is no code object -/
noncomputable def NC (wr : List Addr) (St : Nat → Heap → Prop) : Prop := ∀ i h, St i h → ∀ b ∈ wr, ∀ o q, h.get? b = some o → ¬ CodQ q o

noncomputable def DPok (DP : (Addr → Prop) → Heap → Prop) : Prop := ∀ W W' h h', Keeps W h W' h' → DP W h → DP W' h'
noncomputable def DP1 (items : List PV) (P : Nat → Value → Prop) (W : Addr → Prop) (h : Heap) : Prop := ∀ i v, P i v → ∃ p, items[i]? = some p ∧ Den h W p v
theorem dp1_ok : DPok (DP1 items P) := fun W W' h h' k x i v hv => let ⟨p, e, d⟩ := x i v hv; ⟨p, e, d.keeps k⟩
noncomputable def DP2 (items : List PV) (Pt : Nat → Array Value → Prop) (W : Addr → Prop) (h : Heap) : Prop := ∀ i vs, Pt i vs → ∃ a b u v, items[i]? = some (.tup [a, b]) ∧ vs = #[u, v] ∧ Den h W a u ∧ Den h W b v
theorem dp2_ok : DPok (DP2 items Pt) := fun W W' h h' k x i v hv => let ⟨a, b, u, w, e, e2, d1, d2⟩ := x i v hv; ⟨a, b, u, w, e, e2, d1.keeps k, d2.keeps k⟩

theorem inv_frame (hd : DPok DP) (fr : ∀ i h h', St i h → (∀ b ∈ fp, ∀ o, h.get? b = some o → h'.get? b = some o) → St i h') (hw₀ : WEx W₀ h₀) (live : ∀ i h, St i h → ∀ b ∈ fp, ∃ o, h.get? b = some o) (sub : ∀ b ∈ wr, b ∈ fp) {k : Nat} {W mu W' mu' : Addr → Prop} {h h' : Heap}
    (x : InvW c W₀ mu₀ h₀ fp wr DP St k W mu h) (hT : TW c W) (hm : ∀ b, mu b → W b) (g : Go c W mu h W' mu' h') : InvW c W₀ mu₀ h₀ fp wr DP St k W' mu' h' := by
  obtain ⟨x1, x2, x3, x4, x5⟩ := x
  refine ⟨x1.trans g hw₀, fr _ _ _ x2 fun b hb o e => g.kept b o e (x3 b hb).2 (x3 b hb).1, fun b hb => ⟨fun q => ?_, (x3 b hb).2⟩, fun b hb => g.wk b (x4 b hb) (x3 b (sub b hb)).1, hd _ _ _ _ ?_ x5⟩
  · obtain ⟨o, e⟩ := live _ _ x2 b hb
    rcases g.mul b q with q | q
    · exact (x3 b hb).1 q
    · rw [e] at q; cases q
  · exact ⟨fun b o e nw => g.kept b o e (fun q => nw (hT b q)) (fun q => nw (hm b q)), fun b o e q => (g.wl b q).elim id fun z => by rw [e] at z; cases z⟩

/-- one step of the iterator itself -/
theorem inv_step (hd : DPok DP) (hJ₀ : J c h₀) (hn : ∀ b ∈ wr, h₀.get? b = none) (live : ∀ i h, St i h → ∀ b ∈ fp, ∃ o, h.get? b = some o) (nc : NC wr St) (sub : ∀ b ∈ wr, b ∈ fp) {k : Nat} {W mu : Addr → Prop} {h h' : Heap} {val : Vals}
    (x : InvW c W₀ mu₀ h₀ fp wr DP St k W mu h) (R : Rel c W mu h fi val σ) (hC : CapIn fi h₀) (hst : St (k + 1) h') (kk : ∀ b o, b ∉ wr → h.get? b = some o → h'.get? b = some o) :
    InvW c W₀ mu₀ h₀ fp wr DP St (k + 1) W mu h' ∧ Rel c W mu h' fi val σ ∧ J c h' := by
  obtain ⟨x1, x2, x3, x4, x5⟩ := x
  have g := x1.wr hJ₀ hn (nc _ _ x2) kk
  refine ⟨⟨g, hst, x3, x4, hd _ _ _ _ ?_ x5⟩, R.wr kk (fun b o e => ?_) x4 (fun b q => (x3 b (sub b q)).1) (fun i x a h1 h2 q => ?_), g.j⟩
  · exact ⟨fun b o e nw => kk b o (fun q => nw (x4 b q)) e, fun _ _ _ q => q⟩
  · by_cases q : b ∈ wr
    · exact live _ _ hst b (sub b q)
    · exact ⟨o, kk b o q e⟩
  · cases hc : fi.capt with
    | false => exact (x3 a (sub a q)).1 (R.cmu hc i x a h1 h2).1
    | true =>
      obtain ⟨o, e⟩ := hC hc i a h2
      rw [hn a q] at e; cases e

theorem inv_done (hw₀ : WEx W₀ h₀) (hJ₀ : J c h₀) (hn : ∀ b ∈ wr, h₀.get? b = none) (nc : NC wr St) (sub : ∀ b ∈ wr, b ∈ fp) {k : Nat} {W mu : Addr → Prop} {val : Vals} {s : Shared} {Q : Shared → Prop} {h' : Heap} {tk : Nat} (x : InvW c W₀ mu₀ h₀ fp wr DP St k W mu s.heap) (hC : CapIn fi h₀) (R : Rel c W mu s.heap fi val σ)
    (hk : ∀ b o, b ∉ wr → s.heap.get? b = some o → h'.get? b = some o) (hp : 0 < tk)
    (kk : ∀ W' h' tk, 0 < tk → Go c W₀ mu₀ h₀ W' mu h' → Rel c W' mu h' fi val σ → (∀ b o, (∃ o', h₀.get? b = some o') ∨ mu b ∨ ¬ W b → s.heap.get? b = some o → h'.get? b = some o) → (∀ b, W' b → W b) → Q { s with heap := h', toks := tk }) : Q { s with heap := h', toks := tk } := by
  obtain ⟨x1, x2, x3, x4, x5⟩ := x
  have g := x1.wr hJ₀ hn (nc _ _ x2) hk
  have nw : ∀ b o, h₀.get? b = some o → b ∉ wr := fun b o e q => by rw [hn b q] at e; cases e
  have hcl : ∀ i x a, fi.nt[i]? = some x → fi.place i = some a → a ∉ wr := fun i x a h1 h2 q => by
    cases hc : fi.capt with
    | false => exact (x3 a (sub a q)).1 (R.cmu hc i x a h1 h2).1
    | true =>
      obtain ⟨o, e⟩ := hC hc i a h2
      rw [hn a q] at e; cases e
  have R₁ : Rel c (fun b => W b ∧ b ∉ wr) mu s.heap fi val σ := R.less (fun b q => q.1) (fun b q => ⟨R.muW b q, fun z => (x3 b (sub b z)).1 q⟩) fun i x a h1 h2 => ⟨(R.cel i x a h1 h2).w, hcl i x a h1 h2⟩
  have kn : ∀ b o, (∃ o', h₀.get? b = some o') ∨ mu b ∨ ¬ W b → s.heap.get? b = some o → h'.get? b = some o := fun b o hb e => hk b o (fun q => by
    rcases hb with ⟨o', e'⟩ | q' | q'
    · exact nw b o' e' q
    · exact (x3 b (sub b q)).1 q'
    · exact q' (x4 b q)) e
  refine kk (fun b => W b ∧ b ∉ wr) h' tk hp ⟨g.kept, g.mul, fun b q => g.wl b q.1, fun b q nm => ⟨g.wk b q nm, fun z => by obtain ⟨o, e⟩ := hw₀ b q; exact nw b o e z⟩, g.j, g.ex⟩ ?_ kn fun b q => q.1
  exact {
    kind := R₁.kind, gl := R₁.gl, bl := R₁.bl
    wex := fun b hb => let ⟨o, e⟩ := R₁.wex b hb; ⟨o, hk b o hb.2 e⟩
    muW := R₁.muW, muT := R₁.muT, muG := R₁.muG, lmu := R₁.lmu
    loc := by
      obtain ⟨m, ⟨o, es, ep, q1, r⟩, q⟩ := R₁.loc
      exact ⟨m, ⟨o, es, ep, hk _ _ (R₁.muW _ R₁.lmu).2 q1, r⟩, q⟩
    cel := fun i x b h1 h2 => by
      obtain ⟨q1, q2, q3, q4, o, ov, q5, q6, q7⟩ := R₁.cel i x b h1 h2
      exact ⟨q1, q2, q3, q4, o, ov, hk _ _ q2.2 q5, q6, q7⟩
    cmu := R₁.cmu, celd := R₁.celd
    vals := fun i av e => by
      obtain ⟨y, u, h1, h2, h3⟩ := R.vals i av e
      refine ⟨y, u, h1, h2, ?_⟩
      have hmw : ∀ b, mu b → b ∉ wr := fun b q z => (x3 b (sub b z)).1 q
      cases av with
      | im p => exact Den.wider (fun b _ _ q => q.1) (Den.keeps (W' := W) ⟨fun b o e n => hk b o (fun q => n (x4 b q)) e, fun _ _ _ q => q⟩ h3)
      | own l =>
        obtain ⟨b, vs, m, e1, e2, e3, e4⟩ := h3
        exact ⟨b, vs, m, e1, e2, hk _ _ (hmw b e2) e3, DenL.wider (fun b _ _ q => q.1) (DenL.keeps (W' := W) ⟨fun b o e n => hk b o (fun q => n (x4 b q)) e, fun _ _ _ q => q⟩ e4)⟩
      | ownb l =>
        obtain ⟨b, m, e1, e2, e3⟩ := h3
        exact ⟨b, m, e1, e2, hk _ _ (hmw b e2) e3⟩
    sep := R₁.sep, nd := R₁.nd, ndb := R₁.ndb }

theorem Drawer.of_walks (V : Walks c.prog c.w A I fp wr items.length P St) (hw₀ : WEx W₀ h₀) (hJ₀ : J c h₀) (hn : ∀ b ∈ wr, h₀.get? b = none) (live : ∀ i h, St i h → ∀ b ∈ fp, ∃ o, h.get? b = some o) (nc : NC wr St) :
    Drawer c A false (.ref I) items W₀ mu₀ h₀ (InvW c W₀ mu₀ h₀ fp wr (DP1 items P) St) where
  base := fun k W mu h x => x.1
  frame := fun k W mu h W' mu' h' x hT hm g => inv_frame dp1_ok V.frame hw₀ live V.sub x hT hm g
  draw := fun fi tgt tg k p σ σ' W mu val s Q E ht hC hp hb x hP hJ hT R kk => by
    cases ht with
    | one hx hcap =>
      obtain rfl := Option.some.inj hb
      refine lift hP (V.item k s _ E (by obtain ⟨q, _⟩ := List.getElem?_eq_some_iff.mp hp; exact q) x.2.1 fun v h₂ tk₂ hv hst hk hp₂ => ?_)
      obtain ⟨x₂, R₂, J₂⟩ := inv_step dp1_ok hJ₀ hn live nc V.sub x R hC hst hk
      obtain ⟨p', e', d⟩ := x₂.2.2.2.2 k v hv
      obtain rfl : p = p' := Option.some.inj (hp.symm.trans e')
      show wpAny c.M A (letOwnedTupleGo (.Name _ _) (.ref I) v) _ E _
      refine wpAny_of_eq (a := ()) rfl (PyProof.Rows.assign_Name ?_)
      exact store_any (s := ⟨h₂, s.gens, s.drawn, tk₂, s.os⟩) hp₂ J₂ R₂ hcap hx (av := .im p) d (fun e => by cases e) fun h' tk hp' g R₃ kp =>
        kk _ h' tk hp' g.j R₃ (inv_frame dp1_ok V.frame hw₀ live V.sub x₂ hT R₂.muW g) fun b o q e => kp b o (q.elim (fun q => .inl fun m => q (R.muW b m)) fun q => .inr q.2) (hk b o (fun z => q.elim (fun q => q (x.2.2.2.1 b z)) fun q => (x.2.2.1 b (V.sub b z)).1 q.1) e)
  done := fun fi σ W mu val s Q E hC x hP hJ hT R kk => by
    refine lift hP (V.done s _ E x.2.1 fun h' tk hk hp => ⟨rfl, ?_⟩)
    exact inv_done hw₀ hJ₀ hn nc V.sub x hC R hk hp kk
  self := fun k W mu s Q E x q => V.self k s Q E x.2.1 q
theorem Drawer.of_walksU (V : WalksU c.prog c.w A I fp wr items.length Pt St Mid) (hh : A.handled = none) (hw₀ : WEx W₀ h₀) (hJ₀ : J c h₀) (hn : ∀ b ∈ wr, h₀.get? b = none) (live : ∀ i h, St i h → ∀ b ∈ fp, ∃ o, h.get? b = some o) (nc : NC wr St) :
    Drawer c A true (.ref I) items W₀ mu₀ h₀ (InvW c W₀ mu₀ h₀ fp wr (DP2 items Pt) St) where
  base := fun k W mu h x => x.1
  frame := fun k W mu h W' mu' h' x hT hm g => inv_frame dp2_ok V.frame hw₀ live V.sub x hT hm g
  draw := fun fi tgt tg k p σ σ' W mu val s Q E ht hC hp hb x hP hJ hT R kk => by
    cases ht with
    | two hx hy hcap hcap' =>
      refine lift hP (V.item k s _ E (by obtain ⟨q, _⟩ := List.getElem?_eq_some_iff.mp hp; exact q) x.2.1 fun T vals h₂ tk₂ hv hT₂ hmid hk hp₂ => ?_)
      show wpAny c.M A (letOwnedTupleGo (.Tuple _ _ _) (.ref I) (.ref T)) _ E _
      refine V.go _ _ _ k T ⟨h₂, s.gens, s.drawn, tk₂, s.os⟩ _ E hmid fun h₃ hst hk₃ => ?_
      obtain ⟨x₃, R₃, J₃⟩ := inv_step dp2_ok hJ₀ hn live nc V.sub x R hC hst fun b o hb e => hk₃ b o hb (hk b o hb e)
      obtain ⟨a, b, u, v, e1, rfl, d1, d2⟩ := x₃.2.2.2.2 k vals hv
      rw [hp] at e1
      cases e1
      obtain rfl := Option.some.inj hb
      have hT₃ : h₃.IsTuple T #[u, v] := hT₂.at fun o e => hk₃ T o (V.apart _ _ _ hmid) e
      refine wpAny_assign_Tuple hh hT₃ rfl rfl fun h₄ ext => ?_
      have s₄ := Step.all J₃ fun b o e => ext b o (Nat.ne_of_lt (Heap.lt_size e)) e
      have R₄ := R₃.step hT s₄
      have x₄ := inv_frame dp2_ok V.frame hw₀ live V.sub x₃ hT R₃.muW (Go.of_step s₄)
      show wpAny c.M A (do holding [v] (assign (.Name _ _) fi.env u); (do holding [] (assign (.Name _ _) fi.env v); pure ())) _ _ _
      refine wpAny_bind (wpAny_holding (PyProof.Rows.assign_Name (wpAny_mono (store_two (s := ⟨h₄, s.gens, s.drawn, tk₂, s.os⟩) (Q := Q) (E := E) hp₂ s₄.j hT R₄ hcap hcap' hx hy (d1.step hT s₄) (d2.step hT s₄) fun h' tk val' hp' g R₅ kp =>
        kk val' h' tk hp' g.j R₅ (inv_frame dp2_ok V.frame hw₀ live V.sub x₄ hT R₄.muW g) fun b o q e => by
          have nz : b ∉ wr := fun z => q.elim (fun q => q (x.2.2.2.1 b z)) fun q => (x.2.2.1 b (V.sub b z)).1 q.1
          have e₃ := hk₃ b o nz (hk b o nz e)
          exact kp b o (q.elim (fun q => .inl fun m => q (R.muW b m)) fun q => .inr q.2) (ext b o (Nat.ne_of_lt (Heap.lt_size e₃)) e₃)) (fun _ s₅ h₅ => wpAny_bind (wpAny_holding (PyProof.Rows.assign_Name (wpAny_mono h₅ (fun _ s₆ h₆ => wpAny_pure h₆) fun _ _ e => e)))) fun _ _ e => e)))
  done := fun fi σ W mu val s Q E hC x hP hJ hT R kk => by
    refine lift hP (V.done s _ E x.2.1 fun h' tk hk hp => ⟨rfl, ?_⟩)
    exact inv_done hw₀ hJ₀ hn nc V.sub x hC R hk hp kk
  self := fun k W mu s Q E x q => V.self k s Q E x.2.1 q
end
end Mine
end

section
open PySem PySem.W PyProof.Rows
set_option Elab.async false
set_option linter.unusedVariables false
namespace Mine

variable {c : Cx} {n : Nat} {fi : FI} {σ : Sg}

/-- the source of a loop -/
noncomputable def SrcOK (c : Cx) (n : Nat) (fi : FI) (σ : Sg) (iter : Expr) (two : Bool) (items : List PV) : Prop :=
  ∀ (A : Around) (s : Shared) (W mu : Addr → Prop) (val : Vals) (Q E : Value → Shared → Prop), Room A n → 0 < s.toks → J c s.heap → TW c W → Rel c W mu s.heap fi val σ →
    (∀ it h' tk, 0 < tk → Step c s.heap h' → (∀ mu₀ : Addr → Prop, (∀ b, mu₀ b → mu b) → ∃ W₁ Inv, Drawer c A two it items W mu₀ s.heap Inv ∧ Inv 0 W₁ mu₀ h' ∧ TW c W₁ ∧ Rel c W₁ mu h' fi val σ ∧ ∀ b, W b → W₁ b) → Q it { s with heap := h', toks := tk }) →
    wpAny c.M A (eval iter fi.env) (fun x s₁ => wpAny c.M A (pyIter x) Q E s₁) E s

/-- where a for stands, m turns ahead of its end -/
inductive TurnAt (c : Cx) (fi : FI) (items : List PV) (Inv : Nat → (Addr → Prop) → (Addr → Prop) → Heap → Prop) (f : Sg → Option Res) (tg : Tg) (r : Res) (s : Shared) (m : Nat) (s' : Shared) : Prop where
  | mk (j : Nat) (W' mu' : Addr → Prop) (val' : Vals) (σj : Sg) (h' : Heap) (tk : Nat) (e : s' = ⟨h', s.gens, s.drawn, tk, s.os⟩) (hp : 0 < tk) (hm : m = items.length - j) (hj : j ≤ items.length) (hI : Inv j W' mu' h') (hT : TW c W') (hJ : J c h') (hR : Rel c W' mu' h' fi val' σj) (hl : loopR f tg (items.drop j) σj = some r) :
    TurnAt c fi items Inv f tg r s m s'
/-- after a turn: the next one, or the way out -/
noncomputable def TurnTo (c : Cx) (fi : FI) (items : List PV) (Inv : Nat → (Addr → Prop) → (Addr → Prop) → Heap → Prop) (f : Sg → Option Res) (tg : Tg) (r : Res) (s : Shared) (Q : Flow → Shared → Prop) (m : Nat) (fl : Flow) (s₃ : Shared) : Prop := match fl with
  | .next | .cont => ∃ m', m' < m ∧ TurnAt c fi items Inv f tg r s m' s₃
  | .brk => Q .next s₃
  | .ret v => Q (.ret v) s₃

theorem loop_cons {f : Sg → Option Res} {tg : Tg} {items : List PV} {j : Nat} {σ : Sg} {r : Res} {P : Prop} (hlt : j < items.length) (h : loopR f tg (items.drop j) σ = some r) (k : ∀ σ' r', bindTg tg items[j] σ = some σ' → f σ' = some r' → r'.on (loopR f tg (items.drop (j + 1))) = some r → P) : P := by
  rw [List.drop_eq_getElem_cons hlt] at h
  exact bd_out h fun σ' h1 h => bd_out h fun r' h2 h => k σ' r' h1 h2 h

theorem soundS_for {tgt iter : Expr} {body : List Stmt} {pos : Pos} {tg : Tg} {two : Bool} {items : List PV} {f : Sg → Option Res} {r : Res} (hsrc : SrcOK c n fi σ iter two items) (ht : TgOK fi tgt tg two) (hcap : fi.capt = false)
    (hbody : ∀ σ' r', f σ' = some r' → SoundS c n fi σ' (execs body) r') (hr : loopR f tg items σ = some r) (hs : ∀ x, foldedSetIterable iter fi.env x = pure x) : SoundS c n fi σ (exec (.For tgt iter body [] pos)) r :=
  fun A s W mu val Q E hA hP hJ hT hR k => by
    refine wpAny_For (hs := hs) (hsrc A s W mu val _ _ hA hP hJ hT hR fun it h₁ tk₁ p₁ s₁ hD => ?_)
    obtain ⟨W₁, Inv, D, I₁, T₁, R₁, _⟩ := hD mu fun _ q => q
    have hC : CapIn fi s.heap := fun q => by rw [hcap] at q; cases q
    refine codeAny_forLoop_any (TurnAt c fi items Inv f tg r s) ?_ items.length ⟨0, W₁, mu, val, σ, h₁, tk₁, rfl, p₁, rfl, Nat.zero_le _, I₁, T₁, s₁.j, R₁, hr⟩
    rintro m s' ⟨j, W', mu', val', σj, h', tk, rfl, hp, rfl, hj, hI, hT', hJ', hR', hl⟩
    by_cases hlt : j < items.length
    · refine loop_cons hlt hl fun σ' r' hb hf hn => ?_
      refine wpAny_mono (D.draw fi tgt tg j items[j] σj σ' W' mu' val' ⟨h', s.gens, s.drawn, tk, s.os⟩ (fun _ s₂ => wpAny c.M A (execs body fi.env) (TurnTo c fi items Inv f tg r s Q (items.length - j)) (notedBy c.M A fi.env fun e s' => cameBackBy c.M A fi.env E e s') s₂) _ ht hC (List.getElem?_eq_getElem hlt) hb hI hp hJ' hT' hR' fun val₂ h₂ tk₂ p₂ J₂ R₂ I₂ _ => ?_) (fun r' s₁ h => ?_) fun _ _ e => e
      · refine hbody σ' r' hf A ⟨h₂, s.gens, s.drawn, tk₂, s.os⟩ W' mu' val₂ _ _ hA p₂ J₂ hT' R₂ ?_
        cases r' with
        | next σ'' =>
          exact fun W₃ mu₃ val₃ h₃ tk₃ p₃ g₃ R₃ => ⟨items.length - (j + 1), Nat.sub_lt_sub_left hlt (Nat.lt_succ_self _), j + 1, W₃, mu₃, val₃, σ'', h₃, tk₃, rfl, p₃, rfl, hlt, D.frame _ _ _ _ _ _ _ I₂ hT' R₂.muW g₃, g₃.tw hT' R₂.muT, g₃.j, R₃, hn⟩
        | ret p =>
          cases hn
          exact fun W₃ mu₃ v h₃ tk₃ p₃ g₃ d₃ => k W₃ mu₃ v h₃ tk₃ p₃ ((D.base _ _ _ _ I₂).trans g₃ hR.wex) d₃
      · cases r' with
        | none => exact h.elim
        | some v => exact h
    · obtain rfl : j = items.length := Nat.le_antisymm hj (Nat.le_of_not_lt hlt)
      rw [List.drop_length] at hl
      cases hl
      refine wpAny_mono (D.done fi σj W' mu' val' ⟨h', s.gens, s.drawn, tk, s.os⟩ (fun s₁ => Q .next s₁) _ hC hI hp hJ' hT' hR' fun W₃ h₃ tk₃ p₃ g₃ R₃ _ _ => k W₃ mu' val' h₃ tk₃ p₃ g₃ R₃) (fun r' s₁ h => ?_) fun _ _ e => e
      obtain ⟨rfl, h⟩ := h
      exact wpAny_execs_nil h
end Mine
end

section
open PySem PySem.W PyProof.Rows
set_option Elab.async false
set_option linter.unusedVariables false
namespace Mine

section
variable {prog : Program} {w : World} {A : Around}
theorem compLoop_any {elt target iter : Expr} {scope : Scope} {pos : Pos} {it acc : Value} {env : Env} {R : Result → Shared → Prop} {s : Shared} (I : Nat → Shared → Prop)
    (turn : ∀ n s, I n s → wpAny (model prog w) A (pyNext it) (fun r s₁ => match r with
      | none => R (.ok .next) s₁
      | some v => wpAny (model prog w) A (letOwnedTupleGo target it v) (fun _ s₁' => wpAny (model prog w) A (assign target env v) (fun _ s₂ => wpAny (model prog w) A (eval elt env) (fun x s₃ =>
          wpAny (model prog w) A (call (.builtin "list.append") [acc, x]) (fun _ s₄ => ∃ m, m < n ∧ I m s₄) (notedBy (model prog w) A env fun e s' => R (.error e) s') s₃)
          (notedBy (model prog w) A env fun e s' => R (.error e) s') s₂) (notedBy (model prog w) A env fun e s' => R (.error e) s') s₁') (notedBy (model prog w) A env fun e s' => R (.error e) s') s₁) (notedBy (model prog w) A env fun e s' => R (.error e) s') s)
    (n : Nat) (h : I n s) : codeAny (model prog w) A (.compLoop (.ListComp elt [⟨target, iter, [], 0⟩] scope pos) 0 it acc env) R s := by
  refine codeAny_loop rfl I (fun n s hI => ?_) n h
  show wpAny _ _ ((compTurn (.ListComp elt [⟨target, iter, [], 0⟩] scope pos) 0 it acc env).onRaise (fun x => do noteFrame x env; theTreesLotGoes x)) _ _ s
  refine wpAny_noted ?_
  rw [compTurn_list1]
  refine wpAny_bind (wpAny_standAt (wpAny_bind (wpAny_mono (turn n s hI) (fun r s₁ h₁ => ?_) fun _ _ h' => h')))
  cases r with
  | none => exact wpAny_pure h₁
  | some v =>
    refine wpAny_bind (wpAny_mono h₁ (fun _ s₁' h₁ => ?_) fun _ _ h' => h')
    exact wpAny_bind (wpAny_mono h₁ (fun _ s₂ h₂ => wpAny_bind (wpAny_bind (wpAny_mono h₂ (fun x s₃ h₃ => wpAny_bind (wpAny_mono h₃
      (fun _ s₄ h₄ => wpAny_pure (wpAny_pure ⟨rfl, h₄⟩)) fun _ _ h' => h')) fun _ _ h' => h'))) fun _ _ h' => h')
end

variable {c : Cx} {n : Nat} {fi : FI} {σ : Sg}

theorem Rel.sub {W mu : Addr → Prop} {h : Heap} {val : Vals} {σ' : Sg} (R : Rel c W mu h fi val σ') (hs : ∀ (i : Nat) (av : AV), σ[i]? = some (some av) → σ'[i]? = some (some av)) : Rel c W mu h fi val σ :=
  { R with vals := fun i av e => R.vals i av (hs i av e), sep := fun i j a av bv e1 e2 => R.sep i j a av bv (hs i av e1) (hs j bv e2) }

structure CompOK (fi : FI) (scope : Scope) (cl : List (PySem.Str × Addr)) (nt₂ : List PySem.Str) (caps : List Nat) (t : Nat) : Prop where
  clos : closureFor scope fi.env = pure cl
  cell : ∀ y ∈ scope.names, y.2 ≠ .cell
  kind : scope.kind = .function
  names : ∀ y ∈ scope.names, y.2 = .local → scope.names.lookup y.1 = some .local
  loc : ∀ i x, nt₂[i]? = some x → i < t → (relabel scope fi.env).names.lookup x = some .local
  cap : ∀ i x, nt₂[i]? = some x → t ≤ i → ∃ j a, caps[i - t]? = some j ∧ fi.nt[j]? = some x ∧ fi.place j = some a ∧ cl.lookup x = some a ∧ ((relabel scope fi.env).names.lookup x = some .cell ∨ (relabel scope fi.env).names.lookup x = some .free)
  len : ∀ k j, caps[k]? = some j → ∃ x, nt₂[t + k]? = some x
  nd : ∀ (i j : Nat) (x : PySem.Str), nt₂[i]? = some x → nt₂[j]? = some x → i = j
  ndb : ∀ (i : Nat) (x : PySem.Str), nt₂[i]? = some x → (x == (PySem.Str.ofString "__debug__")) = false ∧ (x == (PySem.Str.ofString "__classdict__")) = false

/-- the comprehension's activation -/
noncomputable def fiC (fi : FI) (scope : Scope) (cl : List (PySem.Str × Addr)) (nt₂ : List PySem.Str) (caps : List Nat) (t : Nat) (C : Addr) : FI :=
  { env := compEnvC scope cl C fi.env, nt := nt₂, place := fun i => if i < t then none else (caps[i - t]?).bind fi.place, capt := true }
noncomputable def valC (val : Vals) (caps : List Nat) (t : Nat) : Vals := fun i => if i < t then none else (caps[i - t]?).bind val
noncomputable def sgC (t : Nat) (σ : Sg) (caps : List Nat) : Sg := List.replicate t none ++ capsOf σ caps

theorem capsOf_get : ∀ {caps : List Nat} {k : Nat} {av : AV}, (capsOf σ caps)[k]? = some (some av) → ∃ j p, caps[k]? = some j ∧ av = .im p ∧ σ[j]? = some (some (.im p))
  | [], k, av, e => by simp [capsOf] at e
  | i :: r, 0, av, e => by
    simp only [capsOf, List.getElem?_cons_zero, Option.some.injEq] at e
    split at e
    · rename_i v hv
      cases e
      exact ⟨i, v, rfl, rfl, hv⟩
    · cases e
  | i :: r, k + 1, av, e => by
    simp only [capsOf, List.getElem?_cons_succ] at e
    simpa using capsOf_get e
theorem sgC_get {t : Nat} {caps : List Nat} {i : Nat} {av : AV} (e : (sgC t σ caps)[i]? = some (some av)) : t ≤ i ∧ ∃ j p, caps[i - t]? = some j ∧ av = .im p ∧ σ[j]? = some (some (.im p)) := by
  unfold sgC at e
  by_cases h : i < t
  · rw [List.getElem?_append_left (by simpa using h), List.getElem?_replicate, if_pos h] at e
    cases e
  · rw [List.getElem?_append_right (by simpa using h), List.length_replicate] at e
    exact ⟨by omega, capsOf_get e⟩

/-- the relation within a comprehension: C is its namespace, D its list; both are new at h -/
theorem Rel.comp {W W₂ mu : Addr → Prop} {h h₄ : Heap} {val : Vals} {scope : Scope} {cl : List (PySem.Str × Addr)} {nt₂ : List PySem.Str} {caps : List Nat} {t : Nat} {C D : Addr} {m} (K : CompOK fi scope cl nt₂ caps t) (R : Rel c W mu h fi val σ) (hJ : J c h)
    (hk : ∀ b o, h.get? b = some o → ¬ c.TB b → h₄.get? b = some o) (hwl : ∀ b o, h.get? b = some o → W₂ b → W b) (hw : ∀ b, W b → W₂ b) (hex : ∀ b, W₂ b → ∃ o, h₄.get? b = some o) (hT : TW c W) (hC : W₂ C) (hD : W₂ D) (nC : h.get? C = none) (nD : h.get? D = none) (hns : h₄.Ns C m) :
    Rel c W₂ (fun b => b = C ∨ b = D) h₄ (fiC fi scope cl nt₂ caps t C) (valC val caps t) (sgC t σ caps) where
  kind := by show (relabel scope fi.env).kind = _; exact K.kind
  gl := R.gl
  bl := R.bl
  wex := hex
  muW := fun b q => q.elim (fun q => q ▸ hC) (fun q => q ▸ hD)
  muT := fun b q z => by
    obtain ⟨o, e, _⟩ := hJ.tab b z
    rcases q with rfl | rfl
    · rw [nC] at e; cases e
    · rw [nD] at e; cases e
  muG := fun b q => by
    cases e : c.G.get? b with
    | none => rfl
    | some o =>
      have := hJ.ext _ _ e
      rcases q with rfl | rfl
      · rw [nC] at this; cases this
      · rw [nD] at this; cases this
  lmu := .inl rfl
  loc := ⟨m, hns, fun i x h1 h2 => by
    by_cases hi : i < t
    · refine ⟨K.loc i x h1 hi, fun v hv => ?_⟩
      simp [valC, hi] at hv
    · obtain ⟨j, a, e1, e2, e3, _⟩ := K.cap i x h1 (by omega)
      simp [fiC, hi, e1, e3] at h2⟩
  cel := fun i x a h1 h2 => by
    by_cases hi : i < t
    · simp [fiC, hi] at h2
    · obtain ⟨j, a', e1, e2, e3, e4, e5⟩ := K.cap i x h1 (by omega)
      simp [fiC, hi, e1, e3] at h2
      subst h2
      obtain ⟨q1, q2, q3, q4, o, ov, q5, q6, q7⟩ := R.cel j x a' e2 e3
      refine ⟨e4, hw _ q2, q3, e5, o, ov, hk _ _ q5 q3, q6, fun v hv => q7 v ?_⟩
      simpa [valC, hi, e1] using hv
  cmu := fun q => by cases q
  celd := fun i k a h1 h2 => by
    by_cases hi : i < t
    · simp [fiC, hi] at h1
    · by_cases hk' : k < t
      · simp [fiC, hk'] at h2
      · simp only [fiC, hi, hk', if_false] at h1 h2
        cases e1 : caps[i - t]? with
        | none => rw [e1] at h1; cases h1
        | some j =>
          cases e2 : caps[k - t]? with
          | none => rw [e2] at h2; cases h2
          | some l =>
            rw [e1] at h1; rw [e2] at h2
            have hjl := R.celd j l a h1 h2
            subst hjl
            obtain ⟨x, hx⟩ := K.len _ _ e1
            obtain ⟨y, hy⟩ := K.len _ _ e2
            rw [show t + (i - t) = i by omega] at hx
            rw [show t + (k - t) = k by omega] at hy
            obtain ⟨j1, a1, f1, f2, _⟩ := K.cap i x hx (by omega)
            obtain ⟨j2, a2, g1, g2, _⟩ := K.cap k y hy (by omega)
            rw [e1] at f1; rw [e2] at g1
            cases f1; cases g1
            rw [f2] at g2
            cases g2
            exact K.nd i k x hx hy
  vals := fun i av e => by
    obtain ⟨hi, j, p, e1, rfl, e2⟩ := sgC_get e
    obtain ⟨x, hx⟩ := K.len _ _ e1
    rw [show t + (i - t) = i by omega] at hx
    obtain ⟨y, v, f1, f2, f3⟩ := R.vals j _ e2
    refine ⟨x, v, hx, ?_, ?_⟩
    · simp [valC, show ¬ i < t by omega, e1, f2]
    · exact Den.keeps ⟨fun b o e n => hk b o e fun q => n (hT b q), hwl⟩ f3
  sep := fun i j a av bv e1 e2 o1 => by
    obtain ⟨_, _, p, _, rfl, _⟩ := sgC_get e1
    cases o1
  nd := K.nd
  ndb := K.ndb
end Mine
end

section
open PySem PySem.W PyProof.Rows
set_option Elab.async false
set_option linter.unusedVariables false
namespace Mine

variable {c : Cx} {n : Nat} {fi : FI} {σ : Sg}

/-- the j-th turn of a comprehension -/
inductive EvAt (f : Sg → Option PV) (tg : Tg) (σ : Sg) (xs : List PV) (j : Nat) (p : PV) : Prop where
  | mk (σ' : Sg) (x : PV) (hb : bindTg tg p σ = some σ') (hf : f σ' = some x) (hx : xs[j]? = some x) : EvAt f tg σ xs j p
theorem evC_cons {f : Sg → Option PV} {tg : Tg} {p : PV} {r xs : List PV} {P : Prop} (e : evC f tg σ (p :: r) = some xs) (k : ∀ σ' x ys, bindTg tg p σ = some σ' → f σ' = some x → evC f tg σ r = some ys → x :: ys = xs → P) : P :=
  bd_out e fun σ' h1 e => bd_out e fun x h2 e => mp_out e fun ys h3 e => k σ' x ys h1 h2 h3 e
theorem evC_len {f : Sg → Option PV} {tg : Tg} : ∀ {items xs : List PV}, evC f tg σ items = some xs → xs.length = items.length
  | [], xs, e => so_out e fun e => e ▸ rfl
  | p :: r, xs, e => evC_cons e fun σ' x ys _ _ h3 e => e ▸ congrArg (· + 1) (evC_len h3)
theorem evC_at {f : Sg → Option PV} {tg : Tg} : ∀ {items xs : List PV}, evC f tg σ items = some xs → ∀ (j : Nat) (p : PV), items[j]? = some p → EvAt f tg σ xs j p
  | p :: r, xs, e, 0, q, hj => evC_cons e fun σ' x ys h1 h2 h3 e => ⟨σ', x, Option.some.inj hj ▸ h1, h2, e ▸ rfl⟩
  | p :: r, xs, e, j + 1, q, hj => evC_cons e fun σ' x ys h1 h2 h3 e =>
    let ⟨σ'', y, f1, f2, f3⟩ := evC_at h3 j q hj
    ⟨σ'', y, f1, f2, e ▸ f3⟩

noncomputable abbrev AccP := (Addr → Prop) → Heap → Nat → Nat → List Value → Prop
structure AccOK (Acc : AccP) : Prop where
  zero : ∀ W h tk, Acc W h tk 0 []
  keep : ∀ W W' h h' tk tk' j vs, Keeps W h W' h' → tk ≤ tk' → Acc W h tk j vs → Acc W' h' tk' j vs
  len : ∀ W h tk j vs, Acc W h tk j vs → vs.length = j

/-- what a comprehension may touch, and what is its own -/
noncomputable def cW (W : Addr → Prop) (C D : Addr) : Addr → Prop := fun b => W b ∨ b = C ∨ b = D
noncomputable def cM (C D : Addr) : Addr → Prop := fun b => b = C ∨ b = D
inductive CompAt (c : Cx) (fi : FI) (items : List PV) (σ : Sg) (Inv : Nat → (Addr → Prop) → (Addr → Prop) → Heap → Prop) (W M : Addr → Prop) (D : Addr) (Acc : AccP) (s : Shared) (m : Nat) (s' : Shared) : Prop where
  | mk (j : Nat) (h' : Heap) (tk : Nat) (val' : Vals) (vs : List Value) (mm : Nat) (e : s' = ⟨h', s.gens, s.drawn, tk, s.os⟩) (hp : 0 < tk) (hm : m = items.length - j) (hj : j ≤ items.length) (hI : Inv j W M h') (hJ : J c h') (hR : Rel c W M h' fi val' σ) (hg : h'.get? D = some (listO vs mm)) (hd : Acc W h' tk j vs) :
    CompAt c fi items σ Inv W M D Acc s m s'
theorem go_list {W M : Addr → Prop} {h h' : Heap} {D : Addr} {vs us : List Value} {m k : Nat} (hJ : J c h) (g : h.get? D = some (listO vs m)) (g' : h'.get? D = some (listO us k)) (kp : ∀ b o, b ≠ D → h.get? b = some o → h'.get? b = some o) (hM : M D) (hG : c.G.get? D = none) (hT : ¬ c.TB D) : Go c W M h W M h' :=
  ⟨fun b o e _ nm => kp b o (fun q => nm (q ▸ hM)) e, fun b q => .inl q, fun b q => .inl q, fun b q _ => q, J.but hJ (X := fun b => b = D) (fun b o e nm => kp b o nm e) (fun b q => q ▸ hG) (fun b q => q ▸ hT) (fun b o q z e => by subst z; rw [g] at e; cases e; exact noCod_data (fun _ q => by cases q) q), fun b o e => by
    by_cases q : b = D
    · subst q; exact ⟨_, g'⟩
    · exact ⟨o, kp b o q e⟩⟩
theorem Rel.listed {W M : Addr → Prop} {h h' : Heap} {fi : FI} {val : Vals} {σ : Sg} {D : Addr} {vs : List Value} {m : Nat} (R : Rel c W M h fi val σ) (im : ∀ (i : Nat) (av : AV), σ[i]? = some (some av) → ∃ p, av = AV.im p) (g : h.get? D = some (listO vs m)) (kp : ∀ b o, b ≠ D → h.get? b = some o → h'.get? b = some o) (hL : fi.env.locals ≠ D) (k : Keeps W h W h') (ex : ∀ b o, h.get? b = some o → ∃ o', h'.get? b = some o') : Rel c W M h' fi val σ :=
  { R with
    wex := fun b hb => let ⟨o, e⟩ := R.wex b hb; ex b o e
    loc := by
      obtain ⟨m, ⟨o, es, ep, q1, q2⟩, q⟩ := R.loc
      exact ⟨m, ⟨o, es, ep, kp _ _ hL q1, q2⟩, q⟩
    cel := fun i x a h1 h2 => by
      obtain ⟨q1, q2, q3, q4, o, ov, q5, q6, q7⟩ := R.cel i x a h1 h2
      refine ⟨q1, q2, q3, q4, o, ov, kp _ _ (fun z => ?_) q5, q6, q7⟩
      rw [z, g] at q5; cases q5; cases q6
    vals := fun i av e => by
      obtain ⟨y, u, f1, f2, f3⟩ := R.vals i av e
      obtain ⟨p', rfl⟩ := im i av e
      exact ⟨y, u, f1, f2, Den.keeps k f3⟩ }
theorem capIn_comp {W mu : Addr → Prop} {h : Heap} {val : Vals} {scope : Scope} {cl : List (PySem.Str × Addr)} {nt₂ : List PySem.Str} {caps : List Nat} {t : Nat} {C : Addr} (K : CompOK fi scope cl nt₂ caps t) (hR : Rel c W mu h fi val σ) : CapIn (fiC fi scope cl nt₂ caps t C) h := fun _ i a h2 => by
  by_cases hi : i < t
  · simp [fiC, hi] at h2
  · simp only [fiC, hi, if_false] at h2
    cases e1 : caps[i - t]? with
    | none => rw [e1] at h2; cases h2
    | some j =>
      obtain ⟨x, hx⟩ := K.len _ _ e1
      rw [show t + (i - t) = i by omega] at hx
      obtain ⟨j', a', f1, f2, f3, _⟩ := K.cap i x hx (by omega)
      rw [e1] at f1; cases f1
      rw [e1] at h2
      have h2' : fi.place j = some a := h2
      obtain ⟨_, q2, _⟩ := hR.cel j x a f2 h2'
      exact hR.wex a q2

theorem comp_core {A : Around} {s : Shared} {W mu : Addr → Prop} {val : Vals} {E : Value → Shared → Prop} {Q : Value → Shared → Prop} {use : Option (Value → Sem Unit)} {elt tgt iter : Expr} {scope : Scope} {pos pos' : Pos} {cl : List (PySem.Str × Addr)} {nt₂ : List PySem.Str} {caps : List Nat} {t : Nat}
    {tg : Tg} {two : Bool} {items : List PV} {Acc : AccP} (hA : Room A n) (hP : 0 < s.toks) (hJ : J c s.heap) (hT : TW c W) (hR : Rel c W mu s.heap fi val σ) (hsrc : SrcOK c n fi σ iter two items) (K : CompOK fi scope cl nt₂ caps t) (ht : ∀ C, TgOK (fiC fi scope cl nt₂ caps t C) tgt tg two)
    (hacc : AccOK Acc) (hbind : ∀ (j : Nat) (p : PV), items[j]? = some p → ∃ σ', bindTg tg p (sgC t σ caps) = some σ')
    (hturn : ∀ (C : Addr) (j : Nat) (p : PV) (σ' : Sg) (A : Around) (s : Shared) (W mu : Addr → Prop) (val : Vals) (vs : List Value) (Q E : Value → Shared → Prop), items[j]? = some p → bindTg tg p (sgC t σ caps) = some σ' → Room A n → 0 < s.toks → J c s.heap → TW c W → Rel c W mu s.heap (fiC fi scope cl nt₂ caps t C) val σ' →
      Acc W s.heap s.toks j vs → (∀ v h₃ tk₃, 0 < tk₃ → s.toks ≤ tk₃ → Step c s.heap h₃ → Acc W h₃ tk₃ (j + 1) (vs ++ [v]) → Q v { s with heap := h₃, toks := tk₃ }) → wpAny c.M A (eval elt (compEnvC scope cl C fi.env)) Q E s) (hlen : items.length ≤ 100000)
    (hsub : ∀ p σ', bindTg tg p (sgC t σ caps) = some σ' → ∀ (i : Nat) (av : AV), (sgC t σ caps)[i]? = some (some av) → σ'[i]? = some (some av)) (hs : ∀ x, foldedSetIterable iter fi.env x = pure x)
    (hpost : ∀ D C h' tk vs m, 0 < tk → Step c s.heap h' → s.heap.get? C = none → s.heap.get? D = none → D ≠ C → (∃ m, h'.Ns C m) → h'.get? D = some (listO vs m) → (∃ W₂ : Addr → Prop, (∀ b, W b → W₂ b) ∧ W₂ C ∧ (∀ b, W₂ b → ∃ o, h'.get? b = some o) ∧ (∀ b o, s.heap.get? b = some o → W₂ b → W b) ∧ Acc W₂ h' tk items.length vs) →
      compPost c.M A E use Q (.ref D) C (.ok .next) { s with heap := h', toks := tk }) :
    wpAny c.M A (comprehension (.ListComp elt [⟨tgt, iter, [], 0⟩] scope pos) scope fi.env pos' (newList []) false (eval iter fi.env) use) Q E s := by
  refine wpAny_comprehension_free rfl hs K.clos K.kind K.names (hsrc A s W mu val _ _ hA hP hJ hT hR fun it h₁ tk₁ p₁ s₁ hD => ?_)
  obtain ⟨W₁, Inv, D, I₁, T₁, R₁, wW₁⟩ := hD (fun _ => False) fun _ q => q.elim
  refine wpAny_newObj_type (wpAny_newFunctionEnv K.cell (by intro y hy; simp at hy) (fun h₄ hns hsb => ?_) K.kind)
  dsimp only at hns hsb ⊢
  generalize hDa : h₁.objs.size = Da at hns hsb ⊢
  generalize hH2 : h₁.push { cls := .type "list", dict := none, data := .seq ([] : List Value).toArray } = H2 at hns hsb ⊢
  generalize hCa : H2.objs.size = Ca at hns hsb ⊢
  have hCs : Ca = Da + 1 := by rw [← hCa, ← hH2, Heap.size_push, hDa]
  have hDC : Da ≠ Ca := by rw [hCs]; exact Nat.ne_of_lt (Nat.lt_succ_self _)
  have nD : h₁.get? Da = none := by rw [← hDa]; exact get_fresh
  have nC : h₁.get? Ca = none := by
    cases q : h₁.get? Ca with
    | none => rfl
    | some o =>
      have h3 : Ca < h₁.objs.size := Heap.lt_size q
      rw [hDa, hCs] at h3
      exact absurd h3 (Nat.not_lt.mpr (Nat.le_succ _))
  have old : ∀ b o, h₁.get? b = some o → h₄.get? b = some o := fun b o e => by
    have hb : b < h₁.objs.size := Heap.lt_size e
    rw [hDa] at hb
    exact hsb.extBut b o (by rw [hCs]; exact Nat.ne_of_lt (Nat.lt_succ_of_lt hb)) (Heap.get?_push_of_some _ (hH2 ▸ Heap.get?_push_of_some _ e))
  have gD : h₄.get? Da = some (listO [] 0) := hsb.extBut _ _ hDC (Heap.get?_push_of_some _ (by rw [← hH2, ← hDa]; exact Heap.get?_push_size _ rfl))
  have s0 : ∀ b, h₁.get? b = none → s.heap.get? b = none := fun b q => by
    cases e : s.heap.get? b with
    | none => rfl
    | some o => obtain ⟨o', e'⟩ := s₁.ex e; rw [q] at e'; cases e'
  have J₄ : J c h₄ := s₁.j.all old
  have g₁ := D.base _ _ _ _ I₁
  have wex₁ : WEx W₁ h₁ := R₁.wex
  have gW : ∀ b, (W₁ b ∨ b = Ca ∨ b = Da) → ∃ o, h₄.get? b = some o := fun b q => by
    rcases q with q | rfl | rfl
    · obtain ⟨o, e⟩ := wex₁ b q; exact ⟨o, old b o e⟩
    · obtain ⟨o, _, _, e, _⟩ := hns; exact ⟨o, e⟩
    · exact ⟨_, gD⟩
  have gg : Go c W₁ (fun _ => False) h₁ (cW W₁ Ca Da) (cM Ca Da) h₄ :=
    ⟨fun b o e _ _ => old b o e, fun b q => .inr (q.elim (fun q => q ▸ nC) fun q => q ▸ nD), fun b q => q.elim .inl fun q => .inr (q.elim (fun q => q ▸ nC) fun q => q ▸ nD), fun b q _ => .inl q, J₄, fun b o e => ⟨o, old b o e⟩⟩
  have I₄ := D.frame _ _ _ _ _ _ _ I₁ T₁ (fun _ q => q.elim) gg
  have T₄ : TW c (cW W₁ Ca Da) := fun b q => .inl (T₁ b q)
  have R₄ : Rel c (cW W₁ Ca Da) (cM Ca Da) h₄ (fiC fi scope cl nt₂ caps t Ca) (valC val caps t) (sgC t σ caps) :=
    Rel.comp K R₁ s₁.j (fun b o e _ => old b o e) (fun b o e q => q.elim id fun q => q.elim (fun q => by rw [q, nC] at e; cases e) fun q => by rw [q, nD] at e; cases e) (fun b q => .inl q) gW T₁ (.inr (.inl rfl)) (.inr (.inr rfl)) nC nD hns
  have hC : CapIn (fiC fi scope cl nt₂ caps t Ca) s.heap := capIn_comp K hR
  have loop : ∀ s₃ : Shared, s₃ = { s with heap := h₄, toks := tk₁ } →
      codeAny c.M A (.compLoop (.ListComp elt [⟨tgt, iter, [], 0⟩] scope pos) 0 it (.ref Da) (compEnvC scope cl Ca fi.env)) (compPost c.M A E use Q (.ref Da) Ca) s₃ := by
    rintro s₃ rfl
    refine compLoop_any (CompAt c (fiC fi scope cl nt₂ caps t Ca) items (sgC t σ caps) Inv (cW W₁ Ca Da) (cM Ca Da) Da Acc s) ?_ items.length
      ⟨0, h₄, tk₁, valC val caps t, [], 0, rfl, p₁, rfl, Nat.zero_le _, I₄, J₄, R₄, gD, hacc.zero _ _ _⟩
    rintro m s' ⟨j, h', tk, val', vs, mm, rfl, hp, rfl, hj, hI, hJ', hR', hg, hd⟩
    have hWD : ∀ b o, h'.get? b = some o → ¬ (W₁ b ∨ b = Ca ∨ b = Da) → b ≠ Da := fun b o e q z => q (.inr (.inr z))
    by_cases hlt : j < items.length
    · obtain ⟨σ', hb⟩ := hbind j items[j] (List.getElem?_eq_getElem hlt)
      refine wpAny_mono (wpAny_toks_of (n := tk) (Nat.le_refl _) (D.draw (fiC fi scope cl nt₂ caps t Ca) tgt tg j items[j] (sgC t σ caps) σ' _ _ val' ⟨h', s.gens, s.drawn, tk, s.os⟩
              (fun _ s₂ => tk ≤ s₂.toks → wpAny c.M A (eval elt (compEnvC scope cl Ca fi.env)) (fun x s₃ => wpAny c.M A (call (.builtin "list.append") [.ref Da, x]) (fun _ s₄ => ∃ m, m < items.length - j ∧ CompAt c (fiC fi scope cl nt₂ caps t Ca) items (sgC t σ caps) Inv (cW W₁ Ca Da) (cM Ca Da) Da Acc s m s₄) (notedBy c.M A (compEnvC scope cl Ca fi.env) fun e s' => compPost c.M A E use Q (.ref Da) Ca (.error e) s') s₃) (notedBy c.M A (compEnvC scope cl Ca fi.env) fun e s' => compPost c.M A E use Q (.ref Da) Ca (.error e) s') s₂)
              _ (ht Ca) hC (List.getElem?_eq_getElem hlt) hb hI hp hJ' T₄ hR' fun val₂ h₂ tk₂ p₂ J₂ R₂ I₂ kp => ?_)) (fun r' s₁ h => ?_) fun _ _ e => e.2
      · intro htk
        have g₂ : h₂.get? Da = some (listO vs mm) := kp _ _ (.inr ⟨.inr rfl, fun q => by rcases q with ⟨_, _, q⟩ | ⟨_, q⟩ <;> cases q⟩) hg
        have d₂ := hacc.keep _ (cW W₁ Ca Da) _ h₂ _ _ _ _ ⟨fun b o e nw => kp b o (.inl nw) e, fun _ _ _ q => q⟩ htk hd
        refine hturn Ca j items[j] σ' A ⟨h₂, s.gens, s.drawn, tk₂, s.os⟩ _ _ val₂ vs _ _ (List.getElem?_eq_getElem hlt) hb hA p₂ J₂ T₄ R₂ d₂ fun v h₃ tk₃ p₃ le₃ s₃ d₃ => ?_
        have g₃ : h₃.get? Da = some (listO vs mm) := s₃.kept _ _ g₂ (R₂.muT _ (.inr rfl))
        have hvl := hacc.len _ _ _ _ _ hd
        refine append_at (s := ⟨h₃, s.gens, s.drawn, tk₃, s.os⟩) g₃ (fun h₅ hs₅ hg₅ => ?_) (by simp [sizeLine_eq]; omega)
        have kp₅ : Keeps (cW W₁ Ca Da) h₃ (cW W₁ Ca Da) h₅ := ⟨fun b o e nw => hs₅.extBut b o (fun q => nw (.inr (.inr q))) e, fun _ _ _ q => q⟩
        have go₅ : Go c (cW W₁ Ca Da) (cM Ca Da) h₃ (cW W₁ Ca Da) (cM Ca Da) h₅ := go_list s₃.j g₃ hg₅ (fun b o q e => hs₅.extBut b o q e) (.inr rfl) (R₂.muG _ (.inr rfl)) (R₂.muT _ (.inr rfl))
        have R₃ := R₂.step T₄ s₃
        have I₃ := D.frame _ _ _ _ _ _ _ I₂ T₄ R₂.muW (Go.of_step s₃)
        have I₅ := D.frame _ _ _ _ _ _ _ I₃ T₄ R₂.muW go₅
        have R₅ := Rel.listed (R₃.sub (hsub _ _ hb)) (fun i av e => let ⟨_, j', p', _, e', _⟩ := sgC_get e; ⟨p', e'⟩) g₃ (fun b o q e => hs₅.extBut b o q e) (fun z => hDC z.symm) kp₅ go₅.ex
        exact ⟨items.length - (j + 1), by omega, j + 1, h₅, tk₃, val₂, vs ++ [v], mm + 1, rfl, p₃, rfl, hlt, I₅, go₅.j, R₅, by rw [hg₅]; simp, hacc.keep _ _ _ _ _ _ _ _ kp₅ (Nat.le_refl _) d₃⟩
      · cases r' with
        | none => exact h.2.elim
        | some v =>
          exact wpAny_mono (wpAny_toks_of h.1 h.2) (fun _ s₂ h₂ => wpAny_mono (wpAny_toks_of h₂.1 h₂.2) (fun _ s₃ h₃ => h₃.2 h₃.1) fun _ _ e => e.2) fun _ _ e => e.2
    · have hj' : j = items.length := by omega
      rw [hj'] at hI hd
      refine wpAny_with_toks (n := tk) (Nat.le_refl _) ?_
      refine wpAny_mono (D.done (fiC fi scope cl nt₂ caps t Ca) (sgC t σ caps) _ _ val' ⟨h', s.gens, s.drawn, tk, s.os⟩ (fun s₁ => tk ≤ s₁.toks → compPost c.M A E use Q (.ref Da) Ca (.ok .next) s₁) _ hC hI hp hJ' T₄ hR' fun W₃ h₃ tk₃ p₃ g₃ R₃ kp hw₃ => ?_) (fun r' s₁ h => ?_) fun _ _ e _ => e
      · intro htk
        have k₀ : Kept c.TB s.heap h₃ := fun b o e nt => g₃.kept b o e nt fun q => q
        obtain ⟨m₃, hm₃, _⟩ := R₃.loc
        have hm₃ : h₃.Ns Ca m₃ := hm₃
        have d₃ : Acc (fun b => W b ∨ b = Ca) h₃ tk₃ items.length vs := hacc.keep (cW W₁ Ca Da) _ h' _ _ _ _ _ ⟨fun b o e nw => kp b o (.inr (.inr nw)) e, fun b _ _ q => q.elim (fun q => .inl (wW₁ b q)) fun q => .inr (.inl q)⟩ htk hd
        have w₃ : ∀ b, (W b ∨ b = Ca) → ∃ o, h₃.get? b = some o := fun b q => q.elim (fun q => let ⟨o, e⟩ := hR.wex b q; g₃.ex b o e) fun q => by
          obtain ⟨o, _, _, e, _⟩ := hm₃
          rw [q]; exact ⟨o, e⟩
        exact hpost Da Ca h₃ tk₃ vs mm p₃ ⟨k₀, g₃.j⟩ (s0 _ nC) (s0 _ nD) hDC ⟨m₃, hm₃⟩ (kp _ _ (.inr (.inl (.inr rfl))) hg) ⟨fun b => W b ∨ b = Ca, fun b q => .inl q, .inr rfl, w₃, fun b o e q => q.elim id fun q => (by rw [q, s0 _ nC] at e; cases e), d₃⟩
      · obtain ⟨rfl, h⟩ := h
        exact h
  exact codeAny_compStart_list (loop _ rfl) (D.self _ _ _ _ _ _ I₄ (loop _ rfl))
end Mine
end

section
open PySem PySem.W PyProof.Rows
set_option Elab.async false
set_option linter.unusedVariables false
namespace Mine

variable {c : Cx} {n : Nat} {fi : FI} {σ : Sg}

/-- what a comprehension gives -/
structure CompTo (c : Cx) (n : Nat) (fi : FI) (scope : Scope) (cl : List (PySem.Str × Addr)) (nt₂ : List PySem.Str) (caps : List Nat) (t : Nat) (σ : Sg) (elt : Expr) (tg : Tg) (items : List PV) (res : PV) (Acc : AccP) : Prop where
  acc : AccOK Acc
  bind : ∀ (j : Nat) (p : PV), items[j]? = some p → ∃ σ', bindTg tg p (sgC t σ caps) = some σ'
  turn : ∀ (C : Addr) (j : Nat) (p : PV) (σ' : Sg) (A : Around) (s : Shared) (W mu : Addr → Prop) (val : Vals) (vs : List Value) (Q E : Value → Shared → Prop), items[j]? = some p → bindTg tg p (sgC t σ caps) = some σ' → Room A n → 0 < s.toks → J c s.heap → TW c W → Rel c W mu s.heap (fiC fi scope cl nt₂ caps t C) val σ' →
      Acc W s.heap s.toks j vs → (∀ v h₃ tk₃, 0 < tk₃ → s.toks ≤ tk₃ → Step c s.heap h₃ → Acc W h₃ tk₃ (j + 1) (vs ++ [v]) → Q v { s with heap := h₃, toks := tk₃ }) → wpAny c.M A (eval elt (compEnvC scope cl C fi.env)) Q E s
  res : ∀ W h tk D vs m, ¬ W D → h.get? D = some (listO vs m) → Acc W h tk items.length vs → Den h W res (.ref D)

theorem CompTo.list {scope : Scope} {cl : List (PySem.Str × Addr)} {nt₂ : List PySem.Str} {caps : List Nat} {t : Nat} {elt : Expr} {tg : Tg} {items xs : List PV} {f : Sg → Option PV}
    (hbody : ∀ C σ' x, f σ' = some x → SoundE c n (fiC fi scope cl nt₂ caps t C) σ' elt x) (hev : evC f tg (sgC t σ caps) items = some xs) : CompTo c n fi scope cl nt₂ caps t σ elt tg items (.lst xs) (fun W h _ j vs => j ≤ xs.length ∧ DenL h W (xs.take j) vs) where
  acc := {
    zero := fun W h tk => ⟨Nat.zero_le _, by rw [List.take_zero]; exact DenL.nil⟩
    keep := fun W W' h h' tk tk' j vs k _ d => ⟨d.1, d.2.keeps k⟩
    len := fun W h tk j vs d => by
      have := d.2.length
      rw [List.length_take] at this
      have := d.1
      omega }
  bind := fun j p hj => let ⟨σ', x, h1, _, _⟩ := evC_at hev j p hj; ⟨σ', h1⟩
  turn := fun C j p σ' A s W mu val vs Q E hj hb hA hP hJ hT hR d k => by
    obtain ⟨σ'', x, h1, h2, h3⟩ := evC_at hev j p hj
    rw [hb] at h1; cases h1
    refine wpAny_with_toks (n := s.toks) (Nat.le_refl _) (hbody C σ' x h2 A s W mu val _ _ hA hP hJ hT hR fun v h₃ tk₃ p₃ s₃ d₃ le => ?_)
    have hjx : j < xs.length := by obtain ⟨q, _⟩ := List.getElem?_eq_some_iff.mp h3; exact q
    refine k v h₃ tk₃ p₃ le s₃ ⟨hjx, ?_⟩
    rw [List.take_add_one, h3]
    exact (d.2.step hT s₃).append (DenL.cons d₃ DenL.nil)
  res := fun W h tk D vs m hD hg d => by
    have hl := evC_len hev
    unfold Den
    refine ⟨D, vs, m, rfl, hD, hg, ?_⟩
    have := d.2
    rwa [List.take_of_length_le (by omega)] at this

theorem CompTo.wide {scope : Scope} {cl : List (PySem.Str × Addr)} {nt₂ : List PySem.Str} {caps : List Nat} {t : Nat} {elt : Expr} {tg : Tg} {items : List PV} {res : PV} {Acc : AccP} (T : CompTo c n fi scope cl nt₂ caps t σ elt tg items res Acc) {W W' : Addr → Prop} {h h' : Heap} {tk j : Nat} {vs : List Value} (k : Keeps W h W' h') (d : Acc W h tk j vs) : Acc W' h' tk j vs :=
  T.acc.keep _ _ _ _ _ _ _ _ k (Nat.le_refl _) d

/-- a comprehension, anywhere -/
theorem sound_comp {elt tgt iter : Expr} {scope : Scope} {pos : Pos} {cl : List (PySem.Str × Addr)} {nt₂ : List PySem.Str} {caps : List Nat} {t : Nat} {tg : Tg} {two : Bool} {items : List PV} {res : PV} {Acc : AccP}
    (hsrc : SrcOK c n fi σ iter two items) (K : CompOK fi scope cl nt₂ caps t) (ht : ∀ C, TgOK (fiC fi scope cl nt₂ caps t C) tgt tg two)
    (T : CompTo c n fi scope cl nt₂ caps t σ elt tg items res Acc) (hlen : items.length ≤ 100000)
    (hsub : ∀ p σ', bindTg tg p (sgC t σ caps) = some σ' → ∀ (i : Nat) (av : AV), (sgC t σ caps)[i]? = some (some av) → σ'[i]? = some (some av)) (hs : ∀ x, foldedSetIterable iter fi.env x = pure x) :
    SoundE c n fi σ (.ListComp elt [⟨tgt, iter, [], 0⟩] scope pos) res :=
  fun A s W mu val Q E hA hP hJ hT hR k => by
    rw [eval_ListComp]
    refine comp_core (use := none) (Q := Q) hA hP hJ hT hR hsrc K ht T.acc T.bind T.turn hlen hsub hs fun D C h₃ tk vs m hp s₃ nC nD hDC hns hg hW => ?_
    obtain ⟨mC, hnsC⟩ := hns
    obtain ⟨W₂, w1, w2, w3, w4, d⟩ := hW
    refine ⟨mC, hnsC, fun h' hs' => ?_⟩
    have kp : ∀ b o, b ≠ C → h₃.get? b = some o → h'.get? b = some o := fun b o q e => hs'.extBut b o q e
    have st : Step c s.heap h' := by
      have J' : J c h' := J.but s₃.j (X := fun b => b = C) (fun b o e nm => kp b o nm e) (fun b q => by
        cases e : c.G.get? b with
        | none => rfl
        | some o => have := hJ.ext _ _ e; rw [q, nC] at this; cases this) (fun b q z => by
          obtain ⟨o, e, _⟩ := hJ.tab b z
          rw [q, nC] at e; cases e) (fun b o q z e => by
          obtain ⟨oC, esC, epC, eC, dC, _⟩ := hnsC
          subst z; rw [eC] at e; cases e
          exact noCod_odd (.inl ⟨_, _, dC⟩) q)
      exact ⟨fun b o e nt => kp b o (fun q => by rw [q, nC] at e; cases e) (s₃.kept b o e nt), J'⟩
    refine k _ h' tk hp st ?_
    refine T.res W h' tk D vs m (fun q => ?_) (kp _ _ hDC hg) (T.wide (W := W₂) ⟨fun b o e nw => kp b o (fun q => nw (q ▸ w2)) e, fun b _ _ q => w1 b q⟩ d)
    obtain ⟨o, e⟩ := hR.wex D q
    rw [nD] at e; cases e

/-- x = [comprehension], on one line -/
theorem soundS_setComp {x : PySem.Str} {p' spos : Pos} {i : Nat} {elt tgt iter : Expr} {scope : Scope} {pos : Pos} {cl : List (PySem.Str × Addr)} {nt₂ : List PySem.Str} {caps : List Nat} {t : Nat} {tg : Tg} {two : Bool} {items : List PV} {res : PV} {Acc : AccP}
    (hx : fi.nt[i]? = some x) (hcap : fi.capt = false) (hsw : swapsWith (.ListComp elt [⟨tgt, iter, [], 0⟩] scope pos) (some (.Name x p')) spos.line fi.env = pure true)
    (hsrc : SrcOK c n fi σ iter two items) (K : CompOK fi scope cl nt₂ caps t) (ht : ∀ C, TgOK (fiC fi scope cl nt₂ caps t C) tgt tg two)
    (T : CompTo c n fi scope cl nt₂ caps t σ elt tg items res Acc) (hlen : items.length ≤ 100000)
    (hsub : ∀ p σ', bindTg tg p (sgC t σ caps) = some σ' → ∀ (i : Nat) (av : AV), (sgC t σ caps)[i]? = some (some av) → σ'[i]? = some (some av)) (hs : ∀ x, foldedSetIterable iter fi.env x = pure x) :
    SoundS c n fi σ (exec (.Assign [.Name x p'] (.ListComp elt [⟨tgt, iter, [], 0⟩] scope pos) spos)) (.next (σ.set i (some (.im res)))) :=
  fun A s W mu val Q E hA hP hJ hT hR k => by
    rw [exec_Assign_Name_used _ _ _ _ hsw]
    refine wpAny_bind (wpAny_standAt (wpAny_bind ?_))
    show wpAny _ A (do let _ ← comprehension (.ListComp elt [⟨tgt, iter, [], 0⟩] scope pos) scope fi.env _ (newList []) false (eval iter fi.env) (some (assign (.Name x p') fi.env))) _ _ s
    refine wpAny_bind (wpAny_mono (comp_core (use := some (assign (.Name x p') fi.env)) (Q := fun _ s' => Q .next s') (E := E) hA hP hJ hT hR hsrc K ht T.acc T.bind T.turn hlen hsub hs fun D C h₃ tk vs m hp s₃ nC nD hDC hns hg hW => ?_) (fun _ s' hq => wpAny_pure (wpAny_pure hq)) fun _ _ e => e)
    obtain ⟨mC, hnsC⟩ := hns
    obtain ⟨W₂, w1, w2, w3, w4, d⟩ := hW
    show wpAny _ A (assign (.Name x p') fi.env (.ref D)) _ _ _
    have muC : ∀ b, mu b → b ≠ C := fun b q z => by obtain ⟨o, e⟩ := hR.wex b (hR.muW b q); rw [z, nC] at e; cases e
    have wC : ∀ b, W b → b ≠ C := fun b q z => by obtain ⟨o, e⟩ := hR.wex b q; rw [z, nC] at e; cases e
    have nTC : ¬ c.TB C := fun z => by obtain ⟨o, e, _⟩ := hJ.tab C z; rw [nC] at e; cases e
    have nGC : c.G.get? C = none := by
      cases e : c.G.get? C with
      | none => rfl
      | some o => have := hJ.ext _ _ e; rw [nC] at this; cases this
    have R₀ := hR.step hT s₃
    -- the relation with C forbidden
    have R₁ : Rel c (add1 W C) mu h₃ fi val σ := { R₀ with
      wex := fun b q => q.elim (fun q => R₀.wex b q) fun q => by obtain ⟨o, _, _, e, _⟩ := hnsC; rw [q]; exact ⟨o, e⟩
      muW := fun b q => .inl (R₀.muW b q)
      cel := fun j y a h1 h2 => by
        obtain ⟨q1, q2, q3, q4, q5⟩ := R₀.cel j y a h1 h2
        exact ⟨q1, .inl q2, q3, q4, q5⟩
      vals := fun j av e => by
        obtain ⟨y, u, h1, h2, h3⟩ := hR.vals j av e
        refine ⟨y, u, h1, h2, ?_⟩
        have kp : Keeps W s.heap (add1 W C) h₃ := ⟨fun b o e n => s₃.kept b o e fun q => n (hT b q), fun b o e q => q.elim id fun q => by rw [q, nC] at e; cases e⟩
        cases av with
        | im p => exact Den.keeps kp h3
        | own l =>
          obtain ⟨b, vs', m', e1, e2, e3, e4⟩ := h3
          exact ⟨b, vs', m', e1, e2, s₃.kept _ _ e3 (hR.muT _ e2), DenL.keeps kp e4⟩
        | ownb l =>
          obtain ⟨b, m', e1, e2, e3⟩ := h3
          exact ⟨b, m', e1, e2, s₃.kept _ _ e3 (hR.muT _ e2)⟩ }
    have dD : Den h₃ (add1 W C) res (.ref D) := by
      refine T.res (add1 W C) h₃ tk D vs m (fun q => q.elim (fun q => ?_) fun q => hDC q) hg (T.wide (W := W₂) ⟨fun b o e _ => e, fun b _ _ q => q.elim (fun q => w1 b q) fun q => q ▸ w2⟩ d)
      obtain ⟨o, e⟩ := hR.wex D q
      rw [nD] at e; cases e
    refine PyProof.Rows.assign_Name (store_any (s := ⟨h₃, s.gens, s.drawn, tk, s.os⟩) hp s₃.j R₁ (.inl hcap) hx (av := .im res) dD (fun e => by cases e) fun h₅ tk₅ p₅ g₅ R₅ kp₅ => ?_)
    obtain ⟨oC, esC, epC, eC, rC⟩ := id hnsC
    have eC₅ : h₅.get? C = some oC := kp₅ _ _ (.inl fun q => muC C q rfl) eC
    refine ⟨mC, ⟨oC, esC, epC, eC₅, rC⟩, fun h' hs' => ?_⟩
    have kp' : ∀ b o, b ≠ C → h₅.get? b = some o → h'.get? b = some o := fun b o q e => hs'.extBut b o q e
    have hex' : ∀ b o, b ≠ C → h₅.get? b = some o → ∃ o', h'.get? b = some o' := fun b o q e => ⟨o, kp' b o q e⟩
    have J' : J c h' := J.but g₅.j (X := fun b => b = C) (fun b o e nm => kp' b o nm e) (fun b q => q ▸ nGC) (fun b q => q ▸ nTC) fun b o q z e => by subst z; rw [eC₅] at e; cases e; exact noCod_odd (.inl ⟨_, _, rC.1⟩) q
    have hcl : ∀ i x a, fi.nt[i]? = some x → fi.place i = some a → W a := fun i x a h1 h2 => (hR.cel i x a h1 h2).w
    have R₆ : Rel c W mu h₅ fi (upd val i (.ref D)) (σ.set i (some (.im res))) := R₅.less (fun b q => .inl q) hR.muW hcl
    have R₇ : Rel c W mu h' fi (upd val i (.ref D)) (σ.set i (some (.im res))) := { R₆ with
      wex := fun b q => let ⟨o, e⟩ := R₆.wex b q; hex' b o (wC b q) e
      loc := by
        obtain ⟨m, ⟨o, es, ep, q1, q2⟩, q⟩ := R₆.loc
        exact ⟨m, ⟨o, es, ep, kp' _ _ (muC _ R₆.lmu) q1, q2⟩, q⟩
      cel := fun j y a h1 h2 => by
        obtain ⟨q1, q2, q3, q4, o, ov, q5, q6, q7⟩ := R₆.cel j y a h1 h2
        exact ⟨q1, q2, q3, q4, o, ov, kp' _ _ (wC _ q2) q5, q6, q7⟩
      vals := fun j av e => by
        obtain ⟨y, u, h1, h2, h3⟩ := R₅.vals j av e
        refine ⟨y, u, h1, h2, ?_⟩
        have kk : Keeps (add1 W C) h₅ (add1 W C) h' := ⟨fun b o e n => kp' b o (fun q => n (.inr q)) e, fun _ _ _ q => q⟩
        cases av with
        | im p => exact Den.wider (fun b _ _ q => .inl q) (Den.keeps kk h3)
        | own l =>
          obtain ⟨b, vs', m', e1, e2, e3, e4⟩ := h3
          exact ⟨b, vs', m', e1, e2, kp' _ _ (muC _ e2) e3, DenL.wider (fun b _ _ q => .inl q) (DenL.keeps kk e4)⟩
        | ownb l =>
          obtain ⟨b, m', e1, e2, e3⟩ := h3
          exact ⟨b, m', e1, e2, kp' _ _ (muC _ e2) e3⟩ }
    refine k W mu _ h' tk₅ p₅ ⟨fun b o e nt nm => ?_, fun b q => .inl q, fun b q => .inl q, fun b q _ => q, J', fun b o e => ?_⟩ R₇
    · have nc : b ≠ C := fun q => by rw [q, nC] at e; cases e
      exact kp' b o nc (kp₅ b o (.inl nm) (s₃.kept b o e nt))
    · have nc : b ≠ C := fun q => by rw [q, nC] at e; cases e
      obtain ⟨o₁, e₁⟩ := s₃.ex e
      obtain ⟨o₂, e₂⟩ := g₅.ex b o₁ e₁
      exact hex' b o₂ nc e₂
end Mine
end

section
open PySem PySem.W PyProof.Rows
set_option Elab.async false
set_option maxRecDepth 100000
set_option linter.unusedVariables false
namespace Mine
open Builtin

section
variable {prog : Program} {w : World} {A : Around} {E : Value → Shared → Prop} {s : Shared} {b : Array UInt8} {t : Tok}

set_option maxHeartbeats 1000000 in
theorem meets_enumerate_newB (b : Array UInt8) (t : Tok) :
    Meets (Builtin.«enumerate.__new__» ⟨[.type "enumerate", .bytes b t], []⟩) (fun _ R s =>
      R (.ok (.ret (.ref (s.heap.push { cls := .type "bytes_iterator", data := .fields #[.bytes b t, .int 0 0] }).objs.size)))
        { s with heap := (s.heap.push { cls := .type "bytes_iterator", data := .fields #[.bytes b t, .int 0 0] }).push { cls := .type "enumerate", data := .fields #[.none, .bool false, .ref s.heap.objs.size, rawInt 0, .none, .none] } }) :=
  .of_wp fun prog w A R s h => by
    obtain ⟨hp, g, d, tk, os⟩ := s
    have hsub := sub_enumerate
    wp_walk
    refine wpAny_stack_any fun st => wpAny_pure ?_
    split
    · rename_i c _ _ _ _ _
      cases (c == Value.type "enumerate")
      · wp_walk using KBw.pyIter_bytes
        exact ⟨_, rfl, h⟩
      · wp_walk using KBw.pyIter_bytes
        exact ⟨_, rfl, h⟩
    · wp_walk using KBw.pyIter_bytes
      exact ⟨_, rfl, h⟩

theorem call_enumerate_bytes {Q : Value → Shared → Prop}
    (h : ∀ h', IsEnum h' (s.heap.objs.size + 1) s.heap.objs.size 0 .none → KBw.IsBytesIter h' s.heap.objs.size b t 0 → h'.objs.size = s.heap.objs.size + 2 →
      (∀ b o, s.heap.get? b = some o → h'.get? b = some o) → Q (.ref (s.heap.objs.size + 1)) { s with heap := h' }) :
    wpAny (model prog w) A (call (.type "enumerate") [.bytes b t]) Q E s := by
  refine callType_new F.called_enumerate (by decide) (F.typeCall_enumerate_1 _) (F.newCall_enumerate_1 _) (fun obj => F.args_object_init_2 obj _) F.entry_enumerate_new
    (meets_enumerate_newB b t) ?_
  have hz : (s.heap.push { cls := .type "bytes_iterator", data := .fields #[.bytes b t, .int 0 0] }).objs.size = s.heap.objs.size + 1 := Heap.size_push ..
  show _ ∧ _
  rw [hz]
  have he : IsEnum ((s.heap.push { cls := .type "bytes_iterator", data := .fields #[.bytes b t, .int 0 0] }).push
      { cls := .type "enumerate", data := .fields #[.none, .bool false, .ref s.heap.objs.size, rawInt 0, .none, .none] }) (s.heap.objs.size + 1) s.heap.objs.size 0 .none := by
    have := Heap.get?_push_size (s.heap.push { cls := .type "bytes_iterator", data := .fields #[.bytes b t, .int 0 0] })
      (o := { cls := .type "enumerate", data := .fields #[.none, .bool false, .ref s.heap.objs.size, rawInt 0, .none, .none] }) rfl
    rw [hz] at this; exact this
  refine ⟨⟨_, he, rfl⟩, h _ he ⟨_, Heap.get?_push_of_some _ (Heap.get?_push_size _ rfl), rfl, rfl⟩ (by rw [Heap.size_push, hz]) fun b o y => Heap.get?_push_of_some _ (Heap.get?_push_of_some _ y)⟩

theorem nextOf_bytes_item {it : Addr} {i : Nat} {c : UInt8} {Q : Value → Shared → Prop} (hit : KBw.IsBytesIter s.heap it b t i) (hx : b[i]? = some c)
    (hQ : ∀ h', KBw.IsBytesIter h' it b t (i + 1) → Heap.SameBut it s.heap h' → Q (.int (c.toNat : Int) s.toks) { s with heap := h', toks := s.toks + 1 }) : wpAny (model prog w) A (SmallTypes.nextOf (.ref it)) Q E s := by
  obtain ⟨o, ho, hc, hd⟩ := id hit
  unfold SmallTypes.nextOf
  refine wpAny_bind (wpAny_callSpecial?_slot (name := PySem.Str.ofString "__next__") (KBw.iter_typeIs hit) KBw.slot_next
    (wpAny_call_entry KBw.slot_next (KBw.iter_typeIs hit) KBw.entry_next ?_ (KBw.args_next _)))
  show wpAny _ _ (field (.ref it) 0 >>= _) _ _ s
  refine wpAny_bind (wpAny_field ho hd (x := .bytes b t) rfl ?_)
  show wpAny _ _ (if (Value.bytes b t == Value.none) = true then _ else _) _ _ s
  rw [if_neg (show ¬ ((Value.bytes b t == Value.none) = true) from Bool.false_ne_true)]
  show wpAny _ _ (field (.ref it) 1 >>= _) _ _ s
  refine wpAny_bind (wpAny_field ho hd (x := .int i 0) rfl ?_)
  refine wpAny_bind (wpAny_of_eq (a := b) rfl ?_)
  simp only [Int.toNat_natCast, hx]
  refine wpAny_bind (wpAny_setField ho hd (by simp) (wpAny_bind (wpAny_mkInt (wpAny_pure ⟨_, rfl, wpAny_pure (hQ _ ?_ (Heap.SameBut.update ..))⟩))))
  exact ⟨_, Heap.get?_update_self _ ho (Obj.isFreed_of_fields (Obj.data_mapFields hd _)), (Obj.cls_mapFields ..).trans hc, by
    rw [Obj.data_mapFields hd]; simp [rawInt]⟩

theorem nextOf_bytes_end {it : Addr} {i : Nat} {Q : Value → Shared → Prop} (hh : A.handled = none) (hit : KBw.IsBytesIter s.heap it b t i) (hx : b[i]? = none)
    (hE : ∀ h' e, Heap.ExtBut it s.heap h' → (∃ o, h'.get? e = some o ∧ o.cls = .type "StopIteration") → E (.ref e) { s with heap := h' }) : wpAny (model prog w) A (SmallTypes.nextOf (.ref it)) Q E s := by
  obtain ⟨o, ho, hc, hd⟩ := id hit
  unfold SmallTypes.nextOf
  refine wpAny_bind (wpAny_callSpecial?_slot (name := PySem.Str.ofString "__next__") (KBw.iter_typeIs hit) KBw.slot_next
    (wpAny_call_entry KBw.slot_next (KBw.iter_typeIs hit) KBw.entry_next ?_ (KBw.args_next _)))
  show wpAny _ _ (field (.ref it) 0 >>= _) _ _ s
  refine wpAny_bind (wpAny_field ho hd (x := .bytes b t) rfl ?_)
  show wpAny _ _ (if (Value.bytes b t == Value.none) = true then _ else _) _ _ s
  rw [if_neg (show ¬ ((Value.bytes b t == Value.none) = true) from Bool.false_ne_true)]
  show wpAny _ _ (field (.ref it) 1 >>= _) _ _ s
  refine wpAny_bind (wpAny_field ho hd (x := .int i 0) rfl ?_)
  refine wpAny_bind (wpAny_of_eq (a := b) rfl ?_)
  simp only [Int.toNat_natCast, hx]
  refine wpAny_bind (wpAny_rule (wpAny_bind (wpAny_setField ho hd (by simp) ?_)))
  show wpAny _ _ (newExc (.type "StopIteration") [] >>= _) _ _ _
  refine wpAny_bind ?_
  simp only [newExc, newTuple]
  refine wpAny_bind (wpAny_newObj_type ?_ (by size_fits))
  refine wpAny_bind (m := firstArgMember _ _) (wpAny_of_eq (a := Value.none) (by first | rfl | (simp only [firstArgMember]; rfl)) ?_)
  refine wpAny_newObj_type ?_ (by size_fits)
  simp only [raiseNew]
  refine wpAny_bind (wpAny_handled ?_)
  first | rw [show A.in1.handled = none from hh] | rw [hh]
  refine wpAny_bind (wpAny_pure (wpAny_throw ?_))
  exact hE _ _ (((Heap.SameBut.update ..).extBut.push _).push _) ⟨_, Heap.get?_push_size _ rfl, rfl⟩
end

theorem Draws.bytes {prog : Program} {w : World} {A : Around} (hh : A.handled = none) (it : Addr) (b : Array UInt8) (t : Tok) :
    Draws prog w A it [it] b.size (fun i v => ∃ c u, b[i]? = some c ∧ v = .int (c.toNat : Int) u) (fun i h => KBw.IsBytesIter h it b t i) where
  live := fun _ _ st => let ⟨o, ho, _⟩ := st; ⟨o, ho⟩
  frame := fun _ _ _ st hk => let ⟨o, ho, r⟩ := st; ⟨o, hk it (by simp) o ho, r⟩
  item := fun i s Q E hi st hQ => by
    refine nextOf_bytes_item st (c := b[i]) (by simp [hi]) fun h' hit' hs' => ?_
    exact hQ _ h' (s.toks + 1) ⟨_, _, by simp [hi], rfl⟩ hit' hs'
  done := fun s Q E st hE => nextOf_bytes_end hh st (by simp) hE
end Mine
end

section
open PySem PySem.W PyProof.Rows
set_option Elab.async false
set_option linter.unusedVariables false
namespace Mine

variable {c : Cx} {n : Nat} {fi : FI} {σ : Sg}

theorem Rel.widen {W W₁ mu : Addr → Prop} {h h' : Heap} {val : Vals} (R : Rel c W mu h fi val σ) (st : Step c h h') (hT : TW c W) (w : ∀ b, W b → W₁ b) (wl : ∀ b o, h.get? b = some o → W₁ b → W b) (wex : ∀ b, W₁ b → ∃ o, h'.get? b = some o) : Rel c W₁ mu h' fi val σ :=
  { (R.step hT st) with
    wex := wex
    muW := fun b q => w b (R.muW b q)
    cel := fun j y a h1 h2 => by
      obtain ⟨q1, q2, q3, q4, q5⟩ := (R.step hT st).cel j y a h1 h2
      exact ⟨q1, w _ q2, q3, q4, q5⟩
    vals := fun j av e => by
      obtain ⟨y, u, h1, h2, h3⟩ := R.vals j av e
      refine ⟨y, u, h1, h2, ?_⟩
      have kp : Keeps W h W₁ h' := ⟨fun b o e n => st.kept b o e fun q => n (hT b q), wl⟩
      cases av with
      | im p => exact Den.keeps kp h3
      | own l =>
        obtain ⟨b, vs', m', e1, e2, e3, e4⟩ := h3
        exact ⟨b, vs', m', e1, e2, st.kept _ _ e3 (R.muT _ e2), DenL.keeps kp e4⟩
      | ownb l =>
        obtain ⟨b, m', e1, e2, e3⟩ := h3
        exact ⟨b, m', e1, e2, st.kept _ _ e3 (R.muT _ e2)⟩ }

theorem src_facts {W mu : Addr → Prop} {h h₁ h' : Heap} {val : Vals} {fp wr : List Addr} {DP : (Addr → Prop) → Heap → Prop} {St : Nat → Heap → Prop} (hJ : J c h) (hT : TW c W) (R : Rel c W mu h fi val σ) (s₁ : Step c h h₁) (kk : ∀ b o, h₁.get? b = some o → h'.get? b = some o) (st : St 0 h') (live : ∀ i h, St i h → ∀ b ∈ fp, ∃ o, h.get? b = some o)
    (sub : ∀ b ∈ wr, b ∈ fp) (hn : ∀ b ∈ wr, h₁.get? b = none) (off : ∀ b ∈ fp, b ∉ wr → ¬ W b) (hd : DPok DP) (dp : DP W h₁) :
    (∀ b ∈ wr, h.get? b = none) ∧ ∀ mu₀ : Addr → Prop, (∀ b, mu₀ b → mu b) → InvW c W mu₀ h fp wr DP St 0 (fun b => W b ∨ b ∈ wr) mu₀ h' ∧ TW c (fun b => W b ∨ b ∈ wr) ∧ Rel c (fun b => W b ∨ b ∈ wr) mu h' fi val σ ∧ ∀ b, W b → (W b ∨ b ∈ wr) := by
  have hn₀ : ∀ b ∈ wr, h.get? b = none := fun b q => by
    cases e : h.get? b with
    | none => rfl
    | some o => obtain ⟨o', e'⟩ := s₁.ex e; rw [hn b q] at e'; cases e'
  have st' : Step c h h' := s₁.trans (Step.all s₁.j kk)
  have wl : ∀ b o, h.get? b = some o → (W b ∨ b ∈ wr) → W b := fun b o e q => q.elim id fun q => by rw [hn₀ b q] at e; cases e
  refine ⟨hn₀, fun mu₀ hmu => ⟨⟨⟨fun b o e nt _ => st'.kept b o e nt, fun b q => .inl q, fun b q => q.elim .inl fun q => .inr (hn₀ b q), fun b q _ => .inl q, st'.j, fun b o e => st'.ex e⟩, st, fun b hb => ?_, fun b q => .inr q, ?_⟩, fun b q => .inl (hT b q), R.widen st' hT (fun b q => .inl q) wl fun b q => ?_, fun b q => .inl q⟩⟩
  · by_cases q : b ∈ wr
    · refine ⟨fun z => ?_, fun z => ?_⟩
      · obtain ⟨o, e⟩ := R.wex b (R.muW b (hmu b z))
        rw [hn₀ b q] at e; cases e
      · obtain ⟨o, e, _⟩ := hJ.tab b z
        rw [hn₀ b q] at e; cases e
    · exact ⟨fun z => off b hb q (R.muW b (hmu b z)), fun z => off b hb q (hT b z)⟩
  · refine hd W _ h₁ h' ⟨fun b o e _ => kk b o e, fun b o e q => q.elim id fun q => by rw [hn b q] at e; cases e⟩ dp
  · rcases q with q | q
    · obtain ⟨o, e⟩ := R.wex b q; exact st'.ex e
    · exact live _ _ st b (sub b q)

theorem nc_at {h : Heap} {a : Addr} {o : Obj} {vs : Array Value} (e : h.get? a = some o) (hd : o.data = .fields vs) (h1 : ∀ q t, vs[1]? ≠ some (.str q t)) : ∀ o q, h.get? a = some o → ¬ CodQ q o := fun o' q e' => by
  rw [e] at e'; cases e'; exact noCod_fields hd h1 q

/-- a source from an iterator with one name -/
theorem src_one {A : Around} {s : Shared} {W mu : Addr → Prop} {val : Vals} {Q : Value → Shared → Prop} {h₁ h' : Heap} {tk : Nat} {I : Addr} {fp wr : List Addr} {items : List PV} {P : Nat → Value → Prop} {St : Nat → Heap → Prop} (hJ : J c s.heap) (hT : TW c W) (R : Rel c W mu s.heap fi val σ)
    (k : ∀ it h' tk, 0 < tk → Step c s.heap h' → (∀ mu₀ : Addr → Prop, (∀ b, mu₀ b → mu b) → ∃ W₁ Inv, Drawer c A false it items W mu₀ s.heap Inv ∧ Inv 0 W₁ mu₀ h' ∧ TW c W₁ ∧ Rel c W₁ mu h' fi val σ ∧ ∀ b, W b → W₁ b) → Q it { s with heap := h', toks := tk })
    (s₁ : Step c s.heap h₁) (hp : 0 < tk) (kk : ∀ b o, h₁.get? b = some o → h'.get? b = some o) (V : Walks c.prog c.w A I fp wr items.length P St) (st : St 0 h') (live : ∀ i h, St i h → ∀ b ∈ fp, ∃ o, h.get? b = some o) (nc : NC wr St)
    (hn : ∀ b ∈ wr, h₁.get? b = none) (off : ∀ b ∈ fp, b ∉ wr → ¬ W b) (dp : DP1 items P W h₁) : Q (.ref I) { s with heap := h', toks := tk } := by
  obtain ⟨hn₀, x⟩ := src_facts hJ hT R s₁ kk st live V.sub hn off dp1_ok dp
  refine k _ h' tk hp (s₁.trans (Step.all s₁.j kk)) fun mu₀ hmu => ?_
  obtain ⟨x1, x2, x3, x4⟩ := x mu₀ hmu
  exact ⟨_, _, Drawer.of_walks V R.wex hJ hn₀ live nc, x1, x2, x3, x4⟩
theorem src_two {A : Around} {s : Shared} {W mu : Addr → Prop} {val : Vals} {Q : Value → Shared → Prop} {h₁ h' : Heap} {tk : Nat} {I : Addr} {fp wr : List Addr} {items : List PV} {Pt : Nat → Array Value → Prop} {St : Nat → Heap → Prop} {Mid : Nat → Addr → Heap → Prop} (hh : A.handled = none) (hJ : J c s.heap) (hT : TW c W) (R : Rel c W mu s.heap fi val σ)
    (k : ∀ it h' tk, 0 < tk → Step c s.heap h' → (∀ mu₀ : Addr → Prop, (∀ b, mu₀ b → mu b) → ∃ W₁ Inv, Drawer c A true it items W mu₀ s.heap Inv ∧ Inv 0 W₁ mu₀ h' ∧ TW c W₁ ∧ Rel c W₁ mu h' fi val σ ∧ ∀ b, W b → W₁ b) → Q it { s with heap := h', toks := tk })
    (s₁ : Step c s.heap h₁) (hp : 0 < tk) (kk : ∀ b o, h₁.get? b = some o → h'.get? b = some o) (V : WalksU c.prog c.w A I fp wr items.length Pt St Mid) (st : St 0 h') (live : ∀ i h, St i h → ∀ b ∈ fp, ∃ o, h.get? b = some o) (nc : NC wr St)
    (hn : ∀ b ∈ wr, h₁.get? b = none) (off : ∀ b ∈ fp, b ∉ wr → ¬ W b) (dp : DP2 items Pt W h₁) : Q (.ref I) { s with heap := h', toks := tk } := by
  obtain ⟨hn₀, x⟩ := src_facts hJ hT R s₁ kk st live V.sub hn off dp2_ok dp
  refine k _ h' tk hp (s₁.trans (Step.all s₁.j kk)) fun mu₀ hmu => ?_
  obtain ⟨x1, x2, x3, x4⟩ := x mu₀ hmu
  exact ⟨_, _, Drawer.of_walksU V hh R.wex hJ hn₀ live nc, x1, x2, x3, x4⟩

theorem live2 {h : Heap} {a b : Addr} {o₁ o₂ : Obj} (h1 : h.get? a = some o₁) (h2 : h.get? b = some o₂) : ∀ x ∈ [a, b], ∃ o, h.get? x = some o := fun x hx => by
  rcases List.mem_cons.mp hx with rfl | hx
  · exact ⟨_, h1⟩
  · rw [List.mem_singleton.mp hx]; exact ⟨_, h2⟩

theorem src_list {e : Expr} {l : List PV} (he : SoundE c n fi σ e (.lst l)) : SrcOK c n fi σ e false l :=
  fun A s W mu val Q E hA hP hJ hT hR k => he A s W mu val _ _ hA hP hJ hT hR fun v h₁ tk₁ p₁ s₁ d₁ => by
    obtain ⟨a, vs, m, rfl, wa, ga, da⟩ := den_lst d₁
    have hlen := da.length
    have hne : a ≠ h₁.objs.size := Nat.ne_of_lt (Heap.lt_size ga)
    have V := Walks.list (prog := c.prog) (w := c.w) (A := A) hA.handled h₁.objs.size a hne vs.toArray
    rw [show vs.toArray.size = l.length by simp [hlen]] at V
    refine wpAny_pyIter_list (isList_of ga) (src_one (s := s) hJ hT hR k s₁ p₁ (fun b o e => Heap.get?_push_of_some _ e) V ⟨⟨_, Heap.get?_push_size _ rfl, rfl, rfl⟩, isList_of (Heap.get?_push_of_some _ ga)⟩ (fun i h x => ?_) (fun i h x b hb => ?_) (fun b q => ?_) (fun b q nq => ?_) fun i v hv => ?_)
    · obtain ⟨⟨o1, h1, _⟩, ⟨o2, h2, _⟩⟩ := x
      exact live2 h1 h2
    · obtain ⟨⟨o1, h1, _, hd⟩, _⟩ := x
      rw [List.mem_singleton.mp hb]
      exact nc_at h1 hd fun q t e => by simp at e
    · rw [List.mem_singleton.mp q]; exact get_fresh
    · rcases List.mem_cons.mp q with q | q
      · exact absurd (List.mem_singleton.mpr q) nq
      · rw [List.mem_singleton.mp q]; exact wa
    · have hi : i < l.length := by
        have : vs[i]? = some v := by simpa using hv
        obtain ⟨q, _⟩ := List.getElem?_eq_some_iff.mp this
        omega
      obtain ⟨u, hu, du⟩ := da.get (List.getElem?_eq_getElem hi)
      have hv' : vs[i]? = some v := by simpa using hv
      rw [hu] at hv'; cases hv'
      exact ⟨_, List.getElem?_eq_getElem hi, du⟩

theorem src_tuple {e : Expr} {l : List PV} (he : SoundE c n fi σ e (.tup l)) : SrcOK c n fi σ e false l :=
  fun A s W mu val Q E hA hP hJ hT hR k => he A s W mu val _ _ hA hP hJ hT hR fun v h₁ tk₁ p₁ s₁ d₁ => by
    obtain ⟨a, vs, m, rfl, wa, ga, da⟩ := den_tup d₁
    have hlen := da.length
    have hne : a ≠ h₁.objs.size := Nat.ne_of_lt (Heap.lt_size ga)
    have V := Walks.tuple (prog := c.prog) (w := c.w) (A := A) hA.handled h₁.objs.size a hne vs.toArray
    rw [show vs.toArray.size = l.length by simp [hlen]] at V
    have ht : Heap.IsTuple h₁ a vs.toArray := ⟨_, ga, rfl, _, rfl⟩
    refine wpAny_pyIter_tuple ht (src_one (s := s) hJ hT hR k s₁ p₁ (fun b o e => Heap.get?_push_of_some _ e) V ⟨⟨_, Heap.get?_push_size _ rfl, rfl, rfl⟩, ht.push _⟩ (fun i h x => ?_) (fun i h x b hb => ?_) (fun b q => ?_) (fun b q nq => ?_) fun i v hv => ?_)
    · obtain ⟨⟨o1, h1, _⟩, ⟨o2, h2, _⟩⟩ := x
      exact live2 h1 h2
    · obtain ⟨⟨o1, h1, _, hd⟩, _⟩ := x
      rw [List.mem_singleton.mp hb]
      exact nc_at h1 hd fun q t e => by simp at e
    · rw [List.mem_singleton.mp q]; exact get_fresh
    · rcases List.mem_cons.mp q with q | q
      · exact absurd (List.mem_singleton.mpr q) nq
      · rw [List.mem_singleton.mp q]; exact wa
    · have hi : i < l.length := by
        have : vs[i]? = some v := by simpa using hv
        obtain ⟨q, _⟩ := List.getElem?_eq_some_iff.mp this
        omega
      obtain ⟨u, hu, du⟩ := da.get (List.getElem?_eq_getElem hi)
      have hv' : vs[i]? = some v := by simpa using hv
      rw [hu] at hv'; cases hv'
      exact ⟨_, List.getElem?_eq_getElem hi, du⟩
end Mine
end

section
open PySem PySem.W PyProof.Rows
set_option Elab.async false
set_option linter.unusedVariables false
namespace Mine

variable {c : Cx} {n : Nat} {fi : FI} {σ : Sg}

theorem eval_ty {A : Around} {s : Shared} {W mu : Addr → Prop} {val : Vals} {Q E : Value → Shared → Prop} {x : PySem.Str} {p pos : Pos} {id : String} {xs : List Expr} {ps : List PV} (hA : Room A n) (hP : 0 < s.toks) (hJ : J c s.heap) (hT : TW c W) (hR : Rel c W mu s.heap fi val σ)
    (hg : Glob c x (.type id)) (hk : fi.env.kindOf x = some .globalImplicit) (hs : SoundEs c n fi σ xs ps) (hne : ps ≠ [])
    (k : ∀ vs h₁ tk₁, 0 < tk₁ → Step c s.heap h₁ → DenL h₁ W ps vs → wpAny c.M A (call (.type id) vs) Q E { s with heap := h₁, toks := tk₁ }) : wpAny c.M A (eval (.Call (.Name x p) xs [] pos) fi.env) Q E s := by
  refine Call_Name rfl (hg A s _ p _ _ hJ hR.kind hk hR.gl hR.bl ?_)
  exact PyProof.Rows.callWith_type hs.any (hs.args hA hT hne hP hJ hR fun vs h₁ tk₁ p₁ s₁ d₁ => k vs h₁ tk₁ p₁ s₁ d₁)

theorem Walks.bound {prog : Program} {w : World} {A : Around} {I : Addr} {fp wr : List Addr} {n : Nat} {P : Nat → Value → Prop} {St : Nat → Heap → Prop} (V : Walks prog w A I fp wr n P St) : Walks prog w A I fp wr n (fun i v => i < n ∧ P i v) St where
  sub := V.sub
  frame := V.frame
  item := fun i s Q E hi st hQ => V.item i s Q E hi st fun v h' tk hP hs hk => hQ v h' tk ⟨hi, hP⟩ hs hk
  done := V.done
  self := V.self

theorem rangeL_len (a st : Int) : ∀ k, (rangeL a st k).length = k
  | 0 => rfl
  | k + 1 => by simp [rangeL, rangeL_len (a + st) st k]
theorem rangeL_get (st : Int) : ∀ (k i : Nat) (a : Int), i < k → (rangeL a st k)[i]? = some (.int (a + i * st))
  | 0, _, _, h => absurd h (by omega)
  | k + 1, 0, a, _ => by simp [rangeL]
  | k + 1, i + 1, a, h => by
    simp only [rangeL, List.getElem?_cons_succ]
    rw [rangeL_get st k i (a + st) (by omega)]
    congr 2
    push_cast
    rw [Int.add_mul]; omega

theorem range_src {A : Around} {s : Shared} {W mu : Addr → Prop} {val : Vals} {Q E : Value → Shared → Prop} {h₁ : Heap} {tk : Nat} {a b st : Int} {t u v : Tok} {r : Addr} (hA : Room A n) (hJ : J c s.heap) (hT : TW c W) (R : Rel c W mu s.heap fi val σ)
    (k : ∀ it h' tk, 0 < tk → Step c s.heap h' → (∀ mu₀ : Addr → Prop, (∀ b, mu₀ b → mu b) → ∃ W₁ Inv, Drawer c A false it (rangeL a st (Builtin.Range.rangeSize a b st).toNat) W mu₀ s.heap Inv ∧ Inv 0 W₁ mu₀ h' ∧ TW c W₁ ∧ Rel c W₁ mu h' fi val σ ∧ ∀ b, W b → W₁ b) → Q it { s with heap := h', toks := tk })
    (s₁ : Step c s.heap h₁) (hp : 0 < tk) (hr : IsRange h₁ r a b st t u v) (hsm : Builtin.Range.small a b st = true) (h0 : 0 ≤ Builtin.Range.rangeSize a b st) :
    wpAny c.M A (pyIter (.ref r)) Q E { s with heap := h₁, toks := tk } := by
  have V := Walks.bound (Walks.range (prog := c.prog) (w := c.w) (A := A) hA.handled h₁.objs.size a st (Builtin.Range.rangeSize a b st).toNat)
  rw [← rangeL_len a st (Builtin.Range.rangeSize a b st).toNat] at V
  refine wpAny_pyIter_range hr hsm (src_one (s := s) hJ hT R k s₁ hp (fun b o e => Heap.get?_push_of_some _ e) V ?_ (fun i h x => ?_) (fun i h x b hb => ?_) (fun b q => ?_) (fun b q nq => absurd q nq) fun i v hv => ?_)
  · show IsRangeIter _ _ _ _ _
    have e := Heap.get?_push_size h₁ (o := { cls := .type "range_iterator", data := .fields #[rawInt a, rawInt (Builtin.Range.rangeSize a b st), rawInt st] }) rfl
    rw [rangeL_len, Int.toNat_of_nonneg h0]
    simpa [IsRangeIter] using e
  · intro y hy
    rw [List.mem_singleton.mp hy]
    exact ⟨_, x⟩
  · rw [List.mem_singleton.mp hb]
    exact nc_at x rfl fun q t e => by simp [rawInt] at e
  · rw [List.mem_singleton.mp q]; exact get_fresh
  · obtain ⟨hi, t', rfl⟩ := hv
    rw [rangeL_len] at hi
    exact ⟨_, rangeL_get st _ i a hi, by unfold Den; exact ⟨_, rfl⟩⟩

theorem src_range1 {x : PySem.Str} {p pos : Pos} {e : Expr} {m : Int} (hg : Glob c x (.type "range")) (hk : fi.env.kindOf x = some .globalImplicit) (he : SoundE c n fi σ e (.int m)) (hns : ∀ a b, e ≠ .Starred a b) (hm : m ≤ 100000) (hm' : -100000 ≤ m) :
    SrcOK c n fi σ (.Call (.Name x p) [e] [] pos) false (rangeL 0 1 m.toNat) :=
  fun A s W mu val Q E hA hP hJ hT hR k => eval_ty hA hP hJ hT hR hg hk (.cons he hns .nil) (by simp) fun vs h₁ tk₁ p₁ s₁ d₁ => by
    obtain ⟨v, rfl, dv⟩ := den1 d₁
    obtain ⟨t, rfl⟩ := den_int dv
    have hsz : Builtin.Range.rangeSize 0 m 1 = (m.toNat : Int) := by
      rw [rangeSize_one]; split <;> omega
    have hz : (Builtin.Range.rangeSize 0 m 1).toNat = m.toNat := by rw [hsz]; exact Int.toNat_natCast _
    rw [← hz] at k
    refine call_range_1 (range_src (s := s) (u := t) hA hJ hT hR k (s₁.trans (Step.push s₁.j _)) (Nat.succ_pos _) (IsRange.new ..) (small_one (by omega) (by omega) (by omega) (by omega)) (by rw [hsz]; omega))

theorem src_range3 {x : PySem.Str} {p pos : Pos} {e₁ e₂ e₃ : Expr} {a b st : Int} (hg : Glob c x (.type "range")) (hk : fi.env.kindOf x = some .globalImplicit) (h1 : SoundE c n fi σ e₁ (.int a)) (h2 : SoundE c n fi σ e₂ (.int b)) (h3 : SoundE c n fi σ e₃ (.int st))
    (n1 : ∀ a b, e₁ ≠ .Starred a b) (n2 : ∀ a b, e₂ ≠ .Starred a b) (n3 : ∀ a b, e₃ ≠ .Starred a b) (ha : 0 ≤ a) (hab : a ≤ b) (hb : b ≤ 100000) (hs0 : 0 < st) (hs1 : st ≤ 100000) :
    SrcOK c n fi σ (.Call (.Name x p) [e₁, e₂, e₃] [] pos) false (rangeL a st ((b - a + st - 1) / st).toNat) :=
  fun A s W mu val Q E hA hP hJ hT hR k => eval_ty hA hP hJ hT hR hg hk (.cons h1 n1 (.cons h2 n2 (.cons h3 n3 .nil))) (by simp) fun vs h₁ tk₁ p₁ s₁ d₁ => by
    obtain ⟨v, r, rfl, dv, d₂⟩ := d₁.out
    obtain ⟨v', u, rfl, dv', du⟩ := den2 d₂
    obtain ⟨t, rfl⟩ := den_int dv
    obtain ⟨t', rfl⟩ := den_int dv'
    obtain ⟨t'', rfl⟩ := den_int du
    have hsz : Builtin.Range.rangeSize a b st = (b - a + st - 1) / st := by
      unfold Builtin.Range.rangeSize
      rw [if_pos hs0]
      split
      · have : b - a + st - 1 = (b - a - 1) + st := by omega
        rw [this, Int.add_ediv_of_dvd_right ⟨1, by omega⟩, Int.ediv_self (by omega)]
      · have : b - a + st - 1 = st - 1 := by omega
        rw [this, Int.ediv_eq_zero_of_lt (by omega) (by omega)]
    have h0 : 0 ≤ (b - a + st - 1) / st := Int.ediv_nonneg (by omega) (by omega)
    have hle : (b - a + st - 1) / st ≤ 300000 := Int.le_trans (Int.ediv_le_self _ (by omega)) (by omega)
    rw [← hsz] at k
    refine call_range_3 (by omega) (range_src (s := s) (t := t) (u := t') (v := t'') hA hJ hT hR k (s₁.trans (Step.push s₁.j _)) p₁ (IsRange.new ..) ?_ (by rw [hsz]; exact h0)) (.inl (PyProof.noPylong_small (by omega)))
    unfold Builtin.Range.small
    rw [hsz]
    have e1 : Builtin.Range.rangeFitsLong a = true := by simp [Builtin.Range.rangeFitsLong]; omega
    have e2 : Builtin.Range.rangeFitsLong b = true := by simp [Builtin.Range.rangeFitsLong]; omega
    have e3 : Builtin.Range.rangeFitsLong st = true := by simp [Builtin.Range.rangeFitsLong]; omega
    have e4 : Builtin.Range.rangeFitsLong ((b - a + st - 1) / st) = true := by simp [Builtin.Range.rangeFitsLong]; omega
    have e5 : Builtin.Range.rangeFitsLong (b + (st - 1)) = true := by simp [Builtin.Range.rangeFitsLong]; omega
    rw [e1, e2, e3, e4, e5]
    simp [hs0]

theorem src_rev {x : PySem.Str} {p pos : Pos} {e : Expr} {l : List PV} (hg : Glob c x (.type "reversed")) (hk : fi.env.kindOf x = some .globalImplicit) (he : SoundE c n fi σ e (.lst l)) (hns : ∀ a b, e ≠ .Starred a b) :
    SrcOK c n fi σ (.Call (.Name x p) [e] [] pos) false l.reverse :=
  fun A s W mu val Q E hA hP hJ hT hR k => eval_ty hA hP hJ hT hR hg hk (.cons he hns .nil) (by simp) fun vs h₁ tk₁ p₁ s₁ d₁ => by
    obtain ⟨v, rfl, dv⟩ := den1 d₁
    obtain ⟨a, us, m, rfl, wa, ga, da⟩ := den_lst dv
    have hlen := da.length
    have hne : a ≠ h₁.objs.size := Nat.ne_of_lt (Heap.lt_size ga)
    have V := Walks.bound (Walks.listRev (prog := c.prog) (w := c.w) (A := A) hA.handled h₁.objs.size a hne us.toArray)
    have hsz : us.toArray.size = l.reverse.length := by simp [hlen]
    rw [hsz] at V
    refine call_reversed_list (isList_of ga) ?_
    have hit : (h₁.push (revObj a ((us.toArray.size : Int) - 1))).IsRevIter h₁.objs.size a ((us.toArray.size : Int) - 1) := ⟨_, Heap.get?_push_size _ rfl, rfl, rfl⟩
    refine wpAny_pyIter_revIter hit (src_one (s := s) hJ hT hR k s₁ p₁ (fun b o e => Heap.get?_push_of_some _ e) V ⟨Nat.zero_le _, by simpa [hsz] using hit, isList_of (Heap.get?_push_of_some _ ga)⟩ (fun i h x => ?_) (fun i h x b hb => ?_) (fun b q => ?_) (fun b q nq => ?_) fun i v hv => ?_)
    · obtain ⟨_, ⟨o1, h1, _⟩, ⟨o2, h2, _⟩⟩ := x
      exact live2 h1 h2
    · obtain ⟨_, ⟨o1, h1, _, hd⟩, _⟩ := x
      rw [List.mem_singleton.mp hb]
      exact nc_at h1 hd fun q t e => by simp [rawInt] at e
    · rw [List.mem_singleton.mp q]; exact get_fresh
    · rcases List.mem_cons.mp q with q | q
      · exact absurd (List.mem_singleton.mpr q) nq
      · rw [List.mem_singleton.mp q]; exact wa
    · obtain ⟨hi, hv⟩ := hv
      have hi' : i < l.reverse.length := hi
      have hlr : l.reverse.length = l.length := by simp
      have e1 : l.reverse[i]? = l[l.length - 1 - i]? := List.getElem?_reverse (by omega)
      have hj : l.length - 1 - i < l.length := by omega
      obtain ⟨u, hu, du⟩ := da.get (List.getElem?_eq_getElem hj)
      have hv' : us[l.reverse.length - 1 - i]? = some v := by simpa using hv
      rw [hlr, hu] at hv'; cases hv'
      exact ⟨_, by rw [e1, List.getElem?_eq_getElem hj], du⟩
theorem enumL_len : ∀ (i : Nat) (l : List PV), (enumL i l).length = l.length
  | _, [] => rfl
  | i, x :: r => by simp [enumL, enumL_len (i + 1) r]
theorem enumL_get : ∀ (k : Nat) (l : List PV) (i : Nat) (p : PV), l[k]? = some p → (enumL i l)[k]? = some (.tup [.int ((i + k : Nat) : Int), p])
  | _, [], _, _, h => by simp at h
  | 0, x :: r, i, p, h => by simp at h; subst h; simp [enumL]
  | k + 1, x :: r, i, p, h => by
    simp only [enumL, List.getElem?_cons_succ]
    rw [enumL_get k r (i + 1) p (by simpa using h)]
    congr 5; omega

theorem size_none {h : Heap} {b : Addr} (q : h.objs.size ≤ b) : h.get? b = none := by
  cases e : h.get? b with
  | none => rfl
  | some o => exact absurd (Heap.lt_size e) (Nat.not_lt.mpr q)

theorem src_enumL {x : PySem.Str} {p pos : Pos} {e : Expr} {l : List PV} (hg : Glob c x (.type "enumerate")) (hk : fi.env.kindOf x = some .globalImplicit) (he : SoundE c n fi σ e (.lst l)) (hns : ∀ a b, e ≠ .Starred a b) :
    SrcOK c n fi σ (.Call (.Name x p) [e] [] pos) true (enumL 0 l) :=
  fun A s W mu val Q E hA hP hJ hT hR k => eval_ty hA hP hJ hT hR hg hk (.cons he hns .nil) (by simp) fun vs h₁ tk₁ p₁ s₁ d₁ => by
    obtain ⟨v, rfl, dv⟩ := den1 d₁
    obtain ⟨a, us, m, rfl, wa, ga, da⟩ := den_lst dv
    have hlen := da.length
    have ha : a < h₁.objs.size := Heap.lt_size ga
    refine call_enumerate_list (isList_of ga) fun h₂ hen hit hsz kk => ?_
    have kk : ∀ b o, h₁.get? b = some o → h₂.get? b = some o := kk
    have V := (WalksT.enumerate (prog := c.prog) (w := c.w) (A := A) hA.handled (h₁.objs.size + 1) h₁.objs.size a (Nat.succ_ne_self _) (Nat.ne_of_lt (Nat.lt_succ_of_lt ha)) (Nat.ne_of_lt ha) us.toArray).toU.bound
    rw [show us.toArray.size = (enumL 0 l).length by simp [hlen, enumL_len]] at V
    refine V.self 0 ⟨h₂, s.gens, s.drawn, tk₁, s.os⟩ Q E ⟨⟨_, hen⟩, hit, isList_of (kk _ _ ga)⟩ (src_two (s := s) hA.handled hJ hT hR k s₁ p₁ kk V ⟨⟨_, hen⟩, hit, isList_of (kk _ _ ga)⟩ (fun i h x => ?_) (fun i h x b hb => ?_) (fun b q => ?_) (fun b q nq => ?_) fun i v hv => ?_)
    · obtain ⟨⟨old, h1⟩, ⟨o2, h2, _⟩, ⟨o3, h3, _⟩⟩ := x
      intro y hy
      rcases List.mem_cons.mp hy with rfl | hy
      · exact ⟨_, h1⟩
      · exact live2 h2 h3 y hy
    · obtain ⟨⟨old, h1⟩, ⟨o2, h2, _, hd⟩, _⟩ := x
      rcases List.mem_cons.mp hb with rfl | hb
      · exact nc_at h1 rfl fun q t e => by simp [rawInt] at e
      · rw [List.mem_singleton.mp hb]
        exact nc_at h2 hd fun q t e => by simp at e
    · rcases List.mem_cons.mp q with rfl | q
      · exact size_none (Nat.le_succ _)
      · rw [List.mem_singleton.mp q]; exact get_fresh
    · have : b = a := by
        rcases List.mem_cons.mp q with rfl | q
        · exact absurd (List.mem_cons_self ..) nq
        rcases List.mem_cons.mp q with rfl | q
        · exact absurd (List.mem_cons_of_mem _ (List.mem_singleton.mpr rfl)) nq
        · exact List.mem_singleton.mp q
      rw [this]; exact wa
    · obtain ⟨hi, t, y, hy, rfl⟩ := hv
      rw [enumL_len] at hi
      obtain ⟨u, hu, du⟩ := da.get (List.getElem?_eq_getElem hi)
      have hv' : us[i]? = some y := by simpa using hy
      rw [hu] at hv'; cases hv'
      exact ⟨.int (i : Int), l[i], .int (i : Int) t, _, by rw [enumL_get i l 0 _ (List.getElem?_eq_getElem hi)]; simp, rfl, by unfold Den; exact ⟨_, rfl⟩, du⟩

theorem src_enumB {x : PySem.Str} {p pos : Pos} {e : Expr} {l : List UInt8} (hg : Glob c x (.type "enumerate")) (hk : fi.env.kindOf x = some .globalImplicit) (he : SoundE c n fi σ e (.bytes l)) (hns : ∀ a b, e ≠ .Starred a b) :
    SrcOK c n fi σ (.Call (.Name x p) [e] [] pos) true (enumL 0 (l.map fun c => .int c.toNat)) :=
  fun A s W mu val Q E hA hP hJ hT hR k => eval_ty hA hP hJ hT hR hg hk (.cons he hns .nil) (by simp) fun vs h₁ tk₁ p₁ s₁ d₁ => by
    obtain ⟨v, rfl, dv⟩ := den1 d₁
    obtain ⟨t, rfl⟩ := den_bytes dv
    refine call_enumerate_bytes fun h₂ hen hit hsz kk => ?_
    have kk : ∀ b o, h₁.get? b = some o → h₂.get? b = some o := kk
    have V := (WalksT.enumerateD (prog := c.prog) (w := c.w) (A := A) (Draws.bytes (A := A.in1) hA.handled h₁.objs.size l.toArray t) (h₁.objs.size + 1) (Nat.succ_ne_self _) (by simp) (by simp)).toU.bound
    rw [show l.toArray.size = (enumL 0 (l.map fun c => PV.int c.toNat)).length by simp [enumL_len]] at V
    refine V.self 0 ⟨h₂, s.gens, s.drawn, tk₁, s.os⟩ Q E ⟨⟨_, hen⟩, hit⟩ (src_two (s := s) hA.handled hJ hT hR k s₁ p₁ kk V ⟨⟨_, hen⟩, hit⟩ (fun i h x => ?_) (fun i h x b hb => ?_) (fun b q => ?_) (fun b q nq => absurd q nq) fun i v hv => ?_)
    · obtain ⟨⟨old, h1⟩, ⟨o2, h2, _⟩⟩ := x
      exact live2 h1 h2
    · obtain ⟨⟨old, h1⟩, ⟨o2, h2, _, hd⟩⟩ := x
      rcases List.mem_cons.mp hb with rfl | hb
      · exact nc_at h1 rfl fun q t e => by simp [rawInt] at e
      · rw [List.mem_singleton.mp hb]
        exact nc_at h2 hd fun q t e => by simp at e
    · rcases List.mem_cons.mp q with rfl | q
      · exact size_none (Nat.le_succ _)
      · rw [List.mem_singleton.mp q]; exact get_fresh
    · obtain ⟨hi, tt, y, ⟨cc, u, hc, rfl⟩, rfl⟩ := hv
      rw [enumL_len, List.length_map] at hi
      have hc' : l[i]? = some cc := by simpa using hc
      exact ⟨.int (i : Int), .int cc.toNat, .int (i : Int) tt, _, by rw [enumL_get i _ 0 (.int cc.toNat) (by simp [hc'])]; simp, rfl, by unfold Den; exact ⟨_, rfl⟩, by unfold Den; exact ⟨_, rfl⟩⟩

theorem denL_at {h : Heap} {W : Addr → Prop} {ps : List PV} {vs : List Value} (d : DenL h W ps vs) {i : Nat} {v : Value} (e : vs[i]? = some v) : ∃ p, ps[i]? = some p ∧ Den h W p v := by
  have hl := d.length
  have hi : i < ps.length := by
    obtain ⟨q, _⟩ := List.getElem?_eq_some_iff.mp e
    omega
  obtain ⟨u, hu, du⟩ := d.get (List.getElem?_eq_getElem hi)
  rw [hu] at e; cases e
  exact ⟨_, List.getElem?_eq_getElem hi, du⟩

/-- a list of pairs -/
noncomputable def pair2 (p : PV) : Bool := match p with | .tup l => l.length == 2 | _ => false
noncomputable def pairs (l : List PV) : Bool := l.all pair2
theorem pair2_out {p : PV} (h : pair2 p = true) : ∃ a b, p = .tup [a, b] := by
  cases p with
  | tup l => exact match l, h with | [a, b], _ => ⟨a, b, rfl⟩
  | _ => cases h
theorem pairs_get {l : List PV} {i : Nat} {p : PV} (h : pairs l = true) (e : l[i]? = some p) : ∃ a b, p = .tup [a, b] := pair2_out (List.all_eq_true.mp h p (List.mem_of_getElem? e))

theorem src_pairs {e : Expr} {l : List PV} (he : SoundE c n fi σ e (.lst l)) (hp : pairs l = true) : SrcOK c n fi σ e true l :=
  fun A s W mu val Q E hA hP hJ hT hR k => he A s W mu val _ _ hA hP hJ hT hR fun v h₁ tk₁ p₁ s₁ d₁ => by
    obtain ⟨a, vs, m, rfl, wa, ga, da⟩ := den_lst d₁
    have hlen := da.length
    have hne : a ≠ h₁.objs.size := Nat.ne_of_lt (Heap.lt_size ga)
    have tup : ∀ j, j < vs.toArray.size → ∃ T u w m, vs[j]? = some (.ref T) ∧ ¬ W T ∧ h₁.get? T = some (tupO [u, w] m) ∧ ∃ p q, l[j]? = some (.tup [p, q]) ∧ Den h₁ W p u ∧ Den h₁ W q w := fun j hj => by
      have hj' : j < l.length := by simp at hj; omega
      obtain ⟨u, hu, du⟩ := da.get (List.getElem?_eq_getElem hj')
      obtain ⟨p, q, hpq⟩ := pairs_get hp (List.getElem?_eq_getElem hj')
      rw [hpq] at du
      obtain ⟨T, us, m', rfl, wT, gT, dT⟩ := den_tup du
      obtain ⟨x, y, rfl, dx, dy⟩ := den2 dT
      exact ⟨T, x, y, m', hu, wT, gT, p, q, by rw [List.getElem?_eq_getElem hj', hpq], dx, dy⟩
    let Ts : Nat → Addr := fun j => if hj : j < vs.toArray.size then (tup j hj).choose else 0
    let vals : Nat → Array Value := fun j => if hj : j < vs.toArray.size then #[(tup j hj).choose_spec.choose, (tup j hj).choose_spec.choose_spec.choose] else #[]
    have sp : ∀ j (hj : j < vs.toArray.size), ∃ u w m, vals j = #[u, w] ∧ vs[j]? = some (.ref (Ts j)) ∧ ¬ W (Ts j) ∧ h₁.get? (Ts j) = some (tupO [u, w] m) ∧ ∃ p q, l[j]? = some (.tup [p, q]) ∧ Den h₁ W p u ∧ Den h₁ W q w := fun j hj => by
      obtain ⟨m', x⟩ := (tup j hj).choose_spec.choose_spec.choose_spec
      exact ⟨_, _, m', by simp only [vals, dif_pos hj], by simpa only [Ts, dif_pos hj] using x.1, by simpa only [Ts, dif_pos hj] using x.2.1, by simpa only [Ts, dif_pos hj] using x.2.2.1, x.2.2.2⟩
    have V := (WalksU.listOfTuples (prog := c.prog) (w := c.w) (A := A) hA.handled h₁.objs.size a hne vs.toArray Ts vals (fun j hj => by obtain ⟨_, _, _, _, e, _⟩ := sp j hj; simpa using e) (fun j hj => by
      obtain ⟨_, _, _, _, _, _, e, _⟩ := sp j hj
      exact Nat.ne_of_lt (Heap.lt_size e))).bound
    have hsz : vs.toArray.size = l.length := by simp [hlen]
    have tupS : ∀ k, k < vs.toArray.size → (h₁.push { cls := .type "list_iterator", data := .fields #[.ref a, .int 0 0] }).IsTuple (Ts k) (vals k) := fun k hk => by
      obtain ⟨u, w, m', e1, _, _, e, _⟩ := sp k hk
      exact ⟨_, Heap.get?_push_of_some _ e, rfl, m', by rw [e1]⟩
    rw [hsz] at V tupS
    refine wpAny_pyIter_list (isList_of ga) (src_two (s := s) hA.handled hJ hT hR k s₁ p₁ (fun b o e => Heap.get?_push_of_some _ e) V ⟨⟨_, Heap.get?_push_size _ rfl, rfl, rfl⟩, isList_of (Heap.get?_push_of_some _ ga), tupS⟩ (fun i h x => ?_) (fun i h x b hb => ?_) (fun b q => ?_) (fun b q nq => ?_) fun i v hv => ?_)
    · obtain ⟨⟨o1, h1, _⟩, ⟨o2, h2, _⟩, h3⟩ := x
      intro y hy
      rcases List.mem_cons.mp hy with rfl | hy
      · exact ⟨_, h1⟩
      rcases List.mem_cons.mp hy with rfl | hy
      · exact ⟨_, h2⟩
      · obtain ⟨k, hk, rfl⟩ := List.mem_map.mp hy
        obtain ⟨o, ho, _⟩ := h3 k (List.mem_range.mp hk)
        exact ⟨o, ho⟩
    · obtain ⟨⟨o1, h1, _, hd⟩, _⟩ := x
      rw [List.mem_singleton.mp hb]
      exact nc_at h1 hd fun q t e => by simp at e
    · rw [List.mem_singleton.mp q]; exact get_fresh
    · rcases List.mem_cons.mp q with q | q
      · exact absurd (List.mem_singleton.mpr q) nq
      rcases List.mem_cons.mp q with q | q
      · rw [q]; exact wa
      · obtain ⟨k, hk, rfl⟩ := List.mem_map.mp q
        obtain ⟨_, _, _, _, _, e, _⟩ := sp k (by rw [hsz]; exact List.mem_range.mp hk)
        exact e
    · obtain ⟨hi, rfl⟩ := hv
      obtain ⟨u, w, m', e1, _, _, _, p, q, e2, d1, d2⟩ := sp i (by rw [hsz]; exact hi)
      exact ⟨p, q, u, w, e2, e1, d1, d2⟩

end Mine
end

section
open PySem PySem.W PyProof.Rows
set_option Elab.async false
set_option linter.unusedVariables false
namespace Mine

variable {c : Cx} {n : Nat} {fi : FI} {σ : Sg}

inductive CellB (h : Heap) (W : Addr → Prop) (f : Tok → Int) (tk : Nat) (p : Int × Int) : Value → Prop where
  | mk (b : Addr) (m : Nat) (t u : Tok) (hw : ¬ W b) (hg : h.get? b = some (tupO [.int p.1 t, .int p.2 u] m)) (ht : t ≠ 0) (hu : u ≠ 0) (h1 : f t = p.1) (h2 : f u = p.2) (l1 : t < tk) (l2 : u < tk) : CellB h W f tk p (.ref b)
inductive CellT (h : Heap) (W : Addr → Prop) (f : Tok → Int) (tk : Nat) : List (Int × Int) → List Value → Prop where
  | nil : CellT h W f tk [] []
  | cons {p : Int × Int} {v : Value} {ps : List (Int × Int)} {r : List Value} : CellB h W f tk p v → CellT h W f tk ps r → CellT h W f tk (p :: ps) (v :: r)
theorem CellB.keeps {W W' : Addr → Prop} {h h' : Heap} {f f' : Tok → Int} {tk tk' : Nat} (k : Keeps W h W' h') (hf : ∀ t, t < tk → f' t = f t) (hle : tk ≤ tk') {p : Int × Int} {v : Value} : CellB h W f tk p v → CellB h' W' f' tk' p v
  | ⟨b, m, t, u, hw, hg, ht, hu, h1, h2, l1, l2⟩ => ⟨b, m, t, u, fun q => hw (k.wl _ _ hg q), k.get _ _ hg hw, ht, hu, (hf t l1).trans h1, (hf u l2).trans h2, Nat.lt_of_lt_of_le l1 hle, Nat.lt_of_lt_of_le l2 hle⟩
theorem CellB.cell {W : Addr → Prop} {h : Heap} {f : Tok → Int} {tk : Nat} {p : Int × Int} {v : Value} : CellB h W f tk p v → CellA h W f p v
  | ⟨b, m, t, u, hw, hg, ht, hu, h1, h2, _, _⟩ => ⟨b, m, t, u, hw, hg, ht, hu, h1, h2⟩
theorem CellT.keeps {W W' : Addr → Prop} {h h' : Heap} {f f' : Tok → Int} {tk tk' : Nat} (k : Keeps W h W' h') (hf : ∀ t, t < tk → f' t = f t) (hle : tk ≤ tk') {ps : List (Int × Int)} {vs : List Value} (x : CellT h W f tk ps vs) : CellT h' W' f' tk' ps vs := by
  induction x with
  | nil => exact .nil
  | cons a _ ih => exact .cons (a.keeps k hf hle) ih
theorem CellT.cells {W : Addr → Prop} {h : Heap} {f : Tok → Int} {tk : Nat} {ps : List (Int × Int)} {vs : List Value} (x : CellT h W f tk ps vs) : CellL h W f ps vs := by
  induction x with
  | nil => exact .nil
  | cons a _ ih => exact .cons a.cell ih
theorem CellT.snoc {W : Addr → Prop} {h : Heap} {f : Tok → Int} {tk : Nat} {p : Int × Int} {v : Value} (y : CellB h W f tk p v) {ps : List (Int × Int)} {vs : List Value} (x : CellT h W f tk ps vs) : CellT h W f tk (ps ++ [p]) (vs ++ [v]) := by
  induction x with
  | nil => exact .cons y .nil
  | cons a _ ih => exact .cons a ih

theorem pairsOf_len : ∀ (k : Nat) (l : List UInt8), l.length = 2 * k → (pairsOf l).length = k
  | 0, l, h => by rw [List.length_eq_zero_iff.mp h]; rfl
  | k + 1, a :: b :: r, h => by simp only [pairsOf, List.length_cons]; rw [pairsOf_len k r (by simp at h; omega)]
  | k + 1, [], h => by simp at h
  | k + 1, [_], h => by simp at h; omega
theorem pairsOf_get : ∀ (k : Nat) (l : List UInt8) (j : Nat), l.length = 2 * k → j < k → (pairsOf l)[j]? = some (((l.getD (2 * j) 0).toNat : Int), ((l.getD (2 * j + 1) 0).toNat : Int))
  | 0, _, _, _, h => absurd h (by omega)
  | k + 1, [], _, h, _ => by simp at h
  | k + 1, [_], _, h, _ => by simp at h; omega
  | k + 1, a :: b :: r, 0, h, _ => by simp [pairsOf]
  | k + 1, a :: b :: r, j + 1, h, hj => by
    simp only [pairsOf, List.getElem?_cons_succ]
    rw [pairsOf_get k r j (by simp at h; omega) (by omega)]
    rw [show 2 * (j + 1) = 2 * j + 1 + 1 by omega]
    simp [List.getD_cons_succ]

/-- an octet of a row: its token is new -/
theorem row_item {A : Around} {s : Shared} {W mu : Addr → Prop} {val : Vals} {Q E : Value → Shared → Prop} {e ix : Expr} {q : Pos} {l : List UInt8} {i : Int} (eR : SoundE c n fi σ e (.bytes l)) (eI : SoundE c n fi σ ix (.int i)) (hs : ∀ a b p, ix ≠ .Slice a b none p) (h0 : 0 ≤ i) (h1 : i < l.length) (hf : l.length ≤ 100000)
    (hA : Room A n) (hP : 0 < s.toks) (hJ : J c s.heap) (hT : TW c W) (hR : Rel c W mu s.heap fi val σ)
    (k : ∀ h' t, s.toks ≤ t → 0 < t → Step c s.heap h' → Q (.int (l.getD i.toNat 0).toNat t) { s with heap := h', toks := t + 1 }) : wpAny c.M A (eval (.Subscript e ix q) fi.env) Q E s := by
  refine Subscript_ ?_
  refine wpAny_with_toks (n := s.toks) (Nat.le_refl _) ?_
  refine wpAny_mono (eR A s W mu val (fun v s₁ => ∃ h₁ tk₁, s₁ = { s with heap := h₁, toks := tk₁ } ∧ 0 < tk₁ ∧ Step c s.heap h₁ ∧ Den h₁ W (.bytes l) v) (fun _ _ => False) hA hP hJ hT hR fun v₁ h₁ tk₁ p₁ s₁ d₁ => ⟨h₁, tk₁, rfl, p₁, s₁, d₁⟩) (fun v s₁ x le => ?_) fun _ _ e => e.elim
  obtain ⟨h₁, tk₁, rfl, p₁, s₁, d₁⟩ := x
  refine wpAny_with_toks (n := tk₁) (Nat.le_refl _) ?_
  refine wpAny_mono (eI A ⟨h₁, s.gens, s.drawn, tk₁, s.os⟩ W mu val (fun v s₁ => ∃ h₂ tk₂, s₁ = { s with heap := h₂, toks := tk₂ } ∧ 0 < tk₂ ∧ Step c h₁ h₂ ∧ Den h₂ W (.int i) v) (fun _ _ => False) hA p₁ s₁.j hT (hR.step hT s₁) fun v₂ h₂ tk₂ p₂ s₂ d₂ => ⟨h₂, tk₂, rfl, p₂, s₂, d₂⟩) (fun v s₁ x le₂ => ?_) fun _ _ e => e.elim
  obtain ⟨h₂, tk₂, rfl, p₂, s₂, d₂⟩ := x
  obtain ⟨u, rfl⟩ := den_int d₂
  obtain ⟨t, rfl⟩ := den_bytes d₁
  exact tail_item (typeIs_bytes _ _ t) FB.slot_bytes_getitem.lookup (getItem_bytes (by omega) h0 h1 (k h₂ tk₂ (Nat.le_trans le le₂) p₂ (s₁.trans s₂))) hs

theorem cells_to {scope : Scope} {cl : List (PySem.Str × Addr)} {nt₂ : List PySem.Str} {caps : List Nat} {xr xs : PySem.Str} {q₁ q₂ q₃ q₄ q₅ q₆ q₇ q₈ q₉ : Pos} {k₁ k₂ m : Nat} {l : List UInt8}
    (hlen : l.length = 2 * m) (hf : l.length ≤ 100000) (h0 : nt₂[0]? = some xs) (h1 : nt₂[1]? = some xr) (hσ : (sgC 1 σ caps)[1]? = some (some (.im (.bytes l)))) :
    CompTo c n fi scope cl nt₂ caps 1 σ (.Tuple [.Subscript (.Name xr q₁) (.Name xs q₂) q₃, .Subscript (.Name xr q₄) (.BinOp (.Name xs q₅) .Add (.Constant (.int 1) k₁ q₆) q₇) q₈] k₂ q₉) (.one 0) (rangeL 0 2 m) (.cells (pairsOf l))
      (fun W h tk j vs => j ≤ m ∧ ∃ f, CellT h W f tk ((pairsOf l).take j) vs) where
  acc := {
    zero := fun W h tk => ⟨Nat.zero_le _, fun _ => 0, by rw [List.take_zero]; exact .nil⟩
    keep := fun W W' h h' tk tk' j vs k le d => ⟨d.1, d.2.choose, d.2.choose_spec.keeps k (fun _ _ => rfl) le⟩
    len := fun W h tk j vs d => by
      have := d.2.choose_spec.cells.length
      rw [List.length_take, pairsOf_len m l hlen] at this
      have := d.1
      omega }
  bind := fun j p hj => ⟨_, rfl⟩
  turn := fun C j p σ' A s W mu val vs Q E hj hb hA hP hJ hT hR d k => by
    obtain ⟨hjm, f, d⟩ := d
    have hb : (sgC 1 σ _).set 0 (some (.im p)) = σ' := Option.some.inj hb
    have hjlt : j < m := by
      obtain ⟨q, _⟩ := List.getElem?_eq_some_iff.mp hj
      rwa [rangeL_len] at q
    rw [rangeL_get 2 m j 0 hjlt] at hj
    cases hj
    have hs0 : σ'[0]? = some (some (.im (.int (0 + (j : Int) * 2)))) := by
      rw [← hb, List.getElem?_set_self]
      obtain ⟨q, _⟩ := List.getElem?_eq_some_iff.mp hσ
      omega
    have hs1 : σ'[1]? = some (some (.im (.bytes l))) := by
      rw [← hb, List.getElem?_set_ne (by decide)]; exact hσ
    have eR : ∀ q, SoundE c n (fiC fi scope cl nt₂ caps 1 C) σ' (.Name xr q) (.bytes l) := fun q => sound_var h1 hs1
    have eS : ∀ q, SoundE c n (fiC fi scope cl nt₂ caps 1 C) σ' (.Name xs q) (.int (0 + (j : Int) * 2)) := fun q => sound_var h0 hs0
    have eT : SoundE c n (fiC fi scope cl nt₂ caps 1 C) σ' (.BinOp (.Name xs q₅) .Add (.Constant (.int 1) k₁ q₆) q₇) (.int (0 + (j : Int) * 2 + 1)) := sound_bin (op := .Add) (eS q₅) sound_int (val2_bin (op := .add) rfl)
    have hsl : ∀ (x : PySem.Str) q (a b : Option Expr) p, Expr.Name x q ≠ .Slice a b none p := fun _ _ _ _ _ e => by cases e
    have hsl' : ∀ (x y : Expr) o q (a b : Option Expr) p, Expr.BinOp x o y q ≠ .Slice a b none p := fun _ _ _ _ _ _ _ e => by cases e
    have b0 : 0 ≤ 0 + (j : Int) * 2 := by omega
    have b1 : 0 + (j : Int) * 2 < l.length := by omega
    have b2 : 0 + (j : Int) * 2 + 1 < l.length := by omega
    refine Tuple_ ?_
    refine Calls.spliced_cons (row_item (eR q₁) (eS q₂) (hsl _ _) b0 b1 hf hA hP hJ hT hR fun h₁ t₁ le₁ p₁ s₁ => ?_)
    refine Calls.spliced_cons (row_item (s := ⟨h₁, s.gens, s.drawn, t₁ + 1, s.os⟩) (eR q₄) eT (hsl' _ _ _ _) (by omega) b2 hf hA (Nat.succ_pos _) s₁.j hT (hR.step hT s₁) fun h₂ t₂ le₂ p₂ s₂ => Calls.spliced_nil ?_)
    have le₂ : t₁ + 1 ≤ t₂ := le₂
    refine wpAny_newTuple ?_ (by show 2 ≤ sizeLine; rw [sizeLine_eq]; decide)
    have hst := s₁.trans s₂
    have hw := WEx.step hR.wex hst
    have hpair : (pairsOf l)[j]? = some (((l.getD (2 * j) 0).toNat : Int), ((l.getD (2 * j + 1) 0).toNat : Int)) := pairsOf_get m l j hlen hjlt
    have e1 : (0 + (j : Int) * 2).toNat = 2 * j := by omega
    have e2 : (0 + (j : Int) * 2 + 1).toNat = 2 * j + 1 := by omega
    rw [e1, e2]
    refine k _ _ (t₂ + 1) (Nat.succ_pos _) (Nat.le_succ_of_le (Nat.le_trans le₁ (Nat.le_of_succ_le le₂))) (hst.trans (Step.push s₂.j _)) ⟨hjlt, fun z => if z = t₁ then ((l.getD (2 * j) 0).toNat : Int) else if z = t₂ then ((l.getD (2 * j + 1) 0).toNat : Int) else f z, ?_⟩
    rw [List.take_add_one, hpair]
    refine CellT.snoc (p := (((l.getD (2 * j) 0).toNat : Int), ((l.getD (2 * j + 1) 0).toNat : Int))) ?_ (d.keeps (W' := W) (tk' := t₂ + 1) ⟨fun b o e nw => Heap.get?_push_of_some _ (hst.kept b o e fun q => nw (hT b q)), fun _ _ _ q => q⟩ (fun t ht => ?_) (Nat.le_succ_of_le (Nat.le_trans le₁ (Nat.le_of_succ_le le₂))))
    · refine ⟨h₂.objs.size, 0, t₁, t₂, hw.fresh, Heap.get?_push_size _ rfl, Nat.ne_of_gt p₁, Nat.ne_of_gt p₂, by simp, ?_, (by show t₁ < t₂ + 1; exact Nat.lt_of_lt_of_le (Nat.lt_succ_self _) (Nat.le_succ_of_le le₂)), Nat.lt_succ_self _⟩
      have : t₂ ≠ t₁ := Nat.ne_of_gt le₂
      simp [this]
    · have h1 : t ≠ t₁ := Nat.ne_of_lt (Nat.lt_of_lt_of_le ht le₁)
      have h2 : t ≠ t₂ := Nat.ne_of_lt (Nat.lt_of_lt_of_le ht (Nat.le_trans le₁ (Nat.le_of_succ_le le₂)))
      simp [h1, h2]
  res := fun W h tk D vs m' hD hg d => by
    obtain ⟨_, f, d⟩ := d
    unfold Den
    rw [rangeL_len, List.take_of_length_le (by rw [pairsOf_len m l hlen]; exact Nat.le_refl _)] at d
    exact ⟨D, vs, m', f, rfl, hD, hg, d.cells⟩
end Mine
end

section
open PySem PySem.W PyProof.Rows
open Sem (wp)
set_option Elab.async false
set_option linter.unusedVariables false
namespace Mine

/-- a frame of a decoder, which may hold a bytearray -/
noncomputable def decoder : Code → Bool
  | .builtin id _ => Builtin.Bytes.decodersThatHold.contains id
  | _ => false
/-- no decoder's frame stands anywhere below -/
noncomputable def Clean (Γ : Ctx) : Prop := decoder Γ.code = false ∧ ∀ x ∈ Γ.below, decoder x.1 = false

noncomputable def wpC {α : Type} (M : Model) (A : Around) (t : Sem α) (Q : α → Shared → Prop) (E : Value → Shared → Prop) (s : Shared) : Prop :=
  ∀ Γ p, Γ.In A → Clean Γ → wp M Γ t (fun a _ s' => Q a s') (fun e _ s' => E e s') p s
noncomputable def codeC (M : Model) (A : Around) (c : Code) (R : Result → Shared → Prop) (s : Shared) : Prop :=
  ∀ Γ p, Γ.code = c → Γ.Below A → Clean Γ → wpCode M Γ R p s

section
variable {α β : Type} {M : Model} {A : Around} {E : Value → Shared → Prop} {s : Shared}

theorem wpC.of {t : Sem α} {Q : α → Shared → Prop} (h : wpAny M A t Q E s) : wpC M A t Q E s := fun Γ p hΓ _ => h Γ p hΓ
theorem codeC.of {c : Code} {R : Result → Shared → Prop} (h : codeAny M A c R s) : codeC M A c R s := fun Γ p hc hΓ _ => h Γ p hc hΓ
theorem wpC_mono {t : Sem α} {Q Q' : α → Shared → Prop} {E' : Value → Shared → Prop} (h : wpC M A t Q E s) (hQ : ∀ a s, Q a s → Q' a s) (hE : ∀ e s, E e s → E' e s) : wpC M A t Q' E' s :=
  fun Γ p hΓ hC => Sem.wp_mono M Γ t (fun a _ s => hQ a s) (fun e _ s => hE e s) p s (h Γ p hΓ hC)
theorem wpC_bind {m : Sem α} {f : α → Sem β} {Q : β → Shared → Prop} (h : wpC M A m (fun a s' => wpC M A (f a) Q E s') E s) : wpC M A (m >>= f) Q E s := fun Γ p hΓ hC => by
  rw [Sem.wp_bind']
  exact Sem.wp_mono M Γ m (fun a p' s' h' => h' Γ p' hΓ hC) (fun _ _ _ h' => h') p s (h Γ p hΓ hC)
/-- the first part anywhere -/
theorem wpC_bindA {m : Sem α} {f : α → Sem β} {Q : β → Shared → Prop} (h : wpAny M A m (fun a s' => wpC M A (f a) Q E s') E s) : wpC M A (m >>= f) Q E s := wpC_bind (.of h)
/-- the second part anywhere -/
theorem wpC_bindB {m : Sem α} {f : α → Sem β} {Q : β → Shared → Prop} (h : wpC M A m (fun a s' => wpAny M A (f a) Q E s') E s) : wpC M A (m >>= f) Q E s := wpC_bind (wpC_mono h (fun _ _ x => .of x) fun _ _ x => x)
theorem wpC_pure {a : α} {Q : α → Shared → Prop} (h : Q a s) : wpC M A (pure a) Q E s := .of (wpAny_pure h)
theorem wpC_holding {vs : List Value} {m : Sem α} {Q : α → Shared → Prop} (h : wpC M A m Q E s) : wpC M A (holding vs m) Q E s :=
  fun Γ p hΓ hC => by rw [Sem.wp_holding]; exact h Γ p hΓ hC
theorem wpC_onRaise {m : Sem α} {k : Value → Sem Unit} {Q : α → Shared → Prop} (h : wpC M A m Q (fun e s' => wpAny M A (k e) (fun _ s'' => E e s'') E s') s) : wpC M A (m.onRaise k) Q E s := fun Γ p hΓ hC => by
  rw [Sem.wp_onRaise]
  exact Sem.wp_mono M Γ m (fun _ _ _ h' => h') (fun e p' s' h' => h' Γ p' hΓ) p s (h Γ p hΓ hC)
theorem wpC_of_eq {t : Sem α} {a : α} {Q : α → Shared → Prop} (e : t = pure a) (h : Q a s) : wpC M A t Q E s := e ▸ wpC_pure h

theorem Clean.enter {Γ : Ctx} {c : Code} {hd : Option Value} {p : Pos} (h : Clean Γ) (hc : decoder c = false) : Clean (Γ.enter c hd p) :=
  ⟨hc, fun x hx => by
    rcases List.mem_cons.mp hx with rfl | hx
    · exact h.1
    · exact h.2 x hx⟩
theorem Clean.goto {Γ : Ctx} {c : Code} (h : Clean Γ) (hc : decoder c = false) : Clean (Γ.goto c) := ⟨hc, h.2⟩

theorem wpC_runValue {c : Code} {Q : Value → Shared → Prop} (hd : decoder c = false)
    (hc : codeC M A c (fun r s' => match r with | .ok (.ret v) => Q v s' | .ok _ => False | .error e => E e s') s) : wpC M A (runValue c) Q E s :=
  fun Γ p hΓ hC => by rw [Sem.wp_runValue]; exact hc _ p rfl (hΓ.enter c none p (by intro x; cases x)) (hC.enter hd)
theorem wpC_call {f : Value} {pos : List Value} {kw : List (PySem.Str × Value)} {Q : Value → Shared → Prop}
    (hc : codeC M A (.call f ⟨pos, kw⟩) (fun r s' => match r with | .ok (.ret v) => Q v s' | .ok _ => False | .error e => E e s') s) : wpC M A (call f pos kw) Q E s := wpC_runValue rfl hc
theorem wpC_run {c : Code} {h : Option Value} {Q : Flow → Shared → Prop} (hd : decoder c = false)
    (hc : codeC M (A.mark h) c (fun r s' => match r with | .ok f => Q f s' | .error e => E e s') s) (hnb : h ≠ some byPass) : wpC M A (PySem.run c h) Q E s :=
  fun Γ p hΓ hC => by rw [Sem.wp_run]; exact hc _ p rfl (hΓ.enter c h p hnb) (hC.enter hd)
theorem codeC_mono {c : Code} {R R' : Result → Shared → Prop} (h : codeC M A c R s) (hR : ∀ r s, R r s → R' r s) : codeC M A c R' s :=
  fun Γ p hc hΓ hC => wpCode_mono hR (h Γ p hc hΓ hC)
theorem codeC_of_tree {c : Code} {R : Result → Shared → Prop}
    (h : wpC M (A.under c) (M.den c) (fun fin s' => match fin with | .done f => R (.ok f) s' | .again c' => c'.quiet = true ∧ decoder c' = false ∧ codeC M A c' R s') (fun e s' => R (.error e) s') s) : codeC M A c R s := fun Γ p hc hΓ hC => by
  rw [wpCode_iff_wp, hc]
  refine Sem.wp_mono M Γ _ (fun fin p' s' h' => ?_) (fun _ _ _ h' => h') p s (h Γ p (hc ▸ hΓ.in) hC)
  cases fin with
  | done f => exact h'
  | again c' => exact ⟨h'.1, h'.2.2 (Γ.goto c') p' rfl (hΓ.goto c') (hC.goto h'.2.1)⟩
theorem codeC_loop {c : Code} {R : Result → Shared → Prop} (hq : c.quiet = true) (hd : decoder c = false) (I : Nat → Shared → Prop)
    (turn : ∀ n s, I n s → wpC M (A.under c) (M.den c) (fun fin s' => match fin with | .done f => R (.ok f) s' | .again c' => (c' = c ∧ ∃ m, m < n ∧ I m s') ∨ (c'.quiet = true ∧ decoder c' = false ∧ codeC M A c' R s')) (fun e s' => R (.error e) s') s)
    (n : Nat) (h : I n s) : codeC M A c R s := by
  induction n using Nat.strongRecOn generalizing s with
  | ind n ih =>
    refine codeC_of_tree (wpC_mono (turn n s h) (fun fin s' hf => ?_) fun _ _ h' => h')
    cases fin with
    | done f => exact hf
    | again c' =>
      rcases hf with ⟨rfl, m, hm, hI⟩ | hf
      · exact ⟨hq, hd, ih m hm hI⟩
      · exact hf

theorem guard_ne {id x : String} {args : Args} (h : (Code.builtin id args).isGuard = false) (hx : guardIds.contains x = true) : id ≠ x := fun e => by
  subst e
  exact Bool.noConfusion (hx.symm.trans h)
theorem clean_at (self : Value) (x : Code × Pos) (h1 : x.1.isGuard = false) (h2 : decoder x.1 = false) :
    Builtin.Bytes.exported.match_1 (fun _ => Bool) x (fun v _ _ _ => Builtin.Bytes.sameRef v self) (fun v _ _ _ => Builtin.Bytes.sameRef v self) (fun _ v _ _ _ => Builtin.Bytes.sameRef v self) (fun v _ _ _ => Builtin.Bytes.sameRef v self)
      (fun _ _ held _ _ => held.any (Builtin.Bytes.sameRef self)) (fun id v _ _ _ => Builtin.Bytes.sameRef v self && Builtin.Bytes.decodersThatHold.contains id) (fun _ => false) = false := by
  obtain ⟨c, q⟩ := x
  delta Builtin.Bytes.exported.match_1
  cases c with
  | builtin id args =>
    refine (dif_neg (guard_ne h1 rfl)).trans ((dif_neg (guard_ne h1 rfl)).trans ((dif_neg (guard_ne h1 rfl)).trans ((dif_neg (guard_ne h1 rfl)).trans ((dif_neg (guard_ne h1 rfl)).trans ?_))))
    obtain ⟨pos, kw⟩ := args
    cases pos with
    | nil => rfl
    | cons v r => exact (congrArg (Builtin.Bytes.sameRef v self && ·) h2).trans (Bool.and_false _)
  | _ => rfl
/-- what the stack says of a holder, where the context is clean -/
theorem exported_clean {a : Addr} {Q : Bool → Shared → Prop} (hg : A.guards = some []) (h : Q false s) : wpC M A (Builtin.Bytes.exported (.ref a)) Q E s := fun Γ p hΓ hC => by
  have hl : ∀ x ∈ (Γ.code, p) :: Γ.below, x.1.isGuard = false ∧ decoder x.1 = false := fun x hx => by
    have h1 : guardsOf ((Γ.code, p) :: Γ.below) = [] := by rw [guardsOf_cons]; exact hΓ.2.2.2.1 [] hg
    refine ⟨?_, ?_⟩
    · cases hq : x.1.isGuard with
      | false => rfl
      | true =>
        have : x.1 ∈ guardsOf ((Γ.code, p) :: Γ.below) := List.mem_filter.mpr ⟨List.mem_map_of_mem hx, hq⟩
        rw [h1] at this; cases this
    · rcases List.mem_cons.mp hx with rfl | hx
      · exact hC.1
      · exact hC.2 x hx
  have e : List.any ((Γ.code, p) :: Γ.below) _ = false := List.any_eq_false.mpr fun x hx => Bool.eq_false_iff.mp (clean_at (.ref a) x (hl x hx).1 (hl x hx).2)
  unfold Builtin.Bytes.exported
  refine (?_ : Q (List.any ((Γ.code, p) :: Γ.below) _) s)
  rw [e]
  exact h
end
end Mine
end

section
open PySem PySem.W PyProof.Rows
open Sem (wp)
set_option Elab.async false
set_option linter.unusedVariables false
set_option maxRecDepth 100000
namespace Mine

section
variable {prog : Program} {w : World} {A : Around} {E : Value → Shared → Prop} {s : Shared} {R : Result → Shared → Prop}

theorem codeC_builtin {id : String} {args : Args} {b : Builtin} (hb : entryFor table id = some b)
    (h : wpC (model prog w) (A.under (.builtin id args)) (b args) (fun fin s' => match fin with | .done f => R (.ok f) s' | .again c' => c'.quiet = true ∧ decoder c' = false ∧ codeC (model prog w) A c' R s') (fun e s' => R (.error e) s') s) :
    codeC (model prog w) A (.builtin id args) R s := by
  refine codeC_of_tree ?_
  show wpC _ _ (match entryFor table id with | some b => b args | none => unsupported ((withoutEnding? id "#data").getD id)) _ _ s
  rw [hb]; exact h
theorem codeC_call_builtin {id : String} {args : Args} {b : Builtin} (hp : plainId id = true) (hd : decoder (.builtin id args) = false) (hb : entryFor table id = some b)
    (h : wpAny (model prog w) A.in1 (checkBuiltinCall id args) (fun _ s₁ => wpC (model prog w) A.in1 (b args) (fun fin s' => match fin with | .done f => R (.ok f) s' | .again c' => c'.quiet = true ∧ decoder c' = false ∧ codeC (model prog w) A c' R s') (fun e s' => R (.error e) s') s₁) (fun e s' => R (.error e) s') s) :
    codeC (model prog w) A (.call (.builtin id) args) R s := by
  refine codeC_of_tree ?_
  show wpC _ A.in1 (do checkBuiltinCall id args; again (.builtin id args)) _ _ s
  refine wpC_bindA (wpAny_mono h (fun _ s₁ h₁ => wpC_pure ⟨plainId_quiet hp _, hd, codeC_builtin hb ?_⟩) fun _ _ e => e)
  rw [Around.under_plainId hp _]
  exact h₁
end

theorem slot_ba_init : Slot "bytearray" "__init__" "bytearray.__init__" :=
  .of (owner := "bytearray") (n := "__init__") (by rw [typeLookup_type, builtinLookup_eq_fast]; kernel_rfl) (by decide +kernel) (by decide +kernel) (by decide +kernel)
    (by first | exact .inl (by decide +kernel) | exact .inr (by decide +kernel)) (by rw [isSubtype_type]; kernel_rfl)
theorem mro_ba : mroOf (.type "bytearray") = pure [.type "bytearray", .type "object"] := by rw [mroOf_type]; kernel_rfl
theorem lookup_ba_new : typeLookup (.type "bytearray") "__new__" = pure (some (.builtin "bytearray.__new__")) := by rw [typeLookup_type, builtinLookup_eq_fast]; kernel_rfl
theorem called_ba : TypeCalled "bytearray" "bytearray.__new__" "bytearray.__init__" :=
  ⟨by decide +kernel, by decide +kernel, ⟨_, _, mro_ba⟩, madeBy_type mro_ba lookup_ba_new (by decide +kernel), by decide +kernel, by rw [isSubtype_type]; kernel_rfl, slot_ba_init⟩
theorem typeCall_ba (a : Value) : checkTypeCall "bytearray" ⟨[a], []⟩ = pure () := by kernel_rfl
theorem newCall_ba (a : Value) : checkBuiltinCall "bytearray.__new__" ⟨[.type "bytearray", a], []⟩ = pure () := by kernel_rfl
theorem initCall_ba (a : Addr) (i : Int) (t : Tok) : argsOk "bytearray.__init__" ⟨[.ref a, .int i t], []⟩ := by unfold argsOk; kernel_rfl
theorem entry_ba_new : entryFor table "bytearray.__new__" = some Builtin.«list.__new__» := entryFor_alias (id' := "list.__new__") (by kernel_rfl) (by first | rfl | decide +kernel) (by decide +kernel) (by kernel_rfl)
theorem plain_ba_new : plainId "bytearray.__new__" = true := by decide +kernel
theorem entry_ba_init : entryFor table "bytearray.__init__" = some Builtin.«bytearray.__init__» := entryFor_of_tree (by kernel_rfl)
set_option maxRecDepth 1000000 in
set_option maxHeartbeats 4000000 in
theorem owner_ba_new : ("bytearray.__new__".splitOn ".__new__").headD "" = "bytearray" := by simp +decide [String.splitOn, String.splitOnAux]
theorem sub_ba_self : isSubtype (.type "bytearray") (.type "bytearray") = pure true := by rw [isSubtype_type]; kernel_rfl
theorem lookup_ba_rel : typeLookup (.type "bytearray") "__release_buffer__" = pure (some (.builtin "bytearray.__release_buffer__")) := by rw [typeLookup_type, builtinLookup_eq_fast]; kernel_rfl
theorem ba_ends : "bytearray.__release_buffer__".endsWith ("." ++ "__release_buffer__") = true := by decide +kernel
theorem ba_owner : "bytearray.__release_buffer__".dropRight ("__release_buffer__".length + 1) = "bytearray" := by decide +kernel
end Mine
end

section
open PySem PySem.W PyProof.Rows
open Sem (wp)
set_option Elab.async false
set_option linter.unusedVariables false
set_option maxRecDepth 100000
namespace Mine
noncomputable abbrev baO (l : List UInt8) (n : Nat) : Obj := { cls := .type "bytearray", data := .bytearray l.toArray n }
section
variable {prog : Program} {w : World} {A : Around} {E : Value → Shared → Prop} {s : Shared} {R : Result → Shared → Prop}

theorem code_ba_new (a : Value) {Q₁ : Value → Shared → Prop}
    (h : Q₁ (.ref s.heap.objs.size) { s with heap := s.heap.push { cls := .type "bytearray", data := .bytearray #[] } }) :
    codeAny (model prog w) A (.call (.builtin "bytearray.__new__") ⟨[.type "bytearray", a], []⟩) (wants Q₁ E) s := by
  refine codeAny_of_tree ?_
  show wpAny _ A.in1 (do checkBuiltinCall "bytearray.__new__" ⟨[.type "bytearray", a], []⟩; again (.builtin "bytearray.__new__" ⟨[.type "bytearray", a], []⟩)) _ _ s
  refine wpAny_bind (wpAny_of_eq (newCall_ba a) (wpAny_pure ⟨plainId_quiet plain_ba_new _, codeAny_builtin_stack entry_ba_new rfl fun p st => ?_⟩))
  rw [Around.under_plainId plain_ba_new _]
  have hsub := sub_ba_self
  have hown := owner_ba_new
  obtain ⟨hp, g, d, tk, os⟩ := s
  simp only [hown]
  wp_walk
  exact h

theorem write_at {a : Addr} {b : Array UInt8} {n : Nat} {f : Array UInt8 → Array UInt8} {Q : Unit → Shared → Prop} (ho : s.heap.get? a = some { cls := .type "bytearray", data := .bytearray b n }) (hf : (f b).size ≤ 100000)
    (h : ∀ h', h'.get? a = some { cls := .type "bytearray", data := .bytearray (f b) n } → Heap.SameBut a s.heap h' → Q () { s with heap := h' }) : wpAny (model prog w) A (Builtin.Bytes.write (.ref a) f) Q E s := by
  show wpAny _ _ (updateBytearray a f) _ _ _
  unfold updateBytearray
  refine wpAny_bind (wpAny_load ho ?_)
  dsimp only
  have e : Obj.mapBytearray f { cls := .type "bytearray", data := .bytearray b n } = { cls := .type "bytearray", data := .bytearray (f b) n } := rfl
  have hg : (s.heap.update a (Obj.mapBytearray f)).get? a = some { cls := .type "bytearray", data := .bytearray (f b) n } := by
    rw [Heap.get?_update_self _ ho (by rw [e]; rfl), e]
  refine wpAny_bind (wpAny_update ho (wpAny_lookBehind hg ?_ (h _ hg (Heap.SameBut.update ..))))
  show (if (f b).size > sizeLine then some "bytearray:memory" else none) = none
  rw [if_neg (by rw [sizeLine_eq]; omega)]

theorem own_release {a : Addr} {Q : Bool → Shared → Prop} (hT : s.TypeIs (.ref a) "bytearray") (hQ : Q false s) : wpAny (model prog w) A (Builtin.Bytes.ownRelease (.ref a)) Q E s := by
  unfold Builtin.Bytes.ownRelease Builtin.Bytes.slotIsOwn
  refine wpAny_bind (wpAny_bind (wpAny_specialOf hT lookup_ba_rel ?_))
  dsimp only
  rw [ba_ends]
  have e : (!true) = false := rfl
  rw [e, if_neg Bool.false_ne_true, ba_owner]
  exact wpAny_isInstance hT sub_ba_self (wpAny_pure hQ)

theorem init_body {a : Addr} {k : Int} {t : Tok} {b : Array UInt8} {Q : Fin → Shared → Prop} (hg : A.guards = some []) (ho : s.heap.get? a = some { cls := .type "bytearray", data := .bytearray b 0 }) (h0 : 0 ≤ k) (h1 : k ≤ 100000)
    (hQ : ∀ h', h'.get? a = some (baO (List.replicate k.toNat 0) 0) → Heap.SameBut a s.heap h' → Q (.done (.ret .none)) { s with heap := h' }) :
    wpC (model prog w) A (Builtin.«bytearray.__init__» ⟨[.ref a, .int k t], []⟩) Q E s := by
  have hT : s.TypeIs (.ref a) "bytearray" := ⟨_, ho, rfl⟩
  unfold Builtin.«bytearray.__init__»
  dsimp only
  refine wpC_bindA (own_release hT ?_)
  rw [if_neg Bool.false_ne_true]
  refine wpC_bindA (wpAny_of_eq (a := [some (.int k t), none, none]) rfl ?_)
  dsimp only
  refine wpC_bindA (wpAny_of_eq (a := ()) rfl ?_)
  refine wpC_bindA (wpAny_of_eq (a := ()) rfl ?_)
  refine wpC_bind ?_
  unfold orM
  refine wpC_bind (exported_clean hg ?_)
  show wpC _ _ (do let n ← Builtin.Bytes.exportsOf (.ref a); pure (decide (n > 0))) _ _ _
  refine .of (wpAny_bind (m := Builtin.Bytes.exportsOf (.ref a)) ?_)
  unfold Builtin.Bytes.exportsOf
  refine wpAny_bind (wpAny_load ho (wpAny_pure (wpAny_pure ?_)))
  show wpC _ _ (if false = true then _ else _) _ _ _
  rw [if_neg Bool.false_ne_true]
  refine wpC_bindA (write_at (f := fun _ => #[]) ho (by simp) fun h₁ hg₁ hs₁ => .of ?_)
  have hi : typeLookup (.type "int") "__index__" = pure (some (.builtin "int.__index__")) := F.slot_int_index.lookup
  refine wpAny_bind (wpAny_of_eq (a := none) rfl ?_)
  show wpAny _ _ (if false = true then _ else _) _ _ _
  rw [if_neg Bool.false_ne_true]
  refine wpAny_bind (wpAny_of_eq (a := ()) rfl ?_)
  refine wpAny_bind (wpAny_specialOf (typeIs_int _ k t) hi ?_)
  show wpAny _ _ (if true = true then _ else _) _ _ _
  rw [if_pos rfl]
  refine wpAny_bind (wpAny_attempt (wpAny_of_eq (a := k) rfl ?_))
  dsimp only
  have f1 : (!Builtin.Bytes.fitsIndex k) = false := by simp [Builtin.Bytes.fitsIndex]; omega
  have f2 : ¬ k < 0 := by omega
  have f3 : (k == 2 ^ 63 - 1) = false := by simp; omega
  have f4 : Builtin.Bytes.tooLong k.toNat = false := by
    unfold Builtin.Bytes.tooLong; rw [sizeLine_eq]; simp; omega
  rw [if_neg (by rw [f1]; exact Bool.false_ne_true), if_neg f2, if_neg (by rw [f3]; exact Bool.false_ne_true), if_neg (by rw [f4]; exact Bool.false_ne_true)]
  refine wpAny_bind (wpAny_rule ?_)
  by_cases hk : k > 0
  · rw [if_pos hk]
    refine wpAny_bind (write_at hg₁ (by simp; omega) fun h₂ hg₂ hs₂ => wpAny_pure (hQ h₂ ?_ ?_))
    · rw [hg₂]; simp [baO]
    · exact hs₁.trans hs₂
  · rw [if_neg hk]
    have : k = 0 := by omega
    subst this
    exact wpAny_pure (hQ h₁ (by rw [hg₁]; rfl) hs₁)

theorem call_bytearray {k : Int} {t : Tok} {Q : Value → Shared → Prop} (hg : A.guards = some []) (h0 : 0 ≤ k) (h1 : k ≤ 100000)
    (hQ : ∀ h', h'.get? s.heap.objs.size = some (baO (List.replicate k.toNat 0) 0) → (∀ b o, s.heap.get? b = some o → h'.get? b = some o) → Q (.ref s.heap.objs.size) { s with heap := h' }) :
    wpC (model prog w) A (call (.type "bytearray") [.int k t]) Q E s := by
  have ft := called_ba
  obtain ⟨c, tl, hmro⟩ := ft.mro
  have hmade := ft.made
  have hsub := ft.sub
  have hct := typeCall_ba (.int k t)
  refine wpC_call (codeC_of_tree ?_)
  show wpC _ _ (callAny (.type "bytearray") _) _ _ _
  refine wpC_pure ⟨Code.quiet_builtin _ (by decide +kernel), (by show Builtin.Bytes.decodersThatHold.contains "type.__call__" = false; decide +kernel), codeC_builtin F.entry_type_call ?_⟩
  rw [Around.under_plain (weight_type_call_type "bytearray" [.int k t] []) rfl]
  have h1' := ft.notType
  have h2' := ft.canCreate
  unfold Builtin.«type.__call__»
  dsimp only
  rw [h1', if_neg Bool.false_ne_true]
  rw [h2', if_neg Bool.false_ne_true]
  refine wpC_bindA (wpAny_of_eq hct ?_)
  refine wpC_bindA (wpAny_of_eq hmro ?_)
  show wpC _ _ (if false = true then _ else _) _ _ _
  rw [if_neg Bool.false_ne_true]
  refine wpC_bindA (wpAny_of_eq hmade ?_)
  dsimp only
  refine wpC_bindA (wpAny_pure ?_)
  refine wpC_bindA (wpAny_holding (wpAny_call (codeAny_mono (code_ba_new (.int k t) (Q₁ := fun v s' => v = .ref s.heap.objs.size ∧ s' = { s with heap := s.heap.push { cls := .type "bytearray", data := .bytearray #[] } }) (E := fun _ _ => False) ⟨rfl, rfl⟩) fun r s₁ hr => ?_)))
  cases r with
  | error e => exact hr.elim
  | ok fl =>
    cases fl with
    | ret obj =>
      obtain ⟨rfl, rfl⟩ := hr
      have ho : (s.heap.push { cls := .type "bytearray", data := .bytearray #[] }).get? s.heap.objs.size = some { cls := .type "bytearray", data := .bytearray #[] 0 } := Heap.get?_push_size _ rfl
      have hT : (⟨s.heap.push { cls := .type "bytearray", data := .bytearray #[] }, s.gens, s.drawn, s.toks, s.os⟩ : Shared).TypeIs (.ref s.heap.objs.size) "bytearray" := ⟨_, ho, rfl⟩
      refine wpC_bindA (wpAny_isInstance hT hsub ?_)
      show wpC _ _ (if false = true then _ else _) _ _ _
      rw [if_neg Bool.false_ne_true]
      refine wpC_bind (wpC_holding ?_)
      unfold callSpecial?
      refine wpC_bindA (wpAny_specialOf hT ft.init.lookup ?_)
      dsimp only
      refine wpC_holding (wpC_bindA (wpAny_of_eq (ft.init.bind _) ?_))
      dsimp only
      refine wpC_bind (wpC_call (codeC_call_builtin ft.init.plain (by show Builtin.Bytes.decodersThatHold.contains "bytearray.__init__" = false; decide +kernel) entry_ba_init ?_))
      refine ft.init.check _ _ _ _ _ _ _ _ hT (initCall_ba _ _ _) ?_
      refine init_body (A := A.in1.in1) hg ho h0 h1 fun h' hg' hs' => ?_
      refine wpC_pure ?_
      dsimp only
      show wpC _ _ (if false = true then _ else _) _ _ _
      rw [if_neg Bool.false_ne_true]
      refine wpC_pure (hQ h' hg' fun b o e => hs'.extBut b o (Nat.ne_of_lt (Heap.lt_size e)) (Heap.get?_push_of_some _ e))
    | _ => exact hr.elim

end
end Mine
end

section
open PySem PySem.W PyProof.Rows
set_option Elab.async false
set_option linter.unusedVariables false
set_option maxRecDepth 100000
namespace Mine
open Builtin Builtin.Bytes
theorem ba_no_bytes : typeLookup (.type "bytearray") "__bytes__" = pure none := by rw [typeLookup_type, builtinLookup_eq_fast]; kernel_rfl
theorem ba_no_index : typeLookup (.type "bytearray") "__index__" = pure none := by rw [typeLookup_type, builtinLookup_eq_fast]; kernel_rfl
theorem ba_buffer : typeLookup (.type "bytearray") "__buffer__" = pure (some (.builtin "bytearray.__buffer__")) := by rw [typeLookup_type, builtinLookup_eq_fast]; kernel_rfl
theorem ba_bends : "bytearray.__buffer__".endsWith ("." ++ "__buffer__") = true := by decide +kernel
theorem ba_bowner : "bytearray.__buffer__".dropRight ("__buffer__".length + 1) = "bytearray" := by decide +kernel
theorem slot_ba_set : Slot "bytearray" "__setitem__" "bytearray.__setitem__" :=
  .of (owner := "bytearray") (n := "__setitem__") (by rw [typeLookup_type, builtinLookup_eq_fast]; kernel_rfl) (by decide +kernel) (by decide +kernel) (by decide +kernel)
    (by first | exact .inl (by decide +kernel) | exact .inr (by decide +kernel)) (by rw [isSubtype_type]; kernel_rfl)
theorem entry_ba_set : entryFor table "bytearray.__setitem__" = some Builtin.«bytearray.__setitem__» := entryFor_of_tree (by kernel_rfl)
theorem args_ba_set (a b c : Value) : argsOk "bytearray.__setitem__" ⟨[a, b, c], []⟩ := by unfold argsOk; kernel_rfl

section
variable {prog : Program} {w : World} {A : Around} {E : Value → Shared → Prop} {s : Shared}

theorem setItem_ba {a : Addr} {b : Array UInt8} {n : Nat} {k v : Int} {t u : Tok} {Q : Unit → Shared → Prop} (ho : s.heap.get? a = some { cls := .type "bytearray", data := .bytearray b n }) (h0 : 0 ≤ k) (h1 : k < b.size) (hb : b.size ≤ 100000) (hv0 : 0 ≤ v) (hv1 : v < 256)
    (hQ : ∀ h', h'.get? a = some { cls := .type "bytearray", data := .bytearray (b.setIfInBounds k.toNat v.toNat.toUInt8) n } → Heap.SameBut a s.heap h' → Q () { s with heap := h' }) :
    wpAny (model prog w) A (setItem (.ref a) (.int k t) (.int v u)) Q E s := by
  have hT : s.TypeIs (.ref a) "bytearray" := ⟨_, ho, rfl⟩
  have hi : typeLookup (.type "int") "__index__" = pure (some (.builtin "int.__index__")) := F.slot_int_index.lookup
  unfold setItem
  try with_reducible refine wpAny_holding ?_
  first | refine wpAny_bind (wpAny_pure ?_) | skip
  refine wpAny_bind (wpAny_sequenceKey hT (by decide) ?_)
  refine wpAny_bind (wpAny_callSpecial?_slot (name := Str.ofString "__setitem__") hT slot_ba_set
    (wpAny_call_entry slot_ba_set hT entry_ba_set ?_ (args_ba_set _ _ _)))
  unfold Builtin.«bytearray.__setitem__»
  dsimp only
  refine bm_if_false rfl ?_
  refine wpAny_bind (m := subscript? (.int k t)) ?_
  unfold subscript?
  refine wpAny_bind (wpAny_specialOf (typeIs_int _ k t) hi ?_)
  refine bm_if_false rfl ?_
  refine wpAny_bind (wpAny_of_eq (a := k) rfl ?_)
  have f1 : (!fitsIndex k) = false := by simp [fitsIndex]; omega
  refine bm_if_false f1 (wpAny_pure ?_)
  dsimp only
  refine wpAny_bind (m := byteValue (.int v u)) ?_
  unfold byteValue
  refine wpAny_bind (wpAny_of_eq (a := v) rfl ?_)
  have f2 : (decide (v < 0) || decide (v ≥ 256)) = false := by simp; omega
  refine bm_if_false f2 (wpAny_pure ?_)
  refine wpAny_bind (m := payload (.ref a)) ?_
  unfold payload payload?
  refine wpAny_bind (wpAny_bind (wpAny_load ho (wpAny_pure ?_)))
  refine wpAny_pure ?_
  rw [seqIndex_nn h0 h1]
  dsimp only
  exact wpAny_bind (write_at ho (by simp; omega) fun h' hg hs => wpAny_pure ⟨_, rfl, wpAny_pure (hQ h' hg hs)⟩)

theorem code_bytes_ba {a : Addr} {b : Array UInt8} {n : Nat} {Q : Value → Shared → Prop} (ho : s.heap.get? a = some { cls := .type "bytearray", data := .bytearray b n }) (hb : b.size ≤ 100000)
    (hQ : ∀ t k, Q (.bytes b t) { s with toks := k }) : codeAny (model prog w) A (.call (.builtin "bytes.__new__") ⟨[.type "bytes", .ref a], []⟩) (wants Q E) s := by
  refine codeAny_of_tree ?_
  show wpAny _ A.in1 (do checkBuiltinCall "bytes.__new__" ⟨[.type "bytes", .ref a], []⟩; again (.builtin "bytes.__new__" ⟨[.type "bytes", .ref a], []⟩)) _ _ s
  refine wpAny_bind (wpAny_of_eq (F.bm_newCall _) (wpAny_pure ⟨plainId_quiet F.bm_plain _, codeAny_builtin F.bm_entry ?_⟩))
  rw [Around.under_plainId F.bm_plain _]
  have hT : s.TypeIs (.ref a) "bytearray" := ⟨_, ho, rfl⟩
  unfold Builtin.«bytes.__new__»
  refine wpAny_bind (wpAny_of_eq (a := true) rfl ?_)
  refine bm_if_false rfl ?_
  refine wpAny_bind (wpAny_of_eq F.bm_sub ?_)
  refine bm_if_false rfl ?_
  refine wpAny_bind (wpAny_of_eq (F.bm_bind _) ?_)
  refine wpAny_bind (wpAny_of_eq (a := ()) rfl ?_)
  refine wpAny_bind (wpAny_of_eq (a := ()) rfl ?_)
  refine bm_if_false rfl ?_
  refine wpAny_bind (wpAny_specialOf hT ba_no_bytes ?_)
  refine wpAny_bind (wpAny_bind ?_)
  show wpAny _ _ (load a >>= _) _ _ _
  refine wpAny_bind (wpAny_load ho ?_)
  refine wpAny_pure (wpAny_pure ?_)
  refine bm_if_false rfl ?_
  refine wpAny_bind (wpAny_specialOf hT ba_no_index ?_)
  refine bm_if_true rfl ?_
  first
    | show wpAny _ _ (Builtin.Bytes.buffer? "bytes.__new__" (.ref a) true >>= _) _ _ _
    | (refine wpAny_bind ?_; show wpAny _ _ (Builtin.Bytes.buffer? "bytes.__new__" (.ref a) true >>= _) _ _ _)
  refine wpAny_bind ?_
  unfold Builtin.Bytes.buffer?
  refine wpAny_bind (wpAny_specialOf hT ba_buffer ?_)
  try dsimp only
  refine wpAny_bind (m := slotIsOwn (.ref a) "__buffer__") ?_
  unfold slotIsOwn
  refine wpAny_bind (wpAny_specialOf hT ba_buffer ?_)
  try dsimp only
  refine bm_if_false (by rw [ba_bends]; rfl) ?_
  rw [ba_bowner]
  refine wpAny_isInstance hT sub_ba_self ?_
  refine bm_if_false rfl ?_
  refine wpAny_bind (wpAny_specialOf hT ba_buffer ?_)
  try dsimp only
  refine wpAny_bind (own_release hT ?_)
  refine bm_if_false rfl ?_
  refine wpAny_bind (m := payload (.ref a)) ?_
  unfold payload payload?
  refine wpAny_bind (wpAny_bind (wpAny_load ho (wpAny_pure ?_)))
  refine wpAny_pure (wpAny_pure ?_)
  refine wpAny_bind (wpAny_rule (wpAny_bind (wpAny_mkBytes ?_ (by rw [sizeLine_eq]; omega))))
  show wpAny _ _ (pure (Fin.done (.ret (.bytes b s.toks)))) _ _ _
  exact wpAny_pure (hQ _ _)

theorem call_bytes_ba {a : Addr} {b : Array UInt8} {n : Nat} {Q : Value → Shared → Prop} (ho : s.heap.get? a = some { cls := .type "bytearray", data := .bytearray b n }) (hb : b.size ≤ 100000)
    (hQ : ∀ t k, Q (.bytes b t) { s with toks := k }) : wpAny (model prog w) A (call (.type "bytes") [.ref a]) Q E s := by
  refine callType_codes (Q₁ := fun obj s₁ => s₁.TypeIs obj "bytes" ∧ Q obj s₁) F.bm_called (F.bm_typeCall _) F.entry_object_init
    (code_bytes_ba ho hb fun t k => ⟨PySem.W.typeIs_bytes _ _ _, hQ t k⟩) fun obj s₁ h₁ => ?_
  exact ⟨h₁.1, F.args_object_init_2 obj _, object_init_meets F.bm_called.init.lookup F.bm_called.made (by decide) prog w A.in1 _ s₁ ⟨h₁.1, rfl, h₁.2⟩⟩
end

variable {c : Cx} {n : Nat} {fi : FI} {σ : Sg}

theorem own_ba {h : Heap} {W mu : Addr → Prop} {l : List UInt8} {v : Value} (d : AVat h W mu (.ownb l) v) : OwnbAt h mu l v := d

/-- bytes(x), x a bytearray of its own -/
theorem sound_bytesOwn {x y : PySem.Str} {p q pos : Pos} {i : Nat} {l : List UInt8} (hg : Glob c x (.type "bytes")) (hk : fi.env.kindOf x = some .globalImplicit) (hy : fi.nt[i]? = some y) (hi : σ[i]? = some (some (.ownb l))) (hf : l.length ≤ 100000) :
    SoundE c n fi σ (.Call (.Name x p) [.Name y q] [] pos) (.bytes l) :=
  fun A s W mu val Q E hA hP hJ hT hR k => by
    refine Call_Name rfl (hg A s _ p _ _ hJ hR.kind hk hR.gl hR.bl ?_)
    refine PyProof.Rows.callWith_type rfl (Calls.evalArgs_plain (Calls.spliced_cons (eval_own hR hy hi fun v hv hav => Calls.spliced_nil ?_)))
    obtain ⟨a, m, rfl, hmu, hg'⟩ := own_ba hav
    exact lift hP (call_bytes_ba hg' (by simpa using hf) fun t tk hp => k.bytes hJ hp)

/-- x[e₁] = e₂, x a bytearray of its own -/
theorem soundS_setIdxB {x : PySem.Str} {xp tpos pos : Pos} {e₁ e₂ : Expr} {i : Nat} {l : List UInt8} {k v : Int} (hx : fi.nt[i]? = some x) (hi : σ[i]? = some (some (.ownb l))) (h1 : SoundE c n fi σ e₁ (.int k)) (h2 : SoundE c n fi σ e₂ (.int v)) (hk0 : 0 ≤ k) (hk1 : k < l.length)
    (hf : l.length ≤ 100000) (hv0 : 0 ≤ v) (hv1 : v < 256) (hsw : swapsWith e₂ (some (.Subscript (.Name x xp) e₁ tpos)) pos.line fi.env = pure false) :
    SoundS c n fi σ (exec (.Assign [.Subscript (.Name x xp) e₁ tpos] e₂ pos)) (.next (σ.set i (some (.ownb (l.set k.toNat (UInt8.ofNat v.toNat)))))) :=
  fun A s W mu val Q E hA hP hJ hT hR kk => by
    refine wpAny_Assign_Subscript (h2 A s W mu val _ _ hA hP hJ hT hR fun v₁ h₁ tk₁ p₁ s₁ d₁ => ?_) hsw
    obtain ⟨t, rfl⟩ := den_int d₁
    have hR₁ := hR.step hT s₁
    refine eval_own hR₁ hx hi fun o ho hav => ?_
    obtain ⟨ad, m, rfl, hmu, hg⟩ := own_ba hav
    refine h1 A ⟨h₁, s.gens, s.drawn, tk₁, s.os⟩ W mu val _ _ hA p₁ s₁.j hT hR₁ fun v₂ h₂ tk₂ p₂ s₂ d₂ => ?_
    obtain ⟨t₂, rfl⟩ := den_int d₂
    have hR₂ := hR₁.step hT s₂
    have hg₂ := s₂.kept _ _ hg (hR.muT _ hmu)
    refine setItem_ba hg₂ hk0 (by simpa using hk1) (by simpa using hf) hv0 hv1 fun h₃ hg₃ hs => ?_
    have hg₃' : h₃.get? ad = some { cls := .type "bytearray", data := .bytearray (l.set k.toNat (UInt8.ofNat v.toNat)).toArray m } := by
      rw [hg₃]; simp
    obtain ⟨R₃, g₃⟩ := Rel.mutate (av' := .ownb (l.set k.toNat (UInt8.ofNat v.toNat))) hR₂ s₂.j hi rfl rfl ho (fun b o q e => hs.extBut b o q e) ⟨ad, m, rfl, hmu, hg₃'⟩
    exact kk W mu val h₃ tk₂ p₂ (((Go.of_step s₁).trans (Go.of_step s₂) hR.wex).trans g₃ hR.wex) R₃
end Mine
end

section
open PySem PySem.W PyProof.Rows
open Sem (wp)
set_option Elab.async false
set_option linter.unusedVariables false
namespace Mine

section
variable {M : Model} {A : Around} {E : Value → Shared → Prop} {s : Shared} {env : Env}

theorem c_execs_cons {st : Stmt} {rest : List Stmt} {Q : Flow → Shared → Prop}
    (h : wpC M A (exec st env) (fun f s' => match f with | .next => wpC M A (execs rest env) Q E s' | f => Q f s') E s) : wpC M A (execs (st :: rest) env) Q E s := fun Γ p hΓ hC => by
  rw [execs_cons, Sem.wp_bind']
  refine Sem.wp_mono M Γ _ (fun f p' s' h' => ?_) (fun _ _ _ h' => h') _ _ (h Γ p hΓ hC)
  cases f <;> first | exact h' Γ p' hΓ hC | exact h'

theorem c_Assign_Name {x pos' value pos} {Q : Flow → Shared → Prop} (h : wpC M A (eval value env) (fun v s₁ => wpAny M A (storeName env x v) (fun _ => Q .next) E s₁) E s)
    (hs : swapsWith value (some (.Name x pos')) pos.line env = pure false) : wpC M A (exec (.Assign [.Name x pos'] value pos) env) Q E s := fun Γ p hΓ hC => by
  simp only [exec_Assign_Name env x pos' value pos hs, Sem.wp_bind', Sem.wp_cmd_standAt, Sem.wp_bindName, Sem.wp_pure']
  exact Sem.wp_mono M Γ _ (fun v _ s₁ h₁ => h₁ Γ _ hΓ) (fun _ _ _ h' => h') _ _ (h Γ _ hΓ hC)

theorem c_BinOp {l op r pos} {Q : Value → Shared → Prop}
    (h : wpC M A (eval l env) (fun a s₁ => wpC M A (eval r env) (fun b s₂ => wpAny M A (binaryOp op a b) Q E s₂) E s₁) E s) : wpC M A (eval (.BinOp l op r pos) env) Q E s := fun Γ p hΓ hC => by
  simp only [eval_BinOp, Sem.wp_bind', Sem.wp_holding, Sem.wp_cmd_standAt, Sem.wp_operate]
  exact Sem.wp_mono M Γ _ (fun a p₁ s₁ h₁ => Sem.wp_mono M Γ _ (fun b _ s₂ h₂ => h₂ Γ _ hΓ) (fun _ _ _ h' => h') _ _ (h₁ Γ p₁ hΓ hC))
    (fun _ _ _ h' => h') _ _ (h Γ p hΓ hC)

theorem c_Call_Name {x : PySem.Str} {p pos : Pos} {args : List Expr} {trees : List (Bool × Sem Value)} {Q : Value → Shared → Prop} (ht : backTo pos (starEach args env) = trees)
    (h : wpAny M A (eval (.Name x p) env) (fun f s₁ => wpC M A (callWith pos f [] trees []) Q E s₁) E s) : wpC M A (eval (.Call (.Name x p) args [] pos) env) Q E s := by
  subst ht
  exact wpC_bindA h

theorem c_spliced_nil {Q : List Value → Shared → Prop} (h : Q [] s) : wpC M A (spliced []) Q E s := wpC_pure h
theorem c_spliced_cons {x : Sem Value} {rest : List (Bool × Sem Value)} {Q : List Value → Shared → Prop}
    (h : wpC M A x (fun v s₁ => wpC M A (spliced rest) (fun vs s₂ => Q (v :: vs) s₂) E s₁) E s) : wpC M A (spliced ((false, x) :: rest)) Q E s := by
  rw [spliced]
  refine wpC_bind (wpC_mono h (fun v s₁ h₁ => ?_) fun _ _ x => x)
  simp only [Bool.false_eq_true, if_false]
  exact wpC_bind (wpC_pure (wpC_bind (wpC_holding (wpC_mono h₁ (fun vs s₂ h₂ => wpC_pure h₂) fun _ _ x => x))))
theorem c_evalArgs_plain {f : Value} {x : Sem Value} {rest : List (Bool × Sem Value)} {Q : Args → Shared → Prop}
    (h : wpC M A (spliced ((false, x) :: rest)) (fun vs s' => Q ⟨vs, []⟩ s') E s) : wpC M A (evalArgs f true ((false, x) :: rest) []) Q E s := by
  unfold evalArgs
  show wpC M A (spliced ((false, x) :: rest) >>= _) Q E s
  refine wpC_bind (wpC_mono h (fun vs s' h' => ?_) fun _ _ x => x)
  refine wpC_holding ?_
  exact wpC_bind (wpC_pure (wpC_bind (wpC_pure (wpC_pure h'))))
theorem c_keep {α : Type} {vs : List Value} {m : Sem α} {Q : α → Shared → Prop} (h : wpC M A m Q E s) : wpC M A (m.keep vs) Q E s :=
  fun Γ p hΓ hC => by rw [Sem.wp_keep]; exact h Γ p hΓ hC

theorem c_callWith_type {pos : Pos} {T : String} {first : List Value} {args : List (Bool × Sem Value)} {Q : Value → Shared → Prop} (hplain : args.any (·.1) = false)
    (h : wpC M A (evalArgs (.type T) true args []) (fun a s₁ => wpC M A (call (.type T) (first ++ a.pos) a.kw) Q E s₁) E s) :
    wpC M A (callWith pos (.type T) first args []) Q E s := by
  unfold callWith
  refine wpC_bind (wpC_holding (wpC_mono h (fun a s₁ h₁ => wpC_bindA (wpAny_standAt ?_)) fun _ _ x => x))
  simp only [hplain, List.any_nil, Bool.or_false]
  refine wpC_bind (wpC_pure ?_)
  exact wpC_bind (wpC_mono h₁ (fun r s₂ hr => .of (wpAny_bind (wpAny_holding (wpAny_point (wpAny_pure hr))))) fun _ _ x => x)

theorem c_ite {α : Type} {c : Prop} [Decidable c] {a b : Sem α} {Q : α → Shared → Prop} (ha : wpC M A a Q E s) (hb : wpC M A b Q E s) : wpC M A (if c then a else b) Q E s := by split <;> assumption
theorem c_callWith_function {pos : Pos} {a : Addr} {o : Obj} {fd : FuncData} {first : List Value} {args : List (Bool × Sem Value)} {Q : Value → Shared → Prop}
    (h : wpC M A (evalArgs (.ref a) true args []) (fun x s₁ => (s₁.heap.get? a = some o ∧ o.data = .func fd) ∧ wpC M A (call (.ref a) (first ++ x.pos) x.kw) Q E s₁) E s) :
    wpC M A (callWith pos (.ref a) first args []) Q E s := by
  unfold callWith
  refine wpC_bind (wpC_holding (wpC_mono h (fun x s₁ h₁ => wpC_bindA (wpAny_standAt ?_)) fun _ _ x => x))
  have tail : ∀ {t : Sem Value}, wpC M A t Q E s₁ → wpC M A (t >>= fun r => holding [r] point >>= fun _ => pure r) Q E s₁ :=
    fun ht => wpC_bind (wpC_mono ht (fun r s₂ hr => .of (wpAny_bind (wpAny_holding (wpAny_point (wpAny_pure hr))))) fun _ _ x => x)
  cases hs : args.any (·.1) <;> simp only [List.any_nil, Bool.or_false] <;>
    refine wpC_bind (m := keeperOf (.ref a)) ?_ <;> unfold keeperOf <;>
    refine wpC_bindA (wpAny_load h₁.1.1 ?_) <;> rw [h₁.1.2] <;> refine wpC_pure ?_
  · show wpC M A (if _ then _ else _) Q E s₁
    exact c_ite (tail h₁.2) (tail (by unfold callMarked; exact c_keep h₁.2))
  · exact tail (by unfold callMarked; exact c_keep h₁.2)

theorem c_noted {α : Type} {m : Sem α} {Q : α → Shared → Prop} (h : wpC M A m Q (notedBy M A env E) s) : wpC M A (m.onRaise fun x => do noteFrame x env; theTreesLotGoes x) Q E s :=
  wpC_onRaise (wpC_mono h (fun _ _ q => q) fun _ _ hx => wpAny_bind (wpAny_mono hx (fun _ _ e => wpAny_theTreesLotGoes e) fun _ _ e => e))
theorem c_runOwn {c : Code} {h : Option Value} {Q : Flow → Shared → Prop} (hd : decoder c = false)
    (hc : codeC M (A.mark h) c (fun r s' => match r with | .ok f => Q f s' | .error e => cameBackBy M A env E e s') s) (hnb : h ≠ some byPass) : wpC M A (runOwn c env h) Q E s := by
  unfold runOwn
  exact wpC_onRaise (wpC_run hd hc hnb)
theorem c_For {target iter body orelse pos} {Q : Flow → Shared → Prop}
    (h : wpAny M A (eval iter env) (fun x s₁ => wpAny M A (pyIter x) (fun it s₂ =>
      codeC M A (.forLoop target it body orelse env) (fun r s' => match r with | .ok f => Q f s' | .error e => cameBackBy M A env E e s') s₂) E s₁) E s)
    (hs : ∀ x, foldedSetIterable iter env x = pure x) : wpC M A (exec (.For target iter body orelse pos) env) Q E s := by
  rw [exec_For]
  exact wpC_bindA (wpAny_standAt (wpC_bindA (wpAny_mono h (fun x s₁ h₁ => wpC_bindA (wpAny_of_eq (hs x) (wpC_bindA (wpAny_standAt (wpC_bindA (wpAny_holding
    (wpAny_mono h₁ (fun it s₂ h₂ => c_runOwn rfl h₂ (fun x => by cases x)) fun _ _ h' => h'))))))) fun _ _ h' => h')))
end

section
variable {prog : Program} {w : World} {A : Around} {E : Value → Shared → Prop} {R : Result → Shared → Prop} {s : Shared}

theorem codeC_func {body env}
    (h : wpC (model prog w) (A.deeper env) (execs body env) (fun f s' => R (.ok (.ret (match f with | .ret v => v | _ => .none))) s')
      (fun e s' => wpAny (model prog w) (A.deeper env) (leaving env e) (fun _ s'' => R (.error e) s'') (fun e' s'' => R (.error e') s'') s') s) :
    codeC (model prog w) A (.func body env) R s := by
  refine codeC_of_tree ?_
  show wpC _ (A.deeper env) (do point; match ← (execs body env).onRaise (leaving env) with | .ret v => ret v | _ => ret .none) _ _ s
  refine wpC_bindA (wpAny_point (wpC_bind (wpC_onRaise (wpC_mono h (fun f s' h' => ?_) fun _ _ h' => h'))))
  cases f <;> exact wpC_pure h'

theorem codeC_call_function {a : Addr} {args : Args} {o : Obj} {fd : FuncData} {body : List Stmt} (hroom : A.depth < recursionLimit)
    (ho : s.heap.get? a = some o)
    (hd' : o.data = .func fd) (hco : fd.scope.isCoroutine = false) (hgen : fd.scope.isGenerator = false) (hbody : fd.body = .stmts body) (hcd : s.heap.CodeRec fd.code fd.qualname)
    (h : wpAny (model prog w) A.in1 (bindArgs fd args) (fun binds s₁ =>
      wpAny (model prog w) A.in1 (newFunctionEnv fd.scope fd.globals fd.closure binds (fd.qualname ++ ".<locals>.") (some a) fd.code none fd.builtins)
        (fun env s₂ => s₂.heap.NoLimit ∧ codeC (model prog w) A (.func body env) R s₂) (fun e s' => R (.error e) s') s₁) (fun e s' => R (.error e) s') s) :
    codeC (model prog w) A (.call (.ref a) args) R s := by
  refine codeC_of_tree ?_
  show wpC _ A.in1 (callAny (.ref a) args) _ _ s
  simp only [callAny]
  refine wpC_bindA (wpAny_load ho ?_)
  obtain ⟨c, oc, vs, tq, hc, hoc, hdc, hq⟩ := hcd
  simp only [hd', callFunction, hco, hgen, hbody, hc]
  rw [hc] at h
  refine wpC_bindA (m := field (.ref c) 1) (wpAny_field hoc hdc hq (wpC_bindA (wpAny_pure ?_)))
  exact wpC_bindA (wpAny_mono h (fun binds s₁ h₁ => wpC_bindA (wpAny_mono h₁ (fun env s₂ h₂ => wpC_bindA (wpAny_enterFrame h₂.1 hroom
    (wpC_pure (And.intro rfl (And.intro rfl h₂.2))))) fun _ _ h' => h')) fun _ _ h' => h')

theorem codeC_call_def {a : Addr} {o : Obj} {fd : FuncData} {body : List Stmt} {args : Args} {binds : List (PySem.Str × Value)}
    (hroom : A.depth < recursionLimit) (ho : s.heap.get? a = some o) (hdata : o.data = .func fd) (hlim : s.heap.NoLimit) (hcd : s.heap.CodeRec fd.code fd.qualname)
    (hbody : fd.body = .stmts body) (hbind : BindsTo s fd args binds)
    (hcell : ∀ x ∈ fd.scope.names, x.2 ≠ .cell) (hloc : ∀ x ∈ binds, fd.scope.names.lookup x.1 = some .local)
    (h : ∀ h₀, h₀.Ns s.heap.objs.size (fun x => binds.reverse.lookup x) → (∀ b o, s.heap.get? b = some o → h₀.get? b = some o) →
      wpC (model prog w) (A.deeper (callEnv fd s.heap.objs.size a)) (execs body (callEnv fd s.heap.objs.size a)) (fun f s' => R (.ok (.ret (match f with | .ret v => v | _ => .none))) s')
        (fun e s' => wpAny (model prog w) (A.deeper (callEnv fd s.heap.objs.size a)) (leaving (callEnv fd s.heap.objs.size a) e) (fun _ s'' => R (.error e) s'') (fun e' s'' => R (.error e') s'') s')
        { s with heap := h₀, toks := s.toks + binds.length })
    (hco : fd.scope.isCoroutine = false) (hgen : fd.scope.isGenerator = false) (hk : fd.scope.kind = .function) :
    codeC (model prog w) A (.call (.ref a) args) R s := by
  refine codeC_call_function hroom ho hdata hco hgen hbody hcd (hbind _ _ _ _ ?_)
  refine wpAny_newFunctionEnv hcell hloc (fun h₀ hns₀ hsb₀ => ⟨hlim.fresh _ hsb₀, codeC_func (h h₀ hns₀ fun b o e => ?_)⟩) hk
  exact hsb₀.extBut b o (Nat.ne_of_lt (Heap.lt_size e)) (Heap.get?_push_of_some _ e)

theorem codeC_call_cells {a : Addr} {o : Obj} {fd : FuncData} {body : List Stmt} {vals : List Value} {binds : List (PySem.Str × Value)}
    (hroom : A.depth < recursionLimit) (ho : s.heap.get? a = some o) (hdata : o.data = .func fd) (hlim : s.heap.NoLimit) (hcd : s.heap.CodeRec fd.code fd.qualname)
    (hbody : fd.body = .stmts body) (hbind : bindArgs fd ⟨vals, []⟩ = pure binds) (hclo : fd.closure = [])
    (hkind : ∀ x ∈ binds, fd.scope.names.lookup x.1 = some .local ∨ (fd.scope.names.lookup x.1 = some .cell ∧ ((cellsFrom (s.heap.objs.size + 1) fd.scope.names []).lookup x.1).isSome = true))
    (h : ∀ s₁, InCallC s (callEnvC fd s.heap.objs.size a).locals (bindL (callEnvC fd s.heap.objs.size a).kindOf binds fun _ => none) (callEnvC fd s.heap.objs.size a).cells
        (bindC (callEnvC fd s.heap.objs.size a).kindOf binds fun _ => none) s₁ →
      wpC (model prog w) (A.deeper (callEnvC fd s.heap.objs.size a)) (execs body (callEnvC fd s.heap.objs.size a)) (fun f s' => R (.ok (.ret (match f with | .ret v => v | _ => .none))) s')
        (fun e s' => wpAny (model prog w) (A.deeper (callEnvC fd s.heap.objs.size a)) (leaving (callEnvC fd s.heap.objs.size a) e) (fun _ s'' => R (.error e) s'') (fun e' s'' => R (.error e') s'') s') s₁)
    (hco : fd.scope.isCoroutine = false) (hgen : fd.scope.isGenerator = false) (hk : fd.scope.kind = .function) :
    codeC (model prog w) A (.call (.ref a) ⟨vals, []⟩) R s := by
  refine codeC_call_function hroom ho hdata hco hgen hbody hcd ?_
  rw [hbind, hclo]
  refine wpAny_pure (wpAny_newFunctionEnv_cells hk hkind fun env he s' x => ?_)
  subst he
  exact ⟨hlim.keeps x.toInCall.keep, codeC_func (h s' x)⟩

theorem codeC_for {target it body env} (I : Nat → Shared → Prop)
    (turn : ∀ n s, I n s → wpAny (model prog w) A (pyNext it) (fun r s₁ => match r with
      | none => R (.ok .next) s₁
      | some v => wpAny (model prog w) A (letOwnedTupleGo target it v) (fun _ s₁' =>
          wpAny (model prog w) A (assign target env v) (fun _ s₂ => wpC (model prog w) A (execs body env) (fun f s₃ => match f with
            | .next | .cont => ∃ m, m < n ∧ I m s₃
            | .brk => R (.ok .next) s₃
            | .ret v => R (.ok (.ret v)) s₃) (notedBy (model prog w) A env fun e s' => R (.error e) s') s₂) (notedBy (model prog w) A env fun e s' => R (.error e) s') s₁') (notedBy (model prog w) A env fun e s' => R (.error e) s') s₁) (notedBy (model prog w) A env fun e s' => R (.error e) s') s)
    (n : Nat) (h : I n s) : codeC (model prog w) A (.forLoop target it body [] env) R s := by
  refine codeC_loop rfl rfl I (fun n s hI => ?_) n h
  show wpC _ A ((forTurn target it body [] env).onRaise (fun x => do noteFrame x env; theTreesLotGoes x)) _ _ s
  refine c_noted ?_
  simp only [forTurn]
  refine wpC_bindA (wpAny_standAt (wpC_bind (wpC_onRaise (.of (wpAny_mono (turn n s hI) (fun r s₁ h₁ => ?_) fun _ _ h' => wpAny_standAt h')))))
  cases r with
  | none => exact wpC_pure (.inr ⟨rfl, rfl, .of (codeAny_block (wpAny_execs_nil h₁))⟩)
  | some v =>
    refine wpC_bindA (wpAny_mono h₁ (fun _ s₁' h₁' => ?_) fun _ _ h' => h')
    refine wpC_bindA (wpAny_mono h₁' (fun _ s₂ h₂ => wpC_bind (wpC_mono h₂ (fun f s₃ h₃ => ?_) fun _ _ h' => h')) fun _ _ h' => h')
    cases f with
    | next => exact wpC_pure (.inl ⟨rfl, h₃⟩)
    | cont => exact wpC_pure (.inl ⟨rfl, h₃⟩)
    | brk => exact wpC_pure h₃
    | ret v => exact wpC_pure h₃
end
end Mine
end

section
open PySem PySem.W PyProof.Rows
open Sem (wp)
set_option Elab.async false
set_option linter.unusedVariables false
namespace Mine

variable {c : Cx} {n : Nat} {fi : FI} {σ : Sg}

noncomputable def SoundEC (c : Cx) (n : Nat) (fi : FI) (σ : Sg) (x : Expr) (p : PV) : Prop :=
  ∀ (A : Around) (s : Shared) (W mu : Addr → Prop) (val : Vals) (Q E : Value → Shared → Prop), Room A n → A.guards = some [] → 0 < s.toks → J c s.heap → TW c W → Rel c W mu s.heap fi val σ →
    KontE c s W p Q → wpC c.M A (eval x fi.env) Q E s
noncomputable def SoundSC (c : Cx) (n : Nat) (fi : FI) (σ : Sg) (t : Env → Sem Flow) (r : Res) : Prop :=
  ∀ (A : Around) (s : Shared) (W mu : Addr → Prop) (val : Vals) (Q : Flow → Shared → Prop) (E : Value → Shared → Prop), Room A n → A.guards = some [] → 0 < s.toks → J c s.heap → TW c W → Rel c W mu s.heap fi val σ →
    KontS c s W mu fi r Q → wpC c.M A (t fi.env) Q E s
noncomputable def FnOKC (c : Cx) (n : Nat) (f : Addr) (args : List PV) (res : PV) : Prop :=
  ∀ (A : Around) (s : Shared) (W : Addr → Prop) (vs : List Value) (Q E : Value → Shared → Prop), Room A n → A.guards = some [] → 0 < s.toks → J c s.heap → TW c W → (∀ b, W b → ∃ o, s.heap.get? b = some o) → DenL s.heap W args vs →
    KontE c s W res Q → wpC c.M A (call (.ref f) vs) Q E s

theorem SoundE.C {x : Expr} {p : PV} (h : SoundE c n fi σ x p) : SoundEC c n fi σ x p := fun A s W mu val Q E hA hg hP hJ hT hR k => .of (h A s W mu val Q E hA hP hJ hT hR k)
theorem SoundS.C {t : Env → Sem Flow} {r : Res} (h : SoundS c n fi σ t r) : SoundSC c n fi σ t r := fun A s W mu val Q E hA hg hP hJ hT hR k => .of (h A s W mu val Q E hA hP hJ hT hR k)
theorem FnOK.C {f : Addr} {args : List PV} {res : PV} (h : FnOK c n f args res) : FnOKC c n f args res := fun A s W vs Q E hA hg hP hJ hT hW d k => .of (h A s W vs Q E hA hP hJ hT hW d k)

theorem soundC_cons {st : Stmt} {rest : List Stmt} {σ' : Sg} {r : Res} (h₁ : SoundSC c n fi σ (exec st) (.next σ')) (h₂ : SoundSC c n fi σ' (execs rest) r) : SoundSC c n fi σ (execs (st :: rest)) r :=
  fun A s W mu val Q E hA hg hP hJ hT hR k => c_execs_cons (h₁ A s W mu val _ _ hA hg hP hJ hT hR fun W' mu' val' h' tk p g R =>
    h₂ A _ W' mu' val' _ _ hA hg p g.j (g.tw hT hR.muT) R (k.go hR.wex g))
theorem soundC_stop {st : Stmt} {rest : List Stmt} {p : PV} (h₁ : SoundSC c n fi σ (exec st) (.ret p)) : SoundSC c n fi σ (execs (st :: rest)) (.ret p) :=
  fun A s W mu val Q E hA hg hP hJ hT hR k => c_execs_cons (h₁ A s W mu val _ _ hA hg hP hJ hT hR fun W' mu' v h' tk p g d => k W' mu' v h' tk p g d)

theorem soundC_set {x : PySem.Str} {p' pos : Pos} {e : Expr} {i : Nat} {p : PV} (he : SoundEC c n fi σ e p) (hcap : fi.capt = false) (hx : fi.nt[i]? = some x) (hs : swapsWith e (some (.Name x p')) pos.line fi.env = pure false) :
    SoundSC c n fi σ (exec (.Assign [.Name x p'] e pos)) (.next (σ.set i (some (.im p)))) :=
  fun A s W mu val Q E hA hg hP hJ hT hR k => c_Assign_Name (he A s W mu val _ _ hA hg hP hJ hT hR fun v h₁ tk₁ p₁ s₁ d₁ =>
    store_any (σ := σ) (val := val) (s := ⟨h₁, s.gens, s.drawn, tk₁, s.os⟩) p₁ s₁.j (hR.step hT s₁) (.inl hcap) hx (av := .im p) d₁ (fun e => by cases e) fun h' tk hp g R _ => k W mu _ h' tk hp ((Go.of_step s₁).trans g hR.wex) R) hs

/-- x = bytearray(e) -/
theorem soundC_setOwnB {x y : PySem.Str} {p' q₁ pos q₂ : Pos} {e : Expr} {i : Nat} {k : Int} (hy : Glob c y (.type "bytearray")) (hk : fi.env.kindOf y = some .globalImplicit) (he : SoundE c n fi σ e (.int k)) (hst : ∀ env, starEach [e] env = [(false, eval e env)]) (h0 : 0 ≤ k) (h1 : k ≤ 100000) (hcap : fi.capt = false) (hx : fi.nt[i]? = some x) :
    SoundSC c n fi σ (exec (.Assign [.Name x p'] (.Call (.Name y q₁) [e] [] q₂) pos)) (.next (σ.set i (some (.ownb (List.replicate k.toNat 0))))) :=
  fun A s W mu val Q E hA hg hP hJ hT hR kk => by
    refine c_Assign_Name (c_Call_Name (by rw [hst]) (hy A s _ q₁ _ _ hJ hR.kind hk hR.gl hR.bl ?_)) rfl
    refine c_callWith_type rfl (c_evalArgs_plain (c_spliced_cons (.of (he A s W mu val _ _ hA hP hJ hT hR fun v h₁ tk₁ p₁ s₁ d₁ => c_spliced_nil ?_))))
    obtain ⟨t, rfl⟩ := den_int d₁
    refine call_bytearray hg h0 h1 fun h₂ hg₂ hk₂ => ?_
    have hn : h₁.get? h₁.objs.size = none := get_fresh
    obtain ⟨R₂, g₂⟩ := Rel.grow (h' := h₂) (hR.step hT s₁) s₁.j hT hk₂ hn ⟨_, hg₂⟩
    refine store_any (s := ⟨h₂, s.gens, s.drawn, tk₁, s.os⟩) p₁ g₂.j R₂ (.inl hcap) hx (av := .ownb (List.replicate k.toNat 0)) ⟨_, 0, rfl, .inr rfl, hg₂⟩
      (fun _ j bv a hj e1 e2 e3 q => ?_) fun h' tk hp g R _ => kk _ _ _ h' tk hp (((Go.of_step s₁).trans g₂ hR.wex).trans g hR.wex) R
    cases q
    have := (hR.step hT s₁).vals j bv e1
    obtain ⟨y, u, f1, f2, f3⟩ := this
    rw [e3] at f2; cases f2
    cases bv with
    | im p => cases e2
    | own l => obtain ⟨b, vs', m, f4, _, f5, _⟩ := f3; cases f4; rw [hn] at f5; cases f5
    | ownb l => obtain ⟨b, m, f4, _, f5⟩ := f3; cases f4; rw [hn] at f5; cases f5

theorem soundC_call1 {x : PySem.Str} {p pos : Pos} {f : Addr} {e : Expr} {a res : PV} (hg : Glob c x (.ref f)) (hk : fi.env.kindOf x = some .globalImplicit) (hf : ∃ o fd, c.G.get? f = some o ∧ o.data = .func fd)
    (he : SoundEC c n fi σ e a) (hst : ∀ env, starEach [e] env = [(false, eval e env)]) (hok : FnOKC c n f [a] res) : SoundEC c n fi σ (.Call (.Name x p) [e] [] pos) res :=
  fun A s W mu val Q E hA hG hP hJ hT hR k => by
    refine c_Call_Name (by rw [hst]) (hg A s _ p _ _ hJ hR.kind hk hR.gl hR.bl ?_)
    obtain ⟨o, fd, ho, hd⟩ := hf
    refine c_callWith_function (o := o) (fd := fd) (c_evalArgs_plain (c_spliced_cons (he A s W mu val _ _ hA hG hP hJ hT hR fun v h₁ tk₁ p₁ s₁ d₁ => c_spliced_nil ⟨⟨s₁.j.ext _ _ ho, hd⟩, ?_⟩)))
    exact hok A _ W [v] _ _ hA hG p₁ s₁.j hT (WEx.step hR.wex s₁) (by unfold DenL; exact ⟨v, [], rfl, d₁, by unfold DenL; rfl⟩) (KontE.next k s₁)
theorem soundC_call2 {x : PySem.Str} {p pos : Pos} {f : Addr} {e e' : Expr} {a b res : PV} (hg : Glob c x (.ref f)) (hk : fi.env.kindOf x = some .globalImplicit) (hf : ∃ o fd, c.G.get? f = some o ∧ o.data = .func fd)
    (he : SoundEC c n fi σ e a) (he' : SoundE c n fi σ e' b) (hst : ∀ env, starEach [e, e'] env = [(false, eval e env), (false, eval e' env)]) (hok : FnOKC c n f [a, b] res) : SoundEC c n fi σ (.Call (.Name x p) [e, e'] [] pos) res :=
  fun A s W mu val Q E hA hG hP hJ hT hR k => by
    refine c_Call_Name (by rw [hst]) (hg A s _ p _ _ hJ hR.kind hk hR.gl hR.bl ?_)
    obtain ⟨o, fd, ho, hd⟩ := hf
    refine c_callWith_function (o := o) (fd := fd) (c_evalArgs_plain (c_spliced_cons (he A s W mu val _ _ hA hG hP hJ hT hR fun v h₁ tk₁ p₁ s₁ d₁ => c_spliced_cons (.of (he' A _ W mu val _ _ hA p₁ s₁.j hT (hR.step hT s₁) fun v₂ h₂ tk₂ p₂ s₂ d₂ => c_spliced_nil ⟨⟨s₂.j.ext _ _ ho, hd⟩, ?_⟩)))))
    exact hok A _ W [v, v₂] _ _ hA hG p₂ s₂.j hT (WEx.step (WEx.step hR.wex s₁) s₂) (by unfold DenL; exact ⟨v, [v₂], rfl, d₁.step hT s₂, by unfold DenL; exact ⟨v₂, [], rfl, d₂, by unfold DenL; rfl⟩⟩) (KontE.next k (s₁.trans s₂))

theorem soundC_bin {l r : Expr} {op : Operator} {pos : Pos} {a b p : PV} (hl : SoundEC c n fi σ l a) (hr : SoundE c n fi σ r b) (ho : Val2 c n (binaryOp op) a b p) : SoundEC c n fi σ (.BinOp l op r pos) p :=
  fun A s W mu val Q E hA hg hP hJ hT hR k => c_BinOp (hl A s W mu val _ _ hA hg hP hJ hT hR fun v₁ h₁ tk₁ p₁ s₁ d₁ => .of (hr A _ W mu val _ _ hA p₁ s₁.j hT (hR.step hT s₁) fun v₂ h₂ tk₂ p₂ s₂ d₂ =>
    ho A _ W v₁ v₂ _ _ hA p₂ s₂.j hT (WEx.step (WEx.step hR.wex s₁) s₂) (d₁.step hT s₂) d₂ (KontE.next k (s₁.trans s₂))))

theorem soundC_for {tgt iter : Expr} {body : List Stmt} {pos : Pos} {tg : Tg} {two : Bool} {items : List PV} {f : Sg → Option Res} {r : Res} (hsrc : SrcOK c n fi σ iter two items) (ht : TgOK fi tgt tg two) (hcap : fi.capt = false)
    (hbody : ∀ σ' r', f σ' = some r' → SoundSC c n fi σ' (execs body) r') (hr : loopR f tg items σ = some r) (hs : ∀ x, foldedSetIterable iter fi.env x = pure x) : SoundSC c n fi σ (exec (.For tgt iter body [] pos)) r :=
  fun A s W mu val Q E hA hg hP hJ hT hR k => by
    refine c_For (hs := hs) (hsrc A s W mu val _ _ hA hP hJ hT hR fun it h₁ tk₁ p₁ s₁ hD => ?_)
    obtain ⟨W₁, Inv, D, I₁, T₁, R₁, _⟩ := hD mu fun _ q => q
    have hC : CapIn fi s.heap := fun q => by rw [hcap] at q; cases q
    refine codeC_for (TurnAt c fi items Inv f tg r s) ?_ items.length ⟨0, W₁, mu, val, σ, h₁, tk₁, rfl, p₁, rfl, Nat.zero_le _, I₁, T₁, s₁.j, R₁, hr⟩
    rintro m s' ⟨j, W', mu', val', σj, h', tk, rfl, hp, rfl, hj, hI, hT', hJ', hR', hl⟩
    by_cases hlt : j < items.length
    · refine loop_cons hlt hl fun σ' r' hb hf hn => ?_
      refine wpAny_mono (D.draw fi tgt tg j items[j] σj σ' W' mu' val' ⟨h', s.gens, s.drawn, tk, s.os⟩ (fun _ s₂ => wpC c.M A (execs body fi.env) (TurnTo c fi items Inv f tg r s Q (items.length - j)) (notedBy c.M A fi.env fun e s' => cameBackBy c.M A fi.env E e s') s₂) _ ht hC (List.getElem?_eq_getElem hlt) hb hI hp hJ' hT' hR' fun val₂ h₂ tk₂ p₂ J₂ R₂ I₂ _ => ?_) (fun r' s₁ h => ?_) fun _ _ e => e
      · refine hbody σ' r' hf A ⟨h₂, s.gens, s.drawn, tk₂, s.os⟩ W' mu' val₂ _ _ hA hg p₂ J₂ hT' R₂ ?_
        cases r' with
        | next σ'' =>
          exact fun W₃ mu₃ val₃ h₃ tk₃ p₃ g₃ R₃ => ⟨items.length - (j + 1), Nat.sub_lt_sub_left hlt (Nat.lt_succ_self _), j + 1, W₃, mu₃, val₃, σ'', h₃, tk₃, rfl, p₃, rfl, hlt, D.frame _ _ _ _ _ _ _ I₂ hT' R₂.muW g₃, g₃.tw hT' R₂.muT, g₃.j, R₃, hn⟩
        | ret p =>
          cases hn
          exact fun W₃ mu₃ v h₃ tk₃ p₃ g₃ d₃ => k W₃ mu₃ v h₃ tk₃ p₃ ((D.base _ _ _ _ I₂).trans g₃ hR.wex) d₃
      · cases r' with
        | none => exact h.elim
        | some v => exact h
    · obtain rfl : j = items.length := Nat.le_antisymm hj (Nat.le_of_not_lt hlt)
      rw [List.drop_length] at hl
      cases hl
      refine wpAny_mono (D.done fi σj W' mu' val' ⟨h', s.gens, s.drawn, tk, s.os⟩ (fun s₁ => Q .next s₁) _ hC hI hp hJ' hT' hR' fun W₃ h₃ tk₃ p₃ g₃ R₃ _ _ => k W₃ mu' val' h₃ tk₃ p₃ g₃ R₃) (fun r' s₁ h => ?_) fun _ _ e => e
      obtain ⟨rfl, h⟩ := h
      exact h
end Mine
end

section
open PySem PySem.W PyProof.Rows
open Sem (wp)
set_option Elab.async false
set_option linter.unusedVariables false
namespace Mine

section
variable {M : Model} {A : Around} {E : Value → Shared → Prop} {s₀ s : Shared} {m cm : PySem.Str → Option Value} {env : Env}

theorem st_local {T₀ : Nat} {n : PySem.Str} {v : Value} {Q : Unit → Shared → Prop} (x : InCallC s₀ env.locals m env.cells cm s) (hP : T₀ < s.toks) (hk : env.scope.kind = .function) (hl : env.kindOf n = some .local)
    (h : ∀ s', InCallC s₀ env.locals (fun y => if y = n then some v else m y) env.cells cm s' → T₀ < s'.toks → Q () s') : wpAny M A (storeName env n v) Q E s := by
  refine wpAny_storeName_local hl x.toInCall.ns (fun h' hn' hs' => h _ ⟨⟨?_, hn', fun b o e => ?_, x.toInCall.fresh⟩, fun k c hc => ?_, x.apart, x.above⟩ (Nat.lt_succ_of_lt hP)) (by rw [hk]; rfl)
  · obtain ⟨h₁, tk, rfl⟩ := x.toInCall.same
    exact ⟨h', _, rfl⟩
  · exact hs'.extBut b o (Nat.ne_of_lt (Nat.lt_of_lt_of_le (Heap.lt_size e) x.toInCall.fresh)) (x.toInCall.keep b o e)
  · exact (x.cell k c hc).sameBut hs' (Nat.ne_of_gt (x.above k c (mem_of_lookup hc)))

theorem st_cell {T₀ : Nat} {n : PySem.Str} {c : Addr} {v : Value} {Q : Unit → Shared → Prop} (x : InCallC s₀ env.locals m env.cells cm s) (hP : T₀ < s.toks) (hk : env.scope.kind = .function) (hl : env.kindOf n = some .cell)
    (hc : env.cells.lookup n = some c)
    (h : ∀ s', InCallC s₀ env.locals m env.cells (fun y => if y = n then some v else cm y) s' → T₀ < s'.toks → Q () s') : wpAny M A (storeName env n v) Q E s := by
  have hLc := x.above n c (mem_of_lookup hc)
  refine wpAny_storeName_cell hk hl hc (x.cell n c hc) fun h' hc' hs' => h _ ⟨⟨?_, x.toInCall.ns.sameBut hs' (Nat.ne_of_lt hLc), fun b o e => ?_, x.toInCall.fresh⟩, fun k c' hk' => ?_, x.apart, x.above⟩ hP
  · obtain ⟨h₁, tk, rfl⟩ := x.toInCall.same
    exact ⟨h', _, rfl⟩
  · exact hs'.extBut b o (Nat.ne_of_lt (Nat.lt_trans (Nat.lt_of_lt_of_le (Heap.lt_size e) x.toInCall.fresh) hLc)) (x.toInCall.keep b o e)
  · by_cases hkn : k = n
    · subst hkn
      rw [hc] at hk'; cases hk'
      simpa using hc'
    · rw [if_neg hkn]
      exact (x.cell k c' hk').sameBut hs' fun e => hkn (name_of_addr x.apart (mem_of_lookup hk') (e ▸ mem_of_lookup hc))

theorem bind_params {T₀ : Nat} (f : PySem.Str × Value → PUnit → Sem (ForInStep PUnit)) (hf : ∀ n v u, f (n, v) u = (do storeName env n v; pure (.yield ⟨⟩))) (hk : env.scope.kind = .function) :
    ∀ (binds : List (PySem.Str × Value)) (m cm : PySem.Str → Option Value) (s : Shared) (Q : PUnit → Shared → Prop), InCallC s₀ env.locals m env.cells cm s → T₀ < s.toks →
      (∀ x ∈ binds, env.kindOf x.1 = some .local ∨ (env.kindOf x.1 = some .cell ∧ (env.cells.lookup x.1).isSome = true)) →
      (∀ s', InCallC s₀ env.locals (bindL env.kindOf binds m) env.cells (bindC env.kindOf binds cm) s' → T₀ < s'.toks → Q ⟨⟩ s') → wpAny M A (forIn binds ⟨⟩ f) Q E s
  | [], m, cm, s, Q, x, hP, _, h => by rw [List.forIn_nil]; exact wpAny_pure (h s x hP)
  | (n, v) :: r, m, cm, s, Q, x, hP, hkind, h => by
    rw [List.forIn_cons, hf]
    have hr : ∀ y ∈ r, env.kindOf y.1 = some .local ∨ (env.kindOf y.1 = some .cell ∧ (env.cells.lookup y.1).isSome = true) := fun y hy => hkind y (List.mem_cons_of_mem _ hy)
    rcases hkind (n, v) List.mem_cons_self with hl | ⟨hl, hc⟩
    · refine wpAny_bind (wpAny_bind (st_local x hP hk hl fun s' x' hP' => wpAny_pure (bind_params f hf hk r _ _ s' Q x' hP' hr fun s'' x'' => h s'' ?_)))
      unfold bindL bindC; rw [if_pos hl, if_pos hl]; exact x''
    · obtain ⟨c, hc⟩ := Option.isSome_iff_exists.mp hc
      have hnl : ¬ env.kindOf n = some .local := by rw [hl]; decide
      refine wpAny_bind (wpAny_bind (st_cell x hP hk hl hc fun s' x' hP' => wpAny_pure (bind_params f hf hk r _ _ s' Q x' hP' hr fun s'' x'' => h s'' ?_)))
      unfold bindL bindC; rw [if_neg hnl, if_neg hnl]; exact x''
end

section
variable {M : Model} {A : Around} {E : Value → Shared → Prop} {s : Shared}
theorem new_env {T₀ : Nat} {scope : Scope} {globals : Addr} {binds : List (PySem.Str × Value)} {qual : PySem.Str} {func : Option Addr} {code : Value} {builtins : Addr} {Q : Env → Shared → Prop}
    (hk : scope.kind = .function) (hP : T₀ < s.toks)
    (hkind : ∀ x ∈ binds, scope.names.lookup x.1 = some .local ∨ (scope.names.lookup x.1 = some .cell ∧ ((cellsFrom (s.heap.objs.size + 1) scope.names []).lookup x.1).isSome = true))
    (hQ : ∀ env, env = newEnv scope s.heap.objs.size globals (cellsFrom (s.heap.objs.size + 1) scope.names []) qual func code none builtins →
      ∀ s', InCallC s env.locals (bindL env.kindOf binds fun _ => none) env.cells (bindC env.kindOf binds fun _ => none) s' → T₀ < s'.toks → Q env s') :
    wpAny M A (newFunctionEnv scope globals [] binds qual func code none builtins) Q E s := by
  simp only [newFunctionEnv, Option.isSome_none, Bool.false_eq_true, if_false]
  refine wpAny_bind (wpAny_alloc ?_)
  refine wpAny_bind (wpAny_layCells _ (fun name kind cells => by cases kind == NameKind.cell <;> simp) _ _ _ _ ?_)
  have ok := cellsFrom_ok scope.names (s.heap.push { cls := .type "frame", data := .dict #[] }) (s.heap.objs.size + 1) [] ⟨fun _ _ hm => (nomatch hm), List.Pairwise.nil⟩ (by rw [Heap.size_push]; exact Nat.le_refl _)
  rw [Heap.size_push] at ok
  rw [show ({ s with heap := s.heap.push { cls := .type "frame", data := .dict #[] } } : Shared).heap.objs.size = s.heap.objs.size + 1 from Heap.size_push ..]
  refine wpAny_bind (bind_params (s₀ := s) (env := newEnv scope s.heap.objs.size globals (cellsFrom (s.heap.objs.size + 1) scope.names []) qual func code none builtins)
    _ (fun _ _ _ => rfl) hk binds (fun _ => none) (fun _ => none) _ _
    ⟨⟨⟨_, _, rfl⟩, (Heap.Ns.new s.heap (.type "frame")).keeps (pushCells_keeps _ _), fun b o e => pushCells_keeps _ _ b o (Heap.get?_push_of_some _ e), Nat.le_refl _⟩,
      fun n c hc => (ok.empty n c (mem_of_lookup hc)).1, ok.apart, fun n c hm => (ok.empty n c hm).2⟩ hP
    hkind fun s' x hP' => wpAny_pure (hQ _ rfl s' x hP'))
end

section
variable {prog : Program} {w : World} {A : Around} {R : Result → Shared → Prop} {s : Shared}
theorem code_enter {T₀ : Nat} {a : Addr} {o : Obj} {fd : FuncData} {body : List Stmt} {vals : List Value} {binds : List (PySem.Str × Value)}
    (hroom : A.depth < recursionLimit) (ho : s.heap.get? a = some o) (hdata : o.data = .func fd) (hlim : s.heap.NoLimit) (hcd : s.heap.CodeRec fd.code fd.qualname) (hP : T₀ < s.toks)
    (hbody : fd.body = .stmts body) (hbind : bindArgs fd ⟨vals, []⟩ = pure binds) (hclo : fd.closure = [])
    (hkind : ∀ x ∈ binds, fd.scope.names.lookup x.1 = some .local ∨ (fd.scope.names.lookup x.1 = some .cell ∧ ((cellsFrom (s.heap.objs.size + 1) fd.scope.names []).lookup x.1).isSome = true))
    (h : ∀ s₁, InCallC s (callEnvC fd s.heap.objs.size a).locals (bindL (callEnvC fd s.heap.objs.size a).kindOf binds fun _ => none) (callEnvC fd s.heap.objs.size a).cells
        (bindC (callEnvC fd s.heap.objs.size a).kindOf binds fun _ => none) s₁ → T₀ < s₁.toks →
      wpAny (model prog w) (A.deeper (callEnvC fd s.heap.objs.size a)) (execs body (callEnvC fd s.heap.objs.size a)) (fun f s' => R (.ok (.ret (match f with | .ret v => v | _ => .none))) s')
        (fun e s' => wpAny (model prog w) (A.deeper (callEnvC fd s.heap.objs.size a)) (leaving (callEnvC fd s.heap.objs.size a) e) (fun _ s'' => R (.error e) s'') (fun e' s'' => R (.error e') s'') s') s₁)
    (hco : fd.scope.isCoroutine = false) (hgen : fd.scope.isGenerator = false) (hk : fd.scope.kind = .function) :
    codeAny (model prog w) A (.call (.ref a) ⟨vals, []⟩) R s := by
  refine codeAny_call_function hroom ho hdata hco hgen hbody hcd ?_
  rw [hbind, hclo]
  refine wpAny_pure (new_env hk hP hkind fun env he s' x hP' => ?_)
  subst he
  exact ⟨hlim.keeps x.toInCall.keep, codeAny_func (h s' x hP')⟩
theorem codeC_enter {T₀ : Nat} {a : Addr} {o : Obj} {fd : FuncData} {body : List Stmt} {vals : List Value} {binds : List (PySem.Str × Value)}
    (hroom : A.depth < recursionLimit) (ho : s.heap.get? a = some o) (hdata : o.data = .func fd) (hlim : s.heap.NoLimit) (hcd : s.heap.CodeRec fd.code fd.qualname) (hP : T₀ < s.toks)
    (hbody : fd.body = .stmts body) (hbind : bindArgs fd ⟨vals, []⟩ = pure binds) (hclo : fd.closure = [])
    (hkind : ∀ x ∈ binds, fd.scope.names.lookup x.1 = some .local ∨ (fd.scope.names.lookup x.1 = some .cell ∧ ((cellsFrom (s.heap.objs.size + 1) fd.scope.names []).lookup x.1).isSome = true))
    (h : ∀ s₁, InCallC s (callEnvC fd s.heap.objs.size a).locals (bindL (callEnvC fd s.heap.objs.size a).kindOf binds fun _ => none) (callEnvC fd s.heap.objs.size a).cells
        (bindC (callEnvC fd s.heap.objs.size a).kindOf binds fun _ => none) s₁ → T₀ < s₁.toks →
      wpC (model prog w) (A.deeper (callEnvC fd s.heap.objs.size a)) (execs body (callEnvC fd s.heap.objs.size a)) (fun f s' => R (.ok (.ret (match f with | .ret v => v | _ => .none))) s')
        (fun e s' => wpAny (model prog w) (A.deeper (callEnvC fd s.heap.objs.size a)) (leaving (callEnvC fd s.heap.objs.size a) e) (fun _ s'' => R (.error e) s'') (fun e' s'' => R (.error e') s'') s') s₁)
    (hco : fd.scope.isCoroutine = false) (hgen : fd.scope.isGenerator = false) (hk : fd.scope.kind = .function) :
    codeC (model prog w) A (.call (.ref a) ⟨vals, []⟩) R s := by
  refine codeC_call_function hroom ho hdata hco hgen hbody hcd ?_
  rw [hbind, hclo]
  refine wpAny_pure (new_env hk hP hkind fun env he s' x hP' => ?_)
  subst he
  exact ⟨hlim.keeps x.toInCall.keep, codeC_func (h s' x hP')⟩
end

theorem cells_acc : ∀ (names : List (PySem.Str × NameKind)) (n : Nat) (acc : List (PySem.Str × Addr)) (x : PySem.Str), (acc.lookup x).isSome = true → ((cellsFrom n names acc).lookup x).isSome = true
  | [], _, _, _, h => h
  | (y, k) :: r, n, acc, x, h => by
    unfold cellsFrom
    split
    · refine cells_acc r _ _ x ?_
      rw [List.lookup_cons]
      split
      · rfl
      · exact h
    · exact cells_acc r n acc x h
theorem cells_some : ∀ (names : List (PySem.Str × NameKind)) (n : Nat) (acc : List (PySem.Str × Addr)) (x : PySem.Str), names.lookup x = some .cell → ((cellsFrom n names acc).lookup x).isSome = true
  | [], _, _, _, h => by cases h
  | (y, k) :: r, n, acc, x, h => by
    rw [List.lookup_cons] at h
    unfold cellsFrom
    cases hb : x == y with
    | true =>
      rw [hb] at h
      cases h
      refine cells_acc r _ _ x ?_
      rw [List.lookup_cons, hb]
      rfl
    | false =>
      rw [hb] at h
      split
      · exact cells_some r _ _ x h
      · exact cells_some r n acc x h
theorem cells_mem : ∀ (names : List (PySem.Str × NameKind)) (n : Nat) (acc : List (PySem.Str × Addr)) (x : PySem.Str) (a : Addr), (x, a) ∈ cellsFrom n names acc → (x, a) ∈ acc ∨ (x, NameKind.cell) ∈ names
  | [], _, _, _, _, h => .inl h
  | (y, k) :: r, n, acc, x, a, h => by
    unfold cellsFrom at h
    split at h
    · rename_i hk
      rcases cells_mem r _ _ x a h with q | q
      · rcases List.mem_cons.mp q with e | q
        · cases e
          refine .inr ?_
          have : k = .cell := by cases k <;> first | rfl | exact absurd hk (by decide)
          rw [this]; exact List.mem_cons_self
        · exact .inl q
      · exact .inr (List.mem_cons_of_mem _ q)
    · rcases cells_mem r n acc x a h with q | q
      · exact .inl q
      · exact .inr (List.mem_cons_of_mem _ q)

theorem bindL_out {k : PySem.Str → Option NameKind} {x : PySem.Str} : ∀ (binds : List (PySem.Str × Value)) (m : PySem.Str → Option Value), (∀ y ∈ binds, y.1 ≠ x) → bindL k binds m x = m x
  | [], _, _ => rfl
  | (n, v) :: r, m, h => by
    unfold bindL
    rw [bindL_out r _ fun y hy => h y (List.mem_cons_of_mem _ hy)]
    have : x ≠ n := fun q => h (n, v) List.mem_cons_self q.symm
    split
    · exact if_neg this
    · rfl
theorem bindC_out {k : PySem.Str → Option NameKind} {x : PySem.Str} : ∀ (binds : List (PySem.Str × Value)) (m : PySem.Str → Option Value), (∀ y ∈ binds, y.1 ≠ x) → bindC k binds m x = m x
  | [], _, _ => rfl
  | (n, v) :: r, m, h => by
    unfold bindC
    rw [bindC_out r _ fun y hy => h y (List.mem_cons_of_mem _ hy)]
    have : x ≠ n := fun q => h (n, v) List.mem_cons_self q.symm
    split
    · rfl
    · exact if_neg this
theorem zip_names {l : List PySem.Str} {vals : List Value} {y : PySem.Str × Value} (h : y ∈ l.zip vals) : y.1 ∈ l := (List.of_mem_zip h).1
theorem bindL_zip {k : PySem.Str → Option NameKind} : ∀ (l : List PySem.Str) (vals : List Value) (m : PySem.Str → Option Value) (i : Nat) (x : PySem.Str) (v : Value), l.Nodup → l[i]? = some x → vals[i]? = some v → k x = some .local → bindL k (l.zip vals) m x = some v
  | [], _, _, _, _, _, _, h, _, _ => by simp at h
  | _ :: _, [], _, _, _, _, _, _, h, _ => by simp at h
  | n :: l, u :: vals, m, 0, x, v, nd, h1, h2, hk => by
    simp at h1 h2; subst h1; subst h2
    rw [List.zip_cons_cons]
    unfold bindL
    rw [bindL_out (x := n) _ _ fun y hy q => (List.nodup_cons.mp nd).1 (by have := zip_names hy; rw [q] at this; exact this), if_pos hk]
    exact if_pos rfl
  | n :: l, u :: vals, m, i + 1, x, v, nd, h1, h2, hk => by
    simp at h1 h2
    rw [List.zip_cons_cons]
    unfold bindL
    exact bindL_zip l vals _ i x v (List.nodup_cons.mp nd).2 h1 h2 hk
theorem bindC_zip {k : PySem.Str → Option NameKind} : ∀ (l : List PySem.Str) (vals : List Value) (m : PySem.Str → Option Value) (i : Nat) (x : PySem.Str) (v : Value), l.Nodup → l[i]? = some x → vals[i]? = some v → k x ≠ some .local → bindC k (l.zip vals) m x = some v
  | [], _, _, _, _, _, _, h, _, _ => by simp at h
  | _ :: _, [], _, _, _, _, _, _, h, _ => by simp at h
  | n :: l, u :: vals, m, 0, x, v, nd, h1, h2, hk => by
    simp at h1 h2; subst h1; subst h2
    rw [List.zip_cons_cons]
    unfold bindC
    rw [bindC_out (x := n) _ _ fun y hy q => (List.nodup_cons.mp nd).1 (by have := zip_names hy; rw [q] at this; exact this), if_neg hk]
    exact if_pos rfl
  | n :: l, u :: vals, m, i + 1, x, v, nd, h1, h2, hk => by
    simp at h1 h2
    rw [List.zip_cons_cons]
    unfold bindC
    exact bindC_zip l vals _ i x v (List.nodup_cons.mp nd).2 h1 h2 hk

variable {c : Cx} {n : Nat}

/-- a def of the text, as it stands in the heap -/
structure Fun (c : Cx) (f : Addr) (fd : FuncData) (body : List Stmt) (nt : List PySem.Str) (np : Nat) : Prop where
  get : ∃ o, c.G.get? f = some o ∧ o.data = .func fd
  lim : c.G.NoLimit
  cod : c.G.CodeRec fd.code fd.qualname
  bd : fd.body = .stmts body
  bind : ∀ vals : List Value, vals.length = np → bindArgs fd ⟨vals, []⟩ = pure ((nt.take np).zip vals)
  clo : fd.closure = []
  co : fd.scope.isCoroutine = false
  gen : fd.scope.isGenerator = false
  kind : fd.scope.kind = .function
  gl : fd.globals = mainGlobals
  bl : fd.builtins = builtinsNs
  len : np ≤ nt.length
  nd : nt.Nodup
  names : ∀ (i : Nat) (x : PySem.Str), nt[i]? = some x → fd.scope.names.lookup x = some .local ∨ fd.scope.names.lookup x = some .cell
  cells : ∀ y ∈ fd.scope.names, y.2 = .cell → fd.scope.names.lookup y.1 = some .cell
  ndb : ∀ (i : Nat) (x : PySem.Str), nt[i]? = some x → (x == (PySem.Str.ofString "__debug__")) = false ∧ (x == (PySem.Str.ofString "__classdict__")) = false

noncomputable def fiF (fd : FuncData) (f : Addr) (nt : List PySem.Str) (L : Addr) : FI :=
  { env := callEnvC fd L f, nt := nt, place := fun i => (nt[i]?).bind fun x => (cellsFrom (L + 1) fd.scope.names []).lookup x, capt := false }

noncomputable def argSg (args : List PV) (nv : Nat) : Sg := args.map (fun v => some (AV.im v)) ++ List.replicate (nv - args.length) none

theorem argSg_get {args : List PV} {nv i : Nat} {av : AV} (e : (argSg args nv)[i]? = some (some av)) : ∃ p, args[i]? = some p ∧ av = .im p := by
  unfold argSg at e
  by_cases h : i < args.length
  · rw [List.getElem?_append_left (by simpa using h), List.getElem?_map] at e
    cases q : args[i]? with
    | none => rw [q] at e; cases e
    | some p => rw [q] at e; simp at e; exact ⟨p, rfl, e.symm⟩
  · rw [List.getElem?_append_right (by simpa using h), List.getElem?_replicate] at e
    split at e <;> cases e

theorem denL_get {h : Heap} {W : Addr → Prop} : ∀ {ps : List PV} {vs : List Value} {i : Nat} {p : PV}, DenL h W ps vs → ps[i]? = some p → ∃ v, vs[i]? = some v ∧ Den h W p v
  | [], _, i, p, _, e => by simp at e
  | q :: ps, vs, 0, p, d, e => by
    obtain ⟨v, r, rfl, d1, d2⟩ := d.out
    simp at e; subst e
    exact ⟨v, rfl, d1⟩
  | q :: ps, vs, i + 1, p, d, e => by
    obtain ⟨v, r, rfl, d1, d2⟩ := d.out
    simp at e
    simpa using denL_get d2 e

/-- what stands where a def's body begins -/
theorem Fun.rel {f : Addr} {fd : FuncData} {body : List Stmt} {nt : List PySem.Str} {np : Nat} {args : List PV} {s s₁ : Shared} {W : Addr → Prop} {vs : List Value} (F : Fun c f fd body nt np) (hJ : J c s.heap) (hW : WEx W s.heap) (hT : TW c W)
    (d : DenL s.heap W args vs) (hlen : args.length = np)
    (x : InCallC s (callEnvC fd s.heap.objs.size f).locals (bindL (callEnvC fd s.heap.objs.size f).kindOf ((nt.take np).zip vs) fun _ => none) (callEnvC fd s.heap.objs.size f).cells (bindC (callEnvC fd s.heap.objs.size f).kindOf ((nt.take np).zip vs) fun _ => none) s₁) :
    Rel c (fun b => W b ∨ (s.heap.get? b = none ∧ ∃ o, s₁.heap.get? b = some o)) (fun b => s.heap.get? b = none ∧ ∃ o, s₁.heap.get? b = some o) s₁.heap (fiF fd f nt s.heap.objs.size) (fun i => vs[i]?) (argSg args nt.length) := by
  have hvl : vs.length = np := by have := d.length; omega
  have hL : s.heap.get? s.heap.objs.size = none := get_fresh
  have take_get : ∀ {i : Nat} {y : PySem.Str} {v : Value}, nt[i]? = some y → vs[i]? = some v → (nt.take np)[i]? = some y := fun {i y v} h1 h2 => by
    have : i < vs.length := (List.getElem?_eq_some_iff.mp h2).1
    rw [List.getElem?_take_of_lt (by omega)]; exact h1
  have hnd : (nt.take np).Nodup := F.nd.sublist (List.take_sublist _ _)
  have cin : ∀ {y : PySem.Str} {a : Addr}, (cellsFrom (s.heap.objs.size + 1) fd.scope.names []).lookup y = some a → (fd.scope.names.lookup y = some .cell) ∧ s.heap.get? a = none := fun {y a} h => by
    have hm := mem_of_lookup h
    refine ⟨?_, ?_⟩
    · rcases cells_mem _ _ _ _ _ hm with q | q
      · cases q
      · exact F.cells _ q rfl
    · have := x.above y a hm
      have hlt : s.heap.objs.size < a := this
      cases q : s.heap.get? a with
      | none => rfl
      | some o => exact absurd (Nat.lt_trans hlt (Heap.lt_size q)) (Nat.lt_irrefl _)
  exact {
    kind := F.kind
    gl := F.gl
    bl := F.bl
    wex := fun b hb => hb.elim (fun q => let ⟨o, e⟩ := hW b q; ⟨o, x.toInCall.keep b o e⟩) fun q => q.2
    muW := fun b q => .inr q
    muT := fun b q z => by obtain ⟨o, e, _⟩ := hJ.tab b z; rw [q.1] at e; cases e
    muG := fun b q => by
      cases z : c.G.get? b with
      | none => rfl
      | some o => have := hJ.ext b o z; rw [q.1] at this; cases this
    lmu := ⟨hL, by obtain ⟨o, _, _, e, _⟩ := x.toInCall.ns; exact ⟨o, e⟩⟩
    loc := ⟨_, x.toInCall.ns, fun i y h1 h2 => by
      have hk : fd.scope.names.lookup y = some .local := by
        rcases F.names i y h1 with q | q
        · exact q
        · have := cells_some fd.scope.names (s.heap.objs.size + 1) [] y q
          have h1 : nt[i]? = some y := h1
          have h2 : (nt[i]?).bind (fun x => (cellsFrom (s.heap.objs.size + 1) fd.scope.names []).lookup x) = none := h2
          rw [h1] at h2
          have h2 : (cellsFrom (s.heap.objs.size + 1) fd.scope.names []).lookup y = none := h2
          rw [h2] at this; cases this
      exact ⟨hk, fun v hv => bindL_zip _ _ _ i y v hnd (take_get h1 hv) hv hk⟩⟩
    cel := fun i y a h1 h2 => by
      have h2 : (cellsFrom (s.heap.objs.size + 1) fd.scope.names []).lookup y = some a := by
        have h1 : nt[i]? = some y := h1
        simpa [fiF, h1] using h2
      obtain ⟨hk, hn⟩ := cin h2
      obtain ⟨o, ho, hd⟩ := x.cell y a h2
      refine ⟨h2, .inr ⟨hn, o, ho⟩, (fun z => by obtain ⟨o, e, _⟩ := hJ.tab a z; rw [hn] at e; cases e), .inl hk, o, _, ho, hd, fun v hv => ?_⟩
      exact bindC_zip _ _ _ i y v hnd (take_get h1 hv) hv (by show fd.scope.names.lookup y ≠ _; rw [hk]; decide)
    cmu := fun _ i y a h1 h2 => by
      have h2 : (cellsFrom (s.heap.objs.size + 1) fd.scope.names []).lookup y = some a := by
        have h1 : nt[i]? = some y := h1
        simpa [fiF, h1] using h2
      obtain ⟨hk, hn⟩ := cin h2
      obtain ⟨o, ho, hd⟩ := x.cell y a h2
      exact ⟨⟨hn, o, ho⟩, hk⟩
    celd := fun i j a h1 h2 => by
      simp only [fiF] at h1 h2
      cases e1 : nt[i]? with
      | none => rw [e1] at h1; cases h1
      | some y =>
        cases e2 : nt[j]? with
        | none => rw [e2] at h2; cases h2
        | some z =>
          rw [e1] at h1; rw [e2] at h2
          have : y = z := name_of_addr x.apart (mem_of_lookup h1) (mem_of_lookup h2)
          subst this
          exact (List.getElem?_inj (List.getElem?_eq_some_iff.mp e1).1 F.nd).mp (e1.trans e2.symm)
    vals := fun i av e => by
      obtain ⟨p, hp, rfl⟩ := argSg_get e
      obtain ⟨v, hv, hd⟩ := denL_get d hp
      have hi : i < nt.length := by
        have := (List.getElem?_eq_some_iff.mp hp).1
        have := F.len; omega
      exact ⟨nt[i], v, List.getElem?_eq_getElem hi, hv, Den.keeps ⟨fun b o e _ => x.toInCall.keep b o e, fun b o e q => q.elim id fun q => by rw [q.1] at e; cases e⟩ hd⟩
    sep := fun i j a av bv e1 _ o1 _ _ _ => by
      obtain ⟨p, hp, rfl⟩ := argSg_get e1
      cases o1
    nd := fun i j y h1 h2 => by
      have h1 : nt[i]? = some y := h1
      have h2 : nt[j]? = some y := h2
      exact (List.getElem?_inj (List.getElem?_eq_some_iff.mp h1).1 F.nd).mp (h1.trans h2.symm)
    ndb := F.ndb }

noncomputable def resV : Res → PV
  | .ret v => v
  | .next _ => .none

theorem Fun.out {f : Addr} {fd : FuncData} {body : List Stmt} {nt : List PySem.Str} {np : Nat} {s s₁ : Shared} {W : Addr → Prop} {r : Res} {Q : Value → Shared → Prop} (F : Fun c f fd body nt np) (hJ : J c s.heap) (hW : WEx W s.heap) (hT : TW c W)
    (hsame : ∃ h tk, s₁ = { s with heap := h, toks := tk }) (hkeep : ∀ b o, s.heap.get? b = some o → s₁.heap.get? b = some o) (k : KontE c s W (resV r) Q) :
    KontS c s₁ (fun b => W b ∨ (s.heap.get? b = none ∧ ∃ o, s₁.heap.get? b = some o)) (fun b => s.heap.get? b = none ∧ ∃ o, s₁.heap.get? b = some o) (fiF fd f nt s.heap.objs.size) r (fun fl s' => Q (match fl with | .ret v => v | _ => .none) s') := by
  obtain ⟨h₁, tk₁, rfl⟩ := hsame
  have step : ∀ W' mu' h', Go c (fun b => W b ∨ (s.heap.get? b = none ∧ ∃ o, h₁.get? b = some o)) (fun b => s.heap.get? b = none ∧ ∃ o, h₁.get? b = some o) h₁ W' mu' h' → Step c s.heap h' := fun W' mu' h' g =>
    ⟨fun b o e nt => g.kept b o (hkeep b o e) nt (fun q => by rw [q.1] at e; cases e), g.j⟩
  cases r with
  | next σ' => exact fun W' mu' val' h' tk p g R => k .none h' tk p (step W' mu' h' g) (by show Den _ _ .none _; unfold Den; rfl)
  | ret p =>
    refine fun W' mu' v h' tk hp g d => k v h' tk hp (step W' mu' h' g) (Den.keeps ⟨fun b o e _ => e, fun b o e q => ?_⟩ d)
    exact g.wk b (.inl q) fun z => by obtain ⟨o', e'⟩ := hW b q; rw [z.1] at e'; cases e'

/-- a def is entered -/
theorem Fun.go {f : Addr} {fd : FuncData} {body : List Stmt} {nt : List PySem.Str} {np : Nat} {args : List PV} {A : Around} {s : Shared} {W : Addr → Prop} {vs : List Value} {Q E : Value → Shared → Prop} {t₀ : Nat} (F : Fun c f fd body nt np) (hA : Room A (n + 1)) (hP : t₀ < s.toks) (hJ : J c s.heap) (hT : TW c W) (hW : WEx W s.heap)
    (d : DenL s.heap W args vs) (hlen : args.length = np)
    (h : ∀ h₁ tk₁, t₀ < tk₁ → (∀ b o, s.heap.get? b = some o → h₁.get? b = some o) → J c h₁ → Room (A.deeper (callEnvC fd s.heap.objs.size f)) n → TW c (fun b => W b ∨ (s.heap.get? b = none ∧ ∃ o, h₁.get? b = some o)) →
      Rel c (fun b => W b ∨ (s.heap.get? b = none ∧ ∃ o, h₁.get? b = some o)) (fun b => s.heap.get? b = none ∧ ∃ o, h₁.get? b = some o) h₁ (fiF fd f nt s.heap.objs.size) (fun i => vs[i]?) (argSg args nt.length) →
      wpAny c.M (A.deeper (callEnvC fd s.heap.objs.size f)) (execs body (callEnvC fd s.heap.objs.size f)) (fun fl s' => Q (match fl with | .ret v => v | _ => .none) s')
        (fun e s' => wpAny c.M (A.deeper (callEnvC fd s.heap.objs.size f)) (leaving (callEnvC fd s.heap.objs.size f) e) (fun _ s'' => E e s'') (fun e' s'' => E e' s'') s') { s with heap := h₁, toks := tk₁ }) : wpAny c.M A (call (.ref f) vs) Q E s := by
  obtain ⟨o, ho, hd⟩ := F.get
  have hvl : vs.length = np := by have := d.length; omega
  have hkind : ∀ (h : Heap) (x : PySem.Str × Value), x ∈ (nt.take np).zip vs → fd.scope.names.lookup x.1 = some .local ∨ (fd.scope.names.lookup x.1 = some .cell ∧ ((cellsFrom (h.objs.size + 1) fd.scope.names []).lookup x.1).isSome = true) := fun h x hx => by
    have := List.mem_of_mem_take (zip_names hx)
    obtain ⟨i, hi⟩ := List.getElem?_of_mem this
    rcases F.names i x.1 hi with q | q
    · exact .inl q
    · exact .inr ⟨q, cells_some _ _ _ _ q⟩
  refine wpAny_call (code_enter (Nat.lt_of_le_of_lt (Nat.le_add_right _ _) hA.depth) (hJ.ext _ _ ho) hd (F.lim.keeps fun b o e => hJ.ext b o e) (F.cod.keeps fun b o e => hJ.ext b o e) hP F.bd (F.bind vs hvl) F.clo (hkind s.heap) (fun s₁ x hP₁ => ?_) F.co F.gen F.kind)
  have R := F.rel hJ hW hT d hlen x
  have keep := x.toInCall.keep
  obtain ⟨h₁, tk₁, rfl⟩ := x.toInCall.same
  have hA' : Room (A.deeper (callEnvC fd s.heap.objs.size f)) n := ⟨hA.handled, by have := hA.depth; show A.depth + 1 + n < _; omega, by have := hA.units; show A.units + 3 + 20 * n + 100 < _; omega⟩
  exact h h₁ tk₁ hP₁ keep (hJ.all keep) hA' (fun b q => .inl (hT b q)) R
theorem Fun.enter {f : Addr} {fd : FuncData} {body : List Stmt} {nt : List PySem.Str} {np : Nat} {args : List PV} {r : Res} (F : Fun c f fd body nt np) (hlen : args.length = np)
    (h : ∀ L, SoundS c n (fiF fd f nt L) (argSg args nt.length) (execs body) r) : FnOK c (n + 1) f args (resV r) :=
  fun A s W vs Q E hA hP hJ hT hW d k => F.go hA hP hJ hT hW d hlen fun h₁ tk₁ p₁ keep J₁ hA' hT' R =>
    h s.heap.objs.size _ ⟨h₁, s.gens, s.drawn, tk₁, s.os⟩ _ _ _ _ _ hA' p₁ J₁ hT' R (F.out hJ hW hT ⟨h₁, tk₁, rfl⟩ keep k)

theorem Fun.enterC {f : Addr} {fd : FuncData} {body : List Stmt} {nt : List PySem.Str} {np : Nat} {args : List PV} {r : Res} (F : Fun c f fd body nt np) (hlen : args.length = np)
    (h : ∀ L, SoundSC c n (fiF fd f nt L) (argSg args nt.length) (execs body) r) : FnOKC c (n + 1) f args (resV r) := by
  intro A s W vs Q E hA hG hP hJ hT hW d k
  obtain ⟨o, ho, hd⟩ := F.get
  have hvl : vs.length = np := by have := d.length; omega
  have hkind : ∀ (h : Heap) (x : PySem.Str × Value), x ∈ (nt.take np).zip vs → fd.scope.names.lookup x.1 = some .local ∨ (fd.scope.names.lookup x.1 = some .cell ∧ ((cellsFrom (h.objs.size + 1) fd.scope.names []).lookup x.1).isSome = true) := fun h x hx => by
    have := List.mem_of_mem_take (zip_names hx)
    obtain ⟨i, hi⟩ := List.getElem?_of_mem this
    rcases F.names i x.1 hi with q | q
    · exact .inl q
    · exact .inr ⟨q, cells_some _ _ _ _ q⟩
  refine wpC_call (codeC_enter (Nat.lt_of_le_of_lt (Nat.le_add_right _ _) hA.depth) (hJ.ext _ _ ho) hd (F.lim.keeps fun b o e => hJ.ext b o e) (F.cod.keeps fun b o e => hJ.ext b o e) hP F.bd (F.bind vs hvl) F.clo (hkind s.heap) (fun s₁ x hP₁ => ?_) F.co F.gen F.kind)
  have R := F.rel hJ hW hT d hlen x
  have J₁ : J c s₁.heap := hJ.all x.toInCall.keep
  have hA' : Room (A.deeper (callEnvC fd s.heap.objs.size f)) n := ⟨hA.handled, by have := hA.depth; show A.depth + 1 + n < _; omega, by have := hA.units; show A.units + 3 + 20 * n + 100 < _; omega⟩
  exact h s.heap.objs.size _ s₁ _ _ _ _ _ hA' hG hP₁ J₁ (fun b q => .inl (hT b q)) R (F.out hJ hW hT x.toInCall.same x.toInCall.keep k)
end Mine
end

section
open PySem PySem.W PyProof.Rows
open Sem (wp)
set_option Elab.async false
set_option linter.unusedVariables false
namespace Mine

structure Rp where
  gl : PySem.Str → Option Value
  ad : Nat → Addr
  pats : Addr → Option Bool

noncomputable def plainF (f : Nat) : Bool := !(f == 10 || f == 11)
noncomputable def isPlainE : PE → Bool
  | .not _ => false | .and _ _ => false | .or _ _ => false | .cmp _ _ _ => false | _ => true
/-- countOf of a text's sign -/
noncomputable def CntS (c : Cx) (n : Nat) (f : Addr) : Prop :=
  ∀ (A : Around) (s : Shared) (W : Addr → Prop) (v : Value) (t : Tok) (l : List Nat) (ch : Nat) (Q E : Value → Shared → Prop), Room A n → 0 < s.toks → J c s.heap → TW c W → WEx W s.heap → Den s.heap W (.str l) v → ascii l = true → l.length ≤ 100000 → ch < 128 → 0 < t → t < s.toks →
    KontE c s W (.int (countN ch l)) Q → wpAny c.M A (call (.ref f) [v, .str (S [ch]) t]) Q E s
/-- countOf of one of a row's cells -/
noncomputable def CntC (c : Cx) (n : Nat) (f : Addr) : Prop :=
  ∀ (A : Around) (s : Shared) (W : Addr → Prop) (a : Addr) (vs : List Value) (m : Nat) (g : Tok → Int) (l : List (Int × Int)) (k : Nat) (p : Int × Int) (v : Value) (Q E : Value → Shared → Prop), Room A n → 0 < s.toks → J c s.heap → TW c W → WEx W s.heap → ¬ W a → s.heap.get? a = some (listO vs m) → CellL s.heap W g l vs → l.length ≤ 100000 →
    l[k]? = some p → vs[k]? = some v → KontE c s W (.int (countP p l)) Q → wpAny c.M A (call (.ref f) [.ref a, v]) Q E s

structure Base (c : Cx) (n : Nat) (R : Rp) : Prop where
  gl : ∀ x v, R.gl x = some v → Glob c x v
  pats : ∀ pa k, R.pats pa = some k → IsPat c.G pa k
  fn9 : ∃ o fd, c.G.get? (R.ad 9) = some o ∧ o.data = .func fd
  cS : CntS c n (R.ad 9)
  cC : CntC c n (R.ad 9)
structure Fns (c : Cx) (n : Nat) (R : Rp) (G : Nat → List PV → Option PV) : Prop where
  fn : ∀ f args res, G f args = some res → ∃ o fd, c.G.get? (R.ad f) = some o ∧ o.data = .func fd
  ok : ∀ f args res, plainF f = true → G f args = some res → FnOK c n (R.ad f) args res
  okC : ∀ f args res, G f args = some res → FnOKC c n (R.ad f) args res

variable {c : Cx} {n : Nat} {R : Rp} {G : Nat → List PV → Option PV} {fi : FI}

/-! The evaluator's word for a piece of the text holds of the piece: at every depth, for whatever the other defs give. -/
structure RepE (R : Rp) (fi : FI) (e : Expr) (a : PE) : Prop where
  out : ∀ ⦃c : Cx⦄ ⦃n : Nat⦄ ⦃G : Nat → List PV → Option PV⦄, Base c n R → Fns c n R G → ∀ (k : Nat) (σ : Sg) (v : PV), ev G k false σ a = some v → SoundE c n fi σ e v
structure RepT (R : Rp) (fi : FI) (e : Expr) (a : PE) : Prop where
  out : ∀ ⦃c : Cx⦄ ⦃n : Nat⦄ ⦃G : Nat → List PV → Option PV⦄, Base c n R → Fns c n R G → ∀ (k : Nat) (σ : Sg) (b : Bool), ev G k true σ a = some (.bool b) → SoundT c n fi σ e b
structure EsOK (c : Cx) (n : Nat) (fi : FI) (σ : Sg) (es : List Expr) (as : List PE) (vs : List PV) : Prop where
  ok : SoundEs c n fi σ es vs
  ne : as.isEmpty = false → vs ≠ []
  len : vs.length = as.length
structure RepEs (R : Rp) (fi : FI) (es : List Expr) (as : List PE) : Prop where
  out : ∀ ⦃c : Cx⦄ ⦃n : Nat⦄ ⦃G : Nat → List PV → Option PV⦄, Base c n R → Fns c n R G → ∀ (k : Nat) (σ : Sg) (vs : List PV), evL (ev G k false σ) as = some vs → EsOK c n fi σ es as vs
structure RepSrc (R : Rp) (fi : FI) (e : Expr) (two : Bool) (kd : SK) (as : List PE) : Prop where
  out : ∀ ⦃c : Cx⦄ ⦃n : Nat⦄ ⦃G : Nat → List PV → Option PV⦄, Base c n R → Fns c n R G → ∀ (k : Nat) (σ : Sg) (vs items : List PV), evL (ev G k false σ) as = some vs → srcPV kd vs = some items → SrcOK c n fi σ e two items

theorem evL_cons {f : PE → Option PV} {a : PE} {as : List PE} {vs : List PV} {P : Prop} (e : evL f (a :: as) = some vs) (k : ∀ v ws, f a = some v → evL f as = some ws → v :: ws = vs → P) : P :=
  bd_out e fun v h1 e => mp_out e fun ws h2 e => k v ws h1 h2 e
theorem evL_one {f : PE → Option PV} {a : PE} {vs : List PV} {P : Prop} (e : evL f [a] = some vs) (k : ∀ v, f a = some v → [v] = vs → P) : P :=
  evL_cons e fun v ws h1 h2 e => k v h1 (Option.some.inj h2 ▸ e)

theorem fits_le {n : Nat} (h : fits n = true) : n ≤ 100000 := by simpa [fits, Nat.ble_eq] using h

/-! what is run over -/
structure Rng1 (v : PV) (items : List PV) (m : Int) : Prop where
  v : v = .int m
  hi : m ≤ 100000
  lo : -100000 ≤ m
  it : rangeL 0 1 m.toNat = items
theorem rng1_out {v : PV} {items : List PV} {P : Prop} (e : rng1PV v = some items) (k : ∀ m, Rng1 v items m → P) : P :=
  oInt_out e fun m hv e => if_out e fun hc e => so_out e fun e => have := and2 hc; k m ⟨hv, this.1, this.2, e⟩
structure Rng3 (u v w : PV) (items : List PV) (a b d : Int) : Prop where
  u : u = .int a
  v : v = .int b
  w : w = .int d
  a0 : 0 ≤ a
  ab : a ≤ b
  hi : b ≤ 100000
  d0 : 0 < d
  d1 : d ≤ 100000
  it : rangeL a d ((b - a + d - 1) / d).toNat = items
theorem rng3_out {u v w : PV} {items : List PV} {P : Prop} (e : rng3PV u v w = some items) (k : ∀ a b d, Rng3 u v w items a b d → P) : P :=
  oInt_out e fun a hu e => oInt_out e fun b hv e => oInt_out e fun d hw e => if_out e fun hc e => so_out e fun e => by
    simp only [Bool.and_eq_true, decide_eq_true_eq] at hc
    exact k a b d ⟨hu, hv, hw, hc.1.1.1.1, hc.1.1.1.2, hc.1.1.2, hc.1.2, hc.2, e⟩
theorem rng3_len {a b d : Int} (h0 : 0 ≤ a) (hb : b ≤ 100000) (hd : 0 < d) : ((b - a + d - 1) / d).toNat ≤ 100000 := by
  have h1 : (b - a + d - 1) / d < 100001 := Int.ediv_lt_of_lt_mul hd (by omega)
  omega
theorem src_len {k : SK} {vs items : List PV} (e : srcPV k vs = some items) : items.length ≤ 100000 := by
  cases k
  · refine o1_out e fun v _ e => ?_
    cases v <;> try cases e
    all_goals exact if_out e fun hf e => so_out e fun e => e ▸ fits_le hf
  · match vs, e with
    | [v], e =>
      refine rng1_out e fun m r => ?_
      rw [← r.it, rangeL_len]
      have := r.hi
      omega
    | [u, v, w], e =>
      refine rng3_out e fun a b d r => ?_
      rw [← r.it, rangeL_len]
      exact rng3_len r.a0 r.hi r.d0
  · refine o1_out e fun v _ e => ?_
    cases v <;> try cases e
    all_goals exact if_out e fun hf e => so_out e fun e => e ▸ by simp only [enumL_len, List.length_map]; exact fits_le hf
  · exact o1_out e fun v _ e => oLst_out e fun l _ e => if_out e fun hf e => so_out e fun e => e ▸ by rw [List.length_reverse]; exact fits_le hf
end Mine
end

section
open PySem PySem.W PyProof.Rows
open Sem (wp)
set_option Elab.async false
set_option linter.unusedVariables false
namespace Mine

variable {c : Cx} {n : Nat} {R : Rp} {G : Nat → List PV → Option PV} {fi : FI}

theorem evT_plain {k : Nat} {σ : Sg} {a : PE} (hp : isPlainE a = true) : ev G (k + 1) true σ a = (ev G k false σ a).bind fun v => (truthPV v).map .bool := by
  cases a <;> first | rfl | cases hp

inductive IsPair (v : PV) : Prop where
  | mk (x y : PV) (e : v = .tup [x, y]) : IsPair v
theorem ev_tup2 {k : Nat} {σ : Sg} {a b : PE} {v : PV} (e : ev G k false σ (.tup [a, b]) = some v) : IsPair v :=
  ev_step e fun k e => mp_out e fun vs h e => evL_cons h fun x ws _ h h1 => evL_one h fun y _ h2 => ⟨x, y, by rw [← e, ← h1, ← h2]⟩
theorem ev_lst_out {k : Nat} {σ : Sg} {as : List PE} {v : PV} {P : Prop} (h : ev G k false σ (.lst as) = some v) (q : ∀ k ws, fits as.length = true → evL (ev G k false σ) as = some ws → .lst ws = v → P) : P :=
  ev_step h fun k h => if_out h fun hf h => mp_out h fun ws h3 e => q k ws hf h3 e
theorem RepSrc.direct {e : Expr} {a : PE} (r : RepE R fi e a) : RepSrc R fi e false .direct [a] := .mk fun _ _ _ B F k σ vs items h1 h2 =>
  evL_one h1 fun v h e => by
    subst e
    have hv := r.out B F k σ v h
    have h2 : dirPV v = some items := h2
    cases v <;> try cases h2
    · exact if_out h2 fun _ e => so_out e fun e => e ▸ src_tuple hv
    · exact if_out h2 fun _ e => so_out e fun e => e ▸ src_list hv
theorem RepSrc.pairs {e : Expr} {a b d f : PE} (r : RepE R fi e (.lst [.tup [a, b], .tup [d, f]])) (_ : 0 = 0) : RepSrc R fi e true .direct [.lst [.tup [a, b], .tup [d, f]]] := .mk fun _ _ _ B F k σ vs items h1 h2 =>
  evL_one h1 fun v h e => by
    subst e
    have hv := r.out B F k σ v h
    refine ev_lst_out h fun k ws hf h3 e => evL_cons h3 fun v ws h4 h3 e' => evL_one h3 fun w h5 e'' => ?_
    obtain ⟨x, y, rfl⟩ := ev_tup2 h4
    obtain ⟨x', y', rfl⟩ := ev_tup2 h5
    subst e'' e' e
    have e : [PV.tup [x, y], PV.tup [x', y']] = items := Option.some.inj h2
    subst e
    exact src_pairs hv rfl
theorem RepSrc.range1 {x : PySem.Str} {p pos : Pos} {e : Expr} {a : PE} (hg : R.gl x = some (.type "range")) (hk : fi.env.kindOf x = some .globalImplicit) (r : RepE R fi e a) (hs : ∀ a b, e ≠ .Starred a b) : RepSrc R fi (.Call (.Name x p) [e] [] pos) false .range [a] := .mk fun _ _ _ B F k σ vs items h1 h2 =>
  evL_one h1 fun v h e => by
    subst e
    refine rng1_out h2 fun m q => ?_
    rw [← q.it]
    exact src_range1 (B.gl _ _ hg) hk (q.v ▸ r.out B F k σ v h) hs q.hi q.lo
theorem RepSrc.range3 {x : PySem.Str} {p pos : Pos} {e₁ e₂ e₃ : Expr} {a b d : PE} (hg : R.gl x = some (.type "range")) (hk : fi.env.kindOf x = some .globalImplicit) (r1 : RepE R fi e₁ a) (r2 : RepE R fi e₂ b) (r3 : RepE R fi e₃ d)
    (s1 : ∀ a b, e₁ ≠ .Starred a b) (s2 : ∀ a b, e₂ ≠ .Starred a b) (s3 : ∀ a b, e₃ ≠ .Starred a b) : RepSrc R fi (.Call (.Name x p) [e₁, e₂, e₃] [] pos) false .range [a, b, d] := .mk fun _ _ _ B F k σ vs items h1 h2 =>
  evL_cons h1 fun v1 _ f1 h1 e1 => evL_cons h1 fun v2 _ f2 h1 e2 => evL_one h1 fun v3 f3 e3 => by
    subst e3 e2 e1
    refine rng3_out h2 fun a b d q => ?_
    rw [← q.it]
    exact src_range3 (B.gl _ _ hg) hk (q.u ▸ r1.out B F k σ v1 f1) (q.v ▸ r2.out B F k σ v2 f2) (q.w ▸ r3.out B F k σ v3 f3) s1 s2 s3 q.a0 q.ab q.hi q.d0 q.d1
theorem RepSrc.rev {x : PySem.Str} {p pos : Pos} {e : Expr} {a : PE} (hg : R.gl x = some (.type "reversed")) (hk : fi.env.kindOf x = some .globalImplicit) (r : RepE R fi e a) (hs : ∀ a b, e ≠ .Starred a b) : RepSrc R fi (.Call (.Name x p) [e] [] pos) false .rev [a] := .mk fun _ _ _ B F k σ vs items h1 h2 =>
  evL_one h1 fun v h e => by
    subst e
    exact oLst_out h2 fun l hl e => if_out e fun _ e => so_out e fun e => e ▸ src_rev (B.gl _ _ hg) hk (hl ▸ r.out B F k σ v h) hs
theorem RepSrc.enum {x : PySem.Str} {p pos : Pos} {e : Expr} {a : PE} (hg : R.gl x = some (.type "enumerate")) (hk : fi.env.kindOf x = some .globalImplicit) (r : RepE R fi e a) (hs : ∀ a b, e ≠ .Starred a b) : RepSrc R fi (.Call (.Name x p) [e] [] pos) true .enum [a] := .mk fun _ _ _ B F k σ vs items h1 h2 =>
  evL_one h1 fun v h e => by
    subst e
    have hv := r.out B F k σ v h
    have h2 : numPV v = some items := h2
    cases v <;> try cases h2
    · exact if_out h2 fun _ e => so_out e fun e => e ▸ src_enumB (B.gl _ _ hg) hk hv hs
    · exact if_out h2 fun _ e => so_out e fun e => e ▸ src_enumL (B.gl _ _ hg) hk hv hs

theorem sgC_two {tg : Tg} {σ : Sg} {caps : List Nat} : compSg tg (capsOf σ caps) = sgC (match tg with | .one _ => 1 | .two _ _ => 2) σ caps := by cases tg <;> rfl
theorem hsub1 {σ : Sg} {caps : List Nat} : ∀ p σ', bindTg (.one 0) p (sgC 1 σ caps) = some σ' → ∀ (i : Nat) (av : AV), (sgC 1 σ caps)[i]? = some (some av) → σ'[i]? = some (some av) := fun p σ' h i av e => by
  obtain ⟨hi, _⟩ := sgC_get e
  refine so_out h fun h => ?_
  rw [← h, List.getElem?_set_ne (Nat.ne_of_lt hi)]; exact e
theorem hsub2 {σ : Sg} {caps : List Nat} : ∀ p σ', bindTg (.two 0 1) p (sgC 2 σ caps) = some σ' → ∀ (i : Nat) (av : AV), (sgC 2 σ caps)[i]? = some (some av) → σ'[i]? = some (some av) := fun p σ' h i av e => by
  obtain ⟨hi, _⟩ := sgC_get e
  refine oTup_out h fun l _ h => o2_out h fun a b _ h => so_out h fun h => ?_
  rw [← h, List.getElem?_set_ne (Nat.ne_of_lt hi), List.getElem?_set_ne (Nat.ne_of_lt (Nat.lt_of_succ_lt hi))]; exact e

theorem sound_countS {fi : FI} {σ : Sg} {x : PySem.Str} {p pos q : Pos} {f : Addr} {e : Expr} {l : List Nat} {ch k : Nat} (hg : Glob c x (.ref f)) (hk : fi.env.kindOf x = some .globalImplicit) (hf : ∃ o fd, c.G.get? f = some o ∧ o.data = .func fd) (hC : CntS c n f)
    (he : SoundE c n fi σ e (.str l)) (hs : ∀ a b, e ≠ .Starred a b) (hl : ascii l = true) (hlen : l.length ≤ 100000) (hc : ch < 128) : SoundE c n fi σ (.Call (.Name x p) [e, .Constant (.str (S [ch])) k q] [] pos) (.int (countN ch l)) :=
  fun A s W mu val Q E hA hP hJ hT hR kk => by
    refine Call_Name rfl (hg A s _ p _ _ hJ hR.kind hk hR.gl hR.bl ?_)
    obtain ⟨o, fd, ho, hd⟩ := hf
    refine Calls.callWith_function (o := o) (fd := fd) ?_
    rw [starEach_plain hs]
    refine Calls.evalArgs_plain (Calls.spliced_cons (he A s W mu val _ _ hA hP hJ hT hR fun v h₁ tk₁ p₁ s₁ d₁ => Calls.spliced_cons (Calls.Constant_str (k := k) (pos := q) (Calls.spliced_nil ⟨⟨s₁.j.ext _ _ ho, hd⟩, ?_⟩))))
    exact hC A ⟨h₁, s.gens, s.drawn, tk₁ + 1, s.os⟩ W v tk₁ l ch _ _ hA (Nat.succ_pos _) s₁.j hT (WEx.step hR.wex s₁) d₁ hl hlen hc p₁ (Nat.lt_succ_self _) (KontE.next kk s₁)

theorem cell_get {h : Heap} {W : Addr → Prop} {g : Tok → Int} {i : Nat} {p : Int × Int} : ∀ {ps : List (Int × Int)} {vs : List Value}, CellL h W g ps vs → ps[i]? = some p → ∃ v, vs[i]? = some v := fun d e => by
  have := d.length
  have h2 := (List.getElem?_eq_some_iff.mp e).1
  exact ⟨_, List.getElem?_eq_getElem (by omega)⟩

theorem sound_countC {fi : FI} {σ : Sg} {x y : PySem.Str} {p pos q₁ q₂ q₃ : Pos} {f : Addr} {e : Expr} {i : Nat} {l : List (Int × Int)} {k : Int} {r : Int × Int} (hg : Glob c x (.ref f)) (hk : fi.env.kindOf x = some .globalImplicit) (hf : ∃ o fd, c.G.get? f = some o ∧ o.data = .func fd) (hC : CntC c n f)
    (hy : fi.nt[i]? = some y) (hi : σ[i]? = some (some (.im (.cells l)))) (he : SoundE c n fi σ e (.int k)) (hs : ∀ a b p, e ≠ .Slice a b none p) (hlen : l.length ≤ 100000) (h0 : 0 ≤ k) (h1 : k < l.length) (hr : l[k.toNat]? = some r) :
    SoundE c n fi σ (.Call (.Name x p) [.Name y q₁, .Subscript (.Name y q₂) e q₃] [] pos) (.int (countP r l)) :=
  fun A s W mu val Q E hA hP hJ hT hR kk => by
    refine Call_Name rfl (hg A s _ p _ _ hJ hR.kind hk hR.gl hR.bl ?_)
    obtain ⟨o, fd, ho, hd⟩ := hf
    refine Calls.callWith_function (o := o) (fd := fd) ?_
    refine Calls.evalArgs_plain (Calls.spliced_cons (eval_own hR hy hi fun v hv hav => ?_))
    obtain ⟨a, vs, m, g, rfl, wa, ga, da⟩ := den_cells (show Den _ _ _ _ from hav)
    refine Calls.spliced_cons (Subscript_ (eval_own hR hy hi fun v' hv' _ => ?_))
    obtain rfl : v' = .ref a := Option.some.inj (hv'.symm.trans hv)
    refine he A s W mu val _ _ hA hP hJ hT hR fun v₁ h₁ tk₁ p₁ s₁ d₁ => ?_
    obtain ⟨u, rfl⟩ := den_int d₁
    have ga' : h₁.get? a = some (listO vs m) := s₁.kept _ _ ga fun q => wa (hT a q)
    have da' : CellL h₁ W g l vs := da.keeps ⟨fun b o e n => s₁.kept b o e fun q => n (hT b q), fun _ _ _ q => q⟩
    obtain ⟨w, hw⟩ := cell_get da' hr
    have hlv := da.length
    refine tail_item ⟨_, ga', rfl⟩ slot_list_getitem.lookup (wpAny_getItem_list (isList_of ga') h0 (by omega) (by simpa using hw) (Calls.spliced_nil ⟨⟨s₁.j.ext _ _ ho, hd⟩, ?_⟩)) hs
    exact hC A ⟨h₁, s.gens, s.drawn, tk₁, s.os⟩ W a vs m g l k.toNat r w _ _ hA p₁ s₁.j hT (WEx.step hR.wex s₁) wa ga' da' hlen hr hw (KontE.next kk s₁)

/-! one construct: from the parts to the whole -/
theorem RepEs.nil : RepEs R fi [] [] := .mk fun _ _ _ B F k σ vs h => so_out h fun e => e ▸ ⟨.nil, (fun q => by cases q), rfl⟩
theorem RepEs.cons {x : Expr} {a : PE} {xs : List Expr} {as : List PE} (r : RepE R fi x a) (hs : ∀ e q, x ≠ .Starred e q) (rs : RepEs R fi xs as) : RepEs R fi (x :: xs) (a :: as) := .mk fun _ _ _ B F k σ vs h =>
  evL_cons h fun v ws h1 h2 e => have g := rs.out B F k σ ws h2; e ▸ ⟨.cons (r.out B F k σ v h1) hs g.ok, fun _ => List.cons_ne_nil _ _, congrArg (· + 1) g.len⟩

theorem RepE.var {x : PySem.Str} {pos : Pos} {i : Nat} (hx : fi.nt[i]? = some x) : RepE R fi (.Name x pos) (.var i) := .mk fun _ _ _ B F k σ v h =>
  ev_step h fun k h => oIm_out h fun w hw e => so_out e fun e => sound_var hx (e ▸ hw)
theorem RepE.cint {i : Int} {k : Nat} {pos : Pos} : RepE R fi (.Constant (.int i) k pos) (.const (.int i)) := .mk fun _ _ _ B F k σ v h =>
  ev_step h fun k h => so_out h fun e => e ▸ sound_int
theorem RepE.cstr {x : PySem.Str} {l : List Nat} {k : Nat} {pos : Pos} (hx : x = ⟨l.toArray⟩) : RepE R fi (.Constant (.str x) k pos) (.const (.str l)) := .mk fun _ _ _ B F k σ v h =>
  ev_step h fun k h => so_out h fun e => e ▸ sound_str hx
theorem RepE.cbool {b : Bool} {k : Nat} {pos : Pos} : RepE R fi (.Constant (.bool b) k pos) (.const (.bool b)) := .mk fun _ _ _ B F k σ v h =>
  ev_step h fun k h => so_out h fun e => e ▸ sound_bool
theorem RepE.cnone {k : Nat} {pos : Pos} : RepE R fi (.Constant .none k pos) (.const .none) := .mk fun _ _ _ B F k σ v h =>
  ev_step h fun k h => so_out h fun e => e ▸ sound_none
theorem RepE.neg {i j : Int} {k : Nat} {p₁ p₂ : Pos} (hj : j = -i) : RepE R fi (.UnaryOp .USub (.Constant (.int i) k p₁) p₂) (.const (.int j)) := .mk fun _ _ _ B F k σ v h =>
  ev_step h fun k h => so_out h fun e => by subst e hj; exact sound_neg
theorem RepE.bin {l r : Expr} {op : Operator} {o : BOp} {pos : Pos} {a b : PE} (r1 : RepE R fi l a) (r2 : RepE R fi r b) (ho : op = opOf o) : RepE R fi (.BinOp l op r pos) (.bin o a b) := .mk fun _ _ _ B F k σ v h =>
  ev_step h fun k h => bd_out h fun x h1 h => bd_out h fun y h2 h => ho ▸ sound_bin (r1.out B F k σ x h1) (r2.out B F k σ y h2) (val2_bin h)
theorem RepE.cmp {l r : Expr} {op : CmpOp} {o : COp} {pos : Pos} {a b : PE} (r1 : RepE R fi l a) (r2 : RepE R fi r b) (ho : op = copOf o) (hm : behindInMarks op r = false) : RepE R fi (.Compare l [op] [r] pos) (.cmp o a b) := .mk fun _ _ _ B F k σ v h =>
  ev_step h fun k h => bd_out h fun x h1 h => bd_out h fun y h2 h => mp_out h fun z hz e => by subst e ho; exact sound_cmp (r1.out B F k σ x h1) (r2.out B F k σ y h2) (val2_cmp hz) hm
theorem RepE.and {l r : Expr} {pos : Pos} {a b : PE} (r1 : RepE R fi l a) (r2 : RepE R fi r b) : RepE R fi (.BoolOp .And [l, r] pos) (.and a b) := .mk fun _ _ _ B F k σ v h =>
  ev_step h fun k h => bd_out h fun x h1 h => oBool_out h fun z hz h => by
    subst hz
    refine sound_and (r1.out B F k σ _ h1) (fun q => ?_) fun q => ?_
    · subst q; exact r2.out B F k σ v h
    · subst q; exact (Option.some.inj h).symm
theorem RepE.ite {t x y : Expr} {pos : Pos} {t' a b : PE} (r1 : RepT R fi t t') (r2 : RepE R fi x a) (r3 : RepE R fi y b) : RepE R fi (.IfExp t x y pos) (.ite t' a b) := .mk fun _ _ _ B F k σ v h =>
  ev_step h fun k h => bd_out h fun x h1 h => oBool_out h fun z hz h => by
    subst hz
    refine sound_ite (r1.out B F k σ _ h1) (fun q => ?_) fun q => ?_
    · subst q; exact r2.out B F k σ v h
    · subst q; exact r3.out B F k σ v h
theorem RepE.tup {es : List Expr} {k : Nat} {pos : Pos} {as : List PE} (rs : RepEs R fi es as) : RepE R fi (.Tuple es k pos) (.tup as) := .mk fun _ _ _ B F k σ v h =>
  ev_step h fun k h => if_out h fun hf h => mp_out h fun vs h1 e => have g := rs.out B F k σ vs h1; e ▸ sound_tup g.ok (g.len ▸ fits_le hf)
theorem RepE.lst {es : List Expr} {pos : Pos} {as : List PE} (rs : RepEs R fi es as) : RepE R fi (.List es pos) (.lst as) := .mk fun _ _ _ B F k σ v h =>
  ev_step h fun k h => if_out h fun hf h => mp_out h fun vs h1 e => have g := rs.out B F k σ vs h1; e ▸ sound_lst g.ok (g.len ▸ fits_le hf)
theorem RepE.idx {l r : Expr} {pos : Pos} {a b : PE} (r1 : RepE R fi l a) (r2 : RepE R fi r b) (hs : ∀ a b p, r ≠ .Slice a b none p) : RepE R fi (.Subscript l r pos) (.idx a b) := .mk fun _ _ _ B F k σ v h =>
  ev_step h fun k h => bd_out h fun x h1 h => bd_out h fun y h2 h => sound_idx (r1.out B F k σ x h1) (r2.out B F k σ y h2) h hs
theorem RepE.sliceLo {l r : Expr} {pos p' : Pos} {a b : PE} (r1 : RepE R fi l a) (r2 : RepE R fi r b) : RepE R fi (.Subscript l (.Slice (some r) none none p') pos) (.slice a (some b) none) := .mk fun _ _ _ B F k σ v h =>
  ev_step h fun k h => bd_out h fun x h1 h => bd_out h fun y h2 h => mp_out h2 fun w h3 e => bd_out h fun z hz h => by
    subst e
    obtain rfl := Option.some.inj hz
    exact sound_slice_lo (r1.out B F k σ x h1) (r2.out B F k σ w h3) h
theorem RepE.sliceHi {l r : Expr} {pos p' : Pos} {a b : PE} (r1 : RepE R fi l a) (r2 : RepE R fi r b) : RepE R fi (.Subscript l (.Slice none (some r) none p') pos) (.slice a none (some b)) := .mk fun _ _ _ B F k σ v h =>
  ev_step h fun k h => bd_out h fun x h1 h => bd_out h fun z hz h => bd_out h fun y h2 h => mp_out h2 fun w h3 e => by
    subst e
    obtain rfl := Option.some.inj hz
    exact sound_slice_hi (r1.out B F k σ x h1) (r2.out B F k σ w h3) h
theorem RepE.call {x : PySem.Str} {p pos : Pos} {f : Nat} {es : List Expr} {as : List PE} (hg : R.gl x = some (.ref (R.ad f))) (hk : fi.env.kindOf x = some .globalImplicit) (hp : plainF f = true) (rs : RepEs R fi es as) (hne : as.isEmpty = false) : RepE R fi (.Call (.Name x p) es [] pos) (.call f as) := .mk fun _ _ _ B F k σ v h =>
  ev_step h fun k h => bd_out h fun vs h1 h => have g := rs.out B F k σ vs h1; sound_call (B.gl _ _ hg) hk (F.fn _ _ _ h) g.ok (g.ne hne) (F.ok _ _ _ hp h)
theorem RepE.bi {x : PySem.Str} {p pos : Pos} {b : BI} {es : List Expr} {as : List PE} {id : String} (hnb : (match b with | .isBytes => false | _ => true) = true) (hg : R.gl x = some (.builtin id)) (hb : biVal b = .builtin id) (hk : fi.env.kindOf x = some .globalImplicit) (rs : RepEs R fi es as) (hne : as.isEmpty = false) : RepE R fi (.Call (.Name x p) es [] pos) (.bi b as) := .mk fun _ _ _ B F k σ v h =>
  ev_step h fun k h => bd_out h fun vs h1 h => have g := rs.out B F k σ vs h1; sound_bi (B.gl _ _ hg) hk g.ok (g.ne hne) (hb ▸ valL_bi hnb h)
theorem RepE.ty {x : PySem.Str} {p pos : Pos} {b : BI} {es : List Expr} {as : List PE} {id : String} (hnb : (match b with | .isBytes => false | _ => true) = true) (hg : R.gl x = some (.type id)) (hb : biVal b = .type id) (hk : fi.env.kindOf x = some .globalImplicit) (rs : RepEs R fi es as) (hne : as.isEmpty = false) : RepE R fi (.Call (.Name x p) es [] pos) (.bi b as) := .mk fun _ _ _ B F k σ v h =>
  ev_step h fun k h => bd_out h fun vs h1 h => have g := rs.out B F k σ vs h1; sound_ty (B.gl _ _ hg) hk g.ok (g.ne hne) (hb ▸ valL_bi hnb h)
theorem RepE.isBytes {x y : PySem.Str} {p p' pos : Pos} {e : Expr} {a : PE} (hg : R.gl x = some (.builtin "isinstance")) (hk : fi.env.kindOf x = some .globalImplicit) (hg' : R.gl y = some (.type "bytes")) (hk' : fi.env.kindOf y = some .globalImplicit) (r1 : RepE R fi e a) (hs : ∀ a b, e ≠ .Starred a b) : RepE R fi (.Call (.Name x p) [e, .Name y p'] [] pos) (.bi .isBytes [a]) := .mk fun _ _ _ B F k σ v h =>
  ev_step h fun k h => bd_out h fun vs h1 h => evL_one h1 fun w h2 e => by
    subst e
    exact oByt_out h fun l hl e => so_out e fun e => e ▸ sound_isBytes (B.gl _ _ hg) hk (B.gl _ _ hg') hk' (hl ▸ r1.out B F k σ w h2) hs
theorem RepE.bytesOwn {x y : PySem.Str} {p q pos : Pos} {i : Nat} (hg : R.gl x = some (.type "bytes")) (hk : fi.env.kindOf x = some .globalImplicit) (hy : fi.nt[i]? = some y) : RepE R fi (.Call (.Name x p) [.Name y q] [] pos) (.bytesOwn i) := .mk fun _ _ _ B F k σ v h =>
  ev_step h fun k h => oOwnb_out h fun l hl h => if_out h fun hf h => so_out h fun e => e ▸ sound_bytesOwn (B.gl _ _ hg) hk hy hl (fits_le hf)
theorem RepE.meth {o : Expr} {name : PySem.Str} {m : Me} {apos pos : Pos} {es : List Expr} {as : List PE} {a : PE} (r1 : RepE R fi o a) (rs : RepEs R fi es as) (hn : name = meName m) (hb : ∀ env t, attributeBase o name env t = t) (hline : (apos.endLine == pos.line) = true) (hfew : as.length < 20) : RepE R fi (.Call (.Attribute o name apos) es [] pos) (.meth m a as) := .mk fun _ _ _ B F k σ v h =>
  ev_step h fun k h => bd_out h fun x h1 h => bd_out h fun vs h2 h => by
    have g := rs.out B F k σ vs h2
    subst hn
    exact sound_meth (r1.out B F k σ x h1) g.ok (meth_any h) hb hline (by have := g.len; omega)
theorem RepE.text {o : Expr} {pos : Pos} {a : PE} (r1 : RepE R fi o a) (hb : ∀ env t, attributeBase o ("string" : PySem.Str) env t = t) : RepE R fi (.Attribute o ("string" : PySem.Str) pos) (.text a) := .mk fun _ _ _ B F k σ v h =>
  ev_step h fun k h => bd_out h fun x h1 h => oMt_out h fun l sp hx e => so_out e fun e => e ▸ sound_attr (hx ▸ r1.out B F k σ x h1) attr_string hb
theorem RepE.repl {o : Expr} {apos pos q₁ q₂ : Pos} {k₁ k₂ : Nat} {a b : Nat} {x y : PySem.Str} {e : PE} (hx : x = S [a]) (hy : y = S [b]) (r1 : RepE R fi o e) (hb : ∀ env t, attributeBase o ("replace" : PySem.Str) env t = t) (hline : (apos.endLine == pos.line) = true) :
    RepE R fi (.Call (.Attribute o ("replace" : PySem.Str) apos) [.Constant (.str x) k₁ q₁, .Constant (.str y) k₂ q₂] [] pos) (.repl e a b) := .mk fun _ _ _ B F k σ v h =>
  ev_step h fun k h => bd_out h fun w h1 h => oStr_out h fun l hw h => if_out h fun hc h => so_out h fun e => by
    simp only [Bool.and_eq_true, Bool.not_eq_true', beq_eq_false_iff_ne] at hc
    exact e ▸ sound_repl hx hy (hw ▸ r1.out B F k σ w h1) (fits_le hc.1) hc.2 hb hline
theorem RepE.search {x : PySem.Str} {xp apos pos : Pos} {pa : Addr} {k : Bool} {e : Expr} {a : PE} (hg : R.gl x = some (.ref pa)) (hk : fi.env.kindOf x = some .globalImplicit) (hp : R.pats pa = some k) (r1 : RepE R fi e a) (hs : ∀ a b, e ≠ .Starred a b) (hb : ∀ env t, attributeBase (.Name x xp) ("search" : PySem.Str) env t = t) (hline : (apos.endLine == pos.line) = true) :
    RepE R fi (.Call (.Attribute (.Name x xp) ("search" : PySem.Str) apos) [e] [] pos) (.search k a) := .mk fun _ _ _ B F k σ v h =>
  ev_step h fun k h => bd_out h fun w h1 h => oStr_out h fun l hw h => sound_search (B.gl _ _ hg) hk (B.pats _ _ hp) (hw ▸ r1.out B F k σ w h1) hs h hb hline
theorem RepE.countS {x y : PySem.Str} {p pos q : Pos} {k c : Nat} {e : Expr} {a : PE} (hg : R.gl x = some (.ref (R.ad 9))) (hk : fi.env.kindOf x = some .globalImplicit) (hy : y = S [c]) (r1 : RepE R fi e a) (hs : ∀ a b, e ≠ .Starred a b) : RepE R fi (.Call (.Name x p) [e, .Constant (.str y) k q] [] pos) (.countS a c) := .mk fun _ _ _ B F k σ v h =>
  ev_step h fun k h => bd_out h fun w h1 h => oStr_out h fun l hw h => if_out h fun hc h => so_out h fun e => by
    simp only [Bool.and_eq_true] at hc
    subst hy
    exact e ▸ sound_countS (B.gl _ _ hg) hk B.fn9 B.cS (hw ▸ r1.out B F k σ w h1) hs hc.1.1 (fits_le hc.1.2) (by simpa [Nat.blt_eq] using hc.2)
theorem RepE.countC {x y : PySem.Str} {p pos q₁ q₂ q₃ : Pos} {i : Nat} {e : Expr} {a : PE} (hg : R.gl x = some (.ref (R.ad 9))) (hk : fi.env.kindOf x = some .globalImplicit) (hx : fi.nt[i]? = some y) (r1 : RepE R fi e a) (hs : ∀ a b p, e ≠ .Slice a b none p) : RepE R fi (.Call (.Name x p) [.Name y q₁, .Subscript (.Name y q₂) e q₃] [] pos) (.countC i a) := .mk fun _ _ _ B F k σ v h =>
  ev_step h fun k h => oIm_out h fun u hu h => oCel_out h fun l hl h => if_out h fun hf h => bd_out h fun w h1 h => oInt_out h fun j hw h => if_out h fun hc h => bd_out h fun r hr h => so_out h fun e => by
    have hc := and2 hc
    subst hl hw
    exact e ▸ sound_countC (B.gl _ _ hg) hk B.fn9 B.cC hx hu (r1.out B F k σ _ h1) hs (fits_le hf) hc.1 hc.2 hr

/-- a comprehension's parts -/
inductive CompEv (c : Cx) (n : Nat) (fi : FI) (scope : Scope) (cl : List (PySem.Str × Addr)) (nt₂ : List PySem.Str) (caps : List Nat) (t : Nat) (σ : Sg) (elt iter : Expr) (tg : Tg) (two : Bool) (v : PV) : Prop where
  | mk (items : List PV) (Acc : AccP) (src : SrcOK c n fi σ iter two items) (to : CompTo c n fi scope cl nt₂ caps t σ elt tg items v Acc) (len : items.length ≤ 100000) : CompEv c n fi scope cl nt₂ caps t σ elt iter tg two v
theorem comp_ev {elt iter : Expr} {scope : Scope} {cl : List (PySem.Str × Addr)} {nt₂ : List PySem.Str} {caps : List Nat} {t : Nat} {tg : Tg} {two : Bool} {kd : SK} {args : List PE} {a : PE} {σ : Sg} {v : PV} {k : Nat} (B : Base c n R) (F : Fns c n R G) (rs : RepSrc R fi iter two kd args) (re : ∀ C, RepE R (fiC fi scope cl nt₂ caps t C) elt a) (ht : compSg tg (capsOf σ caps) = sgC t σ caps)
    (h : ev G k false σ (.comp a tg kd args caps) = some v) : CompEv c n fi scope cl nt₂ caps t σ elt iter tg two v :=
  ev_step h fun k h => bd_out h fun vs h1 h => bd_out h fun items h2 h => mp_out h fun xs h3 e => by
    rw [ht] at h3
    exact ⟨items, _, rs.out B F k σ vs items h1 h2, e ▸ CompTo.list (fun C σ' x hf => (re C).out B F k σ' x hf) h3, src_len h2⟩
theorem RepE.comp1 {elt tgt iter : Expr} {scope : Scope} {pos : Pos} {cl : List (PySem.Str × Addr)} {nt₂ : List PySem.Str} {caps : List Nat} {two : Bool} {k : SK} {args : List PE} {a : PE} (rs : RepSrc R fi iter false k args) (K : CompOK fi scope cl nt₂ caps 1) (ht : ∀ C, TgOK (fiC fi scope cl nt₂ caps 1 C) tgt (.one 0) false)
      (re : ∀ C, RepE R (fiC fi scope cl nt₂ caps 1 C) elt a) (hs : ∀ x, foldedSetIterable iter fi.env x = pure x) : RepE R fi (.ListComp elt [⟨tgt, iter, [], 0⟩] scope pos) (.comp a (.one 0) k args caps) := .mk fun _ _ _ B F k σ v h => by
  obtain ⟨items, Acc, src, to, len⟩ := comp_ev B F rs re rfl h
  exact sound_comp src K ht to len hsub1 hs
theorem RepE.comp2 {elt tgt iter : Expr} {scope : Scope} {pos : Pos} {cl : List (PySem.Str × Addr)} {nt₂ : List PySem.Str} {caps : List Nat} {two : Bool} {k : SK} {args : List PE} {a : PE} (rs : RepSrc R fi iter true k args) (K : CompOK fi scope cl nt₂ caps 2) (ht : ∀ C, TgOK (fiC fi scope cl nt₂ caps 2 C) tgt (.two 0 1) true)
      (re : ∀ C, RepE R (fiC fi scope cl nt₂ caps 2 C) elt a) (hs : ∀ x, foldedSetIterable iter fi.env x = pure x) : RepE R fi (.ListComp elt [⟨tgt, iter, [], 0⟩] scope pos) (.comp a (.two 0 1) k args caps) := .mk fun _ _ _ B F k σ v h => by
  obtain ⟨items, Acc, src, to, len⟩ := comp_ev B F rs re rfl h
  exact sound_comp src K ht to len hsub2 hs

theorem RepT.cmp {l r : Expr} {op : CmpOp} {o : COp} {pos : Pos} {a b : PE} (r1 : RepE R fi l a) (r2 : RepE R fi r b) (ho : op = copOf o) (hm : behindInMarks op r = false) : RepT R fi (.Compare l [op] [r] pos) (.cmp o a b) := .mk fun _ _ _ B F k σ v h =>
  ev_step h fun k h => bd_out h fun x h1 h => bd_out h fun y h2 h => mp_out h fun z hz e => by cases e; subst ho; exact sound_cmpT (r1.out B F k σ x h1) (r2.out B F k σ y h2) (val2_cmp hz) hm
theorem RepT.not {t : Expr} {pos : Pos} {a : PE} (r1 : RepT R fi t a) : RepT R fi (.UnaryOp .Not t pos) (.not a) := .mk fun _ _ _ B F k σ v h =>
  ev_step h fun k h => bd_out h fun x h1 h => oBool_out h fun z hz h => by subst hz; cases h; exact soundT_not (r1.out B F k σ _ h1)
theorem RepT.and {l r : Expr} {pos : Pos} {a b : PE} (r1 : RepT R fi l a) (r2 : RepT R fi r b) : RepT R fi (.BoolOp .And [l, r] pos) (.and a b) := .mk fun _ _ _ B F k σ v h =>
  ev_step h fun k h => bd_out h fun x h1 h => oBool_out h fun z hz h => by
    subst hz
    refine soundT_and (r1.out B F k σ _ h1) (fun q => ?_) fun q => ?_
    · subst q; exact r2.out B F k σ v h
    · subst q; cases h; rfl
theorem RepT.or {l r : Expr} {pos : Pos} {a b : PE} (r1 : RepT R fi l a) (r2 : RepT R fi r b) : RepT R fi (.BoolOp .Or [l, r] pos) (.or a b) := .mk fun _ _ _ B F k σ v h =>
  ev_step h fun k h => bd_out h fun x h1 h => oBool_out h fun z hz h => by
    subst hz
    refine soundT_or (r1.out B F k σ _ h1) (fun q => ?_) fun q => ?_
    · subst q; exact r2.out B F k σ v h
    · subst q; cases h; rfl
theorem RepT.plain {e : Expr} {a : PE} (r1 : RepE R fi e a) (hp : isPlainE a = true) (ht : ∀ (env : Env) (whole : Sem Value), isTrue e env whole = (do let v ← whole; standAt e.pos; holding [v] (truthy v))) : RepT R fi e a := .mk fun _ _ _ B F k σ v h =>
  ev_step h fun k h => bd_out ((evT_plain hp).symm.trans h) fun x h1 h => mp_out h fun z hz e => by cases e; exact soundT_plain (r1.out B F k σ x h1) (truth_any hz) ht
end Mine
end

section
open PySem PySem.W PyProof.Rows
open Sem (wp)
set_option Elab.async false
set_option linter.unusedVariables false
namespace Mine

section
variable {c : Cx} {n : Nat} {fi : FI} {σ : Sg}
theorem soundC_freeze {i : Nat} {l : List PV} {t : Env → Sem Flow} {r : Res} (hi : σ[i]? = some (some (.own l))) (h : SoundSC c n fi (σ.set i (some (.im (.lst l)))) t r) : SoundSC c n fi σ t r :=
  fun A s W mu val Q E hA hg hP hJ hT R k =>
    let ⟨a, hmu, R'⟩ := R.freeze hi
    h A s _ _ val Q E hA hg hP hJ (fun b q => ⟨hT b q, fun z => R.muT a hmu (z ▸ q)⟩) R' (k.less hmu)

end

variable {c : Cx} {n : Nat} {R : Rp} {G : Nat → List PV → Option PV} {fi : FI}

structure RepS (R : Rp) (fi : FI) (st : Stmt) (ps : PS) : Prop where
  out : ∀ ⦃c : Cx⦄ ⦃n : Nat⦄ ⦃G : Nat → List PV → Option PV⦄, Base c n R → Fns c n R G → ∀ (k : Nat) (σ : Sg) (r : Res), ex G k ps σ = some r → SoundS c n fi σ (exec st) r
structure RepL (R : Rp) (fi : FI) (ss : List Stmt) (ps : List PS) : Prop where
  out : ∀ ⦃c : Cx⦄ ⦃n : Nat⦄ ⦃G : Nat → List PV → Option PV⦄, Base c n R → Fns c n R G → ∀ (k : Nat) (σ : Sg) (r : Res), exL (ex G k) ps σ = some r → SoundS c n fi σ (execs ss) r

theorem ex_freeze {k i : Nat} {σ : Sg} {x : Res} {P : Prop} (h : ex G k (.freeze i) σ = some x) (q : ∀ l, σ[i]? = some (some (.own l)) → .next (σ.set i (some (.im (.lst l)))) = x → P) : P :=
  ex_step h fun k h => oOwn_out h fun l hl h => so_out h fun e => q l hl e

theorem RepL.nil : RepL R fi [] [] := .mk fun _ _ _ B F k σ r h => so_out h fun e => e ▸ soundS_nil
theorem RepL.cons {s : Stmt} {p : PS} {ss : List Stmt} {ps : List PS} (h1 : RepS R fi s p) (h2 : RepL R fi ss ps) : RepL R fi (s :: ss) (p :: ps) := .mk fun _ _ _ B F k σ r h =>
  bd_out h fun x q e => by
    have h3 := h1.out B F k σ x q
    cases x with
    | next σ' => exact soundS_cons h3 (h2.out B F k σ' r e)
    | ret v => cases e; exact soundS_stop h3
theorem RepL.freeze {i : Nat} {ss : List Stmt} {ps : List PS} (h2 : RepL R fi ss ps) : RepL R fi ss (.freeze i :: ps) := .mk fun _ _ _ B F k σ r h =>
  bd_out h fun x q e => ex_freeze q fun l hl q => by
    subst q
    exact soundS_freeze hl (h2.out B F k _ r e)

theorem capsOf_one {σ : Sg} {j : Nat} {v : PV} (h : σ[j]? = some (some (.im v))) : (sgC 1 σ [j])[1]? = some (some (.im v)) := by
  simp [sgC, capsOf, h]

theorem RepS.set {x : PySem.Str} {p' pos : Pos} {e : Expr} {i : Nat} {a : PE} (hx : fi.nt[i]? = some x) (he : RepE R fi e a) (hc : fi.capt = false) (hs : swapsWith e (some (.Name x p')) pos.line fi.env = pure false) : RepS R fi (.Assign [.Name x p'] e pos) (.set i a) := .mk fun _ _ _ B F k σ r h =>
  ex_step h fun k h => mp_out h fun v h1 e => e ▸ soundS_set (he.out B F k σ v h1) hc hx hs
theorem RepS.setComp1 {x : PySem.Str} {p' spos : Pos} {i : Nat} {elt tgt iter : Expr} {scope : Scope} {pos : Pos} {cl : List (PySem.Str × Addr)} {nt₂ : List PySem.Str} {caps : List Nat} {k : SK} {args : List PE} {a : PE} (hx : fi.nt[i]? = some x) (hc : fi.capt = false)
      (hsw : swapsWith (.ListComp elt [⟨tgt, iter, [], 0⟩] scope pos) (some (.Name x p')) spos.line fi.env = pure true) (rs : RepSrc R fi iter false k args) (K : CompOK fi scope cl nt₂ caps 1) (ht : ∀ C, TgOK (fiC fi scope cl nt₂ caps 1 C) tgt (.one 0) false)
      (re : ∀ C, RepE R (fiC fi scope cl nt₂ caps 1 C) elt a) (hs : ∀ x, foldedSetIterable iter fi.env x = pure x) : RepS R fi (.Assign [.Name x p'] (.ListComp elt [⟨tgt, iter, [], 0⟩] scope pos) spos) (.set i (.comp a (.one 0) k args caps)) := .mk fun _ _ _ B F k σ r h =>
  ex_step h fun k h => mp_out h fun v h e => by
    obtain ⟨items, Acc, src, to, len⟩ := comp_ev B F rs re rfl h
    exact e ▸ soundS_setComp hx hc hsw src K ht to len hsub1 hs
theorem RepS.setComp2 {x : PySem.Str} {p' spos : Pos} {i : Nat} {elt tgt iter : Expr} {scope : Scope} {pos : Pos} {cl : List (PySem.Str × Addr)} {nt₂ : List PySem.Str} {caps : List Nat} {k : SK} {args : List PE} {a : PE} (hx : fi.nt[i]? = some x) (hc : fi.capt = false)
      (hsw : swapsWith (.ListComp elt [⟨tgt, iter, [], 0⟩] scope pos) (some (.Name x p')) spos.line fi.env = pure true) (rs : RepSrc R fi iter true k args) (K : CompOK fi scope cl nt₂ caps 2) (ht : ∀ C, TgOK (fiC fi scope cl nt₂ caps 2 C) tgt (.two 0 1) true)
      (re : ∀ C, RepE R (fiC fi scope cl nt₂ caps 2 C) elt a) (hs : ∀ x, foldedSetIterable iter fi.env x = pure x) : RepS R fi (.Assign [.Name x p'] (.ListComp elt [⟨tgt, iter, [], 0⟩] scope pos) spos) (.set i (.comp a (.two 0 1) k args caps)) := .mk fun _ _ _ B F k σ r h =>
  ex_step h fun k h => mp_out h fun v h e => by
    obtain ⟨items, Acc, src, to, len⟩ := comp_ev B F rs re rfl h
    exact e ▸ soundS_setComp hx hc hsw src K ht to len hsub2 hs
theorem evL_in {f : PE → Option PV} {a : PE} {as : List PE} {v : PV} {vs : List PV} (h : f a = some v) (hs : evL f as = some vs) : evL f (a :: as) = some (v :: vs) := bd_in h (mp_in hs rfl)
theorem RepS.setCells {x xr xs : PySem.Str} {p' spos q₁ q₂ q₃ q₄ q₅ q₆ q₇ q₈ q₉ : Pos} {k₁ k₂ : Nat} {i j : Nat} {tgt iter : Expr} {scope : Scope} {pos : Pos} {cl : List (PySem.Str × Addr)} {nt₂ : List PySem.Str} (hx : fi.nt[i]? = some x) (hc : fi.capt = false)
      (hsw : swapsWith (.ListComp (.Tuple [.Subscript (.Name xr q₁) (.Name xs q₂) q₃, .Subscript (.Name xr q₄) (.BinOp (.Name xs q₅) .Add (.Constant (.int 1) k₁ q₆) q₇) q₈] k₂ q₉) [⟨tgt, iter, [], 0⟩] scope pos) (some (.Name x p')) spos.line fi.env = pure true)
      (rs : RepSrc R fi iter false .range [.const (.int 0), .bi .len [.var j], .const (.int 2)]) (K : CompOK fi scope cl nt₂ [j] 1) (ht : ∀ C, TgOK (fiC fi scope cl nt₂ [j] 1 C) tgt (.one 0) false) (h0 : nt₂[0]? = some xs) (h1 : nt₂[1]? = some xr)
      (hs : ∀ x, foldedSetIterable iter fi.env x = pure x) :
      RepS R fi (.Assign [.Name x p'] (.ListComp (.Tuple [.Subscript (.Name xr q₁) (.Name xs q₂) q₃, .Subscript (.Name xr q₄) (.BinOp (.Name xs q₅) .Add (.Constant (.int 1) k₁ q₆) q₇) q₈] k₂ q₉) [⟨tgt, iter, [], 0⟩] scope pos) spos) (.set i (.cellsOf j)) := .mk fun _ _ G B F k σ r h =>
  ex_step h fun k h => mp_out h fun v h e => ev_step h fun k h => oIm_out h fun w hl h => oByt_out h fun l hw h => if_out h fun hq h => so_out h fun e2 => by
    subst e e2 hw
    simp only [Bool.and_eq_true, beq_iff_eq] at hq
    have hf := fits_le hq.1
    have hm : l.length = 2 * (l.length / 2) := by omega
    have a1 : evL (ev G 3 false σ) [.const (.int 0), .bi .len [.var j], .const (.int 2)] = some [.int 0, .int l.length, .int 2] := by
      have e1 : ev G 1 false σ (.var j) = some (.bytes l) := oIm_in hl
      have e2 : ev G 2 false σ (.bi .len [.var j]) = some (.int l.length) := bd_in (evL_in e1 rfl) (if_in hq.1 rfl)
      exact evL_in rfl (evL_in e2 (evL_in rfl rfl))
    have a2 : srcPV .range [.int 0, .int l.length, .int 2] = some (rangeL 0 2 (l.length / 2)) := by
      refine if_in (by simp; omega) ?_
      rw [show (((l.length : Int) - 0 + 2 - 1) / 2).toNat = l.length / 2 by omega]
    exact soundS_setComp hx hc hsw (rs.out B F 3 σ _ _ a1 a2) K ht (cells_to hm hf h0 h1 (capsOf_one hl)) (src_len a2) hsub1 hs
theorem RepS.setOwn {x : PySem.Str} {p' lp pos : Pos} {es : List Expr} {i : Nat} {as : List PE} (hx : fi.nt[i]? = some x) (rs : RepEs R fi es as) (hc : fi.capt = false) : RepS R fi (.Assign [.Name x p'] (.List es lp) pos) (.setOwn i as) := .mk fun _ _ _ B F k σ r h =>
  ex_step h fun k h => if_out h fun hf h => mp_out h fun vs h1 e => have g := rs.out B F k σ vs h1; e ▸ soundS_setOwn g.ok (g.len ▸ fits_le hf) hc hx
theorem RepS.set2 {x y : PySem.Str} {q₁ q₂ tp pos : Pos} {kk : Nat} {e : Expr} {i j : Nat} {a : PE} (hx : fi.nt[i]? = some x) (hy : fi.nt[j]? = some y) (hij : i ≠ j) (he : RepE R fi e a) (hc : fi.capt = false)
      (hso : swapsWithSole [.Tuple [.Name x q₁, .Name y q₂] kk tp] e pos.line fi.env = pure false)
      (hs : swappedStores [.Tuple [.Name x q₁, .Name y q₂] kk tp] e fi.env = pure none ∨ swappedStores [.Tuple [.Name x q₁, .Name y q₂] kk tp] e fi.env = pure (some [x, y])) :
      RepS R fi (.Assign [.Tuple [.Name x q₁, .Name y q₂] kk tp] e pos) (.set2 i j a) := .mk fun _ _ _ B F k σ r h =>
  ex_step h fun k h => bd_out h fun v h1 h => oTup_out h fun l hv h => o2_out h fun a b hl h => so_out h fun e => by
    subst hv hl
    exact e ▸ soundS_set2 (he.out B F k σ _ h1) hc hx hy hij hso hs
theorem RepS.augIdx {x : PySem.Str} {xp tpos pos : Pos} {e₁ e₂ : Expr} {i : Nat} {a b : PE} (hx : fi.nt[i]? = some x) (r1 : RepE R fi e₁ a) (r2 : RepE R fi e₂ b) (hst : ∀ ov iv new, augStore e₁ ov iv new = (do holding [new, ov, iv] (setItem ov iv new); release [new, ov, iv] []; pure .next)) :
      RepS R fi (.AugAssign (.Subscript (.Name x xp) e₁ tpos) .Add e₂ pos) (.augIdx i a b) := .mk fun _ _ _ B F k σ r h =>
  ex_step h fun k h => oOwn_out h fun l hl h => bd_out h fun v h1 h => oInt_out h fun m hv h => if_out h fun hq h => bd_out h fun u hu h => oInt_out h fun a' ha h => bd_out h fun w h2 h => oInt_out h fun b' hb h => so_out h fun e => by
    subst hv ha hb
    have hq := and3 hq
    exact e ▸ soundS_augIdx hx hl (r1.out B F k σ _ h1) (r2.out B F k σ _ h2) hq.1.1 hq.1.2 (fits_le hq.2) hu hst
theorem RepS.setIdxB {x : PySem.Str} {xp tpos pos : Pos} {e₁ e₂ : Expr} {i : Nat} {a b : PE} (hx : fi.nt[i]? = some x) (r1 : RepE R fi e₁ a) (r2 : RepE R fi e₂ b) (hsw : swapsWith e₂ (some (.Subscript (.Name x xp) e₁ tpos)) pos.line fi.env = pure false) :
      RepS R fi (.Assign [.Subscript (.Name x xp) e₁ tpos] e₂ pos) (.setIdxB i a b) := .mk fun _ _ _ B F k σ r h =>
  ex_step h fun k h => oOwnb_out h fun l hl h => bd_out h fun v h1 h => oInt_out h fun m hv h => if_out h fun hq h => bd_out h fun w h2 h => oInt_out h fun b' hb h => if_out h fun hr h => so_out h fun e => by
    subst hv hb
    have hq := and3 hq
    have hr := and2 hr
    exact e ▸ soundS_setIdxB hx hl (r1.out B F k σ _ h1) (r2.out B F k σ _ h2) hq.1.1 hq.1.2 (fits_le hq.2) hr.1 hr.2 hsw
theorem RepS.app {x : PySem.Str} {xp apos cpos pos : Pos} {e : Expr} {i : Nat} {a : PE} (hx : fi.nt[i]? = some x) (he : RepE R fi e a) (hns : ∀ a b, e ≠ .Starred a b) (hb : ∀ env t, attributeBase (.Name x xp) ("append" : PySem.Str) env t = t) (hline : (apos.endLine == cpos.line) = true) (hin : interactive fi.env = false)
      (hsw : swapsWith (.Call (.Attribute (.Name x xp) ("append" : PySem.Str) apos) [e] [] cpos) none pos.line fi.env = pure false) : RepS R fi (.Expr (.Call (.Attribute (.Name x xp) ("append" : PySem.Str) apos) [e] [] cpos) pos) (.app i a) := .mk fun _ _ _ B F k σ r h =>
  ex_step h fun k h => oOwn_out h fun l hl h => bd_out h fun v h1 h => if_out h fun hf h => so_out h fun e => e ▸ soundS_app hx hl (he.out B F k σ v h1) (fits_le hf) hns hb hline hin hsw
theorem RepS.ite {t : Expr} {a b : List Stmt} {pos : Pos} {t' : PE} {a' b' : List PS} (ht : RepT R fi t t') (ha : RepL R fi a a') (hb : RepL R fi b b') : RepS R fi (.If t a b pos) (.ite t' a' b') := .mk fun _ _ _ B F k σ r h =>
  ex_step h fun k h => bd_out h fun y h1 h => oBool_out h fun z hz h => by
    subst hz
    refine soundS_if (ht.out B F k σ _ h1) (fun q => ?_) fun q => ?_
    · subst q; exact ha.out B F k σ r h
    · subst q; exact hb.out B F k σ r h
theorem RepS.loop {tgt iter : Expr} {body : List Stmt} {pos : Pos} {tg : Tg} {two : Bool} {k : SK} {args : List PE} {bs : List PS} (rs : RepSrc R fi iter two k args) (ht : TgOK fi tgt tg two) (hc : fi.capt = false) (hbody : RepL R fi body bs) (hs : ∀ x, foldedSetIterable iter fi.env x = pure x) :
      RepS R fi (.For tgt iter body [] pos) (.loop tg k args bs) := .mk fun _ _ _ B F k σ r h =>
  ex_step h fun k h => bd_out h fun vs h1 h => bd_out h fun items h2 h => soundS_for (rs.out B F k σ vs items h1 h2) ht hc (fun σ' r' h => hbody.out B F k σ' r' h) h hs
theorem RepS.ret {e : Expr} {pos : Pos} {a : PE} (he : RepE R fi e a) : RepS R fi (.Return (some e) pos) (.ret a) := .mk fun _ _ _ B F k σ r h =>
  ex_step h fun k h => mp_out h fun v h1 e => e ▸ soundS_ret (he.out B F k σ v h1)
end Mine
end

section
open PySem PySem.W PyProof.Rows
open Sem (wp)
set_option Elab.async false
set_option linter.unusedVariables false
namespace Mine

variable {c : Cx} {n : Nat} {R : Rp} {G : Nat → List PV → Option PV} {fi : FI}

structure RepEC (R : Rp) (fi : FI) (e : Expr) (a : PE) : Prop where
  out : ∀ ⦃c : Cx⦄ ⦃n : Nat⦄ ⦃G : Nat → List PV → Option PV⦄, Base c n R → Fns c n R G → ∀ (k : Nat) (σ : Sg) (v : PV), ev G k false σ a = some v → SoundEC c n fi σ e v
structure RepSC (R : Rp) (fi : FI) (st : Stmt) (ps : PS) : Prop where
  out : ∀ ⦃c : Cx⦄ ⦃n : Nat⦄ ⦃G : Nat → List PV → Option PV⦄, Base c n R → Fns c n R G → ∀ (k : Nat) (σ : Sg) (r : Res), ex G k ps σ = some r → SoundSC c n fi σ (exec st) r
structure RepLC (R : Rp) (fi : FI) (ss : List Stmt) (ps : List PS) : Prop where
  out : ∀ ⦃c : Cx⦄ ⦃n : Nat⦄ ⦃G : Nat → List PV → Option PV⦄, Base c n R → Fns c n R G → ∀ (k : Nat) (σ : Sg) (r : Res), exL (ex G k) ps σ = some r → SoundSC c n fi σ (execs ss) r

theorem RepEC.plain {e : Expr} {a : PE} (r : RepE R fi e a) : RepEC R fi e a := .mk fun _ _ _ B F k σ v h => (r.out B F k σ v h).C
theorem RepEC.bin {l r : Expr} {op : Operator} {o : BOp} {pos : Pos} {a b : PE} (r1 : RepEC R fi l a) (r2 : RepE R fi r b) (ho : op = opOf o) : RepEC R fi (.BinOp l op r pos) (.bin o a b) := .mk fun _ _ _ B F k σ v h =>
  ev_step h fun k h => bd_out h fun x h1 h => bd_out h fun y h2 h => ho ▸ soundC_bin (r1.out B F k σ x h1) (r2.out B F k σ y h2) (val2_bin h)
theorem RepEC.call1 {x : PySem.Str} {p pos : Pos} {f : Nat} {e : Expr} {a : PE} (hg : R.gl x = some (.ref (R.ad f))) (hk : fi.env.kindOf x = some .globalImplicit) (r1 : RepEC R fi e a) (hst : ∀ env, starEach [e] env = [(false, eval e env)]) : RepEC R fi (.Call (.Name x p) [e] [] pos) (.call f [a]) := .mk fun _ _ _ B F k σ v h =>
  ev_step h fun k h => bd_out h fun vs h1 h => evL_one h1 fun u h2 e => by
    subst e
    exact soundC_call1 (B.gl _ _ hg) hk (F.fn _ _ _ h) (r1.out B F k σ u h2) hst (F.okC _ _ _ h)
theorem RepEC.call2 {x : PySem.Str} {p pos : Pos} {f : Nat} {e e' : Expr} {a a' : PE} (hg : R.gl x = some (.ref (R.ad f))) (hk : fi.env.kindOf x = some .globalImplicit) (r1 : RepEC R fi e a) (r2 : RepE R fi e' a') (hst : ∀ env, starEach [e, e'] env = [(false, eval e env), (false, eval e' env)]) : RepEC R fi (.Call (.Name x p) [e, e'] [] pos) (.call f [a, a']) := .mk fun _ _ _ B F k σ v h =>
  ev_step h fun k h => bd_out h fun vs h1 h => evL_cons h1 fun u ws h2 h3 e => evL_one h3 fun w h4 e' => by
    subst e' e
    exact soundC_call2 (B.gl _ _ hg) hk (F.fn _ _ _ h) (r1.out B F k σ u h2) (r2.out B F k σ w h4) hst (F.okC _ _ _ h)

theorem RepSC.plain {s : Stmt} {a : PS} (r : RepS R fi s a) : RepSC R fi s a := .mk fun _ _ _ B F k σ v h => (r.out B F k σ v h).C
theorem RepSC.set {x : PySem.Str} {p' pos : Pos} {e : Expr} {i : Nat} {a : PE} (hx : fi.nt[i]? = some x) (he : RepEC R fi e a) (hc : fi.capt = false) (hs : swapsWith e (some (.Name x p')) pos.line fi.env = pure false) : RepSC R fi (.Assign [.Name x p'] e pos) (.set i a) := .mk fun _ _ _ B F k σ r h =>
  ex_step h fun k h => mp_out h fun v h1 e => e ▸ soundC_set (he.out B F k σ v h1) hc hx hs
theorem RepSC.setOwnB {x y : PySem.Str} {p' q₁ pos q₂ : Pos} {e : Expr} {i : Nat} {a : PE} (hx : fi.nt[i]? = some x) (hg : R.gl y = some (.type "bytearray")) (hk : fi.env.kindOf y = some .globalImplicit) (he : RepE R fi e a) (hst : ∀ env, starEach [e] env = [(false, eval e env)]) (hc : fi.capt = false) :
      RepSC R fi (.Assign [.Name x p'] (.Call (.Name y q₁) [e] [] q₂) pos) (.setOwnB i a) := .mk fun _ _ _ B F k σ r h =>
  ex_step h fun k h => bd_out h fun v h1 h => oInt_out h fun m hv h => if_out h fun hq h => so_out h fun e => by
    have hq := and2 hq
    exact e ▸ soundC_setOwnB (B.gl _ _ hg) hk (hv ▸ he.out B F k σ v h1) hst hq.1 hq.2 hc hx
theorem RepSC.loop {tgt iter : Expr} {body : List Stmt} {pos : Pos} {tg : Tg} {two : Bool} {k : SK} {args : List PE} {bs : List PS} (rs : RepSrc R fi iter two k args) (ht : TgOK fi tgt tg two) (hc : fi.capt = false) (hbody : RepLC R fi body bs) (hs : ∀ x, foldedSetIterable iter fi.env x = pure x) :
      RepSC R fi (.For tgt iter body [] pos) (.loop tg k args bs) := .mk fun _ _ _ B F k σ r h =>
  ex_step h fun k h => bd_out h fun vs h1 h => bd_out h fun items h2 h => soundC_for (rs.out B F k σ vs items h1 h2) ht hc (fun σ' r' h => hbody.out B F k σ' r' h) h hs
theorem RepLC.plain {ss : List Stmt} {ps : List PS} (r : RepL R fi ss ps) : RepLC R fi ss ps := .mk fun _ _ _ B F k σ v h => (r.out B F k σ v h).C
theorem RepLC.cons {s : Stmt} {p : PS} {ss : List Stmt} {ps : List PS} (h1 : RepSC R fi s p) (h2 : RepLC R fi ss ps) : RepLC R fi (s :: ss) (p :: ps) := .mk fun _ _ _ B F k σ r h =>
  bd_out h fun x q e => by
    have h3 := h1.out B F k σ x q
    cases x with
    | next σ' => exact soundC_cons h3 (h2.out B F k σ' r e)
    | ret v => cases e; exact soundC_stop h3
theorem RepLC.freeze {i : Nat} {ss : List Stmt} {ps : List PS} (h2 : RepLC R fi ss ps) : RepLC R fi ss (.freeze i :: ps) := .mk fun _ _ _ B F k σ r h =>
  bd_out h fun x q e => ex_freeze q fun l hl q => by
    subst q
    exact soundC_freeze hl (h2.out B F k _ r e)

/-- a def of the text: what the evaluator gives is its value -/
theorem fn_run (B : Base c n R) (F : Fns c n R G) {f : Addr} {fd : FuncData} {body : List Stmt} {nt : List PySem.Str} {np k nv : Nat} {ps : List PS} {args : List PV} {res : PV} (Ff : Fun c f fd body nt np) (hnv : nv = nt.length) (hlen : args.length = np)
    (hrep : ∀ L, RepL R (fiF fd f nt L) body ps) (h : run G k nv ps args = some res) : FnOK c (n + 1) f args res := by
  subst hnv
  unfold run at h
  have h0 : argSg args nt.length = args.map (fun v => some (AV.im v)) ++ List.replicate (nt.length - args.length) none := rfl
  rw [← h0] at h
  split at h <;> cases h
  · exact Fun.enter Ff hlen (r := .ret _) fun L => (hrep L).out B F k _ _ ‹_›
  · exact Fun.enter Ff hlen (r := .next _) fun L => (hrep L).out B F k _ _ ‹_›
theorem fn_runC (B : Base c n R) (F : Fns c n R G) {f : Addr} {fd : FuncData} {body : List Stmt} {nt : List PySem.Str} {np k nv : Nat} {ps : List PS} {args : List PV} {res : PV} (Ff : Fun c f fd body nt np) (hnv : nv = nt.length) (hlen : args.length = np)
    (hrep : ∀ L, RepLC R (fiF fd f nt L) body ps) (h : run G k nv ps args = some res) : FnOKC c (n + 1) f args res := by
  subst hnv
  unfold run at h
  have h0 : argSg args nt.length = args.map (fun v => some (AV.im v)) ++ List.replicate (nt.length - args.length) none := rfl
  rw [← h0] at h
  split at h <;> cases h
  · exact Fun.enterC Ff hlen (r := .ret _) fun L => (hrep L).out B F k _ _ ‹_›
  · exact Fun.enterC Ff hlen (r := .next _) fun L => (hrep L).out B F k _ _ ‹_›
end Mine
end

section
open PySem PySem.W PySem.Calls PyProof.Rows
open Sem (wp)
set_option Elab.async false
set_option linter.unusedVariables false
namespace Mine

theorem caller_clean : Clean (⟨.builtin "claim.caller" {}, none, none, [], none⟩ : Ctx) :=
  ⟨by show Builtin.Bytes.decodersThatHold.contains "claim.caller" = false; decide +kernel, fun x hx => by cases hx⟩

theorem ends_C {prog : Program} {w : World} {t : Sem Fin} {s : Shared} {R : Result → Shared → Prop} (hreg : s.asleep)
    (h : wpC (model prog w) callerA t (fun fin s' => ∃ f, fin = .done f ∧ (R (.ok f) s' ∧ leftWithCleanup s'.gens = false)) (fun e s' => R (.error e) s' ∧ leftWithCleanup s'.gens = false) s) :
    ∃ n r s' s'', runN (denote table) prog w n s ⟨t, .builtin "claim.caller" {}, default, []⟩ = .halted (outcomeOf r) s' ∧
      schedN (denote table) prog w n (.single s ⟨t, .builtin "claim.caller" {}, default, []⟩) = .halted (outcomeOf r) s' ∧ s'.forget = s''.forget ∧ R r s'' := by
  have h0 : wp (model prog w) ⟨.builtin "claim.caller" {}, none, none, [], none⟩ t (Sem.finPost (model prog w) ⟨.builtin "claim.caller" {}, none, none, [], none⟩ fun r s' => R r s' ∧ leftWithCleanup s'.gens = false) (fun e _ s' => (fun r s' => R r s' ∧ leftWithCleanup s'.gens = false) (.error e) s') default s := by
    refine Sem.wp_mono _ _ t (fun fin p' s' h' => ?_) (fun _ _ _ h' => h') default s (h _ default caller_in caller_clean)
    obtain ⟨f, rfl, hf⟩ := h'
    exact hf
  obtain ⟨n, r, s₁, s₂, hs, hn, hfo, hR⟩ := wp_halts_full (M := model prog w) (R := R) hreg h0
  exact ⟨n, r, s₂, s₁, hn, hs, hfo, hR⟩

theorem callFrom_C {c : ClaimW} {tree : List Value → Sem Fin} {w : World} {s : Shared} {free : Addr → Prop} {gens : Prop} {kept : Heap → Prop} (hz : s.asleep) (hgens : s.gens = #[])
    (hspec : ∀ args, c.pre args = true → WData.layableAll args = true →
      ∀ ord : List DictEntry → List DictEntry, (∀ l, (ord l).Perm l) →
      ∃ vs s₁, layAllW c.records (classAt s.heap) w.params ord args s = some (vs, s₁) ∧
        wpC (model c.prog w) callerA (tree vs) (fun fin s' => ∃ f, fin = .done f ∧ (c.Ends s args vs s₁ (.ok f) s' ∧ s'.os = s.os ∧ AllBare s'.gens ∧ kept s'.heap))
          (fun e s' => c.Ends s args vs s₁ (.error e) s' ∧ s'.os = s.os ∧ AllBare s'.gens ∧ kept s'.heap) s₁) :
    c.CallFrom (fun vs => ⟨tree vs, .builtin "claim.caller" {}, default, []⟩) w free gens kept s := by
  intro args hpre hlay ord hord
  obtain ⟨vs, s₁, hlaid, hcode⟩ := hspec args hpre hlay ord hord
  have hal := layAllW_rest _ _ _ hlaid
  obtain ⟨k, r, s', s'', hrun, hsched, hfo, hcase, hos, hkp⟩ := ends_C (prog := c.prog) (w := w) (t := tree vs) (s := s₁)
    (R := fun r s' => c.Ends s args vs s₁ r s' ∧ s'.os = s.os ∧ kept s'.heap)
    (Shared.asleep_of_life hal.2.2.2 hz)
    (wpC_mono hcode (by
      rintro fin s' ⟨f, e, h1, h2, h3, h4⟩
      exact ⟨f, e, ⟨h1, h2, h4⟩, leftWithCleanup_false_of_bare h3⟩) (by
      rintro e s' ⟨h1, h2, h3, h4⟩
      exact ⟨⟨h1, h2, h4⟩, leftWithCleanup_false_of_bare h3⟩))
  obtain ⟨eh, _, _, eo, _⟩ := Shared.forget_eq hfo
  have hcase := hcase.congr eh
  have hkp : kept s'.heap := by first | exact eh ▸ hkp | (rw [eh] at hkp; exact hkp) | (rw [← eh] at hkp; exact hkp)
  rw [← eo] at hos
  have hlife : s'.heap.life = s.heap.life := (runN_life _ _ _ hrun).trans hal.2.2.2
  refine ⟨vs, s₁, hlaid, k, _, s', hsched, ?_, (fun _ i x hx => by rw [hgens] at hx; simp at hx), hkp, by rw [hlife], Shared.rest_eq hos⟩
  rcases hcase with ⟨v, rfl, d1, d2, d3, d4, d5⟩ | ⟨e, ob, cls, rfl, d1, d2, d3, d4, d5⟩
  · exact .inl ⟨v, rfl, d1, d2, d3, fun b o y _ => d4 b o y, d5⟩
  · exact .inr ⟨e, ob, cls, rfl, d1, d2, d3, d4, fun b o y _ => d5 b o y⟩

theorem open_anyC {r : RowW} {run : Value → List Value → Sem Value} {tree : List Value → Sem Fin} {q : Program} {loose defs kps : List PySem.Str} {writes : Bool} {Xt : Shared → Bool} {XP : (PySem.Str → Option Value) → Heap → Prop} {α : Type} {Yf : Shared → α} {Ya : World → α} {YP : World → Heap → Prop} {N : Nat}
    (left : LeftO r.prog q loose Xt Yf Ya N) (hY : ∀ w s, Yf s = Ya w → YP w s.heap) (hYk : ∀ w h h', YP w h → (∀ b o, h.get? b = some o → h'.get? b = some o) → YP w h') (hX : ∀ s, Xt s = true → XP (s.heap.nsMap mainGlobals) s.heap) (hXk : ∀ mg h h', XP mg h → (∀ b o, h.get? b = some o → h'.get? b = some o) → XP mg h')
    (hRf : ∀ s, Xt s = true → RecFacts r.records s.heap) (hwr : (!writes || r.records.isEmpty) = true) (ok : (chainsOk q && opensWell r.prog && (frees r && r.within.isEmpty)) = true) (hb : r.prog.bare) (hw : r.promised)
    (ht : ∀ vs (w : World) (s : Shared) mg f (Q : Fin → Shared → Prop) (E : Value → Shared → Prop), s.heap.Ns mainGlobals mg → mg r.name = some f → wpC (model r.prog w) callerA (run f vs) (fun v s' => Q (.done (.ret v)) s') E s → wpC (model r.prog w) callerA (tree vs) Q E s)
    (pin : ∀ w s, s.heap.isNs mainGlobals = true → Ground q loose [] XP w s (s.heap.nsMap mainGlobals) (s.heap.nsMap builtinsNs) s.heap → ∀ n ∈ defs, isTheDefsW r.prog s.heap n)
    (call : ∀ (w : World) (s₀ s₁ : Shared) (mg mb : PySem.Str → Option Value), Ground q loose r.records XP w s₀ mg mb s₁.heap → YP w s₁.heap → ∀ (args : List WData) (vs : List Value) (as : List Addr),
      r.claim.pre args = true → WData.layableAll args = true → Laid r.records w s₀ s₁ args vs as → sysModules < s₀.heap.objs.size → ∃ f, mg r.name = some f ∧
        wpC (model r.prog w) callerA (run f vs) (fun v s' => GoodWG r.claim (classAt s₀.heap) (ExcName.means s₀.heap) args s₁ (.ok (.ret v)) s')
          (fun e s' => GoodWG r.claim (classAt s₀.heap) (ExcName.means s₀.heap) args s₁ (.error e) s') s₁) : r.claim.HoldsOpenBy (fun vs => ⟨tree vs, .builtin "claim.caller" {}, default, []⟩) defs kps writes := by
  obtain ⟨ok, k5⟩ := Bool.and_eq_true_iff.mp ok
  obtain ⟨hch, o1⟩ := Bool.and_eq_true_iff.mp ok
  obtain ⟨k5, k6⟩ := Bool.and_eq_true_iff.mp k5
  obtain ⟨hsame, hu, ha, hap, hm⟩ := frees_parts k5
  refine ⟨⟨hb, o1, by show r.makers.map _ = []; rw [hm]; rfl⟩, hw.witness, fun w => ⟨(left.behind hX hch w).1, fun s' hs' => ?_⟩⟩
  obtain ⟨s₀, hf, hg0, s, hT, hz, hgens, hg, G00, y⟩ := (left.behind (XP := fun mg h => XP mg h ∧ RecFacts r.records h) (fun s hs => ⟨hX s hs, hRf s hs⟩) hch w).2 s' hs'
  have G0 : Ground q loose [] XP w s (s.heap.nsMap mainGlobals) (s.heap.nsMap builtinsNs) s.heap := ⟨G00.T, G00.B, G00.D, G00.TE, G00.TD, G00.W, G00.X.1, G00.cls, G00.has, G00.apart, G00.once, G00.K⟩
  have RF := G00.X.2
  have hT' := hT
  refine ⟨s₀, hf, hg0, s, hT, pin w s hg G0, RF.1, RF.2.1, ?_⟩
  have hgens : s.gens = #[] := Array.eq_empty_of_size_eq_zero (beq_iff_eq.mp hgens)
  have G : Ground q loose r.records XP w s _ _ s.heap := RF.ground G0
  refine callFrom_C (c := r.claim) hz hgens fun args hpre hlay ord hord => ?_
  obtain ⟨⟨vs, s₁⟩, hlaid⟩ := Option.isSome_iff_exists.mp (layAllW_isSome (P := w.params) (ord := ord) G.has args r.args s (pre_splitW hpre).1)
  have keeps := layAllW_keeps _ _ _ hlaid
  have hal := layAllW_rest _ _ _ hlaid
  obtain ⟨as, hrd, hin, hold⟩ := reads_layAllW hord _ _ _ hlaid hlay s₁.heap (fun _ _ e => e)
  have L : Laid r.records w s s₁ args vs as := ⟨⟨ord, hord, hlaid⟩, hrd, hin, hold, keeps, hal.1.trans hgens, hal.2.2.1⟩
  have G₁ := G.keeps hXk keeps
  obtain ⟨f, hf, h⟩ := call w s s₁ _ _ G₁ (hYk _ _ _ (hY w s y) keeps) args vs as hpre hlay L G.low
  have hi := ident_freeW hu ha hap
  have hwi : r.claim.within = [] := List.isEmpty_iff.mp k6
  exact ⟨vs, s₁, hlaid, ht vs w s₁ _ f _ _ G₁.T.g hf (wpC_mono h (fun v s' g => ⟨_, rfl, have z := g.laid (c := r.claim) hsame hwi hi L; ⟨z.1, z.2.1, z.2.2, fun q => ⟨namesKept_of hT' hg kps keeps g.2.1.old, noTable hwr q⟩⟩⟩) fun e s' g => have z := g.laid (c := r.claim) hsame hwi hi L; ⟨z.1, z.2.1, z.2.2, fun q => ⟨namesKept_of hT' hg kps keeps g.2.1.old, noTable hwr q⟩⟩)⟩

noncomputable abbrev WalkC (q : Program) (loose : List PySem.Str) (XP : (PySem.Str → Option Value) → Heap → Prop) (YP : World → Heap → Prop) (r : RowW) (d : DefRec) (kwd : List (PySem.Str × Expr)) (run : Value → List Value → Sem Value) : Prop :=
  ∀ (w : World) (s₀ s₁ : Shared) (mg mb : PySem.Str → Option Value), Ground q loose r.records XP w s₀ mg mb s₁.heap → YP w s₁.heap → ∀ (a : Addr) (o : Obj) (pm cd doc dV kV : Value), s₁.heap.get? a = some o →
    o.data = .func { docDef d.name d.params d.body d.scope pm cd doc with defaults := dV, kwdefaults := kV } → s₁.heap.CodeRec cd d.name → Dflts mg s₁.heap d.params kwd dV kV → mg d.name = some (.ref a) → s₁.gens = #[] →
    ∀ (args : List WData) (vals : List Value) (as : List Addr), r.claim.pre args = true → WData.layableAll args = true → ReadsAllW r.records (classAt s₀.heap) s₁.heap vals args as → WellAll w.params s₁.heap vals args → (∀ a ∈ as, (a == sysModules) = false) →
      wpC (model r.prog w) callerA (run (.ref a) vals) (fun v s' => GoodWG r.claim (classAt s₀.heap) (ExcName.means s₀.heap) args s₁ (.ok (.ret v)) s')
        (fun e s' => GoodWG r.claim (classAt s₀.heap) (ExcName.means s₀.heap) args s₁ (.error e) s') s₁

end Mine
namespace Mine.PySem.W
theorem holds_open {r : OpenRow} {q : Program} {loose : List PySem.Str} {Xt : Shared → Bool} {XP : (PySem.Str → Option Value) → Heap → Prop} {α : Type} {Yf : Shared → α} {Ya : World → α} {YP : World → Heap → Prop} {d : DefRec} {kwd : List (PySem.Str × Expr)} {N : Nat}
    (left : LeftO r.prog q loose Xt Yf Ya N) (hY : ∀ w s, Yf s = Ya w → YP w s.heap) (hYk : ∀ w h h', YP w h → (∀ b o, h.get? b = some o → h'.get? b = some o) → YP w h')
    (hX : ∀ s, Xt s = true → XP (s.heap.nsMap mainGlobals) s.heap) (hXk : ∀ mg h h', XP mg h → (∀ b o, h.get? b = some o → h'.get? b = some o) → XP mg h')
    (hdef : defOf q r.name = some (d, kwd)) (hp : r.prog.theDef r.name = some (d.params, d.body, d.scope)) (hk : kwWritten? d.params.kwonlyargs d.params.kw_defaults = some kwd) (hRf : ∀ s, Xt s = true → RecFacts r.records s.heap) (hwr : (!r.writes || r.records.isEmpty) = true)
    (k1 : r.wellSaid = true) (ok : (chainsOk q && opensWell r.prog && (frees r.toRowW && r.within.isEmpty)) = true) (hb : r.prog.bare) (hw : r.toRowW.promised)
    (call : WalkC q loose XP YP r.toRowW d kwd fun f vs => PySem.call f vs) : r.Holds := by
  refine ⟨k1, hw, open_anyC (r := r.toRowW) (run := fun f vs => PySem.call f vs) (tree := fun vs => do match ← nsGet mainNs r.name with
      | some f => do ret (← PySem.call f vs)
      | none => unsupported "claim.caller:no-such-global") left hY hYk hX hXk hRf hwr ok hb hw
    (fun vs w s mg f Q E hg hf h => wpC_bindA (wpAny_nsGet hg (by rw [hf]; exact wpC_bind (wpC_mono h (fun _ _ x => wpC_pure x) fun _ _ x => x))))
    (fun w s hg G n hn => ?_) fun w s₀ s₁ mg mb G Y args vs as hpre hlay L low => ?_⟩
  · obtain rfl : n = r.name := by split at hn <;> simp_all
    exact pinned_of_view hg G hdef hp hk
  · obtain ⟨a, o, pm, cd, doc, dV, kV, h1, h2, h3, h4, h5⟩ := G.fn hdef
    exact ⟨.ref a, h1, call w s₀ s₁ mg mb G Y a o pm cd doc dV kV h2 h3 h4 h5 (defOf_name hdef ▸ h1) L.gens args vs as hpre hlay L.reads L.well (L.low low)⟩
end Mine.PySem.W
end

section
open PySem PySem.W PyProof.Rows
set_option Elab.async false
namespace Mine
set_option maxRecDepth 100000 in
set_option maxHeartbeats 8000000 in
open_top hc for PySem.Challenge.rw_zo0009_01
end Mine
end

section
open PySem PySem.W PyProof.Rows
open Sem (wp)
set_option Elab.async false
set_option linter.unusedVariables false
set_option maxRecDepth 100000
namespace Mine

/-- what the run's heap is known to hold -/
structure Sit (c : Cx) : Prop where
  K : (hc.heap_39 c.w.params).In c.G
  b : ∃ mb, c.G.Ns builtinsNs mb ∧ ∀ x : PySem.Str, x ≠ ("__name__" : PySem.Str) → mb x = bootBuiltins x
  lim : c.G.NoLimit

noncomputable def gmain : List (PySem.Str × Value) := [("unmatched", .ref 38), ("HEADER_ESCAPE_RE", .ref 43), ("IPV4_RE", .ref 48), ("liberal_is_HDN", .ref 55), ("user_domain_match", .ref 62), ("_int2digits", .ref 69), ("_digits2int", .ref 76), ("ne", .ref 83), ("lshift", .ref 90), ("or_", .ref 97), ("sub", .ref 104),
  ("countOf", .ref 111), ("_byteswap", .ref 118), ("_law_grown", .ref 123), ("_law_figures", .ref 130), ("_law_address", .ref 135), ("_law_host", .ref 140), ("_law_told", .ref 147), ("_law_led", .ref 154)]
noncomputable def gblt : List (PySem.Str × Value) := [("len", .builtin "len"), ("int", .type "int"), ("str", .type "str"), ("chr", .builtin "chr"), ("abs", .builtin "abs"), ("bytes", .type "bytes"), ("isinstance", .builtin "isinstance"), ("range", .type "range"), ("reversed", .type "reversed"),
  ("enumerate", .type "enumerate"), ("bytearray", .type "bytearray")]

noncomputable def ent (P : Params) (a : Addr) : Option Obj := (hc.heap_39 P).lookup a
noncomputable def esAt (P : Params) (a : Addr) : Array DictEntry := match ent P a with
  | some o => match o.data with | .dict es _ => es | _ => #[]
  | none => #[]
noncomputable def fdAt (P : Params) (a : Addr) : FuncData := match ent P a with
  | some o => match o.data with | .func fd => fd | _ => default
  | none => default

theorem bad1 : ∀ p ∈ gblt, bootBuiltins p.1 = some p.2 := by decide +kernel
theorem bad2 : ∀ p ∈ gblt, p.1 ≠ ("__name__" : PySem.Str) := by decide +kernel
theorem main_find (P : Params) : gmain.map (fun p => nsFind (esAt P mainGlobals) p.1) = gmain.map (fun p => some p.2) := by kernel_rfl
theorem main_find' (P : Params) : gblt.map (fun p => nsFind (esAt P mainGlobals) p.1) = gblt.map (fun p => none) := by kernel_rfl

noncomputable def epAt (P : Params) (a : Addr) : Nat := match ent P a with
  | some o => match o.data with | .dict _ n => n | _ => 0
  | none => 0
theorem ent3 (P : Params) : ent P mainGlobals = some { cls := .type "dict", data := .dict (esAt P mainGlobals) (epAt P mainGlobals) } := by kernel_rfl
noncomputable def keyStr : DictEntry → Bool := fun e => match e.key with | .str _ _ => true | _ => false
theorem keys3 (P : Params) : (esAt P mainGlobals).toList.all keyStr = true := by kernel_rfl
theorem strKeys_of {es : Array DictEntry} (h : es.toList.all keyStr = true) : StrKeys es := fun e he => by
  have := List.all_eq_true.mp h e (Array.mem_toList_iff.mpr he)
  unfold keyStr at this
  split at this
  · rename_i n t q; exact ⟨n, t, q⟩
  · cases this

variable {c : Cx} {n : Nat}
theorem Sit.main (S : Sit c) : c.G.Ns mainGlobals (nsFind (esAt c.w.params mainGlobals)) := by
  exact ⟨_, _, _, S.K _ _ (ent3 c.w.params), rfl, strKeys_of (keys3 _), fun _ => rfl⟩

theorem map_mem {α β : Type} {l : List α} {f g : α → β} (h : l.map f = l.map g) : ∀ x ∈ l, f x = g x := List.map_inj_left.mp h

theorem Sit.glob (S : Sit c) : ∀ p ∈ gmain, (p.1 == (PySem.Str.ofString "__debug__")) = false → Glob c p.1 p.2 := fun p hp hd =>
  Glob.of_global S.main (map_mem (main_find c.w.params) p hp) hd
theorem Sit.globB (S : Sit c) : ∀ p ∈ gblt, (p.1 == (PySem.Str.ofString "__debug__")) = false → Glob c p.1 p.2 := fun p hp hd => by
  obtain ⟨mb, hb, hm⟩ := S.b
  exact Glob.of_builtin S.main (map_mem (main_find' c.w.params) p hp) hb ((hm _ (bad2 p hp)).trans (bad1 p hp)) hd

noncomputable def adOf : Nat → Addr
  | 0 => 38 | 1 => 55 | 2 => 62 | 3 => 69 | 4 => 76 | 5 => 83 | 6 => 90 | 7 => 97 | 8 => 104 | 9 => 111 | 10 => 118 | 11 => 123 | 12 => 130 | 13 => 135 | 14 => 140 | 15 => 147 | 16 => 154 | _ => 159
noncomputable def rp : Rp where
  gl := fun x => (gmain ++ gblt).lookup x
  ad := adOf
  pats := fun a => if a = 43 then some true else if a = 48 then some false else none

theorem nodebug : ∀ p ∈ gmain ++ gblt, (p.1 == (PySem.Str.ofString "__debug__")) = false := by decide +kernel

theorem Sit.gl (S : Sit c) : ∀ x v, rp.gl x = some v → Glob c x v := fun x v h => by
  have hm : (x, v) ∈ gmain ++ gblt := mem_of_lookup h
  rcases List.mem_append.mp hm with q | q
  · exact S.glob _ q (nodebug _ hm)
  · exact S.globB _ q (nodebug _ hm)
end Mine
end

section
open PySem PySem.W PyProof.Rows
open Sem (wp)
set_option Elab.async false
set_option linter.unusedVariables false
set_option maxRecDepth 100000
namespace Mine

noncomputable def bodyAt (P : Params) (a : Addr) : List Stmt := match (fdAt P a).body with | .stmts b => b | _ => []
noncomputable def fieldsAt (P : Params) (a : Addr) : Array Value := match ent P a with
  | some o => match o.data with | .fields vs => vs | _ => #[]
  | none => #[]
noncomputable def seqAt (P : Params) (a : Addr) : Array Value := match ent P a with
  | some o => match o.data with | .seq vs _ => vs | _ => #[]
  | none => #[]
noncomputable def seqN (P : Params) (a : Addr) : Nat := match ent P a with
  | some o => match o.data with | .seq _ n => n | _ => 0
  | none => 0

noncomputable def isStr (v : Option Value) (x : PySem.Str) : Bool := match v with | some (.str q _) => q == x | _ => false
noncomputable def okName (sc : Scope) (x : PySem.Str) : Bool := (match sc.names.lookup x with | some .local => true | some .cell => true | _ => false) && !(x == (PySem.Str.ofString "__debug__")) && !(x == (PySem.Str.ofString "__classdict__"))
noncomputable def okFd (fd : FuncData) (cd : Addr) (nt : List PySem.Str) (np : Nat) : Bool :=
  fd.closure.isEmpty && !fd.scope.isCoroutine && !fd.scope.isGenerator && (fd.scope.kind == .function) && (fd.globals == mainGlobals) && (fd.builtins == builtinsNs) && decide (np ≤ nt.length) && decide nt.Nodup && nt.all (okName fd.scope) &&
    fd.scope.names.all (fun y => !(y.2 == .cell) || fd.scope.names.lookup y.1 == some .cell) && (match fd.code with | .ref a => a == cd | _ => false)

variable {c : Cx} {n : Nat}

theorem mkFun (S : Sit c) {f cd : Addr} {nt : List PySem.Str} {np : Nat} (e1 : ent c.w.params f = some { cls := .type "function", data := .func (fdAt c.w.params f) }) (e2 : (fdAt c.w.params f).body = .stmts (bodyAt c.w.params f))
    (e3 : ent c.w.params cd = some { cls := .type "code", data := .fields (fieldsAt c.w.params cd) }) (e4 : isStr ((fieldsAt c.w.params cd)[1]?) (fdAt c.w.params f).qualname = true) (ok : okFd (fdAt c.w.params f) cd nt np = true)
    (bind : ∀ vals : List Value, vals.length = np → bindArgs (fdAt c.w.params f) ⟨vals, []⟩ = pure ((nt.take np).zip vals)) : Fun c f (fdAt c.w.params f) (bodyAt c.w.params f) nt np := by
  unfold okFd at ok
  simp only [Bool.and_eq_true, Bool.not_eq_true', beq_iff_eq, decide_eq_true_eq] at ok
  obtain ⟨⟨⟨⟨⟨⟨⟨⟨⟨⟨h1, h2⟩, h3⟩, h4⟩, h5⟩, h6⟩, h7⟩, h8⟩, h9⟩, h10⟩, h11⟩ := ok
  have hc : (fdAt c.w.params f).code = .ref cd := by
    split at h11
    · rename_i a q; rw [q]; rw [beq_iff_eq.mp h11]
    · cases h11
  have nm : ∀ (i : Nat) (x : PySem.Str), nt[i]? = some x → okName (fdAt c.w.params f).scope x = true := fun i x e => List.all_eq_true.mp h9 x (List.mem_of_getElem? e)
  exact {
    get := ⟨_, S.K _ _ e1, rfl⟩
    lim := S.lim
    cod := by
      unfold isStr at e4
      split at e4
      · rename_i q t hq
        exact ⟨cd, _, _, t, hc, S.K _ _ e3, rfl, by rw [hq, beq_iff_eq.mp e4]⟩
      · cases e4
    bd := e2
    bind := bind
    clo := List.isEmpty_iff.mp h1
    co := h2, gen := h3, kind := by simpa using h4, gl := h5, bl := h6, len := h7, nd := h8
    names := fun i x e => by
      have := nm i x e
      unfold okName at this
      simp only [Bool.and_eq_true] at this
      have := this.1.1
      split at this
      · rename_i q; exact .inl q
      · rename_i q; exact .inr q
      · cases this
    cells := fun y hy e => by
      have := List.all_eq_true.mp h10 y hy
      rw [e] at this
      simpa using this
    ndb := fun i x e => by
      have := nm i x e
      unfold okName at this
      simp only [Bool.and_eq_true, Bool.not_eq_true'] at this
      exact ⟨this.1.2, this.2⟩ }

theorem Sit.pats (S : Sit c) : ∀ pa k, rp.pats pa = some k → IsPat c.G pa k := by
  intro pa k h
  simp only [rp] at h
  split at h
  · rename_i q; subst q; cases h
    exact ⟨_, fieldsAt c.w.params 43, 42, _, seqAt c.w.params 42, seqN c.w.params 42, S.K 43 { cls := .type "re.Pattern", data := .fields (fieldsAt c.w.params 43) } (by kernel_rfl), rfl, rfl, rfl, by kernel_rfl, by kernel_rfl, by kernel_rfl, S.K 42 { cls := .type "tuple", data := .seq (seqAt c.w.params 42) (seqN c.w.params 42) } (by kernel_rfl), rfl, by kernel_rfl⟩
  · split at h
    · rename_i q; subst q; cases h
      exact ⟨_, fieldsAt c.w.params 48, 47, _, seqAt c.w.params 47, seqN c.w.params 47, S.K 48 { cls := .type "re.Pattern", data := .fields (fieldsAt c.w.params 48) } (by kernel_rfl), rfl, rfl, rfl, by kernel_rfl, by kernel_rfl, by kernel_rfl, S.K 47 { cls := .type "tuple", data := .seq (seqAt c.w.params 47) (seqN c.w.params 47) } (by kernel_rfl), rfl, by kernel_rfl⟩
    · cases h

theorem on1 {α : Type} {l : List α} (h : l.length = 1) : ∃ a, l = [a] := match l, h with | [a], _ => ⟨a, rfl⟩
theorem on2 {α : Type} {l : List α} (h : l.length = 2) : ∃ a b, l = [a, b] := match l, h with | [a, b], _ => ⟨a, b, rfl⟩
theorem fun0 (S : Sit c) : Fun c 38 (fdAt c.w.params 38) (bodyAt c.w.params 38) nt0 1 :=
  mkFun (cd := 37) S (by kernel_rfl) (by kernel_rfl) (by kernel_rfl) (by kernel_rfl) (by kernel_rfl) (fun vals h => by obtain ⟨a, rfl⟩ := on1 h; kernel_rfl)
theorem fun1 (S : Sit c) : Fun c 55 (fdAt c.w.params 55) (bodyAt c.w.params 55) nt1 1 :=
  mkFun (cd := 54) S (by kernel_rfl) (by kernel_rfl) (by kernel_rfl) (by kernel_rfl) (by kernel_rfl) (fun vals h => by obtain ⟨a, rfl⟩ := on1 h; kernel_rfl)
theorem fun2 (S : Sit c) : Fun c 62 (fdAt c.w.params 62) (bodyAt c.w.params 62) nt2 2 :=
  mkFun (cd := 61) S (by kernel_rfl) (by kernel_rfl) (by kernel_rfl) (by kernel_rfl) (by kernel_rfl) (fun vals h => by obtain ⟨a, b, rfl⟩ := on2 h; kernel_rfl)
theorem fun5 (S : Sit c) : Fun c 83 (fdAt c.w.params 83) (bodyAt c.w.params 83) nt5 2 :=
  mkFun (cd := 82) S (by kernel_rfl) (by kernel_rfl) (by kernel_rfl) (by kernel_rfl) (by kernel_rfl) (fun vals h => by obtain ⟨a, b, rfl⟩ := on2 h; kernel_rfl)
theorem fun6 (S : Sit c) : Fun c 90 (fdAt c.w.params 90) (bodyAt c.w.params 90) nt6 2 :=
  mkFun (cd := 89) S (by kernel_rfl) (by kernel_rfl) (by kernel_rfl) (by kernel_rfl) (by kernel_rfl) (fun vals h => by obtain ⟨a, b, rfl⟩ := on2 h; kernel_rfl)
theorem fun7 (S : Sit c) : Fun c 97 (fdAt c.w.params 97) (bodyAt c.w.params 97) nt7 2 :=
  mkFun (cd := 96) S (by kernel_rfl) (by kernel_rfl) (by kernel_rfl) (by kernel_rfl) (by kernel_rfl) (fun vals h => by obtain ⟨a, b, rfl⟩ := on2 h; kernel_rfl)
theorem fun8 (S : Sit c) : Fun c 104 (fdAt c.w.params 104) (bodyAt c.w.params 104) nt8 2 :=
  mkFun (cd := 103) S (by kernel_rfl) (by kernel_rfl) (by kernel_rfl) (by kernel_rfl) (by kernel_rfl) (fun vals h => by obtain ⟨a, b, rfl⟩ := on2 h; kernel_rfl)
theorem fun10 (S : Sit c) : Fun c 118 (fdAt c.w.params 118) (bodyAt c.w.params 118) nt10 2 :=
  mkFun (cd := 117) S (by kernel_rfl) (by kernel_rfl) (by kernel_rfl) (by kernel_rfl) (by kernel_rfl) (fun vals h => by obtain ⟨a, b, rfl⟩ := on2 h; kernel_rfl)
theorem fun11 (S : Sit c) : Fun c 123 (fdAt c.w.params 123) (bodyAt c.w.params 123) nt11 1 :=
  mkFun (cd := 122) S (by kernel_rfl) (by kernel_rfl) (by kernel_rfl) (by kernel_rfl) (by kernel_rfl) (fun vals h => by obtain ⟨a, rfl⟩ := on1 h; kernel_rfl)
theorem fun12 (S : Sit c) : Fun c 130 (fdAt c.w.params 130) (bodyAt c.w.params 130) nt12 2 :=
  mkFun (cd := 129) S (by kernel_rfl) (by kernel_rfl) (by kernel_rfl) (by kernel_rfl) (by kernel_rfl) (fun vals h => by obtain ⟨a, b, rfl⟩ := on2 h; kernel_rfl)
theorem fun13 (S : Sit c) : Fun c 135 (fdAt c.w.params 135) (bodyAt c.w.params 135) nt13 2 :=
  mkFun (cd := 134) S (by kernel_rfl) (by kernel_rfl) (by kernel_rfl) (by kernel_rfl) (by kernel_rfl) (fun vals h => by obtain ⟨a, b, rfl⟩ := on2 h; kernel_rfl)
theorem fun14 (S : Sit c) : Fun c 140 (fdAt c.w.params 140) (bodyAt c.w.params 140) nt14 2 :=
  mkFun (cd := 139) S (by kernel_rfl) (by kernel_rfl) (by kernel_rfl) (by kernel_rfl) (by kernel_rfl) (fun vals h => by obtain ⟨a, b, rfl⟩ := on2 h; kernel_rfl)
theorem fun15 (S : Sit c) : Fun c 147 (fdAt c.w.params 147) (bodyAt c.w.params 147) nt15 2 :=
  mkFun (cd := 146) S (by kernel_rfl) (by kernel_rfl) (by kernel_rfl) (by kernel_rfl) (by kernel_rfl) (fun vals h => by obtain ⟨a, b, rfl⟩ := on2 h; kernel_rfl)
theorem fun16 (S : Sit c) : Fun c 154 (fdAt c.w.params 154) (bodyAt c.w.params 154) nt16 2 :=
  mkFun (cd := 153) S (by kernel_rfl) (by kernel_rfl) (by kernel_rfl) (by kernel_rfl) (by kernel_rfl) (fun vals h => by obtain ⟨a, b, rfl⟩ := on2 h; kernel_rfl)
end Mine
end

section
open PySem PySem.W PyProof.Rows
set_option Elab.async false
set_option linter.unusedVariables false
set_option maxRecDepth 100000
set_option maxHeartbeats 4000000
namespace Mine
theorem rep0 (P : Params) (L : Addr) : RepL rp (fiF (fdAt P 38) 38 nt0 L) (bodyAt P 38) body0 := by
  repeat' first
    | exact RepL.nil
    | refine RepL.freeze ?_
    | refine RepL.cons ?_ ?_
    | exact RepEs.nil
    | refine RepEs.cons ?_ (by intro e q h; cases h) ?_
    | exact RepE.var rfl
    | exact RepE.cint
    | exact RepE.cstr rfl
    | exact RepE.cbool
    | exact RepE.cnone
    | exact RepE.neg rfl
    | refine RepE.bin ?_ ?_ rfl
    | refine RepE.cmp ?_ ?_ rfl rfl
    | refine RepE.and ?_ ?_
    | refine RepE.ite ?_ ?_ ?_
    | refine RepE.tup ?_
    | refine RepE.lst ?_
    | refine RepE.sliceLo ?_ ?_
    | refine RepE.sliceHi ?_ ?_
    | refine RepE.idx ?_ ?_ (by intro a b p h; cases h)
    | refine RepE.isBytes rfl rfl rfl rfl ?_ (by intro e q h; cases h)
    | exact RepE.bytesOwn rfl rfl rfl
    | refine RepE.call rfl rfl rfl ?_ rfl
    | refine RepE.bi rfl rfl rfl rfl ?_ rfl
    | refine RepE.ty rfl rfl rfl rfl ?_ rfl
    | refine RepE.repl rfl rfl ?_ (fun _ _ => rfl) rfl
    | refine RepE.search rfl rfl rfl ?_ (by intro e q h; cases h) (fun _ _ => rfl) rfl
    | refine RepE.meth ?_ ?_ rfl (fun _ _ => rfl) rfl (by decide)
    | refine RepE.text ?_ (fun _ _ => rfl)
    | refine RepE.countS rfl rfl rfl ?_ (by intro e q h; cases h)
    | refine RepE.countC rfl rfl rfl ?_ (by intro a b p h; cases h)
    | refine RepT.not ?_
    | refine RepT.and ?_ ?_
    | refine RepT.or ?_ ?_
    | refine RepT.cmp ?_ ?_ rfl rfl
    | refine RepT.plain ?_ rfl (fun _ _ => rfl)
    | refine RepS.ret ?_
    | refine RepS.ite ?_ ?_ ?_
    | refine RepS.set rfl ?_ rfl rfl
    | refine RepS.setOwn rfl ?_ rfl
    | refine RepS.set2 rfl rfl (by decide) ?_ rfl rfl (by first | exact .inl rfl | exact .inr rfl)
    | refine RepS.augIdx rfl ?_ ?_ (fun _ _ _ => rfl)
    | refine RepS.setIdxB rfl ?_ ?_ rfl
    | refine RepS.app rfl ?_ (by intro e q h; cases h) (fun _ _ => rfl) rfl rfl rfl
    | refine RepS.loop (two := false) ?_ (TgOK.one rfl (.inl rfl)) rfl ?_ (fun _ => rfl)
    | refine RepS.loop (two := true) ?_ (TgOK.two rfl rfl (.inl rfl) (.inl rfl)) rfl ?_ (fun _ => rfl)
    | refine RepSrc.pairs ?_ rfl
    | refine RepSrc.direct ?_
    | refine RepSrc.range1 rfl rfl ?_ (by intro e q h; cases h)
    | refine RepSrc.range3 rfl rfl ?_ ?_ ?_ (by intro e q h; cases h) (by intro e q h; cases h) (by intro e q h; cases h)
    | refine RepSrc.rev rfl rfl ?_ (by intro e q h; cases h)
    | refine RepSrc.enum rfl rfl ?_ (by intro e q h; cases h)
    | exact TgOK.one rfl (.inl rfl)
    | exact TgOK.two rfl rfl (.inl rfl) (.inl rfl)
theorem rep1 (P : Params) (L : Addr) : RepL rp (fiF (fdAt P 55) 55 nt1 L) (bodyAt P 55) body1 := by
  repeat' first
    | exact RepL.nil
    | refine RepL.freeze ?_
    | refine RepL.cons ?_ ?_
    | exact RepEs.nil
    | refine RepEs.cons ?_ (by intro e q h; cases h) ?_
    | exact RepE.var rfl
    | exact RepE.cint
    | exact RepE.cstr rfl
    | exact RepE.cbool
    | exact RepE.cnone
    | exact RepE.neg rfl
    | refine RepE.bin ?_ ?_ rfl
    | refine RepE.cmp ?_ ?_ rfl rfl
    | refine RepE.and ?_ ?_
    | refine RepE.ite ?_ ?_ ?_
    | refine RepE.tup ?_
    | refine RepE.lst ?_
    | refine RepE.sliceLo ?_ ?_
    | refine RepE.sliceHi ?_ ?_
    | refine RepE.idx ?_ ?_ (by intro a b p h; cases h)
    | refine RepE.isBytes rfl rfl rfl rfl ?_ (by intro e q h; cases h)
    | exact RepE.bytesOwn rfl rfl rfl
    | refine RepE.call rfl rfl rfl ?_ rfl
    | refine RepE.bi rfl rfl rfl rfl ?_ rfl
    | refine RepE.ty rfl rfl rfl rfl ?_ rfl
    | refine RepE.repl rfl rfl ?_ (fun _ _ => rfl) rfl
    | refine RepE.search rfl rfl rfl ?_ (by intro e q h; cases h) (fun _ _ => rfl) rfl
    | refine RepE.meth ?_ ?_ rfl (fun _ _ => rfl) rfl (by decide)
    | refine RepE.text ?_ (fun _ _ => rfl)
    | refine RepE.countS rfl rfl rfl ?_ (by intro e q h; cases h)
    | refine RepE.countC rfl rfl rfl ?_ (by intro a b p h; cases h)
    | refine RepT.not ?_
    | refine RepT.and ?_ ?_
    | refine RepT.or ?_ ?_
    | refine RepT.cmp ?_ ?_ rfl rfl
    | refine RepT.plain ?_ rfl (fun _ _ => rfl)
    | refine RepS.ret ?_
    | refine RepS.ite ?_ ?_ ?_
    | refine RepS.set rfl ?_ rfl rfl
    | refine RepS.setOwn rfl ?_ rfl
    | refine RepS.set2 rfl rfl (by decide) ?_ rfl rfl (by first | exact .inl rfl | exact .inr rfl)
    | refine RepS.augIdx rfl ?_ ?_ (fun _ _ _ => rfl)
    | refine RepS.setIdxB rfl ?_ ?_ rfl
    | refine RepS.app rfl ?_ (by intro e q h; cases h) (fun _ _ => rfl) rfl rfl rfl
    | refine RepS.loop (two := false) ?_ (TgOK.one rfl (.inl rfl)) rfl ?_ (fun _ => rfl)
    | refine RepS.loop (two := true) ?_ (TgOK.two rfl rfl (.inl rfl) (.inl rfl)) rfl ?_ (fun _ => rfl)
    | refine RepSrc.pairs ?_ rfl
    | refine RepSrc.direct ?_
    | refine RepSrc.range1 rfl rfl ?_ (by intro e q h; cases h)
    | refine RepSrc.range3 rfl rfl ?_ ?_ ?_ (by intro e q h; cases h) (by intro e q h; cases h) (by intro e q h; cases h)
    | refine RepSrc.rev rfl rfl ?_ (by intro e q h; cases h)
    | refine RepSrc.enum rfl rfl ?_ (by intro e q h; cases h)
    | exact TgOK.one rfl (.inl rfl)
    | exact TgOK.two rfl rfl (.inl rfl) (.inl rfl)
theorem rep2 (P : Params) (L : Addr) : RepL rp (fiF (fdAt P 62) 62 nt2 L) (bodyAt P 62) body2 := by
  repeat' first
    | exact RepL.nil
    | refine RepL.freeze ?_
    | refine RepL.cons ?_ ?_
    | exact RepEs.nil
    | refine RepEs.cons ?_ (by intro e q h; cases h) ?_
    | exact RepE.var rfl
    | exact RepE.cint
    | exact RepE.cstr rfl
    | exact RepE.cbool
    | exact RepE.cnone
    | exact RepE.neg rfl
    | refine RepE.bin ?_ ?_ rfl
    | refine RepE.cmp ?_ ?_ rfl rfl
    | refine RepE.and ?_ ?_
    | refine RepE.ite ?_ ?_ ?_
    | refine RepE.tup ?_
    | refine RepE.lst ?_
    | refine RepE.sliceLo ?_ ?_
    | refine RepE.sliceHi ?_ ?_
    | refine RepE.idx ?_ ?_ (by intro a b p h; cases h)
    | refine RepE.isBytes rfl rfl rfl rfl ?_ (by intro e q h; cases h)
    | exact RepE.bytesOwn rfl rfl rfl
    | refine RepE.call rfl rfl rfl ?_ rfl
    | refine RepE.bi rfl rfl rfl rfl ?_ rfl
    | refine RepE.ty rfl rfl rfl rfl ?_ rfl
    | refine RepE.repl rfl rfl ?_ (fun _ _ => rfl) rfl
    | refine RepE.search rfl rfl rfl ?_ (by intro e q h; cases h) (fun _ _ => rfl) rfl
    | refine RepE.meth ?_ ?_ rfl (fun _ _ => rfl) rfl (by decide)
    | refine RepE.text ?_ (fun _ _ => rfl)
    | refine RepE.countS rfl rfl rfl ?_ (by intro e q h; cases h)
    | refine RepE.countC rfl rfl rfl ?_ (by intro a b p h; cases h)
    | refine RepT.not ?_
    | refine RepT.and ?_ ?_
    | refine RepT.or ?_ ?_
    | refine RepT.cmp ?_ ?_ rfl rfl
    | refine RepT.plain ?_ rfl (fun _ _ => rfl)
    | refine RepS.ret ?_
    | refine RepS.ite ?_ ?_ ?_
    | refine RepS.set rfl ?_ rfl rfl
    | refine RepS.setOwn rfl ?_ rfl
    | refine RepS.set2 rfl rfl (by decide) ?_ rfl rfl (by first | exact .inl rfl | exact .inr rfl)
    | refine RepS.augIdx rfl ?_ ?_ (fun _ _ _ => rfl)
    | refine RepS.setIdxB rfl ?_ ?_ rfl
    | refine RepS.app rfl ?_ (by intro e q h; cases h) (fun _ _ => rfl) rfl rfl rfl
    | refine RepS.loop (two := false) ?_ (TgOK.one rfl (.inl rfl)) rfl ?_ (fun _ => rfl)
    | refine RepS.loop (two := true) ?_ (TgOK.two rfl rfl (.inl rfl) (.inl rfl)) rfl ?_ (fun _ => rfl)
    | refine RepSrc.pairs ?_ rfl
    | refine RepSrc.direct ?_
    | refine RepSrc.range1 rfl rfl ?_ (by intro e q h; cases h)
    | refine RepSrc.range3 rfl rfl ?_ ?_ ?_ (by intro e q h; cases h) (by intro e q h; cases h) (by intro e q h; cases h)
    | refine RepSrc.rev rfl rfl ?_ (by intro e q h; cases h)
    | refine RepSrc.enum rfl rfl ?_ (by intro e q h; cases h)
    | exact TgOK.one rfl (.inl rfl)
    | exact TgOK.two rfl rfl (.inl rfl) (.inl rfl)
theorem rep5 (P : Params) (L : Addr) : RepL rp (fiF (fdAt P 83) 83 nt5 L) (bodyAt P 83) body5 := by
  repeat' first
    | exact RepL.nil
    | refine RepL.freeze ?_
    | refine RepL.cons ?_ ?_
    | exact RepEs.nil
    | refine RepEs.cons ?_ (by intro e q h; cases h) ?_
    | exact RepE.var rfl
    | exact RepE.cint
    | exact RepE.cstr rfl
    | exact RepE.cbool
    | exact RepE.cnone
    | exact RepE.neg rfl
    | refine RepE.bin ?_ ?_ rfl
    | refine RepE.cmp ?_ ?_ rfl rfl
    | refine RepE.and ?_ ?_
    | refine RepE.ite ?_ ?_ ?_
    | refine RepE.tup ?_
    | refine RepE.lst ?_
    | refine RepE.sliceLo ?_ ?_
    | refine RepE.sliceHi ?_ ?_
    | refine RepE.idx ?_ ?_ (by intro a b p h; cases h)
    | refine RepE.isBytes rfl rfl rfl rfl ?_ (by intro e q h; cases h)
    | exact RepE.bytesOwn rfl rfl rfl
    | refine RepE.call rfl rfl rfl ?_ rfl
    | refine RepE.bi rfl rfl rfl rfl ?_ rfl
    | refine RepE.ty rfl rfl rfl rfl ?_ rfl
    | refine RepE.repl rfl rfl ?_ (fun _ _ => rfl) rfl
    | refine RepE.search rfl rfl rfl ?_ (by intro e q h; cases h) (fun _ _ => rfl) rfl
    | refine RepE.meth ?_ ?_ rfl (fun _ _ => rfl) rfl (by decide)
    | refine RepE.text ?_ (fun _ _ => rfl)
    | refine RepE.countS rfl rfl rfl ?_ (by intro e q h; cases h)
    | refine RepE.countC rfl rfl rfl ?_ (by intro a b p h; cases h)
    | refine RepT.not ?_
    | refine RepT.and ?_ ?_
    | refine RepT.or ?_ ?_
    | refine RepT.cmp ?_ ?_ rfl rfl
    | refine RepT.plain ?_ rfl (fun _ _ => rfl)
    | refine RepS.ret ?_
    | refine RepS.ite ?_ ?_ ?_
    | refine RepS.set rfl ?_ rfl rfl
    | refine RepS.setOwn rfl ?_ rfl
    | refine RepS.set2 rfl rfl (by decide) ?_ rfl rfl (by first | exact .inl rfl | exact .inr rfl)
    | refine RepS.augIdx rfl ?_ ?_ (fun _ _ _ => rfl)
    | refine RepS.setIdxB rfl ?_ ?_ rfl
    | refine RepS.app rfl ?_ (by intro e q h; cases h) (fun _ _ => rfl) rfl rfl rfl
    | refine RepS.loop (two := false) ?_ (TgOK.one rfl (.inl rfl)) rfl ?_ (fun _ => rfl)
    | refine RepS.loop (two := true) ?_ (TgOK.two rfl rfl (.inl rfl) (.inl rfl)) rfl ?_ (fun _ => rfl)
    | refine RepSrc.pairs ?_ rfl
    | refine RepSrc.direct ?_
    | refine RepSrc.range1 rfl rfl ?_ (by intro e q h; cases h)
    | refine RepSrc.range3 rfl rfl ?_ ?_ ?_ (by intro e q h; cases h) (by intro e q h; cases h) (by intro e q h; cases h)
    | refine RepSrc.rev rfl rfl ?_ (by intro e q h; cases h)
    | refine RepSrc.enum rfl rfl ?_ (by intro e q h; cases h)
    | exact TgOK.one rfl (.inl rfl)
    | exact TgOK.two rfl rfl (.inl rfl) (.inl rfl)
theorem rep6 (P : Params) (L : Addr) : RepL rp (fiF (fdAt P 90) 90 nt6 L) (bodyAt P 90) body6 := by
  repeat' first
    | exact RepL.nil
    | refine RepL.freeze ?_
    | refine RepL.cons ?_ ?_
    | exact RepEs.nil
    | refine RepEs.cons ?_ (by intro e q h; cases h) ?_
    | exact RepE.var rfl
    | exact RepE.cint
    | exact RepE.cstr rfl
    | exact RepE.cbool
    | exact RepE.cnone
    | exact RepE.neg rfl
    | refine RepE.bin ?_ ?_ rfl
    | refine RepE.cmp ?_ ?_ rfl rfl
    | refine RepE.and ?_ ?_
    | refine RepE.ite ?_ ?_ ?_
    | refine RepE.tup ?_
    | refine RepE.lst ?_
    | refine RepE.sliceLo ?_ ?_
    | refine RepE.sliceHi ?_ ?_
    | refine RepE.idx ?_ ?_ (by intro a b p h; cases h)
    | refine RepE.isBytes rfl rfl rfl rfl ?_ (by intro e q h; cases h)
    | exact RepE.bytesOwn rfl rfl rfl
    | refine RepE.call rfl rfl rfl ?_ rfl
    | refine RepE.bi rfl rfl rfl rfl ?_ rfl
    | refine RepE.ty rfl rfl rfl rfl ?_ rfl
    | refine RepE.repl rfl rfl ?_ (fun _ _ => rfl) rfl
    | refine RepE.search rfl rfl rfl ?_ (by intro e q h; cases h) (fun _ _ => rfl) rfl
    | refine RepE.meth ?_ ?_ rfl (fun _ _ => rfl) rfl (by decide)
    | refine RepE.text ?_ (fun _ _ => rfl)
    | refine RepE.countS rfl rfl rfl ?_ (by intro e q h; cases h)
    | refine RepE.countC rfl rfl rfl ?_ (by intro a b p h; cases h)
    | refine RepT.not ?_
    | refine RepT.and ?_ ?_
    | refine RepT.or ?_ ?_
    | refine RepT.cmp ?_ ?_ rfl rfl
    | refine RepT.plain ?_ rfl (fun _ _ => rfl)
    | refine RepS.ret ?_
    | refine RepS.ite ?_ ?_ ?_
    | refine RepS.set rfl ?_ rfl rfl
    | refine RepS.setOwn rfl ?_ rfl
    | refine RepS.set2 rfl rfl (by decide) ?_ rfl rfl (by first | exact .inl rfl | exact .inr rfl)
    | refine RepS.augIdx rfl ?_ ?_ (fun _ _ _ => rfl)
    | refine RepS.setIdxB rfl ?_ ?_ rfl
    | refine RepS.app rfl ?_ (by intro e q h; cases h) (fun _ _ => rfl) rfl rfl rfl
    | refine RepS.loop (two := false) ?_ (TgOK.one rfl (.inl rfl)) rfl ?_ (fun _ => rfl)
    | refine RepS.loop (two := true) ?_ (TgOK.two rfl rfl (.inl rfl) (.inl rfl)) rfl ?_ (fun _ => rfl)
    | refine RepSrc.pairs ?_ rfl
    | refine RepSrc.direct ?_
    | refine RepSrc.range1 rfl rfl ?_ (by intro e q h; cases h)
    | refine RepSrc.range3 rfl rfl ?_ ?_ ?_ (by intro e q h; cases h) (by intro e q h; cases h) (by intro e q h; cases h)
    | refine RepSrc.rev rfl rfl ?_ (by intro e q h; cases h)
    | refine RepSrc.enum rfl rfl ?_ (by intro e q h; cases h)
    | exact TgOK.one rfl (.inl rfl)
    | exact TgOK.two rfl rfl (.inl rfl) (.inl rfl)
theorem rep7 (P : Params) (L : Addr) : RepL rp (fiF (fdAt P 97) 97 nt7 L) (bodyAt P 97) body7 := by
  repeat' first
    | exact RepL.nil
    | refine RepL.freeze ?_
    | refine RepL.cons ?_ ?_
    | exact RepEs.nil
    | refine RepEs.cons ?_ (by intro e q h; cases h) ?_
    | exact RepE.var rfl
    | exact RepE.cint
    | exact RepE.cstr rfl
    | exact RepE.cbool
    | exact RepE.cnone
    | exact RepE.neg rfl
    | refine RepE.bin ?_ ?_ rfl
    | refine RepE.cmp ?_ ?_ rfl rfl
    | refine RepE.and ?_ ?_
    | refine RepE.ite ?_ ?_ ?_
    | refine RepE.tup ?_
    | refine RepE.lst ?_
    | refine RepE.sliceLo ?_ ?_
    | refine RepE.sliceHi ?_ ?_
    | refine RepE.idx ?_ ?_ (by intro a b p h; cases h)
    | refine RepE.isBytes rfl rfl rfl rfl ?_ (by intro e q h; cases h)
    | exact RepE.bytesOwn rfl rfl rfl
    | refine RepE.call rfl rfl rfl ?_ rfl
    | refine RepE.bi rfl rfl rfl rfl ?_ rfl
    | refine RepE.ty rfl rfl rfl rfl ?_ rfl
    | refine RepE.repl rfl rfl ?_ (fun _ _ => rfl) rfl
    | refine RepE.search rfl rfl rfl ?_ (by intro e q h; cases h) (fun _ _ => rfl) rfl
    | refine RepE.meth ?_ ?_ rfl (fun _ _ => rfl) rfl (by decide)
    | refine RepE.text ?_ (fun _ _ => rfl)
    | refine RepE.countS rfl rfl rfl ?_ (by intro e q h; cases h)
    | refine RepE.countC rfl rfl rfl ?_ (by intro a b p h; cases h)
    | refine RepT.not ?_
    | refine RepT.and ?_ ?_
    | refine RepT.or ?_ ?_
    | refine RepT.cmp ?_ ?_ rfl rfl
    | refine RepT.plain ?_ rfl (fun _ _ => rfl)
    | refine RepS.ret ?_
    | refine RepS.ite ?_ ?_ ?_
    | refine RepS.set rfl ?_ rfl rfl
    | refine RepS.setOwn rfl ?_ rfl
    | refine RepS.set2 rfl rfl (by decide) ?_ rfl rfl (by first | exact .inl rfl | exact .inr rfl)
    | refine RepS.augIdx rfl ?_ ?_ (fun _ _ _ => rfl)
    | refine RepS.setIdxB rfl ?_ ?_ rfl
    | refine RepS.app rfl ?_ (by intro e q h; cases h) (fun _ _ => rfl) rfl rfl rfl
    | refine RepS.loop (two := false) ?_ (TgOK.one rfl (.inl rfl)) rfl ?_ (fun _ => rfl)
    | refine RepS.loop (two := true) ?_ (TgOK.two rfl rfl (.inl rfl) (.inl rfl)) rfl ?_ (fun _ => rfl)
    | refine RepSrc.pairs ?_ rfl
    | refine RepSrc.direct ?_
    | refine RepSrc.range1 rfl rfl ?_ (by intro e q h; cases h)
    | refine RepSrc.range3 rfl rfl ?_ ?_ ?_ (by intro e q h; cases h) (by intro e q h; cases h) (by intro e q h; cases h)
    | refine RepSrc.rev rfl rfl ?_ (by intro e q h; cases h)
    | refine RepSrc.enum rfl rfl ?_ (by intro e q h; cases h)
    | exact TgOK.one rfl (.inl rfl)
    | exact TgOK.two rfl rfl (.inl rfl) (.inl rfl)
theorem rep8 (P : Params) (L : Addr) : RepL rp (fiF (fdAt P 104) 104 nt8 L) (bodyAt P 104) body8 := by
  repeat' first
    | exact RepL.nil
    | refine RepL.freeze ?_
    | refine RepL.cons ?_ ?_
    | exact RepEs.nil
    | refine RepEs.cons ?_ (by intro e q h; cases h) ?_
    | exact RepE.var rfl
    | exact RepE.cint
    | exact RepE.cstr rfl
    | exact RepE.cbool
    | exact RepE.cnone
    | exact RepE.neg rfl
    | refine RepE.bin ?_ ?_ rfl
    | refine RepE.cmp ?_ ?_ rfl rfl
    | refine RepE.and ?_ ?_
    | refine RepE.ite ?_ ?_ ?_
    | refine RepE.tup ?_
    | refine RepE.lst ?_
    | refine RepE.sliceLo ?_ ?_
    | refine RepE.sliceHi ?_ ?_
    | refine RepE.idx ?_ ?_ (by intro a b p h; cases h)
    | refine RepE.isBytes rfl rfl rfl rfl ?_ (by intro e q h; cases h)
    | exact RepE.bytesOwn rfl rfl rfl
    | refine RepE.call rfl rfl rfl ?_ rfl
    | refine RepE.bi rfl rfl rfl rfl ?_ rfl
    | refine RepE.ty rfl rfl rfl rfl ?_ rfl
    | refine RepE.repl rfl rfl ?_ (fun _ _ => rfl) rfl
    | refine RepE.search rfl rfl rfl ?_ (by intro e q h; cases h) (fun _ _ => rfl) rfl
    | refine RepE.meth ?_ ?_ rfl (fun _ _ => rfl) rfl (by decide)
    | refine RepE.text ?_ (fun _ _ => rfl)
    | refine RepE.countS rfl rfl rfl ?_ (by intro e q h; cases h)
    | refine RepE.countC rfl rfl rfl ?_ (by intro a b p h; cases h)
    | refine RepT.not ?_
    | refine RepT.and ?_ ?_
    | refine RepT.or ?_ ?_
    | refine RepT.cmp ?_ ?_ rfl rfl
    | refine RepT.plain ?_ rfl (fun _ _ => rfl)
    | refine RepS.ret ?_
    | refine RepS.ite ?_ ?_ ?_
    | refine RepS.set rfl ?_ rfl rfl
    | refine RepS.setOwn rfl ?_ rfl
    | refine RepS.set2 rfl rfl (by decide) ?_ rfl rfl (by first | exact .inl rfl | exact .inr rfl)
    | refine RepS.augIdx rfl ?_ ?_ (fun _ _ _ => rfl)
    | refine RepS.setIdxB rfl ?_ ?_ rfl
    | refine RepS.app rfl ?_ (by intro e q h; cases h) (fun _ _ => rfl) rfl rfl rfl
    | refine RepS.loop (two := false) ?_ (TgOK.one rfl (.inl rfl)) rfl ?_ (fun _ => rfl)
    | refine RepS.loop (two := true) ?_ (TgOK.two rfl rfl (.inl rfl) (.inl rfl)) rfl ?_ (fun _ => rfl)
    | refine RepSrc.pairs ?_ rfl
    | refine RepSrc.direct ?_
    | refine RepSrc.range1 rfl rfl ?_ (by intro e q h; cases h)
    | refine RepSrc.range3 rfl rfl ?_ ?_ ?_ (by intro e q h; cases h) (by intro e q h; cases h) (by intro e q h; cases h)
    | refine RepSrc.rev rfl rfl ?_ (by intro e q h; cases h)
    | refine RepSrc.enum rfl rfl ?_ (by intro e q h; cases h)
    | exact TgOK.one rfl (.inl rfl)
    | exact TgOK.two rfl rfl (.inl rfl) (.inl rfl)
theorem rep12 (P : Params) (L : Addr) : RepL rp (fiF (fdAt P 130) 130 nt12 L) (bodyAt P 130) body12 := by
  repeat' first
    | exact RepL.nil
    | refine RepL.freeze ?_
    | refine RepL.cons ?_ ?_
    | exact RepEs.nil
    | refine RepEs.cons ?_ (by intro e q h; cases h) ?_
    | exact RepE.var rfl
    | exact RepE.cint
    | exact RepE.cstr rfl
    | exact RepE.cbool
    | exact RepE.cnone
    | exact RepE.neg rfl
    | refine RepE.bin ?_ ?_ rfl
    | refine RepE.cmp ?_ ?_ rfl rfl
    | refine RepE.and ?_ ?_
    | refine RepE.ite ?_ ?_ ?_
    | refine RepE.tup ?_
    | refine RepE.lst ?_
    | refine RepE.sliceLo ?_ ?_
    | refine RepE.sliceHi ?_ ?_
    | refine RepE.idx ?_ ?_ (by intro a b p h; cases h)
    | refine RepE.isBytes rfl rfl rfl rfl ?_ (by intro e q h; cases h)
    | exact RepE.bytesOwn rfl rfl rfl
    | refine RepE.call rfl rfl rfl ?_ rfl
    | refine RepE.bi rfl rfl rfl rfl ?_ rfl
    | refine RepE.ty rfl rfl rfl rfl ?_ rfl
    | refine RepE.repl rfl rfl ?_ (fun _ _ => rfl) rfl
    | refine RepE.search rfl rfl rfl ?_ (by intro e q h; cases h) (fun _ _ => rfl) rfl
    | refine RepE.meth ?_ ?_ rfl (fun _ _ => rfl) rfl (by decide)
    | refine RepE.text ?_ (fun _ _ => rfl)
    | refine RepE.countS rfl rfl rfl ?_ (by intro e q h; cases h)
    | refine RepE.countC rfl rfl rfl ?_ (by intro a b p h; cases h)
    | refine RepT.not ?_
    | refine RepT.and ?_ ?_
    | refine RepT.or ?_ ?_
    | refine RepT.cmp ?_ ?_ rfl rfl
    | refine RepT.plain ?_ rfl (fun _ _ => rfl)
    | refine RepS.ret ?_
    | refine RepS.ite ?_ ?_ ?_
    | refine RepS.set rfl ?_ rfl rfl
    | refine RepS.setOwn rfl ?_ rfl
    | refine RepS.set2 rfl rfl (by decide) ?_ rfl rfl (by first | exact .inl rfl | exact .inr rfl)
    | refine RepS.augIdx rfl ?_ ?_ (fun _ _ _ => rfl)
    | refine RepS.setIdxB rfl ?_ ?_ rfl
    | refine RepS.app rfl ?_ (by intro e q h; cases h) (fun _ _ => rfl) rfl rfl rfl
    | refine RepS.loop (two := false) ?_ (TgOK.one rfl (.inl rfl)) rfl ?_ (fun _ => rfl)
    | refine RepS.loop (two := true) ?_ (TgOK.two rfl rfl (.inl rfl) (.inl rfl)) rfl ?_ (fun _ => rfl)
    | refine RepSrc.pairs ?_ rfl
    | refine RepSrc.direct ?_
    | refine RepSrc.range1 rfl rfl ?_ (by intro e q h; cases h)
    | refine RepSrc.range3 rfl rfl ?_ ?_ ?_ (by intro e q h; cases h) (by intro e q h; cases h) (by intro e q h; cases h)
    | refine RepSrc.rev rfl rfl ?_ (by intro e q h; cases h)
    | refine RepSrc.enum rfl rfl ?_ (by intro e q h; cases h)
    | exact TgOK.one rfl (.inl rfl)
    | exact TgOK.two rfl rfl (.inl rfl) (.inl rfl)
theorem rep15 (P : Params) (L : Addr) : RepL rp (fiF (fdAt P 147) 147 nt15 L) (bodyAt P 147) body15 := by
  repeat' first
    | exact RepL.nil
    | refine RepL.freeze ?_
    | refine RepL.cons ?_ ?_
    | exact RepEs.nil
    | refine RepEs.cons ?_ (by intro e q h; cases h) ?_
    | exact RepE.var rfl
    | exact RepE.cint
    | exact RepE.cstr rfl
    | exact RepE.cbool
    | exact RepE.cnone
    | exact RepE.neg rfl
    | refine RepE.bin ?_ ?_ rfl
    | refine RepE.cmp ?_ ?_ rfl rfl
    | refine RepE.and ?_ ?_
    | refine RepE.ite ?_ ?_ ?_
    | refine RepE.tup ?_
    | refine RepE.lst ?_
    | refine RepE.sliceLo ?_ ?_
    | refine RepE.sliceHi ?_ ?_
    | refine RepE.idx ?_ ?_ (by intro a b p h; cases h)
    | refine RepE.isBytes rfl rfl rfl rfl ?_ (by intro e q h; cases h)
    | exact RepE.bytesOwn rfl rfl rfl
    | refine RepE.call rfl rfl rfl ?_ rfl
    | refine RepE.bi rfl rfl rfl rfl ?_ rfl
    | refine RepE.ty rfl rfl rfl rfl ?_ rfl
    | refine RepE.repl rfl rfl ?_ (fun _ _ => rfl) rfl
    | refine RepE.search rfl rfl rfl ?_ (by intro e q h; cases h) (fun _ _ => rfl) rfl
    | refine RepE.meth ?_ ?_ rfl (fun _ _ => rfl) rfl (by decide)
    | refine RepE.text ?_ (fun _ _ => rfl)
    | refine RepE.countS rfl rfl rfl ?_ (by intro e q h; cases h)
    | refine RepE.countC rfl rfl rfl ?_ (by intro a b p h; cases h)
    | refine RepT.not ?_
    | refine RepT.and ?_ ?_
    | refine RepT.or ?_ ?_
    | refine RepT.cmp ?_ ?_ rfl rfl
    | refine RepT.plain ?_ rfl (fun _ _ => rfl)
    | refine RepS.ret ?_
    | refine RepS.ite ?_ ?_ ?_
    | refine RepS.set rfl ?_ rfl rfl
    | refine RepS.setOwn rfl ?_ rfl
    | refine RepS.set2 rfl rfl (by decide) ?_ rfl rfl (by first | exact .inl rfl | exact .inr rfl)
    | refine RepS.augIdx rfl ?_ ?_ (fun _ _ _ => rfl)
    | refine RepS.setIdxB rfl ?_ ?_ rfl
    | refine RepS.app rfl ?_ (by intro e q h; cases h) (fun _ _ => rfl) rfl rfl rfl
    | refine RepS.loop (two := false) ?_ (TgOK.one rfl (.inl rfl)) rfl ?_ (fun _ => rfl)
    | refine RepS.loop (two := true) ?_ (TgOK.two rfl rfl (.inl rfl) (.inl rfl)) rfl ?_ (fun _ => rfl)
    | refine RepSrc.pairs ?_ rfl
    | refine RepSrc.direct ?_
    | refine RepSrc.range1 rfl rfl ?_ (by intro e q h; cases h)
    | refine RepSrc.range3 rfl rfl ?_ ?_ ?_ (by intro e q h; cases h) (by intro e q h; cases h) (by intro e q h; cases h)
    | refine RepSrc.rev rfl rfl ?_ (by intro e q h; cases h)
    | refine RepSrc.enum rfl rfl ?_ (by intro e q h; cases h)
    | exact TgOK.one rfl (.inl rfl)
    | exact TgOK.two rfl rfl (.inl rfl) (.inl rfl)
theorem rep16 (P : Params) (L : Addr) : RepL rp (fiF (fdAt P 154) 154 nt16 L) (bodyAt P 154) body16 := by
  repeat' first
    | exact RepL.nil
    | refine RepL.freeze ?_
    | refine RepL.cons ?_ ?_
    | exact RepEs.nil
    | refine RepEs.cons ?_ (by intro e q h; cases h) ?_
    | exact RepE.var rfl
    | exact RepE.cint
    | exact RepE.cstr rfl
    | exact RepE.cbool
    | exact RepE.cnone
    | exact RepE.neg rfl
    | refine RepE.bin ?_ ?_ rfl
    | refine RepE.cmp ?_ ?_ rfl rfl
    | refine RepE.and ?_ ?_
    | refine RepE.ite ?_ ?_ ?_
    | refine RepE.tup ?_
    | refine RepE.lst ?_
    | refine RepE.sliceLo ?_ ?_
    | refine RepE.sliceHi ?_ ?_
    | refine RepE.idx ?_ ?_ (by intro a b p h; cases h)
    | refine RepE.isBytes rfl rfl rfl rfl ?_ (by intro e q h; cases h)
    | exact RepE.bytesOwn rfl rfl rfl
    | refine RepE.call rfl rfl rfl ?_ rfl
    | refine RepE.bi rfl rfl rfl rfl ?_ rfl
    | refine RepE.ty rfl rfl rfl rfl ?_ rfl
    | refine RepE.repl rfl rfl ?_ (fun _ _ => rfl) rfl
    | refine RepE.search rfl rfl rfl ?_ (by intro e q h; cases h) (fun _ _ => rfl) rfl
    | refine RepE.meth ?_ ?_ rfl (fun _ _ => rfl) rfl (by decide)
    | refine RepE.text ?_ (fun _ _ => rfl)
    | refine RepE.countS rfl rfl rfl ?_ (by intro e q h; cases h)
    | refine RepE.countC rfl rfl rfl ?_ (by intro a b p h; cases h)
    | refine RepT.not ?_
    | refine RepT.and ?_ ?_
    | refine RepT.or ?_ ?_
    | refine RepT.cmp ?_ ?_ rfl rfl
    | refine RepT.plain ?_ rfl (fun _ _ => rfl)
    | refine RepS.ret ?_
    | refine RepS.ite ?_ ?_ ?_
    | refine RepS.set rfl ?_ rfl rfl
    | refine RepS.setOwn rfl ?_ rfl
    | refine RepS.set2 rfl rfl (by decide) ?_ rfl rfl (by first | exact .inl rfl | exact .inr rfl)
    | refine RepS.augIdx rfl ?_ ?_ (fun _ _ _ => rfl)
    | refine RepS.setIdxB rfl ?_ ?_ rfl
    | refine RepS.app rfl ?_ (by intro e q h; cases h) (fun _ _ => rfl) rfl rfl rfl
    | refine RepS.loop (two := false) ?_ (TgOK.one rfl (.inl rfl)) rfl ?_ (fun _ => rfl)
    | refine RepS.loop (two := true) ?_ (TgOK.two rfl rfl (.inl rfl) (.inl rfl)) rfl ?_ (fun _ => rfl)
    | refine RepSrc.pairs ?_ rfl
    | refine RepSrc.direct ?_
    | refine RepSrc.range1 rfl rfl ?_ (by intro e q h; cases h)
    | refine RepSrc.range3 rfl rfl ?_ ?_ ?_ (by intro e q h; cases h) (by intro e q h; cases h) (by intro e q h; cases h)
    | refine RepSrc.rev rfl rfl ?_ (by intro e q h; cases h)
    | refine RepSrc.enum rfl rfl ?_ (by intro e q h; cases h)
    | exact TgOK.one rfl (.inl rfl)
    | exact TgOK.two rfl rfl (.inl rfl) (.inl rfl)
end Mine
end

section
open PySem PySem.W PyProof.Rows
set_option Elab.async false
set_option linter.unusedVariables false
set_option maxRecDepth 100000
namespace Mine

noncomputable def clGo (cs : List (PySem.Str × Addr)) : List (PySem.Str × NameKind) → List (PySem.Str × Addr) → List (PySem.Str × Addr)
  | [], acc => acc
  | (n, k) :: r, acc => if k == .free then (match cs.lookup n with | some a => clGo cs r ((n, a) :: acc) | none => clGo cs r acc) else clGo cs r acc
noncomputable def okFree (scope : Scope) (env : Env) : Bool := scope.names.all fun y => !(y.2 == .free) || (env.cells.lookup y.1).isSome

theorem clos_go {env : Env} (f : PySem.Str × NameKind → List (PySem.Str × Addr) → Sem (ForInStep (List (PySem.Str × Addr))))
    (hf : ∀ n k acc, f (n, k) acc = if (k == .free) = true then (do let a ← cellOf env n; pure (.yield ((n, a) :: acc))) else pure (.yield acc)) : ∀ (l : List (PySem.Str × NameKind)) (acc : List (PySem.Str × Addr)),
    (l.all fun y => !(y.2 == .free) || (env.cells.lookup y.1).isSome) = true → forIn l acc f = (pure (clGo env.cells l acc) : Sem (List (PySem.Str × Addr)))
  | [], acc, _ => by rw [List.forIn_nil]; rfl
  | (n, k) :: r, acc, h => by
    simp only [List.all_cons, Bool.and_eq_true] at h
    rw [List.forIn_cons, hf]
    unfold clGo
    by_cases hk : (k == .free) = true
    · rw [if_pos hk, if_pos hk]
      have h1 := h.1
      rw [hk] at h1
      have h1 : (env.cells.lookup n).isSome = true := by simpa only [Bool.not_true, Bool.false_or] using h1
      obtain ⟨a, ha⟩ := Option.isSome_iff_exists.mp h1
      have hc : cellOf env n = pure a := by unfold cellOf; rw [ha]
      rw [hc, ha]
      simp only [pure_bind]
      exact clos_go f hf r _ h.2
    · rw [if_neg hk, if_neg hk]
      simp only [pure_bind]
      exact clos_go f hf r _ h.2
theorem clos_eq {scope : Scope} {env : Env} (h : okFree scope env = true) : closureFor scope env = pure (clGo env.cells scope.names []) := by
  simp only [closureFor]
  rw [clos_go (env := env) _ (fun n k acc => by by_cases hk : (k == NameKind.free) = true <;> simp [hk]) _ _ h]
  simp only [pure_bind]

inductive CapsL (fi : FI) (scope : Scope) (cl : List (PySem.Str × Addr)) : List Nat → List PySem.Str → Prop where
  | nil : CapsL fi scope cl [] []
  | cons {j : Nat} {x : PySem.Str} {a : Addr} {js : List Nat} {xs : List PySem.Str} : fi.nt[j]? = some x → fi.place j = some a → cl.lookup x = some a → ((relabel scope fi.env).names.lookup x = some .cell ∨ (relabel scope fi.env).names.lookup x = some .free) → CapsL fi scope cl js xs → CapsL fi scope cl (j :: js) (x :: xs)

noncomputable def capN (fi : FI) (caps : List Nat) : List PySem.Str := caps.map fun j => fi.nt.getD j ""
theorem CapsL.cons' {fi : FI} {scope : Scope} {cl : List (PySem.Str × Addr)} {j : Nat} {js : List Nat} (h1 : fi.nt[j]? = some (fi.nt.getD j "")) (h2 : fi.place j = some ((fi.place j).getD 0)) (h3 : cl.lookup (fi.nt.getD j "") = some ((fi.place j).getD 0))
    (h4 : (relabel scope fi.env).names.lookup (fi.nt.getD j "") = some .cell ∨ (relabel scope fi.env).names.lookup (fi.nt.getD j "") = some .free) (h : CapsL fi scope cl js (capN fi js)) : CapsL fi scope cl (j :: js) (capN fi (j :: js)) := .cons h1 h2 h3 h4 h
theorem CapsL.nil' {fi : FI} {scope : Scope} {cl : List (PySem.Str × Addr)} : CapsL fi scope cl [] (capN fi []) := .nil

theorem CapsL.len {fi : FI} {scope : Scope} {cl : List (PySem.Str × Addr)} : ∀ {js : List Nat} {xs : List PySem.Str}, CapsL fi scope cl js xs → xs.length = js.length
  | _, _, .nil => rfl
  | _, _, .cons _ _ _ _ h => by simp [CapsL.len h]
theorem CapsL.get {fi : FI} {scope : Scope} {cl : List (PySem.Str × Addr)} : ∀ {js : List Nat} {xs : List PySem.Str} {i : Nat} {x : PySem.Str}, CapsL fi scope cl js xs → xs[i]? = some x →
    ∃ j a, js[i]? = some j ∧ fi.nt[j]? = some x ∧ fi.place j = some a ∧ cl.lookup x = some a ∧ ((relabel scope fi.env).names.lookup x = some .cell ∨ (relabel scope fi.env).names.lookup x = some .free)
  | _, _, i, x, .nil, e => by simp at e
  | _, _, 0, x, .cons h1 h2 h3 h4 h, e => by simp at e; subst e; exact ⟨_, _, rfl, h1, h2, h3, h4⟩
  | _, _, i + 1, x, .cons h1 h2 h3 h4 h, e => by simp at e; simpa using CapsL.get h e

noncomputable def okSc (scope : Scope) : Bool := (scope.kind == .function) && scope.names.all fun y => !(y.2 == .cell) && (!(y.2 == .local) || scope.names.lookup y.1 == some .local)
noncomputable def okNt (l : List PySem.Str) : Bool := decide l.Nodup && l.all fun x => !(x == (PySem.Str.ofString "__debug__")) && !(x == (PySem.Str.ofString "__classdict__"))

theorem compOK {fi : FI} {scope : Scope} {caps : List Nat} {ts xs : List PySem.Str} (clos : okFree scope fi.env = true) (hsc : okSc scope = true) (hl : ∀ x ∈ ts, (relabel scope fi.env).names.lookup x = some .local) (hc : CapsL fi scope (clGo fi.env.cells scope.names []) caps xs) (hn : okNt (ts ++ xs) = true) :
    CompOK fi scope (clGo fi.env.cells scope.names []) (ts ++ xs) caps ts.length := by
  unfold okSc at hsc
  unfold okNt at hn
  simp only [Bool.and_eq_true, decide_eq_true_eq] at hsc hn
  have hsc2 := List.all_eq_true.mp hsc.2
  have hn2 := List.all_eq_true.mp hn.2
  exact {
    clos := clos_eq clos
    cell := fun y hy e => by have := hsc2 y hy; simp [e] at this
    kind := by simpa using hsc.1
    names := fun y hy e => by have := hsc2 y hy; simpa [e] using this
    loc := fun i x h1 h2 => by
      rw [List.getElem?_append_left h2] at h1
      exact hl x (List.mem_of_getElem? h1)
    cap := fun i x h1 h2 => by
      rw [List.getElem?_append_right h2] at h1
      exact hc.get h1
    len := fun k j h => by
      have := (List.getElem?_eq_some_iff.mp h).1
      have hx := hc.len
      exact ⟨(ts ++ xs)[ts.length + k]'(by simp; omega), List.getElem?_eq_getElem _⟩
    nd := fun i j x h1 h2 => (List.getElem?_inj (List.getElem?_eq_some_iff.mp h1).1 hn.1).mp (h1.trans h2.symm)
    ndb := fun i x h => by
      have := hn2 x (List.mem_of_getElem? h)
      simpa using this }

variable {R : Rp}

theorem RepE.c1 {fi : FI} {elt iter : Expr} {scope : Scope} {x : PySem.Str} {p pos : Pos} {caps : List Nat} {k : SK} {args : List PE} {a : PE} (rs : RepSrc R fi iter false k args) (clos : okFree scope fi.env = true) (hsc : okSc scope = true) (hl : (relabel scope fi.env).names.lookup x = some .local)
    (hc : CapsL fi scope (clGo fi.env.cells scope.names []) caps (capN fi caps)) (hn : okNt ([x] ++ capN fi caps) = true) (re : ∀ C, RepE R (fiC fi scope (clGo fi.env.cells scope.names []) ([x] ++ capN fi caps) caps 1 C) elt a) (hs : ∀ x, foldedSetIterable iter fi.env x = pure x) : RepE R fi (.ListComp elt [⟨.Name x p, iter, [], 0⟩] scope pos) (.comp a (.one 0) k args caps) :=
  RepE.comp1 (two := false) rs (compOK (ts := [x]) clos hsc (fun y hy => by rw [List.mem_singleton.mp hy]; exact hl) hc hn) (fun C => TgOK.one rfl (.inr rfl)) re hs
theorem RepS.c1 {fi : FI} {y : PySem.Str} {p' spos : Pos} {i : Nat} {elt iter : Expr} {scope : Scope} {x : PySem.Str} {p pos : Pos} {caps : List Nat} {k : SK} {args : List PE} {a : PE} (hx : fi.nt[i]? = some y) (hcap : fi.capt = false)
    (hsw : swapsWith (.ListComp elt [⟨.Name x p, iter, [], 0⟩] scope pos) (some (.Name y p')) spos.line fi.env = pure true) (rs : RepSrc R fi iter false k args) (clos : okFree scope fi.env = true) (hsc : okSc scope = true) (hl : (relabel scope fi.env).names.lookup x = some .local)
    (hc : CapsL fi scope (clGo fi.env.cells scope.names []) caps (capN fi caps)) (hn : okNt ([x] ++ capN fi caps) = true) (re : ∀ C, RepE R (fiC fi scope (clGo fi.env.cells scope.names []) ([x] ++ capN fi caps) caps 1 C) elt a) (hs : ∀ x, foldedSetIterable iter fi.env x = pure x) : RepS R fi (.Assign [.Name y p'] (.ListComp elt [⟨.Name x p, iter, [], 0⟩] scope pos) spos) (.set i (.comp a (.one 0) k args caps)) :=
  RepS.setComp1 hx hcap hsw rs (compOK (ts := [x]) clos hsc (fun y hy => by rw [List.mem_singleton.mp hy]; exact hl) hc hn) (fun C => TgOK.one rfl (.inr rfl)) re hs
theorem RepS.c2 {fi : FI} {y : PySem.Str} {p' spos : Pos} {i : Nat} {elt iter : Expr} {scope : Scope} {x z : PySem.Str} {p q tp pos : Pos} {kk : Nat} {caps : List Nat} {k : SK} {args : List PE} {a : PE} (hx : fi.nt[i]? = some y) (hcap : fi.capt = false)
    (hsw : swapsWith (.ListComp elt [⟨.Tuple [.Name x p, .Name z q] kk tp, iter, [], 0⟩] scope pos) (some (.Name y p')) spos.line fi.env = pure true) (rs : RepSrc R fi iter true k args) (clos : okFree scope fi.env = true) (hsc : okSc scope = true) (hl : (relabel scope fi.env).names.lookup x = some .local) (hl' : (relabel scope fi.env).names.lookup z = some .local)
    (hc : CapsL fi scope (clGo fi.env.cells scope.names []) caps (capN fi caps)) (hn : okNt ([x, z] ++ capN fi caps) = true) (re : ∀ C, RepE R (fiC fi scope (clGo fi.env.cells scope.names []) ([x, z] ++ capN fi caps) caps 2 C) elt a) (hs : ∀ x, foldedSetIterable iter fi.env x = pure x) : RepS R fi (.Assign [.Name y p'] (.ListComp elt [⟨.Tuple [.Name x p, .Name z q] kk tp, iter, [], 0⟩] scope pos) spos) (.set i (.comp a (.two 0 1) k args caps)) :=
  RepS.setComp2 hx hcap hsw rs (compOK (ts := [x, z]) clos hsc (fun y hy => by
    rcases List.mem_cons.mp hy with e | e
    · rw [e]; exact hl
    · rw [List.mem_singleton.mp e]; exact hl') hc hn) (fun C => TgOK.two rfl rfl (.inr rfl) (.inr rfl)) re hs
theorem RepS.cells {fi : FI} {x xr xs : PySem.Str} {p' spos q₁ q₂ q₃ q₄ q₅ q₆ q₇ q₈ q₉ p : Pos} {k₁ k₂ : Nat} {i j : Nat} {iter : Expr} {scope : Scope} {pos : Pos} (hx : fi.nt[i]? = some x) (hcap : fi.capt = false)
    (hsw : swapsWith (.ListComp (.Tuple [.Subscript (.Name xr q₁) (.Name xs q₂) q₃, .Subscript (.Name xr q₄) (.BinOp (.Name xs q₅) .Add (.Constant (.int 1) k₁ q₆) q₇) q₈] k₂ q₉) [⟨.Name xs p, iter, [], 0⟩] scope pos) (some (.Name x p')) spos.line fi.env = pure true)
    (rs : RepSrc R fi iter false .range [.const (.int 0), .bi .len [.var j], .const (.int 2)]) (clos : okFree scope fi.env = true) (hsc : okSc scope = true) (hl : (relabel scope fi.env).names.lookup xs = some .local) (hc : CapsL fi scope (clGo fi.env.cells scope.names []) [j] [xr]) (hn : okNt ([xs] ++ [xr]) = true) (hs : ∀ x, foldedSetIterable iter fi.env x = pure x) :
    RepS R fi (.Assign [.Name x p'] (.ListComp (.Tuple [.Subscript (.Name xr q₁) (.Name xs q₂) q₃, .Subscript (.Name xr q₄) (.BinOp (.Name xs q₅) .Add (.Constant (.int 1) k₁ q₆) q₇) q₈] k₂ q₉) [⟨.Name xs p, iter, [], 0⟩] scope pos) spos) (.set i (.cellsOf j)) :=
  RepS.setCells hx hcap hsw rs (compOK (ts := [xs]) clos hsc (fun y hy => by rw [List.mem_singleton.mp hy]; exact hl) hc hn) (fun C => TgOK.one rfl (.inr rfl)) rfl rfl hs
end Mine
end

section
open PySem PySem.W PyProof.Rows
set_option Elab.async false
set_option linter.unusedVariables false
set_option maxRecDepth 100000
set_option maxHeartbeats 4000000
namespace Mine
theorem rep13 (P : Params) (L : Addr) : RepL rp (fiF (fdAt P 135) 135 nt13 L) (bodyAt P 135) body13 := by
  repeat' first
    | exact RepL.nil
    | refine RepL.freeze ?_
    | refine RepL.cons ?_ ?_
    | exact RepEs.nil
    | refine RepEs.cons ?_ (by intro e q h; cases h) ?_
    | exact RepE.var rfl
    | exact RepE.cint
    | exact RepE.cstr rfl
    | exact RepE.cbool
    | exact RepE.cnone
    | exact RepE.neg rfl
    | refine RepE.bin ?_ ?_ rfl
    | refine RepE.cmp ?_ ?_ rfl rfl
    | refine RepE.and ?_ ?_
    | refine RepE.ite ?_ ?_ ?_
    | refine RepE.tup ?_
    | refine RepE.lst ?_
    | refine RepE.sliceLo ?_ ?_
    | refine RepE.sliceHi ?_ ?_
    | refine RepE.idx ?_ ?_ (by intro a b p h; cases h)
    | refine RepE.isBytes rfl rfl rfl rfl ?_ (by intro e q h; cases h)
    | exact RepE.bytesOwn rfl rfl rfl
    | refine RepE.call rfl rfl rfl ?_ rfl
    | refine RepE.bi rfl rfl rfl rfl ?_ rfl
    | refine RepE.ty rfl rfl rfl rfl ?_ rfl
    | refine RepE.repl rfl rfl ?_ (fun _ _ => rfl) rfl
    | refine RepE.search rfl rfl rfl ?_ (by intro e q h; cases h) (fun _ _ => rfl) rfl
    | refine RepE.meth ?_ ?_ rfl (fun _ _ => rfl) rfl (by decide)
    | refine RepE.text ?_ (fun _ _ => rfl)
    | refine RepE.countS rfl rfl rfl ?_ (by intro e q h; cases h)
    | refine RepE.countC rfl rfl rfl ?_ (by intro a b p h; cases h)
    | refine RepT.not ?_
    | refine RepT.and ?_ ?_
    | refine RepT.or ?_ ?_
    | refine RepT.cmp ?_ ?_ rfl rfl
    | refine RepT.plain ?_ rfl (fun _ _ => rfl)
    | refine RepS.ret ?_
    | refine RepS.ite ?_ ?_ ?_
    | refine RepS.set rfl ?_ rfl rfl
    | refine RepS.setOwn rfl ?_ rfl
    | refine RepS.set2 rfl rfl (by decide) ?_ rfl rfl (by first | exact .inl rfl | exact .inr rfl)
    | refine RepS.augIdx rfl ?_ ?_ (fun _ _ _ => rfl)
    | refine RepS.setIdxB rfl ?_ ?_ rfl
    | refine RepS.app rfl ?_ (by intro e q h; cases h) (fun _ _ => rfl) rfl rfl rfl
    | refine RepS.loop (two := false) ?_ (TgOK.one rfl (.inl rfl)) rfl ?_ (fun _ => rfl)
    | refine RepS.loop (two := true) ?_ (TgOK.two rfl rfl (.inl rfl) (.inl rfl)) rfl ?_ (fun _ => rfl)
    | refine RepSrc.pairs ?_ rfl
    | refine RepSrc.direct ?_
    | refine RepSrc.range1 rfl rfl ?_ (by intro e q h; cases h)
    | refine RepSrc.range3 rfl rfl ?_ ?_ ?_ (by intro e q h; cases h) (by intro e q h; cases h) (by intro e q h; cases h)
    | refine RepSrc.rev rfl rfl ?_ (by intro e q h; cases h)
    | refine RepSrc.enum rfl rfl ?_ (by intro e q h; cases h)
    | exact TgOK.one rfl (.inl rfl)
    | exact TgOK.two rfl rfl (.inl rfl) (.inl rfl)
    | refine RepE.c1 ?_ rfl rfl rfl ?_ rfl ?_ (fun _ => rfl)
    | refine RepS.c1 rfl rfl rfl ?_ rfl rfl rfl ?_ rfl ?_ (fun _ => rfl)
    | refine RepS.c2 rfl rfl rfl ?_ rfl rfl rfl rfl ?_ rfl ?_ (fun _ => rfl)
    | refine RepS.cells rfl rfl rfl ?_ rfl rfl rfl ?_ rfl (fun _ => rfl)
    | (show okNt _ = true; rfl)
    | exact CapsL.nil'
    | refine CapsL.cons' rfl rfl rfl (by first | exact .inl rfl | exact .inr rfl) ?_
    | (intro C)
theorem rep14 (P : Params) (L : Addr) : RepL rp (fiF (fdAt P 140) 140 nt14 L) (bodyAt P 140) body14 := by
  repeat' first
    | exact RepL.nil
    | refine RepL.freeze ?_
    | refine RepL.cons ?_ ?_
    | exact RepEs.nil
    | refine RepEs.cons ?_ (by intro e q h; cases h) ?_
    | exact RepE.var rfl
    | exact RepE.cint
    | exact RepE.cstr rfl
    | exact RepE.cbool
    | exact RepE.cnone
    | exact RepE.neg rfl
    | refine RepE.bin ?_ ?_ rfl
    | refine RepE.cmp ?_ ?_ rfl rfl
    | refine RepE.and ?_ ?_
    | refine RepE.ite ?_ ?_ ?_
    | refine RepE.tup ?_
    | refine RepE.lst ?_
    | refine RepE.sliceLo ?_ ?_
    | refine RepE.sliceHi ?_ ?_
    | refine RepE.idx ?_ ?_ (by intro a b p h; cases h)
    | refine RepE.isBytes rfl rfl rfl rfl ?_ (by intro e q h; cases h)
    | exact RepE.bytesOwn rfl rfl rfl
    | refine RepE.call rfl rfl rfl ?_ rfl
    | refine RepE.bi rfl rfl rfl rfl ?_ rfl
    | refine RepE.ty rfl rfl rfl rfl ?_ rfl
    | refine RepE.repl rfl rfl ?_ (fun _ _ => rfl) rfl
    | refine RepE.search rfl rfl rfl ?_ (by intro e q h; cases h) (fun _ _ => rfl) rfl
    | refine RepE.meth ?_ ?_ rfl (fun _ _ => rfl) rfl (by decide)
    | refine RepE.text ?_ (fun _ _ => rfl)
    | refine RepE.countS rfl rfl rfl ?_ (by intro e q h; cases h)
    | refine RepE.countC rfl rfl rfl ?_ (by intro a b p h; cases h)
    | refine RepT.not ?_
    | refine RepT.and ?_ ?_
    | refine RepT.or ?_ ?_
    | refine RepT.cmp ?_ ?_ rfl rfl
    | refine RepT.plain ?_ rfl (fun _ _ => rfl)
    | refine RepS.ret ?_
    | refine RepS.ite ?_ ?_ ?_
    | refine RepS.set rfl ?_ rfl rfl
    | refine RepS.setOwn rfl ?_ rfl
    | refine RepS.set2 rfl rfl (by decide) ?_ rfl rfl (by first | exact .inl rfl | exact .inr rfl)
    | refine RepS.augIdx rfl ?_ ?_ (fun _ _ _ => rfl)
    | refine RepS.setIdxB rfl ?_ ?_ rfl
    | refine RepS.app rfl ?_ (by intro e q h; cases h) (fun _ _ => rfl) rfl rfl rfl
    | refine RepS.loop (two := false) ?_ (TgOK.one rfl (.inl rfl)) rfl ?_ (fun _ => rfl)
    | refine RepS.loop (two := true) ?_ (TgOK.two rfl rfl (.inl rfl) (.inl rfl)) rfl ?_ (fun _ => rfl)
    | refine RepSrc.pairs ?_ rfl
    | refine RepSrc.direct ?_
    | refine RepSrc.range1 rfl rfl ?_ (by intro e q h; cases h)
    | refine RepSrc.range3 rfl rfl ?_ ?_ ?_ (by intro e q h; cases h) (by intro e q h; cases h) (by intro e q h; cases h)
    | refine RepSrc.rev rfl rfl ?_ (by intro e q h; cases h)
    | refine RepSrc.enum rfl rfl ?_ (by intro e q h; cases h)
    | exact TgOK.one rfl (.inl rfl)
    | exact TgOK.two rfl rfl (.inl rfl) (.inl rfl)
    | refine RepE.c1 ?_ rfl rfl rfl ?_ rfl ?_ (fun _ => rfl)
    | refine RepS.c1 rfl rfl rfl ?_ rfl rfl rfl ?_ rfl ?_ (fun _ => rfl)
    | refine RepS.c2 rfl rfl rfl ?_ rfl rfl rfl rfl ?_ rfl ?_ (fun _ => rfl)
    | refine RepS.cells rfl rfl rfl ?_ rfl rfl rfl ?_ rfl (fun _ => rfl)
    | (show okNt _ = true; rfl)
    | exact CapsL.nil'
    | refine CapsL.cons' rfl rfl rfl (by first | exact .inl rfl | exact .inr rfl) ?_
    | (intro C)
theorem rep10 (P : Params) (L : Addr) : RepLC rp (fiF (fdAt P 118) 118 nt10 L) (bodyAt P 118) body10 := by
  repeat' first
    | exact RepLC.plain RepL.nil
    | refine RepLC.freeze ?_
    | refine RepLC.cons ?_ ?_
    | refine RepSC.setOwnB rfl rfl rfl ?_ (fun _ => rfl) rfl
    | refine RepSC.set rfl (RepEC.call1 rfl rfl (RepEC.plain ?_) (fun _ => rfl)) rfl rfl
    | refine RepSC.set rfl (RepEC.bin (RepEC.call2 rfl rfl (RepEC.plain ?_) ?_ (fun _ => rfl)) ?_ rfl) rfl rfl
    | refine RepSC.set rfl (RepEC.call2 rfl rfl (RepEC.call2 rfl rfl (RepEC.plain ?_) ?_ (fun _ => rfl)) ?_ (fun _ => rfl)) rfl rfl
    | exact RepL.nil
    | refine RepL.freeze ?_
    | refine RepL.cons ?_ ?_
    | exact RepEs.nil
    | refine RepEs.cons ?_ (by intro e q h; cases h) ?_
    | exact RepE.var rfl
    | exact RepE.cint
    | exact RepE.cstr rfl
    | exact RepE.cbool
    | exact RepE.cnone
    | exact RepE.neg rfl
    | refine RepE.bin ?_ ?_ rfl
    | refine RepE.cmp ?_ ?_ rfl rfl
    | refine RepE.and ?_ ?_
    | refine RepE.ite ?_ ?_ ?_
    | refine RepE.tup ?_
    | refine RepE.lst ?_
    | refine RepE.sliceLo ?_ ?_
    | refine RepE.sliceHi ?_ ?_
    | refine RepE.idx ?_ ?_ (by intro a b p h; cases h)
    | refine RepE.isBytes rfl rfl rfl rfl ?_ (by intro e q h; cases h)
    | exact RepE.bytesOwn rfl rfl rfl
    | refine RepE.call rfl rfl rfl ?_ rfl
    | refine RepE.bi rfl rfl rfl rfl ?_ rfl
    | refine RepE.ty rfl rfl rfl rfl ?_ rfl
    | refine RepE.repl rfl rfl ?_ (fun _ _ => rfl) rfl
    | refine RepE.search rfl rfl rfl ?_ (by intro e q h; cases h) (fun _ _ => rfl) rfl
    | refine RepE.meth ?_ ?_ rfl (fun _ _ => rfl) rfl (by decide)
    | refine RepE.text ?_ (fun _ _ => rfl)
    | refine RepE.countS rfl rfl rfl ?_ (by intro e q h; cases h)
    | refine RepE.countC rfl rfl rfl ?_ (by intro a b p h; cases h)
    | refine RepT.not ?_
    | refine RepT.and ?_ ?_
    | refine RepT.or ?_ ?_
    | refine RepT.cmp ?_ ?_ rfl rfl
    | refine RepT.plain ?_ rfl (fun _ _ => rfl)
    | refine RepS.ret ?_
    | refine RepS.ite ?_ ?_ ?_
    | refine RepS.set rfl ?_ rfl rfl
    | refine RepS.setOwn rfl ?_ rfl
    | refine RepS.set2 rfl rfl (by decide) ?_ rfl rfl (by first | exact .inl rfl | exact .inr rfl)
    | refine RepS.augIdx rfl ?_ ?_ (fun _ _ _ => rfl)
    | refine RepS.setIdxB rfl ?_ ?_ rfl
    | refine RepS.app rfl ?_ (by intro e q h; cases h) (fun _ _ => rfl) rfl rfl rfl
    | refine RepS.loop (two := false) ?_ (TgOK.one rfl (.inl rfl)) rfl ?_ (fun _ => rfl)
    | refine RepS.loop (two := true) ?_ (TgOK.two rfl rfl (.inl rfl) (.inl rfl)) rfl ?_ (fun _ => rfl)
    | refine RepSrc.pairs ?_ rfl
    | refine RepSrc.direct ?_
    | refine RepSrc.range1 rfl rfl ?_ (by intro e q h; cases h)
    | refine RepSrc.range3 rfl rfl ?_ ?_ ?_ (by intro e q h; cases h) (by intro e q h; cases h) (by intro e q h; cases h)
    | refine RepSrc.rev rfl rfl ?_ (by intro e q h; cases h)
    | refine RepSrc.enum rfl rfl ?_ (by intro e q h; cases h)
    | exact TgOK.one rfl (.inl rfl)
    | exact TgOK.two rfl rfl (.inl rfl) (.inl rfl)
    | refine RepE.c1 ?_ rfl rfl rfl ?_ rfl ?_ (fun _ => rfl)
    | refine RepS.c1 rfl rfl rfl ?_ rfl rfl rfl ?_ rfl ?_ (fun _ => rfl)
    | refine RepS.c2 rfl rfl rfl ?_ rfl rfl rfl rfl ?_ rfl ?_ (fun _ => rfl)
    | refine RepS.cells rfl rfl rfl ?_ rfl rfl rfl ?_ rfl (fun _ => rfl)
    | (show okNt _ = true; rfl)
    | exact CapsL.nil'
    | refine CapsL.cons' rfl rfl rfl (by first | exact .inl rfl | exact .inr rfl) ?_
    | (intro C)
    | refine RepSC.plain ?_
theorem rep11 (P : Params) (L : Addr) : RepLC rp (fiF (fdAt P 123) 123 nt11 L) (bodyAt P 123) body11 := by
  repeat' first
    | exact RepLC.plain RepL.nil
    | refine RepLC.freeze ?_
    | refine RepLC.cons ?_ ?_
    | refine RepSC.setOwnB rfl rfl rfl ?_ (fun _ => rfl) rfl
    | refine RepSC.set rfl (RepEC.call1 rfl rfl (RepEC.plain ?_) (fun _ => rfl)) rfl rfl
    | refine RepSC.set rfl (RepEC.bin (RepEC.call2 rfl rfl (RepEC.plain ?_) ?_ (fun _ => rfl)) ?_ rfl) rfl rfl
    | refine RepSC.set rfl (RepEC.call2 rfl rfl (RepEC.call2 rfl rfl (RepEC.plain ?_) ?_ (fun _ => rfl)) ?_ (fun _ => rfl)) rfl rfl
    | refine RepSC.loop (two := false) ?_ (TgOK.one rfl (.inl rfl)) rfl ?_ (fun _ => rfl)
    | exact RepL.nil
    | refine RepL.freeze ?_
    | refine RepL.cons ?_ ?_
    | exact RepEs.nil
    | refine RepEs.cons ?_ (by intro e q h; cases h) ?_
    | exact RepE.var rfl
    | exact RepE.cint
    | exact RepE.cstr rfl
    | exact RepE.cbool
    | exact RepE.cnone
    | exact RepE.neg rfl
    | refine RepE.bin ?_ ?_ rfl
    | refine RepE.cmp ?_ ?_ rfl rfl
    | refine RepE.and ?_ ?_
    | refine RepE.ite ?_ ?_ ?_
    | refine RepE.tup ?_
    | refine RepE.lst ?_
    | refine RepE.sliceLo ?_ ?_
    | refine RepE.sliceHi ?_ ?_
    | refine RepE.idx ?_ ?_ (by intro a b p h; cases h)
    | refine RepE.isBytes rfl rfl rfl rfl ?_ (by intro e q h; cases h)
    | exact RepE.bytesOwn rfl rfl rfl
    | refine RepE.call rfl rfl rfl ?_ rfl
    | refine RepE.bi rfl rfl rfl rfl ?_ rfl
    | refine RepE.ty rfl rfl rfl rfl ?_ rfl
    | refine RepE.repl rfl rfl ?_ (fun _ _ => rfl) rfl
    | refine RepE.search rfl rfl rfl ?_ (by intro e q h; cases h) (fun _ _ => rfl) rfl
    | refine RepE.meth ?_ ?_ rfl (fun _ _ => rfl) rfl (by decide)
    | refine RepE.text ?_ (fun _ _ => rfl)
    | refine RepE.countS rfl rfl rfl ?_ (by intro e q h; cases h)
    | refine RepE.countC rfl rfl rfl ?_ (by intro a b p h; cases h)
    | refine RepT.not ?_
    | refine RepT.and ?_ ?_
    | refine RepT.or ?_ ?_
    | refine RepT.cmp ?_ ?_ rfl rfl
    | refine RepT.plain ?_ rfl (fun _ _ => rfl)
    | refine RepS.ret ?_
    | refine RepS.ite ?_ ?_ ?_
    | refine RepS.set rfl ?_ rfl rfl
    | refine RepS.setOwn rfl ?_ rfl
    | refine RepS.set2 rfl rfl (by decide) ?_ rfl rfl (by first | exact .inl rfl | exact .inr rfl)
    | refine RepS.augIdx rfl ?_ ?_ (fun _ _ _ => rfl)
    | refine RepS.setIdxB rfl ?_ ?_ rfl
    | refine RepS.app rfl ?_ (by intro e q h; cases h) (fun _ _ => rfl) rfl rfl rfl
    | refine RepS.loop (two := false) ?_ (TgOK.one rfl (.inl rfl)) rfl ?_ (fun _ => rfl)
    | refine RepS.loop (two := true) ?_ (TgOK.two rfl rfl (.inl rfl) (.inl rfl)) rfl ?_ (fun _ => rfl)
    | refine RepSrc.pairs ?_ rfl
    | refine RepSrc.direct ?_
    | refine RepSrc.range1 rfl rfl ?_ (by intro e q h; cases h)
    | refine RepSrc.range3 rfl rfl ?_ ?_ ?_ (by intro e q h; cases h) (by intro e q h; cases h) (by intro e q h; cases h)
    | refine RepSrc.rev rfl rfl ?_ (by intro e q h; cases h)
    | refine RepSrc.enum rfl rfl ?_ (by intro e q h; cases h)
    | exact TgOK.one rfl (.inl rfl)
    | exact TgOK.two rfl rfl (.inl rfl) (.inl rfl)
    | refine RepE.c1 ?_ rfl rfl rfl ?_ rfl ?_ (fun _ => rfl)
    | refine RepS.c1 rfl rfl rfl ?_ rfl rfl rfl ?_ rfl ?_ (fun _ => rfl)
    | refine RepS.c2 rfl rfl rfl ?_ rfl rfl rfl rfl ?_ rfl ?_ (fun _ => rfl)
    | refine RepS.cells rfl rfl rfl ?_ rfl rfl rfl ?_ rfl (fun _ => rfl)
    | (show okNt _ = true; rfl)
    | exact CapsL.nil'
    | refine CapsL.cons' rfl rfl rfl (by first | exact .inl rfl | exact .inr rfl) ?_
    | (intro C)
    | refine RepSC.plain ?_
end Mine
end

section
open PySem PySem.W PyProof.Rows
set_option Elab.async false
set_option linter.unusedVariables false
set_option maxRecDepth 100000
set_option maxHeartbeats 4000000
namespace Mine
theorem rep17 (P : Params) (L : Addr) : RepLC rp (fiF (fdAt P 159) 159 nt17 L) (bodyAt P 159) body17 := by
  repeat' first
    | exact RepLC.plain RepL.nil
    | refine RepLC.freeze ?_
    | refine RepLC.cons ?_ ?_
    | refine RepSC.setOwnB rfl rfl rfl ?_ (fun _ => rfl) rfl
    | refine RepSC.set rfl (RepEC.call1 rfl rfl (RepEC.plain ?_) (fun _ => rfl)) rfl rfl
    | refine RepSC.set rfl (RepEC.bin (RepEC.call2 rfl rfl (RepEC.plain ?_) ?_ (fun _ => rfl)) ?_ rfl) rfl rfl
    | refine RepSC.set rfl (RepEC.call2 rfl rfl (RepEC.call2 rfl rfl (RepEC.plain ?_) ?_ (fun _ => rfl)) ?_ (fun _ => rfl)) rfl rfl
    | exact RepL.nil
    | refine RepL.freeze ?_
    | refine RepL.cons ?_ ?_
    | exact RepEs.nil
    | refine RepEs.cons ?_ (by intro e q h; cases h) ?_
    | exact RepE.var rfl
    | exact RepE.cint
    | exact RepE.cstr rfl
    | exact RepE.cbool
    | exact RepE.cnone
    | exact RepE.neg rfl
    | refine RepE.bin ?_ ?_ rfl
    | refine RepE.cmp ?_ ?_ rfl rfl
    | refine RepE.and ?_ ?_
    | refine RepE.ite ?_ ?_ ?_
    | refine RepE.tup ?_
    | refine RepE.lst ?_
    | refine RepE.sliceLo ?_ ?_
    | refine RepE.sliceHi ?_ ?_
    | refine RepE.idx ?_ ?_ (by intro a b p h; cases h)
    | refine RepE.isBytes rfl rfl rfl rfl ?_ (by intro e q h; cases h)
    | exact RepE.bytesOwn rfl rfl rfl
    | refine RepE.call rfl rfl rfl ?_ rfl
    | refine RepE.bi rfl rfl rfl rfl ?_ rfl
    | refine RepE.ty rfl rfl rfl rfl ?_ rfl
    | refine RepE.repl rfl rfl ?_ (fun _ _ => rfl) rfl
    | refine RepE.search rfl rfl rfl ?_ (by intro e q h; cases h) (fun _ _ => rfl) rfl
    | refine RepE.meth ?_ ?_ rfl (fun _ _ => rfl) rfl (by decide)
    | refine RepE.text ?_ (fun _ _ => rfl)
    | refine RepE.countS rfl rfl rfl ?_ (by intro e q h; cases h)
    | refine RepE.countC rfl rfl rfl ?_ (by intro a b p h; cases h)
    | refine RepT.not ?_
    | refine RepT.and ?_ ?_
    | refine RepT.or ?_ ?_
    | refine RepT.cmp ?_ ?_ rfl rfl
    | refine RepT.plain ?_ rfl (fun _ _ => rfl)
    | refine RepS.ret ?_
    | refine RepS.ite ?_ ?_ ?_
    | refine RepS.set rfl ?_ rfl rfl
    | refine RepS.setOwn rfl ?_ rfl
    | refine RepS.set2 rfl rfl (by decide) ?_ rfl rfl (by first | exact .inl rfl | exact .inr rfl)
    | refine RepS.augIdx rfl ?_ ?_ (fun _ _ _ => rfl)
    | refine RepS.setIdxB rfl ?_ ?_ rfl
    | refine RepS.app rfl ?_ (by intro e q h; cases h) (fun _ _ => rfl) rfl rfl rfl
    | refine RepS.loop (two := false) ?_ (TgOK.one rfl (.inl rfl)) rfl ?_ (fun _ => rfl)
    | refine RepS.loop (two := true) ?_ (TgOK.two rfl rfl (.inl rfl) (.inl rfl)) rfl ?_ (fun _ => rfl)
    | refine RepSrc.pairs ?_ rfl
    | refine RepSrc.direct ?_
    | refine RepSrc.range1 rfl rfl ?_ (by intro e q h; cases h)
    | refine RepSrc.range3 rfl rfl ?_ ?_ ?_ (by intro e q h; cases h) (by intro e q h; cases h) (by intro e q h; cases h)
    | refine RepSrc.rev rfl rfl ?_ (by intro e q h; cases h)
    | refine RepSrc.enum rfl rfl ?_ (by intro e q h; cases h)
    | exact TgOK.one rfl (.inl rfl)
    | exact TgOK.two rfl rfl (.inl rfl) (.inl rfl)
    | refine RepE.c1 ?_ rfl rfl rfl ?_ rfl ?_ (fun _ => rfl)
    | refine RepS.c1 rfl rfl rfl ?_ rfl rfl rfl ?_ rfl ?_ (fun _ => rfl)
    | refine RepS.c2 rfl rfl rfl ?_ rfl rfl rfl rfl ?_ rfl ?_ (fun _ => rfl)
    | refine RepS.cells rfl rfl rfl ?_ rfl rfl rfl ?_ rfl (fun _ => rfl)
    | (show okNt _ = true; rfl)
    | exact CapsL.nil'
    | refine CapsL.cons' rfl rfl rfl (by first | exact .inl rfl | exact .inr rfl) ?_
    | (intro C)
    | refine RepSC.plain ?_
end Mine
end

section
open PySem PySem.W PyProof.Rows
open Sem (wp)
set_option Elab.async false
set_option linter.unusedVariables false
set_option maxRecDepth 100000
namespace Mine

theorem ent2 (P : Params) : ent P cStatics = some { cls := .none, data := .dict (esAt P cStatics) (epAt P cStatics) } := by kernel_rfl
theorem keys2 (P : Params) : (esAt P cStatics).toList.all keyStr = true := by kernel_rfl
theorem none2 (P : Params) : nsFind (esAt P cStatics) sharingNotToldKey = none := by kernel_rfl

variable {c : Cx} {n : Nat}
theorem Sit.booked (S : Sit c) : NoneBooked c.G := ⟨_, ⟨_, _, _, S.K _ _ (ent2 c.w.params), rfl, strKeys_of (keys2 _), fun _ => rfl⟩, none2 _⟩
theorem booked_J {h : Heap} (b : NoneBooked c.G) (j : J c h) : NoneBooked h := by
  obtain ⟨mc, hn, e⟩ := b
  exact ⟨mc, hn.at' fun o q => j.ext _ o q, e⟩

section
variable {M : Model} {A : Around} {E : Value → Shared → Prop} {s : Shared}
theorem is_str {y z : PySem.Str} {u v : Tok} {Q : Bool → Shared → Prop} (hu : u ≠ 0) (hv : v ≠ 0) (huv : u ≠ v) (hb : NoneBooked s.heap) (hq : ∀ b, (b = true → y = z) → Q b s) : wpAny M A (isSame (.str y u) (.str z v)) Q E s := by
  have h0 : (u == 0 || v == 0) = false := by simp [hu, hv]
  by_cases h : y = z
  · exact wpAny_isSame_str h0 hb fun b => hq b fun _ => h
  · rw [isSame_str_other y z u v h0 (by simpa using huv) (by simpa using h)]
    exact wpAny_pure (hq false fun e => by cases e)

theorem is_int {p q : Int} {u v : Tok} {Q : Bool → Shared → Prop} (hu : u ≠ 0) (hv : v ≠ 0) (huv : u = v → p = q) (hb : NoneBooked s.heap) (hq : ∀ b, (b = true → p = q) → Q b s) : wpAny M A (isSame (.int p u) (.int q v)) Q E s := by
  have h0 : (u == 0 || v == 0) = false := by simp [hu, hv]
  have h1 : ¬ ((u == 0 || v == 0) = true) := by rw [h0]; exact Bool.false_ne_true
  show wpAny M A (if (p == q && smallInt p) = true then isSame.cachedInt u v else isSame.created (p == q) u v) Q E s
  split
  · rename_i h
    simp only [Bool.and_eq_true, beq_iff_eq] at h
    unfold isSame.cachedInt
    rw [if_neg h1]
    exact wpAny_bind (wpAny_rule (wpAny_pure (hq true fun _ => h.1)))
  · unfold isSame.created
    rw [if_neg h1]
    split
    · rename_i h2
      exact wpAny_pure (hq true fun _ => huv (by simpa using h2))
    · split
      · exact wpAny_pure (hq false fun e => by cases e)
      · rename_i h3
        have hpq : p = q := by simpa using h3
        refine wpAny_bind (wpAny_sharingNotTold_none hb ?_)
        rw [if_neg Bool.false_ne_true]
        refine wpAny_bind (wpAny_sharingNotTold_none hb ?_)
        rw [if_neg Bool.false_ne_true]
        exact wpAny_bind (wpAny_rule (wpAny_bind (wpAny_askSetting (wpAny_pure (hq _ fun _ => hpq)))))
end
end Mine
end

section
open PySem PySem.W PyProof.Rows
open Sem (wp)
set_option Elab.async false
set_option linter.unusedVariables false
set_option maxRecDepth 100000
namespace Mine
theorem entry_is : entryFor table "proto.is" = some Builtin.«proto.is» := entryFor_of_tree (by kernel_rfl)

section
variable {prog : Program} {w : World} {A : Around} {E : Value → Shared → Prop} {s : Shared}
theorem run_is {a b : Value} {Q : Value → Shared → Prop} (h : ∀ A', wpAny (model prog w) A' (isSame a b) (fun r s' => Q (.bool r) s') E s) : wpAny (model prog w) A (runValue (.builtin "proto.is" ⟨[a, b], []⟩)) Q E s := by
  refine wpAny_runValue (codeAny_builtin entry_is ?_)
  show wpAny _ _ (do ret (.bool (← isSame a b))) _ _ s
  exact wpAny_bind (wpAny_mono (h _) (fun r s' q => wpAny_pure q) fun _ _ e => e)

theorem is_item {p q : Int} {t t' : Tok} {Q : ForInStep (Option Bool × Unit) → Shared → Prop} (ht : t ≠ 0) (ht' : t' ≠ 0) (h1 : t = t' → p = q) (hb : NoneBooked s.heap) (hd : Q (.done (some false, ())) s) (hy : p = q → Q (.yield (none, ())) s) :
    wpAny (model prog w) A (do
      let r ← runValue (.builtin "proto.is" ⟨[.int p t, .int q t'], []⟩)
      match r with
      | .bool true => do
        let w ← ask
        if (!joinedAsOfOld w.params (.int p t) (.int q t')) = true then pure (.done (some false, ()))
        else do
          let e ← emptiesJoinedAsOfOld w.params (.int p t) (.int q t')
          if (!e) = true then pure (.done (some false, ())) else pure (.yield (none, ()))
      | _ => pure (.done (some false, ()))) Q E s := by
  refine wpAny_bind (run_is fun A' => is_int ht ht' h1 hb fun b hb => ?_)
  cases b with
  | false => exact wpAny_pure hd
  | true =>
    refine wpAny_bind (wpAny_askSetting (wpAny_ite ?_))
    split
    · exact wpAny_pure hd
    · refine wpAny_bind (wpAny_of_eq (a := true) rfl ?_)
      exact wpAny_pure (hy (hb rfl))

theorem is_pair {x y : Addr} {p q : Int × Int} {t u t' u' : Tok} {m m' : Nat} {Q : Bool → Shared → Prop} (hx : s.heap.get? x = some (tupO [.int p.1 t, .int p.2 u] m)) (hy : s.heap.get? y = some (tupO [.int q.1 t', .int q.2 u'] m'))
    (ht : t ≠ 0) (hu : u ≠ 0) (ht' : t' ≠ 0) (hu' : u' ≠ 0) (h1 : t = t' → p.1 = q.1) (h2 : u = u' → p.2 = q.2) (hb : NoneBooked s.heap) (hq : ∀ b, (b = true → p = q) → Q b s) : wpAny (model prog w) A (isSame (.ref x) (.ref y)) Q E s := by
  by_cases hxy : x = y
  · subst hxy
    rw [hx] at hy
    have : p = q := by
      injection hy with hy
      unfold tupO at hy
      injection hy with _ _ hd _
      injection hd with hd _
      have := congrArg Array.toList hd
      simp at this
      exact Prod.ext this.1.1 this.2.1
    exact wpAny_isSame_ref_self (hq true fun _ => this)
  · show wpAny _ _ (if (x == y) = true then _ else _) _ _ _
    rw [if_neg (by simpa using hxy)]
    refine wpAny_bind (wpAny_load hx (wpAny_bind (wpAny_load hy ?_)))
    show wpAny _ _ (if _ then isSame.theEmptyTuple else sameTuple x y _ _) _ _ _
    rw [if_neg (by simp)]
    unfold sameTuple
    refine wpAny_bind (wpAny_askSetting ?_)
    refine wpAny_ite ?_
    split
    · exact wpAny_pure (hq false fun e => by cases e)
    · refine wpAny_ite ?_
      split
      · exact wpAny_pure (hq false fun e => by cases e)
      · refine wpAny_bind (wpAny_holding ?_)
        unfold sameItems
        refine wpAny_ite ?_
        rw [if_neg (by simp)]
        simp only [List.zip, List.zipWith, List.size_toArray, List.forIn_cons, List.forIn_nil]
        refine wpAny_bind (wpAny_bind (is_item ht ht' h1 hb ?_ fun e1 => ?_))
        · exact wpAny_pure (wpAny_pure (wpAny_pure (hq false fun e => by cases e)))
        · refine wpAny_bind (is_item hu hu' h2 hb ?_ fun e2 => ?_)
          · exact wpAny_pure (wpAny_pure (wpAny_pure (hq false fun e => by cases e)))
          · exact wpAny_pure (wpAny_pure (wpAny_bind (wpAny_rule (wpAny_pure (hq true fun _ => Prod.ext e1 e2)))))
end
end Mine
end

section
open PySem PySem.W PyProof.Rows
open Sem (wp)
set_option Elab.async false
set_option linter.unusedVariables false
set_option maxRecDepth 100000
namespace Mine

noncomputable def ntC : List PySem.Str := ["a", "b", "count", "i"]
variable {c : Cx} {n : Nat}

theorem funC (S : Sit c) : Fun c 111 (fdAt c.w.params 111) (bodyAt c.w.params 111) ntC 2 :=
  mkFun (cd := 110) S (by kernel_rfl) (by kernel_rfl) (by kernel_rfl) (by kernel_rfl) (by kernel_rfl) (fun vals h => by obtain ⟨a, b, rfl⟩ := on2 h; kernel_rfl)

/-- how many of the first j items are equal to the given one -/
noncomputable def cnt (z : Nat → Bool) : Nat → Int
  | 0 => 0
  | j + 1 => cnt z j + (if z j then 1 else 0)

/-- what the loop of countOf stands on -/
structure Turn (c : Cx) (A : Around) (s : Shared) (W mu : Addr → Prop) (I : Addr) (t₀ : Tok) (vb : Value) (pb : PV) (m : Nat) (pv : Nat → PV) (z : Nat → Bool) (St : Nat → Heap → Prop) (Item : Nat → Value → Prop) : Prop where
  wI : W I
  mI : ¬ mu I
  live : ∀ j h, St j h → ∃ o, h.get? I = some o
  nc : ∀ j h, St j h → ∀ o q, h.get? I = some o → ¬ CodQ q o
  frame : ∀ j h h', St j h → (∀ b o, ¬ mu b → ¬ c.TB b → h.get? b = some o → h'.get? b = some o) → St j h'
  next : ∀ j h tk (Q : Option Value → Shared → Prop) (E : Value → Shared → Prop), j < m → St j h → t₀ < tk →
    (∀ v h' tk', tk ≤ tk' → St (j + 1) h' → (∀ b o, b ≠ I → h.get? b = some o → h'.get? b = some o) → Item j v → Q (some v) { s with heap := h', toks := tk' }) → wpAny c.M A (pyNext (.ref I)) Q E { s with heap := h, toks := tk }
  stop : ∀ h tk (Q : Option Value → Shared → Prop) (E : Value → Shared → Prop), St m h →
    (∀ h', (∀ b o, b ≠ I → h.get? b = some o → h'.get? b = some o) → Q none { s with heap := h', toks := tk }) → wpAny c.M A (pyNext (.ref I)) Q E { s with heap := h, toks := tk }
  same : ∀ j v (s' : Shared) (Q : Bool → Shared → Prop) (E : Value → Shared → Prop), Item j v → J c s'.heap → (∀ b o, s.heap.get? b = some o → ¬ mu b → b ≠ I → ¬ c.TB b → s'.heap.get? b = some o) → (∀ b, (b = true → z j = true) → Q b s') → wpAny c.M A (isSame v vb) Q E s'
  den : ∀ j v h, Item j v → (∀ b o, s.heap.get? b = some o → ¬ mu b → b ≠ I → ¬ c.TB b → h.get? b = some o) → Den h W (pv j) v
  eq : ∀ j, j < m → eqPV (pv j) pb = some (z j)

/-- the loop's invariant -/
structure At (c : Cx) (s : Shared) (W mu : Addr → Prop) (fi : FI) (I : Addr) (t₀ : Tok) (vb : Value) (pb : PV) (z : Nat → Bool) (St : Nat → Heap → Prop) (j : Nat) (k : Int) (h : Heap) (tk : Nat) : Prop where
  tok : t₀ < tk
  st : St j h
  j : J c h
  keep : ∀ b o, s.heap.get? b = some o → ¬ mu b → b ≠ I → ¬ c.TB b → h.get? b = some o
  rel : ∃ val σ, Rel c W mu h fi val σ ∧ val 1 = some vb ∧ σ[1]? = some (some (.im pb)) ∧ σ[2]? = some (some (.im (.int k))) ∧ σ.length = 4
end Mine
end

section
open PySem PySem.W PyProof.Rows
open Sem (wp)
set_option Elab.async false
set_option linter.unusedVariables false
set_option maxRecDepth 100000
namespace Mine
variable {c : Cx} {n : Nat} {A : Around} {s : Shared} {W mu : Addr → Prop} {fi : FI} {I : Addr} {t₀ : Tok} {vb : Value} {pb : PV} {m : Nat} {pv : Nat → PV} {z : Nat → Bool} {St : Nat → Heap → Prop} {Item : Nat → Value → Prop}

theorem count_test {val : Vals} {σ : Sg} {j : Nat} {h : Heap} {tk : Nat} {v : Value} {p₁ p₂ p₃ p₄ p₅ p₆ p₇ : Pos} {whole : Sem Value} {Q : Bool → Shared → Prop} {E : Value → Shared → Prop} (hA : Room A n) (T : Turn c A s W mu I t₀ vb pb m pv z St Item)
    (htk : t₀ < tk) (hJ : J c h) (keep : ∀ b o, s.heap.get? b = some o → ¬ mu b → b ≠ I → ¬ c.TB b → h.get? b = some o) (hT : TW c W) (R : Rel c W mu h fi val σ) (v1 : val 1 = some vb) (s1 : σ[1]? = some (some (.im pb))) (v3 : val 3 = some v) (s3 : σ[3]? = some (some (.im (pv j)))) (hi : Item j v) (hj : j < m) (hn : fi.nt = ntC)
    (hQ : ∀ h' tk', tk ≤ tk' → Step c h h' → Q (z j) { s with heap := h', toks := tk' }) :
    wpAny c.M A (isTrue (.BoolOp .Or [.Compare (.Name (PySem.Str.ofString "i") p₁) [.Is] [.Name (PySem.Str.ofString "b") p₂] p₃, .Compare (.Name (PySem.Str.ofString "i") p₄) [.Eq] [.Name (PySem.Str.ofString "b") p₅] p₆] p₇) fi.env whole) Q E { s with heap := h, toks := tk } := by
  have x3 : fi.nt[3]? = some (PySem.Str.ofString "i") := by rw [hn]; rfl
  have x1 : fi.nt[1]? = some (PySem.Str.ofString "b") := by rw [hn]; rfl
  have hP : 0 < tk := Nat.lt_of_le_of_lt (Nat.zero_le _) htk
  refine isTrue_or (wpAny_isTrue_Compare1 (eval_own R x3 s3 fun v' hv' hav => eval_own R x1 s1 fun w' hw' hbv => ?_))
  obtain rfl : v' = v := Option.some.inj (hv'.symm.trans v3)
  obtain rfl : w' = vb := Option.some.inj (hw'.symm.trans v1)
  show wpAny _ _ (do let r ← isSame v' w'; pure (Value.bool r)) _ _ _
  refine wpAny_bind (T.same j v' _ _ _ hi hJ keep fun b hb => wpAny_pure (wpAny_truthy_bool ?_))
  cases b with
  | true =>
    have := hQ h tk (Nat.le_refl _) (.refl hJ)
    rw [hb rfl] at this
    exact this
  | false =>
    show wpAny _ _ (isTrue (.BoolOp .Or [.Compare (.Name (PySem.Str.ofString "i") p₄) [.Eq] [.Name (PySem.Str.ofString "b") p₅] p₆] p₇) fi.env whole) Q E _
    refine isTrue_or (wpAny_isTrue_Compare1 (eval_own R x3 s3 fun v'' hv'' _ => eval_own R x1 s1 fun w'' hw'' _ => ?_))
    obtain rfl : v'' = v' := Option.some.inj (hv''.symm.trans v3)
    obtain rfl : w'' = w' := Option.some.inj (hw''.symm.trans v1)
    refine wpAny_with_toks (n := tk) (Nat.le_refl _) ?_
    refine val2_eq (c := c) (n := n) (T.eq j hj) A ⟨h, s.gens, s.drawn, tk, s.os⟩ W v'' w'' _ _ hA hP hJ hT R.wex hav hbv fun r h' tk' hp' st d le => ?_
    unfold Den at d
    subst d
    refine wpAny_truthy_bool ?_
    have := hQ h' tk' le st
    cases hz : z j with
    | true => rw [hz] at this; exact this
    | false => rw [hz] at this; exact isTrue_or_nil this
end Mine
end

section
open PySem PySem.W PyProof.Rows
open Sem (wp)
set_option Elab.async false
set_option linter.unusedVariables false
set_option maxRecDepth 100000
namespace Mine
variable {c : Cx} {n : Nat} {A : Around} {s : Shared} {W mu : Addr → Prop} {fi : FI} {I : Addr} {t₀ : Tok} {vb : Value} {pb : PV} {m : Nat} {pv : Nat → PV} {z : Nat → Bool} {St : Nat → Heap → Prop} {Item : Nat → Value → Prop}

theorem count_for {q a₁ a₂ a₃ a₄ p₁ p₂ p₃ p₄ p₅ p₆ p₇ : Pos} {kk : Nat} {h₀ : Heap} {tk₀ : Nat} {Rr : Result → Shared → Prop} (hA : Room A n) (T : Turn c A s W mu I t₀ vb pb m pv z St Item) (hT : TW c W) (hn : fi.nt = ntC) (hcap : fi.capt = false) (hpl : ∀ i, fi.place i = none)
    (hTI : ¬ c.TB I) (hGI : c.G.get? I = none) (X : At c s W mu fi I t₀ vb pb z St 0 0 h₀ tk₀)
    (hQ : ∀ h tk, At c s W mu fi I t₀ vb pb z St m (cnt z m) h tk → ∀ h', (∀ b o, b ≠ I → h.get? b = some o → h'.get? b = some o) → Rr (.ok .next) { s with heap := h', toks := tk }) :
    codeAny c.M A (.forLoop (.Name (PySem.Str.ofString "i") q) (.ref I) [.If (.BoolOp .Or [.Compare (.Name (PySem.Str.ofString "i") p₁) [.Is] [.Name (PySem.Str.ofString "b") p₂] p₃, .Compare (.Name (PySem.Str.ofString "i") p₄) [.Eq] [.Name (PySem.Str.ofString "b") p₅] p₆] p₇)
      [.AugAssign (.Name (PySem.Str.ofString "count") a₁) .Add (.Constant (.int 1) kk a₂) a₃] [] a₄] [] fi.env) Rr { s with heap := h₀, toks := tk₀ } := by
  have x3 : fi.nt[3]? = some (PySem.Str.ofString "i") := by rw [hn]; rfl
  have x2 : fi.nt[2]? = some (PySem.Str.ofString "count") := by rw [hn]; rfl
  refine codeAny_forLoop_any (fun r s' => ∃ j h tk, r = m - j ∧ j ≤ m ∧ s' = { s with heap := h, toks := tk } ∧ At c s W mu fi I t₀ vb pb z St j (cnt z j) h tk) ?_ m ⟨0, h₀, tk₀, rfl, Nat.zero_le _, rfl, X⟩
  rintro r s' ⟨j, h, tk, rfl, hjm, rfl, x⟩
  obtain ⟨val, σ, R, v1, s1, s2, sl⟩ := x.rel
  by_cases hj : j < m
  · refine T.next j h tk _ _ hj x.st x.tok fun v h₁ tk₁ le₁ st₁ k₁ it => ?_
    refine wpAny_of_eq (a := ()) rfl ?_
    have J₁ : J c h₁ := x.j.but (X := fun b => b = I) (fun b o e nb => k₁ b o nb e) (fun b q => q ▸ hGI) (fun b q => q ▸ hTI) fun b o q z e => T.nc _ _ x.st o q (z ▸ e)
    have R₁ : Rel c W mu h₁ fi val σ := R.wr (wr := [I]) (fun b o nb e => k₁ b o (by simpa using nb) e) (fun b o e => by
      by_cases q : b = I
      · subst q; exact T.live _ _ st₁
      · exact ⟨o, k₁ b o q e⟩) (fun b q => by rw [List.mem_singleton.mp q]; exact T.wI) (fun b q => by rw [List.mem_singleton.mp q]; exact T.mI) (fun i y a h1 h2 => by rw [hpl] at h2; cases h2)
    have keep₁ : ∀ b o, s.heap.get? b = some o → ¬ mu b → b ≠ I → ¬ c.TB b → h₁.get? b = some o := fun b o e nm nb nt => k₁ b o nb (x.keep b o e nm nb nt)
    have t₁ : t₀ < tk₁ := Nat.lt_of_lt_of_le x.tok le₁
    refine wpAny_assign_Name (wpAny_with_toks (n := tk₁) (Nat.le_refl _) (store_any (s := ⟨h₁, s.gens, s.drawn, tk₁, s.os⟩) (Nat.lt_of_le_of_lt (Nat.zero_le _) t₁) J₁ R₁ (.inl hcap) x3 (av := .im (pv j)) (T.den j v h₁ it keep₁) (fun e => by cases e) fun h₂ tk₂ p₂ g₂ R₂ _ le₂ => ?_))
    have t₂ : t₀ < tk₂ := Nat.lt_of_lt_of_le t₁ le₂
    have keep₂ : ∀ b o, s.heap.get? b = some o → ¬ mu b → b ≠ I → ¬ c.TB b → h₂.get? b = some o := fun b o e nm nb nt => g₂.kept b o (keep₁ b o e nm nb nt) nt nm
    have nTI : ∀ b, b = I → ¬ c.TB b := fun b q => q ▸ hTI
    have st₂ : St (j + 1) h₂ := T.frame _ _ _ st₁ fun b o nm nt e => g₂.kept b o e nt nm
    have u1 : upd val 3 v 1 = some vb := v1
    have u3 : upd val 3 v 3 = some v := by simp [upd]
    have w1 : (σ.set 3 (some (AV.im (pv j))))[1]? = some (some (.im pb)) := by rw [List.getElem?_set_ne (by decide)]; exact s1
    have w2 : (σ.set 3 (some (AV.im (pv j))))[2]? = some (some (.im (.int (cnt z j)))) := by rw [List.getElem?_set_ne (by decide)]; exact s2
    have w3 : (σ.set 3 (some (AV.im (pv j))))[3]? = some (some (.im (pv j))) := by rw [List.getElem?_set_self (by omega)]
    refine wpAny_execs_cons (wpAny_If (count_test (s := s) hA T t₂ g₂.j keep₂ hT R₂ u1 w1 u3 w3 it hj hn fun h₃ tk₃ le₃ step₃ => ?_))
    have t₃ : t₀ < tk₃ := Nat.lt_of_lt_of_le t₂ le₃
    have R₃ := R₂.step hT step₃
    have st₃ : St (j + 1) h₃ := T.frame _ _ _ st₂ fun b o nm nt e => step₃.kept b o e nt
    have keep₃ : ∀ b o, s.heap.get? b = some o → ¬ mu b → b ≠ I → ¬ c.TB b → h₃.get? b = some o := fun b o e nm nb nt => step₃.kept b o (keep₂ b o e nm nb nt) nt
    cases hz : z j with
    | false =>
      show wpAny _ _ (execs [] fi.env) _ _ _
      refine wpAny_execs_nil (wpAny_execs_nil ⟨m - (j + 1), by omega, j + 1, h₃, tk₃, rfl, hj, rfl, ⟨t₃, st₃, step₃.j, keep₃, _, _, R₃, u1, w1, ?_, by simpa using sl⟩⟩)
      rw [w2]; simp [cnt, hz]
    | true =>
      show wpAny _ _ (execs [.AugAssign (.Name (PySem.Str.ofString "count") a₁) .Add (.Constant (.int 1) kk a₂) a₃] fi.env) _ _ _
      obtain ⟨y, w, f1, f2, f3⟩ := R₃.vals 2 _ w2
      obtain rfl : PySem.Str.ofString "count" = y := Option.some.inj (x2.symm.trans f1)
      obtain ⟨u, rfl⟩ := den_int (show Den h₃ W (.int (cnt z j)) w from f3)
      obtain ⟨mm, hns, hl⟩ := R₃.loc
      obtain ⟨h4, h5⟩ := hl 2 _ x2 (hpl 2)
      refine wpAny_execs_cons (wpAny_AugAssign_Name (wpAny_loadName_local R₃.kind h4 hns (h5 _ f2) (wpAny_Constant_int (iadd_int ?_))))
      refine wpAny_with_toks (n := tk₃) (Nat.le_trans (Nat.le_add_right _ _) (Nat.le_add_right _ _)) (store_any (σ := σ.set 3 (some (AV.im (pv j)))) (s := ⟨h₃, s.gens, s.drawn, tk₃ + 1 + 1, s.os⟩) (Nat.succ_pos _) step₃.j R₃ (.inl hcap) x2 (av := .im (.int (cnt z j + 1))) (by show Den _ _ _ _; unfold Den; exact ⟨_, rfl⟩) (fun e => by cases e) fun h₅ tk₅ p₅ g₅ R₅ _ le₅ => ?_)
      refine wpAny_execs_nil (wpAny_execs_nil ⟨m - (j + 1), by omega, j + 1, h₅, tk₅, rfl, hj, rfl, ⟨Nat.lt_of_lt_of_le t₃ le₅, T.frame _ _ _ st₃ fun b o nm nt e => g₅.kept b o e nt nm, g₅.j, fun b o e nm nb nt => g₅.kept b o (keep₃ b o e nm nb nt) nt nm, _, _, R₅, ?_, ?_, ?_, by simpa using sl⟩⟩)
      · exact u1
      · rw [List.getElem?_set_ne (by decide)]; exact w1
      · rw [List.getElem?_set_self (by simp; omega)]; simp [cnt, hz]
  · have hjm' : j = m := by omega
    subst hjm'
    refine T.stop h tk _ _ x.st fun h' k' => ?_
    exact wpAny_execs_nil (hQ h tk x h' k')
end Mine
end

section
open PySem PySem.W PyProof.Rows
open Sem (wp)
set_option Elab.async false
set_option linter.unusedVariables false
set_option maxRecDepth 100000
namespace Mine
variable {c : Cx} {n : Nat}

theorem cnt_filter {α : Type} (f : α → Bool) (l : List α) : ∀ j, j ≤ l.length → cnt (fun i => (l[i]?.map f).getD false) j = ((l.take j).filter f).length
  | 0, _ => by simp [cnt]
  | j + 1, h => by
    have hj : j < l.length := by omega
    rw [cnt, cnt_filter f l j (by omega), List.take_add_one, List.getElem?_eq_getElem hj]
    simp only [Option.map_some, Option.getD_some, Option.toList_some, List.filter_append, List.length_append]
    by_cases hf : f l[j] = true <;> simp [hf]

/-- what is known of the objects that stood, at the loop's head and later -/
structure Sc (c : Cx) (s : Shared) (W : Addr → Prop) (A' : Around) (I : Addr) (s' : Shared) (W' mu : Addr → Prop) : Prop where
  hd : A'.handled = none
  wI : W' I
  mI : ¬ mu I
  tI : ¬ c.TB I
  fr : s.heap.get? I = none
  wk : ∀ b o, s.heap.get? b = some o → W' b → W b
  old : ∀ b o, s.heap.get? b = some o → ¬ mu b
  okx : ∀ x ox (h : Heap), s.heap.get? x = some ox → ¬ W x → (∀ b o, s'.heap.get? b = some o → ¬ mu b → b ≠ I → ¬ c.TB b → h.get? b = some o) → h.get? x = some ox

theorem count_run (Z : Sit c) {A : Around} {s : Shared} {W : Addr → Prop} {v₀ vb : Value} {p₀ pb : PV} {t₀ : Tok} {m : Nat} {pv : Nat → PV} {z : Nat → Bool} {Q E : Value → Shared → Prop} {cls : String} {fs : Array Value} {St : Addr → Nat → Heap → Prop} {Item : Nat → Value → Prop}
    (hA : Room A (n + 1)) (htok : t₀ < s.toks) (hJ : J c s.heap) (hT : TW c W) (hW : WEx W s.heap) (d : DenL s.heap W [p₀, pb] [v₀, vb])
    (iter : ∀ (A' : Around) (s' : Shared) (Q E : Value → Shared → Prop), (∀ x ox, s.heap.get? x = some ox → ¬ W x → s'.heap.get? x = some ox) → Q (.ref s'.heap.objs.size) { s' with heap := s'.heap.push { cls := .type cls, data := .fields fs } } → wpAny c.M A' (pyIter v₀) Q E s')
    (st0 : ∀ I (h : Heap), (∀ x ox, s.heap.get? x = some ox → ¬ W x → h.get? x = some ox) → h.get? I = some { cls := .type cls, data := .fields fs } → St I 0 h)
    (live : ∀ I j h, St I j h → ∃ o, h.get? I = some o) (nc : ∀ I j h, St I j h → ∀ o q, h.get? I = some o → ¬ CodQ q o)
    (turn : ∀ (A' : Around) (I : Addr) (s' : Shared) (W' mu : Addr → Prop), Sc c s W A' I s' W' mu → Turn c A' s' W' mu I t₀ vb pb m pv z (St I) Item)
    (k : KontE c s W (.int (cnt z m)) Q) : wpAny c.M A (call (.ref 111) [v₀, vb]) Q E s :=
  (funC Z).go hA htok hJ hT hW d rfl fun h₁ tk₁ hP₁ keep J₁ hA' T₁ R => by
  have i2 : (fiF (fdAt c.w.params 111) 111 ntC s.heap.objs.size).nt[2]? = some (PySem.Str.ofString "count") := rfl
  refine wpAny_execs_cons (wpAny_Assign_Name (wpAny_Constant_int (wpAny_with_toks (n := tk₁ + 1) (Nat.le_refl _) (store_any (s := ⟨h₁, s.gens, s.drawn, tk₁ + 1, s.os⟩) (Nat.succ_pos _) J₁ R (.inl rfl) i2 (av := .im (.int 0)) (by show Den _ _ _ _; unfold Den; exact ⟨_, rfl⟩) (fun e => by cases e) fun h₂ tk₂ p₂ g₂ R₂ _ le₂ => ?_))) rfl)
  have t₂ : t₀ < tk₂ := Nat.lt_of_lt_of_le (Nat.lt_succ_of_lt hP₁) le₂
  refine wpAny_execs_cons (wpAny_For (hs := fun _ => rfl) (eval_own (c := c) (fi := fiF (fdAt c.w.params 111) 111 ntC s.heap.objs.size) (s := ⟨h₂, s.gens, s.drawn, tk₂, s.os⟩) (i := 0) (av := .im p₀) R₂ rfl rfl fun v hv hav => ?_))
  obtain rfl : v = v₀ := (Option.some.inj hv).symm
  clear hav hv
  have nm : ∀ x ox, s.heap.get? x = some ox → ¬ (s.heap.get? x = none ∧ ∃ o, h₁.get? x = some o) := fun x ox e q => by rw [q.1] at e; cases e
  have keep2 : ∀ x ox, s.heap.get? x = some ox → ¬ c.TB x → h₂.get? x = some ox := fun x ox e nt => g₂.kept x ox (keep x ox e) nt (nm x ox e)
  have keepW : ∀ x ox, s.heap.get? x = some ox → ¬ W x → h₂.get? x = some ox := fun x ox e nw => keep2 x ox e fun q => nw (hT x q)
  refine iter _ _ _ _ keepW ?_
  dsimp only
  have hnI : h₂.get? h₂.objs.size = none := get_fresh
  have hgI : (h₂.push { cls := .type cls, data := .fields fs }).get? h₂.objs.size = some { cls := .type cls, data := .fields fs } := Heap.get?_push_size _ rfl
  generalize h₂.objs.size = I at *
  have up : ∀ b o, h₂.get? b = some o → (h₂.push { cls := .type cls, data := .fields fs }).get? b = some o := fun b o e => Heap.get?_push_of_some _ e
  generalize h₂.push { cls := .type cls, data := .fields fs } = h₃ at *
  have st : St I 0 h₃ := st0 I h₃ (fun x ox e nw => up x ox (keepW x ox e nw)) hgI
  have J₃ : J c h₃ := g₂.j.all up
  obtain ⟨_, f⟩ := src_facts (St := St I) (DP := fun _ _ => True) (fp := [I]) (wr := [I]) g₂.j T₁ R₂ (.refl g₂.j) up st (fun i h st b hb => by rw [List.mem_singleton.mp hb]; exact live I i h st) (fun b q => q) (fun b q => by rw [List.mem_singleton.mp q]; exact hnI) (fun b q nq => absurd q nq) (fun _ _ _ _ _ _ => trivial) trivial
  obtain ⟨_, T₃, R₃, _⟩ := f _ (fun _ q => q)
  have frI : s.heap.get? I = none := by
    cases q : s.heap.get? I with
    | none => rfl
    | some o =>
      obtain ⟨o', e'⟩ := g₂.ex I o (keep I o q)
      rw [hnI] at e'; cases e'
  have nI : ∀ b o, h₂.get? b = some o → b ≠ I := fun b o e q => by rw [q, hnI] at e; cases e
  have S : Sc c s W (A.deeper (callEnvC (fdAt c.w.params 111) s.heap.objs.size 111)) I ⟨h₃, s.gens, s.drawn, tk₂, s.os⟩ (fun b => (W b ∨ (s.heap.get? b = none ∧ ∃ o, h₁.get? b = some o)) ∨ b ∈ [I]) (fun b => s.heap.get? b = none ∧ ∃ o, h₁.get? b = some o) := {
    hd := hA'.handled
    wI := .inr (List.mem_singleton.mpr rfl)
    mI := fun q => by
      obtain ⟨o, e⟩ := q.2
      obtain ⟨o', e'⟩ := g₂.ex I o e
      rw [hnI] at e'; cases e'
    tI := fun q => by obtain ⟨o, e, _⟩ := g₂.j.tab I q; rw [hnI] at e; cases e
    fr := frI
    wk := fun b o e q => by
      rcases q with (q | q) | q
      · exact q
      · exact absurd q (nm b o e)
      · rw [List.mem_singleton.mp q, frI] at e; cases e
    old := nm
    okx := fun x ox h e nw kk => kk x ox (up x ox (keepW x ox e nw)) (nm x ox e) (nI x ox (keepW x ox e nw)) fun q => nw (hT x q) }
  have nGI : c.G.get? I = none := by
    cases q : c.G.get? I with
    | none => rfl
    | some o => exact absurd rfl (nI I o (g₂.j.ext _ _ q))
  refine count_for (n := n) (s := ⟨h₃, s.gens, s.drawn, tk₂, s.os⟩) (t₀ := t₀) hA' (turn _ I _ _ _ S) T₃ rfl rfl (fun i => ?_) S.tI nGI ⟨t₂, st, J₃, fun b o e _ _ _ => e, _, _, R₃, rfl, rfl, rfl, rfl⟩ (fun h tk x h' k' => ?_)
  · show (ntC[i]?).bind (fun x => List.lookup x []) = none
    cases ntC[i]? <;> rfl
  · obtain ⟨val, σ, R₄, v1, s1, s2, sl⟩ := x.rel
    obtain ⟨yy, w, f1, f2, f3⟩ := R₄.vals 2 _ s2
    obtain rfl : PySem.Str.ofString "count" = yy := Option.some.inj (i2.symm.trans f1)
    simp only [AVat] at f3
    obtain ⟨u, rfl⟩ := den_int f3
    obtain ⟨mm, hns, hl⟩ := R₄.loc
    obtain ⟨h4, h5⟩ := hl 2 _ i2 rfl
    have hns' := hns.at' fun o e => k' _ o (fun q => S.mI (q ▸ R₄.lmu)) e
    have J₅ : J c h' := x.j.but (X := fun b => b = I) (fun b o e nb => k' b o nb e) (fun b q => q ▸ nGI) (fun b q => q ▸ S.tI) fun b o q z e => nc I _ _ x.st o q (z ▸ e)
    refine wpAny_execs_cons (wpAny_Return_some (wpAny_Name (wpAny_loadName_local R₄.kind h4 hns' (h5 _ f2) ?_)))
    have st : Step c s.heap h' := ⟨fun b o e nt => by
      have e2 := keep2 b o e nt
      exact k' b o (nI b o e2) (x.keep b o (up b o e2) (nm b o e) (nI b o e2) nt), J₅⟩
    exact k _ h' tk (Nat.lt_of_le_of_lt (Nat.zero_le _) x.tok) st (by unfold Den; exact ⟨u, rfl⟩)

theorem cntS (Z : Sit c) : CntS c (n + 1) 111 := by
  intro A s W v t l ch Q E hA hP hJ hT hW d hasc hlen hch ht0 htlt k
  obtain ⟨t', rfl⟩ := den_str d
  have hasc' : (⟨l.toArray⟩ : PySem.Str).cps.all (· < 128) = true := by simpa [ascii] using hasc
  have hcnt : cnt (fun j => (l[j]?.map (· == ch)).getD false) l.length = countN ch l := by
    rw [cnt_filter _ _ _ (Nat.le_refl _), List.take_length]; rfl
  rw [← hcnt] at k
  refine count_run Z (t₀ := t) (cls := "str_ascii_iterator") (fs := #[.str ⟨l.toArray⟩ t', .int 0 0]) (m := l.length) (pv := fun j => .str [l.getD j 0]) (z := fun j => (l[j]?.map (· == ch)).getD false)
    (St := fun I j h => h.IsStrIter I "str_ascii_iterator" ⟨l.toArray⟩ t' j) (Item := fun j v => j < l.length ∧ ∃ u, v = .str ⟨#[l.getD j 0]⟩ u ∧ t < u) hA htlt hJ hT hW
    (DenL.cons d (DenL.cons (p := .str [ch]) (by unfold Den; exact ⟨t, rfl⟩) DenL.nil)) (fun A' s' Q E _ q => wpAny_pyIter_ascii hasc' q) (fun I h _ e => ⟨_, e, rfl, rfl⟩) (fun I j h st => let ⟨o, ho, _⟩ := st; ⟨o, ho⟩) (fun I j h st => let ⟨_, h1, _, hd⟩ := st; nc_at h1 hd fun q t e => by simp at e)
    (fun A' I s' W' mu S => ?_) k
  exact {
    wI := S.wI
    mI := S.mI
    live := fun j h st => let ⟨o, ho, _⟩ := st; ⟨o, ho⟩
    nc := fun j h st => let ⟨_, h1, _, hd⟩ := st; nc_at h1 hd fun q t e => by simp at e
    frame := fun j h h' st kk => let ⟨o, ho, r⟩ := st; ⟨o, kk _ _ S.mI S.tI ho, r⟩
    next := fun j h tk Q E hj st htk kk => wpAny_pyNext_ascii_item st (c := l.getD j 0) (by simp [List.getD_eq_getElem?_getD, List.getElem?_eq_getElem hj]) fun h' st' sb => kk _ h' (tk + 1) (Nat.le_succ _) st' (fun b o nb e => sb.extBut b o nb e) ⟨hj, tk, rfl, htk⟩
    stop := fun h tk Q E st kk => wpAny_pyNext_ascii_end S.hd st (by simp) fun h' sb => kk h' fun b o nb e => sb b o nb e
    same := fun j v s' Q E hi hJ' hk hq => by
      obtain ⟨hj, u, rfl, hu⟩ := hi
      refine is_str (Nat.ne_of_gt (Nat.lt_of_le_of_lt (Nat.zero_le _) hu)) (Nat.ne_of_gt ht0) (Nat.ne_of_gt hu) (booked_J Z.booked hJ') fun b hb => hq b fun e => ?_
      have := hb e
      simp [List.getD_eq_getElem?_getD, List.getElem?_eq_getElem hj] at this
      simp [List.getElem?_eq_getElem hj, this]
    den := fun j v h hi _ => by
      obtain ⟨hj, u, rfl, hu⟩ := hi
      unfold Den; exact ⟨u, rfl⟩
    eq := fun j hj => by
      simp [eqPV, oStr, List.getD_eq_getElem?_getD, List.getElem?_eq_getElem hj] }
end Mine
end

section
open PySem PySem.W PyProof.Rows
open Sem (wp)
set_option Elab.async false
set_option linter.unusedVariables false
set_option maxRecDepth 100000
namespace Mine
variable {c : Cx} {n : Nat}

theorem eq_pair (p q : Int × Int) : eqPV (.tup [.int p.1, .int p.2]) (.tup [.int q.1, .int q.2]) = some (decide (p = q)) := by
  have h1 : PySem.SeqAt.shaped (.tuple [.int p.1, .int p.2]) = true := rfl
  have h2 : PySem.SeqAt.shaped (.tuple [.int q.1, .int q.2]) = true := rfl
  have h3 : PyData.eqv (.tuple [.int p.1, .int p.2]) (.tuple [.int q.1, .int q.2]) = (p.1 == q.1 && (p.2 == q.2 && true)) := rfl
  show (if (PySem.SeqAt.shaped (.tuple [.int p.1, .int p.2]) && PySem.SeqAt.shaped (.tuple [.int q.1, .int q.2])) = true then some (PyData.eqv (.tuple [.int p.1, .int p.2]) (.tuple [.int q.1, .int q.2])) else none) = _
  rw [h1, h2, h3]
  obtain ⟨a, b⟩ := p
  obtain ⟨d, e⟩ := q
  simp only [Bool.and_self, if_true, Bool.and_true, Option.some.injEq]
  by_cases h4 : a = d <;> by_cases h5 : b = e <;> simp [h4, h5]

theorem cntC (Z : Sit c) : CntC c (n + 1) 111 := by
  intro A s W a vs m g l kq p v Q E hA hP hJ hT hW wa ga da hlen hp hv k
  obtain ⟨_, hvb, ⟨b, m₁, t, u, wb, gb, ht, hu, ft, fu⟩⟩ := da.get hp
  obtain rfl : v = .ref b := Option.some.inj (hv.symm.trans hvb)
  have hlv := da.length
  have pairD : ∀ (h : Heap) (W : Addr → Prop) (x : Int × Int) (b : Addr) (t u : Tok) (m : Nat), ¬ W b → h.get? b = some (tupO [.int x.1 t, .int x.2 u] m) → Den h W (.tup [.int x.1, .int x.2]) (.ref b) := fun h W x b t u m wb gb => by
    unfold Den
    exact ⟨b, _, _, rfl, wb, gb, DenL.cons (by unfold Den; exact ⟨_, rfl⟩) (DenL.cons (by unfold Den; exact ⟨_, rfl⟩) DenL.nil)⟩
  have hcnt : cnt (fun j => (l[j]?.map fun x => decide (x = p)).getD false) l.length = countP p l := by
    rw [cnt_filter _ _ _ (Nat.le_refl _), List.take_length]; rfl
  rw [← hcnt] at k
  have item : ∀ j v, j < l.length ∧ vs[j]? = some v → ∃ b' m' t' u', v = .ref b' ∧ ¬ W b' ∧ s.heap.get? b' = some (tupO [.int (l.getD j (0, 0)).1 t', .int (l.getD j (0, 0)).2 u'] m') ∧ t' ≠ 0 ∧ u' ≠ 0 ∧ g t' = (l.getD j (0, 0)).1 ∧ g u' = (l.getD j (0, 0)).2 := fun j v ⟨hj, hv⟩ => by
    obtain ⟨_, hb', ⟨b', m', t', u', wb', gb', ht', hu', ft', fu'⟩⟩ := da.get (List.getElem?_eq_getElem hj)
    rw [show l.getD j (0, 0) = l[j] by simp [List.getD_eq_getElem?_getD, List.getElem?_eq_getElem hj]]
    exact ⟨b', m', t', u', Option.some.inj (hv.symm.trans hb'), wb', gb', ht', hu', ft', fu'⟩
  refine count_run Z (t₀ := 0) (cls := "list_iterator") (fs := #[.ref a, .int 0 0]) (m := l.length) (pv := fun j => .tup [.int (l.getD j (0, 0)).1, .int (l.getD j (0, 0)).2]) (z := fun j => (l[j]?.map fun x => decide (x = p)).getD false)
    (St := fun I j h => h.IsListIter I a j ∧ h.IsList a vs.toArray) (Item := fun j v => j < l.length ∧ vs[j]? = some v) hA hP hJ hT hW
    (DenL.cons (p := .cells l) (by unfold Den; exact ⟨a, vs, m, g, rfl, wa, ga, da⟩) (DenL.cons (pairD _ _ p b t u m₁ wb gb) DenL.nil)) (fun A' s' Q E kk q => wpAny_pyIter_list (isList_of (kk a _ ga wa)) q)
    (fun I h kk e => ⟨⟨_, e, rfl, rfl⟩, isList_of (kk a _ ga wa)⟩) (fun I j h st => let ⟨⟨o, ho, _⟩, _⟩ := st; ⟨o, ho⟩) (fun I j h st => let ⟨⟨_, h1, _, hd⟩, _⟩ := st; nc_at h1 hd fun q t e => by simp at e)
    (fun A' I s' W' mu S => ?_) k
  have nIa : a ≠ I := fun q => by rw [q, S.fr] at ga; cases ga
  exact {
    wI := S.wI
    mI := S.mI
    live := fun j h st => let ⟨⟨o, ho, _⟩, _⟩ := st; ⟨o, ho⟩
    nc := fun j h st => let ⟨⟨_, h1, _, hd⟩, _⟩ := st; nc_at h1 hd fun q t e => by simp at e
    frame := fun j h h' st kk => let ⟨⟨o, ho, r⟩, ⟨o', ho', r'⟩⟩ := st; ⟨⟨o, kk _ _ S.mI S.tI ho, r⟩, ⟨o', kk _ _ (S.old a _ ga) (fun q => wa (hT a q)) ho', r'⟩⟩
    next := fun j h tk Q E hj st htk kk => wpAny_pyNext_list_item st.1 st.2 (x := vs[j]'(by omega)) (by simp [hlv, hj]) fun h' st' sb => kk _ h' tk (Nat.le_refl _) ⟨st', let ⟨o, ho, r⟩ := st.2; ⟨o, sb.extBut a o nIa ho, r⟩⟩ (fun b o nb e => sb.extBut b o nb e) ⟨hj, by simp [hlv, hj]⟩
    stop := fun h tk Q E st kk => wpAny_pyNext_list_end S.hd st.1 st.2 (by simp [hlv]) fun h' sb => kk h' fun b o nb e => sb b o nb e
    same := fun j v s' Q E hi hJ' hk hq => by
      obtain ⟨b', m', t', u', rfl, wb', gb', ht', hu', ft', fu'⟩ := item j v hi
      refine is_pair (S.okx _ _ _ gb' wb' hk) (S.okx _ _ _ gb wb hk) ht' hu' ht hu (fun e => by rw [← ft', ← ft, e]) (fun e => by rw [← fu', ← fu, e]) (booked_J Z.booked hJ') fun r hr => hq r fun e => ?_
      have := hr e
      simp [List.getD_eq_getElem?_getD, List.getElem?_eq_getElem hi.1] at this
      simp [List.getElem?_eq_getElem hi.1, this]
    den := fun j v h hi kk => by
      obtain ⟨b', m', t', u', rfl, wb', gb', _⟩ := item j v hi
      exact pairD _ _ _ b' t' u' m' (fun q => wb' (S.wk b' _ gb' q)) (S.okx _ _ _ gb' wb' kk)
    eq := fun j hj => by
      rw [eq_pair]
      simp [List.getD_eq_getElem?_getD, List.getElem?_eq_getElem hj] }
end Mine
end

section
open PySem PySem.W PyProof.Rows
set_option Elab.async false
set_option linter.unusedVariables false
set_option maxRecDepth 100000
namespace Mine
variable {c : Cx} {n : Nat}
theorem fun17 (S : Sit c) : Fun c 159 (fdAt c.w.params 159) (bodyAt c.w.params 159) nt17 1 :=
  mkFun (cd := 158) S (by kernel_rfl) (by kernel_rfl) (by kernel_rfl) (by kernel_rfl) (by kernel_rfl) (fun vals h => by obtain ⟨a, rfl⟩ := on1 h; kernel_rfl)
theorem Sit.fn9 (S : Sit c) : ∃ o fd, c.G.get? (rp.ad 9) = some o ∧ o.data = .func fd := let ⟨o, h1, h2⟩ := (funC S).get; ⟨o, _, h1, h2⟩
theorem Sit.base (S : Sit c) : Base c (n + 1) rp where
  gl := S.gl
  pats := S.pats
  fn9 := S.fn9
  cS := cntS S
  cC := cntC S
end Mine
end

section
open PySem PySem.W PyProof.Rows
set_option Elab.async false
set_option linter.unusedVariables false
namespace Mine
variable {c : Cx} {n : Nat}
theorem FnOK.up {f : Addr} {args : List PV} {res : PV} (h : FnOK c n f args res) : FnOK c (n + 1) f args res := fun A s W vs Q E hA => h A s W vs Q E (hA.le (Nat.le_succ n))
theorem FnOKC.up {f : Addr} {args : List PV} {res : PV} (h : FnOKC c n f args res) : FnOKC c (n + 1) f args res := fun A s W vs Q E hA => h A s W vs Q E (hA.le (Nat.le_succ n))
/-- one function more -/
noncomputable def lay (G : Nat → List PV → Option PV) (k : Nat) (g : List PV → Option PV) : Nat → List PV → Option PV := fun f vs => if f = k then g vs else G f vs
theorem Fns.lay {R : Rp} {G : Nat → List PV → Option PV} {k : Nat} {g : List PV → Option PV} (F : Fns c n R G) (hf : ∃ o fd, c.G.get? (R.ad k) = some o ∧ o.data = .func fd) (h : ∀ args res, plainF k = true → g args = some res → FnOK c (n + 1) (R.ad k) args res) (h' : ∀ args res, g args = some res → FnOKC c (n + 1) (R.ad k) args res) : Fns c (n + 1) R (lay G k g) where
  fn := fun f args res e => by
    unfold Mine.lay at e
    split at e
    · rename_i q; subst q; exact hf
    · exact F.fn f args res e
  ok := fun f args res hp e => by
    unfold Mine.lay at e
    split at e
    · rename_i q; subst q; exact h args res hp e
    · exact (F.ok f args res hp e).up
  okC := fun f args res e => by
    unfold Mine.lay at e
    split at e
    · rename_i q; subst q; exact h' args res e
    · exact (F.okC f args res e).up
end Mine
end

section
open PySem PySem.W PyProof.Rows
open Sem (wp)
set_option Elab.async false
set_option linter.unusedVariables false
set_option maxRecDepth 100000
namespace Mine
variable {c : Cx} {n : Nat}

/-- the def made within a def: its place in the text -/
noncomputable def nestAt (P : Params) (a : Addr) (i : Nat) : Stmt := ((bodyAt P a)[i]?).getD (.Pass default)
noncomputable def nestBody (P : Params) (a : Addr) (i : Nat) : List Stmt := match nestAt P a i with | .FunctionDef _ _ b _ _ _ _ _ _ _ => b | _ => []
noncomputable def nestArgs (P : Params) (a : Addr) (i : Nat) : Arguments := match nestAt P a i with | .FunctionDef _ as _ _ _ _ _ _ _ _ => as | _ => default
noncomputable def nestScope (P : Params) (a : Addr) (i : Nat) : Scope := match nestAt P a i with | .FunctionDef _ _ _ _ _ _ sc _ _ _ => sc | _ => default
noncomputable def nestPos (P : Params) (a : Addr) (i : Nat) : Pos := match nestAt P a i with | .FunctionDef _ _ _ _ _ _ _ _ _ p => p | _ => default

noncomputable def fdN (P : Params) (a : Addr) (i : Nat) (qual : PySem.Str) (cl : List (PySem.Str × Addr)) (doc pm cv ctv : Value) : FuncData :=
  fnX (PySem.Str.ofString "inner") qual (nestArgs P a i) (nestBody P a i) (nestScope P a i) cl .none .none doc pm none cv ctv

noncomputable def fiN (fd : FuncData) (nt : List PySem.Str) (f L : Addr) : FI :=
  { env := callEnv fd L f, nt := nt, place := fun i => (nt[i]?).bind fun x => fd.closure.lookup x, capt := true }

/-- a function that a call made stands in the heap, and its cells -/
structure Clo (c : Cx) (h : Heap) (f : Addr) (fd : FuncData) : Prop where
  fn : ∃ o, h.get? f = some o ∧ o.data = .func fd
  cod : ∃ x o, fd.code = .ref x ∧ h.get? x = some o ∧ CodQ fd.qualname o ∧ ¬ c.TB x
  nf : ¬ c.TB f
theorem Clo.codeRec {h : Heap} {f : Addr} {fd : FuncData} (x : Clo c h f fd) : h.CodeRec fd.code fd.qualname :=
  let ⟨y, o, e, g, ⟨vs, t, d, q⟩, _⟩ := x.cod; ⟨y, o, vs, t, e, g, d, q⟩
theorem Clo.kk {h h' : Heap} {f : Addr} {fd : FuncData} (x : Clo c h f fd) (k : ∀ b o, h.get? b = some o → ¬ c.TB b → ((∃ z, o.data = .func z) ∨ ∃ z, o.data = .fields z) → h'.get? b = some o) : Clo c h' f fd :=
  let ⟨⟨o, ho, hd⟩, ⟨y, oy, e, g, ⟨vs, t, d, q⟩, nt⟩, nf⟩ := x
  ⟨⟨o, k f o ho nf (.inl ⟨_, hd⟩), hd⟩, ⟨y, oy, e, k y oy g nt (.inr ⟨_, d⟩), ⟨vs, t, d, q⟩, nt⟩, nf⟩
theorem Clo.keeps {h h' : Heap} {f : Addr} {fd : FuncData} (x : Clo c h f fd) (k : ∀ b o, h.get? b = some o → ¬ c.TB b → (∀ its m, o.data ≠ .seq its m) → (∀ es m, o.data ≠ .dict es m) → h'.get? b = some o) : Clo c h' f fd :=
  x.kk fun b o e nt q => k b o e nt (fun _ _ z => by rcases q with ⟨_, q⟩ | ⟨_, q⟩ <;> (rw [q] at z; cases z)) (fun _ _ z => by rcases q with ⟨_, q⟩ | ⟨_, q⟩ <;> (rw [q] at z; cases z))
theorem Clo.kp {h h' : Heap} {f : Addr} {fd : FuncData} (x : Clo c h f fd) (k : ∀ b o, h.get? b = some o → (∀ v, o.data ≠ .cell v) → h'.get? b = some o) : Clo c h' f fd :=
  x.kk fun b o e nt q => k b o e fun _ z => by rcases q with ⟨_, q⟩ | ⟨_, q⟩ <;> (rw [q] at z; cases z)

/-- a cell that holds v -/
noncomputable def CellIs (c : Cx) (h : Heap) (a : Addr) (v : Value) : Prop := (∃ o, h.get? a = some o ∧ o.data = .cell (some v)) ∧ ¬ c.TB a
theorem CellIs.keeps {h h' : Heap} {a : Addr} {v : Value} (x : CellIs c h a v) (k : ∀ b o, h.get? b = some o → ¬ c.TB b → (∀ its m, o.data ≠ .seq its m) → (∀ es m, o.data ≠ .dict es m) → h'.get? b = some o) : CellIs c h' a v := by
  obtain ⟨⟨o, ho, hd⟩, nt⟩ := x
  exact ⟨⟨o, k a o ho nt (fun _ _ z => by rw [hd] at z; cases z) (fun _ _ z => by rw [hd] at z; cases z), hd⟩, nt⟩

/-- what stays but for lists and namespaces -/
noncomputable abbrev Stay (c : Cx) (h h' : Heap) : Prop := ∀ b o, h.get? b = some o → ¬ c.TB b → (∀ its m, o.data ≠ .seq its m) → (∀ es m, o.data ≠ .dict es m) → h'.get? b = some o
theorem Stay.trans {h h' h'' : Heap} (a : Stay c h h') (b : Stay c h' h'') : Stay c h h'' := fun x o e n s d => b x o (a x o e n s d) n s d
theorem Stay.all {h h' : Heap} (a : ∀ b o, h.get? b = some o → h'.get? b = some o) : Stay c h h' := fun x o e _ _ _ => a x o e
theorem Stay.step {h h' : Heap} (a : Step c h h') : Stay c h h' := fun x o e n _ _ => a.kept x o e n

/-! ## inner of _int2digits -/
noncomputable def ntI : List PySem.Str := ["x", "L", "R", "mid", "shift", "upper", "lower", "a_digits", "inner", "n"]
noncomputable def clI (ca ci cn : Addr) : List (PySem.Str × Addr) := [("n", cn), ("inner", ci), ("a_digits", ca)]
noncomputable abbrev fdI (P : Params) (ca ci cn : Addr) (doc pm cv ctv : Value) : FuncData := fdN P 69 1 (PySem.Str.ofString "_int2digits.<locals>.inner") (clI ca ci cn) doc pm cv ctv

/-- what the recursion stands on -/
structure FixI (c : Cx) (h : Heap) (f ca ci cn a : Addr) (doc pm cv ctv : Value) : Prop where
  clo : Clo c h f (fdI c.w.params ca ci cn doc pm cv ctv)
  xa : CellIs c h ca (.ref a)
  xi : CellIs c h ci (.ref f)
  xn : ∃ t, CellIs c h cn (.int 2 t)
  d1 : ca ≠ ci
  d2 : ca ≠ cn
  d3 : ci ≠ cn
  nT : ¬ c.TB a
  nG : c.G.get? a = none
theorem FixI.keeps {h h' : Heap} {f ca ci cn a : Addr} {doc pm cv ctv : Value} (x : FixI c h f ca ci cn a doc pm cv ctv) (k : Stay c h h') : FixI c h' f ca ci cn a doc pm cv ctv :=
  { x with clo := x.clo.keeps k, xa := x.xa.keeps k, xi := x.xi.keeps k, xn := let ⟨t, z⟩ := x.xn; ⟨t, z.keeps k⟩ }

noncomputable abbrev intL (ds : List Int) : List PV := ds.map .int
/-- base-4 figures of x at places L .. -/
noncomputable def setD : List Int → Nat → Nat → Int → List Int
  | ds, _, 0, _ => ds
  | ds, L, k + 1, x => setD (ds.set L (x % 4)) (L + 1) k (x / 4)

noncomputable def valI (x L R : Value) (a : Addr) (t : Tok) : Vals := fun i => match i with
  | 0 => some x | 1 => some L | 2 => some R | 7 => some (.ref a) | 9 => some (.int 2 t) | _ => none
noncomputable def sgI (x L R : Int) (ds : List Int) : Sg := [some (.im (.int x)), some (.im (.int L)), some (.im (.int R)), none, none, none, none, some (.own (intL ds)), none, some (.im (.int 2))]

noncomputable def WI (c : Cx) (ca ci cn a L : Addr) : Addr → Prop := fun b => c.TB b ∨ b = a ∨ b = ca ∨ b = ci ∨ b = cn ∨ b = L
noncomputable def muI (a L : Addr) : Addr → Prop := fun b => b = a ∨ b = L

theorem names_I (P : Params) : ∀ i x, ntI[i]? = some x → i < 7 → (nestScope P 69 1).names.lookup x = some .local := by
  intro i x h hi
  match i, hi with
  | 0, _ | 1, _ | 2, _ | 3, _ | 4, _ | 5, _ | 6, _ => cases h; kernel_rfl
theorem free_I (P : Params) : ∀ i x, ntI[i]? = some x → 7 ≤ i → (nestScope P 69 1).names.lookup x = some .free := by
  intro i x h hi
  match i with
  | 0 | 1 | 2 | 3 | 4 | 5 | 6 => omega
  | 7 | 8 | 9 => cases h; kernel_rfl
  | i + 10 => cases h
theorem place_I {ca ci cn : Addr} : ∀ i x a, ntI[i]? = some x → (clI ca ci cn).lookup x = some a → (i = 7 ∧ a = ca) ∨ (i = 8 ∧ a = ci) ∨ (i = 9 ∧ a = cn) := by
  intro i x a h e
  match i with
  | 0 | 1 | 2 | 3 | 4 | 5 | 6 => cases h; cases e
  | 7 => cases h; cases e; exact .inl ⟨rfl, rfl⟩
  | 8 => cases h; cases e; exact .inr (.inl ⟨rfl, rfl⟩)
  | 9 => cases h; cases e; exact .inr (.inr ⟨rfl, rfl⟩)
  | i + 10 => cases h
theorem place_none {ca ci cn : Addr} : ∀ i x, ntI[i]? = some x → (clI ca ci cn).lookup x = none → i < 7 := by
  intro i x h e
  match i with
  | 0 | 1 | 2 | 3 | 4 | 5 | 6 => omega
  | 7 | 8 | 9 => cases h; cases e
  | i + 10 => cases h

theorem relI {h₀ : Heap} {f ca ci cn a L : Addr} {doc pm cv ctv : Value} {x l r : Int} {tx tl tr tn : Tok} {ds : List Int} {vs : List Value} {m : Nat} (hJ : J c h₀) (X : FixI c h₀ f ca ci cn a doc pm cv ctv) (hn : CellIs c h₀ cn (.int 2 tn))
    (hL : ¬ c.TB L) (gL : c.G.get? L = none) (ha : h₀.get? a = some (listO vs m)) (hd : DenL h₀ (WI c ca ci cn a L) (intL ds) vs)
    (hns : h₀.Ns L fun y => ([((PySem.Str.ofString "x"), Value.int x tx), ((PySem.Str.ofString "L"), .int l tl), ((PySem.Str.ofString "R"), .int r tr)] : List (PySem.Str × Value)).reverse.lookup y) :
    Rel c (WI c ca ci cn a L) (muI a L) h₀ (fiN (fdI c.w.params ca ci cn doc pm cv ctv) ntI f L) (valI (.int x tx) (.int l tl) (.int r tr) a tn) (sgI x l r ds) where
  kind := by show (nestScope c.w.params 69 1).kind = _; kernel_rfl
  gl := rfl
  bl := rfl
  wex := fun b hb => by
    obtain ⟨o, es, ep, eL, _⟩ := hns
    obtain ⟨⟨oa, ea, _⟩, _⟩ := X.xa
    obtain ⟨⟨oi, ei, _⟩, _⟩ := X.xi
    obtain ⟨⟨on, en, _⟩, _⟩ := hn
    rcases hb with q | rfl | rfl | rfl | rfl | rfl
    · obtain ⟨o, e, _⟩ := hJ.tab b q; exact ⟨o, e⟩
    · exact ⟨_, ha⟩
    · exact ⟨_, ea⟩
    · exact ⟨_, ei⟩
    · exact ⟨_, en⟩
    · exact ⟨_, eL⟩
  muW := fun b q => by
    rcases q with rfl | rfl
    · exact .inr (.inl rfl)
    · exact .inr (.inr (.inr (.inr (.inr rfl))))
  muT := fun b q => by
    rcases q with rfl | rfl
    · exact X.nT
    · exact hL
  muG := fun b q => by
    rcases q with rfl | rfl
    · exact X.nG
    · exact gL
  lmu := .inr rfl
  loc := ⟨_, hns, fun i y h1 h2 => by
    have h1 : ntI[i]? = some y := h1
    have h2 : (ntI[i]?).bind (fun x => (clI ca ci cn).lookup x) = none := h2
    rw [h1] at h2
    have hi := place_none i y h1 h2
    refine ⟨names_I c.w.params i y h1 hi, fun v hv => ?_⟩
    match i, hi with
    | 0, _ | 1, _ | 2, _ => cases h1; cases hv; rfl
    | 3, _ | 4, _ | 5, _ | 6, _ => cases hv⟩
  cel := fun i y b h1 h2 => by
    have h1 : ntI[i]? = some y := h1
    have h2 : (ntI[i]?).bind (fun x => (clI ca ci cn).lookup x) = some b := h2
    rw [h1] at h2
    have h3 : (clI ca ci cn).lookup y = some b := h2
    have hf : ∀ j, 7 ≤ j → i = j → (nestScope c.w.params 69 1).names.lookup y = some .free := fun j hj e => free_I c.w.params i y h1 (e ▸ hj)
    obtain ⟨⟨oa, ea, da⟩, na⟩ := X.xa
    obtain ⟨⟨oi, ei, di⟩, ni⟩ := X.xi
    obtain ⟨⟨on, en, dn⟩, nn⟩ := hn
    rcases place_I i y b h1 h3 with ⟨rfl, rfl⟩ | ⟨rfl, rfl⟩ | ⟨rfl, rfl⟩
    · exact ⟨h3, .inr (.inr (.inl rfl)), na, .inr (hf 7 (by decide) rfl), oa, _, ea, da, fun v hv => hv⟩
    · exact ⟨h3, .inr (.inr (.inr (.inl rfl))), ni, .inr (hf 8 (by decide) rfl), oi, _, ei, di, fun v hv => by cases hv⟩
    · exact ⟨h3, .inr (.inr (.inr (.inr (.inl rfl)))), nn, .inr (hf 9 (by decide) rfl), on, _, en, dn, fun v hv => hv⟩
  cmu := fun q => by cases q
  celd := fun i j b h1 h2 => by
    have h1 : (ntI[i]?).bind (fun x => (clI ca ci cn).lookup x) = some b := h1
    have h2 : (ntI[j]?).bind (fun x => (clI ca ci cn).lookup x) = some b := h2
    obtain ⟨y, e1, f1⟩ := Option.bind_eq_some_iff.mp h1
    obtain ⟨z, e2, f2⟩ := Option.bind_eq_some_iff.mp h2
    have := X.d1; have := X.d2; have := X.d3
    rcases place_I i y b e1 f1 with ⟨rfl, rfl⟩ | ⟨rfl, rfl⟩ | ⟨rfl, rfl⟩ <;> rcases place_I j z _ e2 f2 with ⟨rfl, q⟩ | ⟨rfl, q⟩ | ⟨rfl, q⟩ <;> first | rfl | (exfalso; first | exact X.d1 q | exact X.d1 q.symm | exact X.d2 q | exact X.d2 q.symm | exact X.d3 q | exact X.d3 q.symm)
  vals := fun i av e => by
    match i with
    | 0 | 1 | 2 => cases e; exact ⟨_, _, rfl, rfl, by show Den _ _ _ _; unfold Den; exact ⟨_, rfl⟩⟩
    | 3 | 4 | 5 | 6 | 8 => cases e
    | 7 => cases e; exact ⟨_, _, rfl, rfl, a, vs, m, rfl, .inl rfl, ha, hd⟩
    | 9 => cases e; exact ⟨_, _, rfl, rfl, by show Den _ _ _ _; unfold Den; exact ⟨_, rfl⟩⟩
    | i + 10 => cases e
  sep := fun i j b av bv e1 e2 o1 o2 v1 v2 => by
    have own : ∀ i av, (sgI x l r ds)[i]? = some (some av) → isOwn av = true → i = 7 := fun i av e o => by
      match i with
      | 0 | 1 | 2 | 9 => cases e; cases o
      | 3 | 4 | 5 | 6 | 8 => cases e
      | 7 => rfl
      | i + 10 => cases e
    rw [own i av e1 o1, own j bv e2 o2]
  nd := fun i j y h1 h2 => by
    have h1 : ntI[i]? = some y := h1
    have h2 : ntI[j]? = some y := h2
    exact (List.getElem?_inj (List.getElem?_eq_some_iff.mp h1).1 (by decide +kernel)).mp (h1.trans h2.symm)
  ndb := fun i y h1 => by
    have h1 : ntI[i]? = some y := h1
    have : ∀ y ∈ ntI, (y == (PySem.Str.ofString "__debug__")) = false ∧ (y == (PySem.Str.ofString "__classdict__")) = false := by decide +kernel
    exact this y (List.mem_of_getElem? h1)
end Mine
end

section
open PySem PySem.W PyProof.Rows
open Sem (wp)
set_option Elab.async false
set_option linter.unusedVariables false
set_option maxRecDepth 100000
namespace Mine
variable {c : Cx} {n : Nat}

theorem val2_xor {a b : Int} : Val2 c n (binaryOp .BitXor) (.int a) (.int b) (.int (Builtin.bitXor a b)) := by
  intro A s W x y Q E hA hP hJ hT hW dx dy k
  obtain ⟨t, rfl⟩ := den_int dx; obtain ⟨u, rfl⟩ := den_int dy
  exact xor_int (k.int hJ (Nat.succ_pos _))

/-- x = e, and what follows -/
theorem set_by {A : Around} {s : Shared} {W mu : Addr → Prop} {val : Vals} {fi : FI} {σ : Sg} {x : PySem.Str} {p' pos : Pos} {e : Expr} {i : Nat} {p : PV} {rest : List Stmt} {Q : Flow → Shared → Prop} {E : Value → Shared → Prop} (hA : Room A n) (hP : 0 < s.toks) (hJ : J c s.heap) (hT : TW c W) (R : Rel c W mu s.heap fi val σ)
    (he : SoundE c n fi σ e p) (hpl : fi.capt = false ∨ fi.place i = none) (hx : fi.nt[i]? = some x) (hs : swapsWith e (some (.Name x p')) pos.line fi.env = pure false)
    (k : ∀ h' tk v, 0 < tk → Go c W mu s.heap W mu h' → Rel c W mu h' fi (upd val i v) (σ.set i (some (.im p))) → (∀ b o, s.heap.get? b = some o → ¬ c.TB b → (¬ mu b ∨ ¬ Odd o) → h'.get? b = some o) → wpAny c.M A (execs rest fi.env) Q E { s with heap := h', toks := tk }) :
    wpAny c.M A (execs (.Assign [.Name x p'] e pos :: rest) fi.env) Q E s := by
  refine wpAny_execs_cons (wpAny_Assign_Name (he A s W mu val _ _ hA hP hJ hT R fun v h₁ tk₁ p₁ s₁ d₁ =>
    store_any (σ := σ) (val := val) (s := ⟨h₁, s.gens, s.drawn, tk₁, s.os⟩) p₁ s₁.j (R.step hT s₁) hpl hx (av := .im p) d₁ (fun e => by cases e) fun h' tk hp g R' kp => ?_) hs)
  exact k h' tk v hp ((Go.of_step s₁).trans g R.wex) R' fun b o e nt q => kp b o q (s₁.kept b o e nt)

/-- an object of the activation's own has changed, the tables aside -/
theorem Rel.mutateT {W mu : Addr → Prop} {h h' : Heap} {fi : FI} {σ : Sg} {val : Vals} {a : Addr} {i : Nat} {av av' : AV} (R : Rel c W mu h fi val σ) (hT : TW c W) (hJ' : J c h') (hi : σ[i]? = some (some av)) (ho : isOwn av = true) (ho' : isOwn av' = true) (hv : val i = some (.ref a))
    (hs : ∀ b o, b ≠ a → ¬ c.TB b → h.get? b = some o → h'.get? b = some o) (d' : AVat h' W mu av' (.ref a)) : Rel c W mu h' fi val (σ.set i (some av')) := by
  obtain ⟨x, v, f1, f2, f3⟩ := R.vals i av hi
  rw [hv] at f2; cases f2
  obtain ⟨hmu, oa, hoa, hodd⟩ := own_kind ho f3
  obtain ⟨_, oa', hoa', _⟩ := own_kind ho' d'
  have hex : ∀ b o, h.get? b = some o → ∃ o', h'.get? b = some o' := fun b o e => by
    by_cases q : b = a
    · subst q; exact ⟨_, hoa'⟩
    · by_cases t : c.TB b
      · obtain ⟨o', e', _⟩ := hJ'.tab b t; exact ⟨o', e'⟩
      · exact ⟨o, hs b o q t e⟩
  have ne_odd : ∀ b o, h.get? b = some o → Odd o → b ≠ a := fun b o e q z => by
    rw [z, hoa] at e; cases e; exact hodd q
  have im_keep : ∀ {p : PV} {u : Value}, Den h W p u → Den h' W p u := fun d => Den.keeps ⟨fun b o e nw => hs b o (fun q => nw (q ▸ R.muW _ hmu)) (fun q => nw (hT b q)) e, fun _ _ _ q => q⟩ d
  have l_keep : ∀ {p : List PV} {u : List Value}, DenL h W p u → DenL h' W p u := fun d => DenL.keeps ⟨fun b o e nw => hs b o (fun q => nw (q ▸ R.muW _ hmu)) (fun q => nw (hT b q)) e, fun _ _ _ q => q⟩ d
  exact {
    kind := R.kind, gl := R.gl, bl := R.bl
    wex := fun b hb => let ⟨_, e⟩ := R.wex b hb; hex b _ e
    muW := R.muW, muT := R.muT, muG := R.muG, lmu := R.lmu
    loc := by
      obtain ⟨m, ⟨o, es, ep, q1, q2, q3⟩, q⟩ := R.loc
      exact ⟨m, ⟨o, es, ep, hs _ _ (ne_odd _ _ q1 (.inl ⟨es, ep, q2⟩)) (R.muT _ R.lmu) q1, q2, q3⟩, q⟩
    cel := fun j y b h1 h2 => by
      obtain ⟨q1, q2, q3, q4, o, ov, q5, q6, q7⟩ := R.cel j y b h1 h2
      exact ⟨q1, q2, q3, q4, o, ov, hs _ _ (ne_odd _ _ q5 (.inr ⟨ov, q6⟩)) q3 q5, q6, q7⟩
    cmu := R.cmu, celd := R.celd
    vals := fun j bv e => by
      rcases get_set e with ⟨z, f⟩ | ⟨z, f⟩
      · cases f; subst z; exact ⟨x, _, f1, hv, d'⟩
      · obtain ⟨y, u, g1, g2, g3⟩ := R.vals j bv f
        refine ⟨y, u, g1, g2, ?_⟩
        cases bv with
        | im p => exact im_keep g3
        | own l =>
          obtain ⟨b, vs, m, e1, e2, e3, e4⟩ := g3
          refine ⟨b, vs, m, e1, e2, hs b _ (fun q => z ?_) (R.muT _ e2) e3, l_keep e4⟩
          exact R.sep j i a _ _ f hi rfl ho (by rw [g2, e1, q]) hv
        | ownb l =>
          obtain ⟨b, m, e1, e2, e3⟩ := g3
          refine ⟨b, m, e1, e2, hs b _ (fun q => z ?_) (R.muT _ e2) e3⟩
          exact R.sep j i a _ _ f hi rfl ho (by rw [g2, e1, q]) hv
    sep := fun j k b av1 av2 e1 e2 o1 o2 v1 v2 => by
      rcases get_set e1 with ⟨z1, f1⟩ | ⟨z1, f1⟩ <;> rcases get_set e2 with ⟨z2, f2⟩ | ⟨z2, f2⟩
      · rw [z1, z2]
      · exact (R.sep j k b av av2 (z1 ▸ hi) f2 ho o2 v1 v2)
      · exact (R.sep j k b av1 av f1 (z2 ▸ hi) o1 ho v1 v2)
      · exact R.sep j k b av1 av2 f1 f2 o1 o2 v1 v2
    nd := R.nd, ndb := R.ndb }
end Mine
end

section
open PySem PySem.W PyProof.Rows
open Sem (wp)
set_option Elab.async false
set_option linter.unusedVariables false
set_option maxRecDepth 100000
namespace Mine
variable {c : Cx} {n : Nat}

theorem intL_any {h h' : Heap} {W W' : Addr → Prop} : ∀ {ds : List Int} {vs : List Value}, DenL h W (intL ds) vs → DenL h' W' (intL ds) vs
  | [], vs, d => by rw [d.out0]; exact DenL.nil
  | i :: ds, vs, d => by
    obtain ⟨v, r, rfl, d1, d2⟩ := d.out
    obtain ⟨t, rfl⟩ := den_int d1
    exact DenL.cons (by unfold Den; exact ⟨t, rfl⟩) (intL_any d2)

noncomputable def InnC (c : Cx) (n : Nat) (f ca ci cn a : Addr) (doc pm cv ctv : Value) (k : Nat) : Prop :=
  ∀ (A : Around) (s : Shared) (x l : Int) (tx tl tr : Tok) (r : Int) (ds : List Int) (vs : List Value) (m : Nat) (Q E : Value → Shared → Prop), Room A n → 0 < s.toks → J c s.heap → FixI c s.heap f ca ci cn a doc pm cv ctv → s.heap.get? a = some (listO vs m) → DenL s.heap (fun _ => False) (intL ds) vs →
    0 ≤ l → l + k ≤ ds.length → ds.length ≤ 1000 → 0 ≤ x → x < 64 → x < 4 ^ k → r = l + k →
    (∀ h' tk vs' m', 0 < tk → J c h' → Stay c s.heap h' → (∀ b o, s.heap.get? b = some o → b ≠ a → ¬ c.TB b → h'.get? b = some o) → h'.get? a = some (listO vs' m') → DenL h' (fun _ => False) (intL (setD ds l.toNat k x)) vs' → Q .none { s with heap := h', toks := tk }) →
    wpAny c.M A (call (.ref f) [.int x tx, .int l tl, .int r tr]) Q E s

section
variable {f ca ci cn a : Addr} {doc pm cv ctv : Value}

/-- where the body of inner begins -/
theorem enterI (S : Sit c) {A : Around} {s : Shared} {x l r : Int} {tx tl tr : Tok} {ds : List Int} {vs : List Value} {m : Nat} {Q E : Value → Shared → Prop} (hA : Room A (n + 1)) (hP : 0 < s.toks) (hJ : J c s.heap) (X : FixI c s.heap f ca ci cn a doc pm cv ctv) (ha : s.heap.get? a = some (listO vs m)) (hd : DenL s.heap (fun _ => False) (intL ds) vs)
    (h : ∀ (A' : Around) (L : Addr) (h₀ : Heap) (tn : Tok) (E' : Value → Shared → Prop), Room A' n → J c h₀ → FixI c h₀ f ca ci cn a doc pm cv ctv → Stay c s.heap h₀ → (∀ b o, s.heap.get? b = some o → h₀.get? b = some o) → s.heap.get? L = none → h₀.get? a = some (listO vs m) → TW c (WI c ca ci cn a L) →
      Rel c (WI c ca ci cn a L) (muI a L) h₀ (fiN (fdI c.w.params ca ci cn doc pm cv ctv) ntI f L) (valI (.int x tx) (.int l tl) (.int r tr) a tn) (sgI x l r ds) →
      wpAny c.M A' (execs (nestBody c.w.params 69 1) (fiN (fdI c.w.params ca ci cn doc pm cv ctv) ntI f L).env) (fun fl s' => Q (match fl with | .ret v => v | _ => .none) s') E' { s with heap := h₀, toks := s.toks + 3 }) :
    wpAny c.M A (call (.ref f) [.int x tx, .int l tl, .int r tr]) Q E s := by
  obtain ⟨o, ho, hdd⟩ := X.clo.fn
  have hL : s.heap.get? s.heap.objs.size = none := get_fresh
  refine wpAny_call (codeAny_call_def (fd := fdI c.w.params ca ci cn doc pm cv ctv) (binds := [((PySem.Str.ofString "x"), Value.int x tx), ((PySem.Str.ofString "L"), .int l tl), ((PySem.Str.ofString "R"), .int r tr)]) (Nat.lt_of_le_of_lt (Nat.le_add_right _ _) hA.depth) ho hdd (S.lim.keeps fun b o e => hJ.ext b o e) X.clo.codeRec rfl (BindsTo.of_eq (by kernel_rfl)) ?_ ?_ (fun h₀ hns hk => ?_) ?_ ?_ ?_)
  · show ∀ x ∈ (nestScope c.w.params 69 1).names, x.2 ≠ .cell
    have : (nestScope c.w.params 69 1).names.all (fun x => !(x.2 == .cell)) = true := by kernel_rfl
    exact fun x hx q => by
      have := List.all_eq_true.mp this x hx
      rw [q] at this
      cases this
  · intro y hy
    rcases List.mem_cons.mp hy with rfl | hy
    · exact names_I c.w.params 0 _ rfl (by decide)
    rcases List.mem_cons.mp hy with rfl | hy
    · exact names_I c.w.params 1 _ rfl (by decide)
    rcases List.mem_cons.mp hy with rfl | hy
    · exact names_I c.w.params 2 _ rfl (by decide)
    · cases hy
  · have J₀ : J c h₀ := hJ.all hk
    have X₀ := X.keeps (Stay.all hk)
    obtain ⟨tn, hn⟩ := X₀.xn
    have nT : ¬ c.TB s.heap.objs.size := fun q => by obtain ⟨o, e, _⟩ := hJ.tab _ q; rw [hL] at e; cases e
    have nG : c.G.get? s.heap.objs.size = none := by
      cases q : c.G.get? s.heap.objs.size with
      | none => rfl
      | some o => have := hJ.ext _ _ q; rw [hL] at this; cases this
    have R := relI (f := f) (tx := tx) (tl := tl) (tr := tr) J₀ X₀ hn nT nG (hk _ _ ha) (intL_any hd) hns
    exact h (A.deeper (callEnv (fdI c.w.params ca ci cn doc pm cv ctv) s.heap.objs.size f)) s.heap.objs.size h₀ tn _ ⟨hA.handled, by have := hA.depth; show A.depth + 1 + n < _; omega, by have := hA.units; show A.units + 3 + 20 * n + 100 < _; omega⟩ J₀ X₀ (Stay.all hk) hk hL (hk _ _ ha) (fun b q => .inl q) R
  · show (nestScope c.w.params 69 1).isCoroutine = false
    kernel_rfl
  · show (nestScope c.w.params 69 1).isGenerator = false
    kernel_rfl
  · show (nestScope c.w.params 69 1).kind = .function
    kernel_rfl
end
end Mine
end

section
open PySem PySem.W PyProof.Rows
open Sem (wp)
set_option Elab.async false
set_option linter.unusedVariables false
set_option maxRecDepth 100000
namespace Mine
variable {c : Cx} {n : Nat} {f ca ci cn a : Addr} {doc pm cv ctv : Value}

theorem setD_len : ∀ (k : Nat) (ds : List Int) (L : Nat) (x : Int), (setD ds L k x).length = ds.length
  | 0, _, _, _ => rfl
  | k + 1, ds, L, x => by rw [setD, setD_len k]; simp

theorem test_I {fi : FI} {σ : Sg} {l r : Int} {p₁ p₂ p₃ p₄ p₅ : Pos} {kk : Nat} {i j : Nat} {x y : PySem.Str} (hi : fi.nt[i]? = some x) (hj : fi.nt[j]? = some y) (h1 : σ[i]? = some (some (.im (.int l)))) (h2 : σ[j]? = some (some (.im (.int r)))) :
    SoundT c n fi σ (.Compare (.BinOp (.Name x p₁) .Add (.Constant (.int 1) kk p₂) p₃) [.Eq] [.Name y p₄] p₅) (l + 1 == r) :=
  sound_cmpT (sound_bin (sound_var hi h1) sound_int (val2_bin (op := .add) (p := .int (l + 1)) rfl)) (sound_var hj h2) (val2_eq rfl) rfl

theorem innC_one (S : Sit c) : InnC c (n + 1) f ca ci cn a doc pm cv ctv 1 := by
  intro A s x l tx tl tr r ds vs m Q E hA hP hJ X ha hd h0 h1 h2 hx0 hx1 hx2 hr k
  subst hr
  refine enterI S hA hP hJ X ha hd fun A' L h₀ tn E' hA' J₀ X₀ st₀ k₀ hL ha₀ hT R => ?_
  have hTr : (l + 1 == l + ((1 : Nat) : Int)) = true := by simp
  refine wpAny_execs_cons (wpAny_If (test_I (c := c) (n := n) (fi := fiN (fdI c.w.params ca ci cn doc pm cv ctv) ntI f L) (σ := sgI x l (l + ((1 : Nat) : Int)) ds) (l := l) (r := l + ((1 : Nat) : Int)) (i := 1) (j := 2) rfl rfl rfl rfl A' _ _ _ _ _ _ hA' (Nat.lt_of_lt_of_le hP (Nat.le_add_right _ _)) J₀ hT R fun h₁ tk₁ p₁ s₁ => ?_))
  rw [if_pos hTr]
  have R₁ := R.step hT s₁
  refine wpAny_execs_cons (wpAny_Assign_Subscript (sound_var (n := n) (i := 0) rfl rfl A' _ _ _ _ _ _ hA' p₁ s₁.j hT R₁ fun v₂ h₂ tk₂ p₂ s₂ d₂ => ?_) rfl)
  obtain ⟨t, rfl⟩ := den_int d₂
  have R₂ := R₁.step hT s₂
  refine eval_own (i := 7) (av := .own (intL ds)) R₂ rfl rfl fun o ho hav => ?_
  obtain rfl : o = .ref a := (Option.some.inj ho).symm
  refine sound_var (n := n) (i := 1) rfl rfl A' ⟨h₂, s.gens, s.drawn, tk₂, s.os⟩ _ _ _ _ _ hA' p₂ s₂.j hT R₂ fun v₃ h₃ tk₃ p₃ s₃ d₃ => ?_
  obtain ⟨t₃, rfl⟩ := den_int d₃
  have s₀₃ := (s₁.trans s₂).trans s₃
  have ha₃ : h₃.get? a = some (listO vs m) := s₀₃.kept a _ ha₀ X₀.nT
  have hlen := hd.length
  rw [List.length_map] at hlen
  refine setItem_at (s := ⟨h₃, s.gens, s.drawn, tk₃, s.os⟩) ha₃ h0 (by omega) (by simp; omega) fun h₄ m' ha₄ hs => ?_
  refine wpAny_execs_cons (wpAny_Return_none ?_)
  have J₄ : J c h₄ := s₃.j.but (X := fun b => b = a) (fun b o e nb => hs.extBut b o nb e) (fun b q => q ▸ X.nG) (fun b q => q ▸ X.nT) fun b o q z e => by
    subst z; rw [ha₃] at e; cases e; exact noCod_data (fun _ z => by cases z) q
  refine k h₄ tk₃ (vs.set l.toNat (.int x t)) m' p₃ J₄ (fun b o e nt hseq hdict => ?_) (fun b o e nb nt => hs.extBut b o nb (s₀₃.kept b o (k₀ b o e) nt)) ?_ ?_
  · have nb : b ≠ a := fun q => by rw [q, ha] at e; cases e; exact hseq _ _ rfl
    exact hs.extBut b o nb (s₀₃.kept b o (k₀ b o e) nt)
  · rw [ha₄]; simp
  · have hx : x % 4 = x := Int.emod_eq_of_lt hx0 (by simpa using hx2)
    show DenL h₄ _ (intL (ds.set l.toNat (x % 4))) _
    rw [hx, intL, List.map_set]
    exact (intL_any hd).set _ (by unfold Den; exact ⟨t, rfl⟩)
end Mine
end

section
open PySem PySem.W PyProof.Rows
open Sem (wp)
set_option Elab.async false
set_option linter.unusedVariables false
set_option maxRecDepth 100000
namespace Mine
variable {c : Cx} {n : Nat}

/-- a call of a function that stands in a cell -/
theorem call_cell {A : Around} {s : Shared} {W mu : Addr → Prop} {val : Vals} {fi : FI} {σ : Sg} {x : PySem.Str} {p pos : Pos} {i : Nat} {ci f : Addr} {fd : FuncData} {xs : List Expr} {ps : List PV} {Q E : Value → Shared → Prop} (hA : Room A n) (hP : 0 < s.toks) (hJ : J c s.heap) (hT : TW c W) (R : Rel c W mu s.heap fi val σ)
    (hx : fi.nt[i]? = some x) (hp : fi.place i = some ci) (hc : CellIs c s.heap ci (.ref f)) (hf : Clo c s.heap f fd) (hs : SoundEs c n fi σ xs ps) (hne : ps ≠ [])
    (k : ∀ vs h' tk, 0 < tk → Step c s.heap h' → DenL h' W ps vs → wpAny c.M A (call (.ref f) vs) Q E { s with heap := h', toks := tk }) : wpAny c.M A (eval (.Call (.Name x p) xs [] pos) fi.env) Q E s := by
  have hd := R.ndb i x hx
  obtain ⟨q1, _, _, q4, _⟩ := R.cel i x ci hx hp
  obtain ⟨⟨o, ho, hdat⟩, _⟩ := hc
  refine Call_Name rfl (wpAny_Name ?_ hd.1)
  have body : wpAny c.M A (callWith pos (.ref f) [] (backTo pos (starEach xs fi.env)) []) Q E s := by
    obtain ⟨of, hof, hfd⟩ := hf.fn
    refine Calls.callWith_function (o := of) (fd := fd) (hs.args hA hT hne hP hJ R fun vs h₁ tk₁ p₁ s₁ d₁ => ⟨⟨s₁.kept _ _ hof hf.nf, hfd⟩, ?_⟩)
    exact k vs h₁ tk₁ p₁ s₁ d₁
  rcases q4 with q4 | q4
  · exact wpAny_loadName_cell R.kind q4 q1 ⟨o, ho, hdat⟩ body
  · exact wpAny_loadName_free R.kind q4 q1 ⟨o, ho, hdat⟩ body hd.2

theorem xor_low : ∀ x : Nat, x < 64 → Builtin.bitXor (x : Int) ((x : Int) / 4 * 4) = (x : Int) % 4 := by decide +kernel
theorem muI_odd {a L : Addr} {h : Heap} {vs : List Value} {m : Nat} (ha : h.get? a = some (listO vs m)) {b : Addr} {o : Obj} (e : h.get? b = some o) (nb : b ≠ L) : ¬ muI a L b ∨ ¬ Odd o := by
  by_cases q : b = a
  · subst q; rw [ha] at e; cases e
    exact .inr fun q => by rcases q with ⟨_, _, q⟩ | ⟨_, q⟩ <;> cases q
  · exact .inl fun z => z.elim q nb
inductive TriAt (h : Heap) (W : Addr → Prop) (p q r : PV) (vs : List Value) : Prop where
  | mk (v u w : Value) (e : vs = [v, u, w]) (d : Den h W p v) (d' : Den h W q u) (d'' : Den h W r w) : TriAt h W p q r vs
theorem den3 {h : Heap} {W : Addr → Prop} {p q r : PV} {vs : List Value} (d : DenL h W [p, q, r] vs) : TriAt h W p q r vs := by
  obtain ⟨v, t, rfl, d1, d2⟩ := d.out
  obtain ⟨u, w, rfl, d3, d4⟩ := den2 d2
  exact ⟨v, u, w, rfl, d1, d3, d4⟩

variable {f ca ci cn a : Addr} {doc pm cv ctv : Value}

theorem innC_step (S : Sit c) {k : Nat} (hk : k = 1 ∨ k = 2) (H1 : InnC c n f ca ci cn a doc pm cv ctv 1) (Hk : InnC c n f ca ci cn a doc pm cv ctv k) : InnC c (n + 1) f ca ci cn a doc pm cv ctv (k + 1) := by
  intro A s x l tx tl tr r ds vs m Q E hA hP hJ X ha hd h0 h1 h2 hx0 hx1 hx2 hr kk
  have hk1 : 1 ≤ (k : Int) := by rcases hk with rfl | rfl <;> decide
  have hk2 : (k : Int) ≤ 2 := by rcases hk with rfl | rfl <;> decide
  have hr : r = l + k + 1 := by push_cast at hr; omega
  have h1 : l + k + 1 ≤ ds.length := by push_cast at h1; omega
  subst hr
  refine enterI S hA hP hJ X ha hd fun A' L h₀ tn E' hA' J₀ X₀ st₀ k₀ hL ha₀ hT R => ?_
  have hfi : ∀ i x, ntI[i]? = some x → i < 7 → (fiN (fdI c.w.params ca ci cn doc pm cv ctv) ntI f L).place i = none := fun i x h hi => by
    match i, hi with
    | 0, _ | 1, _ | 2, _ | 3, _ | 4, _ | 5, _ | 6, _ => rfl
  have hTr : ¬ (l + 1 == l + k + 1) = true := by simp; omega
  refine wpAny_execs_cons (wpAny_If (test_I (c := c) (n := n) (fi := fiN (fdI c.w.params ca ci cn doc pm cv ctv) ntI f L) (σ := sgI x l (l + k + 1) ds) (l := l) (r := l + k + 1) (i := 1) (j := 2) rfl rfl rfl rfl A' _ _ _ _ _ _ hA' (Nat.lt_of_lt_of_le hP (Nat.le_add_right _ _)) J₀ hT R fun h₁ tk₁ p₁ s₁ => ?_))
  rw [if_neg hTr]
  refine wpAny_execs_nil ?_
  have R₁ := R.step hT s₁
  have ha₁ : h₁.get? a = some (listO vs m) := s₁.kept a _ ha₀ X₀.nT
  -- mid
  refine set_by (s := ⟨h₁, s.gens, s.drawn, tk₁, s.os⟩) (i := 3) (p := .int (l + 1)) hA' p₁ s₁.j hT R₁ (sound_bin (sound_bin (sound_var (i := 1) rfl rfl) (sound_var (i := 2) rfl rfl) (val2_bin (op := .add) (p := .int (l + (l + k + 1))) rfl)) sound_int (val2_bin (op := .shr) (p := .int (l + 1)) ?_)) (.inr rfl) rfl rfl fun h₂ tk₂ v₂ p₂ g₂ R₂ k₂ => ?_
  · have e : (l + (l + (k : Int) + 1)) / 2 = l + 1 := by omega
    have sm : small (l + (l + (k : Int) + 1)) = true := by simp [small]; omega
    simp [binPV, oInt, sm, e]
  have ha₂ : h₂.get? a = some (listO vs m) := k₂ a _ ha₁ X₀.nT (.inr fun q => by rcases q with ⟨_, _, q⟩ | ⟨_, q⟩ <;> cases q)
  -- shift
  refine set_by (s := ⟨h₂, s.gens, s.drawn, tk₂, s.os⟩) (i := 4) (p := .int 2) hA' p₂ g₂.j hT R₂ (sound_bin (sound_bin (sound_var (i := 3) rfl rfl) (sound_var (i := 1) rfl rfl) (val2_bin (op := .sub) (p := .int (l + 1 - l)) rfl)) (sound_var (i := 9) rfl rfl) (val2_bin (op := .mul) (p := .int 2) ?_)) (.inr rfl) rfl rfl fun h₃ tk₃ v₃ p₃ g₃ R₃ k₃ => ?_
  · have e : l + 1 - l = 1 := by omega
    rw [e]; rfl
  have ha₃ : h₃.get? a = some (listO vs m) := k₃ a _ ha₂ X₀.nT (.inr fun q => by rcases q with ⟨_, _, q⟩ | ⟨_, q⟩ <;> cases q)
  -- upper
  refine set_by (s := ⟨h₃, s.gens, s.drawn, tk₃, s.os⟩) (i := 5) (p := .int (x / 4)) hA' p₃ g₃.j hT R₃ (sound_bin (sound_var (i := 0) rfl rfl) (sound_var (i := 4) rfl rfl) (val2_bin (op := .shr) (p := .int (x / 4)) ?_)) (.inr rfl) rfl rfl fun h₄ tk₄ v₄ p₄ g₄ R₄ k₄ => ?_
  · have sm : small x = true := by simp [small]; omega
    simp [binPV, oInt, sm]
  have ha₄ : h₄.get? a = some (listO vs m) := k₄ a _ ha₃ X₀.nT (.inr fun q => by rcases q with ⟨_, _, q⟩ | ⟨_, q⟩ <;> cases q)
  -- lower
  refine set_by (s := ⟨h₄, s.gens, s.drawn, tk₄, s.os⟩) (i := 6) (p := .int (x % 4)) hA' p₄ g₄.j hT R₄ (sound_bin (sound_var (i := 0) rfl rfl) (sound_bin (sound_var (i := 5) rfl rfl) (sound_var (i := 4) rfl rfl) (val2_bin (op := .shl) (p := .int (x / 4 * 4)) ?_)) ?_) (.inr rfl) rfl rfl fun h₅ tk₅ v₅ p₅ g₅ R₅ k₅ => ?_
  · have e1 : 0 ≤ x / 4 := by omega
    have e2 : x / 4 ≤ 1000 := by omega
    simp [binPV, oInt, e1, e2]
  · have : Builtin.bitXor x (x / 4 * 4) = x % 4 := by
      obtain ⟨j, rfl⟩ := Int.eq_ofNat_of_zero_le hx0
      exact xor_low j (by omega)
    rw [← this]
    exact val2_xor
  have ha₅ : h₅.get? a = some (listO vs m) := k₅ a _ ha₄ X₀.nT (.inr fun q => by rcases q with ⟨_, _, q⟩ | ⟨_, q⟩ <;> cases q)
  have K₅ : ∀ b o, s.heap.get? b = some o → ¬ c.TB b → h₅.get? b = some o := fun b o e nt => by
    have nL : b ≠ L := fun q => by rw [q, hL] at e; cases e
    have e₁ := s₁.kept b o (k₀ b o e) nt
    have e₂ := k₂ b o e₁ nt (muI_odd ha₁ e₁ nL)
    have e₃ := k₃ b o e₂ nt (muI_odd ha₂ e₂ nL)
    have e₄ := k₄ b o e₃ nt (muI_odd ha₃ e₃ nL)
    exact k₅ b o e₄ nt (muI_odd ha₄ e₄ nL)
  have X₅ : FixI c h₅ f ca ci cn a doc pm cv ctv := X.keeps fun b o e nt _ _ => K₅ b o e nt
  have lk : (fiN (fdI c.w.params ca ci cn doc pm cv ctv) ntI f L).place 8 = some ci := rfl
  -- inner(lower, L, mid)
  refine wpAny_execs_cons (wpAny_Expr ?_)
  refine call_cell (n := n) (i := 8) (s := ⟨h₅, s.gens, s.drawn, tk₅, s.os⟩) hA' p₅ g₅.j hT R₅ rfl lk X₅.xi X₅.clo (.cons (sound_var (i := 6) rfl rfl) (by intro e q h; cases h) (.cons (sound_var (i := 1) rfl rfl) (by intro e q h; cases h) (.cons (sound_var (i := 3) rfl rfl) (by intro e q h; cases h) .nil))) (by simp) fun us h₆ tk₆ p₆ s₆ d₆ => ?_
  obtain ⟨u₁, u₂, u₃, rfl, du₁, du₂, du₃⟩ := den3 d₆
  obtain ⟨t₁, rfl⟩ := den_int du₁
  obtain ⟨t₂, rfl⟩ := den_int du₂
  obtain ⟨t₃, rfl⟩ := den_int du₃
  have hlen := hd.length
  rw [List.length_map] at hlen
  have ha₆ : h₆.get? a = some (listO vs m) := s₆.kept a _ ha₅ X₀.nT
  refine H1 A' ⟨h₆, s.gens, s.drawn, tk₆, s.os⟩ (x % 4) l t₁ t₂ t₃ (l + 1) ds vs m _ _ hA' p₆ s₆.j (X₅.keeps (.step s₆)) ha₆ (intL_any hd) h0 (by push_cast; omega) h2 (by omega) (by omega) (by omega) rfl fun h₇ tk₇ vs₇ m₇ p₇ J₇ st₇ k₇ ha₇ d₇ => ?_
  show wpAny _ _ (execs _ _) _ _ _
  have R₆ := R₅.step hT s₆
  have R₇ : Rel c (WI c ca ci cn a L) (muI a L) h₇ (fiN (fdI c.w.params ca ci cn doc pm cv ctv) ntI f L) _ _ := Rel.mutateT (av' := .own (intL (setD ds l.toNat 1 (x % 4)))) R₆ hT J₇ (i := 7) rfl rfl rfl rfl (fun b o nb nt e => k₇ b o e nb nt) ⟨a, vs₇, m₇, rfl, .inl rfl, ha₇, intL_any d₇⟩
  have X₇ : FixI c h₇ f ca ci cn a doc pm cv ctv := (X₅.keeps (.step s₆)).keeps st₇
  -- inner(upper, mid, R)
  refine wpAny_execs_cons (wpAny_Expr ?_)
  refine call_cell (n := n) (i := 8) (s := ⟨h₇, s.gens, s.drawn, tk₇, s.os⟩) hA' p₇ J₇ hT R₇ rfl lk X₇.xi X₇.clo (.cons (sound_var (i := 5) rfl rfl) (by intro e q h; cases h) (.cons (sound_var (i := 3) rfl rfl) (by intro e q h; cases h) (.cons (sound_var (i := 2) rfl rfl) (by intro e q h; cases h) .nil))) (by simp) fun us h₈ tk₈ p₈ s₈ d₈ => ?_
  obtain ⟨u₁, u₂, u₃, rfl, du₁, du₂, du₃⟩ := den3 d₈
  obtain ⟨t₄, rfl⟩ := den_int du₁
  obtain ⟨t₅, rfl⟩ := den_int du₂
  obtain ⟨t₆, rfl⟩ := den_int du₃
  have ha₈ : h₈.get? a = some (listO vs₇ m₇) := s₈.kept a _ ha₇ X₀.nT
  have hx4 : x / 4 < 4 ^ k := by
    rcases hk with rfl | rfl
    · simp at hx2 ⊢; omega
    · simp at hx2 ⊢; omega
  refine Hk A' ⟨h₈, s.gens, s.drawn, tk₈, s.os⟩ (x / 4) (l + 1) t₄ t₅ t₆ (l + k + 1) (setD ds l.toNat 1 (x % 4)) vs₇ m₇ _ _ hA' p₈ s₈.j (X₇.keeps (.step s₈)) ha₈ (intL_any d₇) (by omega) (by rw [setD_len]; omega) (by rw [setD_len]; exact h2) (by omega) (by omega) hx4 (by omega) fun h₉ tk₉ vs₉ m₉ p₉ J₉ st₉ k₉ ha₉ d₉ => ?_
  show wpAny _ _ (execs _ _) _ _ _
  refine wpAny_execs_nil ?_
  refine kk h₉ tk₉ vs₉ m₉ p₉ J₉ (fun b o e nt hseq hdict => ?_) (fun b o e nb nt => ?_) ha₉ ?_
  · have nb : b ≠ a := fun q => by rw [q, ha] at e; cases e; exact hseq _ _ rfl
    exact k₉ b o (s₈.kept b o (k₇ b o (s₆.kept b o (K₅ b o e nt) nt) nb nt) nt) nb nt
  · exact k₉ b o (s₈.kept b o (k₇ b o (s₆.kept b o (K₅ b o e nt) nt) nb nt) nt) nb nt
  · have e1 : setD ds l.toNat (k + 1) x = setD (setD ds l.toNat 1 (x % 4)) (l + 1).toNat k (x / 4) := by
      have e2 : (l + 1).toNat = l.toNat + 1 := by omega
      rw [e2]
      show setD (ds.set l.toNat (x % 4)) (l.toNat + 1) k (x / 4) = setD (ds.set l.toNat (x % 4 % 4)) (l.toNat + 1) k (x / 4)
      rw [Int.emod_emod_of_dvd x (Int.dvd_refl 4)]
    rw [e1]
    exact d₉
end Mine
end

section
open PySem PySem.W PyProof.Rows
open Sem (wp)
set_option Elab.async false
set_option linter.unusedVariables false
set_option maxRecDepth 100000
namespace Mine
variable {c : Cx} {n : Nat}

/-- a code table: nothing in it, or the one code object -/
noncomputable def TabForm (p : Pos) (o : Obj) : Prop := o = tabObj #[] ∨ ∃ x, o = tabObj #[rawInt p.line, rawInt p.col, .ref x]
theorem TabForm.noCod {p : Pos} {o : Obj} (h : TabForm p o) : ∀ q, ¬ CodQ q o := by
  rcases h with rfl | ⟨x, rfl⟩
  · exact noCod_fields rfl fun q t e => by simp at e
  · exact noCod_fields rfl fun q t e => by simp [rawInt] at e

structure Sit2 (c : Cx) : Prop extends Sit c where
  bm : ∃ mg bm ob, c.G.Ns mainGlobals mg ∧ mg "__builtins__" = some (.ref bm) ∧ bm ≠ builtinsNs ∧ c.G.get? bm = some ob ∧ ob.cls = .type "module" ∧ ob.dict = some builtinsNs ∧ ob.data = .plain
  tb : ∀ b, c.TB b ↔ b = 64 ∨ b = 71
  t1 : ∀ o, c.Tab 64 o ↔ TabForm (nestPos c.w.params 69 1) o
  t2 : ∀ o, c.Tab 71 o ↔ TabForm (nestPos c.w.params 76 0) o
  q1 : c.Qn 64 = PySem.Str.ofString "_int2digits.<locals>.inner"
  q2 : c.Qn 71 = PySem.Str.ofString "_digits2int.<locals>.inner"
  g1 : c.G.get? 64 = none
  g2 : c.G.get? 71 = none

theorem Sit2.form (S : Sit2 c) {b : Addr} {o : Obj} (hb : c.TB b) (h : c.Tab b o) : ∀ q, ¬ CodQ q o := by
  rcases (S.tb b).mp hb with rfl | rfl
  · exact ((S.t1 o).mp h).noCod
  · exact ((S.t2 o).mp h).noCod

/-- a def within a def: the function is made, its code object once -/
theorem make_fun (S : Sit2 c) {A : Around} {s : Shared} {E : Value → Shared → Prop} {Q : Value → Shared → Prop} {name qual : PySem.Str} {params : Arguments} {body : List Stmt} {scope : Scope} {env : Env} {cd P : Addr} {pos : Pos} {fl : Nat} {clos : List (PySem.Str × Addr)} (hP : 0 < s.toks) (hJ : J c s.heap)
    (hTB : c.TB P) (hG : c.G.get? P = none) (hform : ∀ o, c.Tab P o ↔ TabForm pos o) (hq : c.Qn P = qual) (C : CodeHd c.G cd P) (hcl : closureFor scope env = pure clos) (hge0 : env.globals = mainGlobals) (hcode : env.code = .ref cd) {fdx : Value → Value → Value → Value → FuncData} (he : ∀ doc pm cv ctv, fnX name qual params body scope clos .none .none doc pm none cv ctv = fdx doc pm cv ctv)
    (k : ∀ f doc pm cv ctv h' tk, 0 < tk → Step c s.heap h' → s.heap.get? f = none → Clo c h' f (fdx doc pm cv ctv) → Q (.ref f) { s with heap := h', toks := tk }) :
    wpAny c.M A (makeFunction name qual params (.stmts body) scope env [] [] [] pos fl) Q E s := by
  have k : ∀ f doc pm cv ctv h' tk, 0 < tk → Step c s.heap h' → s.heap.get? f = none → Clo c h' f (fnX name qual params body scope clos .none .none doc pm none cv ctv) → Q (.ref f) { s with heap := h', toks := tk } :=
    fun f doc pm cv ctv h' tk hp st hn x => k f doc pm cv ctv h' tk hp st hn (he doc pm cv ctv ▸ x)
  obtain ⟨mg, bm, ob, b1, b2, b3, b4, b5, b6, b7⟩ := S.bm
  have hbP : bm ≠ P := fun q => by rw [q, hG] at b4; cases b4
  have hgP : mainGlobals ≠ P := fun q => by
    obtain ⟨o, _, _, e, _⟩ := b1
    rw [q, hG] at e; cases e
  have hbG : bm ≠ mainGlobals := fun q => by
    obtain ⟨o, es, ep, e, hd, _⟩ := b1
    rw [q, e] at b4; cases b4; rw [hd] at b7; cases b7
  have kp : ∀ b o, c.G.get? b = some o → s.heap.get? b = some o := hJ.ext
  have hg : s.heap.Ns mainGlobals mg := b1.keeps kp
  have hb : s.heap.BuiltinsAt mg P := ⟨bm, ob, b2, b3, hbG, hbP, kp _ _ b4, b5, b6, b7⟩
  have C' : CodeHd s.heap cd P := C.keeps kp
  obtain ⟨o, ho, ht⟩ := hJ.tab P hTB
  have noP : ∀ x o' q, s.heap.get? x = some o' → CodQ q o' → x ≠ P := fun x o' q e hc z => by
    rw [z, ho] at e; cases e
    exact ((hform o).mp ht).noCod q hc
  have nTc : ∀ x o' q, s.heap.get? x = some o' → CodQ q o' → ¬ c.TB x := fun x o' q e hc z => by
    obtain ⟨o₁, e₁, t₁⟩ := hJ.tab x z
    rw [e₁] at e; cases e
    exact S.form z t₁ q hc
  rcases (hform o).mp ht with rfl | ⟨x, rfl⟩
  · refine lift hP (makeFunction_K (mg := mg) (ps := #[]) hcl hge0 hg hcode C' ho trivial rfl hgP hb fun c' ctv doc h' tk hx hge hlt hrec htb hp => ?_)
    have fresh : ∀ b, s.heap.objs.size ≤ b → s.heap.get? b = none := fun b hb => Heap.get?_none_of_le hb
    have kk : ∀ b o, b ≠ P → s.heap.get? b = some o → (h'.push (fnMade name qual params body scope clos doc ((mg "__name__").getD .none) c' ctv)).get? b = some o := fun b o nb e => Heap.get?_push_of_some _ (hx b o nb e)
    have hsz : s.heap.objs.size ≤ h'.objs.size := Nat.le_trans hge (Nat.le_of_lt hlt)
    obtain ⟨c₂, oc, vs, t, e2, hoc, hd, hv⟩ := hrec
    cases e2
    have nTn : ∀ b, s.heap.get? b = none → ¬ c.TB b := fun b e z => by obtain ⟨o, e', _⟩ := hJ.tab b z; rw [e] at e'; cases e'
    refine k _ doc _ (.ref c') ctv _ tk hp ⟨fun b o e nt => kk b o (fun q => nt (q ▸ hTB)) e, ⟨fun b o e => kk b o (fun q => by rw [q, hG] at e; cases e) (kp b o e), fun b hb => ?_, fun b o ps y hb e hdat hm => ?_⟩⟩ (fresh _ hsz) ⟨⟨_, Heap.get?_push_size _ rfl, rfl⟩, ⟨c', oc, rfl, Heap.get?_push_of_some _ hoc, ⟨vs, t, hd, hv⟩, nTn _ (fresh _ hge)⟩, nTn _ (fresh _ hsz)⟩
    · by_cases q : b = P
      · subst q
        exact ⟨_, Heap.get?_push_of_some _ htb, (hform _).mpr (.inr ⟨c', rfl⟩)⟩
      · obtain ⟨o, e, t⟩ := hJ.tab b hb
        exact ⟨o, kk b o q e, t⟩
    · by_cases q : b = P
      · subst q
        rw [Heap.get?_push_of_some _ htb] at e
        cases e; cases hdat
        have : y = c' := by
          simp [rawInt] at hm
          exact hm
        subst this
        exact ⟨oc, Heap.get?_push_of_some _ hoc, ⟨vs, t, hd, hq ▸ hv⟩⟩
      · obtain ⟨o₁, e₁, _⟩ := hJ.tab b hb
        rw [kk b o₁ q e₁] at e; cases e
        obtain ⟨o', e', hc⟩ := hJ.cod b o ps y hb e₁ hdat hm
        exact ⟨o', kk y o' (noP y o' _ e' hc) e', hc⟩
  · refine lift hP (makeFunction_hit (mg := mg) (cv := .ref x) hcl hge0 hg hcode C' ho trivial (by simp [codeAmong, rawInt]) hb fun ctv doc h' tk hk hsz hp => ?_)
    obtain ⟨o', e', hc⟩ := hJ.cod P _ _ x hTB ho rfl (by simp [rawInt])
    have kk : ∀ b o, s.heap.get? b = some o → (h'.push { cls := .type "function", data := .func (fnX name qual params body scope clos .none .none doc ((mg "__name__").getD .none) none (.ref x) ctv) }).get? b = some o := fun b o e => Heap.get?_push_of_some _ (hk b o e)
    have fresh : s.heap.get? h'.objs.size = none := Heap.get?_none_of_le hsz
    refine k _ doc _ (.ref x) ctv _ tk hp (.all hJ kk) fresh ⟨⟨_, Heap.get?_push_size _ rfl, rfl⟩, ⟨x, o', rfl, kk _ _ e', hq ▸ hc, nTc x o' _ e' hc⟩, fun z => ?_⟩
    obtain ⟨o, e, _⟩ := hJ.tab _ z
    rw [fresh] at e; cases e

/-- a name's cell takes a function -/
theorem store_fn {A : Around} {s : Shared} {W mu : Addr → Prop} {val : Vals} {fi : FI} {σ : Sg} {i : Nat} {x : PySem.Str} {a : Addr} {v : Value} {Q : Unit → Shared → Prop} {E : Value → Shared → Prop} (hJ : J c s.heap) (R : Rel c W mu s.heap fi val σ) (hcap : fi.capt = false) (hx : fi.nt[i]? = some x) (hp : fi.place i = some a) (hv : val i = none)
    (k : ∀ h', J c h' → Rel c W mu h' fi val σ → CellIs c h' a v → (∀ b o, b ≠ a → s.heap.get? b = some o → h'.get? b = some o) → Q () { s with heap := h' }) : wpAny c.M A (storeName fi.env x v) Q E s := by
  obtain ⟨h1, h2, h3, _, o, ov, ho, hd, h5⟩ := R.cel i x a hx hp
  obtain ⟨hmu, hkd⟩ := R.cmu hcap i x a hx hp
  refine wpAny_storeName_cell R.kind hkd h1 ⟨o, ho, hd⟩ (fun h' hc' hs' => ?_)
  obtain ⟨o', ho', hd'⟩ := hc'
  have kk : ∀ b o, b ≠ a → s.heap.get? b = some o → h'.get? b = some o := fun b o nb e => hs'.extBut b o nb e
  have hodd : Odd o := .inr ⟨ov, hd⟩
  have hav : ∀ {bv : AV} {u : Value}, AVat s.heap W mu bv u → AVat h' W mu bv u := fun z => z.but ho hodd (R.muW _ hmu) kk
  have hJ' : J c h' := hJ.but (X := fun b => b = a) (fun b o nb e => kk b o e nb) (fun b q => q ▸ R.muG _ hmu) (fun b q => q ▸ R.muT _ hmu) fun b o₁ q z e => by subst z; rw [ho] at e; cases e; exact noCod_odd hodd q
  have hne : fi.env.locals ≠ a := fun q => by
    obtain ⟨_, ⟨ol, es, ep, hol, hdl, _⟩, _⟩ := R.loc
    rw [q, ho] at hol; cases hol; rw [hd] at hdl; cases hdl
  refine k h' hJ' { R with
    wex := fun b hb => by
      obtain ⟨o₂, e⟩ := R.wex b hb
      by_cases q : b = a
      · subst q; exact ⟨o', ho'⟩
      · exact ⟨o₂, kk b o₂ q e⟩
    loc := by
      obtain ⟨m, hn, q⟩ := R.loc
      exact ⟨m, hn.sameBut hs' hne, q⟩
    cel := fun j y b f1 f2 => by
      obtain ⟨q1, q2, q3, q4, o₂, ov₂, q5, q6, q7⟩ := R.cel j y b f1 f2
      by_cases q : b = a
      · subst q
        have : j = i := R.celd j i b f2 hp
        subst this
        exact ⟨q1, q2, q3, q4, o', _, ho', hd', fun u hu => by rw [hv] at hu; cases hu⟩
      · exact ⟨q1, q2, q3, q4, o₂, ov₂, kk b o₂ q q5, q6, q7⟩
    vals := fun j av e => by
      obtain ⟨y, u, g1, g2, g3⟩ := R.vals j av e
      exact ⟨y, u, g1, g2, hav g3⟩ } ⟨⟨o', ho', hd'⟩, h3⟩ kk

theorem truth_int {i : Int} : Truth c n (.int i) (i != 0) := fun A s W x Q E hA hP hJ d k => by
  obtain ⟨t, rfl⟩ := den_int d
  exact truthy_int (k s.heap s.toks hP (.refl hJ))
theorem truth_lst {l : List PV} (hl : l.length ≤ 100000) : Truth c n (.lst l) (!l.isEmpty) := fun A s W x Q E hA hP hJ d k => by
  obtain ⟨a, vs, m, rfl, wa, ga, da⟩ := den_lst d
  have hlen := da.length
  refine wpAny_truthy_list (isList_of ga) (by simp; omega) ?_
  have : (!l.isEmpty) = !vs.toArray.isEmpty := by
    cases l with
    | nil => rw [da.out0]; rfl
    | cons p r => obtain ⟨v, u, rfl, _⟩ := da.out; simp
  rw [← this]
  exact k s.heap _ (Nat.succ_pos _) (.refl hJ)
theorem meth_bits {i : Int} : MethOK c n (PySem.Str.ofString "bit_length") (.int i) [] (.int (Builtin.Int.intBits i)) :=
  ⟨"int", "int.bit_length", F.plainAttrs_int, F.slot_int_bit_length, F.type_int_bit_length, fun s W x d => by obtain ⟨t, rfl⟩ := den_int d; exact ⟨typeIs_int _ _ _, fun _ e => nomatch e⟩,
    fun A s W x vs Q E hA hP hJ hT hW dx dl k => by
      rw [dl.out0]
      obtain ⟨t, rfl⟩ := den_int dx
      exact call_int_bit_length (k.int hJ (Nat.succ_pos _))⟩

/-- len(x), x a list of its own -/
theorem sound_lenOwn {fi : FI} {σ : Sg} {x y : PySem.Str} {p q pos : Pos} {i : Nat} {l : List PV} (hg : Glob c x (.builtin "len")) (hk : fi.env.kindOf x = some .globalImplicit) (hy : fi.nt[i]? = some y) (hi : σ[i]? = some (some (.own l))) (hf : l.length ≤ 100000) :
    SoundE c n fi σ (.Call (.Name x p) [.Name y q] [] pos) (.int l.length) :=
  fun A s W mu val Q E hA hP hJ hT hR k => by
    refine Call_Name rfl (hg A s _ p _ _ hJ hR.kind hk hR.gl hR.bl ?_)
    refine Calls.callWith_builtin rfl (Calls.evalArgs_plain (Calls.spliced_cons (eval_own hR hy hi fun v hv hav => Calls.spliced_nil ?_)))
    obtain ⟨a, vs, m, rfl, hmu, hg', hd⟩ := own_list hav
    have hl := hd.length
    refine PySem.Calls.call_len_list (isList_of hg') (by simp; omega) ?_
    simp only [List.size_toArray, hl]
    exact k.int hJ (Nat.succ_pos _)
end Mine
end

section
open PySem PySem.W PyProof.Rows
open Sem (wp)
set_option Elab.async false
set_option linter.unusedVariables false
set_option maxRecDepth 100000
namespace Mine
variable {c : Cx} {n : Nat}

noncomputable def nt3 : List PySem.Str := ["a", "n", "a_digits", "inner"]
theorem fun3 (S : Sit c) : Fun c 69 (fdAt c.w.params 69) (bodyAt c.w.params 69) nt3 2 :=
  mkFun (cd := 68) S (by kernel_rfl) (by kernel_rfl) (by kernel_rfl) (by kernel_rfl) (by kernel_rfl) (fun vals h => by obtain ⟨a, b, rfl⟩ := on2 h; kernel_rfl)
theorem hd68 (S : Sit c) : CodeHd c.G 68 64 := codeHd_of_K S.K (by kernel_rfl)
theorem code69 (P : Params) : (fdAt P 69).code = .ref 68 := by kernel_rfl

/-- how many figures to the base 4 -/
noncomputable def nfig (x : Int) : Nat := (Builtin.Int.intBits x + 1) / 2
noncomputable def figs (x : Int) : List Int := setD (List.replicate (nfig x) 0) 0 (nfig x) x
theorem nfig_le : ∀ x : Nat, x < 64 → nfig (x : Int) ≤ 3 ∧ (x : Int) < 4 ^ nfig (x : Int) ∧ (x ≠ 0 → 1 ≤ nfig (x : Int)) ∧ (x = 0 → nfig (x : Int) = 0) := by decide +kernel

theorem InnC.up {f ca ci cn a : Addr} {doc pm cv ctv : Value} {k : Nat} (h : InnC c n f ca ci cn a doc pm cv ctv k) : InnC c (n + 1) f ca ci cn a doc pm cv ctv k := fun A s x l tx tl tr r ds vs m Q E hA => h A s x l tx tl tr r ds vs m Q E (hA.le (Nat.le_succ n))
theorem innC_all (S : Sit c) {f ca ci cn a : Addr} {doc pm cv ctv : Value} {k : Nat} (h1 : 1 ≤ k) (h3 : k ≤ 3) : InnC c (n + 3) f ca ci cn a doc pm cv ctv k := by
  have c1 : ∀ m, InnC c (m + 1) f ca ci cn a doc pm cv ctv 1 := fun m => innC_one S
  have c2 : InnC c (n + 2) f ca ci cn a doc pm cv ctv 2 := innC_step S (.inl rfl) (c1 n) (c1 n)
  have c3 : InnC c (n + 3) f ca ci cn a doc pm cv ctv 3 := innC_step S (.inr rfl) (c1 (n + 1)) c2
  match k, h1, h3 with
  | 1, _, _ => exact c1 _
  | 2, _, _ => exact c2.up
  | 3, _, _ => exact c3

set_option maxHeartbeats 4000000 in
theorem i2d (S : Sit2 c) {x : Int} (h0 : 0 ≤ x) (h1 : x < 64) : FnOK c (n + 4) 69 [.int x, .int 2] (.lst (intL (figs x))) := by
  intro A s W vs Q E hA hP hJ hT hW d k
  have F := fun3 S.toSit
  obtain ⟨v₁, v₂, rfl, dv₁, dv₂⟩ := den2 d
  obtain ⟨t₁, rfl⟩ := den_int dv₁
  obtain ⟨t₂, rfl⟩ := den_int dv₂
  refine F.go (t₀ := 0) hA hP hJ hT hW d rfl fun hs ts hP₁ keep J₁ hA' hTw R => ?_
  generalize hLL : s.heap.objs.size = L at *
  have pl0 : (fiF (fdAt c.w.params 69) 69 nt3 L).place 0 = none := by kernel_rfl
  have pl1 : (fiF (fdAt c.w.params 69) 69 nt3 L).place 1 = some (L + 1) := by kernel_rfl
  have pl2 : (fiF (fdAt c.w.params 69) 69 nt3 L).place 2 = some (L + 2) := by kernel_rfl
  have pl3 : (fiF (fdAt c.w.params 69) 69 nt3 L).place 3 = some (L + 3) := by kernel_rfl
  obtain ⟨j, rfl⟩ := Int.eq_ofNat_of_zero_le h0
  have hj : j < 64 := by omega
  obtain ⟨f1, f2, f3, f4⟩ := nfig_le j hj
  generalize hk : nfig (j : Int) = nk at *
  -- a_digits = [0] * ((a.bit_length() + n - 1) // n)
  refine wpAny_execs_cons (wpAny_Assign_Name (wpAny_BinOp (sound_lst (n := n + 3) (.cons sound_int (by intro e q h; cases h) .nil) (by decide) _ _ _ _ _ _ _ hA' hP₁ J₁ hTw R fun v₁ h₁ tk₁ p₁ s₁ d₁ => ?_)) rfl)
  have R₁ := R.step hTw s₁
  obtain ⟨l₀, us, m₀, rfl, wl, gl, dl⟩ := den_lst d₁
  obtain ⟨u₀, rfl, du₀⟩ := den1 dl
  obtain ⟨t₀, rfl⟩ := den_int du₀
  refine sound_bin (n := n + 3) (p := .int nk) (sound_bin (sound_bin (sound_meth (sound_var (i := 0) rfl rfl) .nil meth_bits (fun _ _ => rfl) rfl (by decide)) (sound_var (i := 1) rfl rfl) (val2_bin (op := .add) (p := .int (Builtin.Int.intBits j + 2)) rfl)) sound_int (val2_bin (op := .sub) (p := .int (Builtin.Int.intBits j + 2 - 1)) rfl)) (sound_var (i := 1) rfl rfl) (val2_bin (op := .fdiv) (p := .int nk) ?_)
    _ ⟨h₁, s.gens, s.drawn, tk₁, s.os⟩ _ _ _ _ _ hA' p₁ s₁.j hTw R₁ fun v₂ h₂ tk₂ p₂ s₂ d₂ => ?_
  · have e : ((Builtin.Int.intBits (j : Int) : Nat) : Int) + 2 - 1 = ((Builtin.Int.intBits (j : Int) + 1 : Nat) : Int) := by omega
    have e2 : ((Builtin.Int.intBits (j : Int) + 1 : Nat) : Int) / 2 = (nk : Int) := by rw [← hk]; unfold nfig; omega
    rw [e]
    simp only [binPV, oInt, e2]
    rfl
  obtain ⟨t₃, rfl⟩ := den_int d₂
  have gl₂ : h₂.get? l₀ = some (listO [.int 0 t₀] m₀) := s₂.kept _ _ gl fun q => wl (hTw _ q)
  refine mul_list_any (items := #[.int 0 t₀]) gl₂ (by omega) (by omega) (by simp; omega) ?_
  have hfl : List.foldl (fun x1 x2 => x1 ++ x2) #[] (List.replicate (if (#[Value.int 0 t₀] : Array Value).isEmpty = true then 0 else ((nk : Int)).toNat) #[Value.int 0 t₀]) = (List.replicate nk [Value.int 0 t₀]).flatten.toArray := by
    have := foldl_rep [Value.int 0 t₀] nk #[]
    simpa using this
  rw [hfl]
  generalize hus : (List.replicate nk [Value.int 0 t₀]).flatten = us
  have dus : ∀ (h : Heap) (W : Addr → Prop), DenL h W (intL (List.replicate nk 0)) us := fun h W => by
    have d0 : DenL h W [PV.int 0] [.int 0 t₀] := DenL.cons (by unfold Den; exact ⟨_, rfl⟩) DenL.nil
    have := d0.replicate nk
    rw [hus, List.flatten_replicate_singleton] at this
    simpa [intL] using this
  have hn₂ : h₂.get? h₂.objs.size = none := get_fresh
  generalize ha : h₂.objs.size = a at *
  have ga : (h₂.push (listO us 0)).get? a = some (listO us 0) := by rw [← ha]; exact Heap.get?_push_size _ rfl
  obtain ⟨R₃, g₃⟩ := Rel.grow (h' := h₂.push (listO us 0)) (R₁.step hTw s₂) s₂.j hTw (fun b o e => Heap.get?_push_of_some _ e) hn₂ ⟨_, ga⟩
  refine store_any (s := ⟨h₂.push (listO us 0), s.gens, s.drawn, tk₂, s.os⟩) p₂ g₃.j R₃ (.inl rfl) (i := 2) rfl (av := .own (intL (List.replicate nk 0))) ⟨_, us, 0, rfl, .inr rfl, ga, dus _ _⟩ (fun _ j bv a' hj e1 e2 e3 q => ?_) fun h₄ tk₄ p₄ g₄ R₄ kp₄ => ?_
  · cases q
    obtain ⟨y, u, f1, f2, f3⟩ := (R₁.step hTw s₂).vals j bv e1
    rw [e3] at f2; cases f2
    cases bv with
    | im p => cases e2
    | own l => obtain ⟨b, vs', m, f4, _, f5, _⟩ := f3; cases f4; rw [hn₂] at f5; cases f5
    | ownb l => obtain ⟨b, m, f4, _, f5⟩ := f3; cases f4; rw [hn₂] at f5; cases f5
  have na : s.heap.get? a = none := by
    cases q : s.heap.get? a with
    | none => rfl
    | some o =>
      obtain ⟨o₁, e₁⟩ := s₁.ex (keep a o q)
      obtain ⟨o₂, e₂⟩ := s₂.ex e₁
      rw [hn₂] at e₂; cases e₂
  have K₄ : ∀ b o, s.heap.get? b = some o → ¬ c.TB b → h₄.get? b = some o := fun b o e nt =>
    kp₄ b o (.inl fun q => q.elim (fun q => by rw [q.1] at e; cases e) fun q => by rw [q, na] at e; cases e) (Heap.get?_push_of_some _ (s₂.kept b o (s₁.kept b o (keep b o e) nt) nt))
  have ga₄ : h₄.get? a = some (listO us 0) := kp₄ a _ (.inr fun q => by rcases q with ⟨_, _, q⟩ | ⟨_, q⟩ <;> cases q) ga
  have hT₄ : TW c (add1 (fun b => W b ∨ (s.heap.get? b = none ∧ ∃ o, hs.get? b = some o)) a) := fun b q => .inl (hTw b q)
  obtain ⟨_, _, nT1, _, o1, ov1, e1, d1', q1⟩ := R₄.cel 1 _ (L + 1) rfl pl1
  have q1 := q1 (.int 2 t₂) rfl
  subst q1
  obtain ⟨_, _, nT2, _, o2, ov2, e2, d2', q2⟩ := R₄.cel 2 _ (L + 2) rfl pl2
  have q2 := q2 (.ref a) rfl
  subst q2
  have c1 : CellIs c h₄ (L + 1) (.int 2 t₂) := ⟨⟨o1, e1, d1'⟩, nT1⟩
  have c2 : CellIs c h₄ (L + 2) (.ref a) := ⟨⟨o2, e2, d2'⟩, nT2⟩
  have nTa : ¬ c.TB a := R₄.muT a (.inr rfl)
  have nGa : c.G.get? a = none := R₄.muG a (.inr rfl)
  -- def inner
  refine wpAny_execs_cons (nestDef_K rfl rfl rfl (make_fun S (P := 64) (cd := 68) (clos := clI (L + 2) (L + 3) (L + 1)) (s := ⟨h₄, s.gens, s.drawn, tk₄, s.os⟩) p₄ g₄.j ((S.tb _).mpr (.inl rfl)) S.g1 S.t1 (S.q1.trans (by kernel_rfl)) (hd68 S.toSit) (by rfl) rfl (code69 c.w.params) (fdx := fdI c.w.params (L + 2) (L + 3) (L + 1)) (fun _ _ _ _ => by kernel_rfl) fun f doc pm cv ctv h₅ tk₅ p₅ s₅ nf clo => ?_))
  refine store_fn (s := ⟨h₅, s.gens, s.drawn, tk₅, s.os⟩) (i := 3) s₅.j (R₄.step hT₄ s₅) rfl rfl pl3 rfl fun h₆ J₆ R₆ c3 kp₆ => ?_
  have hfr : ∀ b, L ≤ b → s.heap.get? b = none := fun b hb => Heap.get?_none_of_le (hLL ▸ hb)
  have R₅ := R₄.step hT₄ s₅
  obtain ⟨_, _, _, _, o3, ov3, e3, d3', _⟩ := R₅.cel 3 _ (L + 3) rfl pl3
  have ne3 : ∀ b o, h₅.get? b = some o → (∀ v, o.data ≠ .cell v) → b ≠ L + 3 := fun b o e hn q => by
    rw [q, e3] at e; cases e; exact hn _ d3'
  have ga₅ : h₅.get? a = some (listO us 0) := s₅.kept a _ ga₄ nTa
  have ga₆ : h₆.get? a = some (listO us 0) := kp₆ a _ (ne3 a _ ga₅ fun _ q => by cases q) ga₅
  have K₆ : ∀ b o, s.heap.get? b = some o → ¬ c.TB b → h₆.get? b = some o := fun b o e nt =>
    kp₆ b o (fun q => by rw [q, hfr _ (Nat.le_add_right _ _)] at e; cases e) (s₅.kept b o (K₄ b o e nt) nt)
  have clo₆ := clo.kp fun b o e hn => kp₆ b o (ne3 b o e hn) e
  have lt : ∀ i j : Nat, i ≠ j → L + i ≠ L + j := fun i j h q => h (Nat.add_left_cancel q)
  have X₆ : FixI c h₆ f (L + 2) (L + 3) (L + 1) a doc pm cv ctv := {
    clo := clo₆
    xa := ⟨⟨o2, kp₆ _ _ (lt 2 3 (by decide)) (s₅.kept _ _ e2 nT2), d2'⟩, nT2⟩
    xi := c3
    xn := ⟨t₂, ⟨o1, kp₆ _ _ (lt 1 3 (by decide)) (s₅.kept _ _ e1 nT1), d1'⟩, nT1⟩
    d1 := lt 2 3 (by decide)
    d2 := lt 2 1 (by decide)
    d3 := lt 3 1 (by decide)
    nT := nTa
    nG := nGa }
  have nWa : ¬ W a := fun q => by obtain ⟨o, e⟩ := hW a q; rw [na] at e; cases e
  refine wpAny_execs_cons (wpAny_If (soundT_plain (n := n + 3) (sound_var (i := 0) rfl rfl) (truth_int (i := (j : Int))) (fun _ _ => rfl) _ ⟨h₆, s.gens, s.drawn, tk₅, s.os⟩ _ _ _ _ _ hA' p₅ J₆ hT₄ R₆ fun h₇ tk₇ p₇ s₇ => ?_))
  have R₇ := R₆.step hT₄ s₇
  have ga₇ : h₇.get? a = some (listO us 0) := s₇.kept a _ ga₆ nTa
  have X₇ := X₆.keeps (.step s₇)
  by_cases hz : j = 0
  · have hz' : (((j : Nat) : Int) != 0) = false := by rw [hz]; rfl
    rw [hz', if_neg Bool.false_ne_true]
    refine wpAny_execs_nil (wpAny_execs_cons (wpAny_Return_some (eval_own (i := 2) (s := ⟨h₇, s.gens, s.drawn, tk₇, s.os⟩) R₇ rfl rfl fun v hv hav => ?_)))
    obtain rfl : v = .ref a := (Option.some.inj hv).symm
    refine k (.ref a) h₇ tk₇ p₇ ⟨fun b o e nt => s₇.kept b o (K₆ b o e nt) nt, s₇.j⟩ ?_
    have hfg : figs (j : Int) = List.replicate nk 0 := by
      unfold figs
      rw [hk, f4 hz]; rfl
    rw [hfg]
    unfold Den
    exact ⟨a, us, 0, rfl, nWa, ga₇, dus _ _⟩
  · have hz' : (((j : Nat) : Int) != 0) = true := by simp [hz]
    rw [hz', if_pos rfl]
    have hlen : (List.replicate nk (0 : Int)).length = nk := List.length_replicate
    refine wpAny_execs_cons (wpAny_Expr ?_)
    refine call_cell (n := n + 3) (i := 3) (s := ⟨h₇, s.gens, s.drawn, tk₇, s.os⟩) hA' p₇ s₇.j hT₄ R₇ rfl pl3 X₇.xi X₇.clo (.cons (sound_var (i := 0) rfl rfl) (by intro e q h; cases h) (.cons sound_int (by intro e q h; cases h) (.cons (sound_lenOwn (i := 2) (S.toSit.gl _ _ rfl) (by kernel_rfl) rfl rfl (by simp [intL]; omega)) (by intro e q h; cases h) .nil))) (by simp) fun ws h₈ tk₈ p₈ s₈ d₈ => ?_
    obtain ⟨w₁, w₂, w₃, rfl, dw₁, dw₂, dw₃⟩ := den3 d₈
    obtain ⟨r₁, rfl⟩ := den_int dw₁
    obtain ⟨r₂, rfl⟩ := den_int dw₂
    obtain ⟨r₃, rfl⟩ := den_int dw₃
    have ga₈ : h₈.get? a = some (listO us 0) := s₈.kept a _ ga₇ nTa
    refine innC_all S.toSit (f3 hz) f1 _ ⟨h₈, s.gens, s.drawn, tk₈, s.os⟩ j 0 r₁ r₂ r₃ _ (List.replicate nk 0) us 0 _ _ hA' p₈ s₈.j (X₇.keeps (.step s₈)) ga₈ (dus _ _) (by omega) (by rw [hlen]; omega) (by rw [hlen]; omega) h0 h1 f2 (by simp [intL]) fun h₉ tk₉ us₉ m₉ p₉ J₉ st₉ k₉ ga₉ d₉ => ?_
    show wpAny _ _ (execs _ _) _ _ _
    have R₈ := R₇.step hT₄ s₈
    have R₉ := Rel.mutateT (i := 2) (av' := .own (intL (setD (List.replicate nk 0) (0 : Int).toNat nk j))) R₈ hT₄ J₉ rfl rfl rfl rfl (fun b o nb nt e => k₉ b o e nb nt) ⟨a, us₉, m₉, rfl, .inr rfl, ga₉, intL_any d₉⟩
    refine wpAny_execs_nil (wpAny_execs_cons (wpAny_Return_some (eval_own (i := 2) (s := ⟨h₉, s.gens, s.drawn, tk₉, s.os⟩) R₉ rfl rfl fun v hv hav => ?_)))
    obtain rfl : v = .ref a := (Option.some.inj hv).symm
    refine k (.ref a) h₉ tk₉ p₉ ⟨fun b o e nt => k₉ b o (s₈.kept b o (s₇.kept b o (K₆ b o e nt) nt) nt) (fun q => by rw [q, na] at e; cases e) nt, J₉⟩ ?_
    have hfg : figs (j : Int) = setD (List.replicate nk 0) (0 : Int).toNat nk j := by
      unfold figs
      rw [hk]; rfl
    rw [hfg]
    unfold Den
    exact ⟨a, us₉, m₉, rfl, nWa, ga₉, intL_any d₉⟩
end Mine
end

section
open PySem PySem.W PyProof.Rows
open Sem (wp)
set_option Elab.async false
set_option linter.unusedVariables false
set_option maxRecDepth 100000
namespace Mine
variable {c : Cx} {n : Nat}

/-! ## inner of _digits2int -/
noncomputable def ntD : List PySem.Str := ["L", "R", "mid", "shift", "digits", "inner", "n"]
noncomputable def clD (cd ci cn : Addr) : List (PySem.Str × Addr) := [("n", cn), ("inner", ci), ("digits", cd)]
noncomputable abbrev fdD (P : Params) (cd ci cn : Addr) (doc pm cv ctv : Value) : FuncData := fdN P 76 0 (PySem.Str.ofString "_digits2int.<locals>.inner") (clD cd ci cn) doc pm cv ctv

structure FixD (c : Cx) (h : Heap) (W : Addr → Prop) (f cd ci cn : Addr) (doc pm cv ctv : Value) (v : Value) (ds : List Int) : Prop where
  clo : Clo c h f (fdD c.w.params cd ci cn doc pm cv ctv)
  xd : CellIs c h cd v
  xi : CellIs c h ci (.ref f)
  xn : ∃ t, CellIs c h cn (.int 1 t)
  wd : W cd
  wi : W ci
  wn : W cn
  d1 : cd ≠ ci
  d2 : cd ≠ cn
  d3 : ci ≠ cn
  den : Den h W (.lst (intL ds)) v

theorem names_D (P : Params) : ∀ i x, ntD[i]? = some x → i < 4 → (nestScope P 76 0).names.lookup x = some .local := by
  intro i x h hi
  match i, hi with
  | 0, _ | 1, _ | 2, _ | 3, _ => cases h; kernel_rfl
theorem free_D (P : Params) : ∀ i x, ntD[i]? = some x → 4 ≤ i → (nestScope P 76 0).names.lookup x = some .free := by
  intro i x h hi
  match i with
  | 0 | 1 | 2 | 3 => omega
  | 4 | 5 | 6 => cases h; kernel_rfl
  | i + 7 => cases h
theorem place_D {ca ci cn : Addr} : ∀ i x a, ntD[i]? = some x → (clD ca ci cn).lookup x = some a → (i = 4 ∧ a = ca) ∨ (i = 5 ∧ a = ci) ∨ (i = 6 ∧ a = cn) := by
  intro i x a h e
  match i with
  | 0 | 1 | 2 | 3 => cases h; cases e
  | 4 => cases h; cases e; exact .inl ⟨rfl, rfl⟩
  | 5 => cases h; cases e; exact .inr (.inl ⟨rfl, rfl⟩)
  | 6 => cases h; cases e; exact .inr (.inr ⟨rfl, rfl⟩)
  | i + 7 => cases h
theorem place_noneD {ca ci cn : Addr} : ∀ i x, ntD[i]? = some x → (clD ca ci cn).lookup x = none → i < 4 := by
  intro i x h e
  match i with
  | 0 | 1 | 2 | 3 => omega
  | 4 | 5 | 6 => cases h; cases e
  | i + 7 => cases h

noncomputable def valD (L R v : Value) (t : Tok) : Vals := fun i => match i with
  | 0 => some L | 1 => some R | 4 => some v | 6 => some (.int 1 t) | _ => none
noncomputable def sgD (L R : Int) (ds : List Int) : Sg := [some (.im (.int L)), some (.im (.int R)), none, none, some (.im (.lst (intL ds))), none, some (.im (.int 1))]
noncomputable def muD (L : Addr) : Addr → Prop := fun b => b = L

theorem relD {h₀ : Heap} {W : Addr → Prop} {f ca ci cn L : Addr} {doc pm cv ctv v : Value} {l r : Int} {tl tr tn : Tok} {ds : List Int} (hJ : J c h₀) (X : FixD c h₀ (add1 W L) f ca ci cn doc pm cv ctv v ds) (hn : CellIs c h₀ cn (.int 1 tn))
    (hW : WEx W h₀) (hL : ¬ c.TB L) (gL : c.G.get? L = none)
    (hns : h₀.Ns L fun y => ([((PySem.Str.ofString "L"), Value.int l tl), ((PySem.Str.ofString "R"), .int r tr)] : List (PySem.Str × Value)).reverse.lookup y) :
    Rel c (add1 W L) (muD L) h₀ (fiN (fdD c.w.params ca ci cn doc pm cv ctv) ntD f L) (valD (.int l tl) (.int r tr) v tn) (sgD l r ds) where
  kind := by show (nestScope c.w.params 76 0).kind = _; kernel_rfl
  gl := rfl
  bl := rfl
  wex := fun b hb => by
    obtain ⟨o, es, ep, eL, _⟩ := hns
    rcases hb with q | rfl
    · exact hW b q
    · exact ⟨_, eL⟩
  muW := fun b q => .inr q
  muT := fun b q => by cases q; exact hL
  muG := fun b q => by cases q; exact gL
  lmu := rfl
  loc := ⟨_, hns, fun i y h1 h2 => by
    have h1 : ntD[i]? = some y := h1
    have h2 : (ntD[i]?).bind (fun x => (clD ca ci cn).lookup x) = none := h2
    rw [h1] at h2
    have hi := place_noneD i y h1 h2
    refine ⟨names_D c.w.params i y h1 hi, fun v hv => ?_⟩
    match i, hi with
    | 0, _ | 1, _ => cases h1; cases hv; rfl
    | 2, _ | 3, _ => cases hv⟩
  cel := fun i y b h1 h2 => by
    have h1 : ntD[i]? = some y := h1
    have h2 : (ntD[i]?).bind (fun x => (clD ca ci cn).lookup x) = some b := h2
    rw [h1] at h2
    have h3 : (clD ca ci cn).lookup y = some b := h2
    have hf : ∀ j, 4 ≤ j → i = j → (nestScope c.w.params 76 0).names.lookup y = some .free := fun j hj e => free_D c.w.params i y h1 (e ▸ hj)
    obtain ⟨⟨oa, ea, da⟩, na⟩ := X.xd
    obtain ⟨⟨oi, ei, di⟩, ni⟩ := X.xi
    obtain ⟨⟨on, en, dn⟩, nn⟩ := hn
    rcases place_D i y b h1 h3 with ⟨rfl, rfl⟩ | ⟨rfl, rfl⟩ | ⟨rfl, rfl⟩
    · exact ⟨h3, X.wd, na, .inr (hf 4 (by decide) rfl), oa, _, ea, da, fun v hv => hv⟩
    · exact ⟨h3, X.wi, ni, .inr (hf 5 (by decide) rfl), oi, _, ei, di, fun v hv => by cases hv⟩
    · exact ⟨h3, X.wn, nn, .inr (hf 6 (by decide) rfl), on, _, en, dn, fun v hv => hv⟩
  cmu := fun q => by cases q
  celd := fun i j b h1 h2 => by
    have h1 : (ntD[i]?).bind (fun x => (clD ca ci cn).lookup x) = some b := h1
    have h2 : (ntD[j]?).bind (fun x => (clD ca ci cn).lookup x) = some b := h2
    obtain ⟨y, e1, f1⟩ := Option.bind_eq_some_iff.mp h1
    obtain ⟨z, e2, f2⟩ := Option.bind_eq_some_iff.mp h2
    rcases place_D i y b e1 f1 with ⟨rfl, rfl⟩ | ⟨rfl, rfl⟩ | ⟨rfl, rfl⟩ <;> rcases place_D j z _ e2 f2 with ⟨rfl, q⟩ | ⟨rfl, q⟩ | ⟨rfl, q⟩ <;> first | rfl | (exfalso; first | exact X.d1 q | exact X.d1 q.symm | exact X.d2 q | exact X.d2 q.symm | exact X.d3 q | exact X.d3 q.symm)
  vals := fun i av e => by
    match i with
    | 0 | 1 => cases e; exact ⟨_, _, rfl, rfl, by show Den _ _ _ _; unfold Den; exact ⟨_, rfl⟩⟩
    | 2 | 3 | 5 => cases e
    | 4 => cases e; exact ⟨_, _, rfl, rfl, X.den⟩
    | 6 => cases e; exact ⟨_, _, rfl, rfl, by show Den _ _ _ _; unfold Den; exact ⟨_, rfl⟩⟩
    | i + 7 => cases e
  sep := fun i j b av bv e1 e2 o1 o2 v1 v2 => by
    match i with
    | 0 | 1 | 4 | 6 => cases e1; cases o1
    | 2 | 3 | 5 => cases e1
    | i + 7 => cases e1
  nd := fun i j y h1 h2 => by
    have h1 : ntD[i]? = some y := h1
    have h2 : ntD[j]? = some y := h2
    exact (List.getElem?_inj (List.getElem?_eq_some_iff.mp h1).1 (by decide +kernel)).mp (h1.trans h2.symm)
  ndb := fun i y h1 => by
    have h1 : ntD[i]? = some y := h1
    have : ∀ y ∈ ntD, (y == (PySem.Str.ofString "__debug__")) = false ∧ (y == (PySem.Str.ofString "__classdict__")) = false := by decide +kernel
    exact this y (List.mem_of_getElem? h1)

/-- the number of k figures from place l on, the lowest first -/
noncomputable def undR (ds : List Int) : Nat → Nat → Int
  | _, 0 => 0
  | l, k + 1 => ds.getD l 0 + 2 * undR ds (l + 1) k
theorem undR_b {ds : List Int} (h : ∀ d ∈ ds, 0 ≤ d ∧ d ≤ 1) : ∀ (k l : Nat), 0 ≤ undR ds l k ∧ undR ds l k < 2 ^ k
  | 0, l => by simp [undR]
  | k + 1, l => by
    obtain ⟨h1, h2⟩ := undR_b h k (l + 1)
    have h3 : 0 ≤ ds.getD l 0 ∧ ds.getD l 0 ≤ 1 := by
      rw [List.getD_eq_getElem?_getD]
      cases e : ds[l]? with
      | none => simp
      | some d => exact h d (List.mem_of_getElem? e)
    rw [undR, Int.pow_succ]
    omega

noncomputable def DnnC (c : Cx) (n : Nat) (f cd ci cn : Addr) (doc pm cv ctv v : Value) (ds : List Int) (k : Nat) : Prop :=
  ∀ (A : Around) (s : Shared) (W : Addr → Prop) (l r : Int) (tl tr : Tok) (Q E : Value → Shared → Prop), Room A n → 0 < s.toks → J c s.heap → TW c W → WEx W s.heap → FixD c s.heap W f cd ci cn doc pm cv ctv v ds →
    0 ≤ l → r = l + k → l + k ≤ ds.length → KontE c s W (.int (undR ds l.toNat k)) Q → wpAny c.M A (call (.ref f) [.int l tl, .int r tr]) Q E s

theorem FixD.keeps {h h' : Heap} {W W' : Addr → Prop} {f ca ci cn : Addr} {doc pm cv ctv v : Value} {ds : List Int} (x : FixD c h W f ca ci cn doc pm cv ctv v ds) (k : ∀ b o, h.get? b = some o → ¬ c.TB b → (∀ es m, o.data ≠ .dict es m) → h'.get? b = some o)
    (hw : ∀ b, W b → W' b) (den : Den h' W' (.lst (intL ds)) v) : FixD c h' W' f ca ci cn doc pm cv ctv v ds :=
  { x with clo := x.clo.keeps fun b o e nt _ hd => k b o e nt hd, xd := x.xd.keeps fun b o e nt _ hd => k b o e nt hd, xi := x.xi.keeps fun b o e nt _ hd => k b o e nt hd, xn := let ⟨t, z⟩ := x.xn; ⟨t, z.keeps fun b o e nt _ hd => k b o e nt hd⟩, wd := hw _ x.wd, wi := hw _ x.wi, wn := hw _ x.wn, den := den }

section
variable {f cd ci cn : Addr} {doc pm cv ctv v : Value} {ds : List Int}
theorem enterD (S : Sit c) {A : Around} {s : Shared} {W : Addr → Prop} {l r : Int} {tl tr : Tok} {Q E : Value → Shared → Prop} (hA : Room A (n + 1)) (hP : 0 < s.toks) (hJ : J c s.heap) (hT : TW c W) (hW : WEx W s.heap) (X : FixD c s.heap W f cd ci cn doc pm cv ctv v ds)
    (h : ∀ (A' : Around) (L : Addr) (h₀ : Heap) (tn : Tok) (E' : Value → Shared → Prop), Room A' n → J c h₀ → FixD c h₀ (add1 W L) f cd ci cn doc pm cv ctv v ds → (∀ b o, s.heap.get? b = some o → h₀.get? b = some o) → s.heap.get? L = none → TW c (add1 W L) →
      Rel c (add1 W L) (muD L) h₀ (fiN (fdD c.w.params cd ci cn doc pm cv ctv) ntD f L) (valD (.int l tl) (.int r tr) v tn) (sgD l r ds) →
      wpAny c.M A' (execs (nestBody c.w.params 76 0) (fiN (fdD c.w.params cd ci cn doc pm cv ctv) ntD f L).env) (fun fl s' => Q (match fl with | .ret v => v | _ => .none) s') E' { s with heap := h₀, toks := s.toks + 2 }) :
    wpAny c.M A (call (.ref f) [.int l tl, .int r tr]) Q E s := by
  obtain ⟨o, ho, hdd⟩ := X.clo.fn
  have hL : s.heap.get? s.heap.objs.size = none := get_fresh
  refine wpAny_call (codeAny_call_def (fd := fdD c.w.params cd ci cn doc pm cv ctv) (binds := [((PySem.Str.ofString "L"), Value.int l tl), ((PySem.Str.ofString "R"), .int r tr)]) (Nat.lt_of_le_of_lt (Nat.le_add_right _ _) hA.depth) ho hdd (S.lim.keeps fun b o e => hJ.ext b o e) X.clo.codeRec rfl (BindsTo.of_eq (by kernel_rfl)) ?_ ?_ (fun h₀ hns hk => ?_) ?_ ?_ ?_)
  · show ∀ x ∈ (nestScope c.w.params 76 0).names, x.2 ≠ .cell
    have : (nestScope c.w.params 76 0).names.all (fun x => !(x.2 == .cell)) = true := by kernel_rfl
    exact fun x hx q => by
      have := List.all_eq_true.mp this x hx
      rw [q] at this
      cases this
  · intro y hy
    rcases List.mem_cons.mp hy with rfl | hy
    · exact names_D c.w.params 0 _ rfl (by decide)
    rcases List.mem_cons.mp hy with rfl | hy
    · exact names_D c.w.params 1 _ rfl (by decide)
    · cases hy
  · have J₀ : J c h₀ := hJ.all hk
    have X₀ : FixD c h₀ (add1 W s.heap.objs.size) f cd ci cn doc pm cv ctv v ds := X.keeps (fun b o e _ _ => hk b o e) (fun b q => .inl q) (X.den.keeps ⟨fun b o e _ => hk b o e, fun b o e q => q.elim id fun q => by rw [q, hL] at e; cases e⟩)
    obtain ⟨tn, hn⟩ := X₀.xn
    have nT : ¬ c.TB s.heap.objs.size := fun q => by obtain ⟨o, e, _⟩ := hJ.tab _ q; rw [hL] at e; cases e
    have nG : c.G.get? s.heap.objs.size = none := by
      cases q : c.G.get? s.heap.objs.size with
      | none => rfl
      | some o => have := hJ.ext _ _ q; rw [hL] at this; cases this
    have R := relD (f := f) (tl := tl) (tr := tr) J₀ X₀ hn (fun b q => let ⟨o, e⟩ := hW b q; ⟨o, hk b o e⟩) nT nG hns
    exact h (A.deeper (callEnv (fdD c.w.params cd ci cn doc pm cv ctv) s.heap.objs.size f)) s.heap.objs.size h₀ tn _ ⟨hA.handled, by have := hA.depth; show A.depth + 1 + n < _; omega, by have := hA.units; show A.units + 3 + 20 * n + 100 < _; omega⟩ J₀ X₀ hk hL (fun b q => .inl (hT b q)) R
  · show (nestScope c.w.params 76 0).isCoroutine = false
    kernel_rfl
  · show (nestScope c.w.params 76 0).isGenerator = false
    kernel_rfl
  · show (nestScope c.w.params 76 0).kind = .function
    kernel_rfl
end
end Mine
end

section
open PySem PySem.W PyProof.Rows
open Sem (wp)
set_option Elab.async false
set_option linter.unusedVariables false
set_option maxRecDepth 100000
namespace Mine
variable {c : Cx} {n : Nat} {f cd ci cn : Addr} {doc pm cv ctv v : Value} {ds : List Int}

theorem idx_intL {ds : List Int} {l : Int} (h0 : 0 ≤ l) (h1 : l < ds.length) (h2 : ds.length ≤ 100000) : idxPV (.lst (intL ds)) (.int l) = some (.int (ds.getD l.toNat 0)) := by
  have hl : l.toNat < ds.length := by omega
  have hf : fits (intL ds).length = true := by simp [fits, intL]; exact h2
  simp only [idxPV, oInt]
  have e1 : (intL ds)[l.toNat]? = some (.int (ds.getD l.toNat 0)) := by
    rw [List.getElem?_map, List.getElem?_eq_getElem hl, List.getD_eq_getElem?_getD, List.getElem?_eq_getElem hl]; rfl
  have e2 : l < ((intL ds).length : Int) := by simp [intL]; exact h1
  have e3 : decide ((0 : Int) ≤ l) = true := by simpa using h0
  have e4 : decide (l < ((intL ds).length : Int)) = true := by simpa using e2
  rw [e3, e4, hf]
  simp only [Bool.and_self, if_true, e1]

theorem dnnC_one (S : Sit c) (hds : ds.length ≤ 1000) : DnnC c (n + 1) f cd ci cn doc pm cv ctv v ds 1 := by
  intro A s W l r tl tr Q E hA hP hJ hT hW X h0 hr h1 k
  subst hr
  refine enterD S hA hP hJ hT hW X fun A' L h₀ tn E' hA' J₀ X₀ k₀ hL hT₀ R => ?_
  have hTr : (l + 1 == l + ((1 : Nat) : Int)) = true := by simp
  refine wpAny_execs_cons (wpAny_If (test_I (c := c) (n := n) (fi := fiN (fdD c.w.params cd ci cn doc pm cv ctv) ntD f L) (σ := sgD l (l + ((1 : Nat) : Int)) ds) (l := l) (r := l + ((1 : Nat) : Int)) (i := 0) (j := 1) rfl rfl rfl rfl A' _ _ _ _ _ _ hA' (Nat.lt_of_lt_of_le hP (Nat.le_add_right _ _)) J₀ hT₀ R fun h₁ tk₁ p₁ s₁ => ?_))
  rw [if_pos hTr]
  have R₁ := R.step hT₀ s₁
  have hv : idxPV (.lst (intL ds)) (.int l) = some (.int (undR ds l.toNat 1)) := by
    rw [idx_intL h0 (by push_cast at h1; omega) (by omega)]
    simp [undR]
  refine wpAny_execs_cons (wpAny_Return_some (sound_idx (n := n) (sound_var (i := 4) rfl rfl) (sound_var (i := 0) rfl rfl) hv (by intro a b p h; cases h) A' ⟨h₁, s.gens, s.drawn, tk₁, s.os⟩ _ _ _ _ _ hA' p₁ s₁.j hT₀ R₁ fun v₂ h₂ tk₂ p₂ s₂ d₂ => ?_))
  obtain ⟨t, rfl⟩ := den_int d₂
  exact k _ h₂ tk₂ p₂ ⟨fun b o e nt => s₂.kept b o (s₁.kept b o (k₀ b o e) nt) nt, s₂.j⟩ (by unfold Den; exact ⟨t, rfl⟩)

theorem muD_odd {L b : Addr} {o : Obj} (nb : b ≠ L) : ¬ muD L b ∨ ¬ Odd o := .inl fun z => nb z

theorem dnnC_step (S : Sit c) {k : Nat} (hk : k = 1 ∨ k = 2) (hds : ds.length ≤ 1000) (h01 : ∀ d ∈ ds, 0 ≤ d ∧ d ≤ 1) (H1 : DnnC c n f cd ci cn doc pm cv ctv v ds 1) (Hk : DnnC c n f cd ci cn doc pm cv ctv v ds k) : DnnC c (n + 1) f cd ci cn doc pm cv ctv v ds (k + 1) := by
  intro A s W l r tl tr Q E hA hP hJ hT hW X h0 hr h1 kk
  have hk1 : 1 ≤ (k : Int) := by rcases hk with rfl | rfl <;> decide
  have hk2 : (k : Int) ≤ 2 := by rcases hk with rfl | rfl <;> decide
  have hr : r = l + k + 1 := by push_cast at hr; omega
  have h1 : l + k + 1 ≤ ds.length := by push_cast at h1; omega
  subst hr
  refine enterD S hA hP hJ hT hW X fun A' L h₀ tn E' hA' J₀ X₀ k₀ hL hT₀ R => ?_
  have hTr : ¬ (l + 1 == l + k + 1) = true := by simp; omega
  refine wpAny_execs_cons (wpAny_If (test_I (c := c) (n := n) (fi := fiN (fdD c.w.params cd ci cn doc pm cv ctv) ntD f L) (σ := sgD l (l + k + 1) ds) (l := l) (r := l + k + 1) (i := 0) (j := 1) rfl rfl rfl rfl A' _ _ _ _ _ _ hA' (Nat.lt_of_lt_of_le hP (Nat.le_add_right _ _)) J₀ hT₀ R fun h₁ tk₁ p₁ s₁ => ?_))
  rw [if_neg hTr]
  refine wpAny_execs_nil ?_
  have R₁ := R.step hT₀ s₁
  -- mid
  refine set_by (s := ⟨h₁, s.gens, s.drawn, tk₁, s.os⟩) (i := 2) (p := .int (l + 1)) hA' p₁ s₁.j hT₀ R₁ (sound_bin (sound_bin (sound_var (i := 0) rfl rfl) (sound_var (i := 1) rfl rfl) (val2_bin (op := .add) (p := .int (l + (l + k + 1))) rfl)) sound_int (val2_bin (op := .shr) (p := .int (l + 1)) ?_)) (.inr rfl) rfl rfl fun h₂ tk₂ v₂ p₂ g₂ R₂ k₂ => ?_
  · have e : (l + (l + (k : Int) + 1)) / 2 = l + 1 := by omega
    have sm : small (l + (l + (k : Int) + 1)) = true := by simp [small]; omega
    simp [binPV, oInt, sm, e]
  -- shift
  refine set_by (s := ⟨h₂, s.gens, s.drawn, tk₂, s.os⟩) (i := 3) (p := .int 1) hA' p₂ g₂.j hT₀ R₂ (sound_bin (sound_bin (sound_var (i := 2) rfl rfl) (sound_var (i := 0) rfl rfl) (val2_bin (op := .sub) (p := .int (l + 1 - l)) rfl)) (sound_var (i := 6) rfl rfl) (val2_bin (op := .mul) (p := .int 1) ?_)) (.inr rfl) rfl rfl fun h₃ tk₃ v₃ p₃ g₃ R₃ k₃ => ?_
  · have e : l + 1 - l = 1 := by omega
    rw [e]; rfl
  have K₃ : ∀ b o, s.heap.get? b = some o → ¬ c.TB b → h₃.get? b = some o := fun b o e nt => by
    have nL : b ≠ L := fun q => by rw [q, hL] at e; cases e
    have e₁ := s₁.kept b o (k₀ b o e) nt
    have e₂ := k₂ b o e₁ nt (muD_odd nL)
    exact k₃ b o e₂ nt (muD_odd nL)
  have X₃ : FixD c h₃ (add1 W L) f cd ci cn doc pm cv ctv v ds := X.keeps (fun b o e nt _ => K₃ b o e nt) (fun b q => .inl q) (X.den.keeps ⟨fun b o e nw => K₃ b o e fun q => nw (hT b q), fun b o e q => q.elim id fun q => by rw [q, hL] at e; cases e⟩)
  have lk : (fiN (fdD c.w.params cd ci cn doc pm cv ctv) ntD f L).place 5 = some ci := rfl
  -- (inner(mid, R) << shift) + inner(L, mid)
  refine wpAny_execs_cons (wpAny_Return_some (wpAny_BinOp (wpAny_BinOp ?_)))
  refine call_cell (n := n) (i := 5) (s := ⟨h₃, s.gens, s.drawn, tk₃, s.os⟩) hA' p₃ g₃.j hT₀ R₃ rfl lk X₃.xi X₃.clo (.cons (sound_var (i := 2) rfl rfl) (by intro e q h; cases h) (.cons (sound_var (i := 1) rfl rfl) (by intro e q h; cases h) .nil)) (by simp) fun us h₄ tk₄ p₄ s₄ d₄ => ?_
  obtain ⟨u₁, u₂, rfl, du₁, du₂⟩ := den2 d₄
  obtain ⟨t₁, rfl⟩ := den_int du₁
  obtain ⟨t₂, rfl⟩ := den_int du₂
  have fx : ∀ {h h' : Heap}, Step c h h' → FixD c h (add1 W L) f cd ci cn doc pm cv ctv v ds → FixD c h' (add1 W L) f cd ci cn doc pm cv ctv v ds := fun st x => x.keeps (fun b o e nt _ => st.kept b o e nt) (fun b q => q) (x.den.step hT₀ st)
  have X₄ := fx s₄ X₃
  have R₄ := R₃.step hT₀ s₄
  refine Hk A' ⟨h₄, s.gens, s.drawn, tk₄, s.os⟩ (add1 W L) (l + 1) (l + k + 1) t₁ t₂ _ _ hA' p₄ s₄.j hT₀ R₄.wex X₄ (by omega) (by omega) (by omega) fun v₅ h₅ tk₅ p₅ s₅ d₅ => ?_
  have R₅ := R₄.step hT₀ s₅
  have X₅ := fx s₅ X₄
  refine sound_var (n := n) (i := 3) rfl rfl A' ⟨h₅, s.gens, s.drawn, tk₅, s.os⟩ _ _ _ _ _ hA' p₅ s₅.j hT₀ R₅ fun v₆ h₆ tk₆ p₆ s₆ d₆ => ?_
  have R₆ := R₅.step hT₀ s₆
  obtain ⟨b1, b2⟩ := undR_b h01 k (l + 1).toNat
  have b3 : undR ds (l + 1).toNat k ≤ 4 := by rcases hk with rfl | rfl <;> simp at b2 <;> omega
  refine val2_bin (c := c) (n := n) (op := .shl) (a := .int (undR ds (l + 1).toNat k)) (b := .int 1) (p := .int (undR ds (l + 1).toNat k * 2)) ?_ A' ⟨h₆, s.gens, s.drawn, tk₆, s.os⟩ (add1 W L) v₅ v₆ _ _ hA' p₆ s₆.j hT₀ R₆.wex (d₅.step hT₀ s₆) d₆ fun v₇ h₇ tk₇ p₇ s₇ d₇ => ?_
  · have e2 : undR ds (l + 1).toNat k ≤ 1000 := by omega
    simp [binPV, oInt, b1, e2]
  have R₇ := R₆.step hT₀ s₇
  have X₇ := fx s₇ (fx s₆ X₅)
  refine call_cell (n := n) (i := 5) (s := ⟨h₇, s.gens, s.drawn, tk₇, s.os⟩) hA' p₇ s₇.j hT₀ R₇ rfl lk X₇.xi X₇.clo (.cons (sound_var (i := 0) rfl rfl) (by intro e q h; cases h) (.cons (sound_var (i := 2) rfl rfl) (by intro e q h; cases h) .nil)) (by simp) fun us h₈ tk₈ p₈ s₈ d₈ => ?_
  obtain ⟨u₁, u₂, rfl, du₁, du₂⟩ := den2 d₈
  obtain ⟨t₃, rfl⟩ := den_int du₁
  obtain ⟨t₄, rfl⟩ := den_int du₂
  have R₈ := R₇.step hT₀ s₈
  refine H1 A' ⟨h₈, s.gens, s.drawn, tk₈, s.os⟩ (add1 W L) l (l + 1) t₃ t₄ _ _ hA' p₈ s₈.j hT₀ R₈.wex (fx s₈ X₇) h0 rfl (by push_cast; omega) fun v₉ h₉ tk₉ p₉ s₉ d₉ => ?_
  have R₉ := R₈.step hT₀ s₉
  refine val2_bin (c := c) (n := n) (op := .add) (a := .int (undR ds (l + 1).toNat k * 2)) (b := .int (undR ds l.toNat 1)) (p := .int (undR ds (l + 1).toNat k * 2 + undR ds l.toNat 1)) rfl A' ⟨h₉, s.gens, s.drawn, tk₉, s.os⟩ (add1 W L) v₇ v₉ _ _ hA' p₉ s₉.j hT₀ R₉.wex ((d₇.step hT₀ s₈).step hT₀ s₉) d₉ fun v₁₀ h₁₀ tk₁₀ p₁₀ s₁₀ d₁₀ => ?_
  obtain ⟨t, rfl⟩ := den_int d₁₀
  have e : undR ds (l + 1).toNat k * 2 + undR ds l.toNat 1 = undR ds l.toNat (k + 1) := by
    have e2 : (l + 1).toNat = l.toNat + 1 := by omega
    rw [e2]; simp only [undR]; omega
  rw [e]
  exact kk _ h₁₀ tk₁₀ p₁₀ ⟨fun b o e nt => s₁₀.kept b o (s₉.kept b o (s₈.kept b o (s₇.kept b o (s₆.kept b o (s₅.kept b o (s₄.kept b o (K₃ b o e nt) nt) nt) nt) nt) nt) nt) nt, s₁₀.j⟩ (by unfold Den; exact ⟨t, rfl⟩)

theorem DnnC.up {k : Nat} (h : DnnC c n f cd ci cn doc pm cv ctv v ds k) : DnnC c (n + 1) f cd ci cn doc pm cv ctv v ds k := fun A s W l r tl tr Q E hA => h A s W l r tl tr Q E (hA.le (Nat.le_succ n))
theorem dnnC_all (S : Sit c) (hds : ds.length ≤ 1000) (h01 : ∀ d ∈ ds, 0 ≤ d ∧ d ≤ 1) {k : Nat} (h1 : 1 ≤ k) (h3 : k ≤ 3) : DnnC c (n + 3) f cd ci cn doc pm cv ctv v ds k := by
  have c1 : ∀ m, DnnC c (m + 1) f cd ci cn doc pm cv ctv v ds 1 := fun m => dnnC_one S hds
  have c2 : DnnC c (n + 2) f cd ci cn doc pm cv ctv v ds 2 := dnnC_step S (.inl rfl) hds h01 (c1 n) (c1 n)
  have c3 : DnnC c (n + 3) f cd ci cn doc pm cv ctv v ds 3 := dnnC_step S (.inr rfl) hds h01 (c1 (n + 1)) c2
  match k, h1, h3 with
  | 1, _, _ => exact c1 _
  | 2, _, _ => exact c2.up
  | 3, _, _ => exact c3
end Mine
end

section
open PySem PySem.W PyProof.Rows
open Sem (wp)
set_option Elab.async false
set_option linter.unusedVariables false
set_option maxRecDepth 100000
namespace Mine
variable {c : Cx} {n : Nat}

noncomputable def nt4 : List PySem.Str := ["digits", "n", "inner"]
theorem fun4 (S : Sit c) : Fun c 76 (fdAt c.w.params 76) (bodyAt c.w.params 76) nt4 2 :=
  mkFun (cd := 75) S (by kernel_rfl) (by kernel_rfl) (by kernel_rfl) (by kernel_rfl) (by kernel_rfl) (fun vals h => by obtain ⟨a, b, rfl⟩ := on2 h; kernel_rfl)
theorem hd75 (S : Sit c) : CodeHd c.G 75 71 := codeHd_of_K S.K (by kernel_rfl)
theorem code76 (P : Params) : (fdAt P 76).code = .ref 75 := by kernel_rfl

set_option maxHeartbeats 4000000 in
theorem d2i (S : Sit2 c) {ds : List Int} (hlen : ds.length ≤ 3) (h01 : ∀ d ∈ ds, 0 ≤ d ∧ d ≤ 1) : FnOK c (n + 4) 76 [.lst (intL ds), .int 1] (.int (undR ds 0 ds.length)) := by
  intro A s W vs Q E hA hP hJ hT hW d k
  have F := fun4 S.toSit
  obtain ⟨v₁, v₂, rfl, dv₁, dv₂⟩ := den2 d
  obtain ⟨t₂, rfl⟩ := den_int dv₂
  refine F.go (t₀ := 0) hA hP hJ hT hW d rfl fun hs ts hP₁ keep J₁ hA' hTw R => ?_
  have hfr : ∀ b, s.heap.objs.size ≤ b → s.heap.get? b = none := fun b hb => Heap.get?_none_of_le hb
  generalize hLL : s.heap.objs.size = L at *
  have pl0 : (fiF (fdAt c.w.params 76) 76 nt4 L).place 0 = some (L + 1) := by kernel_rfl
  have pl1 : (fiF (fdAt c.w.params 76) 76 nt4 L).place 1 = some (L + 2) := by kernel_rfl
  have pl2 : (fiF (fdAt c.w.params 76) 76 nt4 L).place 2 = some (L + 3) := by kernel_rfl
  obtain ⟨_, w1, nT1, _, o1, ov1, e1, d1', q1⟩ := R.cel 0 _ (L + 1) rfl pl0
  have q1 := q1 v₁ rfl
  subst q1
  obtain ⟨_, w2, nT2, _, o2, ov2, e2, d2', q2⟩ := R.cel 1 _ (L + 2) rfl pl1
  have q2 := q2 (.int 1 t₂) rfl
  subst q2
  obtain ⟨_, w3, _⟩ := R.cel 2 _ (L + 3) rfl pl2
  -- def inner
  refine wpAny_execs_cons (nestDef_K rfl rfl rfl (make_fun S (P := 71) (cd := 75) (clos := clD (L + 1) (L + 3) (L + 2)) (s := ⟨hs, s.gens, s.drawn, ts, s.os⟩) hP₁ J₁ ((S.tb _).mpr (.inr rfl)) S.g2 S.t2 (S.q2.trans (by kernel_rfl)) (hd75 S.toSit) (by rfl) rfl (code76 c.w.params) (fdx := fdD c.w.params (L + 1) (L + 3) (L + 2)) (fun _ _ _ _ => by kernel_rfl) fun f doc pm cv ctv h₅ tk₅ p₅ s₅ nf clo => ?_))
  refine store_fn (s := ⟨h₅, s.gens, s.drawn, tk₅, s.os⟩) (i := 2) s₅.j (R.step hTw s₅) rfl rfl pl2 rfl fun h₆ J₆ R₆ c3 kp₆ => ?_
  have R₅ := R.step hTw s₅
  obtain ⟨_, _, _, _, o3, ov3, e3, d3', _⟩ := R₅.cel 2 _ (L + 3) rfl pl2
  have ne3 : ∀ b o, h₅.get? b = some o → (∀ v, o.data ≠ .cell v) → b ≠ L + 3 := fun b o e hn q => by
    rw [q, e3] at e; cases e; exact hn _ d3'
  have K₆ : ∀ b o, s.heap.get? b = some o → ¬ c.TB b → h₆.get? b = some o := fun b o e nt =>
    kp₆ b o (fun q => by rw [q, hfr _ (Nat.le_add_right _ _)] at e; cases e) (s₅.kept b o (keep b o e) nt)
  have clo₆ := clo.kp fun b o e hn => kp₆ b o (ne3 b o e hn) e
  have lt : ∀ i j : Nat, i ≠ j → L + i ≠ L + j := fun i j h q => h (Nat.add_left_cancel q)
  have hd₆ : Den h₆ (fun b => W b ∨ (s.heap.get? b = none ∧ ∃ o, hs.get? b = some o)) (.lst (intL ds)) v₁ := dv₁.keeps ⟨fun b o e nw => K₆ b o e fun q => nw (hT b q), fun b o e q => q.elim id fun q => by rw [q.1] at e; cases e⟩
  have X₆ : FixD c h₆ (fun b => W b ∨ (s.heap.get? b = none ∧ ∃ o, hs.get? b = some o)) f (L + 1) (L + 3) (L + 2) doc pm cv ctv v₁ ds := {
    clo := clo₆
    xd := ⟨⟨o1, kp₆ _ _ (lt 1 3 (by decide)) (s₅.kept _ _ e1 nT1), d1'⟩, nT1⟩
    xi := c3
    xn := ⟨t₂, ⟨o2, kp₆ _ _ (lt 2 3 (by decide)) (s₅.kept _ _ e2 nT2), d2'⟩, nT2⟩
    wd := w1
    wi := w3
    wn := w2
    d1 := lt 1 3 (by decide)
    d2 := lt 1 2 (by decide)
    d3 := lt 3 2 (by decide)
    den := hd₆ }
  refine wpAny_execs_cons (wpAny_Return_some (IfExp_ (soundT_plain (n := n + 3) (sound_var (i := 0) rfl rfl) (truth_lst (l := intL ds) (by simp [intL]; omega)) (fun _ _ => rfl) _ ⟨h₆, s.gens, s.drawn, tk₅, s.os⟩ _ _ _ _ _ hA' p₅ J₆ hTw R₆ fun h₇ tk₇ p₇ s₇ => ?_)))
  have R₇ := R₆.step hTw s₇
  by_cases hz : ds = []
  · subst hz
    have : (!(intL []).isEmpty) = false := rfl
    rw [this, if_neg Bool.false_ne_true]
    refine sound_int (n := n + 3) (c := c) (σ := argSg [PV.lst (intL []), PV.int 1] nt4.length) (fi := fiF (fdAt c.w.params 76) 76 nt4 L) _ ⟨h₇, s.gens, s.drawn, tk₇, s.os⟩ _ _ _ _ _ hA' p₇ s₇.j hTw R₇ fun v₈ h₈ tk₈ p₈ s₈ d₈ => ?_
    obtain ⟨t, rfl⟩ := den_int d₈
    exact k _ h₈ tk₈ p₈ ⟨fun b o e nt => s₈.kept b o (s₇.kept b o (K₆ b o e nt) nt) nt, s₈.j⟩ (by unfold Den; exact ⟨t, rfl⟩)
  · have hz' : (!(intL ds).isEmpty) = true := by simpa [intL] using hz
    rw [hz', if_pos rfl]
    have hpos : 1 ≤ ds.length := by
      cases ds with
      | nil => exact absurd rfl hz
      | cons a l => simp
    have X₇ := X₆.keeps (h' := h₇) (W' := fun b => W b ∨ (s.heap.get? b = none ∧ ∃ o, hs.get? b = some o)) (fun b o e nt _ => s₇.kept b o e nt) (fun b q => q) (hd₆.step hTw s₇)
    refine call_cell (n := n + 3) (i := 2) (s := ⟨h₇, s.gens, s.drawn, tk₇, s.os⟩) hA' p₇ s₇.j hTw R₇ rfl pl2 X₇.xi X₇.clo (.cons sound_int (by intro e q h; cases h) (.cons (sound_bi (id := "len") (ps := [.lst (intL ds)]) (res := .int ds.length) (S.toSit.gl _ _ rfl) (by kernel_rfl) (.cons (sound_var (i := 0) rfl rfl) (by intro e q h; cases h) .nil) (by simp) ?_) (by intro e q h; cases h) .nil)) (by simp) fun ws h₈ tk₈ p₈ s₈ d₈ => ?_
    · refine valL_bi (b := .len) rfl ?_
      have hf : fits (intL ds).length = true := by simp [fits, intL]; omega
      simp only [biPV, Mine.o1, lenPV, hf, if_true]
      simp [intL]
    obtain ⟨w₁, w₂, rfl, dw₁, dw₂⟩ := den2 d₈
    obtain ⟨r₁, rfl⟩ := den_int dw₁
    obtain ⟨r₂, rfl⟩ := den_int dw₂
    have X₈ := X₇.keeps (h' := h₈) (W' := fun b => W b ∨ (s.heap.get? b = none ∧ ∃ o, hs.get? b = some o)) (fun b o e nt _ => s₈.kept b o e nt) (fun b q => q) ((hd₆.step hTw s₇).step hTw s₈)
    refine dnnC_all S.toSit (by omega) h01 hpos hlen _ ⟨h₈, s.gens, s.drawn, tk₈, s.os⟩ _ 0 ds.length r₁ r₂ _ _ hA' p₈ s₈.j hTw (R₇.step hTw s₈).wex X₈ (by omega) (by omega) (by omega) fun v₉ h₉ tk₉ p₉ s₉ d₉ => ?_
    obtain ⟨t, rfl⟩ := den_int d₉
    exact k _ h₉ tk₉ p₉ ⟨fun b o e nt => s₉.kept b o (s₈.kept b o (s₇.kept b o (K₆ b o e nt) nt) nt) nt, s₉.j⟩ (by unfold Den; exact ⟨t, rfl⟩)
end Mine
end

section
open PySem PySem.W PyProof.Rows
open Sem (wp)
set_option Elab.async false
set_option linter.unusedVariables false
set_option maxRecDepth 100000
namespace Mine

section
variable {M : Model} {A : Around} {E : Value → Shared → Prop} {s₀ s : Shared} {m cm : PySem.Str → Option Value} {env : Env}
theorem st_local1 {n : PySem.Str} {v : Value} {Q : Unit → Shared → Prop} (x : InCallC s₀ env.locals m env.cells cm s) (hk : env.scope.kind = .function) (hl : env.kindOf n = some .local)
    (h : ∀ s', InCallC s₀ env.locals (fun y => if y = n then some v else m y) env.cells cm s' → 0 < s'.toks → Q () s') : wpAny M A (storeName env n v) Q E s := by
  refine wpAny_storeName_local hl x.toInCall.ns (fun h' hn' hs' => h _ ⟨⟨?_, hn', fun b o e => ?_, x.toInCall.fresh⟩, fun k c hc => ?_, x.apart, x.above⟩ (Nat.succ_pos _)) (by rw [hk]; rfl)
  · obtain ⟨h₁, tk, rfl⟩ := x.toInCall.same
    exact ⟨h', _, rfl⟩
  · exact hs'.extBut b o (Nat.ne_of_lt (Nat.lt_of_lt_of_le (Heap.lt_size e) x.toInCall.fresh)) (x.toInCall.keep b o e)
  · exact (x.cell k c hc).sameBut hs' (Nat.ne_of_gt (x.above k c (mem_of_lookup hc)))
end

section
variable {M : Model} {A : Around} {E : Value → Shared → Prop} {s : Shared}
theorem new_env1 {scope : Scope} {globals : Addr} {nm : PySem.Str} {v : Value} {qual : PySem.Str} {func : Option Addr} {code : Value} {builtins : Addr} {Q : Env → Shared → Prop}
    (hk : scope.kind = .function) (hkind : scope.names.lookup nm = some .local)
    (hQ : ∀ env, env = newEnv scope s.heap.objs.size globals (cellsFrom (s.heap.objs.size + 1) scope.names []) qual func code none builtins →
      ∀ s', InCallC s env.locals (bindL env.kindOf [(nm, v)] fun _ => none) env.cells (bindC env.kindOf [(nm, v)] fun _ => none) s' → 0 < s'.toks → Q env s') :
    wpAny M A (newFunctionEnv scope globals [] [(nm, v)] qual func code none builtins) Q E s := by
  simp only [newFunctionEnv, Option.isSome_none, Bool.false_eq_true, if_false]
  refine wpAny_bind (wpAny_alloc ?_)
  refine wpAny_bind (wpAny_layCells _ (fun name kind cells => by cases kind == NameKind.cell <;> simp) _ _ _ _ ?_)
  have ok := cellsFrom_ok scope.names (s.heap.push { cls := .type "frame", data := .dict #[] }) (s.heap.objs.size + 1) [] ⟨fun _ _ hm => (nomatch hm), List.Pairwise.nil⟩ (by rw [Heap.size_push]; exact Nat.le_refl _)
  rw [Heap.size_push] at ok
  rw [show ({ s with heap := s.heap.push { cls := .type "frame", data := .dict #[] } } : Shared).heap.objs.size = s.heap.objs.size + 1 from Heap.size_push ..]
  refine wpAny_bind ?_
  rw [List.forIn_cons]
  refine wpAny_bind (wpAny_bind (st_local1 (s₀ := s) (env := newEnv scope s.heap.objs.size globals (cellsFrom (s.heap.objs.size + 1) scope.names []) qual func code none builtins)
    ⟨⟨⟨_, _, rfl⟩, (Heap.Ns.new s.heap (.type "frame")).keeps (pushCells_keeps _ _), fun b o e => pushCells_keeps _ _ b o (Heap.get?_push_of_some _ e), Nat.le_refl _⟩,
      fun n c hc => (ok.empty n c (mem_of_lookup hc)).1, ok.apart, fun n c hm => (ok.empty n c hm).2⟩ hk hkind fun s' x hP' => wpAny_pure ?_))
  show wpAny _ _ (forIn [] _ _) _ _ _
  rw [List.forIn_nil]
  refine wpAny_pure (wpAny_pure (hQ _ rfl s' ?_ hP'))
  have hl : (newEnv scope s.heap.objs.size globals (cellsFrom (s.heap.objs.size + 1) scope.names []) qual func code none builtins).kindOf nm = some .local := hkind
  unfold bindL bindC bindL bindC
  rw [if_pos hl, if_pos hl]
  exact x
end

section
variable {prog : Program} {w : World} {A : Around} {R : Result → Shared → Prop} {s : Shared}
theorem codeC_enter1 {a : Addr} {o : Obj} {fd : FuncData} {body : List Stmt} {vals : List Value} {nm : PySem.Str} {v : Value}
    (hroom : A.depth < recursionLimit) (ho : s.heap.get? a = some o) (hdata : o.data = .func fd) (hlim : s.heap.NoLimit) (hcd : s.heap.CodeRec fd.code fd.qualname)
    (hbody : fd.body = .stmts body) (hbind : bindArgs fd ⟨vals, []⟩ = pure [(nm, v)]) (hclo : fd.closure = [])
    (hkind : fd.scope.names.lookup nm = some .local)
    (h : ∀ s₁, InCallC s (callEnvC fd s.heap.objs.size a).locals (bindL (callEnvC fd s.heap.objs.size a).kindOf [(nm, v)] fun _ => none) (callEnvC fd s.heap.objs.size a).cells
        (bindC (callEnvC fd s.heap.objs.size a).kindOf [(nm, v)] fun _ => none) s₁ → 0 < s₁.toks →
      wpC (model prog w) (A.deeper (callEnvC fd s.heap.objs.size a)) (execs body (callEnvC fd s.heap.objs.size a)) (fun f s' => R (.ok (.ret (match f with | .ret v => v | _ => .none))) s')
        (fun e s' => wpAny (model prog w) (A.deeper (callEnvC fd s.heap.objs.size a)) (leaving (callEnvC fd s.heap.objs.size a) e) (fun _ s'' => R (.error e) s'') (fun e' s'' => R (.error e') s'') s') s₁)
    (hco : fd.scope.isCoroutine = false) (hgen : fd.scope.isGenerator = false) (hk : fd.scope.kind = .function) :
    codeC (model prog w) A (.call (.ref a) ⟨vals, []⟩) R s := by
  refine codeC_call_function hroom ho hdata hco hgen hbody hcd ?_
  rw [hbind, hclo]
  refine wpAny_pure (new_env1 hk hkind fun env he s' x hP' => ?_)
  subst he
  exact ⟨hlim.keeps x.toInCall.keep, codeC_func (h s' x hP')⟩
end

variable {c : Cx} {n : Nat}
/-- a def's value, where the first name may be the run's first -/
noncomputable def LawOK (c : Cx) (n : Nat) (f : Addr) (args : List PV) (res : PV) : Prop :=
  ∀ (A : Around) (s : Shared) (W : Addr → Prop) (vs : List Value) (Q E : Value → Shared → Prop), Room A n → A.guards = some [] → J c s.heap → TW c W → (∀ b, W b → ∃ o, s.heap.get? b = some o) → DenL s.heap W args vs →
    KontE c s W res Q → wpC c.M A (call (.ref f) vs) Q E s

theorem Fun.enterC1 {f : Addr} {fd : FuncData} {body : List Stmt} {nt : List PySem.Str} {x : PySem.Str} {p : PV} {r : Res} (F : Fun c f fd body (x :: nt) 1) (hl : fd.scope.names.lookup x = some .local)
    (h : ∀ L, SoundSC c n (fiF fd f (x :: nt) L) (argSg [p] (x :: nt).length) (execs body) r) : LawOK c (n + 1) f [p] (resV r) := by
  intro A s W vs Q E hA hG hJ hT hW d k
  obtain ⟨o, ho, hd⟩ := F.get
  obtain ⟨v, rfl, dv⟩ := den1 d
  refine wpC_call (codeC_enter1 (Nat.lt_of_le_of_lt (Nat.le_add_right _ _) hA.depth) (hJ.ext _ _ ho) hd (F.lim.keeps fun b o e => hJ.ext b o e) (F.cod.keeps fun b o e => hJ.ext b o e) F.bd (F.bind [v] rfl) F.clo hl (fun s₁ x hP₁ => ?_) F.co F.gen F.kind)
  have R := F.rel hJ hW hT d rfl x
  have J₁ : J c s₁.heap := hJ.all x.toInCall.keep
  have hA' : Room (A.deeper (callEnvC fd s.heap.objs.size f)) n := ⟨hA.handled, by have := hA.depth; show A.depth + 1 + n < _; omega, by have := hA.units; show A.units + 3 + 20 * n + 100 < _; omega⟩
  exact h s.heap.objs.size _ s₁ _ _ _ _ _ hA' hG hP₁ J₁ (fun b q => .inl (hT b q)) R (F.out hJ hW hT x.toInCall.same x.toInCall.keep k)

theorem law_runC {R : Rp} {G : Nat → List PV → Option PV} (B : Base c n R) (F : Fns c n R G) {f : Addr} {fd : FuncData} {body : List Stmt} {nt : List PySem.Str} {x : PySem.Str} {k nv : Nat} {ps : List PS} {p : PV} {res : PV} (Ff : Fun c f fd body (x :: nt) 1) (hl : fd.scope.names.lookup x = some .local) (hnv : nv = (x :: nt).length)
    (hrep : ∀ L, RepLC R (fiF fd f (x :: nt) L) body ps) (h : run G k nv ps [p] = some res) : LawOK c (n + 1) f [p] res := by
  subst hnv
  unfold run at h
  have h0 : argSg [p] (x :: nt).length = [p].map (fun v => some (AV.im v)) ++ List.replicate ((x :: nt).length - [p].length) none := rfl
  rw [← h0] at h
  split at h <;> cases h
  · exact Fun.enterC1 Ff hl (r := .ret _) fun L => (hrep L).out B F k _ _ ‹_›
  · exact Fun.enterC1 Ff hl (r := .next _) fun L => (hrep L).out B F k _ _ ‹_›
end Mine
end

section
open PySem PySem.W PyProof.Rows
open Sem (wp)
set_option Elab.async false
set_option linter.unusedVariables false
set_option maxRecDepth 100000
namespace Mine

theorem well_ints {P : Params} {h : Heap} : ∀ {xs : List Int} {vs : List Value}, WellAll P h vs (xs.map .int) → ∀ (h' : Heap) (W : Addr → Prop), DenL h' W (intL xs) vs
  | [], _, .nil, _, _ => DenL.nil
  | i :: xs, _, .cons (v := v) hv hr, h', W => by
    cases hv
    exact DenL.cons (by unfold Den; exact ⟨_, rfl⟩) (well_ints hr h' W)
theorem well_list {P : Params} {h : Heap} {a : Addr} {xs : List Int} (w : Well P h (.ref a) (ofPy (PyData.list (xs.map PyData.int)))) : ∃ vs, h.get? a = some (listO vs 0) ∧ ∀ (h' : Heap) (W : Addr → Prop), DenL h' W (intL xs) vs := by
  have w : Well P h (.ref a) (.list (ofPys (xs.map .int))) := w
  rw [ofPys_ints] at w
  cases w with
  | list e r => exact ⟨_, e, well_ints r⟩

noncomputable def tabs : List (Addr × Addr) := [(75, 71), (68, 64)]
noncomputable def cxOf (w : World) (h : Heap) : Cx where
  prog := PySem.Challenge.rw_zo0009_01.row.prog
  w := w
  G := ghostOf h tabs
  TB := fun b => b = 64 ∨ b = 71
  Tab := fun b o => if b = 64 then TabForm (nestPos w.params 69 1) o else TabForm (nestPos w.params 76 0) o
  Qn := fun b => if b = 64 then PySem.Str.ofString "_int2digits.<locals>.inner" else PySem.Str.ofString "_digits2int.<locals>.inner"

theorem k64 (P : Params) : (hc.heap_39 P).lookup 64 = none := by kernel_rfl
theorem k71 (P : Params) : (hc.heap_39 P).lookup 71 = none := by kernel_rfl
theorem law_ref (P : Params) : nsFind (esAt P mainGlobals) (PySem.Str.ofString "law") = some (.ref 159) := by kernel_rfl

theorem tabsAt {w : World} {h : Heap} (K : (hc.heap_39 w.params).In h) (KT : ∀ (P : Addr), P ∈ [71, 64] → h.get? P = some (tabObj #[])) : TabsAt tabs h := by
  refine List.forall_mem_cons.mpr ⟨⟨codeHd_of_K K (by kernel_rfl), KT 71 (by decide)⟩, List.forall_mem_cons.mpr ⟨⟨codeHd_of_K K (by kernel_rfl), KT 64 (by decide)⟩, fun _ h => nomatch h⟩⟩

theorem sit_of {w : World} {h : Heap} {p : Program} {loose : List PySem.Str} {mean : ExcName → Option Value} {mg mb : PySem.Str → Option Value} (K : (hc.heap_39 w.params).In h) (KT : ∀ (P : Addr), P ∈ [71, 64] → h.get? P = some (tabObj #[])) (T : Top p loose mean mg mb h) : Sit2 (cxOf w h) := by
  have hT := tabsAt K KT
  have g64 : (ghostOf h tabs).get? 64 = none := hideAll_none _ (by decide)
  have g71 : (ghostOf h tabs).get? 71 = none := hideAll_none _ (by decide)
  exact {
    K := fun a o e => by
      refine ghost_ne (K a o e) fun q => ?_
      have : a = 71 ∨ a = 64 := by
        simp [tabs] at q; exact q
      rcases this with rfl | rfl
      · have e : (hc.heap_39 w.params).lookup 71 = some o := e
        rw [k71] at e; cases e
      · have e : (hc.heap_39 w.params).lookup 64 = some o := e
        rw [k64] at e; cases e
    b := ⟨mb, ghost_ns hT T.b, fun x hx => T.builtins x hx⟩
    lim := let ⟨mc, a, r⟩ := T.nolimit; ⟨mc, ghost_ns hT a, r⟩
    bm := by
      obtain ⟨bm, ob, a1, a2, a3, a4, r⟩ := T.bmain
      exact ⟨mg, bm, ob, ghost_ns hT T.g, a1, a2, ghost_get hT a3 (fun q => by rw [q] at a4; cases a4), a4, r⟩
    tb := fun b => Iff.rfl
    t1 := fun o => Iff.rfl
    t2 := fun o => Iff.rfl
    q1 := rfl
    q2 := rfl
    g1 := g64
    g2 := g71 }

theorem j_of {w : World} {h : Heap} (KT : ∀ (P : Addr), P ∈ [71, 64] → h.get? P = some (tabObj #[])) : J (cxOf w h) h where
  ext := fun b o e => of_hideAll _ e
  tab := fun b hb => by
    rcases hb with rfl | rfl
    · exact ⟨_, KT 64 (by decide), show TabForm _ _ from .inl rfl⟩
    · exact ⟨_, KT 71 (by decide), show TabForm _ _ from .inl rfl⟩
  cod := fun b o ps x hb e hd hm => by
    rcases hb with rfl | rfl
    · rw [KT 64 (by decide)] at e; cases e; cases hd; simp at hm
    · rw [KT 71 (by decide)] at e; cases e; cases hd; simp at hm

theorem oldK_of {w : World} {h h' : Heap} (K : (hc.heap_39 w.params).In h) (KT : ∀ (P : Addr), P ∈ [71, 64] → h.get? P = some (tabObj #[])) (st : Step (cxOf w h) h h') : OldK h h' := by
  have hT := tabsAt K KT
  have grown : ∀ b o, (b = 64 ∨ b = 71) → h.get? b = some o → isCodeTable h b ∧ o = tabObj #[] ∧ ∃ ps, h'.get? b = some (tabObj ps) := fun b o hb e => by
    obtain ⟨o', e', t⟩ := st.j.tab b hb
    have tf : ∃ ps, o' = tabObj ps := by
      rcases hb with rfl | rfl
      · have t : TabForm _ o' := t
        rcases t with rfl | ⟨x, rfl⟩ <;> exact ⟨_, rfl⟩
      · have t : TabForm _ o' := t
        rcases t with rfl | ⟨x, rfl⟩ <;> exact ⟨_, rfl⟩
    obtain ⟨ps, rfl⟩ := tf
    have hmem : ∃ q ∈ tabs, q.2 = b := by
      rcases hb with rfl | rfl
      · exact ⟨(68, 64), by decide, rfl⟩
      · exact ⟨(75, 71), by decide, rfl⟩
    obtain ⟨q, hq, rfl⟩ := hmem
    have e2 := (hT q hq).2
    rw [e] at e2
    exact ⟨((hT q hq).1.tab (hT q hq).2).isCodeTable, Option.some.inj e2, ps, e'⟩
  refine ⟨fun b o e => ?_, fun b o e => ?_⟩
  · by_cases hb : b = 64 ∨ b = 71
    · obtain ⟨ht, rfl, ps, hP⟩ := grown b o hb e
      exact .inr (.inl ⟨ht, rfl, #[], ps, rfl, by rw [Array.empty_append]; exact hP⟩)
    · exact .inl (st.kept b o e hb)
  · by_cases hb : b = 64 ∨ b = 71
    · obtain ⟨_, _, ps, hP⟩ := grown b o hb e
      exact ⟨_, hP⟩
    · exact ⟨o, st.kept b o e hb⟩

theorem room_law : Room callerA 30 := ⟨rfl, by decide, by decide⟩

set_option maxHeartbeats 8000000 in
theorem joined (H : ∀ (c : Cx), Sit2 c → ∀ xs : List Int, xs.length ≤ 63 → LawOK c 30 159 [.lst (intL xs)] (.bool true)) : PySem.Challenge.rw_zo0009_01.Holds := by
  refine hc ?_
  intro w s₀ s₁ mg mb G Y fa o pm cd doc dV kV ho hd hcd hD hmg hg args vals as hpre hlay hrd hwl hlo
  have KX := km_in_of Y
  have KT := km_tabs_of Y
  have T := G.T
  clear hd hcd hD
  have S := sit_of KX KT T
  have hfa : fa = 159 := by
    obtain ⟨oM, es, ep, eM, hdM, _, hf⟩ := T.g
    have e3 := KX _ _ (ent3 w.params)
    rw [e3] at eM; cases eM
    cases hdM
    have e1 := (hf (PySem.Str.ofString "law")).symm.trans (law_ref w.params)
    have e2 : mg (PySem.Str.ofString "law") = some (.ref fa) := hmg
    rw [e2] at e1
    cases e1; rfl
  subst hfa
  wrow_args hpre hlay hrd hwl hlo
  rename_i xs _ _ _ _ _ _ _ a _ _ _ _ w1 _ _ _ hlen _
  obtain ⟨vs, ha, hvs⟩ := well_list w1
  have J₁ := j_of (w := w) KT
  have na : ¬ (a = 64 ∨ a = 71) := fun q => by
    rcases q with rfl | rfl
    · rw [KT 64 (by decide)] at ha; cases ha
    · rw [KT 71 (by decide)] at ha; cases ha
  refine H (cxOf w s₁.heap) S xs (by omega) callerA s₁ (fun b => b = 64 ∨ b = 71) [.ref a] _ _ room_law rfl J₁ (fun b q => q) (fun b q => ?_) (DenL.cons ?_ DenL.nil) fun v h' tk hp st d => ?_
  · rcases q with rfl | rfl
    · exact ⟨_, KT 64 (by decide)⟩
    · exact ⟨_, KT 71 (by decide)⟩
  · unfold Den
    exact ⟨a, vs, 0, rfl, na, ha, hvs _ _⟩
  · obtain rfl := den_bool d
    refine ⟨.inl ⟨.bool true, .bool true, [], rfl, fun _ => rfl, .bool true, ?_, fun _ => ⟨List.nodup_nil, fun _ h => nomatch h⟩⟩, oldK_of KX KT st, rfl, .of_eq hg⟩
    wrow_post
end Mine
end

section
open PySem PySem.W
set_option Elab.async false
set_option linter.unusedVariables false
namespace Mine

noncomputable def ok01 (ds : List Int) : Bool := Nat.ble ds.length 3 && ds.all fun d => decide (0 ≤ d) && decide (d ≤ 1)
noncomputable def G0 (f : Nat) (args : List PV) : Option PV :=
  if (f == 3) = true then o2 args fun a b => oInt a fun x => oInt b fun k => if (decide (k = 2) && decide (0 ≤ x) && decide (x < 64)) = true then some (.lst (intL (figs x))) else none
  else if (f == 4) = true then o2 args fun a b => oLst a fun l => oInt b fun k => if decide (k = 1) = true then (intsOf l).bind fun ds => if ok01 ds = true then some (.int (undR ds 0 ds.length)) else none else none
  else none

noncomputable def stp (G : Nat → List PV → Option PV) (k np nv : Nat) (ps : List PS) : Nat → List PV → Option PV := lay G k fun args => if args.length == np then run G 60 nv ps args else none
noncomputable def Ga := stp G0 0 1 3 body0
noncomputable def Gb := stp Ga 1 1 1 body1
noncomputable def Gc := stp Gb 5 2 2 body5
noncomputable def Gd := stp Gc 6 2 2 body6
noncomputable def Ge := stp Gd 7 2 2 body7
noncomputable def Gf := stp Ge 8 2 2 body8
noncomputable def Gg := stp Gf 2 2 3 body2
noncomputable def Gh := stp Gg 10 2 5 body10
noncomputable def Gi := stp Gh 11 1 8 body11
noncomputable def Gj := stp Gi 12 2 3 body12
noncomputable def Gk := stp Gj 13 2 2 body13
noncomputable def Gl := stp Gk 14 2 2 body14
noncomputable def Gm := stp Gl 15 2 11 body15
noncomputable def Gn := stp Gm 16 2 11 body16
end Mine
end

section
open PySem PySem.W
set_option Elab.async false
set_option linter.unusedVariables false
namespace Mine
section
variable {G : Nat → List PV → Option PV} {n : Nat} {σ : Sg}
theorem bd_go {α β : Type} {o : Option α} {f : α → Option β} {a : α} (h : o = some a) : o.bind f = f a := by subst h; rfl
theorem ev_var {i : Nat} {v : PV} (h : σ[i]? = some (some (.im v))) : ev G (n + 1) false σ (.var i) = some v := oIm_in h
theorem ev_const {c : PV} : ev G (n + 1) false σ (.const c) = some c := rfl
theorem ev_bin {op : BOp} {l r : PE} {a b v : PV} (h1 : ev G n false σ l = some a) (h2 : ev G n false σ r = some b) (h3 : binPV op a b = some v) : ev G (n + 1) false σ (.bin op l r) = some v := bd_in h1 (bd_in h2 h3)
theorem ev_cmp {op : COp} {l r : PE} {a b : PV} {z : Bool} (h1 : ev G n false σ l = some a) (h2 : ev G n false σ r = some b) (h3 : cmpPV op a b = some z) : ev G (n + 1) false σ (.cmp op l r) = some (.bool z) := bd_in h1 (bd_in h2 (mp_in h3 rfl))
theorem evT_cmp {op : COp} {l r : PE} {a b : PV} {z : Bool} (h1 : ev G n false σ l = some a) (h2 : ev G n false σ r = some b) (h3 : cmpPV op a b = some z) : ev G (n + 1) true σ (.cmp op l r) = some (.bool z) := bd_in h1 (bd_in h2 (mp_in h3 rfl))
theorem evT_not {t : PE} {z : Bool} (h1 : ev G n true σ t = some (.bool z)) : ev G (n + 1) true σ (.not t) = some (.bool (!z)) := bd_in h1 rfl
theorem evT_or {l r : PE} {y z : Bool} (h1 : ev G n true σ l = some (.bool y)) (h2 : ev G n true σ r = some (.bool z)) : ev G (n + 1) true σ (.or l r) = some (.bool (y || z)) := bd_in h1 (by cases y with | true => rfl | false => exact h2)
theorem ev_and {l r : PE} {y z : Bool} (h1 : ev G n false σ l = some (.bool y)) (h2 : ev G n false σ r = some (.bool z)) : ev G (n + 1) false σ (.and l r) = some (.bool (y && z)) := bd_in h1 (by cases y with | true => exact h2 | false => rfl)
theorem ev_tup {es : List PE} {vs : List PV} (hf : fits es.length = true) (h : evL (ev G n false σ) es = some vs) : ev G (n + 1) false σ (.tup es) = some (.tup vs) := if_in hf (mp_in h rfl)
theorem ev_lst {es : List PE} {vs : List PV} (hf : fits es.length = true) (h : evL (ev G n false σ) es = some vs) : ev G (n + 1) false σ (.lst es) = some (.lst vs) := if_in hf (mp_in h rfl)
theorem ev_idx {e i : PE} {a b v : PV} (h1 : ev G n false σ e = some a) (h2 : ev G n false σ i = some b) (h3 : idxPV a b = some v) : ev G (n + 1) false σ (.idx e i) = some v := bd_in h1 (bd_in h2 h3)
theorem ev_lo {e i : PE} {a b v : PV} (h1 : ev G n false σ e = some a) (h2 : ev G n false σ i = some b) (h3 : slicePV a (some b) none = some v) : ev G (n + 1) false σ (.slice e (some i) none) = some v := bd_in h1 (bd_in (mp_in h2 rfl) (bd_in rfl h3))
theorem ev_hi {e i : PE} {a b v : PV} (h1 : ev G n false σ e = some a) (h2 : ev G n false σ i = some b) (h3 : slicePV a none (some b) = some v) : ev G (n + 1) false σ (.slice e none (some i)) = some v := bd_in h1 (bd_in rfl (bd_in (mp_in h2 rfl) h3))
theorem ev_call {f : Nat} {es : List PE} {vs : List PV} {v : PV} (h : evL (ev G n false σ) es = some vs) (hg : G f vs = some v) : ev G (n + 1) false σ (.call f es) = some v := bd_in h hg
theorem ev_bi {f : BI} {es : List PE} {vs : List PV} {v : PV} (h : evL (ev G n false σ) es = some vs) (hg : biPV f vs = some v) : ev G (n + 1) false σ (.bi f es) = some v := bd_in h hg
theorem ev_meth {m : Me} {o : PE} {es : List PE} {a : PV} {vs : List PV} {v : PV} (h0 : ev G n false σ o = some a) (h : evL (ev G n false σ) es = some vs) (hg : mePV m a vs = some v) : ev G (n + 1) false σ (.meth m o es) = some v := bd_in h0 (bd_in h hg)
theorem ev_repl {o : PE} {a b : Nat} {l : List Nat} (h0 : ev G n false σ o = some (.str l)) (hf : fits l.length = true) (hab : (a == b) = false) : ev G (n + 1) false σ (.repl o a b) = some (.str (PySem.Txt.replace (S l) (S [a]) (S [b])).cps.toList) := bd_in h0 (if_in (by rw [hf, hab]; rfl) rfl)
theorem ev_comp {elt : PE} {tg : Tg} {k : SK} {args : List PE} {caps : List Nat} {vs items xs : List PV} (h : evL (ev G n false σ) args = some vs) (h2 : srcPV k vs = some items) (h3 : evC (fun σ' => ev G n false σ' elt) tg (compSg tg (capsOf σ caps)) items = some xs) : ev G (n + 1) false σ (.comp elt tg k args caps) = some (.lst xs) := bd_in h (bd_in h2 (mp_in h3 rfl))
theorem ev_cells {j : Nat} {l : List UInt8} (h : σ[j]? = some (some (.im (.bytes l)))) (hf : fits l.length = true) (h2 : (l.length % 2 == 0) = true) : ev G (n + 1) false σ (.cellsOf j) = some (.cells (pairsOf l)) := (oIm_in h).trans (if_in (by rw [hf, h2]; rfl) rfl)
theorem ev_countC {i : Nat} {e : PE} {l : List (Int × Int)} {k : Int} {p : Int × Int} (h : σ[i]? = some (some (.im (.cells l)))) (hf : fits l.length = true) (h1 : ev G n false σ e = some (.int k)) (h0 : 0 ≤ k) (hk : k < l.length) (hp : l[k.toNat]? = some p) : ev G (n + 1) false σ (.countC i e) = some (.int (countP p l)) := (oIm_in h).trans (if_in hf (bd_in h1 (if_in (by rw [decide_eq_true h0, decide_eq_true hk]; rfl) (bd_in hp rfl))))
theorem evL_nil {f : PE → Option PV} : evL f [] = some [] := rfl
theorem evL_c {f : PE → Option PV} {e : PE} {es : List PE} {v : PV} {vs : List PV} (h : f e = some v) (h2 : evL f es = some vs) : evL f (e :: es) = some (v :: vs) := bd_in h (mp_in h2 rfl)

theorem ex_set {i : Nat} {e : PE} {v : PV} (h : ev G n false σ e = some v) : ex G (n + 1) (.set i e) σ = some (.next (σ.set i (some (.im v)))) := mp_in h rfl
theorem ex_set2 {i j : Nat} {e : PE} {a b : PV} (h : ev G n false σ e = some (.tup [a, b])) : ex G (n + 1) (.set2 i j e) σ = some (.next ((σ.set i (some (.im a))).set j (some (.im b)))) := bd_in h rfl
theorem ex_own {i : Nat} {es : List PE} {vs : List PV} (hf : fits es.length = true) (h : evL (ev G n false σ) es = some vs) : ex G (n + 1) (.setOwn i es) σ = some (.next (σ.set i (some (.own vs)))) := if_in hf (mp_in h rfl)
theorem ex_app {i : Nat} {e : PE} {l : List PV} {v : PV} (h0 : σ[i]? = some (some (.own l))) (h : ev G n false σ e = some v) (hf : fits l.length = true) : ex G (n + 1) (.app i e) σ = some (.next (σ.set i (some (.own (l ++ [v]))))) := (oOwn_in h0).trans (bd_in h (if_in hf rfl))
theorem ex_iteF {t : PE} {a b : List PS} (h : ev G n true σ t = some (.bool false)) : ex G (n + 1) (.ite t a b) σ = exL (ex G n) b σ := bd_go h
theorem ex_iteT {t : PE} {a b : List PS} (h : ev G n true σ t = some (.bool true)) : ex G (n + 1) (.ite t a b) σ = exL (ex G n) a σ := bd_go h
theorem ex_loop {tg : Tg} {k : SK} {args : List PE} {body : List PS} {vs items : List PV} (h : evL (ev G n false σ) args = some vs) (h2 : srcPV k vs = some items) : ex G (n + 1) (.loop tg k args body) σ = loopR (exL (ex G n) body) tg items σ := (bd_go h).trans (bd_go h2)
theorem ex_ret {e : PE} {v : PV} (h : ev G n false σ e = some v) : ex G (n + 1) (.ret e) σ = some (.ret v) := mp_in h rfl
theorem ex_freezeN {i : Nat} {l : List PV} (h0 : σ[i]? = some (some (.own l))) : ex G (n + 1) (.freeze i) σ = some (.next (σ.set i (some (.im (.lst l))))) := oOwn_in h0
theorem exL_c {f : PS → Sg → Option Res} {s : PS} {r : List PS} {σ' : Sg} (h : f s σ = some (.next σ')) : exL f (s :: r) σ = exL f r σ' := bd_go h
theorem exL_r {f : PS → Sg → Option Res} {s : PS} {r : List PS} {v : PV} (h : f s σ = some (.ret v)) : exL f (s :: r) σ = some (.ret v) := bd_go h
theorem exL_n {f : PS → Sg → Option Res} : exL f [] σ = some (.next σ) := rfl

/-- a loop by what holds of the names -/
theorem loop_inv {f : Sg → Option Res} {tg : Tg} (P : Nat → Sg → Prop) : ∀ (items : List PV) (k : Nat) (σ : Sg), P k σ →
    (∀ j v σ, items[j]? = some v → P (k + j) σ → ∃ σ₁ σ₂, bindTg tg v σ = some σ₁ ∧ f σ₁ = some (.next σ₂) ∧ P (k + j + 1) σ₂) → ∃ σ', loopR f tg items σ = some (.next σ') ∧ P (k + items.length) σ'
  | [], k, σ, h, _ => ⟨σ, rfl, h⟩
  | v :: r, k, σ, h, hs => by
    obtain ⟨σ₁, σ₂, e1, e2, h2⟩ := hs 0 v σ rfl h
    obtain ⟨σ', e3, h3⟩ := loop_inv P r (k + 1) σ₂ h2 fun j u τ hj hp => by
      have := hs (j + 1) u τ (by simpa using hj) (by rw [show k + (j + 1) = k + 1 + j by omega]; exact hp)
      rw [show k + (j + 1) + 1 = k + 1 + j + 1 by omega] at this
      exact this
    refine ⟨σ', ?_, ?_⟩
    · exact (bd_go e1).trans ((bd_go e2).trans e3)
    · rw [List.length_cons, show k + (r.length + 1) = k + 1 + r.length by omega]; exact h3
end
end Mine
end

section
open PySem PySem.W PyProof.Rows
set_option Elab.async false
set_option linter.unusedVariables false
namespace Mine

/-- the address of place j with k figures -/
noncomputable def adr : Nat → Nat → List Nat
  | 0, _ => [120]
  | k + 1, j => adr k (j / 4) ++ [46, 48 + j % 4]
noncomputable def hst : Nat → Nat → List Nat
  | 0, _ => [120]
  | k + 1, j => (97 + j % 4) :: 46 :: hst k (j / 4)
noncomputable def lad : Nat → Nat → List PV
  | 0, _ => [.str [120]]
  | k + 1, j => .str (adr (k + 1) j) :: lad k (j / 4)
noncomputable def upS (l : List Nat) : List Nat := l.map up1
noncomputable def bsl (l : List Nat) : List Nat := (PySem.Txt.replace (S l) (S [46]) (S [92])).cps.toList ++ [121]
structure LawG (G : Nat → List PV → Option PV) (o : Nat) (row : List UInt8) (cl : List (Int × Int)) : Prop where
  o1 : 1 ≤ o
  o3 : o ≤ 3
  grown : G 11 [.int o] = some (.bytes row)
  rowf : fits row.length = true
  rowe : (row.length % 2 == 0) = true
  rowc : pairsOf row = cl
  len : cl.length = 4 ^ o
  addr : ∀ p : Nat, p < 4 ^ o → G 13 [.int p, .int o] = some (.str (adr o p))
  host : ∀ p : Nat, p < 4 ^ o → G 14 [.int p, .int o] = some (.str (hst o p))
  told : ∀ (p : Nat) (c : Int × Int), cl[p]? = some c → G 15 [.str (adr o p), .int o] = some (.tup [.lst (lad o p), .tup [.int c.1, .int c.2]])
  led : ∀ (p : Nat) (c : Int × Int), cl[p]? = some c → G 16 [.str (bsl (adr o p)), .int o] = some (.tup [.str [120, 121], .tup [.int c.1, .int c.2]])
  bln : ∀ p : Nat, p < 4 ^ o → (bsl (adr o p)).length ≤ 1000
  step : ∀ (p : Nat) (c d : Int × Int), cl[p]? = some c → cl[p + 1]? = some d → ((d.1 - c.1).natAbs : Int) + ((d.2 - c.2).natAbs : Int) = 1
  once : ∀ (p : Nat) (c : Int × Int), cl[p]? = some c → countP c cl = 1
  sml : ∀ (p : Nat) (c : Int × Int), cl[p]? = some c → small c.1 = true ∧ small c.2 = true
  near : ∀ (p q : Nat) (c d : Int × Int) (f : Nat), f ≤ o → cl[p]? = some c → cl[q]? = some d → ((c.1 / 2 ^ f = d.1 / 2 ^ f ∧ c.2 / 2 ^ f = d.2 / 2 ^ f) ↔ p / 4 ^ f = q / 4 ^ f)
  udA : ∀ p, p < 4 ^ o → G 2 [.str (adr o p), .str ((adr o p).drop 1)] = some (.bool false)
  udB : ∀ p, p < 4 ^ o → G 2 [.str (hst o p), .str [120]] = some (.bool false)
  udC : ∀ p q f, f ≤ o → p < 4 ^ o → q < 4 ^ o → G 2 [.str (upS (hst o p)), .str (46 :: hst (o - f) (q / 4 ^ f))] = some (.bool (decide (0 < f) && decide (p / 4 ^ f = q / 4 ^ f)))
  udD : ∀ p q f, f ≤ o → p < 4 ^ o → q < 4 ^ o → G 2 [.str (adr (o - f) (p / 4 ^ f)), .str (upS (adr (o - f) (q / 4 ^ f)))] = some (.bool (decide (p / 4 ^ f = q / 4 ^ f)))

theorem adr_len : ∀ k j, (adr k j).length = 2 * k + 1
  | 0, _ => rfl
  | k + 1, j => by simp [adr, adr_len k]; omega
theorem hst_len : ∀ k j, (hst k j).length = 2 * k + 1
  | 0, _ => rfl
  | k + 1, j => by simp [hst, hst_len k]; omega
theorem hst_drop : ∀ f k j, f ≤ k → (hst k j).drop (2 * f) = hst (k - f) (j / 4 ^ f)
  | 0, k, j, _ => by simp
  | f + 1, 0, j, h => by omega
  | f + 1, k + 1, j, h => by
    rw [show 2 * (f + 1) = 2 * f + 2 by omega, hst, List.drop_succ_cons, List.drop_succ_cons, hst_drop f k (j / 4) (by omega), Nat.div_div_eq_div_mul, ← Nat.pow_succ', show k + 1 - (f + 1) = k - f by omega]
theorem lad_get : ∀ f k j, f ≤ k → (lad k j)[f]? = some (.str (adr (k - f) (j / 4 ^ f)))
  | 0, 0, j, _ => by simp [lad, adr]
  | 0, k + 1, j, _ => by simp [lad]
  | f + 1, 0, j, h => by omega
  | f + 1, k + 1, j, h => by
    rw [lad, List.getElem?_cons_succ, lad_get f k (j / 4) (by omega), Nat.div_div_eq_div_mul, ← Nat.pow_succ', show k + 1 - (f + 1) = k - f by omega]
theorem lad_len : ∀ k j, (lad k j).length = k + 1
  | 0, _ => rfl
  | k + 1, j => by simp [lad, lad_len k]
theorem ascii_adr : ∀ k j, ascii (adr k j) = true
  | 0, _ => rfl
  | k + 1, j => by
    have h := ascii_adr k (j / 4)
    unfold ascii at h ⊢
    rw [adr, List.all_append, h]
    have : j % 4 < 4 := Nat.mod_lt _ (by decide)
    simp [Nat.blt_eq]; omega
theorem ascii_hst : ∀ k j, ascii (hst k j) = true
  | 0, _ => rfl
  | k + 1, j => by
    have h := ascii_hst k (j / 4)
    unfold ascii at h ⊢
    rw [hst, List.all_cons, List.all_cons, h]
    have : j % 4 < 4 := Nat.mod_lt _ (by decide)
    simp [Nat.blt_eq]; omega
theorem upper_ev {l : List Nat} (ha : ascii l = true) (hf : fits l.length = true) : mePV .upper (.str l) [] = some (.str (upS l)) := by
  simp [mePV, oStr, o0, ha, hf, upS]
theorem fits_of {n : Nat} (h : n ≤ 100000) : fits n = true := by simpa [fits] using h

theorem eqv_pair {a b c d : Int} : eqPV (.lst [.int a, .int b]) (.lst [.int c, .int d]) = some (decide (a = c ∧ b = d)) := by
  have e : PyData.eqv (.list [.int a, .int b]) (.list [.int c, .int d]) = decide (a = c ∧ b = d) := by
    rw [Bool.eq_iff_iff]; simp [PyData.eqv, PyData.eqvAll]
  show (if (PySem.SeqAt.shaped (.list [.int a, .int b]) && PySem.SeqAt.shaped (.list [.int c, .int d])) = true then some (PyData.eqv (.list [.int a, .int b]) (.list [.int c, .int d])) else none) = _
  rw [if_pos (by rfl), e]
theorem eqv_cell {a b c d : Int} : eqPV (.tup [.int a, .int b]) (.tup [.int c, .int d]) = some (decide (a = c ∧ b = d)) := by
  have e : PyData.eqv (.tuple [.int a, .int b]) (.tuple [.int c, .int d]) = decide (a = c ∧ b = d) := by
    rw [Bool.eq_iff_iff]; simp [PyData.eqv, PyData.eqvAll]
  show (if (PySem.SeqAt.shaped (.tuple [.int a, .int b]) && PySem.SeqAt.shaped (.tuple [.int c, .int d])) = true then some (PyData.eqv (.tuple [.int a, .int b]) (.tuple [.int c, .int d])) else none) = _
  rw [if_pos (by rfl), e]
theorem eqv_led {a b : Int} : eqPV (.tup [.str [120, 121], .tup [.int a, .int b]]) (.tup [.str [120, 121], .tup [.int a, .int b]]) = some true := by
  have e : PyData.eqv (.tuple [.str ⟨#[120, 121]⟩, .tuple [.int a, .int b]]) (.tuple [.str ⟨#[120, 121]⟩, .tuple [.int a, .int b]]) = true := PySem.SeqAt.eqv_refl _ (by kernel_rfl)
  show (if (PySem.SeqAt.shaped (.tuple [.str ⟨#[120, 121]⟩, .tuple [.int a, .int b]]) && PySem.SeqAt.shaped (.tuple [.str ⟨#[120, 121]⟩, .tuple [.int a, .int b]])) = true then some (PyData.eqv (.tuple [.str ⟨#[120, 121]⟩, .tuple [.int a, .int b]]) (.tuple [.str ⟨#[120, 121]⟩, .tuple [.int a, .int b]])) else none) = _
  rw [if_pos (by kernel_rfl), e]
end Mine
end

section
open PySem PySem.W PyProof.Rows
set_option Elab.async false
set_option linter.unusedVariables false
namespace Mine
section
variable {G : Nat → List PV → Option PV} {n : Nat} {σ : Sg}

theorem shr_val {a : Int} {f : Nat} (ha : small a = true) (hf : f ≤ 60) : binPV .shr (.int a) (.int f) = some (.int (a / 2 ^ f)) := if_in (by rw [ha, decide_eq_true (Int.natCast_nonneg f), decide_eq_true (show (f : Int) ≤ 60 by omega)]; rfl) rfl

theorem evC_c {f : Sg → Option PV} {tg : Tg} {v x : PV} {r xs : List PV} {σ' : Sg} (hb : bindTg tg v σ = some σ') (hf : f σ' = some x) (hr : evC f tg σ r = some xs) : evC f tg σ (v :: r) = some (x :: xs) := bd_in hb (bd_in hf (mp_in hr rfl))
theorem evC_n {f : Sg → Option PV} {tg : Tg} : evC f tg σ [] = some [] := rfl

/-- [half >> off for half in cell] -/
theorem ev_halves {e : PE} {a b : Int} {f : Nat} (h : ev G (n + 2) false σ e = some (.tup [.int a, .int b])) (ha : small a = true) (hb : small b = true) (hf : f ≤ 60) (hc : capsOf σ [18] = [some (AV.im (.int f))]) :
    ev G (n + 2 + 1) false σ (.comp (.bin .shr (.var 0) (.var 1)) (.one 0) .direct [e] [18]) = some (.lst [.int (a / 2 ^ f), .int (b / 2 ^ f)]) := by
  refine ev_comp (items := [.int a, .int b]) (evL_c h evL_nil) rfl ?_
  rw [hc]
  exact evC_c (σ' := [some (.im (.int a)), some (.im (.int f))]) rfl (ev_bin (ev_var rfl) (ev_var rfl) (shr_val ha hf)) (evC_c (σ' := [some (.im (.int b)), some (.im (.int f))]) rfl (ev_bin (ev_var rfl) (ev_var rfl) (shr_val hb hf)) evC_n)

theorem ex_augIdx {i : Nat} {ix e : PE} {l : List PV} {k a b : Int} (h0 : σ[i]? = some (some (.own l))) (h1 : ev G n false σ ix = some (.int k)) (hk0 : 0 ≤ k) (hk : k < l.length) (hf : fits l.length = true) (ha : l[k.toNat]? = some (.int a)) (h2 : ev G n false σ e = some (.int b)) :
    ex G (n + 1) (.augIdx i ix e) σ = some (.next (σ.set i (some (.own (l.set k.toNat (.int (a + b))))))) := (oOwn_in h0).trans (bd_in h1 (if_in (by rw [decide_eq_true hk0, decide_eq_true hk, hf]; rfl) (bd_in ha (bd_in h2 rfl))))

theorem in_range {α : Type} {l : List α} {k : Nat} {v : α} (h : l[k]? = some v) : (decide ((0 : Int) ≤ (k : Int)) && decide ((k : Int) < (l.length : Int))) = true := by
  obtain ⟨h', _⟩ := List.getElem?_eq_some_iff.mp h
  rw [decide_eq_true (Int.natCast_nonneg k), decide_eq_true (show (k : Int) < (l.length : Int) by omega)]; rfl
theorem idx_lst {l : List PV} {k : Nat} {v : PV} (h : l[k]? = some v) (hf : l.length ≤ 100000) : idxPV (.lst l) (.int k) = some v := if_in (fits_of hf) ((if_pos (by rw [in_range h])).trans h)
theorem idx_last {l : List PV} {v : PV} (h : l[l.length - 1]? = some v) (hf : l.length ≤ 100000) : idxPV (.lst l) (.int (-1)) = some v := if_in (fits_of hf) ((if_neg (by simp)).trans (if_in (by
    obtain ⟨h', _⟩ := List.getElem?_eq_some_iff.mp h
    rw [decide_eq_true (show -(l.length : Int) ≤ (-1 : Int) by omega)]; rfl) (by
    rw [show ((-1 : Int) + (l.length : Int)).toNat = l.length - 1 by omega]; exact h)))
theorem idx_cell {l : List (Int × Int)} {k : Nat} {c : Int × Int} (h : l[k]? = some c) (hf : l.length ≤ 100000) : idxPV (.cells l) (.int k) = some (.tup [.int c.1, .int c.2]) := if_in (by rw [in_range h, fits_of hf]; rfl) (mp_in h rfl)
theorem idx_tup0 {a b : PV} : idxPV (.tup [a, b]) (.int 0) = some a := rfl
theorem idx_tup1 {a b : PV} : idxPV (.tup [a, b]) (.int 1) = some b := rfl
theorem slice_str {l : List Nat} {k : Nat} (h : k ≤ l.length) (hf : l.length ≤ 100000) : slicePV (.str l) (some (.int k)) none = some (.str (l.drop k)) := if_in (by rw [decide_eq_true (Int.natCast_nonneg k), decide_eq_true (show (k : Int) ≤ (l.length : Int) by omega), fits_of hf]; rfl) rfl
theorem small_nat {f : Nat} (hf : f ≤ 60) : small (f : Int) = true := by
  unfold small
  rw [decide_eq_true (show -(2 ^ 62) < (f : Int) by omega), decide_eq_true (show (f : Int) < 2 ^ 62 by omega)]; rfl
theorem mul_v {i j : Int} (h : small i = true) (h' : small j = true) : binPV .mul (.int i) (.int j) = some (.int (i * j)) := if_in (by rw [h, h']; rfl) rfl
theorem mul2_v {f : Nat} (hf : f ≤ 60) : binPV .mul (.int 2) (.int (f : Int)) = some (.int ((2 * f : Nat) : Int)) := mul_v (small_nat (f := 2) (by decide)) (small_nat hf)
theorem add_str_v {a b : List Nat} (h : a.length + b.length ≤ 100000) : binPV .add (.str a) (.str b) = some (.str (a ++ b)) := if_in (fits_of h) rfl
theorem len_v {l : List PV} (h : l.length ≤ 100000) : biPV .len [.lst l] = some (.int l.length) := if_in (fits_of h) rfl
theorem len_c {l : List (Int × Int)} (h : l.length ≤ 100000) : biPV .len [.cells l] = some (.int l.length) := if_in (fits_of h) rfl
theorem range_v {k : Nat} (h : k ≤ 1000) : srcPV .range [.int k] = some (rangeL 0 1 k) := if_in (by rw [decide_eq_true (show (k : Int) ≤ 100000 by omega), decide_eq_true (show (-100000 : Int) ≤ (k : Int) by omega)]; rfl) rfl
end

/-- the names of the law -/
noncomputable def sg (a0 a1 a2 a3 : Option AV) (o : Nat) (row : Option AV) (cl : List (Int × Int)) (pl : List Nat) (fs : List Nat) (l9 : Option AV) (b10 b11 b12 b13 b14 b15 b16 b17 b18 b19 b20 b21 : Option AV) : Sg :=
  [a0, a1, a2, a3, some (.im (.int o)), row, some (.im (.cells cl)), some (.im (.lst (pl.map fun (p : Nat) => PV.int (p : Int)))), some (.im (.str fs)), l9, b10, b11, b12, b13, b14, b15, b16, b17, b18, b19, b20, b21]

noncomputable def nearBody : List PS := [.set 19 (.cmp .eq (.comp (.bin .shr (.var 0) (.var 1)) (.one 0) .direct [.var 13] [18]) (.comp (.bin .shr (.var 0) (.var 1)) (.one 0) .direct [.idx (.var 6) (.idx (.var 7) (.const (.int 0)))] [18])),
  .ite (.cmp .isnt (.call 2 [.meth .upper (.var 15) [], .bin .add (.const (.str [46])) (.slice (.var 8) (some (.bin .mul (.const (.int 2)) (.var 18))) none)]) (.and (.cmp .gt (.var 18) (.const (.int 0))) (.var 19))) [.ret (.const (.bool false))] []]

section
variable {G : Nat → List PV → Option PV} {n : Nat}
variable {o : Nat} {rowL : List UInt8} {cl : List (Int × Int)} (L : LawG G o rowL cl)
include L

theorem LawG.cell {p : Nat} (h : p < 4 ^ o) : ∃ c, cl[p]? = some c := ⟨cl[p]'(by rw [L.len]; exact h), List.getElem?_eq_getElem _⟩
theorem LawG.pow : 4 ^ o ≤ 64 := Nat.pow_le_pow_right (n := 4) (j := 3) (by decide) L.o3
theorem LawG.clen : cl.length ≤ 100000 := by rw [L.len]; exact Nat.le_trans L.pow (by decide)

/-- a host's turn with the first place's host -/
theorem near_turn {a0 a1 a2 a3 row l9 b10 b11 b12 b14 b16 b17 b19 b20 b21 : Option AV} {pl : List Nat} {p q f : Nat} {c : Int × Int} (hq : pl[0]? = some q) (hpl : pl.length = 5) (hp' : p < 4 ^ o) (hq' : q < 4 ^ o) (hc : cl[p]? = some c) (hf : f ≤ o) :
    exL (ex G (n + 8)) nearBody (sg a0 a1 a2 a3 o row cl pl (hst o q) l9 b10 b11 b12 (some (.im (.tup [.int c.1, .int c.2]))) b14 (some (.im (.str (hst o p)))) b16 b17 (some (.im (.int f))) b19 b20 b21) =
      some (.next (sg a0 a1 a2 a3 o row cl pl (hst o q) l9 b10 b11 b12 (some (.im (.tup [.int c.1, .int c.2]))) b14 (some (.im (.str (hst o p)))) b16 b17 (some (.im (.int f))) (some (.im (.bool (decide (p / 4 ^ f = q / 4 ^ f))))) b20 b21)) := by
  obtain ⟨d, hd⟩ := L.cell hq'
  have ho := L.o3
  obtain ⟨sc1, sc2⟩ := L.sml p c hc
  obtain ⟨sd1, sd2⟩ := L.sml q d hd
  have e1 : eqPV (.lst [.int (c.1 / 2 ^ f), .int (c.2 / 2 ^ f)]) (.lst [.int (d.1 / 2 ^ f), .int (d.2 / 2 ^ f)]) = some (decide (p / 4 ^ f = q / 4 ^ f)) := by
    rw [eqv_pair]
    congr 1
    rw [decide_eq_decide]
    exact L.near p q c d f hf hc hd
  have hidx : idxPV (.lst (pl.map fun (p : Nat) => PV.int (p : Int))) (.int ((0 : Nat) : Int)) = some (.int (q : Int)) := idx_lst (by simp [hq]) (by simp [hpl])
  refine (exL_c (ex_set (ev_cmp (op := .eq) (ev_halves (f := f) (ev_var rfl) sc1 sc2 (by omega) rfl) (ev_halves (f := f) (ev_idx (ev_var rfl) (ev_idx (ev_var rfl) ev_const hidx) (idx_cell hd L.clen)) sd1 sd2 (by omega) rfl) e1))).trans ?_
  have hl := hst_len o q
  have hdrop : slicePV (.str (hst o q)) (some (.int ((2 * f : Nat) : Int))) none = some (.str ((hst o q).drop (2 * f))) := slice_str (by omega) (by omega)
  rw [hst_drop f o q hf] at hdrop
  have hm := mul2_v (f := f) (by omega)
  have hadd : binPV .add (.str [46]) (.str (hst (o - f) (q / 4 ^ f))) = some (.str (46 :: hst (o - f) (q / 4 ^ f))) := add_str_v (by rw [hst_len]; simp; omega)
  have hgt : cmpPV .gt (.int (f : Int)) (.int 0) = some (decide (0 < f)) := by simp [cmpPV, oInt]
  have hu := L.udC p q f hf hp' hq'
  have hup := upper_ev (ascii_hst o p) (fits_of (by rw [hst_len]; omega))
  refine (exL_c ((ex_iteF (evT_cmp (op := .isnt) (z := false) (ev_call (evL_c (ev_meth (ev_var rfl) evL_nil hup) (evL_c (ev_bin (op := .add) ev_const (ev_lo (ev_var rfl) (ev_bin (op := .mul) ev_const (ev_var rfl) hm) hdrop) hadd) evL_nil)) hu) (ev_and (ev_cmp (op := .gt) (ev_var rfl) ev_const hgt) (ev_var rfl)) ?_)).trans exL_n)).trans exL_n
  simp [cmpPV, isPV, oBool]
end
end Mine
end

section
open PySem PySem.W PyProof.Rows
set_option Elab.async false
set_option linter.unusedVariables false
namespace Mine

noncomputable def placeBody : List PS := [.set 11 (.call 13 [.var 10, .var 4]),
  .set2 12 13 (.call 15 [.var 11, .var 4]),
  .ite (.or (.cmp .ne (.idx (.var 12) (.const (.int (-1)))) (.const (.str [120]))) (.cmp .ne (.var 13) (.idx (.var 6) (.var 10)))) [.ret (.const (.bool false))] [],
  .ite (.cmp .ne (.call 16 [.bin .add (.repl (.var 11) 46 92) (.const (.str [121])), .var 4]) (.tup [.const (.str [120, 121]), .var 13])) [.ret (.const (.bool false))] [],
  .app 9 (.var 12),
  .ite (.cmp .lt (.bin .add (.var 10) (.const (.int 1))) (.bi .len [.var 6])) [.set 14 (.idx (.var 6) (.bin .add (.var 10) (.const (.int 1)))),
  .ite (.cmp .ne (.bin .add (.bi .abs [.bin .sub (.idx (.var 14) (.const (.int 0))) (.idx (.var 13) (.const (.int 0)))]) (.bi .abs [.bin .sub (.idx (.var 14) (.const (.int 1))) (.idx (.var 13) (.const (.int 1)))])) (.const (.int 1))) [.ret (.const (.bool false))] []] [],
  .set 15 (.call 14 [.var 10, .var 4]),
  .loop (.two 16 17) .direct [.lst [.tup [.var 11, .slice (.var 11) (some (.const (.int 1))) none], .tup [.var 15, .const (.str [120])]]] [.ite (.cmp .isnt (.call 2 [.var 16, .var 17]) (.const (.bool false))) [.ret (.const (.bool false))] []],
  .loop (.one 18) .range [.bin .add (.var 4) (.const (.int 1))] nearBody]

theorem loopR_c {f : Sg → Option Res} {tg : Tg} {v : PV} {r : List PV} {σ σ₁ σ₂ : Sg} (hb : bindTg tg v σ = some σ₁) (hf : f σ₁ = some (.next σ₂)) : loopR f tg (v :: r) σ = loopR f tg r σ₂ := by
  exact (bd_go hb).trans (bd_go hf)
theorem loopR_n {f : Sg → Option Res} {tg : Tg} {σ : Sg} : loopR f tg [] σ = some (.next σ) := rfl
theorem int_pos {k : Nat} : (0 : Int) + (k : Int) * 1 = (k : Int) := by omega

theorem lad_last : ∀ k j, (lad k j)[(lad k j).length - 1]? = some (.str [120]) := by
  intro k j
  rw [lad_len, show k + 1 - 1 = k from rfl, lad_get k k j (Nat.le_refl _)]
  simp [adr]

section
variable {G : Nat → List PV → Option PV} {n : Nat}
variable {o : Nat} {rowL : List UInt8} {cl : List (Int × Int)} (L : LawG G o rowL cl)
include L

theorem place_turn {a0 a1 a2 a3 row b11 b12 b13 b14 b15 b16 b17 b18 b19 b20 b21 : Option AV} {pl : List Nat} {p q : Nat} {ls : List PV} (hq : pl[0]? = some q) (hpl : pl.length = 5) (hp' : p < 4 ^ o) (hq' : q < 4 ^ o) (hls : ls.length ≤ 1000) :
    ∃ c11 c12 c13 c14 c15 c16 c17 c18 c19, exL (ex G (n + 9)) placeBody (sg a0 a1 a2 a3 o row cl pl (hst o q) (some (.own ls)) (some (.im (.int (p : Int)))) b11 b12 b13 b14 b15 b16 b17 b18 b19 b20 b21) =
      some (.next (sg a0 a1 a2 a3 o row cl pl (hst o q) (some (.own (ls ++ [.lst (lad o p)]))) (some (.im (.int (p : Int)))) c11 c12 c13 c14 c15 c16 c17 c18 c19 b20 b21)) := by
  obtain ⟨c, hc⟩ := L.cell hp'
  have ho := L.o3
  have hal := adr_len o p
  have hhl := hst_len o p
  obtain ⟨sc1, sc2⟩ := L.sml p c hc
  have S1 := ex_set (n := n + 8) (i := 11) (e := .call 13 [.var 10, .var 4]) (σ := sg a0 a1 a2 a3 o row cl pl (hst o q) (some (.own ls)) (some (.im (.int (p : Int)))) b11 b12 b13 b14 b15 b16 b17 b18 b19 b20 b21) (ev_call (evL_c (ev_var rfl) (evL_c (ev_var rfl) evL_nil)) (L.addr p hp'))
  have S2 := ex_set2 (n := n + 8) (i := 12) (j := 13) (e := .call 15 [.var 11, .var 4]) (σ := sg a0 a1 a2 a3 o row cl pl (hst o q) (some (.own ls)) (some (.im (.int (p : Int)))) (some (.im (.str (adr o p)))) b12 b13 b14 b15 b16 b17 b18 b19 b20 b21) (ev_call (evL_c (ev_var rfl) (evL_c (ev_var rfl) evL_nil)) (L.told p c hc))
  -- from here on
  let T : Option AV → Option AV → Option AV → Option AV → Option AV → Option AV → Option AV → Sg := fun l9 c14 c15 c16 c17 c18 c19 => sg a0 a1 a2 a3 o row cl pl (hst o q) l9 (some (.im (.int (p : Int)))) (some (.im (.str (adr o p)))) (some (.im (.lst (lad o p)))) (some (.im (.tup [.int c.1, .int c.2]))) c14 c15 c16 c17 c18 c19 b20 b21
  have S3 : ex G (n + 9) (.ite (.or (.cmp .ne (.idx (.var 12) (.const (.int (-1)))) (.const (.str [120]))) (.cmp .ne (.var 13) (.idx (.var 6) (.var 10)))) [.ret (.const (.bool false))] []) (T (some (.own ls)) b14 b15 b16 b17 b18 b19) = some (.next (T (some (.own ls)) b14 b15 b16 b17 b18 b19)) := by
    refine (ex_iteF (evT_or (y := false) (z := false) (evT_cmp (ev_idx (ev_var rfl) ev_const (idx_last (lad_last o p) (by rw [lad_len]; omega))) ev_const ?_) (evT_cmp (ev_var rfl) (ev_idx (ev_var rfl) (ev_var rfl) (idx_cell hc L.clen)) ?_))).trans exL_n
    · simp [cmpPV, eqPV, oStr]
    · simp [cmpPV, eqv_cell]
  have S4 : ex G (n + 9) (.ite (.cmp .ne (.call 16 [.bin .add (.repl (.var 11) 46 92) (.const (.str [121])), .var 4]) (.tup [.const (.str [120, 121]), .var 13])) [.ret (.const (.bool false))] []) (T (some (.own ls)) b14 b15 b16 b17 b18 b19) = some (.next (T (some (.own ls)) b14 b15 b16 b17 b18 b19)) := by
    have hrl : (PySem.Txt.replace (S (adr o p)) (S [46]) (S [92])).cps.toList.length + ([121] : List Nat).length ≤ 100000 := by
      have := L.bln p hp'
      unfold bsl at this
      rw [List.length_append] at this
      omega
    refine (ex_iteF (evT_cmp (z := false) (ev_call (evL_c (ev_bin (op := .add) (ev_repl (ev_var rfl) (fits_of (by rw [hal]; omega)) rfl) ev_const (add_str_v hrl)) (evL_c (ev_var rfl) evL_nil)) (L.led p c hc)) (ev_tup rfl (evL_c ev_const (evL_c (ev_var rfl) evL_nil))) ?_)).trans exL_n
    simp only [cmpPV, eqv_led]; rfl
  have S5 : ex G (n + 9) (.app 9 (.var 12)) (T (some (.own ls)) b14 b15 b16 b17 b18 b19) = some (.next (T (some (.own (ls ++ [.lst (lad o p)]))) b14 b15 b16 b17 b18 b19)) := ex_app rfl (ev_var rfl) (fits_of (by omega))
  have hclen : cl.length = 4 ^ o := L.len
  have S6 : ∃ c14, ex G (n + 9) (.ite (.cmp .lt (.bin .add (.var 10) (.const (.int 1))) (.bi .len [.var 6])) [.set 14 (.idx (.var 6) (.bin .add (.var 10) (.const (.int 1)))),
      .ite (.cmp .ne (.bin .add (.bi .abs [.bin .sub (.idx (.var 14) (.const (.int 0))) (.idx (.var 13) (.const (.int 0)))]) (.bi .abs [.bin .sub (.idx (.var 14) (.const (.int 1))) (.idx (.var 13) (.const (.int 1)))])) (.const (.int 1))) [.ret (.const (.bool false))] []] [])
      (T (some (.own (ls ++ [.lst (lad o p)]))) b14 b15 b16 b17 b18 b19) = some (.next (T (some (.own (ls ++ [.lst (lad o p)]))) c14 b15 b16 b17 b18 b19)) := by
    have hlt : cmpPV .lt (.int (((p + 1 : Nat) : Int))) (.int (cl.length : Int)) = some (decide (p + 1 < 4 ^ o)) := by
      simp only [cmpPV, oInt, hclen]; congr 1; rw [decide_eq_decide]; omega
    by_cases h : p + 1 < 4 ^ o
    · obtain ⟨d, hd⟩ := L.cell h
      refine ⟨some (.im (.tup [.int d.1, .int d.2])), ?_⟩
      rw [decide_eq_true h] at hlt
      refine (ex_iteT (evT_cmp (op := .lt) (ev_bin (op := .add) (ev_var rfl) ev_const rfl) (ev_bi (evL_c (ev_var rfl) evL_nil) (len_c L.clen)) hlt)).trans ?_
      refine (exL_c (ex_set (ev_idx (ev_var rfl) (ev_bin (op := .add) (ev_var rfl) ev_const rfl) (idx_cell hd L.clen)))).trans ?_
      refine (exL_c ((ex_iteF (evT_cmp (op := .ne) (ev_bin (op := .add) (ev_bi (evL_c (ev_bin (op := .sub) (ev_idx (ev_var rfl) ev_const idx_tup0) (ev_idx (ev_var rfl) ev_const idx_tup0) rfl) evL_nil) rfl) (ev_bi (evL_c (ev_bin (op := .sub) (ev_idx (ev_var rfl) ev_const idx_tup1) (ev_idx (ev_var rfl) ev_const idx_tup1) rfl) evL_nil) rfl) rfl) ev_const ?_)).trans exL_n)).trans exL_n
      have := L.step p c d hc hd
      simp only [cmpPV, eqPV, oInt, this]
      rfl
    · refine ⟨b14, ?_⟩
      rw [decide_eq_false h] at hlt
      exact (ex_iteF (evT_cmp (op := .lt) (ev_bin (op := .add) (ev_var rfl) ev_const rfl) (ev_bi (evL_c (ev_var rfl) evL_nil) (len_c L.clen)) hlt)).trans exL_n
  obtain ⟨c14, S6⟩ := S6
  have S7 : ex G (n + 9) (.set 15 (.call 14 [.var 10, .var 4])) (T (some (.own (ls ++ [.lst (lad o p)]))) c14 b15 b16 b17 b18 b19) = some (.next (T (some (.own (ls ++ [.lst (lad o p)]))) c14 (some (.im (.str (hst o p)))) b16 b17 b18 b19)) :=
    ex_set (ev_call (evL_c (ev_var rfl) (evL_c (ev_var rfl) evL_nil)) (L.host p hp'))
  have isF : cmpPV .isnt (.bool false) (.bool false) = some false := rfl
  have S8 : ex G (n + 9) (.loop (.two 16 17) .direct [.lst [.tup [.var 11, .slice (.var 11) (some (.const (.int 1))) none], .tup [.var 15, .const (.str [120])]]] [.ite (.cmp .isnt (.call 2 [.var 16, .var 17]) (.const (.bool false))) [.ret (.const (.bool false))] []])
      (T (some (.own (ls ++ [.lst (lad o p)]))) c14 (some (.im (.str (hst o p)))) b16 b17 b18 b19) = some (.next (T (some (.own (ls ++ [.lst (lad o p)]))) c14 (some (.im (.str (hst o p)))) (some (.im (.str (hst o p)))) (some (.im (.str [120]))) b18 b19)) := by
    have hsl : slicePV (.str (adr o p)) (some (.int ((1 : Nat) : Int))) none = some (.str ((adr o p).drop 1)) := slice_str (by omega) (by omega)
    refine (ex_loop (vs := [.lst [.tup [.str (adr o p), .str ((adr o p).drop 1)], .tup [.str (hst o p), .str [120]]]]) (evL_c (ev_lst rfl (evL_c (ev_tup rfl (evL_c (ev_var rfl) (evL_c (ev_lo (ev_var rfl) ev_const hsl) evL_nil))) (evL_c (ev_tup rfl (evL_c (ev_var rfl) (evL_c ev_const evL_nil))) evL_nil))) evL_nil) rfl).trans ?_
    refine (loopR_c rfl ((exL_c ((ex_iteF (evT_cmp (ev_call (evL_c (ev_var rfl) (evL_c (ev_var rfl) evL_nil)) (L.udA p hp')) ev_const isF)).trans exL_n)).trans exL_n)).trans ?_
    refine (loopR_c rfl ((exL_c ((ex_iteF (evT_cmp (ev_call (evL_c (ev_var rfl) (evL_c (ev_var rfl) evL_nil)) (L.udB p hp')) ev_const isF)).trans exL_n)).trans exL_n)).trans ?_
    rfl
  have S9 : ∃ c18 c19, ex G (n + 9) (.loop (.one 18) .range [.bin .add (.var 4) (.const (.int 1))] nearBody) (T (some (.own (ls ++ [.lst (lad o p)]))) c14 (some (.im (.str (hst o p)))) (some (.im (.str (hst o p)))) (some (.im (.str [120]))) b18 b19) =
      some (.next (T (some (.own (ls ++ [.lst (lad o p)]))) c14 (some (.im (.str (hst o p)))) (some (.im (.str (hst o p)))) (some (.im (.str [120]))) c18 c19)) := by
    obtain ⟨τ, e1, c18, c19, rfl⟩ := loop_inv (f := exL (ex G (n + 8)) nearBody) (tg := .one 18) (fun _ τ => ∃ c18 c19, τ = T (some (.own (ls ++ [.lst (lad o p)]))) c14 (some (.im (.str (hst o p)))) (some (.im (.str (hst o p)))) (some (.im (.str [120]))) c18 c19) (rangeL 0 1 (o + 1)) 0
      (T (some (.own (ls ++ [.lst (lad o p)]))) c14 (some (.im (.str (hst o p)))) (some (.im (.str (hst o p)))) (some (.im (.str [120]))) b18 b19) ⟨_, _, rfl⟩ (by
        rintro j v τ hj ⟨c18, c19, rfl⟩
        have hjl : j < o + 1 := by
          obtain ⟨q, _⟩ := List.getElem?_eq_some_iff.mp hj
          rwa [rangeL_len] at q
        rw [rangeL_get 1 _ j 0 hjl, int_pos] at hj
        cases hj
        exact ⟨_, _, rfl, near_turn L hq hpl hp' hq' hc (by omega), _, _, rfl⟩)
    exact ⟨c18, c19, (ex_loop (evL_c (ev_bin (op := .add) (ev_var rfl) ev_const rfl) evL_nil) (range_v (k := o + 1) (by omega))).trans e1⟩
  obtain ⟨c18, c19, S9⟩ := S9
  refine ⟨some (.im (.str (adr o p))), some (.im (.lst (lad o p))), some (.im (.tup [.int c.1, .int c.2])), c14, some (.im (.str (hst o p))), some (.im (.str (hst o p))), some (.im (.str [120])), c18, c19, ?_⟩
  exact (exL_c S1).trans ((exL_c S2).trans ((exL_c S3).trans ((exL_c S4).trans ((exL_c S5).trans ((exL_c S6).trans ((exL_c S7).trans ((exL_c S8).trans ((exL_c S9).trans exL_n))))))))
end
end Mine
end

section
open PySem PySem.W PyProof.Rows
set_option Elab.async false
set_option linter.unusedVariables false
namespace Mine

noncomputable def lastBody : List PS := [.set 16 (.comp (.bin .shr (.var 0) (.var 1)) (.one 0) .direct [.idx (.var 6) (.idx (.var 7) (.var 20))] [18]),
  .set 17 (.comp (.bin .shr (.var 0) (.var 1)) (.one 0) .direct [.idx (.var 6) (.idx (.var 7) (.var 21))] [18]),
  .ite (.cmp .isnt (.call 2 [.idx (.idx (.var 9) (.var 20)) (.var 18), .meth .upper (.idx (.idx (.var 9) (.var 21)) (.var 18)) []]) (.cmp .eq (.var 16) (.var 17))) [.ret (.const (.bool false))] []]

section
variable {G : Nat → List PV → Option PV} {n : Nat}
variable {o : Nat} {rowL : List UInt8} {cl : List (Int × Int)} (L : LawG G o rowL cl)
include L

theorem last_turn {a0 a1 a2 a3 row b10 b11 b12 b13 b14 b15 b16 b17 b19 : Option AV} {pl fs : List Nat} {i j p q f : Nat} (hpl : pl.length = 5) (hp : pl[i]? = some p) (hq : pl[j]? = some q) (hp' : p < 4 ^ o) (hq' : q < 4 ^ o) (hf : f ≤ o) :
    ∃ c16 c17, exL (ex G (n + 8)) lastBody (sg a0 a1 a2 a3 o row cl pl fs (some (.im (.lst (pl.map fun p => PV.lst (lad o p))))) b10 b11 b12 b13 b14 b15 b16 b17 (some (.im (.int f))) b19 (some (.im (.int i))) (some (.im (.int j)))) =
      some (.next (sg a0 a1 a2 a3 o row cl pl fs (some (.im (.lst (pl.map fun p => PV.lst (lad o p))))) b10 b11 b12 b13 b14 b15 c16 c17 (some (.im (.int f))) b19 (some (.im (.int i))) (some (.im (.int j))))) := by
  obtain ⟨c, hc⟩ := L.cell hp'
  obtain ⟨d, hd⟩ := L.cell hq'
  have ho := L.o3
  obtain ⟨sc1, sc2⟩ := L.sml p c hc
  obtain ⟨sd1, sd2⟩ := L.sml q d hd
  have e1 : eqPV (.lst [.int (c.1 / 2 ^ f), .int (c.2 / 2 ^ f)]) (.lst [.int (d.1 / 2 ^ f), .int (d.2 / 2 ^ f)]) = some (decide (p / 4 ^ f = q / 4 ^ f)) := by
    rw [eqv_pair]
    congr 1
    rw [decide_eq_decide]
    exact L.near p q c d f hf hc hd
  have e1 : cmpPV .eq (.lst [.int (c.1 / 2 ^ f), .int (c.2 / 2 ^ f)]) (.lst [.int (d.1 / 2 ^ f), .int (d.2 / 2 ^ f)]) = some (decide (p / 4 ^ f = q / 4 ^ f)) := e1
  have ix : ∀ {k r : Nat}, pl[k]? = some r → idxPV (.lst (pl.map fun (p : Nat) => PV.int (p : Int))) (.int (k : Int)) = some (.int (r : Int)) := fun h => idx_lst (by simp [h]) (by simp [hpl])
  have il : ∀ {k r : Nat}, pl[k]? = some r → idxPV (.lst (pl.map fun p => PV.lst (lad o p))) (.int (k : Int)) = some (.lst (lad o r)) := fun h => idx_lst (by simp [h]) (by simp [hpl])
  have ia : ∀ r, idxPV (.lst (lad o r)) (.int (f : Int)) = some (.str (adr (o - f) (r / 4 ^ f))) := fun r => idx_lst (lad_get f o r hf) (by rw [lad_len]; omega)
  have hup := upper_ev (ascii_adr (o - f) (q / 4 ^ f)) (fits_of (by rw [adr_len]; omega))
  refine ⟨some (.im (.lst [.int (c.1 / 2 ^ f), .int (c.2 / 2 ^ f)])), some (.im (.lst [.int (d.1 / 2 ^ f), .int (d.2 / 2 ^ f)])), ?_⟩
  refine (exL_c (ex_set (ev_halves (f := f) (ev_idx (ev_var rfl) (ev_idx (ev_var rfl) (ev_var rfl) (ix hp)) (idx_cell hc L.clen)) sc1 sc2 (by omega) rfl))).trans ?_
  refine (exL_c (ex_set (ev_halves (f := f) (ev_idx (ev_var rfl) (ev_idx (ev_var rfl) (ev_var rfl) (ix hq)) (idx_cell hd L.clen)) sd1 sd2 (by omega) rfl))).trans ?_
  refine (exL_c ((ex_iteF (evT_cmp (op := .isnt) (z := false) (ev_call (evL_c (ev_idx (ev_idx (ev_var rfl) (ev_var rfl) (il hp)) (ev_var rfl) (ia p)) (evL_c (ev_meth (ev_idx (ev_idx (ev_var rfl) (ev_var rfl) (il hq)) (ev_var rfl) (ia q)) evL_nil hup) evL_nil)) (L.udD p q f hf hp' hq')) (ev_cmp (op := .eq) (ev_var rfl) (ev_var rfl) e1) ?_)).trans exL_n)).trans exL_n
  simp [cmpPV, isPV, oBool]
end

/-- the sums -/
theorem sums_loop {G : Nat → List PV → Option PV} {n : Nat} {a0 : Option AV} {rest : Sg} {xs : List Int} {s : List Int} (hs : s.length = 6) {a2 a3 : Option AV} :
    ∃ a2' a3' s', s'.length = 6 ∧ loopR (exL (ex G (n + 4)) [.augIdx 1 (.bin .mod (.var 2) (.const (.int 6))) (.bin .mod (.var 3) (.bin .pow (.const (.int 10)) (.const (.int 6))))]) (.two 2 3) (enumL 0 (intL xs)) (a0 :: some (.own (intL s)) :: a2 :: a3 :: rest) =
      some (.next (a0 :: some (.own (intL s')) :: a2' :: a3' :: rest)) := by
  obtain ⟨τ, e, a2', a3', s', h', rfl⟩ := loop_inv (f := exL (ex G (n + 4)) [.augIdx 1 (.bin .mod (.var 2) (.const (.int 6))) (.bin .mod (.var 3) (.bin .pow (.const (.int 10)) (.const (.int 6))))]) (tg := .two 2 3)
    (fun _ τ => ∃ a2' a3' s', List.length s' = 6 ∧ τ = (a0 :: some (.own (intL s')) :: a2' :: a3' :: rest)) (enumL 0 (intL xs)) 0 _ ⟨a2, a3, s, hs, rfl⟩ (by
      rintro j v τ hj ⟨b2, b3, t, ht, rfl⟩
      have hjl : j < xs.length := by
        obtain ⟨q, _⟩ := List.getElem?_eq_some_iff.mp hj
        rw [enumL_len] at q
        simpa [intL] using q
      have hx : (intL xs)[j]? = some (.int xs[j]) := by simp [intL, List.getElem?_eq_getElem hjl]
      rw [enumL_get j (intL xs) 0 _ hx, Nat.zero_add] at hj
      cases hj
      generalize xs[j] = x
      have hk : (j : Int) % 6 < 6 := Int.emod_lt_of_pos _ (by decide)
      have hk0 : 0 ≤ (j : Int) % 6 := Int.emod_nonneg _ (by decide)
      have hkt : ((j : Int) % 6).toNat < t.length := by omega
      have hk6 : ((j : Int) % 6).toNat < 6 := by omega
      refine ⟨_, _, rfl, (exL_c (ex_augIdx (k := (j : Int) % 6) (a := t[((j : Int) % 6).toNat]) (b := x % 10 ^ 6) rfl (ev_bin (op := .mod) (ev_var rfl) ev_const (by simp [binPV, oInt])) hk0 (by simp only [intL, List.length_map, ht]; omega) (by simp [intL, ht, fits]) (by simp [intL, List.getElem?_eq_getElem hkt]) (ev_bin (op := .mod) (ev_var rfl) (ev_bin (op := .pow) ev_const ev_const rfl) (by simp [binPV, oInt])))).trans exL_n, some (.im (.int (j : Int))), some (.im (.int x)), t.set ((j : Int) % 6).toNat (t[((j : Int) % 6).toNat] + x % 10 ^ 6), by simpa using ht, ?_⟩
      simp [intL, List.map_set])
  exact ⟨a2', a3', s', h', e⟩
end Mine
end

section
open PySem PySem.W PyProof.Rows
set_option Elab.async false
set_option linter.unusedVariables false
namespace Mine

/-- a number's place, of 4 ^ o -/
noncomputable def plc (o : Nat) (y : Int) : Nat := (y % (4 : Int) ^ o).toNat
theorem pow4_pos (o : Nat) : (0 : Int) < (4 : Int) ^ o := Int.pow_pos (by decide)
theorem plc_val (o : Nat) (y : Int) : y % (4 : Int) ^ o = (plc o y : Int) := by
  unfold plc
  rw [Int.toNat_of_nonneg (Int.emod_nonneg _ (Int.ne_of_gt (pow4_pos o)))]
theorem plc_lt (o : Nat) (y : Int) : plc o y < 4 ^ o := by
  have h1 := Int.emod_lt_of_pos y (pow4_pos o)
  rw [plc_val] at h1
  have : ((plc o y : Nat) : Int) < ((4 ^ o : Nat) : Int) := by push_cast; exact h1
  exact Int.ofNat_lt.mp this

section
variable {G : Nat → List PV → Option PV} {n : Nat}

theorem places_map {o : Nat} (ho : o ≤ 3) : ∀ ys : List Int, evC (fun σ' => ev G (n + 3) false σ' (.bin .mod (.var 0) (.bin .pow (.const (.int 4)) (.var 1)))) (.one 0) [none, some (.im (.int o))] (intL ys) = some ((ys.map (plc o)).map fun (p : Nat) => PV.int (p : Int))
  | [] => rfl
  | y :: ys => by
    have hp : binPV .pow (.int 4) (.int (o : Int)) = some (.int ((4 : Int) ^ o)) := by
      have h1 : decide ((0 : Int) ≤ (o : Int)) = true := by simp
      have h2 : decide ((o : Int) ≤ 16) = true := decide_eq_true (by omega)
      simp only [binPV, oInt, h1, h2]; rfl
    have hm : binPV .mod (.int y) (.int ((4 : Int) ^ o)) = some (.int (plc o y : Int)) := by
      simp only [binPV, oInt, decide_eq_true (pow4_pos o), if_true, plc_val]
    exact evC_c (σ' := [some (.im (.int y)), some (.im (.int o))]) rfl (ev_bin (op := .mod) (ev_var rfl) (ev_bin (op := .pow) ev_const (ev_var rfl) hp) hm) (places_map ho ys)

variable {o : Nat} {rowL : List UInt8} {cl : List (Int × Int)} (L : LawG G o rowL cl)
include L

theorem loop_places {a0 a1 a2 a3 row b10 b11 b12 b13 b14 b15 b16 b17 b18 b19 b20 b21 : Option AV} {pl : List Nat} {q : Nat} (hq : pl[0]? = some q) (hpl : pl.length = 5) (hlt : ∀ p ∈ pl, p < 4 ^ o) :
    ∃ c10 c11 c12 c13 c14 c15 c16 c17 c18 c19, ex G (n + 10) (.loop (.one 10) .direct [.var 7] placeBody) (sg a0 a1 a2 a3 o row cl pl (hst o q) (some (.own [])) b10 b11 b12 b13 b14 b15 b16 b17 b18 b19 b20 b21) =
      some (.next (sg a0 a1 a2 a3 o row cl pl (hst o q) (some (.own (pl.map fun p => PV.lst (lad o p)))) c10 c11 c12 c13 c14 c15 c16 c17 c18 c19 b20 b21)) := by
  have hq' : q < 4 ^ o := hlt q (List.mem_of_getElem? hq)
  obtain ⟨τ, e, c10, c11, c12, c13, c14, c15, c16, c17, c18, c19, rfl⟩ := loop_inv (f := exL (ex G (n + 9)) placeBody) (tg := .one 10)
    (fun k τ => ∃ c10 c11 c12 c13 c14 c15 c16 c17 c18 c19, τ = sg a0 a1 a2 a3 o row cl pl (hst o q) (some (.own ((pl.take k).map fun p => PV.lst (lad o p)))) c10 c11 c12 c13 c14 c15 c16 c17 c18 c19 b20 b21) (pl.map fun (p : Nat) => PV.int (p : Int)) 0
    (sg a0 a1 a2 a3 o row cl pl (hst o q) (some (.own [])) b10 b11 b12 b13 b14 b15 b16 b17 b18 b19 b20 b21) ⟨_, _, _, _, _, _, _, _, _, _, rfl⟩ (by
      rintro j v τ hj ⟨c10, c11, c12, c13, c14, c15, c16, c17, c18, c19, rfl⟩
      rw [List.getElem?_map] at hj
      obtain ⟨p, hp, rfl⟩ := Option.map_eq_some_iff.mp hj
      obtain ⟨d11, d12, d13, d14, d15, d16, d17, d18, d19, e⟩ := place_turn (n := n) L (a0 := a0) (a1 := a1) (a2 := a2) (a3 := a3) (row := row) (b11 := c11) (b12 := c12) (b13 := c13) (b14 := c14) (b15 := c15) (b16 := c16) (b17 := c17) (b18 := c18) (b19 := c19) (b20 := b20) (b21 := b21) (ls := (pl.take (0 + j)).map fun p => PV.lst (lad o p)) hq hpl (hlt p (List.mem_of_getElem? hp)) hq' (by simp; omega)
      refine ⟨_, _, rfl, e, some (.im (.int (p : Int))), d11, d12, d13, d14, d15, d16, d17, d18, d19, ?_⟩
      rw [Nat.zero_add, List.take_add_one, hp]
      simp)
  rw [List.length_map, Nat.zero_add, List.take_of_length_le (Nat.le_refl _)] at e
  exact ⟨c10, c11, c12, c13, c14, c15, c16, c17, c18, c19, (ex_loop (evL_c (ev_var rfl) evL_nil) (by
    have : fits (pl.map fun (p : Nat) => PV.int (p : Int)).length = true := fits_of (by simp [hpl])
    simp only [srcPV, o1, dirPV, this, if_true])).trans e⟩

theorem loop_last {a0 a1 a2 a3 row b10 b11 b12 b13 b14 b15 b16 b17 b18 b19 b20 b21 : Option AV} {pl fs : List Nat} (hpl : pl.length = 5) (hlt : ∀ p ∈ pl, p < 4 ^ o) :
    ∃ τ, ex G (n + 11) (.loop (.one 20) .range [.bi .len [.var 7]] [.loop (.one 21) .range [.var 20] [.loop (.one 18) .range [.bin .add (.var 4) (.const (.int 1))] lastBody]])
      (sg a0 a1 a2 a3 o row cl pl fs (some (.im (.lst (pl.map fun p => PV.lst (lad o p))))) b10 b11 b12 b13 b14 b15 b16 b17 b18 b19 b20 b21) = some (.next τ) := by
  have ho := L.o3
  let Inv : Sg → Prop := fun τ => ∃ c10 c11 c12 c13 c14 c15 c16 c17 c18 c19 c20 c21, τ = sg a0 a1 a2 a3 o row cl pl fs (some (.im (.lst (pl.map fun p => PV.lst (lad o p))))) c10 c11 c12 c13 c14 c15 c16 c17 c18 c19 c20 c21
  obtain ⟨τ, e, _⟩ := loop_inv (f := exL (ex G (n + 10)) [.loop (.one 21) .range [.var 20] [.loop (.one 18) .range [.bin .add (.var 4) (.const (.int 1))] lastBody]]) (tg := .one 20) (fun _ τ => Inv τ) (rangeL 0 1 5) 0
    (sg a0 a1 a2 a3 o row cl pl fs (some (.im (.lst (pl.map fun p => PV.lst (lad o p))))) b10 b11 b12 b13 b14 b15 b16 b17 b18 b19 b20 b21) ⟨_, _, _, _, _, _, _, _, _, _, _, _, rfl⟩ (by
      rintro i v τ hi ⟨c10, c11, c12, c13, c14, c15, c16, c17, c18, c19, c20, c21, rfl⟩
      have hi5 : i < 5 := by
        obtain ⟨q, _⟩ := List.getElem?_eq_some_iff.mp hi
        rwa [rangeL_len] at q
      rw [rangeL_get 1 _ i 0 hi5, int_pos] at hi
      cases hi
      obtain ⟨τ', e', I'⟩ := loop_inv (f := exL (ex G (n + 9)) [.loop (.one 18) .range [.bin .add (.var 4) (.const (.int 1))] lastBody]) (tg := .one 21)
        (fun _ τ => ∃ c10 c11 c12 c13 c14 c15 c16 c17 c18 c19 c21, τ = sg a0 a1 a2 a3 o row cl pl fs (some (.im (.lst (pl.map fun p => PV.lst (lad o p))))) c10 c11 c12 c13 c14 c15 c16 c17 c18 c19 (some (.im (.int (i : Int)))) c21) (rangeL 0 1 i) 0
        (sg a0 a1 a2 a3 o row cl pl fs (some (.im (.lst (pl.map fun p => PV.lst (lad o p))))) c10 c11 c12 c13 c14 c15 c16 c17 c18 c19 (some (.im (.int (i : Int)))) c21) ⟨_, _, _, _, _, _, _, _, _, _, _, rfl⟩ (by
          rintro j v τ hj ⟨c10, c11, c12, c13, c14, c15, c16, c17, c18, c19, c21, rfl⟩
          have hji : j < i := by
            obtain ⟨q, _⟩ := List.getElem?_eq_some_iff.mp hj
            rwa [rangeL_len] at q
          rw [rangeL_get 1 _ j 0 hji, int_pos] at hj
          cases hj
          have hp : pl[i]? = some pl[i] := List.getElem?_eq_getElem (by omega)
          have hq : pl[j]? = some pl[j] := List.getElem?_eq_getElem (by omega)
          obtain ⟨τ'', e'', c16', c17', c18', rfl⟩ := loop_inv (f := exL (ex G (n + 8)) lastBody) (tg := .one 18)
            (fun _ τ => ∃ c16 c17 c18, τ = sg a0 a1 a2 a3 o row cl pl fs (some (.im (.lst (pl.map fun p => PV.lst (lad o p))))) c10 c11 c12 c13 c14 c15 c16 c17 c18 c19 (some (.im (.int (i : Int)))) (some (.im (.int (j : Int))))) (rangeL 0 1 (o + 1)) 0
            (sg a0 a1 a2 a3 o row cl pl fs (some (.im (.lst (pl.map fun p => PV.lst (lad o p))))) c10 c11 c12 c13 c14 c15 c16 c17 c18 c19 (some (.im (.int (i : Int)))) (some (.im (.int (j : Int))))) ⟨_, _, _, rfl⟩ (by
              rintro f v τ hf ⟨c16, c17, c18, rfl⟩
              have hfo : f < o + 1 := by
                obtain ⟨q, _⟩ := List.getElem?_eq_some_iff.mp hf
                rwa [rangeL_len] at q
              rw [rangeL_get 1 _ f 0 hfo, int_pos] at hf
              cases hf
              obtain ⟨d16, d17, e3⟩ := last_turn (n := n) L (a0 := a0) (a1 := a1) (a2 := a2) (a3 := a3) (row := row) (fs := fs) (b10 := c10) (b11 := c11) (b12 := c12) (b13 := c13) (b14 := c14) (b15 := c15) (b16 := c16) (b17 := c17) (b19 := c19) hpl hp hq (hlt _ (List.getElem_mem _)) (hlt _ (List.getElem_mem _)) (show f ≤ o by omega)
              exact ⟨_, _, rfl, e3, d16, d17, _, rfl⟩)
          refine ⟨_, _, rfl, (exL_c ((ex_loop (evL_c (ev_bin (op := .add) (ev_var rfl) ev_const rfl) evL_nil) (range_v (k := o + 1) (by omega))).trans e'')).trans exL_n, _, _, _, _, _, _, c16', c17', c18', _, _, rfl⟩)
      obtain ⟨d10, d11, d12, d13, d14, d15, d16, d17, d18, d19, d21, rfl⟩ := I'
      exact ⟨_, _, rfl, (exL_c ((ex_loop (evL_c (ev_var rfl) evL_nil) (range_v (k := i) (by omega))).trans e')).trans exL_n, _, _, _, _, _, _, _, _, _, _, _, _, rfl⟩)
  have hlen : biPV .len [.lst (pl.map fun (p : Nat) => PV.int (p : Int))] = some (.int ((5 : Nat) : Int)) := by
    rw [len_v (by simp [hpl])]; simp [hpl]
  exact ⟨τ, (ex_loop (evL_c (ev_bi (evL_c (ev_var rfl) evL_nil) hlen) evL_nil) (range_v (k := 5) (by omega))).trans e⟩
end
end Mine
end

section
open PySem PySem.W PyProof.Rows
set_option Elab.async false
set_option linter.unusedVariables false
namespace Mine

theorem evT_bi {G : Nat → List PV → Option PV} {n : Nat} {σ : Sg} {f : BI} {es : List PE} {v : PV} {z : Bool} (h : ev G n false σ (.bi f es) = some v) (ht : truthPV v = some z) : ev G (n + 1) true σ (.bi f es) = some (.bool z) := bd_in h (mp_in ht rfl)

theorem two {α : Type} {l : List α} {n : Nat} (h : l.length = n + 1) : ∃ a r, l = a :: r ∧ r.length = n :=
  match l, h with | a :: r, h => ⟨a, r, rfl, Nat.succ.inj h⟩
theorem six {α : Type} {l : List α} (h : l.length = 6) : ∃ a b c d e f, l = [a, b, c, d, e, f] := by
  obtain ⟨a, l1, e1, h1⟩ := two h
  obtain ⟨b, l2, e2, h2⟩ := two h1
  obtain ⟨c, l3, e3, h3⟩ := two h2
  obtain ⟨d, l4, e4, h4⟩ := two h3
  obtain ⟨e, l5, e5, h5⟩ := two h4
  obtain ⟨f, l6, e6, h6⟩ := two h5
  exact ⟨a, b, c, d, e, f, by rw [e1, e2, e3, e4, e5, e6, List.length_eq_zero_iff.mp h6]⟩
theorem law_run {G : Nat → List PV → Option PV} (H : ∀ o : Nat, 1 ≤ o → o ≤ 3 → ∃ row cl, LawG G o row cl) (xs : List Int) (hx : xs.length ≤ 63) : run G 60 22 body17 [.lst (intL xs)] = some (.bool true) := by
  have key : exL (ex G 60) body17 (some (.im (.lst (intL xs))) :: List.replicate 21 none) = some (.ret (.bool true)) := by
    have hsl : slicePV (.lst (intL xs)) none (some (.int ((24 : Nat) : Int))) = some (.lst (intL (xs.take 24))) := by
      have hf : fits (intL xs).length = true := fits_of (by simp [intL]; omega)
      simp only [slicePV, oInt, sliceHi, hf]
      simp [intL, List.map_take]
    have hen : srcPV .enum [.lst (intL (xs.take 24))] = some (enumL 0 (intL (xs.take 24))) := by
      have hf : fits (intL (xs.take 24)).length = true := fits_of (by simp [intL]; omega)
      simp only [srcPV, o1, numPV, hf, if_true]
    refine (exL_c (ex_own rfl (evL_c ev_const (evL_c ev_const (evL_c ev_const (evL_c ev_const (evL_c ev_const (evL_c ev_const evL_nil)))))))).trans ?_
    obtain ⟨a2, a3, s', hs', e1⟩ := sums_loop (G := G) (n := 55) (a0 := some (.im (.lst (intL xs)))) (rest := List.replicate 18 none) (xs := xs.take 24) (s := [2, 27, 14, 45, 58, 38]) rfl (a2 := none) (a3 := none)
    refine (exL_c ((ex_loop (n := 59) (evL_c (ev_hi (ev_var rfl) ev_const hsl) evL_nil) hen).trans e1)).trans ?_
    obtain ⟨s0, s1, s2, s3, s4, s5, rfl⟩ := six hs'
    refine (exL_c (ex_freezeN rfl)).trans ?_
    have h0 : 0 ≤ s0 % 3 := Int.emod_nonneg _ (by decide)
    have h1 : s0 % 3 < 3 := Int.emod_lt_of_pos _ (by decide)
    obtain ⟨o, ho⟩ := Int.eq_ofNat_of_zero_le (show 0 ≤ 1 + s0 % 3 by omega)
    have o1 : 1 ≤ o := by omega
    have o3 : o ≤ 3 := by omega
    obtain ⟨row, cl, L⟩ := H o o1 o3
    have hadd : binPV .add (.int 1) (.int (s0 % 3)) = some (.int (o : Int)) := by rw [← ho]; rfl
    have hmod : binPV .mod (.int s0) (.int 3) = some (.int (s0 % 3)) := rfl
    refine (exL_c (ex_set (ev_bin (op := .add) ev_const (ev_bin (op := .mod) (ev_idx (ev_var rfl) ev_const rfl) ev_const hmod) hadd))).trans ?_
    refine (exL_c (ex_set (ev_call (evL_c (ev_var rfl) evL_nil) L.grown))).trans ?_
    refine (exL_c ((ex_iteF (evT_not (z := true) (evT_bi (ev_bi (f := .isBytes) (evL_c (ev_var rfl) evL_nil) rfl) rfl))).trans exL_n)).trans ?_
    refine (exL_c (ex_set (ev_cells rfl L.rowf L.rowe))).trans ?_
    rw [L.rowc]
    have hs1 : slicePV (.lst (intL [s0, s1, s2, s3, s4, s5])) (some (.int ((1 : Nat) : Int))) none = some (.lst (intL [s1, s2, s3, s4, s5])) := rfl
    refine (exL_c (ex_set (ev_comp (evL_c (ev_lo (ev_var rfl) ev_const hs1) evL_nil) (items := intL [s1, s2, s3, s4, s5]) rfl (places_map (G := G) (n := 56) o3 [s1, s2, s3, s4, s5])))).trans ?_
    have hlt : ∀ p ∈ [plc o s1, plc o s2, plc o s3, plc o s4, plc o s5], p < 4 ^ o := fun p hp => by
      simp only [List.mem_cons, List.not_mem_nil, or_false] at hp
      rcases hp with rfl | rfl | rfl | rfl | rfl <;> exact plc_lt o _
    generalize hpl : [plc o s1, plc o s2, plc o s3, plc o s4, plc o s5] = pl at hlt
    have hq : pl[0]? = some (plc o s1) := by rw [← hpl]; rfl
    have hl5 : pl.length = 5 := by rw [← hpl]; rfl
    have hplv : [s1, s2, s3, s4, s5].map (plc o) = pl := by rw [← hpl]; rfl
    rw [hplv]
    have hq' : plc o s1 < 4 ^ o := plc_lt o s1
    have hidx : idxPV (.lst (pl.map fun (p : Nat) => PV.int (p : Int))) (.int ((0 : Nat) : Int)) = some (.int (plc o s1 : Int)) := idx_lst (by simp [hq]) (by simp [hl5])
    refine (exL_c (ex_set (ev_call (evL_c (ev_idx (ev_var rfl) ev_const hidx) (evL_c (ev_var rfl) evL_nil)) (L.host _ hq')))).trans ?_
    refine (exL_c (ex_own rfl evL_nil)).trans ?_
    obtain ⟨c10, c11, c12, c13, c14, c15, c16, c17, c18, c19, e2⟩ := loop_places (n := 50) L (a0 := some (.im (.lst (intL xs)))) (a1 := some (.im (.lst (intL [s0, s1, s2, s3, s4, s5])))) (a2 := a2) (a3 := a3) (row := some (.im (.bytes row))) (b10 := none) (b11 := none) (b12 := none) (b13 := none) (b14 := none) (b15 := none) (b16 := none) (b17 := none) (b18 := none) (b19 := none) (b20 := none) (b21 := none) hq hl5 hlt
    refine (exL_c e2).trans ?_
    obtain ⟨c, hc⟩ := L.cell hq'
    have hone := L.once _ c hc
    have hcl : ((plc o s1 : Nat) : Int) < (cl.length : Int) := by rw [L.len]; exact Int.ofNat_lt.mpr hq'
    refine (exL_c ((ex_iteF (evT_cmp (op := .ne) (z := false) (ev_countC rfl (fits_of L.clen) (ev_idx (ev_var rfl) ev_const hidx) (Int.natCast_nonneg _) hcl (by simpa using hc)) ev_const ?_)).trans exL_n)).trans ?_
    · simp [cmpPV, eqPV, oInt, hone]
    refine (exL_c (ex_freezeN rfl)).trans ?_
    obtain ⟨τ, e3⟩ := loop_last (n := 49) L (a0 := some (.im (.lst (intL xs)))) (a1 := some (.im (.lst (intL [s0, s1, s2, s3, s4, s5])))) (a2 := a2) (a3 := a3) (row := some (.im (.bytes row))) (fs := hst o (plc o s1)) (b10 := c10) (b11 := c11) (b12 := c12) (b13 := c13) (b14 := c14) (b15 := c15) (b16 := c16) (b17 := c17) (b18 := c18) (b19 := c19) (b20 := none) (b21 := none) hl5 hlt
    refine (exL_c e3).trans ?_
    exact exL_r (ex_ret ev_const)
  unfold run
  show (match exL (ex G 60) body17 (some (.im (.lst (intL xs))) :: List.replicate 21 none) with
    | some (.ret v) => some v
    | some (.next _) => some .none
    | none => none) = _
  rw [key]
end Mine
end

section
open PySem PySem.W PyProof.Rows
set_option Elab.async false
set_option linter.unusedVariables false
namespace Mine

section
variable {G : Nat → List PV → Option PV} {n : Nat} {σ : Sg}
theorem evT_call {f : Nat} {es : List PE} {z : Bool} (h : ev G n false σ (.call f es) = some (.bool z)) : ev G (n + 1) true σ (.call f es) = some (.bool z) := bd_in h rfl
theorem evT_meth {m : Me} {e : PE} {es : List PE} {z : Bool} (h : ev G n false σ (.meth m e es) = some (.bool z)) : ev G (n + 1) true σ (.meth m e es) = some (.bool z) := bd_in h rfl
theorem evT_var {i : Nat} {z : Bool} (h : ev G n false σ (.var i) = some (.bool z)) : ev G (n + 1) true σ (.var i) = some (.bool z) := bd_in h rfl
theorem evT_andF {l r : PE} (h1 : ev G n true σ l = some (.bool false)) : ev G (n + 1) true σ (.and l r) = some (.bool false) := bd_in h1 rfl
theorem evT_andT {l r : PE} {z : Bool} (h1 : ev G n true σ l = some (.bool true)) (h2 : ev G n true σ r = some (.bool z)) : ev G (n + 1) true σ (.and l r) = some (.bool z) := bd_in h1 h2
theorem evT_and {l r : PE} {y z : Bool} (h1 : ev G n true σ l = some (.bool y)) (h2 : ev G n true σ r = some (.bool z)) : ev G (n + 1) true σ (.and l r) = some (.bool (y && z)) := bd_in h1 (by cases y with | true => exact h2 | false => rfl)
end

theorem lower_ev {l m : List Nat} (ha : ascii l = true) (hf : fits l.length = true) (h : l.map lo1 = m) : mePV .lower (.str l) [] = some (.str m) := by
  simp [mePV, oStr, o0, ha, hf, h]

/-- user_domain_match, the first text ending in a number -/
theorem udm_num {G : Nat → List PV → Option PV} {A B la lb : List Nat} (hA : ascii A = true) (hB : ascii B = true) (fA : A.length ≤ 1000) (fB : B.length ≤ 1000) (eA : A.map lo1 = la) (eB : B.map lo1 = lb) (h1 : G 1 [.str la] = some (.bool false)) :
    run G 60 3 body2 [.str A, .str B] = some (.bool (la == lb)) := by
  have key : exL (ex G 60) body2 [some (.im (.str A)), some (.im (.str B)), none] = some (.ret (.bool (la == lb))) := by
    refine (exL_c (ex_set (ev_meth (m := .lower) (ev_var rfl) evL_nil (lower_ev hA (fits_of (by omega)) eA)))).trans ?_
    refine (exL_c (ex_set (ev_meth (m := .lower) (ev_var rfl) evL_nil (lower_ev hB (fits_of (by omega)) eB)))).trans ?_
    have hc : cmpPV .eq (.str la) (.str lb) = some (la == lb) := rfl
    refine exL_r ?_
    refine (ex_iteT (evT_not (z := false) (evT_andF (evT_call (ev_call (evL_c (ev_var rfl) evL_nil) h1))))).trans ?_
    cases hz : (la == lb) with
    | true =>
      rw [hz] at hc
      exact exL_r ((ex_iteT (evT_cmp (op := .eq) (ev_var rfl) (ev_var rfl) hc)).trans (exL_r (ex_ret ev_const)))
    | false =>
      rw [hz] at hc
      exact (exL_c ((ex_iteF (evT_cmp (op := .eq) (ev_var rfl) (ev_var rfl) hc)).trans exL_n)).trans (exL_r (ex_ret ev_const))
  unfold run
  show (match exL (ex G 60) body2 [some (.im (.str A)), some (.im (.str B)), none] with
    | some (.ret v) => some v
    | some (.next _) => some .none
    | none => none) = _
  rw [key]

theorem udm_txt {G : Nat → List PV → Option PV} {A B la lb : List Nat} (hA : ascii A = true) (hB : ascii B = true) (fA : A.length ≤ 1000) (fB : B.length ≤ 1000) (eA : A.map lo1 = la) (eB : B.map lo1 = lb) (h1 : G 1 [.str la] = some (.bool true)) (h2 : G 1 [.str lb] = some (.bool true))
    {d e : Bool} (hd : PySem.Txt.startswith (S lb) (S [46]) = d) (he : PySem.Txt.endswith (S la) (S lb) = e) :
    run G 60 3 body2 [.str A, .str B] = some (.bool (if d then e else la == lb)) := by
  have key : exL (ex G 60) body2 [some (.im (.str A)), some (.im (.str B)), none] = some (.ret (.bool (if d then e else la == lb))) := by
    refine (exL_c (ex_set (ev_meth (m := .lower) (ev_var rfl) evL_nil (lower_ev hA (fits_of (by omega)) eA)))).trans ?_
    refine (exL_c (ex_set (ev_meth (m := .lower) (ev_var rfl) evL_nil (lower_ev hB (fits_of (by omega)) eB)))).trans ?_
    have hc : cmpPV .eq (.str la) (.str lb) = some (la == lb) := rfl
    refine (exL_c ((ex_iteF (evT_not (z := true) (evT_andT (evT_call (ev_call (evL_c (ev_var rfl) evL_nil) h1)) (evT_call (ev_call (evL_c (ev_var rfl) evL_nil) h2))))).trans exL_n)).trans ?_
    have hs : mePV .starts (.str lb) [.str [46]] = some (.bool d) := by rw [← hd]; rfl
    have hn : mePV .ends (.str la) [.str lb] = some (.bool e) := by rw [← he]; rfl
    refine (exL_c (ex_set (ev_meth (m := .starts) (ev_var rfl) (evL_c ev_const evL_nil) hs))).trans ?_
    cases d with
    | true =>
      rw [if_pos rfl]
      cases e with
      | true => exact exL_r ((ex_iteT (evT_and (y := true) (z := true) (evT_var (ev_var rfl)) (evT_meth (ev_meth (ev_var rfl) (evL_c (ev_var rfl) evL_nil) hn)))).trans (exL_r (ex_ret ev_const)))
      | false =>
        refine (exL_c ((ex_iteF (evT_and (y := true) (z := false) (evT_var (ev_var rfl)) (evT_meth (ev_meth (ev_var rfl) (evL_c (ev_var rfl) evL_nil) hn)))).trans exL_n)).trans ?_
        refine (exL_c ((ex_iteF (evT_andF (evT_not (z := true) (evT_var (ev_var rfl))))).trans exL_n)).trans ?_
        exact exL_r (ex_ret ev_const)
    | false =>
      rw [if_neg Bool.false_ne_true]
      refine (exL_c ((ex_iteF (evT_andF (evT_var (ev_var rfl)))).trans exL_n)).trans ?_
      cases hz : (la == lb) with
      | true =>
        rw [hz] at hc
        exact exL_r ((ex_iteT (evT_and (y := true) (z := true) (evT_not (z := false) (evT_var (ev_var rfl))) (evT_cmp (op := .eq) (ev_var rfl) (ev_var rfl) hc))).trans (exL_r (ex_ret ev_const)))
      | false =>
        rw [hz] at hc
        exact (exL_c ((ex_iteF (evT_and (y := true) (z := false) (evT_not (z := false) (evT_var (ev_var rfl))) (evT_cmp (op := .eq) (ev_var rfl) (ev_var rfl) hc))).trans exL_n)).trans (exL_r (ex_ret ev_const))
  unfold run
  show (match exL (ex G 60) body2 [some (.im (.str A)), some (.im (.str B)), none] with
    | some (.ret v) => some v
    | some (.next _) => some .none
    | none => none) = _
  rw [key]

/-! ## the texts -/
noncomputable def chOk (c : Nat) : Bool := lo1 c == c && lo1 (up1 c) == c && Nat.blt (up1 c) 128 && Nat.blt c 128
theorem ch_dig : ∀ d, d < 4 → chOk (48 + d) = true ∧ chOk (97 + d) = true := by decide +kernel
theorem ch_fix : chOk 46 = true ∧ chOk 120 = true := by decide +kernel
theorem adr_ch : ∀ k j, (adr k j).all chOk = true
  | 0, _ => by simp [adr, ch_fix]
  | k + 1, j => by
    rw [adr, List.all_append, adr_ch k (j / 4)]
    have := (ch_dig (j % 4) (Nat.mod_lt _ (by decide))).1
    simp [ch_fix, this]
theorem hst_ch : ∀ k j, (hst k j).all chOk = true
  | 0, _ => by simp [hst, ch_fix]
  | k + 1, j => by
    rw [hst, List.all_cons, List.all_cons, hst_ch k (j / 4)]
    have := (ch_dig (j % 4) (Nat.mod_lt _ (by decide))).2
    simp [ch_fix, this]
theorem low_of {l : List Nat} (h : l.all chOk = true) : l.map lo1 = l := by
  have : ∀ c ∈ l, lo1 c = id c := fun c hc => by
    have := List.all_eq_true.mp h c hc
    unfold chOk at this
    simp only [Bool.and_eq_true, beq_iff_eq] at this
    exact this.1.1.1
  rw [List.map_congr_left this, List.map_id]
theorem lowup_of {l : List Nat} (h : l.all chOk = true) : (upS l).map lo1 = l := by
  unfold upS
  rw [List.map_map]
  have : ∀ c ∈ l, (lo1 ∘ up1) c = id c := fun c hc => by
    have := List.all_eq_true.mp h c hc
    unfold chOk at this
    simp only [Bool.and_eq_true, beq_iff_eq] at this
    exact this.1.1.2
  rw [List.map_congr_left this, List.map_id]
theorem asc_of {l : List Nat} (h : l.all chOk = true) : ascii l = true := by
  unfold ascii
  rw [List.all_eq_true]
  intro c hc
  have := List.all_eq_true.mp h c hc
  unfold chOk at this
  simp only [Bool.and_eq_true] at this
  exact this.2
theorem ascup_of {l : List Nat} (h : l.all chOk = true) : ascii (upS l) = true := by
  unfold ascii upS
  rw [List.all_map, List.all_eq_true]
  intro c hc
  have := List.all_eq_true.mp h c hc
  unfold chOk at this
  simp only [Bool.and_eq_true] at this
  exact this.1.2
theorem upS_len (l : List Nat) : (upS l).length = l.length := by simp [upS]

theorem adr_inj : ∀ k i j, i < 4 ^ k → j < 4 ^ k → adr k i = adr k j → i = j
  | 0, i, j, hi, hj, _ => by simp at hi hj; omega
  | k + 1, i, j, hi, hj, h => by
    rw [Nat.pow_succ] at hi hj
    rw [adr, adr] at h
    obtain ⟨h1, h2⟩ := List.append_inj' h rfl
    have e := adr_inj k (i / 4) (j / 4) (by omega) (by omega) h1
    simp at h2
    omega
theorem hst_inj : ∀ k i j, i < 4 ^ k → j < 4 ^ k → hst k i = hst k j → i = j
  | 0, i, j, hi, hj, _ => by simp at hi hj; omega
  | k + 1, i, j, hi, hj, h => by
    rw [Nat.pow_succ] at hi hj
    rw [hst, hst] at h
    simp only [List.cons.injEq] at h
    have e := hst_inj k (i / 4) (j / 4) (by omega) (by omega) h.2.2
    omega
theorem div_lt {o f p : Nat} (hf : f ≤ o) (hp : p < 4 ^ o) : p / 4 ^ f < 4 ^ (o - f) := by
  rw [Nat.div_lt_iff_lt_mul (Nat.pow_pos (by decide)), ← Nat.pow_add, Nat.sub_add_cancel hf]; exact hp

theorem sub_val (l m : List Nat) (i : Nat) : Builtin.Str.subAt (S l) (S m) i = ((l.drop i).take m.length == m) := by
  unfold Builtin.Str.subAt
  show ((l.toArray.extract i (i + m.toArray.size)) == m.toArray) = _
  rw [List.extract_toArray, List.size_toArray]
  have : l.extract i (i + m.length) = (l.drop i).take m.length := by
    rw [List.extract_eq_take_drop]
    congr 1
    omega
  rw [this]
  rw [Bool.eq_iff_iff]
  simp
theorem ends_val (l m : List Nat) : PySem.Txt.endswith (S l) (S m) = (decide (m.length ≤ l.length) && (l.drop (l.length - m.length) == m)) := by
  unfold PySem.Txt.endswith
  rw [str_len, str_len, Nat.zero_add, sub_val]
  by_cases h : m.length ≤ l.length
  · rw [List.take_of_length_le (by simp; omega)]
  · simp [h]
theorem starts_val (l m : List Nat) : PySem.Txt.startswith (S l) (S m) = (decide (m.length ≤ l.length) && (l.take m.length == m)) := by
  unfold PySem.Txt.startswith
  rw [str_len, str_len, Nat.zero_add, sub_val, List.drop_zero]
end Mine
end

section
open PySem PySem.W PyProof.Rows
set_option Elab.async false
set_option linter.unusedVariables false
set_option maxRecDepth 10000
namespace Mine

theorem gn2 (A B : List Nat) : Gn 2 [.str A, .str B] = run Gf 60 3 body2 [.str A, .str B] := rfl

structure Hdn : Prop where
  num : ∀ k j, 1 ≤ k → k ≤ 3 → j < 4 ^ k → Gf 1 [.str (adr k j)] = some (.bool false)
  txt : ∀ k j, k ≤ 3 → j < 4 ^ k → Gf 1 [.str (hst k j)] = some (.bool true)
  dot : ∀ k j, k ≤ 3 → j < 4 ^ k → Gf 1 [.str (46 :: hst k j)] = some (.bool true)

section
variable (H : Hdn) {o p q f : Nat} (o1 : 1 ≤ o) (o3 : o ≤ 3)
include H o1 o3

theorem ud_A (hp : p < 4 ^ o) : Gn 2 [.str (adr o p), .str ((adr o p).drop 1)] = some (.bool false) := by
  have hl := adr_len o p
  have hd : ((adr o p).drop 1).all chOk = true := List.all_eq_true.mpr fun c hc => List.all_eq_true.mp (adr_ch o p) c (List.mem_of_mem_drop hc)
  rw [gn2, udm_num (asc_of (adr_ch o p)) (asc_of hd) (by omega) (by simp; omega) (low_of (adr_ch o p)) (low_of hd) (H.num o p o1 o3 hp)]
  have : (adr o p == (adr o p).drop 1) = false := by
    rw [beq_eq_false_iff_ne]
    intro e
    have := congrArg List.length e
    simp at this
    omega
  rw [this]
theorem ud_B (hp : p < 4 ^ o) : Gn 2 [.str (hst o p), .str [120]] = some (.bool false) := by
  have hl := hst_len o p
  have h0 : ([120] : List Nat).all chOk = true := hst_ch 0 0
  rw [gn2, udm_txt (asc_of (hst_ch o p)) (asc_of h0) (by omega) (by simp) (low_of (hst_ch o p)) (low_of h0) (H.txt o p o3 hp) (H.txt 0 0 (by omega) (by decide)) (d := false) (by rw [starts_val]; rfl) rfl, if_neg Bool.false_ne_true]
  have : (hst o p == [120]) = false := by
    rw [beq_eq_false_iff_ne]
    intro e
    have := congrArg List.length e
    simp at this
    omega
  rw [this]
theorem ud_C (hf : f ≤ o) (hp : p < 4 ^ o) (hq : q < 4 ^ o) : Gn 2 [.str (upS (hst o p)), .str (46 :: hst (o - f) (q / 4 ^ f))] = some (.bool (decide (0 < f) && decide (p / 4 ^ f = q / 4 ^ f))) := by
  have hl := hst_len o p
  have hl2 := hst_len (o - f) (q / 4 ^ f)
  have hb : (46 :: hst (o - f) (q / 4 ^ f)).all chOk = true := by rw [List.all_cons, hst_ch]; simp [ch_fix]
  have hst1 : PySem.Txt.startswith (S (46 :: hst (o - f) (q / 4 ^ f))) (S [46]) = true := by rw [starts_val]; simp
  have hen : PySem.Txt.endswith (S (hst o p)) (S (46 :: hst (o - f) (q / 4 ^ f))) = (decide (0 < f) && decide (p / 4 ^ f = q / 4 ^ f)) := by
    rw [ends_val, hl, List.length_cons, hl2]
    by_cases h0 : 0 < f
    · obtain ⟨g, rfl⟩ : ∃ g, f = g + 1 := ⟨f - 1, by omega⟩
      have e1 : 2 * o + 1 - (2 * (o - (g + 1)) + 1 + 1) = 2 * g + 1 := by omega
      have e2 : (hst o p).drop (2 * g + 1) = 46 :: hst (o - (g + 1)) (p / 4 ^ (g + 1)) := by
        have h3 := hst_drop g o p (by omega)
        obtain ⟨k, hk⟩ : ∃ k, o - g = k + 1 := ⟨o - g - 1, by omega⟩
        rw [← List.drop_drop, h3, hk, hst]
        rw [List.drop_succ_cons, List.drop_zero, Nat.div_div_eq_div_mul, ← Nat.pow_succ, show o - (g + 1) = k by omega]
      rw [e1, e2]
      have e3 : decide (2 * (o - (g + 1)) + 1 + 1 ≤ 2 * o + 1) = true := decide_eq_true (by omega)
      rw [e3, decide_eq_true h0, Bool.true_and, Bool.true_and]
      by_cases h : p / 4 ^ (g + 1) = q / 4 ^ (g + 1)
      · rw [h, decide_eq_true rfl]; simp
      · rw [decide_eq_false h, beq_eq_false_iff_ne]
        intro e
        simp only [List.cons.injEq, true_and] at e
        exact h (hst_inj _ _ _ (div_lt hf hp) (div_lt hf hq) e)
    · have : f = 0 := by omega
      subst this
      have e3 : decide (2 * (o - 0) + 1 + 1 ≤ 2 * o + 1) = false := decide_eq_false (by omega)
      rw [e3]; simp
  rw [gn2, udm_txt (ascup_of (hst_ch o p)) (asc_of hb) (by rw [upS_len]; omega) (by simp; omega) (lowup_of (hst_ch o p)) (low_of hb) (H.txt o p o3 hp) (H.dot (o - f) _ (by omega) (div_lt hf hq)) hst1 hen, if_pos rfl]
theorem ud_D (hf : f ≤ o) (hp : p < 4 ^ o) (hq : q < 4 ^ o) : Gn 2 [.str (adr (o - f) (p / 4 ^ f)), .str (upS (adr (o - f) (q / 4 ^ f)))] = some (.bool (decide (p / 4 ^ f = q / 4 ^ f))) := by
  have ha := div_lt hf hp
  have hb := div_lt hf hq
  generalize p / 4 ^ f = a at *
  generalize q / 4 ^ f = b at *
  have hk : o - f ≤ 3 := by omega
  generalize o - f = k at *
  have la := adr_len k a
  have lb := adr_len k b
  have ceq : (adr k a == adr k b) = decide (a = b) := by
    by_cases h : a = b
    · rw [h, decide_eq_true rfl]; simp
    · rw [decide_eq_false h, beq_eq_false_iff_ne]
      exact fun e => h (adr_inj k a b ha hb e)
  by_cases h1 : 1 ≤ k
  · rw [gn2, udm_num (asc_of (adr_ch k a)) (ascup_of (adr_ch k b)) (by omega) (by rw [upS_len]; omega) (low_of (adr_ch k a)) (lowup_of (adr_ch k b)) (H.num k a h1 hk ha), ceq]
  · have : k = 0 := by omega
    subst this
    have h0 : Gf 1 [.str (adr 0 a)] = some (.bool true) := H.txt 0 0 (by omega) (by decide)
    have h0' : Gf 1 [.str (adr 0 b)] = some (.bool true) := H.txt 0 0 (by omega) (by decide)
    rw [gn2, udm_txt (asc_of (adr_ch 0 a)) (ascup_of (adr_ch 0 b)) (by omega) (by rw [upS_len]; omega) (low_of (adr_ch 0 a)) (lowup_of (adr_ch 0 b)) h0 h0' (d := false) (by rw [starts_val]; rfl) rfl, if_neg Bool.false_ne_true, ceq]
end
end Mine
end

section
open PySem PySem.W PyProof.Rows
set_option Elab.async false
set_option linter.unusedVariables false
set_option maxRecDepth 10000
namespace Mine

noncomputable def cn1 : List (Nat × Nat) := [(0, 0), (0, 1), (1, 1), (1, 0)]
noncomputable def cn2 : List (Nat × Nat) := [(0, 0), (1, 0), (1, 1), (0, 1), (0, 2), (0, 3), (1, 3), (1, 2), (2, 2), (2, 3), (3, 3), (3, 2), (3, 1), (2, 1), (2, 0), (3, 0)]
noncomputable def cn3 : List (Nat × Nat) := [(0, 0), (0, 1), (1, 1), (1, 0), (2, 0), (3, 0), (3, 1), (2, 1), (2, 2), (3, 2), (3, 3), (2, 3), (1, 3), (1, 2), (0, 2), (0, 3), (0, 4), (1, 4), (1, 5), (0, 5), (0, 6), (0, 7), (1, 7), (1, 6), (2, 6), (2, 7), (3, 7), (3, 6), (3, 5), (2, 5), (2, 4), (3, 4), (4, 4), (5, 4), (5, 5), (4, 5), (4, 6), (4, 7), (5, 7), (5, 6), (6, 6), (6, 7), (7, 7), (7, 6), (7, 5), (6, 5), (6, 4), (7, 4), (7, 3), (7, 2), (6, 2), (6, 3), (5, 3), (4, 3), (4, 2), (5, 2), (5, 1), (4, 1), (4, 0), (5, 0), (6, 0), (6, 1), (7, 1), (7, 0)]
noncomputable def cnL : Nat → List (Nat × Nat)
  | 1 => cn1 | 2 => cn2 | _ => cn3
noncomputable def clL (o : Nat) : List (Int × Int) := (cnL o).map fun c => ((c.1 : Int), (c.2 : Int))
noncomputable def rowL (o : Nat) : List UInt8 := (cnL o).flatMap fun c => [UInt8.ofNat c.1, UInt8.ofNat c.2]
noncomputable def ladN : Nat → Nat → List (List Nat)
  | 0, _ => [[120]]
  | k + 1, j => adr (k + 1) j :: ladN k (j / 4)

noncomputable def strIs (r : Option PV) (l : List Nat) : Bool := (r.bind fun v => oStr v fun m => if (m == l) = true then some () else none).isSome
noncomputable def boolIs (r : Option PV) (b : Bool) : Bool := (r.bind fun v => oBool v fun m => if (m == b) = true then some () else none).isSome
noncomputable def bytesIs (r : Option PV) (l : List UInt8) : Bool := (r.bind fun v => oByt v fun m => if (m == l) = true then some () else none).isSome
noncomputable def cellIs (v : PV) (c : Nat × Nat) : Option Unit := oTup v fun ws => o2 ws fun x y => oInt x fun i => oInt y fun j => if (decide (i = (c.1 : Int)) && decide (j = (c.2 : Int))) = true then some () else none
noncomputable def toldIs (r : Option PV) (l : List (List Nat)) (c : Nat × Nat) : Bool := (r.bind fun v => oTup v fun vs => o2 vs fun a b => oLst a fun m => (strsOf m).bind fun s => if (s == l) = true then cellIs b c else none).isSome
noncomputable def ledIs (r : Option PV) (c : Nat × Nat) : Bool := (r.bind fun v => oTup v fun vs => o2 vs fun a b => oStr a fun m => if (m == [120, 121]) = true then cellIs b c else none).isSome

noncomputable def chA (o p : Nat) : Bool := strIs (Gn 13 [.int p, .int o]) (adr o p) && strIs (Gn 14 [.int p, .int o]) (hst o p)
noncomputable def chT (o p : Nat) : Bool := toldIs (Gn 15 [.str (adr o p), .int o]) (ladN o p) ((cnL o).getD p (0, 0))
noncomputable def chL (o p : Nat) : Bool := ledIs (Gn 16 [.str (bsl (adr o p)), .int o]) ((cnL o).getD p (0, 0)) && Nat.ble (bsl (adr o p)).length 1000
noncomputable def chN (o p : Nat) : Bool := boolIs (Gf 1 [.str (adr o p)]) false
noncomputable def chX (o p : Nat) : Bool := boolIs (Gf 1 [.str (hst o p)]) true && boolIs (Gf 1 [.str (46 :: hst o p)]) true

theorem tA1 : ((List.range' 0 4).all fun p => chA 1 p) = true := by decide +kernel
theorem tA2_0 : ((List.range' 0 8).all fun p => chA 2 p) = true := by decide +kernel
theorem tA2_1 : ((List.range' 8 8).all fun p => chA 2 p) = true := by decide +kernel
theorem tA3_0 : ((List.range' 0 8).all fun p => chA 3 p) = true := by decide +kernel
theorem tA3_1 : ((List.range' 8 8).all fun p => chA 3 p) = true := by decide +kernel
theorem tA3_2 : ((List.range' 16 8).all fun p => chA 3 p) = true := by decide +kernel
theorem tA3_3 : ((List.range' 24 8).all fun p => chA 3 p) = true := by decide +kernel
theorem tA3_4 : ((List.range' 32 8).all fun p => chA 3 p) = true := by decide +kernel
theorem tA3_5 : ((List.range' 40 8).all fun p => chA 3 p) = true := by decide +kernel
theorem tA3_6 : ((List.range' 48 8).all fun p => chA 3 p) = true := by decide +kernel
theorem tA3_7 : ((List.range' 56 8).all fun p => chA 3 p) = true := by decide +kernel
theorem tT1 : ((List.range' 0 4).all fun p => chT 1 p) = true := by decide +kernel
theorem tT2_0 : ((List.range' 0 8).all fun p => chT 2 p) = true := by decide +kernel
theorem tT2_1 : ((List.range' 8 8).all fun p => chT 2 p) = true := by decide +kernel
theorem tT3_0 : ((List.range' 0 8).all fun p => chT 3 p) = true := by decide +kernel
theorem tT3_1 : ((List.range' 8 8).all fun p => chT 3 p) = true := by decide +kernel
theorem tT3_2 : ((List.range' 16 8).all fun p => chT 3 p) = true := by decide +kernel
theorem tT3_3 : ((List.range' 24 8).all fun p => chT 3 p) = true := by decide +kernel
theorem tT3_4 : ((List.range' 32 8).all fun p => chT 3 p) = true := by decide +kernel
theorem tT3_5 : ((List.range' 40 8).all fun p => chT 3 p) = true := by decide +kernel
theorem tT3_6 : ((List.range' 48 8).all fun p => chT 3 p) = true := by decide +kernel
theorem tT3_7 : ((List.range' 56 8).all fun p => chT 3 p) = true := by decide +kernel
theorem tL1 : ((List.range' 0 4).all fun p => chL 1 p) = true := by decide +kernel
theorem tL2_0 : ((List.range' 0 8).all fun p => chL 2 p) = true := by decide +kernel
theorem tL2_1 : ((List.range' 8 8).all fun p => chL 2 p) = true := by decide +kernel
theorem tL3_0 : ((List.range' 0 8).all fun p => chL 3 p) = true := by decide +kernel
theorem tL3_1 : ((List.range' 8 8).all fun p => chL 3 p) = true := by decide +kernel
theorem tL3_2 : ((List.range' 16 8).all fun p => chL 3 p) = true := by decide +kernel
theorem tL3_3 : ((List.range' 24 8).all fun p => chL 3 p) = true := by decide +kernel
theorem tL3_4 : ((List.range' 32 8).all fun p => chL 3 p) = true := by decide +kernel
theorem tL3_5 : ((List.range' 40 8).all fun p => chL 3 p) = true := by decide +kernel
theorem tL3_6 : ((List.range' 48 8).all fun p => chL 3 p) = true := by decide +kernel
theorem tL3_7 : ((List.range' 56 8).all fun p => chL 3 p) = true := by decide +kernel
theorem tN1 : ((List.range' 0 4).all fun p => chN 1 p) = true := by decide +kernel
theorem tN2_0 : ((List.range' 0 8).all fun p => chN 2 p) = true := by decide +kernel
theorem tN2_1 : ((List.range' 8 8).all fun p => chN 2 p) = true := by decide +kernel
theorem tN3_0 : ((List.range' 0 8).all fun p => chN 3 p) = true := by decide +kernel
theorem tN3_1 : ((List.range' 8 8).all fun p => chN 3 p) = true := by decide +kernel
theorem tN3_2 : ((List.range' 16 8).all fun p => chN 3 p) = true := by decide +kernel
theorem tN3_3 : ((List.range' 24 8).all fun p => chN 3 p) = true := by decide +kernel
theorem tN3_4 : ((List.range' 32 8).all fun p => chN 3 p) = true := by decide +kernel
theorem tN3_5 : ((List.range' 40 8).all fun p => chN 3 p) = true := by decide +kernel
theorem tN3_6 : ((List.range' 48 8).all fun p => chN 3 p) = true := by decide +kernel
theorem tN3_7 : ((List.range' 56 8).all fun p => chN 3 p) = true := by decide +kernel
theorem tX1 : ((List.range' 0 4).all fun p => chX 1 p) = true := by decide +kernel
theorem tX2_0 : ((List.range' 0 8).all fun p => chX 2 p) = true := by decide +kernel
theorem tX2_1 : ((List.range' 8 8).all fun p => chX 2 p) = true := by decide +kernel
theorem tX3_0 : ((List.range' 0 8).all fun p => chX 3 p) = true := by decide +kernel
theorem tX3_1 : ((List.range' 8 8).all fun p => chX 3 p) = true := by decide +kernel
theorem tX3_2 : ((List.range' 16 8).all fun p => chX 3 p) = true := by decide +kernel
theorem tX3_3 : ((List.range' 24 8).all fun p => chX 3 p) = true := by decide +kernel
theorem tX3_4 : ((List.range' 32 8).all fun p => chX 3 p) = true := by decide +kernel
theorem tX3_5 : ((List.range' 40 8).all fun p => chX 3 p) = true := by decide +kernel
theorem tX3_6 : ((List.range' 48 8).all fun p => chX 3 p) = true := by decide +kernel
theorem tX3_7 : ((List.range' 56 8).all fun p => chX 3 p) = true := by decide +kernel
theorem tX0 : chX 0 0 = true := by decide +kernel
theorem tG1 : bytesIs (Gn 11 [.int 1]) (rowL 1) = true := by decide +kernel
theorem tG2 : bytesIs (Gn 11 [.int 2]) (rowL 2) = true := by decide +kernel
theorem tG3 : bytesIs (Gn 11 [.int 3]) (rowL 3) = true := by decide +kernel

theorem comb {f : Nat → Bool} {a n : Nat} (h : ((List.range' a n).all f) = true) {p : Nat} (h1 : a ≤ p) (h2 : p < a + n) : f p = true :=
  List.all_eq_true.mp h p (List.mem_range'_1.mpr ⟨h1, h2⟩)
theorem comb2 {f : Nat → Bool} (h0 : ((List.range' 0 8).all f) = true) (h1 : ((List.range' 8 8).all f) = true) (p : Nat) (hp : p < 16) : f p = true :=
  if a0 : p < 8 then comb h0 (by omega) (by omega) else comb h1 (by omega) (by omega)
theorem comb8 {f : Nat → Bool} (h0 : ((List.range' 0 8).all f) = true) (h1 : ((List.range' 8 8).all f) = true) (h2 : ((List.range' 16 8).all f) = true) (h3 : ((List.range' 24 8).all f) = true) (h4 : ((List.range' 32 8).all f) = true) (h5 : ((List.range' 40 8).all f) = true) (h6 : ((List.range' 48 8).all f) = true) (h7 : ((List.range' 56 8).all f) = true) (p : Nat) (hp : p < 64) : f p = true :=
  if a0 : p < 8 then comb h0 (by omega) (by omega) else if a1 : p < 16 then comb h1 (by omega) (by omega) else if a2 : p < 24 then comb h2 (by omega) (by omega) else if a3 : p < 32 then comb h3 (by omega) (by omega)
  else if a4 : p < 40 then comb h4 (by omega) (by omega) else if a5 : p < 48 then comb h5 (by omega) (by omega) else if a6 : p < 56 then comb h6 (by omega) (by omega) else comb h7 (by omega) (by omega)
theorem o123 {P : Nat → Prop} (h1 : P 1) (h2 : P 2) (h3 : P 3) : ∀ o, 1 ≤ o → o ≤ 3 → P o
  | 1, _, _ => h1
  | 2, _, _ => h2
  | 3, _, _ => h3
  | 0, h, _ => absurd h (by decide)
  | _ + 4, _, h => absurd h (by omega)
theorem everyA (o p : Nat) (h1 : 1 ≤ o) (h3 : o ≤ 3) (h : p < 4 ^ o) : chA o p = true := o123 (P := fun o => ∀ p, p < 4 ^ o → chA o p = true) (fun p h => comb tA1 (Nat.zero_le _) h) (fun p h => comb2 tA2_0 tA2_1 p h) (fun p h => comb8 tA3_0 tA3_1 tA3_2 tA3_3 tA3_4 tA3_5 tA3_6 tA3_7 p h) o h1 h3 p h
theorem everyT (o p : Nat) (h1 : 1 ≤ o) (h3 : o ≤ 3) (h : p < 4 ^ o) : chT o p = true := o123 (P := fun o => ∀ p, p < 4 ^ o → chT o p = true) (fun p h => comb tT1 (Nat.zero_le _) h) (fun p h => comb2 tT2_0 tT2_1 p h) (fun p h => comb8 tT3_0 tT3_1 tT3_2 tT3_3 tT3_4 tT3_5 tT3_6 tT3_7 p h) o h1 h3 p h
theorem everyL (o p : Nat) (h1 : 1 ≤ o) (h3 : o ≤ 3) (h : p < 4 ^ o) : chL o p = true := o123 (P := fun o => ∀ p, p < 4 ^ o → chL o p = true) (fun p h => comb tL1 (Nat.zero_le _) h) (fun p h => comb2 tL2_0 tL2_1 p h) (fun p h => comb8 tL3_0 tL3_1 tL3_2 tL3_3 tL3_4 tL3_5 tL3_6 tL3_7 p h) o h1 h3 p h
theorem everyN (o p : Nat) (h1 : 1 ≤ o) (h3 : o ≤ 3) (h : p < 4 ^ o) : chN o p = true := o123 (P := fun o => ∀ p, p < 4 ^ o → chN o p = true) (fun p h => comb tN1 (Nat.zero_le _) h) (fun p h => comb2 tN2_0 tN2_1 p h) (fun p h => comb8 tN3_0 tN3_1 tN3_2 tN3_3 tN3_4 tN3_5 tN3_6 tN3_7 p h) o h1 h3 p h
theorem everyX (o p : Nat) (h1 : 1 ≤ o) (h3 : o ≤ 3) (h : p < 4 ^ o) : chX o p = true := o123 (P := fun o => ∀ p, p < 4 ^ o → chX o p = true) (fun p h => comb tX1 (Nat.zero_le _) h) (fun p h => comb2 tX2_0 tX2_1 p h) (fun p h => comb8 tX3_0 tX3_1 tX3_2 tX3_3 tX3_4 tX3_5 tX3_6 tX3_7 p h) o h1 h3 p h
end Mine
end

section
open PySem PySem.W PyProof.Rows
set_option Elab.async false
set_option linter.unusedVariables false
set_option maxRecDepth 10000
namespace Mine

theorem is_out {o : Option Unit} {P : Prop} (h : o.isSome = true) (k : ∀ u, o = some u → P) : P := let ⟨u, e⟩ := Option.isSome_iff_exists.mp h; k u e
theorem strIs_out {r : Option PV} {l : List Nat} (h : strIs r l = true) : r = some (.str l) := is_out h fun _ e => bd_out e fun v hr e => oStr_out e fun m hv e => if_out e fun hq _ => by rw [hr, hv, beq_iff_eq.mp hq]
theorem boolIs_out {r : Option PV} {b : Bool} (h : boolIs r b = true) : r = some (.bool b) := is_out h fun _ e => bd_out e fun v hr e => oBool_out e fun m hv e => if_out e fun hq _ => by rw [hr, hv, beq_iff_eq.mp hq]
theorem bytesIs_out {r : Option PV} {l : List UInt8} (h : bytesIs r l = true) : r = some (.bytes l) := is_out h fun _ e => bd_out e fun v hr e => oByt_out e fun m hv e => if_out e fun hq _ => by rw [hr, hv, beq_iff_eq.mp hq]
theorem cellIs_out {v : PV} {c : Nat × Nat} {u : Unit} (h : cellIs v c = some u) : v = .tup [.int (c.1 : Int), .int (c.2 : Int)] := oTup_out h fun ws h1 e => o2_out e fun x y h2 e => oInt_out e fun i hi e => oInt_out e fun j hj e => if_out e fun hq _ => by
  have hq := and2 hq
  rw [h1, h2, hi, hj, hq.1, hq.2]
theorem strsOf_eq : ∀ {l : List PV} {s : List (List Nat)}, strsOf l = some s → l = s.map .str
  | [], s, e => so_out e fun e => e ▸ rfl
  | p :: r, s, e => by
    cases p with
    | str i => exact mp_out e fun t ht e => by rw [← e, strsOf_eq ht]; rfl
    | _ => cases e
theorem lad_eq : ∀ k j, lad k j = (ladN k j).map .str
  | 0, _ => rfl
  | k + 1, j => by rw [lad, ladN, List.map_cons, lad_eq k (j / 4)]
theorem toldIs_out {r : Option PV} {l : List (List Nat)} {c : Nat × Nat} (h : toldIs r l c = true) : r = some (.tup [.lst (l.map .str), .tup [.int (c.1 : Int), .int (c.2 : Int)]]) :=
  is_out h fun _ e => bd_out e fun v hr e => oTup_out e fun vs hv e => o2_out e fun a b h2 e => oLst_out e fun m hm e => bd_out e fun s hs e => if_out e fun hq e => by
    rw [hr, hv, h2, hm, cellIs_out e, strsOf_eq hs, beq_iff_eq.mp hq]
theorem ledIs_out {r : Option PV} {c : Nat × Nat} (h : ledIs r c = true) : r = some (.tup [.str [120, 121], .tup [.int (c.1 : Int), .int (c.2 : Int)]]) :=
  is_out h fun _ e => bd_out e fun v hr e => oTup_out e fun vs hv e => o2_out e fun a b h2 e => oStr_out e fun m hm e => if_out e fun hq e => by
    rw [hr, hv, h2, hm, cellIs_out e, beq_iff_eq.mp hq]

theorem hdn : Hdn where
  num := fun k j h1 h3 hj => boolIs_out (everyN k j h1 h3 hj)
  txt := fun k j h3 hj => by
    by_cases h1 : 1 ≤ k
    · exact boolIs_out (Bool.and_eq_true_iff.mp (everyX k j h1 h3 hj)).1
    · have : k = 0 := by omega
      subst this
      have : j = 0 := by simpa using hj
      subst this
      exact boolIs_out (Bool.and_eq_true_iff.mp tX0).1
  dot := fun k j h3 hj => by
    by_cases h1 : 1 ≤ k
    · exact boolIs_out (Bool.and_eq_true_iff.mp (everyX k j h1 h3 hj)).2
    · have : k = 0 := by omega
      subst this
      have : j = 0 := by simpa using hj
      subst this
      exact boolIs_out (Bool.and_eq_true_iff.mp tX0).2

/-! ## the cells -/
noncomputable def nearC (o : Nat) : Bool := (List.range (o + 1)).all fun f => (cnL o).zipIdx.all fun c => (cnL o).zipIdx.all fun d => (c.1.1 / 2 ^ f == d.1.1 / 2 ^ f && c.1.2 / 2 ^ f == d.1.2 / 2 ^ f) == (c.2 / 4 ^ f == d.2 / 4 ^ f)
noncomputable def stepC : List (Nat × Nat) → Bool
  | c :: d :: r => (((d.1 : Int) - c.1).natAbs + ((d.2 : Int) - c.2).natAbs == 1) && stepC (d :: r)
  | _ => true
noncomputable def onceC (o : Nat) : Bool := (clL o).all fun c => countP c (clL o) == 1
noncomputable def smlC (o : Nat) : Bool := (cnL o).all fun c => Nat.blt c.1 100 && Nat.blt c.2 100
noncomputable def cellsOk (o : Nat) : Bool := nearC o && stepC (cnL o) && onceC o && smlC o && (cnL o).length == 4 ^ o && pairsOf (rowL o) == clL o && (rowL o).length == 2 * 4 ^ o
theorem cells1 : cellsOk 1 = true := by decide +kernel
theorem cells2 : cellsOk 2 = true := by decide +kernel
theorem cells3 : cellsOk 3 = true := by decide +kernel
theorem cellsAll : ∀ o, 1 ≤ o → o ≤ 3 → cellsOk o = true := o123 cells1 cells2 cells3
theorem grownAll : ∀ o : Nat, 1 ≤ o → o ≤ 3 → Gn 11 [.int o] = some (.bytes (rowL o)) := o123 (bytesIs_out tG1) (bytesIs_out tG2) (bytesIs_out tG3)

theorem stepC_at : ∀ (l : List (Nat × Nat)) (p : Nat) (c d : Nat × Nat), stepC l = true → l[p]? = some c → l[p + 1]? = some d → ((d.1 : Int) - c.1).natAbs + ((d.2 : Int) - c.2).natAbs = 1
  | [], p, c, d, _, hc, _ => by simp at hc
  | [x], p, c, d, _, hc, hd => by
    simp at hd
  | x :: y :: r, 0, c, d, h, hc, hd => by
    simp at hc hd
    subst hc; subst hd
    rw [stepC, Bool.and_eq_true] at h
    exact beq_iff_eq.mp h.1
  | x :: y :: r, p + 1, c, d, h, hc, hd => by
    rw [stepC, Bool.and_eq_true] at h
    exact stepC_at (y :: r) p c d h.2 (by simpa using hc) (by simpa using hd)

theorem cl_get {o p : Nat} {c : Int × Int} (h : (clL o)[p]? = some c) : ∃ d : Nat × Nat, (cnL o)[p]? = some d ∧ c = ((d.1 : Int), (d.2 : Int)) := by
  unfold clL at h
  rw [List.getElem?_map] at h
  obtain ⟨d, hd, e⟩ := Option.map_eq_some_iff.mp h
  exact ⟨d, hd, e.symm⟩

theorem lawG (o : Nat) (o1 : 1 ≤ o) (o3 : o ≤ 3) : LawG Gn o (rowL o) (clL o) := by
  have hk := cellsAll o o1 o3
  unfold cellsOk at hk
  simp only [Bool.and_eq_true, beq_iff_eq] at hk
  obtain ⟨⟨⟨⟨⟨⟨k1, k2⟩, k3⟩, k4⟩, k5⟩, k6⟩, k7⟩ := hk
  have hpow : 4 ^ o ≤ 64 := o123 (P := fun o => 4 ^ o ≤ 64) (by decide) (by decide) (by decide) o o1 o3
  have hlt : ∀ {p : Nat} {d : Nat × Nat}, (cnL o)[p]? = some d → p < 4 ^ o := fun h => by
    obtain ⟨q, _⟩ := List.getElem?_eq_some_iff.mp h
    rwa [k5] at q
  have hgd : ∀ {p : Nat} {d : Nat × Nat}, (cnL o)[p]? = some d → (cnL o).getD p (0, 0) = d := fun h => by
    rw [List.getD_eq_getElem?_getD, h]; rfl
  exact {
    o1 := o1
    o3 := o3
    grown := grownAll o o1 o3
    rowf := fits_of (by rw [k7]; omega)
    rowe := by rw [k7]; simp
    rowc := k6
    len := by unfold clL; rw [List.length_map, k5]
    addr := fun p hp => strIs_out (Bool.and_eq_true_iff.mp (everyA o p o1 o3 hp)).1
    host := fun p hp => strIs_out (Bool.and_eq_true_iff.mp (everyA o p o1 o3 hp)).2
    told := fun p c hc => by
      obtain ⟨d, hd, rfl⟩ := cl_get hc
      have := everyT o p o1 o3 (hlt hd)
      unfold chT at this
      rw [hgd hd] at this
      rw [toldIs_out this, lad_eq]
    led := fun p c hc => by
      obtain ⟨d, hd, rfl⟩ := cl_get hc
      have := (Bool.and_eq_true_iff.mp (everyL o p o1 o3 (hlt hd))).1
      rw [hgd hd] at this
      rw [ledIs_out this]
    bln := fun p hp => by
      have := (Bool.and_eq_true_iff.mp (everyL o p o1 o3 hp)).2
      simpa [Nat.ble_eq] using this
    step := fun p c d hc hd => by
      obtain ⟨c', hc', rfl⟩ := cl_get hc
      obtain ⟨d', hd', rfl⟩ := cl_get hd
      have := stepC_at _ p c' d' k2 hc' hd'
      show (((d'.1 : Int) - c'.1).natAbs : Int) + (((d'.2 : Int) - c'.2).natAbs : Int) = 1
      omega
    once := fun p c hc => by
      have := List.all_eq_true.mp k3 c (List.mem_of_getElem? hc)
      exact beq_iff_eq.mp this
    sml := fun p c hc => by
      obtain ⟨d, hd, rfl⟩ := cl_get hc
      have := List.all_eq_true.mp k4 d (List.mem_of_getElem? hd)
      simp only [Bool.and_eq_true, Nat.blt_eq] at this
      simp [small]
      omega
    near := fun p q c d f hf hc hd => by
      obtain ⟨c', hc', rfl⟩ := cl_get hc
      obtain ⟨d', hd', rfl⟩ := cl_get hd
      have h1 := List.all_eq_true.mp k1 f (List.mem_range.mpr (by omega))
      have m1 : (c', p) ∈ (cnL o).zipIdx := List.mem_zipIdx_iff_getElem?.mpr hc'
      have m2 : (d', q) ∈ (cnL o).zipIdx := List.mem_zipIdx_iff_getElem?.mpr hd'
      have h2 := List.all_eq_true.mp (List.all_eq_true.mp h1 _ m1) _ m2
      have e : ∀ a b : Nat, ((a : Int) / 2 ^ f = (b : Int) / 2 ^ f) ↔ a / 2 ^ f = b / 2 ^ f := fun a b => by
        constructor
        · intro h
          have : ((a / 2 ^ f : Nat) : Int) = ((b / 2 ^ f : Nat) : Int) := by push_cast; exact h
          exact Int.ofNat.inj this
        · intro h
          have : ((a / 2 ^ f : Nat) : Int) = ((b / 2 ^ f : Nat) : Int) := by rw [h]
          push_cast at this
          exact this
      show ((c'.1 : Int) / 2 ^ f = (d'.1 : Int) / 2 ^ f ∧ (c'.2 : Int) / 2 ^ f = (d'.2 : Int) / 2 ^ f) ↔ _
      rw [e, e]
      have h3 := beq_iff_eq.mp h2
      rw [Bool.eq_iff_iff] at h3
      simpa using h3
    udA := fun p hp => ud_A hdn o1 o3 hp
    udB := fun p hp => ud_B hdn o1 o3 hp
    udC := fun p q f hf hp hq => ud_C hdn o1 o3 hf hp hq
    udD := fun p q f hf hp hq => ud_D hdn o1 o3 hf hp hq }
end Mine
end

section
open PySem PySem.W PyProof.Rows
set_option Elab.async false
set_option linter.unusedVariables false
set_option maxRecDepth 100000
namespace Mine
variable {c : Cx} {n : Nat}

theorem intsOf_eq : ∀ {l : List PV} {ds : List Int}, intsOf l = some ds → l = intL ds
  | [], ds, e => so_out e fun e => e ▸ rfl
  | p :: r, ds, e => by
    cases p with
    | int i => exact mp_out e fun t ht e => by rw [← e, intsOf_eq ht]; rfl
    | _ => cases e

structure Is3 (f : Nat) (args : List PV) (res : PV) (x : Int) : Prop where
  f : f = 3
  args : args = [.int x, .int 2]
  lo : 0 ≤ x
  hi : x < 64
  res : res = .lst (intL (figs x))
structure Is4 (f : Nat) (args : List PV) (res : PV) (ds : List Int) : Prop where
  f : f = 4
  args : args = [.lst (intL ds), .int 1]
  len : ds.length ≤ 3
  all : ∀ d ∈ ds, 0 ≤ d ∧ d ≤ 1
  res : res = .int (undR ds 0 ds.length)
theorem g0_cases {f : Nat} {args : List PV} {res : PV} {P : Prop} (e : G0 f args = some res) (h3 : ∀ x, Is3 f args res x → P) (h4 : ∀ ds, Is4 f args res ds → P) : P := by
  unfold G0 at e
  cases hf : f == 3 with
  | true =>
    rw [hf] at e
    exact o2_out e fun a b h1 e => oInt_out e fun x hx e => oInt_out e fun k hk e => if_out e fun hc e => so_out e fun e => by
      have hc := and3' hc
      exact h3 x ⟨beq_iff_eq.mp hf, by rw [h1, hx, hk, hc.1.1], hc.1.2, hc.2, e.symm⟩
  | false =>
    rw [hf] at e
    refine if_out (b := f == 4) e fun hg e => o2_out e fun a b h1 e => oLst_out e fun l hl e => oInt_out e fun k hk e => if_out e fun hk1 e => bd_out e fun ds hd e => if_out e fun hc e => so_out e fun e => ?_
    unfold ok01 at hc
    simp only [Bool.and_eq_true, Nat.ble_eq, List.all_eq_true, decide_eq_true_eq] at hc
    exact h4 ds ⟨beq_iff_eq.mp hg, by rw [h1, hl, hk, of_decide_eq_true hk1, intsOf_eq hd], hc.1, hc.2, e.symm⟩

theorem ok0 (S : Sit2 c) {f : Nat} {args : List PV} {res : PV} (e : G0 f args = some res) : FnOK c (n + 4) (rp.ad f) args res :=
  g0_cases e (fun x q => by rw [q.f, q.args, q.res]; exact i2d S q.lo q.hi) fun ds q => by rw [q.f, q.args, q.res]; exact d2i S q.len q.all
theorem fns0 (S : Sit2 c) : Fns c (n + 4) rp G0 where
  fn := fun f args res e => g0_cases e (fun x q => by rw [q.f]; obtain ⟨o, ho, hd⟩ := (fun3 S.toSit).get; exact ⟨o, _, ho, hd⟩) fun ds q => by rw [q.f]; obtain ⟨o, ho, hd⟩ := (fun4 S.toSit).get; exact ⟨o, _, ho, hd⟩
  ok := fun f args res _ e => ok0 S e
  okC := fun f args res e => (ok0 S e).C

theorem stp_out {np nv : Nat} {ps : List PS} {G : Nat → List PV → Option PV} {args : List PV} {res : PV} (e : (if args.length == np then run G 60 nv ps args else none) = some res) : args.length = np ∧ run G 60 nv ps args = some res := by
  split at e
  · rename_i h; exact ⟨by simpa using h, e⟩
  · cases e

theorem Fns.add (S : Sit2 c) {G : Nat → List PV → Option PV} (F : Fns c (n + 1) rp G) {k np nv : Nat} {ps : List PS} {nt : List PySem.Str} {fd : FuncData} {body : List Stmt} (Ff : Fun c (rp.ad k) fd body nt np) (hnv : nv = nt.length) (hrep : ∀ L, RepL rp (fiF fd (rp.ad k) nt L) body ps) : Fns c (n + 2) rp (stp G k np nv ps) := by
  have B : Base c (n + 1) rp := S.toSit.base
  refine Fns.lay F (let ⟨o, ho, hd⟩ := Ff.get; ⟨o, _, ho, hd⟩) (fun args res _ e => ?_) (fun args res e => ?_)
  · obtain ⟨h1, h2⟩ := stp_out e
    exact fn_run B F Ff hnv h1 hrep h2
  · obtain ⟨h1, h2⟩ := stp_out e
    exact (fn_run B F Ff hnv h1 hrep h2).C
theorem Fns.addC (S : Sit2 c) {G : Nat → List PV → Option PV} (F : Fns c (n + 1) rp G) {k np nv : Nat} {ps : List PS} {nt : List PySem.Str} {fd : FuncData} {body : List Stmt} (hk : plainF k = false) (Ff : Fun c (rp.ad k) fd body nt np) (hnv : nv = nt.length) (hrep : ∀ L, RepLC rp (fiF fd (rp.ad k) nt L) body ps) : Fns c (n + 2) rp (stp G k np nv ps) := by
  have B : Base c (n + 1) rp := S.toSit.base
  refine Fns.lay F (let ⟨o, ho, hd⟩ := Ff.get; ⟨o, _, ho, hd⟩) (fun args res hp e => by rw [hk] at hp; cases hp) (fun args res e => ?_)
  obtain ⟨h1, h2⟩ := stp_out e
  exact fn_runC B F Ff hnv h1 hrep h2

theorem fnsN (S : Sit2 c) : Fns c (n + 18) rp Gn := by
  have Z := S.toSit
  have F0 : Fns c (n + 4) rp G0 := fns0 S
  have Fa := F0.add S (k := 0) (fun0 Z) rfl (rep0 c.w.params)
  have Fb := Fa.add S (k := 1) (fun1 Z) rfl (rep1 c.w.params)
  have Fc := Fb.add S (k := 5) (fun5 Z) rfl (rep5 c.w.params)
  have Fd := Fc.add S (k := 6) (fun6 Z) rfl (rep6 c.w.params)
  have Fe := Fd.add S (k := 7) (fun7 Z) rfl (rep7 c.w.params)
  have Ff := Fe.add S (k := 8) (fun8 Z) rfl (rep8 c.w.params)
  have Fg := Ff.add S (k := 2) (fun2 Z) rfl (rep2 c.w.params)
  have Fh := Fg.addC S (k := 10) rfl (fun10 Z) rfl (rep10 c.w.params)
  have Fi := Fh.addC S (k := 11) rfl (fun11 Z) rfl (rep11 c.w.params)
  have Fj := Fi.add S (k := 12) (fun12 Z) rfl (rep12 c.w.params)
  have Fk := Fj.add S (k := 13) (fun13 Z) rfl (rep13 c.w.params)
  have Fl := Fk.add S (k := 14) (fun14 Z) rfl (rep14 c.w.params)
  have Fm := Fl.add S (k := 15) (fun15 Z) rfl (rep15 c.w.params)
  exact Fm.add S (k := 16) (fun16 Z) rfl (rep16 c.w.params)

theorem law_contract (S : Sit2 c) (H : ∀ o : Nat, 1 ≤ o → o ≤ 3 → ∃ row cl, LawG Gn o row cl) (xs : List Int) (hx : xs.length ≤ 63) : LawOK c (n + 19) 159 [.lst (intL xs)] (.bool true) := by
  have B : Base c (n + 18) rp := S.toSit.base
  exact law_runC (nv := 22) (k := 60) B (fnsN S) (fun17 S.toSit) (by kernel_rfl) rfl (rep17 c.w.params) (law_run H xs hx)

theorem whole (H : ∀ o : Nat, 1 ≤ o → o ≤ 3 → ∃ row cl, LawG Gn o row cl) : PySem.Challenge.rw_zo0009_01.Holds :=
  joined fun c S xs hx => law_contract (n := 11) S H xs hx
end Mine
end

theorem PySem.Challenge.cw_zo0009_01_holds : PySem.Challenge.rw_zo0009_01.Holds := by
  exact Mine.whole fun o h1 h3 => ⟨_, _, Mine.lawG o h1 h3⟩
