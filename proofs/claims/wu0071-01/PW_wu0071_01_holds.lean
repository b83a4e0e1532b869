import PyProof.Rows.All
import PyProof.LetGo
import Wide.All
import OpenK.Peek
import OpenK.AllK
import KE.KSuperObj
import PySem.Challenge.RW_wu0071_01
set_option Elab.async false
set_option maxRecDepth 10000
set_option linter.unusedVariables false
set_option maxHeartbeats 4000000
noncomputable section
namespace Mine
open PySem PyProof.Rows
section -- P1
set_option genSizeOf false
set_option genInjectivity false

noncomputable abbrev pr : Program := PySem.Challenge.pw_wu0071_01

/-- values with the heap left out: a tuple is its items, a list or a pile is its address -/
inductive V where
  | none
  | bool (b : Bool)
  | int (i : Int)
  | str (s : Str)
  | tup (vs : List V)
  | ref (a : Addr)
  | val (v : Value)

mutual
inductive VR (h : Heap) : V → Value → Prop
  | none : VR h .none .none
  | bool (b : Bool) : VR h (.bool b) (.bool b)
  | int (i : Int) (t : Tok) : VR h (.int i) (.int i t)
  | str (s : Str) (t : Tok) : VR h (.str s) (.str s t)
  | ref (a : Addr) : VR h (.ref a) (.ref a)
  | val (v : Value) : VR h (.val v) v
  | tup {a : Addr} {items : Array Value} {n : Nat} {vs : List V} : h.get? a = some { cls := .type "tuple", data := .seq items n } → VRs h vs items.toList → VR h (.tup vs) (.ref a)
inductive VRs (h : Heap) : List V → List Value → Prop
  | nil : VRs h [] []
  | cons {v : V} {x : Value} {vs : List V} {xs : List Value} : VR h v x → VRs h vs xs → VRs h (v :: vs) (x :: xs)
end

/-- every tuple of h is one of h' -/
noncomputable def TupK (h h' : Heap) : Prop := ∀ (a : Addr) (items : Array Value) (n : Nat), h.get? a = some { cls := .type "tuple", data := .seq items n } → h'.get? a = some { cls := .type "tuple", data := .seq items n }
theorem VR.mono {h h' : Heap} (k : TupK h h') {v : V} {x : Value} (r : VR h v x) : VR h' v x :=
  VR.rec (motive_1 := fun v x _ => VR h' v x) (motive_2 := fun vs xs _ => VRs h' vs xs) .none .bool .int .str .ref .val (fun ho _ ih => .tup (k _ _ _ ho) ih) .nil (fun _ _ a b => .cons a b) r
theorem VRs.ind {h : Heap} {P : List V → List Value → Prop} (h0 : P [] []) (hs : ∀ v x vs xs, VR h v x → VRs h vs xs → P vs xs → P (v :: vs) (x :: xs)) {vs : List V} {xs : List Value} (r : VRs h vs xs) : P vs xs :=
  VRs.rec (motive_1 := fun _ _ _ => True) (motive_2 := fun vs xs _ => P vs xs) trivial (fun _ => trivial) (fun _ _ => trivial) (fun _ _ => trivial) (fun _ => trivial) (fun _ => trivial) (fun _ _ _ => trivial) h0 (fun a b _ ih => hs _ _ _ _ a b ih) r
theorem VRs.mono {h h' : Heap} (k : TupK h h') {vs : List V} {xs : List Value} (r : VRs h vs xs) : VRs h' vs xs :=
  r.ind (P := VRs h') .nil fun _ _ _ _ a _ ih => .cons (a.mono k) ih
theorem VRs.length {h : Heap} {vs : List V} {xs : List Value} (r : VRs h vs xs) : vs.length = xs.length :=
  r.ind (P := fun vs xs => vs.length = xs.length) rfl fun _ _ _ _ _ _ ih => congrArg Nat.succ ih
theorem VRs.get {h : Heap} {vs : List V} {xs : List Value} (r : VRs h vs xs) : ∀ (i : Nat) (v : V), vs[i]? = some v → ∃ x, xs[i]? = some x ∧ VR h v x :=
  r.ind (P := fun vs xs => ∀ (i : Nat) (v : V), vs[i]? = some v → ∃ x, xs[i]? = some x ∧ VR h v x) (fun i v e => by cases e) fun _ x _ _ a _ ih i v e => by
    cases i with
    | zero => cases e; exact ⟨x, rfl, a⟩
    | succ i => exact ih i v e
theorem VRs.append {h : Heap} {vs : List V} {xs : List Value} {ws : List V} {ys : List Value} (r : VRs h vs xs) (q : VRs h ws ys) : VRs h (vs ++ ws) (xs ++ ys) :=
  r.ind (P := fun vs xs => VRs h (vs ++ ws) (xs ++ ys)) q fun _ _ _ _ a _ ih => .cons a ih
theorem VRs.snoc {h : Heap} {vs : List V} {xs : List Value} {w : V} {y : Value} (a : VRs h vs xs) (b : VR h w y) : VRs h (vs ++ [w]) (xs ++ [y]) := a.append (.cons b .nil)
theorem VRs.get' {h : Heap} {vs : List V} {xs : List Value} (r : VRs h vs xs) : ∀ (i : Nat) (x : Value), xs[i]? = some x → ∃ v, vs[i]? = some v ∧ VR h v x :=
  r.ind (P := fun vs xs => ∀ (i : Nat) (x : Value), xs[i]? = some x → ∃ v, vs[i]? = some v ∧ VR h v x) (fun i v e => by cases e) fun v _ _ _ a _ ih i x e => by
    cases i with
    | zero => cases e; exact ⟨v, rfl, a⟩
    | succ i => exact ih i x e
theorem VRs.consI {h : Heap} {v : V} {vs : List V} {xs : List Value} (r : VRs h (v :: vs) xs) : ∃ x ys, xs = x :: ys ∧ VR h v x ∧ VRs h vs ys := by
  cases r with | cons a b => exact ⟨_, _, rfl, a, b⟩

/-- what may change: a list; a pile, with its first size -/
inductive Cell where
  | list (vs : List V)
  | acc (init : V) (vs : List V)
noncomputable abbrev Sto := List (Addr × Cell)
noncomputable abbrev Loc := List (Str × V)
structure St where
  loc : Loc
  sto : Sto

noncomputable def clsA : Addr := 137
noncomputable def tbls : List Addr := [99, 106]
/-- the pile's own dict, as it stands behind __init__ -/
noncomputable def only (x : Value) : Str → Option Value := fun y => if y = "_initial_size" then some x else none
noncomputable def CellR (h : Heap) (N : Nat) (a : Addr) : Cell → Prop
  | .list vs => ∃ items n, h.get? a = some { cls := .type "list", data := .seq items n } ∧ VRs h vs items.toList
  | .acc iv vs => ∃ items n d sl x, h.get? a = some { cls := .ref clsA, dict := some d, data := .seq items n, slots := sl } ∧ VRs h vs items.toList ∧
      N ≤ d ∧ VR h iv x ∧ h.Ns d (only x)
theorem Ns.one {h : Heap} {a : Addr} {m m' : Str → Option Value} (x : h.Ns a m) (y : h.Ns a m') (n : Str) : m n = m' n := by
  obtain ⟨o, es, ep, e, hd, _, r⟩ := x
  obtain ⟨o', es', ep', e', hd', _, r'⟩ := y
  rw [e] at e'; cases e'
  rw [hd] at hd'; cases hd'
  rw [← r, r']

noncomputable def tabCodes : List (Addr × Addr) := [(103, 99), (110, 106)]
structure Base (H h : Heap) : Prop where
  keep : ∀ b o, H.get? b = some o → b ∉ tbls → h.get? b = some o
  last : ∃ o, H.get? (H.objs.size - 1) = some o ∧ H.objs.size - 1 ∉ tbls
  old : OldK H h
  tabs : ∀ cp ∈ tabCodes, ∃ ps, h.IsCode cp.1 cp.2 ps ∧ h.TableAt cp.1 cp.2 ps
theorem Base.size {H h : Heap} (b : Base H h) : H.objs.size ≤ h.objs.size := by
  obtain ⟨o, e, n⟩ := b.last
  have h1 : H.objs.size - 1 < h.objs.size := Heap.lt_size (b.keep _ _ e n)
  exact Nat.le_of_pred_lt h1
theorem Base.tab {H h : Heap} (b : Base H h) : ∀ a ∈ tbls, ∃ ps, h.get? a = some { cls := .none, data := .fields ps } := by
  intro a ha
  have : (a = 99) ∨ (a = 106) := by simpa [tbls] using ha
  rcases this with rfl | rfl
  · obtain ⟨ps, _, t⟩ := b.tabs (103, 99) (by simp [tabCodes]); exact ⟨ps, t.2⟩
  · obtain ⟨ps, _, t⟩ := b.tabs (110, 106) (by simp [tabCodes]); exact ⟨ps, t.2⟩
end
section -- P2
set_option genSizeOf false
set_option genInjectivity false

/-- the same object, a frame's own notes left out -/
noncomputable def Same (o o' : Obj) : Prop := o' = o ∨ (o.cls = .type "frame" ∧ o'.cls = o.cls ∧ o'.data = o.data ∧ o'.dict = o.dict)
theorem Same.refl (o : Obj) : Same o o := .inl rfl
theorem Same.trans {a b c : Obj} (x : Same a b) (y : Same b c) : Same a c := by
  rcases x with rfl | ⟨x1, x2, x3, x4⟩
  · exact y
  · rcases y with rfl | ⟨y1, y2, y3, y4⟩
    · exact .inr ⟨x1, x2, x3, x4⟩
    · exact .inr ⟨x1, y2.trans x2, y3.trans x3, y4.trans x4⟩
theorem Same.data {o o' : Obj} (x : Same o o') : o'.data = o.data := by
  rcases x with rfl | ⟨_, _, x, _⟩; rfl; exact x
theorem Same.cls {o o' : Obj} (x : Same o o') : o'.cls = o.cls := by
  rcases x with rfl | ⟨_, x, _, _⟩; rfl; exact x
theorem Same.eq {o o' : Obj} (x : Same o o') (h : o.cls ≠ .type "frame") : o' = o := by
  rcases x with x | ⟨y, _⟩
  · exact x
  · exact absurd y h

/-- between two states: what lay there and is not in X is as it was -/
structure Step (X X' : Addr → Prop) (s s' : Shared) : Prop where
  keep : ∀ b o, s.heap.get? b = some o → ¬ X b → ∃ o', s'.heap.get? b = some o' ∧ Same o o'
  grow : ∀ b, X' b → X b ∨ ∀ o, s.heap.get? b ≠ some o
  gens : ∀ g, g < s.gens.size → s'.gens[g]? = s.gens[g]?
  gsize : s.gens.size ≤ s'.gens.size

theorem Step.refl (X : Addr → Prop) (s : Shared) : Step X X s s :=
  ⟨fun b o e _ => ⟨o, e, .refl o⟩, fun _ h => .inl h, fun _ _ => rfl, Nat.le_refl _⟩
theorem Step.trans {X Y Z : Addr → Prop} {a b c : Shared} (x : Step X Y a b) (y : Step Y Z b c) : Step X Z a c where
  keep := fun d o e n => by
    obtain ⟨o', e', q⟩ := x.keep d o e n
    obtain ⟨o'', e'', q'⟩ := y.keep d o' e' (fun hY => by
      rcases x.grow d hY with h | h
      · exact n h
      · exact h _ e)
    exact ⟨o'', e'', q.trans q'⟩
  grow := fun d h => by
    by_cases hX : X d
    · exact .inl hX
    · rcases y.grow d h with h | h
      · exact x.grow d h
      · refine .inr fun o e => ?_
        obtain ⟨o', e', _⟩ := x.keep d o e hX
        exact h _ e'
  gens := fun g h => (y.gens g (Nat.lt_of_lt_of_le h x.gsize)).trans (x.gens g h)
  gsize := Nat.le_trans x.gsize y.gsize
theorem Step.weaken {X X' Y Y' : Addr → Prop} {a b : Shared} (x : Step X X' a b) (h : ∀ d, X d → Y d) (h' : ∀ d, Y' d → Y d ∨ ∀ o, a.heap.get? d ≠ some o) : Step Y Y' a b :=
  ⟨fun d o e n => x.keep d o e fun hX => n (h d hX), h', x.gens, x.gsize⟩
theorem Step.tuple {X X' : Addr → Prop} {a b : Shared} (x : Step X X' a b) {d : Addr} {o : Obj} (e : a.heap.get? d = some o) (n : ¬ X d) (hc : o.cls ≠ .type "frame") : b.heap.get? d = some o := by
  obtain ⟨o', e', q⟩ := x.keep d o e n
  rw [q.eq hc] at e'; exact e'

/-- an extension alone -/
theorem Step.ext {X : Addr → Prop} {s s' : Shared} (hk : ∀ b o, s.heap.get? b = some o → s'.heap.get? b = some o) (hg : s'.gens = s.gens) : Step X X s s' :=
  ⟨fun b o e _ => ⟨o, hk b o e, .refl o⟩, fun _ h => .inl h, fun _ _ => by rw [hg], by rw [hg]; exact Nat.le_refl _⟩
theorem Step.but {X : Addr → Prop} {s s' : Shared} {a : Addr} (ha : X a) (hs : ∀ b o, b ≠ a → s.heap.get? b = some o → s'.heap.get? b = some o) (hg : s'.gens = s.gens) : Step X X s s' :=
  ⟨fun b o e n => ⟨o, hs b o (fun h => n (h ▸ ha)) e, .refl o⟩, fun _ h => .inl h, fun _ _ => by rw [hg], by rw [hg]; exact Nat.le_refl _⟩
theorem none_size {h : Heap} {a : Addr} (hN : h.objs.size ≤ a) : ∀ o, h.get? a ≠ some o := fun o e => absurd (Heap.lt_size e) (Nat.not_lt.mpr hN)
end
section -- P3
set_option genSizeOf false
set_option genInjectivity false

/-- what stands within a statement -/
noncomputable def subs : Stmt → List Stmt
  | .FunctionDef _ _ b _ _ _ _ _ _ _ => b
  | .ClassDef _ _ _ b _ _ _ _ _ _ _ => b
  | .For _ _ b _ _ => b
  | .If _ b _ _ => b
  | .While _ b _ _ => b
  | _ => []
noncomputable def subAt (l : List Stmt) (i : Nat) : List Stmt := match (l[i]? : Option Stmt) with | some x => subs x | none => []
noncomputable def parsX : Stmt → Arguments
  | .FunctionDef _ p _ _ _ _ _ _ _ _ => p
  | _ => default
noncomputable def scopeX : Stmt → Scope
  | .FunctionDef _ _ _ _ _ _ s _ _ _ => s
  | _ => default
noncomputable def bodyAt (i : Nat) : List Stmt := subAt pr.main.body i
noncomputable def parsAt (i : Nat) : Arguments := match (pr.main.body[i]? : Option Stmt) with | some x => parsX x | none => default
noncomputable def scopeAt (i : Nat) : Scope := match (pr.main.body[i]? : Option Stmt) with | some x => scopeX x | none => default
noncomputable def clsBody : List Stmt := subAt pr.main.body 8
noncomputable def bodyC (i : Nat) : List Stmt := subAt clsBody i
noncomputable def parsC (i : Nat) : Arguments := match (clsBody[i]? : Option Stmt) with | some x => parsX x | none => default
noncomputable def scopeC (i : Nat) : Scope := match (clsBody[i]? : Option Stmt) with | some x => scopeX x | none => default

/-- a def as the top left it -/
structure Fn where
  a : Addr
  c : Addr
  qn : Str
  ps : Arguments
  body : List Stmt
  sc : Scope
  dV : Value := .none
  kV : Value := .none
  cl : List (Str × Addr) := []
noncomputable def FnO (H : Heap) (f : Fn) : Prop :=
  ∃ o fd, H.get? f.a = some o ∧ o.data = .func fd ∧ fd.qualname = f.qn ∧ fd.params = f.ps ∧ fd.body = .stmts f.body ∧ fd.scope = f.sc ∧ fd.globals = mainGlobals ∧ fd.closure = f.cl ∧
    fd.defaults = f.dV ∧ fd.kwdefaults = f.kV ∧ fd.code = .ref f.c ∧ fd.builtins = builtinsNs ∧ H.CodeRec (.ref f.c) f.qn

noncomputable def fIR : Fn := { a := 30, c := 29, qn := "insort_right", ps := parsAt 2, body := bodyAt 2, sc := scopeAt 2, dV := .ref 22, kV := .ref 23 }
noncomputable def fBR : Fn := { a := 39, c := 38, qn := "bisect_right", ps := parsAt 3, body := bodyAt 3, sc := scopeAt 3, dV := .ref 31, kV := .ref 32 }
noncomputable def fIL : Fn := { a := 48, c := 47, qn := "insort_left", ps := parsAt 4, body := bodyAt 4, sc := scopeAt 4, dV := .ref 40, kV := .ref 41 }
noncomputable def fBL : Fn := { a := 57, c := 56, qn := "bisect_left", ps := parsAt 5, body := bodyAt 5, sc := scopeAt 5, dV := .ref 49, kV := .ref 50 }
noncomputable def fCo : Fn := { a := 148, c := 147, qn := "_strcoll", ps := parsAt 10, body := bodyAt 10, sc := scopeAt 10 }
noncomputable def fXf : Fn := { a := 155, c := 154, qn := "_strxfrm", ps := parsAt 11, body := bodyAt 11, sc := scopeAt 11 }
noncomputable def fGI : Fn := { a := 162, c := 161, qn := "_grouping_intervals", ps := parsAt 13, body := bodyAt 13, sc := scopeAt 13 }
noncomputable def fBN : Fn := { a := 169, c := 168, qn := "_build_localename", ps := parsAt 14, body := bodyAt 14, sc := scopeAt 14 }
noncomputable def fDeeds : Fn := { a := 174, c := 173, qn := "_law_deeds", ps := parsAt 16, body := bodyAt 16, sc := scopeAt 16 }
noncomputable def fPieces : Fn := { a := 181, c := 180, qn := "_law_pieces", ps := parsAt 17, body := bodyAt 17, sc := scopeAt 17 }
noncomputable def fFronts : Fn := { a := 188, c := 187, qn := "_law_fronts", ps := parsAt 18, body := bodyAt 18, sc := scopeAt 18 }
noncomputable def fKey : Fn := { a := 195, c := 194, qn := "_law_key", ps := parsAt 19, body := bodyAt 19, sc := scopeAt 19 }
noncomputable def fDue : Fn := { a := 202, c := 201, qn := "_law_as_due", ps := parsAt 20, body := bodyAt 20, sc := scopeAt 20 }
noncomputable def fDeep : Fn := { a := 209, c := 208, qn := "_law_deep", ps := parsAt 21, body := bodyAt 21, sc := scopeAt 21 }
noncomputable def fRow : Fn := { a := 216, c := 215, qn := "_law_row", ps := parsAt 22, body := bodyAt 22, sc := scopeAt 22 }
noncomputable def fArea : Fn := { a := 223, c := 222, qn := "_law_area", ps := parsAt 23, body := bodyAt 23, sc := scopeAt 23 }
noncomputable def fPairs : Fn := { a := 228, c := 227, qn := "_law_pairs", ps := parsAt 24, body := bodyAt 24, sc := scopeAt 24 }
noncomputable def fCorners : Fn := { a := 235, c := 234, qn := "_law_corners", ps := parsAt 25, body := bodyAt 25, sc := scopeAt 25 }
noncomputable def fFlat : Fn := { a := 240, c := 239, qn := "_law_flat", ps := parsAt 26, body := bodyAt 26, sc := scopeAt 26 }
noncomputable def fSizes : Fn := { a := 247, c := 246, qn := "_law_sizes", ps := parsAt 27, body := bodyAt 27, sc := scopeAt 27 }
noncomputable def fMarks : Fn := { a := 252, c := 251, qn := "_law_marks", ps := parsAt 28, body := bodyAt 28, sc := scopeAt 28 }
noncomputable def fRefused : Fn := { a := 259, c := 258, qn := "_law_refused", ps := parsAt 29, body := bodyAt 29, sc := scopeAt 29 }
noncomputable def fNamed : Fn := { a := 264, c := 263, qn := "_law_named", ps := parsAt 30, body := bodyAt 30, sc := scopeAt 30 }
noncomputable def fLaw : Fn := { a := 269, c := 268, qn := "law", ps := parsAt 31, body := bodyAt 31, sc := scopeAt 31 }
noncomputable def fns : List Fn := [fIR, fBR, fIL, fBL, fCo, fXf, fGI, fBN, fDeeds, fPieces, fFronts, fKey, fDue, fDeep, fRow, fArea, fPairs, fCorners, fFlat, fSizes, fMarks, fRefused, fNamed, fLaw]
noncomputable def gNames : List (Str × Value) := [("insort_right", .ref 30), ("bisect_right", .ref 39), ("insort_left", .ref 48), ("bisect_left", .ref 57), ("_Accumulator", .ref 137), ("_strcoll", .ref 148), ("_strxfrm", .ref 155),
  ("_grouping_intervals", .ref 162), ("_build_localename", .ref 169), ("_law_deeds", .ref 174), ("_law_pieces", .ref 181), ("_law_fronts", .ref 188), ("_law_key", .ref 195), ("_law_as_due", .ref 202), ("_law_deep", .ref 209),
  ("_law_row", .ref 216), ("_law_area", .ref 223), ("_law_pairs", .ref 228), ("_law_corners", .ref 235), ("_law_flat", .ref 240), ("_law_sizes", .ref 247), ("_law_marks", .ref 252), ("_law_refused", .ref 259), ("_law_named", .ref 264), ("law", .ref 269)]
noncomputable def bNames : List (Str × Value) := [("len", .builtin "len"), ("sum", .builtin "sum"), ("sorted", .builtin "sorted"), ("range", .type "range"), ("isinstance", .builtin "isinstance"), ("min", .builtin "min"), ("super", .type "super"),
  ("str", .type "str"), ("int", .type "int"), ("bool", .type "bool"), ("ValueError", .type "ValueError"), ("TypeError", .type "TypeError")]

noncomputable def fInit : Fn := { a := 74, c := 73, qn := "_Accumulator.__init__", ps := parsC 0, body := bodyC 0, sc := scopeC 0, dV := .ref 66, cl := [("__class__", 61)] }
noncomputable def fPush : Fn := { a := 81, c := 80, qn := "_Accumulator.push", ps := parsC 1, body := bodyC 1, sc := scopeC 1 }
noncomputable def fPop : Fn := { a := 97, c := 96, qn := "_Accumulator.pop", ps := parsC 3, body := bodyC 3, sc := scopeC 3, cl := [("__class__", 61)] }
noncomputable def fLen : Fn := { a := 104, c := 103, qn := "_Accumulator.__len__", ps := parsC 4, body := bodyC 4, sc := scopeC 4 }
noncomputable def fStr : Fn := { a := 111, c := 110, qn := "_Accumulator.__str__", ps := parsC 5, body := bodyC 5, sc := scopeC 5 }
noncomputable def fWs : Fn := { a := 126, c := 125, qn := "_Accumulator.is_onlyws", ps := parsC 7, body := bodyC 7, sc := scopeC 7 }
noncomputable def fCnt : Fn := { a := 134, c := 133, qn := "_Accumulator.part_count", ps := parsC 8, body := bodyC 8, sc := scopeC 8, cl := [("__class__", 61)] }
noncomputable def meths : List Fn := [fInit, fPush, fPop, fLen, fStr, fWs, fCnt]
noncomputable def accRows : List (Str × Option Value) := [("__getattribute__", some (.builtin "list.__getattribute__")), ("__getattr__", none), ("push", some (.ref 81)), ("append", some (.builtin "list.append")), ("pop", some (.ref 97)), ("part_count", some (.ref 134)),
  ("is_onlyws", some (.ref 126)), ("__len__", some (.ref 104)), ("__str__", some (.ref 111)), ("__init__", some (.ref 74)), ("__bool__", none), ("__setattr__", some (.builtin "object.__setattr__")), ("__iter__", some (.builtin "list.__iter__")), ("_initial_size", none)]
/-- what the class is, said of the fragment that holds it -/
structure AccK (K : W.Frag) : Prop where
  rows : ∀ p ∈ accRows, W.findIn K (.ref 137) p.1 = some p.2
  subL : W.subIn K (.ref 137) (.type "list") = some true
  subS : W.subIn K (.ref 137) (.ref 137) = some true
  subO : W.subIn K (.ref 137) (.type "object") = some true
  subM : W.subIn K (.ref 137) (.type "module") = some false
  call : W.specialIn K (.ref 137) "__call__" = some (some (.builtin "type.__call__"))
  inst : W.instIn K (.ref 137) (.type "type") = some true
  cls : ∃ oc od cd sl, K.lookup 137 = some ⟨oc, od, .cls cd, sl⟩ ∧ cd.abstract = false ∧ cd.hasDel = false ∧ cd.mro = [.ref 137, .type "list", .type "object"] ∧ (sl.toList[4]?).join = some (.builtin "list.__new__") ∧ cd.qualname = "_Accumulator" ∧ oc = .type "type" ∧ cd.hasDict = true
structure TopH (w : World) (H : Heap) (mg mb : Str → Option Value) : Prop where
  nolim : H.NoLimit
  tabs : ∀ cp ∈ tabCodes, cp.1 < H.objs.size ∧ cp.2 < H.objs.size
  gl : H.Ns mainGlobals mg
  bl : H.Ns builtinsNs mb
  gn : ∀ p ∈ gNames, mg p.1 = some p.2
  bn : ∀ p ∈ bNames, mg p.1 = none ∧ mb p.1 = some p.2
  fn : ∀ f ∈ fns, FnO H f
  df : ∀ T ∈ ([22, 31, 40, 49] : List Addr), ∃ t n, H.get? T = some { cls := .type "tuple", data := .seq #[.int 0 t, .none] n }
  kd : ∀ d ∈ ([23, 32, 41, 50] : List Addr), ∃ h t n, H.get? d = some { cls := .type "dict", data := .dict #[⟨h, .str "key" t, .none⟩] n }
  df1 : ∃ t n, H.get? 66 = some { cls := .type "tuple", data := .seq #[.int 0 t] n }
  cc : 61 < H.objs.size ∧ H.IsCell 61 (some (.ref clsA))
  acc : ∃ oC oN, H.get? 137 = some oC ∧ H.get? 136 = some oN ∧ AccK [(137, oC), (136, oN)]
  mfn : ∀ f ∈ meths, FnO H f ∧ ∃ o, H.get? f.a = some o ∧ o.cls = .type "function"
  gi : ∃ t, mg "CHAR_MAX" = some (.int 127 t)
  ge : ∃ t, mg "EMPTYSTRING" = some (.str "" t)
  cf : ∀ c ∈ ([73, 96, 133] : List Addr), ∃ oc vs file t, H.get? c = some oc ∧ oc.data = .fields vs ∧ vs[2]? = some (.str file t) ∧ (pr.main.file == file) = true
  gm : ∃ bm ob, BMod H mainGlobals mg bm ob ∧ bm ∉ tbls
  tb : ∀ cp ∈ tabCodes, ∃ ps, H.IsCode cp.1 cp.2 ps ∧ H.TableAt cp.1 cp.2 ps
  op : ∃ K : W.Frag, (∀ p ∈ K, H.get? p.1 = some p.2 ∧ p.1 ∉ tbls) ∧ W.nsIn K cStatics "thirdparty.any" = some none

structure G where
  w : World
  H : Heap
  os : OsState
  mg : Str → Option Value
  mb : Str → Option Value
  top : TopH w H mg mb

noncomputable abbrev G.M (g : G) : Model := model pr g.w

structure GoodS (g : G) (sto : Sto) (s : Shared) : Prop where
  base : Base g.H s.heap
  cells : ∀ p ∈ sto, CellR s.heap g.H.objs.size p.1 p.2
  new : ∀ p ∈ sto, g.H.objs.size ≤ p.1
  nodup : (sto.map (·.1)).Nodup
  os : s.os = g.os
  bare : AllBare s.gens

noncomputable def XS (g : G) (sto : Sto) (b : Addr) : Prop := b ∈ sto.map (·.1) ∨ b ∈ tbls

/-- the frame's side; n: how many calls may still lie one in the other -/
structure Fm (g : G) where
  A : Around
  env : Env
  n : Nat
  kind : env.scope.kind = .function
  globals : env.globals = mainGlobals
  builtins : env.builtins = builtinsNs
  depth : A.depth + 4 * n < 900
  units : A.units + 40 * n < 9000
  handled : A.handled = none
  new : g.H.objs.size ≤ env.locals
  cinj : ∀ x y c, env.cells.lookup x = some c → env.cells.lookup y = some c → x = y
  own : Addr → Prop
  ownN : ∀ b, own b → g.H.objs.size ≤ b
noncomputable def Bound (env : Env) (m : Str → Option Value) (h : Heap) (x : Str) (v : Value) : Prop :=
  (env.kindOf x = some .local ∧ m x = some v) ∨ ((env.kindOf x = some .cell ∨ env.kindOf x = some .free) ∧ ∃ c, env.cells.lookup x = some c ∧ h.IsCell c (some v))

noncomputable def XF (g : G) (C : Fm g) (sto : Sto) (b : Addr) : Prop := XS g sto b ∨ b = C.env.locals ∨ C.own b

structure GoodF (g : G) (C : Fm g) (st : St) (s : Shared) : Prop extends GoodS g st.sto s where
  loc : ∃ m, s.heap.Ns C.env.locals m ∧ m "_initial_size" = none ∧ ∀ p ∈ st.loc, ∃ v, Bound C.env m s.heap p.1 v ∧ VR s.heap p.2 v
  cellsAre : ∀ b, C.own b → ∃ v, s.heap.IsCell b v

noncomputable def SF (g : G) (C : Fm g) (st st' : St) (s s' : Shared) : Prop := Step (XF g C st.sto) (XF g C st'.sto) s s'
noncomputable def SS (g : G) (a b : Sto) (s s' : Shared) : Prop := Step (XS g a) (XS g b) s s'

/-- what is left behind a piece -/
noncomputable def Po {α β : Type} (R : Heap → β → α → Prop) (g : G) (C : Fm g) (st : St) (s : Shared) (Q : β → St → Prop) : α → Shared → Prop :=
  fun a s' => ∃ b st', R s'.heap b a ∧ GoodF g C st' s' ∧ SF g C st st' s s' ∧ Q b st'
noncomputable def noE : Value → Shared → Prop := fun _ _ => False
/-- a triple: Q is said of what comes back, the heap left out -/
noncomputable def Tr {α β : Type} (R : Heap → β → α → Prop) (g : G) (C : Fm g) (t : Sem α) (Q : β → St → Prop) (st : St) : Prop :=
  ∀ s, GoodF g C st s → wpAny g.M C.A t (Po R g C st s Q) noE s

section
variable {α β γ δ : Type} {R : Heap → β → α → Prop} {R' : Heap → δ → γ → Prop} {g : G} {C : Fm g}
theorem noE.any {E : Value → Shared → Prop} : ∀ e s, noE e s → E e s := fun _ _ h => h.elim
theorem Po.mono {st : St} {s : Shared} {Q Q' : β → St → Prop} {a : α} {s' : Shared} (h : Po R g C st s Q a s') (hq : ∀ b st', Q b st' → Q' b st') : Po R g C st s Q' a s' :=
  let ⟨b, st', r, g', x, q⟩ := h; ⟨b, st', r, g', x, hq b st' q⟩
theorem Po.trans {st st1 : St} {s s1 : Shared} {Q : β → St → Prop} {a : α} {s' : Shared} (x : SF g C st st1 s s1) (h : Po R g C st1 s1 Q a s') : Po R g C st s Q a s' :=
  let ⟨b, st', r, g', x', q⟩ := h; ⟨b, st', r, g', Step.trans x x', q⟩
theorem Po.here {st : St} {s : Shared} {Q : β → St → Prop} {a : α} {b : β} (gs : GoodF g C st s) (r : R s.heap b a) (q : Q b st) : Po R g C st s Q a s := ⟨b, st, r, gs, Step.refl _ _, q⟩
theorem Tr.mono {t : Sem α} {Q Q' : β → St → Prop} {st : St} (h : Tr R g C t Q st) (hq : ∀ b st', Q b st' → Q' b st') : Tr R g C t Q' st :=
  fun s gs => wpAny_mono (h s gs) (fun _ _ p => p.mono hq) fun _ _ x => x
/-- to go on behind a piece -/
theorem Tr.on {t : Sem α} {Q : β → St → Prop} {st : St} {s : Shared} {P : α → Shared → Prop} {E : Value → Shared → Prop} (h : Tr R g C t Q st) (gs : GoodF g C st s)
    (k : ∀ b st' a s', Q b st' → R s'.heap b a → GoodF g C st' s' → SF g C st st' s s' → P a s') : wpAny g.M C.A t P E s :=
  wpAny_mono (h s gs) (fun a s' ⟨b, st', r, g', x, q⟩ => k b st' a s' q r g' x) noE.any
end

noncomputable def RV : Heap → V → Value → Prop := VR
inductive F where | next | brk | cont | ret (v : V)
inductive RF (h : Heap) : F → Flow → Prop
  | next : RF h .next .next
  | brk : RF h .brk .brk
  | cont : RF h .cont .cont
  | ret {v : V} {x : Value} : VR h v x → RF h (.ret v) (.ret x)
noncomputable def RB (_ : Heap) (b : Bool) (a : Bool) : Prop := a = b
noncomputable def RU (_ : Heap) (_ : Unit) (_ : Unit) : Prop := True

noncomputable abbrev TE (g : G) (C : Fm g) (e : Expr) (Q : V → St → Prop) (st : St) : Prop := Tr VR g C (eval e C.env) Q st
noncomputable abbrev TT (g : G) (C : Fm g) (e : Expr) (Q : Bool → St → Prop) (st : St) : Prop := Tr RB g C (isTrue e C.env (eval e C.env)) Q st
noncomputable abbrev TX (g : G) (C : Fm g) (x : Stmt) (Q : F → St → Prop) (st : St) : Prop := Tr RF g C (exec x C.env) Q st
noncomputable abbrev TXs (g : G) (C : Fm g) (x : List Stmt) (Q : F → St → Prop) (st : St) : Prop := Tr RF g C (execs x C.env) Q st

theorem XS.noTuple {g : G} {sto : Sto} {s : Shared} (gs : GoodS g sto s) {a : Addr} {items : Array Value} {n : Nat} (e : s.heap.get? a = some { cls := .type "tuple", data := .seq items n }) : ¬ XS g sto a := by
  rintro (h | h)
  · obtain ⟨p, hp, rfl⟩ := List.mem_map.mp h
    have := gs.cells p hp
    obtain ⟨q, c⟩ := p
    cases c with
    | list vs => obtain ⟨items, n, e', _⟩ := this; rw [e] at e'; simp at e'
    | acc iv vs => obtain ⟨items, n, d, sl, x, e', _⟩ := this; rw [e] at e'; simp at e'
  · obtain ⟨ps, e'⟩ := gs.base.tab a h
    rw [e] at e'; simp at e'
theorem XF.noTuple {g : G} {C : Fm g} {st : St} {s : Shared} (gs : GoodF g C st s) {a : Addr} {items : Array Value} {n : Nat} (e : s.heap.get? a = some { cls := .type "tuple", data := .seq items n }) : ¬ XF g C st.sto a := by
  rintro (h | h | h)
  · exact XS.noTuple gs.toGoodS e h
  · subst h
    obtain ⟨m, ⟨o', es, ep, e', hd, _⟩, _⟩ := gs.loc
    rw [e] at e'; cases e'; cases hd
  · obtain ⟨v, o', e', hd⟩ := gs.cellsAre _ h
    rw [e] at e'; cases e'; cases hd
theorem SS.tup {g : G} {a b : Sto} {s s' : Shared} (gs : GoodS g a s) (x : SS g a b s s') : TupK s.heap s'.heap := fun d _ _ e => x.tuple e (XS.noTuple gs e) (by simp)
theorem SF.tup {g : G} {C : Fm g} {a b : St} {s s' : Shared} (gs : GoodF g C a s) (x : SF g C a b s s') : TupK s.heap s'.heap := fun d _ _ e => x.tuple e (XF.noTuple gs e) (by simp)
end
section -- P4
theorem CellR.keep {h h' : Heap} {N : Nat} {a : Addr} {c : Cell} (x : CellR h N a c) (k : TupK h h') (ha : ∀ o, h.get? a = some o → h'.get? a = some o)
    (hd : ∀ d x, h.Ns d (only x) → N ≤ d → h'.Ns d (only x)) : CellR h' N a c := by
  cases c with
  | list vs => obtain ⟨items, n, e, v⟩ := x; exact ⟨items, n, ha _ e, v.mono k⟩
  | acc iv vs =>
    obtain ⟨items, n, d, sl, y, e, v, hN, hy, hn⟩ := x
    exact ⟨items, n, d, sl, y, ha _ e, v.mono k, hN, hy.mono k, hd d y hn hN⟩

theorem Base.keeps {H h h' : Heap} (b : Base H h) (k : ∀ d o, h.get? d = some o → h'.get? d = some o) : Base H h' :=
  ⟨fun d o e n => k d o (b.keep d o e n), b.last, b.old.step_keeps k, fun cp h => let ⟨ps, i, t⟩ := b.tabs cp h; ⟨ps, i.keeps k, t.keeps k⟩⟩
theorem Base.same {H h h' : Heap} (b : Base H h) {a : Addr} (ha : H.objs.size ≤ a) (hs : Heap.SameBut a h h') (hT : ∀ cp ∈ tabCodes, cp.1 < H.objs.size ∧ cp.2 < H.objs.size) : Base H h' :=
  ⟨fun d o e n => (hs.2 d (Nat.ne_of_lt (Nat.lt_of_lt_of_le (Heap.lt_size e) ha))).trans (b.keep d o e n), b.last, b.old.step_same ha hs, fun cp h => by
    obtain ⟨ps, i, t⟩ := b.tabs cp h
    obtain ⟨h1, h2⟩ := hT cp h
    have n1 := Nat.ne_of_lt (Nat.lt_of_lt_of_le h1 ha)
    have n2 := Nat.ne_of_lt (Nat.lt_of_lt_of_le h2 ha)
    exact ⟨ps, i.sameBut hs n1 n2, t.sameBut hs n1 n2⟩⟩

section
variable {g : G} {sto : Sto} {s s' : Shared}
theorem GoodS.ext (gs : GoodS g sto s) (hk : ∀ b o, s.heap.get? b = some o → s'.heap.get? b = some o) (hg : s'.gens = s.gens) (ho : s'.os = s.os) : GoodS g sto s' :=
  ⟨gs.base.keeps hk, fun p hp => (gs.cells p hp).keep (fun _ _ _ e => hk _ _ e) (fun _ e => hk _ _ e) fun _ _ n _ => n.keeps hk, gs.new, gs.nodup, ho.trans gs.os, hg ▸ gs.bare⟩
theorem SS.ext (hk : ∀ b o, s.heap.get? b = some o → s'.heap.get? b = some o) (hg : s'.gens = s.gens) : SS g sto sto s s' := Step.ext hk hg

/-- a new list or pile -/
theorem GoodS.push (gs : GoodS g sto s) (gs' : GoodS g sto s') {a : Addr} {c : Cell} (ha : ∀ o, s.heap.get? a ≠ some o) (hN : s.heap.objs.size ≤ a) (hc : CellR s'.heap g.H.objs.size a c) : GoodS g ((a, c) :: sto) s' :=
  ⟨gs'.base, fun p hp => by
      rcases List.mem_cons.mp hp with rfl | hp
      · exact hc
      · exact gs'.cells p hp,
    fun p hp => by
      rcases List.mem_cons.mp hp with rfl | hp
      · exact Nat.le_trans gs.base.size hN
      · exact gs'.new p hp,
    by
      rw [List.map_cons]
      refine List.nodup_cons.mpr ⟨fun hm => ?_, gs'.nodup⟩
      obtain ⟨p, hp, e⟩ := List.mem_map.mp hm
      have := gs.cells p hp
      obtain ⟨q, c⟩ := p
      subst e
      cases c with
      | list vs => obtain ⟨_, _, e', _⟩ := this; exact ha _ e'
      | acc iv vs => obtain ⟨_, _, _, _, _, e', _⟩ := this; exact ha _ e', gs'.os, gs'.bare⟩
theorem SS.push {a : Addr} {c : Cell} (x : SS g sto sto s s') (hN : s.heap.objs.size ≤ a) : SS g sto ((a, c) :: sto) s s' :=
  ⟨x.keep, fun b hb => by
    rcases hb with h | h
    · rcases List.mem_cons.mp h with rfl | h
      · exact .inr (none_size hN)
      · exact .inl (.inl h)
    · exact .inl (.inr h), x.gens, x.gsize⟩
end

section
variable {g : G} {C : Fm g} {st : St} {s s' : Shared} {sto' : Sto}
theorem cell_ne_dict {h : Heap} {N : Nat} {a : Addr} {c : Cell} (x : CellR h N a c) {o : Obj} (e : h.get? a = some o) : (∀ es n, o.data ≠ .dict es n) ∧ (∀ v, o.data ≠ .cell v) ∧ (∀ vs, o.data ≠ .fields vs) ∧ o.cls ≠ .type "dict" ∧ o.cls ≠ .type "frame" := by
  cases c with
  | list vs => obtain ⟨_, _, e', _⟩ := x; rw [e] at e'; cases e'; refine ⟨?_, ?_, ?_, ?_, ?_⟩ <;> simp
  | acc iv vs => obtain ⟨_, _, _, _, _, e', _⟩ := x; rw [e] at e'; cases e'; refine ⟨?_, ?_, ?_, ?_, ?_⟩ <;> simp

theorem XS.noDict (gs : GoodS g st.sto s) {a : Addr} {o : Obj} (e : s.heap.get? a = some o) (h : (∃ es n, o.data = .dict es n) ∨ ∃ v, o.data = .cell v) : ¬ XS g st.sto a := by
  rintro (hm | hm)
  · obtain ⟨p, hp, rfl⟩ := List.mem_map.mp hm
    obtain ⟨h1, h2, _⟩ := cell_ne_dict (gs.cells p hp) e
    rcases h with ⟨es, n, q⟩ | ⟨v, q⟩
    · exact h1 _ _ q
    · exact h2 _ q
  · obtain ⟨ps, e'⟩ := gs.base.tab a hm
    rw [e] at e'; cases e'
    rcases h with ⟨es, n, q⟩ | ⟨v, q⟩ <;> cases q

theorem Ns.same {h h' : Heap} {a : Addr} {m : Str → Option Value} (n : h.Ns a m) (k : ∀ o, h.get? a = some o → (∃ es n, o.data = .dict es n) → ∃ o', h'.get? a = some o' ∧ Same o o') : h'.Ns a m := by
  obtain ⟨o, es, ep, e, hd, r⟩ := n
  obtain ⟨o', e', q⟩ := k o e ⟨es, ep, hd⟩
  exact ⟨o', es, ep, e', q.data.trans hd, r⟩
theorem IsCell.same {h h' : Heap} {a : Addr} {v : Option Value} (n : h.IsCell a v) (k : ∀ o, h.get? a = some o → (∃ v, o.data = .cell v) → ∃ o', h'.get? a = some o' ∧ Same o o') : h'.IsCell a v := by
  obtain ⟨o, e, hd⟩ := n
  obtain ⟨o', e', q⟩ := k o e ⟨v, hd⟩
  exact ⟨o', e', q.data.trans hd⟩

/-- behind a call: the frame stands -/
theorem GoodF.back (gs : GoodF g C st s) (gs' : GoodS g sto' s') (x : SS g st.sto sto' s s') : GoodF g C ⟨st.loc, sto'⟩ s' ∧ SF g C st ⟨st.loc, sto'⟩ s s' := by
  have kc : ∀ a v, s.heap.IsCell a v → s'.heap.IsCell a v := fun a v h => IsCell.same h fun o e q => x.keep a o e (XS.noDict gs.toGoodS e (.inr q))
  refine ⟨⟨gs', ?_, fun b hb => let ⟨v, h⟩ := gs.cellsAre b hb; ⟨v, kc _ _ h⟩⟩, ?_⟩
  · obtain ⟨m, n, hi, l⟩ := gs.loc
    refine ⟨m, Ns.same n fun o e q => x.keep _ o e (XS.noDict gs.toGoodS e (.inl q)), hi, fun p hp => ?_⟩
    obtain ⟨v, b, r⟩ := l p hp
    refine ⟨v, ?_, r.mono (SS.tup gs.toGoodS x)⟩
    rcases b with b | ⟨b, c, h1, h2⟩
    · exact .inl b
    · exact .inr ⟨b, c, h1, kc _ _ h2⟩
  · exact Step.weaken x (fun d h => .inl h) fun d h => by
      rcases h with h | h | h
      · rcases x.grow d h with h | h
        · exact .inl (.inl h)
        · exact .inr h
      · exact .inl (.inr (.inl h))
      · exact .inl (.inr (.inr h))
theorem GoodF.ext (gs : GoodF g C st s) (hk : ∀ b o, s.heap.get? b = some o → s'.heap.get? b = some o) (hg : s'.gens = s.gens) (ho : s'.os = s.os) :
    GoodF g C st s' ∧ SF g C st st s s' := gs.back (gs.toGoodS.ext hk hg ho) (SS.ext hk hg)
theorem GoodF.toks (gs : GoodF g C st s) (n : Nat) : GoodF g C st { s with toks := n } ∧ SF g C st st s { s with toks := n } := gs.ext (fun _ _ e => e) rfl rfl
end
end
section -- P5
theorem n_le {n k m : Nat} (h : n = k) (hm : m ≤ k := by decide) : m ≤ n := h ▸ hm
theorem n_neg (k n : Nat) : (-(k : Int) + n).toNat = n - k := by rw [Int.add_comm, ← Int.sub_eq_add_neg]; exact Int.toNat_sub n k
theorem n_dec {a b : Nat} (h : b < a) : a - b = a - b - 1 + 1 := (Nat.sub_add_cancel (Nat.sub_pos_of_lt h)).symm
theorem n_turn {n i : Nat} (h : i < n) : n + 1 - (i + 1) < n + 1 - i := Nat.sub_lt_sub_left (Nat.lt_succ_of_lt h) (Nat.lt_succ_self i)
theorem n_end {i n : Nat} (h1 : i ≤ n) (h : ¬ i < n) : i = n := Nat.le_antisymm h1 (Nat.not_lt.mp h)
theorem n_back {n j : Nat} (h : j < n) : n - 1 - (n - j - 1) = j := by rw [Nat.sub_right_comm n j 1]; exact Nat.sub_sub_self (Nat.le_sub_one_of_lt h)
theorem n_min {b n : Nat} (h : b ≤ n) : min b n + (n - b + 1) = n + 1 := by rw [Nat.min_eq_left h, ← Nat.add_assoc, Nat.add_sub_cancel' h]
/-- an operation upon values that lie there -/
noncomputable def TO1 {α β : Type} (R : Heap → β → α → Prop) (g : G) (C : Fm g) (f : Value → Sem α) (a : V) (Q : β → St → Prop) (st : St) : Prop :=
  ∀ s x, GoodF g C st s → VR s.heap a x → wpAny g.M C.A (f x) (Po R g C st s Q) noE s
noncomputable def TO2 {α β : Type} (R : Heap → β → α → Prop) (g : G) (C : Fm g) (f : Value → Value → Sem α) (a b : V) (Q : β → St → Prop) (st : St) : Prop :=
  ∀ s x y, GoodF g C st s → VR s.heap a x → VR s.heap b y → wpAny g.M C.A (f x y) (Po R g C st s Q) noE s

section
variable (g : G) (C : Fm g)
noncomputable abbrev kO1 (f : Value → Sem Value) (Q : V → St → Prop) : V → St → Prop := fun a st => TO1 VR g C f a Q st
noncomputable abbrev kT1 (f : Value → Sem Bool) (Q : Bool → St → Prop) : V → St → Prop := fun a st => TO1 RB g C f a Q st
noncomputable abbrev kU2 (f : Value → Value → Sem Value) (a : V) (Q : V → St → Prop) : V → St → Prop := fun b st => TO2 VR g C f a b Q st
noncomputable abbrev kO2 (f : Value → Value → Sem Value) (r : Expr) (Q : V → St → Prop) : V → St → Prop := fun a st => TE g C r (kU2 g C f a Q) st
noncomputable abbrev kIfE (a b : Expr) (Q : V → St → Prop) : Bool → St → Prop := fun c st => if c then TE g C a Q st else TE g C b Q st
noncomputable abbrev kA2 (e : Expr) (Q : V → St → Prop) (v : V) : Bool → St → Prop := fun c st => if c then TE g C e Q st else Q v st
noncomputable abbrev kA1 (e : Expr) (Q : V → St → Prop) : V → St → Prop := fun v st => TO1 RB g C truthy v (kA2 g C e Q v) st
noncomputable abbrev kR2 (e : Expr) (Q : V → St → Prop) (v : V) : Bool → St → Prop := fun c st => if c then Q v st else TE g C e Q st
noncomputable abbrev kR1 (e : Expr) (Q : V → St → Prop) : V → St → Prop := fun v st => TO1 RB g C truthy v (kR2 g C e Q v) st
noncomputable abbrev kB (Q : Bool → St → Prop) : V → St → Prop := fun c st => ∃ b, c = .bool b ∧ Q b st
noncomputable abbrev kNot (Q : Bool → St → Prop) : Bool → St → Prop := fun b st => Q (!b) st
noncomputable abbrev kOr (e : Expr) (Q : Bool → St → Prop) : Bool → St → Prop := fun b st => if b then Q true st else TT g C e Q st
theorem kB.it {Q : Bool → St → Prop} {b : Bool} {st : St} (q : Q b st) : kB Q (.bool b) st := ⟨b, rfl, q⟩
theorem iteT {c : Prop} [Decidable c] {a b : Prop} (h : c) (q : a) : if c then a else b := by rw [if_pos h]; exact q
theorem iteF {c : Prop} [Decidable c] {a b : Prop} (h : ¬c) (q : b) : if c then a else b := by rw [if_neg h]; exact q
end

section
variable {g : G} {C : Fm g} {Q : V → St → Prop} {st : St} {s : Shared}
theorem Po.toks {α β : Type} {R : Heap → β → α → Prop} {Q : β → St → Prop} {a : α} {b : β} (gs : GoodF g C st s) (n : Nat) (r : R s.heap b a) (q : Q b st) : Po R g C st s Q a { s with toks := n } :=
  ⟨b, st, r, (gs.toks n).1, (gs.toks n).2, q⟩
theorem Tr.then1 {α β γ δ : Type} {R : Heap → β → α → Prop} {R' : Heap → δ → γ → Prop} {t : Sem α} {P : β → St → Prop} {Q : δ → St → Prop} {f : α → Sem γ} {gs : GoodF g C st s}
    (h : Tr R g C t P st) (k : ∀ b st1 a s1, P b st1 → R s1.heap b a → GoodF g C st1 s1 → SF g C st st1 s s1 → wpAny g.M C.A (f a) (Po R' g C st1 s1 Q) noE s1) :
    wpAny g.M C.A t (fun a s1 => wpAny g.M C.A (f a) (Po R' g C st s Q) noE s1) noE s :=
  h.on gs fun b st1 a s1 q r g1 x => wpAny_mono (k b st1 a s1 q r g1 x) (fun _ _ p => Po.trans x p) fun _ _ e => e

theorem TE.int {i : Int} {k : Nat} {pos : Pos} (q : Q (.int i) st) : TE g C (.Constant (.int i) k pos) Q st := fun s gs => wpAny_Constant_int (Po.toks gs _ (VR.int i s.toks) q)
theorem TE.str {x : Str} {k : Nat} {pos : Pos} (q : Q (.str x) st) : TE g C (.Constant (.str x) k pos) Q st := fun s gs => Calls.Constant_str (Po.toks gs _ (VR.str x s.toks) q)
theorem TE.bool {b : Bool} {k : Nat} {pos : Pos} (q : Q (.bool b) st) : TE g C (.Constant (.bool b) k pos) Q st := fun s gs => Constant_bool (Po.here gs (VR.bool b) q)
theorem TE.none {k : Nat} {pos : Pos} (q : Q .none st) : TE g C (.Constant .none k pos) Q st := fun s gs => Constant_none (Po.here gs VR.none q)

theorem TE.name {x : Str} {pos : Pos} {v : V} (hx : (x, v) ∈ st.loc) (q : Q v st) (hd : (x == ("__debug__" : Str)) = false := by decide) (hn : (x == ("__classdict__" : Str)) = false := by decide) :
    TE g C (.Name x pos) Q st := fun s gs => by
  obtain ⟨m, n, _, l⟩ := gs.loc
  obtain ⟨val, b, r⟩ := l _ hx
  refine wpAny_Name ?_ hd
  rcases b with ⟨b, e⟩ | ⟨b | b, c, h1, h2⟩
  · exact wpAny_loadName_local C.kind b n e (Po.here gs r q)
  · exact wpAny_loadName_cell C.kind b h1 h2 (Po.here gs r q)
  · exact wpAny_loadName_free C.kind b h1 h2 (Po.here gs r q) hn

theorem TE.bin {l r : Expr} {op : Operator} {pos : Pos} (h : TE g C l (kO2 g C (binaryOp op) r Q) st) : TE g C (.BinOp l op r pos) Q st := fun s gs =>
  wpAny_BinOp (h.on gs fun a st1 x s1 q ra g1 x1 => q.on g1 fun b st2 y s2 q2 rb g2 x2 =>
    wpAny_mono (q2 s2 x y g2 (ra.mono (SF.tup g1 x2)) rb) (fun _ _ p => Po.trans x1 (Po.trans x2 p)) fun _ _ e => e)
theorem TE.cmp {l r : Expr} {op : CmpOp} {pos : Pos} (h : TE g C l (kO2 g C (compareOp op) r Q) st) (hm : behindInMarks op r = false := by with_unfolding_all rfl) :
    TE g C (.Compare l [op] [r] pos) Q st := fun s gs =>
  wpAny_Compare1 (h.on gs fun a st1 x s1 q ra g1 x1 => q.on g1 fun b st2 y s2 q2 rb g2 x2 =>
    wpAny_mono (q2 s2 x y g2 (ra.mono (SF.tup g1 x2)) rb) (fun _ _ p => Po.trans x1 (Po.trans x2 p)) fun _ _ e => e) hm
theorem TE.un {e : Expr} {op : UnaryOp} {pos : Pos} (h : TE g C e (kO1 g C (unaryOp op) Q) st) : TE g C (.UnaryOp op e pos) Q st := fun s gs =>
  UnaryOp_ (h.on gs fun a st1 x s1 q ra g1 x1 => wpAny_mono (q s1 x g1 ra) (fun _ _ p => Po.trans x1 p) fun _ _ e => e)
theorem TE.ite {t a b : Expr} {pos : Pos} (h : TT g C t (kIfE g C a b Q) st) : TE g C (.IfExp t a b pos) Q st := fun s gs =>
  IfExp_ (h.on gs fun c st1 c' s1 q rc g1 x1 => by
    cases rc
    cases c with
    | true => exact wpAny_mono (q s1 g1) (fun _ _ p => Po.trans x1 p) fun _ _ e => e
    | false => exact wpAny_mono (q s1 g1) (fun _ _ p => Po.trans x1 p) fun _ _ e => e)
theorem TE.and2 {a b : Expr} {rest : List Expr} {pos : Pos} (h : TE g C a (kA1 g C (.BoolOp .And (b :: rest) pos) Q) st) : TE g C (.BoolOp .And (a :: b :: rest) pos) Q st := fun s gs =>
  BoolOp_and (h.on gs fun v st1 x s1 q rv g1 x1 => wpAny_mono (q s1 x g1 rv) (fun c s2 p => by
    obtain ⟨c', st2, rc, g2, x2, q⟩ := p
    cases rc
    cases c with
    | true => exact wpAny_mono (q s2 g2) (fun _ _ p => Po.trans x1 (Po.trans x2 p)) fun _ _ e => e
    | false => exact ⟨v, st2, rv.mono (SF.tup g1 x2), g2, Step.trans x1 x2, q⟩) fun _ _ e => e)
theorem TE.or2 {a b : Expr} {rest : List Expr} {pos : Pos} (h : TE g C a (kR1 g C (.BoolOp .Or (b :: rest) pos) Q) st) : TE g C (.BoolOp .Or (a :: b :: rest) pos) Q st := fun s gs =>
  BoolOp_or (h.on gs fun v st1 x s1 q rv g1 x1 => wpAny_mono (q s1 x g1 rv) (fun c s2 p => by
    obtain ⟨c', st2, rc, g2, x2, q⟩ := p
    cases rc
    cases c with
    | true => exact ⟨v, st2, rv.mono (SF.tup g1 x2), g2, Step.trans x1 x2, q⟩
    | false => exact wpAny_mono (q s2 g2) (fun _ _ p => Po.trans x1 (Po.trans x2 p)) fun _ _ e => e) fun _ _ e => e)
theorem TE.bool1 {a : Expr} {op : BoolOp} {pos : Pos} (h : TE g C a Q st) : TE g C (.BoolOp op [a] pos) Q st := fun s gs => BoolOp_one (h s gs)
end

section
variable {g : G} {C : Fm g} {Q : Bool → St → Prop} {st : St} {s : Shared}
theorem TT.cmp {l r : Expr} {op : CmpOp} {pos : Pos} (h : TE g C l (kO2 g C (compareOp op) r (kB Q)) st)
    (hm : behindInMarks op r = false := by with_unfolding_all rfl) : TT g C (.Compare l [op] [r] pos) Q st := fun s gs =>
  wpAny_isTrue_Compare1 (h.on gs fun a st1 x s1 q ra g1 x1 => q.on g1 fun b st2 y s2 q2 rb g2 x2 =>
    wpAny_mono (q2 s2 x y g2 (ra.mono (SF.tup g1 x2)) rb) (fun v s3 p => by
      obtain ⟨c, st3, rc, g3, x3, b, rfl, q⟩ := p
      cases rc
      exact wpAny_truthy_bool ⟨b, st3, rfl, g3, Step.trans x1 (Step.trans x2 x3), q⟩) fun _ _ e => e) hm
theorem TT.not {e : Expr} {pos : Pos} (h : TT g C e (kNot Q) st) : TT g C (.UnaryOp .Not e pos) Q st := fun s gs =>
  isTrue_not (wpAny_mono (h s gs) (fun c s1 ⟨b, st1, r, g1, x1, q⟩ => by cases r; exact ⟨!c, st1, rfl, g1, x1, q⟩) fun _ _ e => e)
theorem TT.and_nil {pos : Pos} (q : Q true st) : TT g C (.BoolOp .And [] pos) Q st := fun s gs => isTrue_and_nil (Po.here gs rfl q)
theorem TT.or_nil {pos : Pos} (q : Q false st) : TT g C (.BoolOp .Or [] pos) Q st := fun s gs => isTrue_or_nil (Po.here gs rfl q)
theorem TT.whole {e : Expr} {pos : Pos} {op : BoolOp} {es : List Expr} {w w' : Sem Value} : isTrue (.BoolOp op es pos) C.env w = isTrue (.BoolOp op es pos) C.env w' := rfl
theorem TT.or {a : Expr} {rest : List Expr} {pos : Pos} (h : TT g C a (kOr g C (.BoolOp .Or rest pos) Q) st) : TT g C (.BoolOp .Or (a :: rest) pos) Q st := fun s gs =>
  isTrue_or (h.on gs fun b st1 c s1 q r g1 x1 => by
    cases r
    cases b with
    | true => exact ⟨true, st1, rfl, g1, x1, q⟩
    | false => exact wpAny_mono (q s1 g1) (fun _ _ p => Po.trans x1 p) fun _ _ e => e)
/-- a test that is a name, a call .. -/
theorem TT.val {e : Expr} (h : TE g C e (kT1 g C truthy Q) st) (he : ∀ w, isTrue e C.env w = (do let v ← w; standAt e.pos; holding [v] (truthy v)) := by intro w; rfl) : TT g C e Q st := fun s gs =>
  isTrue_plain (h.on gs fun v st1 x s1 q r g1 x1 => wpAny_mono (q s1 x g1 r) (fun _ _ p => Po.trans x1 p) fun _ _ e => e) (he _)
theorem TO1.truthB {b : Bool} (q : Q b st) : TO1 RB g C truthy (.bool b) Q st := fun s x gs r => by
  cases r; exact wpAny_truthy_bool (Po.here gs rfl q)
end
end
section -- P6
section
variable {g : G} {C : Fm g} {Q : V → St → Prop} {st : St}
theorem TO2.addI {i j : Int} (q : Q (.int (i + j)) st) : TO2 VR g C (binaryOp .Add) (.int i) (.int j) Q st := fun s x y gs rx ry => by
  cases rx; cases ry; exact wpAny_add_int (Po.toks gs _ (VR.int _ _) q)
theorem TO2.subI {i j : Int} (q : Q (.int (i - j)) st) : TO2 VR g C (binaryOp .Sub) (.int i) (.int j) Q st := fun s x y gs rx ry => by
  cases rx; cases ry; exact AutoIntOps.sub_0 (Po.toks gs _ (VR.int _ _) q)
theorem TO2.mulI {i j : Int} (q : Q (.int (i * j)) st) (h : -(2 ^ 64) < i ∧ i < 2 ^ 64) : TO2 VR g C (binaryOp .Mult) (.int i) (.int j) Q st := fun s x y gs rx ry => by
  cases rx; cases ry; exact AutoIntOps.mul_0 (Po.toks gs _ (VR.int _ _) q) (IntMulOk.of_left (intBits_le_64 h.1 h.2))
theorem TO2.divI {i j : Int} (hj : 0 < j ∧ j < 1073741824) (q : Q (.int (i.fdiv j)) st) : TO2 VR g C (binaryOp .FloorDiv) (.int i) (.int j) Q st := fun s x y gs rx ry => by
  cases rx; cases ry
  refine AutoIntOps.floordiv_1 ?_ ?_ (Po.toks gs _ (VR.int _ _) q)
  · simp; omega
  · rw [PyProof.noPylong_small (by omega)]; simp
theorem TO2.modI {i j : Int} (hj : 0 < j) (q : Q (.int (i.fmod j)) st) : TO2 VR g C (binaryOp .Mod) (.int i) (.int j) Q st := fun s x y gs rx ry => by
  cases rx; cases ry
  refine AutoIntOps.mod_1 ?_ (Po.toks gs _ (VR.int _ _) q)
  simp; omega
theorem TO2.subB {p r : Bool} (q : Q (.int ((if p then 1 else 0) - (if r then 1 else 0))) st) : TO2 VR g C (binaryOp .Sub) (.bool p) (.bool r) Q st := fun s x y gs rx ry => by
  cases rx; cases ry
  refine sub_bool (Po.toks gs _ (VR.int _ _) ?_)
  cases p <;> cases r <;> exact q
theorem TO2.addS {a b : Str} (h : a.length + b.length ≤ 1000000) (q : Q (.str (a ++ b)) st) : TO2 VR g C (binaryOp .Add) (.str a) (.str b) Q st := fun s x y gs rx ry => by
  cases rx; cases ry
  refine PySem.P.add_str ?_
  split
  · rename_i ha
    have : a = Str.empty := by
      apply Str.ext'
      have h0 : a.cps.size = 0 := by simpa [Str.length] using ha
      simp [Array.eq_empty_of_size_eq_zero h0, Str.empty]
    refine Po.here gs (VR.str _ _) ?_
    rw [this, Str.empty_append] at q; exact q
  · split
    · rename_i hb
      have : b = Str.empty := by
        apply Str.ext'
        have h0 : b.cps.size = 0 := by simpa [Str.length] using hb
        simp [Array.eq_empty_of_size_eq_zero h0, Str.empty]
      refine Po.here gs (VR.str _ _) ?_
      rw [this, Str.append_empty] at q; exact q
    · exact ⟨by rw [Str.length_append, sizeLine_eq]; omega, Po.toks gs _ (VR.str _ _) q⟩

theorem TO2.eqI {i j : Int} (q : Q (.bool (i == j)) st) : TO2 VR g C (compareOp .Eq) (.int i) (.int j) Q st := fun s x y gs rx ry => by
  cases rx; cases ry; exact PySem.P.eq_int (Po.here gs (VR.bool _) q)
theorem TO2.neI {i j : Int} (q : Q (.bool (i != j)) st) : TO2 VR g C (compareOp .NotEq) (.int i) (.int j) Q st := fun s x y gs rx ry => by
  cases rx; cases ry; exact PySem.P.ne_int (Po.here gs (VR.bool _) q)
theorem TO2.ltI {i j : Int} (q : Q (.bool (decide (i < j))) st) : TO2 VR g C (compareOp .Lt) (.int i) (.int j) Q st := fun s x y gs rx ry => by
  cases rx; cases ry; exact wpAny_lt_int (Po.here gs (VR.bool _) q)
theorem TO2.gtI {i j : Int} (q : Q (.bool (decide (j < i))) st) : TO2 VR g C (compareOp .Gt) (.int i) (.int j) Q st := fun s x y gs rx ry => by
  cases rx; cases ry; exact PySem.P.gt_int (Po.here gs (VR.bool _) q)
theorem TO2.ltS {a b : Str} (q : Q (.bool (decide (a.cps.toList < b.cps.toList))) st) : TO2 VR g C (compareOp .Lt) (.str a) (.str b) Q st := fun s x y gs rx ry => by
  cases rx; cases ry; exact PySem.P.lt_str (Po.here gs (VR.bool _) q)
theorem TO2.gtS {a b : Str} (q : Q (.bool (decide (b.cps.toList < a.cps.toList))) st) : TO2 VR g C (compareOp .Gt) (.str a) (.str b) Q st := fun s x y gs rx ry => by
  cases rx; cases ry; exact PySem.P.gt_str (Po.here gs (VR.bool _) q)
theorem TO2.eqS {a b : Str} (q : Q (.bool (a.cps.toList == b.cps.toList)) st) : TO2 VR g C (compareOp .Eq) (.str a) (.str b) Q st := fun s x y gs rx ry => by
  cases rx; cases ry; exact PySem.P.eq_str (Po.here gs (VR.bool _) q)
theorem TO2.isN {v : V} {b : Bool} (hv : ∀ h x, VR h v x → (x == .none) = b) (q : Q (.bool b) st) : TO2 VR g C (compareOp .Is) v .none Q st := fun s x y gs rx ry => by
  cases ry; exact is_none_gen (Po.here gs (hv _ _ rx ▸ VR.bool _) q)
theorem TO2.isNotN {v : V} {b : Bool} (hv : ∀ h x, VR h v x → (x == .none) = b) (q : Q (.bool (!b)) st) : TO2 VR g C (compareOp .IsNot) v .none Q st := fun s x y gs rx ry => by
  cases ry; exact isnot_none_gen (Po.here gs (hv _ _ rx ▸ VR.bool _) q)
end
end
section -- P7
noncomputable def set (l : Loc) (x : Str) (v : V) : Loc := (x, v) :: l.filter (fun p => decide (p.1 ≠ x))
theorem mem_set {l : Loc} {x : Str} {v : V} : (x, v) ∈ set l x v := List.mem_cons_self
theorem mem_set_ne {l : Loc} {x y : Str} {v u : V} (h : (y, u) ∈ l) (hn : y ≠ x) : (y, u) ∈ set l x v := List.mem_cons_of_mem _ (List.mem_filter.mpr ⟨h, by simpa using hn⟩)
theorem set_cases {l : Loc} {x : Str} {v : V} {p : Str × V} (h : p ∈ set l x v) : p = (x, v) ∨ (p ∈ l ∧ p.1 ≠ x) := by
  rcases List.mem_cons.mp h with h | h
  · exact .inl h
  · obtain ⟨h1, h2⟩ := List.mem_filter.mp h; exact .inr ⟨h1, by simpa using h2⟩

theorem tab_lt (g : G) : ∀ cp ∈ tabCodes, cp.1 < g.H.objs.size ∧ cp.2 < g.H.objs.size := g.top.tabs

section
variable {g : G} {C : Fm g} {st : St} {s s' : Shared} {x : Str} {v : V} {val : Value}
theorem GoodF.setLocal (gs : GoodF g C st s) (hk : C.env.kindOf x = some .local) (hx : x ≠ "_initial_size") (r : VR s.heap v val)
    (hn : ∀ m, s.heap.Ns C.env.locals m → s'.heap.Ns C.env.locals (fun y => if y = x then some val else m y)) (hs : Heap.SameBut C.env.locals s.heap s'.heap) (hg : s'.gens = s.gens) (ho : s'.os = s.os) :
    GoodF g C ⟨set st.loc x v, st.sto⟩ s' ∧ SF g C st ⟨set st.loc x v, st.sto⟩ s s' := by
  obtain ⟨m, n, hi, l⟩ := gs.loc
  obtain ⟨oL, es, ep, eL, hdL, hr⟩ := id n
  have nX : ¬ XS g st.sto C.env.locals := XS.noDict gs.toGoodS eL (.inl ⟨es, ep, hdL⟩)
  have k : TupK s.heap s'.heap := fun a items n' e => (hs.2 a fun h => by subst h; rw [eL] at e; cases e; cases hdL).trans e
  have kc : ∀ a c, s.heap.IsCell a c → s'.heap.IsCell a c := fun a c ⟨o, e, hd⟩ => ⟨o, (hs.2 a fun h => by subst h; rw [eL] at e; cases e; rw [hdL] at hd; cases hd).trans e, hd⟩
  have base : GoodS g st.sto s' := ⟨gs.base.same C.new hs (tab_lt g), fun p hp => by
      refine (gs.cells p hp).keep k (fun o e => (hs.2 _ fun h => ?_).trans e) fun d y hn' hN => ?_
      · exact nX (.inl (h ▸ List.mem_map_of_mem hp))
      · by_cases hd : d = C.env.locals
        · subst hd
          have := Ns.one n hn' "_initial_size"
          rw [hi] at this; simp [only] at this
        · exact hn'.sameBut hs hd, gs.new, gs.nodup, ho.trans gs.os, hg ▸ gs.bare⟩
  refine ⟨⟨base, ⟨_, hn m n, by simp [hi, Ne.symm hx], fun p hp => ?_⟩, fun b hb => let ⟨c, h⟩ := gs.cellsAre b hb; ⟨c, kc _ _ h⟩⟩, Step.but (.inr (.inl rfl)) (fun b o n e => (hs.2 b n).trans e) hg⟩
  rcases set_cases hp with rfl | ⟨hp, hne⟩
  · exact ⟨val, .inl ⟨hk, by simp⟩, r.mono k⟩
  · obtain ⟨u, b, ru⟩ := l p hp
    refine ⟨u, ?_, ru.mono k⟩
    rcases b with ⟨b, e⟩ | ⟨b, c, h1, h2⟩
    · exact .inl ⟨b, by simp [hne, e]⟩
    · exact .inr ⟨b, c, h1, kc _ _ h2⟩
theorem GoodF.setCell (gs : GoodF g C st s) (hk : C.env.kindOf x = some .cell) {c : Addr} (hc : C.env.cells.lookup x = some c) (how : C.own c) (r : VR s.heap v val)
    {v₀ : Option Value} (hc0 : s.heap.IsCell c v₀) (hn : s'.heap.IsCell c (some val)) (hs : Heap.SameBut c s.heap s'.heap) (hg : s'.gens = s.gens) (ho : s'.os = s.os) :
    GoodF g C ⟨set st.loc x v, st.sto⟩ s' ∧ SF g C st ⟨set st.loc x v, st.sto⟩ s s' := by
  obtain ⟨m, n, hi, l⟩ := gs.loc
  obtain ⟨oc, ec, hdc⟩ := hc0
  have nX : ¬ XS g st.sto c := XS.noDict gs.toGoodS ec (.inr ⟨v₀, hdc⟩)
  have k : TupK s.heap s'.heap := fun a items n' e => (hs.2 a fun h => by subst h; rw [ec] at e; cases e; cases hdc).trans e
  have kn : ∀ a m, s.heap.Ns a m → s'.heap.Ns a m := fun a m' hn' => hn'.sameBut hs fun h => by
    subst h; obtain ⟨o, es, ep, e, hd, _⟩ := hn'; rw [ec] at e; cases e; rw [hdc] at hd; cases hd
  have hN := C.ownN c how
  have base : GoodS g st.sto s' := ⟨gs.base.same hN hs (tab_lt g), fun p hp => by
      refine (gs.cells p hp).keep k (fun o e => (hs.2 _ fun h => ?_).trans e) fun d y hn' hN => kn _ _ hn'
      exact nX (.inl (h ▸ List.mem_map_of_mem hp)), gs.new, gs.nodup, ho.trans gs.os, hg ▸ gs.bare⟩
  refine ⟨⟨base, ⟨m, kn _ _ n, hi, fun p hp => ?_⟩, fun b hb => ?_⟩, Step.but (.inr (.inr how)) (fun b o n e => (hs.2 b n).trans e) hg⟩
  · rcases set_cases hp with rfl | ⟨hp, hne⟩
    · exact ⟨val, .inr ⟨.inl hk, c, hc, hn⟩, r.mono k⟩
    · obtain ⟨u, b, ru⟩ := l p hp
      refine ⟨u, ?_, ru.mono k⟩
      rcases b with b | ⟨b, c', h1, h2⟩
      · exact .inl b
      · refine .inr ⟨b, c', h1, h2.sameBut hs fun h => ?_⟩
        subst h; exact hne (C.cinj _ _ _ h1 hc)
  · by_cases h : b = c
    · exact ⟨_, h ▸ hn⟩
    · obtain ⟨u, hu⟩ := gs.cellsAre b hb
      exact ⟨u, hu.sameBut hs h⟩
end
end
section -- P8
section
variable {g : G} {C : Fm g} {st : St} {s s' : Shared}
/-- a name is bound -/
theorem store {x : Str} {v : V} {val : Value} (gs : GoodF g C st s) (r : VR s.heap v val) (hk : C.env.kindOf x = some .local) (hx : x ≠ "_initial_size") {P : Unit → Shared → Prop} {E : Value → Shared → Prop}
    (q : ∀ s', GoodF g C ⟨set st.loc x v, st.sto⟩ s' → SF g C st ⟨set st.loc x v, st.sto⟩ s s' → P () s') : wpAny g.M C.A (storeName C.env x val) P E s := by
  obtain ⟨m, n, hi, l⟩ := gs.loc
  refine wpAny_storeName_local hk n (fun h' hn hs => ?_) (by rw [C.kind]; rfl)
  obtain ⟨a, b⟩ := gs.setLocal (s' := { s with heap := h', toks := s.toks + 1 }) hk hx r (fun m' n' => by
    have : m' = m := funext fun y => Ns.one n' n y
    rw [this]; exact hn) hs rfl rfl
  exact q _ a b
theorem storeC {x : Str} {v : V} {val : Value} {c : Addr} (gs : GoodF g C st s) (r : VR s.heap v val) (hk : C.env.kindOf x = some .cell) (hc : C.env.cells.lookup x = some c) (hN : C.own c) {P : Unit → Shared → Prop} {E : Value → Shared → Prop}
    (q : ∀ s', GoodF g C ⟨set st.loc x v, st.sto⟩ s' → SF g C st ⟨set st.loc x v, st.sto⟩ s s' → P () s') : wpAny g.M C.A (storeName C.env x val) P E s := by
  obtain ⟨v0, h0⟩ := gs.cellsAre c hN
  refine wpAny_storeName_cell C.kind hk hc h0 fun h' hn hs => ?_
  obtain ⟨a, b⟩ := gs.setCell (s' := { s with heap := h' }) hk hc hN r h0 hn hs rfl rfl
  exact q _ a b
/-- how a name may be bound in this frame -/
noncomputable def Stores (g : G) (C : Fm g) (x : Str) : Prop := (C.env.kindOf x = some .local ∧ x ≠ "_initial_size") ∨ (C.env.kindOf x = some .cell ∧ ∃ c, C.env.cells.lookup x = some c ∧ C.own c)
theorem store' {x : Str} {v : V} {val : Value} (gs : GoodF g C st s) (r : VR s.heap v val) (hk : Stores g C x) {P : Unit → Shared → Prop} {E : Value → Shared → Prop}
    (q : ∀ s', GoodF g C ⟨set st.loc x v, st.sto⟩ s' → SF g C st ⟨set st.loc x v, st.sto⟩ s s' → P () s') : wpAny g.M C.A (storeName C.env x val) P E s := by
  rcases hk with ⟨h1, h2⟩ | ⟨h1, c, h2, h3⟩
  · exact store gs r h1 h2 q
  · exact storeC gs r h1 h2 h3 q

section
variable (g : G) (C : Fm g)
noncomputable abbrev kSeq (rest : List Stmt) (Q : F → St → Prop) : F → St → Prop := fun f st => match f with | .next => TXs g C rest Q st | f => Q f st
noncomputable abbrev kRet (Q : F → St → Prop) : V → St → Prop := fun v st => Q (.ret v) st
noncomputable abbrev kIf (a b : List Stmt) (Q : F → St → Prop) : Bool → St → Prop := fun c st => if c then TXs g C a Q st else TXs g C b Q st
noncomputable abbrev kSet (x : Str) (Q : F → St → Prop) : V → St → Prop := fun v st => Q .next ⟨set st.loc x v, st.sto⟩
noncomputable abbrev kAug (f : Value → Value → Sem Value) (u : V) (x : Str) (Q : F → St → Prop) : V → St → Prop := fun v st => TO2 VR g C f u v (kSet x Q) st
noncomputable abbrev kTurn (I : Nat → St → Prop) (n : Nat) (Q : F → St → Prop) : F → St → Prop := fun f st => match f with
  | .next | .cont => ∃ m, m < n ∧ I m st
  | .brk => Q .next st
  | .ret v => Q (.ret v) st
noncomputable abbrev kWhile (body orelse : List Stmt) (I : Nat → St → Prop) (n : Nat) (Q : F → St → Prop) : Bool → St → Prop := fun c st => if c then TXs g C body (kTurn I n Q) st else TXs g C orelse Q st
noncomputable abbrev kExpr (Q : F → St → Prop) : V → St → Prop := fun v st => v = .none ∧ Q .next st
end
variable {Q : F → St → Prop}
theorem TXs.nil (q : Q .next st) : TXs g C [] Q st := fun s gs => wpAny_execs_nil (Po.here gs RF.next q)
theorem TXs.cons {x : Stmt} {rest : List Stmt} (h : TX g C x (kSeq g C rest Q) st) : TXs g C (x :: rest) Q st := fun s gs =>
  wpAny_execs_cons (h.on gs fun f st1 a s1 q r g1 x1 => by
    cases r with
    | next => exact wpAny_mono (q s1 g1) (fun _ _ p => Po.trans x1 p) fun _ _ e => e
    | brk => exact ⟨_, _, RF.brk, g1, x1, q⟩
    | cont => exact ⟨_, _, RF.cont, g1, x1, q⟩
    | ret r => exact ⟨_, _, RF.ret r, g1, x1, q⟩)
theorem TX.pass {pos : Pos} (q : Q .next st) : TX g C (.Pass pos) Q st := fun s gs => wpAny_Pass (Po.here gs RF.next q)
theorem TX.brk {pos : Pos} (q : Q .brk st) : TX g C (.Break pos) Q st := fun s gs => by
  show wpAny g.M C.A (do standAt pos; pure Flow.brk) _ _ s
  exact wpAny_bind (wpAny_standAt (wpAny_pure (Po.here gs RF.brk q)))
theorem TX.ret {e : Expr} {pos : Pos} (h : TE g C e (kRet Q) st) : TX g C (.Return (some e) pos) Q st := fun s gs =>
  wpAny_Return_some (h.on gs fun v st1 a s1 q r g1 x1 => ⟨_, _, RF.ret r, g1, x1, q⟩)
theorem TX.retN {pos : Pos} (q : Q (.ret .none) st) : TX g C (.Return none pos) Q st := fun s gs => wpAny_Return_none (Po.here gs (RF.ret VR.none) q)
theorem TX.ite {t : Expr} {a b : List Stmt} {pos : Pos} (h : TT g C t (kIf g C a b Q) st) : TX g C (.If t a b pos) Q st := fun s gs =>
  wpAny_If (h.on gs fun c st1 c' s1 q rc g1 x1 => by
    cases rc
    cases c with
    | true => exact wpAny_mono (q s1 g1) (fun _ _ p => Po.trans x1 p) fun _ _ e => e
    | false => exact wpAny_mono (q s1 g1) (fun _ _ p => Po.trans x1 p) fun _ _ e => e)
theorem TX.assign {x : Str} {e : Expr} {p pos : Pos} (hk : Stores g C x) (h : TE g C e (kSet x Q) st)
    (hs : swapsWith e (some (.Name x p)) pos.line C.env = pure false := by with_unfolding_all rfl) : TX g C (.Assign [.Name x p] e pos) Q st := fun s gs =>
  wpAny_Assign_Name (h.on gs fun v st1 a s1 q r g1 x1 => store' g1 r hk fun s2 g2 x2 => ⟨_, _, RF.next, g2, Step.trans x1 x2, q⟩) hs
theorem TX.aug {x : Str} {e : Expr} {op : Operator} {p pos : Pos} {u : V} (hk : Stores g C x) (hx : (x, u) ∈ st.loc) (h : TE g C e (kAug g C (inplaceOp op) u x Q) st)
    (hn : (x == ("__classdict__" : Str)) = false := by decide) : TX g C (.AugAssign (.Name x p) op e pos) Q st := fun s gs => by
  refine wpAny_AugAssign_Name ?_
  obtain ⟨m, n, _, l⟩ := gs.loc
  obtain ⟨val, b, r⟩ := l _ hx
  have go : wpAny g.M C.A (eval e C.env) (fun v s₂ => wpAny g.M C.A (inplaceOp op val v) (fun r s₃ => wpAny g.M C.A (storeName C.env x r) (fun _ => Po RF g C st s Q .next) noE s₃) noE s₂) noE s :=
    h.on gs fun v st1 a s1 q rv g1 x1 => wpAny_mono (q s1 val a g1 (r.mono (SF.tup gs x1)) rv) (fun y s2 ⟨w, st2, rw_, g2, x2, q⟩ =>
      store' g2 rw_ hk fun s3 g3 x3 => ⟨_, _, RF.next, g3, Step.trans x1 (Step.trans x2 x3), q⟩) fun _ _ e => e
  rcases b with ⟨b, e⟩ | ⟨b | b, c, h1, h2⟩
  · exact wpAny_loadName_local C.kind b n e go
  · exact wpAny_loadName_cell C.kind b h1 h2 go
  · exact wpAny_loadName_free C.kind b h1 h2 go hn
/-- a call as a statement: it hands None back -/
theorem TX.expr {e : Expr} {pos : Pos} (h : TE g C e (kExpr Q) st) (hi : interactive C.env = false := by rfl) (hs : swapsWith e none pos.line C.env = pure false := by rfl) : TX g C (.Expr e pos) Q st := fun s gs =>
  wpAny_Expr (h.on gs fun v st1 a s1 q r g1 x1 => by
    obtain ⟨rfl, q⟩ := q
    cases r
    exact ⟨_, _, RF.next, g1, x1, q⟩) hi hs

/-- less is known of the names, and of the lists -/
theorem GoodF.less {st st' : St} (gs : GoodF g C st s) (h : ∀ p ∈ st'.loc, p ∈ st.loc) (h' : st'.sto = st.sto) : GoodF g C st' s := by
  obtain ⟨l', t'⟩ := st'
  obtain ⟨l, t⟩ := st
  cases h'
  exact ⟨gs.toGoodS, let ⟨m, n, hi, q⟩ := gs.loc; ⟨m, n, hi, fun p hp => q p (h p hp)⟩, gs.cellsAre⟩
theorem Tr.less {α β : Type} {R : Heap → β → α → Prop} {t : Sem α} {Q : β → St → Prop} {st st' : St} (h : ∀ p ∈ st'.loc, p ∈ st.loc) (h' : st'.sto = st.sto) (k : Tr R g C t Q st') : Tr R g C t Q st := fun s gs =>
  wpAny_mono (k s (gs.less h h')) (fun a s1 ⟨b, st1, r, g1, x1, q⟩ => ⟨b, st1, r, g1, by unfold SF at *; rw [h'] at x1; exact x1, q⟩) fun _ _ e => e

/-- while: by a measure -/
theorem notedN {E : Value → Shared → Prop} : ∀ e s, noE e s → notedBy g.M C.A C.env E e s := fun _ _ h => h.elim
theorem TX.while {t : Expr} {body orelse : List Stmt} {pos : Pos} (I : Nat → St → Prop)
    (turn : ∀ n st, I n st → TT g C t (kWhile g C body orelse I n Q) st)
    (n : Nat) (h : I n st) : TX g C (.While t body orelse pos) Q st := fun s gs => by
  refine wpAny_While (codeAny_whileLoop (fun n s' => ∃ st', GoodF g C st' s' ∧ SF g C st st' s s' ∧ I n st') (fun n s1 ⟨st1, g1, x1, i⟩ => ?_) n ⟨st, gs, Step.refl _ _, h⟩)
  refine (turn n st1 i).on g1 fun c st2 c' s2 q rc g2 x2 => ?_
  cases rc
  cases c with
  | true =>
    refine (show TXs g C body _ st2 from q).on g2 fun f st3 a s3 q rf g3 x3 => ?_
    cases rf with
    | next => obtain ⟨m, hm, i⟩ := q; exact ⟨m, hm, st3, g3, Step.trans x1 (Step.trans x2 x3), i⟩
    | cont => obtain ⟨m, hm, i⟩ := q; exact ⟨m, hm, st3, g3, Step.trans x1 (Step.trans x2 x3), i⟩
    | brk => exact ⟨_, st3, RF.next, g3, Step.trans x1 (Step.trans x2 x3), q⟩
    | ret r => exact ⟨_, st3, RF.ret r, g3, Step.trans x1 (Step.trans x2 x3), q⟩
  | false =>
    exact (show TXs g C orelse Q st2 from q).on g2 fun f st3 a s3 q rf g3 x3 => ⟨f, st3, rf, g3, Step.trans x1 (Step.trans x2 x3), q⟩
end
end
section -- P9
set_option genSizeOf false
set_option genInjectivity false

/-- a call of f by these arguments: what comes back, and what lies there then; n: the room it asks -/
noncomputable def TC (g : G) (n : Nat) (f : Value) (args : List V) (ks : List Str) (us : List V) (Q : V → Sto → Prop) (sto : Sto) : Prop :=
  ∀ A s vals kvals, A.depth + 4 * n < 900 → A.units + 40 * n < 9000 → A.handled = none → GoodS g sto s → VRs s.heap args vals → VRs s.heap us kvals →
    codeAny g.M A (.call f ⟨vals, ks.zip kvals⟩) (fun r s' => ∃ v x sto', r = .ok (.ret x) ∧ VR s'.heap v x ∧ GoodS g sto' s' ∧ SS g sto sto' s s' ∧ Q v sto') s

theorem TC.up {g : G} {n m : Nat} {f : Value} {args : List V} {ks : List Str} {us : List V} {Q : V → Sto → Prop} {sto : Sto} (h : TC g n f args ks us Q sto) (hn : n ≤ m) : TC g m f args ks us Q sto :=
  fun A s vals kvals h1 h2 h3 => h A s vals kvals (by omega) (by omega) h3

structure IsEnv (g : G) (f : Fn) (C : Fm g) : Prop where
  scope : C.env.scope = f.sc
  code : C.env.code = .ref f.c
  func : C.env.func = some f.a
  qual : C.env.qual = f.qn ++ ".<locals>."
  frame : C.env.frame = some C.env.locals
  cells : ∀ x, f.sc.names.lookup x = some .cell → ((cellsFrom 0 f.sc.names []).lookup x).isSome = true → ∃ c, C.env.cells.lookup x = some c ∧ C.own c
  free : ∀ p ∈ f.cl, C.env.cells.lookup p.1 = some p.2

theorem IsEnv.kindOf {g : G} {f : Fn} {C : Fm g} (e : IsEnv g f C) (x : Str) : C.env.kindOf x = f.sc.names.lookup x := by unfold Env.kindOf; rw [e.scope]
theorem IsEnv.stores {g : G} {f : Fn} {C : Fm g} (e : IsEnv g f C) (x : Str) (h : f.sc.names.lookup x = some .local) (hx : x ≠ "_initial_size") : Stores g C x := .inl ⟨(e.kindOf x).trans h, hx⟩
theorem IsEnv.storesC {g : G} {f : Fn} {C : Fm g} (e : IsEnv g f C) (x : Str) (h : f.sc.names.lookup x = some .cell) (hc : ((cellsFrom 0 f.sc.names []).lookup x).isSome = true) : Stores g C x := .inr ⟨(e.kindOf x).trans h, e.cells x h hc⟩

theorem fst_cells : ∀ (ns : List (Str × NameKind)) (a b : Nat) (acc acc' : List (Str × Addr)), acc.map (·.1) = acc'.map (·.1) → (cellsFrom a ns acc).map (·.1) = (cellsFrom b ns acc').map (·.1)
  | [], a, b, acc, acc', h => h
  | (n, k) :: r, a, b, acc, acc', h => by
    unfold cellsFrom
    split
    · exact fst_cells r _ _ _ _ (by simp [h])
    · exact fst_cells r _ _ _ _ h
theorem lookup_nodup {α : Type} : ∀ {l : List (Str × α)}, (l.map (·.1)).Nodup → ∀ {p : Str × α}, p ∈ l → l.lookup p.1 = some p.2
  | [], _, p, h => by simp at h
  | (k, v) :: l, nd, p, h => by
    obtain ⟨h1, h2⟩ := List.nodup_cons.mp nd
    rw [List.lookup_cons]
    rcases List.mem_cons.mp h with rfl | h3
    · simp
    · have : (p.1 == k) = false := by
        simp only [beq_eq_false_iff_ne]
        intro e
        exact h1 (e ▸ List.mem_map.mpr ⟨p, h3, rfl⟩)
      rw [this]; exact lookup_nodup h2 h3
theorem bind_at {k : Str → Option NameKind} : ∀ (ns : List Str) (vs : List Value) (m cm : Str → Option Value), ns.Nodup → ∀ x v, (x, v) ∈ ns.zip vs →
    (k x = some .local → bindL k (ns.zip vs) m x = some v) ∧ (k x ≠ some .local → bindC k (ns.zip vs) cm x = some v)
  | [], _, _, _, _, x, v, h => by simp at h
  | n :: ns, [], _, _, _, x, v, h => by simp at h
  | n :: ns, u :: vs, m, cm, nd, x, v, h => by
    obtain ⟨h1, h2⟩ := List.nodup_cons.mp nd
    have keepL : ∀ (ns : List Str) (vs : List Value) (m : Str → Option Value), n ∉ ns → bindL k (ns.zip vs) m n = m n := by
      intro ns
      induction ns with
      | nil => intro vs m _; rfl
      | cons a ns ih =>
        intro vs m hn
        cases vs with
        | nil => rfl
        | cons b vs =>
          have ha : n ≠ a := fun e => hn (e ▸ List.mem_cons_self)
          show bindL k (ns.zip vs) _ n = _
          rw [ih vs _ fun e => hn (List.mem_cons_of_mem _ e)]
          split
          · simp [ha]
          · rfl
    have keepC : ∀ (ns : List Str) (vs : List Value) (m : Str → Option Value), n ∉ ns → bindC k (ns.zip vs) m n = m n := by
      intro ns
      induction ns with
      | nil => intro vs m _; rfl
      | cons a ns ih =>
        intro vs m hn
        cases vs with
        | nil => rfl
        | cons b vs =>
          have ha : n ≠ a := fun e => hn (e ▸ List.mem_cons_self)
          show bindC k (ns.zip vs) _ n = _
          rw [ih vs _ fun e => hn (List.mem_cons_of_mem _ e)]
          split
          · rfl
          · simp [ha]
    rcases List.mem_cons.mp h with e | h
    · cases e
      refine ⟨fun hl => ?_, fun hl => ?_⟩
      · show bindL k (ns.zip vs) _ n = _
        rw [keepL ns vs _ h1, if_pos hl]; simp
      · show bindC k (ns.zip vs) _ n = _
        rw [keepC ns vs _ h1, if_neg hl]; simp
    · exact bind_at ns vs _ _ h2 x v h

theorem VRs.zip {h : Heap} {ns : List Str} {vs : List V} {xs : List Value} (r : VRs h vs xs) : ∀ p ∈ ns.zip vs, ∃ x, (p.1, x) ∈ ns.zip xs ∧ VR h p.2 x := by
  induction ns generalizing vs xs with
  | nil => intro p hp; cases hp
  | cons n ns ih =>
    intro p hp
    cases vs with
    | nil => cases hp
    | cons v vs =>
      obtain ⟨x, ys, rfl, a, b⟩ := r.consI
      rcases List.mem_cons.mp hp with rfl | hp
      · exact ⟨_, List.mem_cons_self, a⟩
      · obtain ⟨x, h1, h2⟩ := ih b p hp
        exact ⟨x, List.mem_cons_of_mem _ h1, h2⟩
theorem zip_fst {α β : Type} {ns : List α} {xs : List β} {p : α × β} (h : p ∈ ns.zip xs) : p.1 ∈ ns := (List.of_mem_zip h).1
/-- the cells' names do not hang on the first address -/
theorem cellsFrom_some : ∀ (ns : List (Str × NameKind)) (a b : Nat) (acc acc' : List (Str × Addr)) (x : Str), acc.map (·.1) = acc'.map (·.1) →
    ((cellsFrom a ns acc).lookup x).isSome = ((cellsFrom b ns acc').lookup x).isSome
  | [], a, b, acc, acc', x, h => by
    show (acc.lookup x).isSome = (acc'.lookup x).isSome
    induction acc generalizing acc' with
    | nil => cases acc' with | nil => rfl | cons _ _ => cases h
    | cons p acc ih =>
      cases acc' with
      | nil => cases h
      | cons q acc' =>
        obtain ⟨p1, p2⟩ := p; obtain ⟨q1, q2⟩ := q
        simp only [List.map_cons, List.cons.injEq] at h
        obtain ⟨rfl, h⟩ := h
        rw [List.lookup_cons, List.lookup_cons]
        cases hx : x == p1 with
        | true => rfl
        | false => exact ih acc' h
  | (n, k) :: r, a, b, acc, acc', x, h => by
    unfold cellsFrom
    split
    · exact cellsFrom_some r _ _ _ _ x (by simp [h])
    · exact cellsFrom_some r _ _ _ _ x h

/-- the parameters are the names, in order -/
noncomputable def Plain (f : Fn) (ns : List Str) : Prop := ∀ fd : FuncData, fd.params = f.ps → fd.defaults = f.dV → fd.kwdefaults = f.kV → ∀ vals : List Value, vals.length = ns.length → bindArgs fd ⟨vals, []⟩ = pure (ns.zip vals)

theorem callEnvC_ok {g : G} {f : Fn} {fd : FuncData} {A : Around} {n : Nat} {L : Addr} (h1 : fd.scope = f.sc) (h2 : fd.globals = mainGlobals) (h3 : fd.builtins = builtinsNs) (hk : f.sc.kind = .function)
    (hd : A.depth + 4 * (n + 1) < 900) (hu : A.units + 40 * (n + 1) < 9000) (hh : A.handled = none) (hL : g.H.objs.size ≤ L)
    (ap : (callEnvC fd L f.a).cells.Pairwise fun x y => x.2 ≠ y.2) (hab : ∀ n c, (n, c) ∈ (callEnvC fd L f.a).cells → L < c) : ∃ C : Fm g, C.A = A.deeper (callEnvC fd L f.a) ∧ C.env = callEnvC fd L f.a ∧ C.n = n ∧ C.own = fun b => b ∈ (callEnvC fd L f.a).cells.map (·.2) :=
  have ow : ∀ b, b ∈ (callEnvC fd L f.a).cells.map (·.2) → g.H.objs.size ≤ b := fun b hb => by
    obtain ⟨p, hp, rfl⟩ := List.mem_map.mp hb
    exact Nat.le_of_lt (Nat.lt_of_le_of_lt hL (hab p.1 p.2 hp))
  ⟨{ A := A.deeper (callEnvC fd L f.a), env := callEnvC fd L f.a, n, kind := by show fd.scope.kind = _; rw [h1, hk], globals := h2, builtins := h3,
     depth := by show A.depth + 1 + 4 * n < 900; omega, units := by show A.units + 3 + 40 * n < 9000; omega, handled := hh, new := hL,
     cinj := fun x y c hx hy => name_of_addr ap (mem_of_lookup hx) (mem_of_lookup hy), own := fun b => b ∈ (callEnvC fd L f.a).cells.map (·.2), ownN := ow }, rfl, rfl, rfl, rfl⟩

noncomputable abbrev kDef (Q : V → Sto → Prop) : F → St → Prop := fun fl st => match fl with | .ret v => Q v st.sto | _ => Q .none st.sto
theorem code_def {g : G} {f : Fn} {ns : List Str} {n : Nat} {args : List V} {Q : V → Sto → Prop} {sto : Sto} {A : Around} {s : Shared} {vals : List Value} (hd : A.depth + 4 * (n + 1) < 900) (hu : A.units + 40 * (n + 1) < 9000) (hh : A.handled = none) (gs : GoodS g sto s) (rv : VRs s.heap args vals) (hf : FnO g.H f) (hlt : f.a ∉ tbls ∧ f.c ∉ tbls) (hcl : f.cl = []) (hpl : Plain f ns) (hlen : args.length = ns.length) (hnd : ns.Nodup)
    (hin : ("_initial_size" : Str) ∉ ns) (hcn : ((cellsFrom 0 f.sc.names []).map (·.1)).Nodup) (hkind : ∀ x ∈ ns, f.sc.names.lookup x = some .local ∨ (f.sc.names.lookup x = some .cell ∧ ((cellsFrom 0 f.sc.names []).lookup x).isSome = true))
    (hco : f.sc.isCoroutine = false) (hgen : f.sc.isGenerator = false) (hk : f.sc.kind = .function)
    (body : ∀ C : Fm g, IsEnv g f C → C.n = n → C.A = A.deeper C.env → TXs g C f.body (kDef Q) ⟨ns.zip args, sto⟩) : codeAny g.M A (.call (.ref f.a) ⟨vals, []⟩) (fun r s' => ∃ v x sto', r = .ok (.ret x) ∧ VR s'.heap v x ∧ GoodS g sto' s' ∧ SS g sto sto' s s' ∧ Q v sto') s := by
  obtain ⟨o, fd, ho, hdat, e1, e2, e3, e4, e5, e6, e7, e8, e9, e10, hrec⟩ := hf
  show codeAny g.M A (.call (.ref f.a) ⟨vals, []⟩) _ s
  have hlv : vals.length = ns.length := rv.length.symm.trans hlen
  have kp : ∀ b o, g.H.get? b = some o → b ∉ tbls → s.heap.get? b = some o := gs.base.keep
  refine codeAny_call_cells (by show A.depth < 1000; omega) (kp _ _ ho hlt.1) hdat ?_ ?_ e3 (hpl fd e2 e7 e8 vals hlv) (e6.trans hcl) ?_ (fun s₁ x => ?_) (e4 ▸ hco) (e4 ▸ hgen) (e4 ▸ hk)
  · obtain ⟨mc, ⟨oc, es, ep, hoc, r⟩, q⟩ := g.top.nolim
    exact ⟨mc, ⟨oc, es, ep, kp _ _ hoc (by decide), r⟩, q⟩
  · obtain ⟨c, oc, vs, t, hc, hoc, r⟩ := hrec
    cases hc
    rw [e9, e1]
    exact ⟨f.c, oc, vs, t, rfl, kp _ _ hoc hlt.2, r⟩
  · intro y hy
    rw [e4]
    rcases hkind _ (zip_fst hy) with h | ⟨h, h'⟩
    · exact .inl h
    · exact .inr ⟨h, by rw [cellsFrom_some _ _ 0 [] [] _ rfl]; exact h'⟩
  · obtain ⟨h₁, tk, rfl, _⟩ := x.done
    have hk₁ := x.toInCall.keep
    have hL : g.H.objs.size ≤ s.heap.objs.size := gs.base.size
    obtain ⟨C, hA, hE, hn, hO⟩ := callEnvC_ok (g := g) (f := f) (fd := fd) (A := A) (n := n) (L := s.heap.objs.size) e4 e5 e10 hk hd hu hh hL x.apart x.above
    have hz : s.heap.objs.size ≤ h₁.objs.size := Nat.le_of_lt x.toInCall.ns.lt
    have gs1 : GoodS g sto { s with heap := h₁, toks := tk } := gs.ext hk₁ rfl rfl
    have hkk : ∀ y, C.env.kindOf y = f.sc.names.lookup y := fun y => by rw [hE]; show fd.scope.names.lookup y = _; rw [e4]
    have gF : GoodF g C ⟨ns.zip args, sto⟩ { s with heap := h₁, toks := tk } := by
      refine ⟨gs1, ⟨_, by rw [hE]; exact x.toInCall.ns, ?_, fun p hp => ?_⟩, fun b hb => ?_⟩
      · have : ∀ (ns : List Str) (vals : List Value) (m : Str → Option Value), ("_initial_size" : Str) ∉ ns → m "_initial_size" = none → bindL (callEnvC fd s.heap.objs.size f.a).kindOf (ns.zip vals) m "_initial_size" = none := by
          intro ns
          induction ns with
          | nil => intro vals m _ hm; exact hm
          | cons a ns ih =>
            intro vals m hn hm
            cases vals with
            | nil => exact hm
            | cons b vals =>
              refine ih vals _ (fun e => hn (List.mem_cons_of_mem _ e)) ?_
              have ha : ("_initial_size" : Str) ≠ a := fun e => hn (e ▸ List.mem_cons_self)
              split
              · simp [ha, hm]
              · exact hm
        exact this ns vals _ hin rfl
      · obtain ⟨y, hy, ry⟩ := VRs.zip rv p hp
        refine ⟨y, ?_, ry.mono fun a items n e => hk₁ _ _ e⟩
        obtain ⟨hl, hc⟩ := bind_at (k := (callEnvC fd s.heap.objs.size f.a).kindOf) ns vals (fun _ => none) (fun _ => none) hnd p.1 y hy
        have hkE : (callEnvC fd s.heap.objs.size f.a).kindOf p.1 = f.sc.names.lookup p.1 := by rw [← hE]; exact hkk _
        rcases hkind _ (zip_fst hp) with h | ⟨h, h'⟩
        · exact .inl ⟨(hkk _).trans h, hl (hkE.trans h)⟩
        · refine .inr ⟨.inl ((hkk _).trans h), ?_⟩
          have hs : ((callEnvC fd s.heap.objs.size f.a).cells.lookup p.1).isSome = true := by
            show ((cellsFrom (s.heap.objs.size + 1) fd.scope.names []).lookup p.1).isSome = true
            rw [e4, cellsFrom_some _ _ 0 [] [] _ rfl]; exact h'
          obtain ⟨c, hcc⟩ := Option.isSome_iff_exists.mp hs
          refine ⟨c, by rw [hE]; exact hcc, ?_⟩
          have := x.cell _ _ hcc
          rwa [hc (by rw [hkE, h]; simp)] at this
      · rw [hO] at hb
        obtain ⟨p, hp, rfl⟩ := List.mem_map.mp hb
        have nd : ((callEnvC fd s.heap.objs.size f.a).cells.map (·.1)).Nodup := by
          show ((cellsFrom (s.heap.objs.size + 1) fd.scope.names []).map (·.1)).Nodup
          rw [e4, fst_cells _ _ 0 [] [] rfl]; exact hcn
        exact ⟨_, x.cell _ _ (lookup_nodup nd hp)⟩
    have isE : IsEnv g f C := ⟨by rw [hE]; exact e4, by rw [hE]; exact e9, by rw [hE]; rfl, by rw [hE]; show fd.qualname ++ _ = _; rw [e1], by rw [hE]; rfl, fun y hy h' => by
        have hs : ((callEnvC fd s.heap.objs.size f.a).cells.lookup y).isSome = true := by
          show ((cellsFrom (s.heap.objs.size + 1) fd.scope.names []).lookup y).isSome = true
          rw [e4, cellsFrom_some _ _ 0 [] [] _ rfl]; exact h'
        obtain ⟨c, hcc⟩ := Option.isSome_iff_exists.mp hs
        refine ⟨c, by rw [hE]; exact hcc, ?_⟩
        rw [hO]
        exact List.mem_map.mpr ⟨_, mem_of_lookup hcc, rfl⟩, fun p hp => by rw [hcl] at hp; cases hp⟩
    have hb := body C isE hn (by rw [hA, hE]) { s with heap := h₁, toks := tk } gF
    rw [hA, hE] at hb
    refine wpAny_mono hb (fun fl s' ⟨f', st', rf, g', x', q⟩ => ?_) noE.any
    have x1 : SS g sto st'.sto s s' := by
      have a : SS g sto sto s { s with heap := h₁, toks := tk } := SS.ext hk₁ rfl
      refine ⟨fun b o e n => ?_, fun b hb => ?_, fun gn h => (x'.gens gn h), x'.gsize⟩
      · obtain ⟨o', e', s1⟩ := a.keep b o e n
        obtain ⟨o'', e'', s2⟩ := x'.keep b o' e' (by
          rintro (h | h | h)
          · exact n h
          · rw [hE] at h
            have : b = s.heap.objs.size := h
            exact absurd (Heap.lt_size e) (by rw [this]; exact Nat.lt_irrefl _)
          · rw [hO] at h
            obtain ⟨p, hp, rfl⟩ := List.mem_map.mp h
            have : s.heap.objs.size < p.2 := x.above p.1 p.2 hp
            exact absurd (Heap.lt_size e) (Nat.lt_asymm this))
        exact ⟨o'', e'', s1.trans s2⟩
      · rcases x'.grow b (.inl hb) with (h | h | h) | h
        · exact .inl h
        · rw [hE] at h; exact .inr (none_size (Nat.le_of_eq h.symm))
        · rw [hO] at h
          obtain ⟨p, hp, rfl⟩ := List.mem_map.mp h
          exact .inr (none_size (Nat.le_of_lt (x.above p.1 p.2 hp)))
        · exact .inr fun o e => h _ (hk₁ _ _ e)
    cases rf with
    | next => exact ⟨.none, .none, st'.sto, rfl, VR.none, g'.toGoodS, x1, q⟩
    | brk => exact ⟨.none, .none, st'.sto, rfl, VR.none, g'.toGoodS, x1, q⟩
    | cont => exact ⟨.none, .none, st'.sto, rfl, VR.none, g'.toGoodS, x1, q⟩
    | ret r => exact ⟨_, _, st'.sto, rfl, r, g'.toGoodS, x1, q⟩
theorem TC.def {g : G} {f : Fn} {ns : List Str} {n : Nat} {args : List V} {Q : V → Sto → Prop} {sto : Sto} (hf : FnO g.H f) (hlt : f.a ∉ tbls ∧ f.c ∉ tbls) (hcl : f.cl = []) (hpl : Plain f ns) (hlen : args.length = ns.length) (hnd : ns.Nodup)
    (hin : ("_initial_size" : Str) ∉ ns) (hcn : ((cellsFrom 0 f.sc.names []).map (·.1)).Nodup) (hkind : ∀ x ∈ ns, f.sc.names.lookup x = some .local ∨ (f.sc.names.lookup x = some .cell ∧ ((cellsFrom 0 f.sc.names []).lookup x).isSome = true))
    (hco : f.sc.isCoroutine = false) (hgen : f.sc.isGenerator = false) (hk : f.sc.kind = .function)
    (body : ∀ C : Fm g, IsEnv g f C → C.n = n → TXs g C f.body (kDef Q) ⟨ns.zip args, sto⟩) : TC g (n + 1) (.ref f.a) args [] [] Q sto := by
  intro A s vals kvals hd hu hh gs rv rk
  cases rk
  exact code_def hd hu hh gs rv hf hlt hcl hpl hlen hnd hin hcn hkind hco hgen hk fun C E hn _ => body C E hn
end
section -- P10
section
variable {g : G} {C : Fm g} {st : St} {s : Shared}
theorem Ns.base {H h : Heap} {a : Addr} {m : Str → Option Value} (n : H.Ns a m) (b : Base H h) (ha : a ∉ tbls) : h.Ns a m := let ⟨o, es, ep, e, r⟩ := n; ⟨o, es, ep, b.keep _ _ e ha, r⟩

theorem TE.glob {Q : V → St → Prop} {x : Str} {v : Value} {pos : Pos} (hx : (x, v) ∈ gNames) (hk : C.env.kindOf x = some .globalImplicit) (q : Q (.val v) st) (hd : (x == ("__debug__" : Str)) = false := by decide) :
    TE g C (.Name x pos) Q st := fun s gs =>
  Calls.Name_function_global C.kind hk (Calls.loadGlobal_global (mg := g.mg) (by rw [C.globals]; exact Ns.base g.top.gl gs.base (by decide)) (g.top.gn _ hx) (Po.here gs (VR.val v) q)) hd
theorem TE.builtin {Q : V → St → Prop} {x : Str} {v : Value} {pos : Pos} (hx : (x, v) ∈ bNames) (hk : C.env.kindOf x = some .globalImplicit) (q : Q (.val v) st) (hd : (x == ("__debug__" : Str)) = false := by decide) :
    TE g C (.Name x pos) Q st := fun s gs =>
  Calls.Name_function_global C.kind hk (Calls.loadGlobal_builtin (mg := g.mg) (mb := g.mb) (by rw [C.globals]; exact Ns.base g.top.gl gs.base (by decide)) (g.top.bn _ hx).1
    (by rw [C.builtins]; exact Ns.base g.top.bl gs.base (by decide)) (g.top.bn _ hx).2 (Po.here gs (VR.val v) q)) hd

/-- the arguments, one behind the other -/
noncomputable abbrev TEs (g : G) (C : Fm g) (pos : Pos) (es : List Expr) (Q : List V → St → Prop) (st : St) : Prop := Tr VRs g C (spliced (backTo pos (starEach es C.env))) Q st
noncomputable abbrev TKs (g : G) (C : Fm g) (pos : Pos) (ks : List Keyword) (Q : List V → St → Prop) (st : St) : Prop := Tr VRs g C (evalAll ((backToKw pos (keywordEach ks C.env)).map (·.2))) Q st
section
variable (g : G) (C : Fm g)
noncomputable abbrev kHd (v : V) (Q : List V → St → Prop) : List V → St → Prop := fun vs st => Q (v :: vs) st
noncomputable abbrev kArgs (pos : Pos) (rest : List Expr) (Q : List V → St → Prop) : V → St → Prop := fun v st => TEs g C pos rest (kHd v Q) st
noncomputable abbrev kKws (pos : Pos) (rest : List Keyword) (Q : List V → St → Prop) : V → St → Prop := fun v st => TKs g C pos rest (kHd v Q) st
noncomputable abbrev kSto (l : Loc) (P : V → St → Prop) : V → Sto → Prop := fun v t => P v ⟨l, t⟩
noncomputable abbrev kCall (m : Nat) (f : Value) (P : V → St → Prop) : List V → St → Prop := fun vs st => TC g m f vs [] [] (kSto st.loc P) st.sto
noncomputable abbrev kCalK (m : Nat) (f : Value) (vs : List V) (ks : List Str) (P : V → St → Prop) : List V → St → Prop := fun us st => TC g m f vs ks us (kSto st.loc P) st.sto
noncomputable abbrev kCalA (pos : Pos) (kws : List Keyword) (m : Nat) (f : Value) (ks : List Str) (P : V → St → Prop) : List V → St → Prop := fun vs st => TKs g C pos kws (kCalK g m f vs ks P) st
end
variable {Q : List V → St → Prop} {pos : Pos}
theorem TEs.nil (q : Q [] st) : TEs g C pos [] Q st := fun s gs => args_nil (Po.here gs VRs.nil q)
theorem TEs.cons {e : Expr} {rest : List Expr} (h : TE g C e (kArgs g C pos rest Q) st)
    (he : starEach (e :: rest) C.env = (false, eval e C.env) :: starEach rest C.env := by with_unfolding_all rfl) : TEs g C pos (e :: rest) Q st := fun s gs =>
  args_cons (h.on gs fun v st1 a s1 q r g1 x1 => q.on g1 fun vs st2 as s2 q rs g2 x2 => ⟨v :: vs, st2, .cons (r.mono (SF.tup g1 x2)) rs, g2, Step.trans x1 x2, q⟩) he
theorem TKs.nil (q : Q [] st) : TKs g C pos [] Q st := fun s gs => wpAny_evalAll_nil (Po.here gs VRs.nil q)
theorem TKs.cons {k : Option Str} {e : Expr} {p : Pos} {rest : List Keyword} (h : TE g C e (kKws g C pos rest Q) st) : TKs g C pos (⟨k, e, p⟩ :: rest) Q st := fun s gs => by
  show wpAny g.M C.A (evalAll ((do let v ← eval e C.env; standAt pos; pure v) :: (backToKw pos (keywordEach rest C.env)).map (·.2))) _ _ s
  refine wpAny_evalAll_cons (wpAny_bind (h.on gs fun v st1 a s1 q r g1 x1 => wpAny_bind (wpAny_standAt (wpAny_pure (q.on g1 fun vs st2 as s2 q rs g2 x2 => ?_)))))
  exact ⟨v :: vs, st2, .cons (r.mono (SF.tup g1 x2)) rs, g2, Step.trans x1 x2, q⟩

/-- a call that ends, at the place where it is asked -/
theorem call_of {f : Value} {args : List V} {ks : List Str} {us : List V} {m : Nat} {P : V → St → Prop} {vals kvals : List Value} (gs : GoodF g C st s) (h : TC g m f args ks us (kSto st.loc P) st.sto) (hm : m ≤ C.n)
    (rv : VRs s.heap args vals) (rk : VRs s.heap us kvals) : wpAny g.M C.A (call f vals (ks.zip kvals)) (Po VR g C st s P) noE s := by
  have hd := C.depth
  have hu := C.units
  refine wpAny_call (codeAny_mono (h C.A s vals kvals (by omega) (by omega) C.handled gs.toGoodS rv rk) fun r s' ⟨v, x, sto', e, rx, g', x', q⟩ => ?_)
  subst e
  obtain ⟨g2, x2⟩ := gs.back g' x'
  exact ⟨v, ⟨st.loc, sto'⟩, rx, g2, x2, q⟩

section
variable {P : V → St → Prop} {f : Fn} {id : Str} {p : Pos} {m : Nat}
theorem Fn.there (hf : f ∈ fns) (hlt : f.a ∉ tbls) (gs : GoodF g C st s) : ∃ o fd, s.heap.get? f.a = some o ∧ o.data = .func fd := by
  obtain ⟨o, fd, ho, hdat, _⟩ := g.top.fn f hf
  exact ⟨o, fd, gs.base.keep _ _ ho hlt, hdat⟩
theorem TE.callP {e : Expr} {rest : List Expr} (hf : f ∈ fns) (hx : (id, .ref f.a) ∈ gNames) (hk : C.env.kindOf id = some .globalImplicit) (hlt : f.a ∉ tbls) (hm : m ≤ C.n)
    (h : TEs g C pos (e :: rest) (kCall g m (.ref f.a) P) st) (hd : (id == ("__debug__" : Str)) = false := by decide)
    (he : starEach (e :: rest) C.env = (false, eval e C.env) :: starEach rest C.env := by rfl) : TE g C (.Call (.Name id p) (e :: rest) [] pos) P st := fun s gs => by
  refine wpAny_Call_Name_kw (Calls.Name_function_global C.kind hk (Calls.loadGlobal_global (mg := g.mg) (by rw [C.globals]; exact Ns.base g.top.gl gs.base (by decide)) (g.top.gn _ hx) ?_) hd)
  obtain ⟨o, fd, ho, hdat⟩ := Fn.there hf hlt gs
  refine callWith_function_kw (o := o) (fd := fd) ?_
  have h' := h
  unfold TEs at h'
  rw [he] at h' ⊢
  refine Calls.evalArgs_plain (h'.on gs fun vs st1 as s1 q rs g1 x1 => ⟨⟨?_, hdat⟩, ?_⟩)
  · obtain ⟨oo, ffd, hh, _⟩ := g.top.fn f hf
    have a1 := gs.base.keep _ _ hh hlt
    have a2 := g1.base.keep _ _ hh hlt
    rw [ho] at a1; cases a1
    exact a2
  · exact wpAny_mono (call_of g1 q hm rs VRs.nil) (fun _ _ p => Po.trans x1 p) fun _ _ e => e
theorem TE.callK {e : Expr} {rest : List Expr} {kws : List Keyword} {ks : List Str} (hf : f ∈ fns) (hx : (id, .ref f.a) ∈ gNames) (hk : C.env.kindOf id = some .globalImplicit) (hlt : f.a ∉ tbls) (hm : m ≤ C.n)
    (h : TEs g C pos (e :: rest) (kCalA g C pos kws m (.ref f.a) ks P) st)
    (hks : (backToKw pos (keywordEach kws C.env)).filterMap (·.1) = ks := by rfl) (hall : (backToKw pos (keywordEach kws C.env)).all (·.1.isSome) = true := by rfl) (hd : (id == ("__debug__" : Str)) = false := by decide)
    (he : starEach (e :: rest) C.env = (false, eval e C.env) :: starEach rest C.env := by rfl) : TE g C (.Call (.Name id p) (e :: rest) kws pos) P st := fun s gs => by
  refine wpAny_Call_Name_kw (Calls.Name_function_global C.kind hk (Calls.loadGlobal_global (mg := g.mg) (by rw [C.globals]; exact Ns.base g.top.gl gs.base (by decide)) (g.top.gn _ hx) ?_) hd)
  obtain ⟨o, fd, ho, hdat⟩ := Fn.there hf hlt gs
  refine callWith_function_kw (o := o) (fd := fd) ?_
  have h' := h
  unfold TEs at h'
  rw [he] at h' ⊢
  refine evalArgs_kw hall (h'.on gs fun vs st1 as s1 q rs g1 x1 => q.on g1 fun us st2 bs s2 q2 rk g2 x2 => ⟨⟨?_, hdat⟩, ?_⟩)
  · obtain ⟨oo, ffd, hh, _⟩ := g.top.fn f hf
    have a1 := gs.base.keep _ _ hh hlt
    have a2 := g2.base.keep _ _ hh hlt
    rw [ho] at a1; cases a1
    exact a2
  · rw [hks]
    exact wpAny_mono (call_of g2 q2 hm (rs.mono (SF.tup g1 x2)) rk) (fun _ _ p => Po.trans x1 (Po.trans x2 p)) fun _ _ e => e
end
end
end
section -- P11
noncomputable def put (sto : Sto) (a : Addr) (c : Cell) : Sto := sto.map fun p => if p.1 = a then (a, c) else p
theorem put_keys (sto : Sto) (a : Addr) (c : Cell) : (put sto a c).map (·.1) = sto.map (·.1) := by
  unfold put
  rw [List.map_map]
  refine List.map_congr_left fun p hp => ?_
  show (if p.1 = a then (a, c) else p).1 = p.1
  split
  · rename_i h; exact h.symm
  · rfl
theorem mem_put {sto : Sto} {a : Addr} {c c₀ : Cell} (h : (a, c₀) ∈ sto) : (a, c) ∈ put sto a c := List.mem_map.mpr ⟨_, h, by simp⟩
theorem mem_put_ne {sto : Sto} {a b : Addr} {c d : Cell} (h : (b, d) ∈ sto) (hn : b ≠ a) : (b, d) ∈ put sto a c := List.mem_map.mpr ⟨_, h, by simp [hn]⟩
theorem put_cases {sto : Sto} {a : Addr} {c : Cell} {p : Addr × Cell} (h : p ∈ put sto a c) : p = (a, c) ∨ (p ∈ sto ∧ p.1 ≠ a) := by
  obtain ⟨q, hq, e⟩ := List.mem_map.mp h
  split at e
  · exact .inl e.symm
  · rename_i hn; subst e; exact .inr ⟨hq, hn⟩

section
variable {g : G} {C : Fm g} {st : St} {s s' : Shared}
theorem GoodS.put {sto : Sto} (gs : GoodS g sto s) {a : Addr} {c₀ c : Cell} (hm : (a, c₀) ∈ sto) (hs : Heap.SameBut a s.heap s'.heap) (hc : CellR s'.heap g.H.objs.size a c) (hg : s'.gens = s.gens) (ho : s'.os = s.os) :
    GoodS g (put sto a c) s' ∧ SS g sto (put sto a c) s s' := by
  have hX : XS g sto a := .inl (List.mem_map.mpr ⟨_, hm, rfl⟩)
  have k : TupK s.heap s'.heap := fun b items n e => (hs.2 b fun h => by subst h; exact XS.noTuple gs e hX).trans e
  have old := gs.cells _ hm
  have kn : ∀ d x, s.heap.Ns d (only x) → s'.heap.Ns d (only x) := fun d x n => n.sameBut hs fun h => by
    subst h
    obtain ⟨o, es, ep, e, hd, _⟩ := n
    exact (cell_ne_dict old e).1 _ _ hd
  refine ⟨⟨gs.base.same (gs.new _ hm) hs (tab_lt g), fun p hp => ?_, fun p hp => ?_, by rw [put_keys]; exact gs.nodup, ho.trans gs.os, hg ▸ gs.bare⟩, ?_⟩
  · rcases put_cases hp with rfl | ⟨hp, hne⟩
    · exact hc
    · exact (gs.cells p hp).keep k (fun o e => (hs.2 _ hne).trans e) fun d x n _ => kn d x n
  · rcases put_cases hp with rfl | ⟨hp, hne⟩
    · exact gs.new (a, c₀) hm
    · exact gs.new p hp
  · refine (Step.but hX (fun b o n e => (hs.2 b n).trans e) hg).weaken (fun _ h => h) fun b hb => .inl ?_
    unfold XS at *
    rw [put_keys] at hb; exact hb
theorem GoodF.put (gs : GoodF g C st s) {a : Addr} {c₀ c : Cell} (hm : (a, c₀) ∈ st.sto) (hs : Heap.SameBut a s.heap s'.heap) (hc : CellR s'.heap g.H.objs.size a c) (hg : s'.gens = s.gens) (ho : s'.os = s.os) :
    GoodF g C ⟨st.loc, Mine.put st.sto a c⟩ s' ∧ SF g C st ⟨st.loc, Mine.put st.sto a c⟩ s s' := by
  obtain ⟨a1, a2⟩ := gs.toGoodS.put hm hs hc hg ho
  exact gs.back a1 a2
/-- a new list at the heap's end -/
theorem GoodF.newList (gs : GoodF g C st s) {items : Array Value} {vs : List V} (r : VRs s.heap vs items.toList) (hh : s'.heap = s.heap.push { cls := .type "list", data := .seq items }) (hg : s'.gens = s.gens) (ho : s'.os = s.os) :
    GoodF g C ⟨st.loc, (s.heap.objs.size, .list vs) :: st.sto⟩ s' ∧ SF g C st ⟨st.loc, (s.heap.objs.size, .list vs) :: st.sto⟩ s s' := by
  have hz : s.heap.objs.size ≤ s'.heap.objs.size := by rw [hh, Heap.size_push]; exact Nat.le_succ _
  have hk : ∀ b o, s.heap.get? b = some o → s'.heap.get? b = some o := fun b o e => by rw [hh]; exact Heap.get?_push_of_some _ e
  have g1 := gs.toGoodS.ext hk hg ho
  have hc : CellR s'.heap g.H.objs.size s.heap.objs.size (.list vs) := ⟨items, 0, by rw [hh]; exact Heap.get?_push_size _ rfl, r.mono fun a _ _ e => hk _ _ e⟩
  have hf : ∀ o, s.heap.get? s.heap.objs.size ≠ some o := fun o e => Nat.lt_irrefl _ (Heap.lt_size e)
  exact gs.back (gs.toGoodS.push g1 hf (Nat.le_refl _) hc) (SS.push (SS.ext hk hg) (Nat.le_refl _))
/-- a new thing that is no list: the store is as it was -/
theorem GoodF.newObj (gs : GoodF g C st s) {o : Obj} (hh : s'.heap = s.heap.push o) (hg : s'.gens = s.gens) (ho : s'.os = s.os) : GoodF g C st s' ∧ SF g C st st s s' :=
  gs.ext (fun b o e => by rw [hh]; exact Heap.get?_push_of_some _ e) hg ho

theorem GoodS.fresh {sto : Sto} (gs : GoodS g sto s) : ∀ p ∈ sto, p.1 ≠ s.heap.objs.size := fun p hp e => by
  have := gs.cells p hp
  obtain ⟨q, c⟩ := p
  cases c with
  | list vs => obtain ⟨_, _, e', _⟩ := this; have h1 : q = s.heap.objs.size := e; have h2 := Heap.lt_size e'; simp only at h2; rw [h1] at h2; exact Nat.lt_irrefl _ h2
  | acc iv vs => obtain ⟨_, _, _, _, _, e', _⟩ := this; have h1 : q = s.heap.objs.size := e; have h2 := Heap.lt_size e'; simp only at h2; rw [h1] at h2; exact Nat.lt_irrefl _ h2

variable {Q : V → St → Prop}
noncomputable abbrev kList (Q : V → St → Prop) : List V → St → Prop := fun vs st => vs.length ≤ 1000 ∧ ∀ a, (∀ p ∈ st.sto, p.1 ≠ a) → Q (.ref a) ⟨st.loc, (a, .list vs) :: st.sto⟩
noncomputable abbrev kTup (Q : V → St → Prop) : List V → St → Prop := fun vs st => vs.length ≤ 1000 ∧ Q (.tup vs) st
theorem TE.list {es : List Expr} {pos : Pos} (h : TEs g C pos es (kList Q) st) : TE g C (.List es pos) Q st := fun s gs =>
  List_ (h.on gs fun vs st1 xs s1 ⟨hl, q⟩ r g1 x1 => wpAny_newObj_type (by
    obtain ⟨a1, a2⟩ := g1.newList (s' := { s1 with heap := s1.heap.push { cls := .type "list", data := .seq xs.toArray } }) (items := xs.toArray) (by simpa using r) rfl rfl rfl
    exact ⟨_, _, VR.ref _, a1, Step.trans x1 a2, q _ g1.toGoodS.fresh⟩) (by
      have := r.length
      show xs.toArray.size ≤ sizeLine
      rw [sizeLine_eq, List.size_toArray]; omega))
theorem TE.tuple {es : List Expr} {k : Nat} {pos : Pos} (h : TEs g C pos es (kTup Q) st) : TE g C (.Tuple es k pos) Q st := fun s gs =>
  Tuple_ (h.on gs fun vs st1 xs s1 ⟨hl, q⟩ r g1 x1 => wpAny_newObj_type (by
    obtain ⟨a1, a2⟩ := g1.newObj (s' := { s1 with heap := s1.heap.push { cls := .type "tuple", data := .seq xs.toArray } }) rfl rfl rfl
    refine ⟨.tup vs, st1, VR.tup (Heap.get?_push_size _ rfl) ?_, a1, Step.trans x1 a2, q⟩
    have : VRs (s1.heap.push { cls := .type "tuple", data := .seq xs.toArray }) vs xs := r.mono fun a _ _ e => Heap.get?_push_of_some _ e
    simpa using this) (by
      have := r.length
      show xs.toArray.size ≤ sizeLine
      rw [sizeLine_eq, List.size_toArray]; omega))

/-- the list that lies at a -/
theorem GoodS.at {sto : Sto} (gs : GoodS g sto s) {a : Addr} {vs : List V} (hm : (a, .list vs) ∈ sto) : ∃ items n, IsL s.heap a items n ∧ VRs s.heap vs items.toList := gs.cells _ hm

theorem TO1.lenL {a : Addr} {vs : List V} (hm : (a, .list vs) ∈ st.sto) (hl : vs.length ≤ 1000) (q : Q (.int vs.length) st) : TO1 VR g C (fun x => call (.builtin "len") [x]) (.ref a) Q st := fun s x gs r => by
  cases r
  obtain ⟨items, n, hL, rv⟩ := gs.toGoodS.at hm
  have e : items.size = vs.length := by rw [rv.length]; simp
  refine Calls.call_len_list hL.isList (by omega) ?_
  rw [e]
  exact Po.toks gs _ (VR.int _ _) q
theorem TO1.lenS {x : Str} (hl : x.length ≤ 1000000) (q : Q (.int x.length) st) : TO1 VR g C (fun x => call (.builtin "len") [x]) (.str x) Q st := fun s y gs r => by
  cases r
  exact PySem.P.len_str (by omega) (Po.toks gs _ (VR.int _ _) q)

/-- x[i] -/
theorem TE.sub {o i : Expr} {pos : Pos} (h : TE g C o (kO2 g C (subscriptTail o i) i Q) st) : TE g C (.Subscript o i pos) Q st := fun s gs =>
  Subscript_ (h.on gs fun a st1 x s1 q ra g1 x1 => q.on g1 fun b st2 y s2 q2 rb g2 x2 =>
    wpAny_mono (q2 s2 x y g2 (ra.mono (SF.tup g1 x2)) rb) (fun _ _ p => Po.trans x1 (Po.trans x2 p)) fun _ _ e => e)
theorem tailG {A : Around} {E : Value → Shared → Prop} {s : Shared} {p : Program} {w : World} {value slice : Expr} {o i : Value} {L : List Value} {T id : String} {Q : Value → Shared → Prop} (hT : s.TypeIs o T)
    (hl : typeLookup (.type T) "__getitem__" = pure (some (.builtin id))) (h : wpAny (model p w) A (getItem o i) Q E s)
    (hs : subscripted slice false o i = operate L (getItem o i)) : wpAny (model p w) A (subscriptTail value slice o i) Q E s := by
  unfold subscriptTail
  refine wpAny_bind ?_
  rw [getitemInPython_of_ne hT.not_modules]
  refine wpAny_bind (wpAny_specialOf hT hl ?_)
  have fin : wpAny (model p w) A (subscripted slice false o i) (fun r s₃ => wpAny (model p w) A (letTemporaryGo value o r >>= fun _ => pure r) Q E s₃) E s := by
    rw [hs]
    exact wpAny_operating (wpAny_mono h (fun r s₃ h₃ => wpAny_bind (wpAny_letTemporaryGo (wpAny_pure h₃))) fun _ _ x => x)
  first
    | exact wpAny_pure (wpAny_bind fin)
    | exact wpAny_bind (wpAny_pure (wpAny_bind fin))
    | exact wpAny_bind fin
theorem seqIndex_nat {i n : Nat} (h : i < n) : seqIndex? (i : Int) n = some i := by
  unfold seqIndex?
  rw [if_neg (by omega : ¬ ((i : Int) < 0))]
  first | (rw [if_pos (by omega)]; simp) | (rw [if_neg (by omega)]; simp) | (simp [h]; done) | (simp; omega)
theorem TO2.itemT {o i : Expr} {vs : List V} {j : Int} (k : Nat) {v : V} (hj : j = (k : Nat)) (hv : vs[k]? = some v) (hl : vs.length ≤ 1000) (q : Q v st)
    (hs : ∀ a b, subscripted i false a b = operate [a, b] (getItem a b) := by intro _ _; with_unfolding_all rfl) : TO2 VR g C (subscriptTail o i) (.tup vs) (.int j) Q st := fun s x y gs rx ry => by
  subst hj
  cases ry
  cases rx with
  | tup ho hvs =>
    obtain ⟨z, hz, rz⟩ := hvs.get k v hv
    have hk : k < vs.length := (List.getElem?_eq_some_iff.mp hv).1
    have e := hvs.length
    rename_i u a items n
    have e2 : items.size = vs.length := by rw [e]; simp
    have hT : IsTup s.heap a items := ⟨_, ho, rfl, n, rfl⟩
    exact tailG hT.typeIs slot_tuple_getitem.lookup (getItem_tuple (j := k) (x := z) hT (by omega) (by omega) (by rw [e2]; exact seqIndex_nat hk) (by simpa using hz) (Po.here gs rz q)) (hs _ _)
theorem TO2.itemL {o i : Expr} {a : Addr} {vs : List V} {j : Int} (k : Nat) {v : V} (hj : j = (k : Nat)) (hm : (a, .list vs) ∈ st.sto) (hv : vs[k]? = some v) (hl : vs.length ≤ 1000) (q : Q v st)
    (hs : ∀ a b, subscripted i false a b = operate [a, b] (getItem a b) := by intro _ _; with_unfolding_all rfl) : TO2 VR g C (subscriptTail o i) (.ref a) (.int j) Q st := fun s x y gs rx ry => by
  subst hj
  cases ry; cases rx
  obtain ⟨items, n, hL, rv⟩ := gs.toGoodS.at hm
  obtain ⟨z, hz, rz⟩ := rv.get k v hv
  have hk : k < vs.length := (List.getElem?_eq_some_iff.mp hv).1
  exact tailG hL.isList.typeIs slot_list_getitem.lookup (wpAny_getItem_list hL.isList (by omega) (by omega) (x := z) (by simpa using hz) (Po.here gs rz q)) (hs _ _)
end
end
section -- P12
theorem VRs.take {h : Heap} : ∀ (k : Nat) {vs : List V} {xs : List Value}, VRs h vs xs → VRs h (vs.take k) (xs.take k)
  | 0, _, _, _ => by simpa using VRs.nil
  | k + 1, _, _, .nil => by simpa using VRs.nil
  | k + 1, _, _, .cons a b => by simpa using VRs.cons a (VRs.take k b)
theorem VRs.drop {h : Heap} : ∀ (k : Nat) {vs : List V} {xs : List Value}, VRs h vs xs → VRs h (vs.drop k) (xs.drop k)
  | 0, _, _, r => by simpa using r
  | k + 1, _, _, .nil => by simpa using VRs.nil
  | k + 1, _, _, .cons a b => by simpa using VRs.drop k b
noncomputable def insF (z : Value) (k : Int) (xs : Array Value) : Array Value := have j := if (k : Int) < 0 then ((k : Int) + (xs.size : Int)).toNat else min (k : Int).toNat xs.size; (xs.extract 0 j).push z ++ xs.extract j
theorem notfit {k : Int} (h : Builtin.List.listFitsIndex k = true) : ¬(!Builtin.List.listFitsIndex k) = true := by rw [h]; exact Bool.noConfusion
theorem insert_toList (items : Array Value) (k : Nat) (z : Value) (hk : k ≤ items.size) : (insF z k items).toList = items.toList.take k ++ z :: items.toList.drop k := by
  have e0 : ¬ ((k : Int) < 0) := Int.not_lt.mpr (Int.natCast_nonneg k)
  have e1 : min (k : Int).toNat items.size = k := Nat.min_eq_left hk
  unfold insF
  simp only [e0, if_false, e1]
  simp [Array.toList_extract, List.take_of_length_le]

section
variable {g : G} {C : Fm g} {st : St} {s s' : Shared} {Q : V → St → Prop}
/-- an operation upon the arguments -/
noncomputable def TOL (g : G) (C : Fm g) (f : List Value → Sem Value) (vs : List V) (Q : V → St → Prop) (st : St) : Prop :=
  ∀ s xs, GoodF g C st s → VRs s.heap vs xs → wpAny g.M C.A (f xs) (Po VR g C st s Q) noE s
section
variable (g : G) (C : Fm g)
noncomputable abbrev kOL (f : List Value → Sem Value) (Q : V → St → Prop) : List V → St → Prop := fun vs st => TOL g C f vs Q st
noncomputable abbrev kApp2 (a : Addr) (Q : V → St → Prop) : V → St → Prop := fun u st => ∃ vs, (a, .list vs) ∈ st.sto ∧ vs.length < 1000 ∧ Q .none ⟨st.loc, put st.sto a (.list (vs ++ [u]))⟩
noncomputable abbrev kApp (e : Expr) (Q : V → St → Prop) : V → St → Prop := fun v st => ∃ a vs0, v = .ref a ∧ (a, .list vs0) ∈ st.sto ∧ TE g C e (kApp2 a Q) st
noncomputable abbrev kIns3 (a : Addr) (w : V) (Q : V → St → Prop) : V → St → Prop := fun u st => ∃ vs k, w = .int (k : Nat) ∧ k ≤ vs.length ∧ (a, .list vs) ∈ st.sto ∧ vs.length < 1000 ∧ Q .none ⟨st.loc, put st.sto a (.list (vs.take k ++ u :: vs.drop k))⟩
noncomputable abbrev kIns2 (a : Addr) (e : Expr) (Q : V → St → Prop) : V → St → Prop := fun w st => TE g C e (kIns3 a w Q) st
noncomputable abbrev kIns (i e : Expr) (Q : V → St → Prop) : V → St → Prop := fun v st => ∃ a vs0, v = .ref a ∧ (a, .list vs0) ∈ st.sto ∧ TE g C i (kIns2 g C a e Q) st
end
theorem kApp2.it {a : Addr} {u : V} {Q : V → St → Prop} {st : St} (vs : List V) (h : (a, .list vs) ∈ st.sto) (hl : vs.length < 1000) (q : Q .none ⟨st.loc, put st.sto a (.list (vs ++ [u]))⟩) : kApp2 a Q u st := ⟨vs, h, hl, q⟩
theorem kApp.it {g : G} {C : Fm g} {e : Expr} {a : Addr} {vs : List V} {Q : V → St → Prop} {st : St} (h : (a, .list vs) ∈ st.sto) (k : TE g C e (kApp2 a Q) st) : kApp g C e Q (.ref a) st := ⟨a, vs, rfl, h, k⟩
theorem TOL.one {f : List Value → Sem Value} {v : V} (h : TO1 VR g C (fun x => f [x]) v Q st) : TOL g C f [v] Q st := fun s xs gs r => by
  cases r with
  | cons a b => cases b; exact h s _ gs a
/-- a built-in function, by its name -/
theorem TE.callB {id : Str} {bid : String} {p pos : Pos} {e : Expr} {rest : List Expr} (hx : (id, .builtin bid) ∈ bNames) (hk : C.env.kindOf id = some .globalImplicit)
    (h : TEs g C pos (e :: rest) (kOL g C (fun xs => call (.builtin bid) xs) Q) st) (hd : (id == ("__debug__" : Str)) = false := by decide)
    (he : starEach (e :: rest) C.env = (false, eval e C.env) :: starEach rest C.env := by rfl) (hp : (backTo pos (starEach (e :: rest) C.env)).any (·.1) = false := by rfl) :
    TE g C (.Call (.Name id p) (e :: rest) [] pos) Q st := fun s gs => by
  refine wpAny_Call_Name_kw (Calls.Name_function_global C.kind hk (Calls.loadGlobal_builtin (mg := g.mg) (mb := g.mb) (by rw [C.globals]; exact Ns.base g.top.gl gs.base (by decide)) (g.top.bn _ hx).1
    (by rw [C.builtins]; exact Ns.base g.top.bl gs.base (by decide)) (g.top.bn _ hx).2 ?_) hd)
  refine Calls.callWith_builtin hp ?_
  have h' := h
  unfold TEs at h'
  rw [he] at h' ⊢
  exact Calls.evalArgs_plain (h'.on gs fun vs st1 as s1 q rs g1 x1 => wpAny_mono (q s1 as g1 rs) (fun _ _ p => Po.trans x1 p) fun _ _ e => e)
/-- a type called by its name -/
theorem callWith_type {M : Model} {A : Around} {E : Value → Shared → Prop} {pos : Pos} {T : String} {args : List (Bool × Sem Value)} {P : Value → Shared → Prop} (hplain : args.any (·.1) = false)
    (h : wpAny M A (evalArgs (.type T) true args []) (fun a s₁ => wpAny M A (call (.type T) a.pos a.kw) P E s₁) E s) : wpAny M A (callWith pos (.type T) [] args []) P E s := by
  unfold callWith
  refine wpAny_bind (wpAny_holding (wpAny_mono h (fun a s₁ h₁ => wpAny_bind (wpAny_standAt ?_)) fun _ _ x => x))
  rw [hplain]
  refine wpAny_bind (wpAny_pure ?_)
  exact wpAny_bind (wpAny_mono h₁ (fun r s₂ hr => wpAny_bind (wpAny_holding (wpAny_point (wpAny_pure hr)))) fun _ _ x => x)
theorem TE.callT {id : Str} {T : String} {p pos : Pos} {e : Expr} {rest : List Expr} (hx : (id, .type T) ∈ bNames) (hk : C.env.kindOf id = some .globalImplicit)
    (h : TEs g C pos (e :: rest) (kOL g C (fun xs => call (.type T) xs) Q) st) (hd : (id == ("__debug__" : Str)) = false := by decide)
    (he : starEach (e :: rest) C.env = (false, eval e C.env) :: starEach rest C.env := by rfl) (hp : (backTo pos (starEach (e :: rest) C.env)).any (·.1) = false := by rfl) :
    TE g C (.Call (.Name id p) (e :: rest) [] pos) Q st := fun s gs => by
  refine wpAny_Call_Name_kw (Calls.Name_function_global C.kind hk (Calls.loadGlobal_builtin (mg := g.mg) (mb := g.mb) (by rw [C.globals]; exact Ns.base g.top.gl gs.base (by decide)) (g.top.bn _ hx).1
    (by rw [C.builtins]; exact Ns.base g.top.bl gs.base (by decide)) (g.top.bn _ hx).2 ?_) hd)
  refine callWith_type hp ?_
  have h' := h
  unfold TEs at h'
  rw [he] at h' ⊢
  exact Calls.evalArgs_plain (h'.on gs fun vs st1 as s1 q rs g1 x1 => wpAny_mono (q s1 as g1 rs) (fun _ _ p => Po.trans x1 p) fun _ _ e => e)

/-- a list's own method: the list, then the arguments, then what it does -/
theorem TE.append {o e : Expr} {ap pos : Pos} (h : TE g C o (kApp g C e Q) st)
    (hbase : attributeBase o "append" C.env (eval o C.env) = eval o C.env := by rfl) (hline : (ap.endLine == pos.line) = true := by rfl) (htrees : backTo pos (starEach [e] C.env) = [(false, eval e C.env)] := by rfl) :
    TE g C (.Call (.Attribute o "append" ap) [e] [] pos) Q st := fun s gs =>
  wpAny_Call_method1_late hbase hline htrees (h.on gs fun v st1 x s1 q r g1 x1 => by
    obtain ⟨a, vs0, rfl, hm, q⟩ := q
    cases r
    obtain ⟨items, n, hL, _⟩ := g1.toGoodS.at hm
    refine ⟨"list", "list.append", PySem.F.plainAttrs_list, PySem.F.slot_list_append, PySem.F.type_list_append, ⟨_, hL, rfl⟩, fun b e => by cases e; exact ⟨_, hL, rfl⟩, ?_⟩
    refine PySem.P.append_list (q.on g1 fun u st2 y s2 q2 r2 g2 x2 => ?_)
    obtain ⟨vs, hm2, hlen, q2⟩ := q2
    obtain ⟨items, n, hL, rv⟩ := g2.toGoodS.at hm2
    have e : items.size = vs.length := by rw [rv.length]; simp
    refine ⟨items, n, by rw [sizeLine_eq]; omega, hL, ?_⟩
    have hs : Heap.SameBut a s2.heap (s2.heap.update a (Obj.mapSeq fun xs => xs.push y)) := Heap.SameBut.update ..
    have k : TupK s2.heap (s2.heap.update a (Obj.mapSeq fun xs => xs.push y)) := fun b its m e => (hs.2 b fun h => by subst h; rw [hL] at e; simp at e).trans e
    obtain ⟨a1, a2⟩ := g2.put (s' := { s2 with heap := s2.heap.update a (Obj.mapSeq fun xs => xs.push y) }) (c := .list (vs ++ [u])) hm2 hs
      ⟨items.push y, _, hL.update _, by simpa using (rv.mono k).snoc (r2.mono k)⟩ rfl rfl
    exact ⟨.none, _, VR.none, a1, Step.trans x1 (Step.trans x2 a2), q2⟩)

theorem TE.insert {o i e : Expr} {ap pos : Pos} (h : TE g C o (kIns g C i e Q) st)
    (hbase : attributeBase o "insert" C.env (eval o C.env) = eval o C.env := by rfl) (hline : (ap.endLine == pos.line) = true := by rfl) (htrees : backTo pos (starEach [i, e] C.env) = [(false, eval i C.env), (false, eval e C.env)] := by rfl) :
    TE g C (.Call (.Attribute o "insert" ap) [i, e] [] pos) Q st := fun s gs =>
  wpAny_Call_method2_late hbase hline htrees (h.on gs fun v st1 x s1 q r g1 x1 => by
    obtain ⟨a, vs0, rfl, hm, q⟩ := q
    cases r
    obtain ⟨items, n, hL, _⟩ := g1.toGoodS.at hm
    refine ⟨"list", "list.insert", PySem.F.plainAttrs_list, PySem.F.slot_list_insert, PySem.F.type_list_insert, ⟨_, hL, rfl⟩, fun b e => by cases e; exact ⟨_, hL, rfl⟩, ?_⟩
    refine method_meets PySem.F.slot_list_insert PySem.F.entry_list_insert rfl (Calls.evalArgs_plain (Calls.spliced_cons (q.on g1 fun w st2 y s2 q2 r2 g2 x2 => Calls.spliced_cons (q2.on g2 fun u st3 z s3 q3 r3 g3 x3 => Calls.spliced_nil ?_))))
    obtain ⟨vs, k, rfl, hk, hm3, hlen, q3⟩ := q3
    rcases r2 with _ | _ | ⟨_, t⟩
    obtain ⟨items, n, hL, rv⟩ := g3.toGoodS.at hm3
    have e : items.size = vs.length := by rw [rv.length]; simp
    have hsz : items.size ≤ sizeLine := by rw [sizeLine_eq]; omega
    have h1 : (k : Int) < 1000 := by omega
    have hfit : Builtin.List.listFitsIndex (k : Int) = true := fitsIndex_of (Int.natCast_nonneg k) (Int.lt_trans h1 (by decide))
    have M := @PySem.AutoSeq1.list_insert_list_int_val_1 a items n (k : Int) t z (notfit hfit) hsz
    refine ⟨rfl, ⟨_, hL, rfl⟩, PySem.F.args_list_insert_3 _ _ _, ?_⟩
    generalize Builtin.«list.insert» = B at M ⊢
    refine ⟨_, M, ?_⟩
    refine ⟨hL, ?_⟩
    have hs : Heap.SameBut a s3.heap (s3.heap.update a (Obj.mapSeq (insF z k))) := Heap.SameBut.update ..
    have kk : TupK s3.heap (s3.heap.update a (Obj.mapSeq (insF z k))) := fun b its m e => (hs.2 b fun h => by subst h; rw [hL] at e; simp at e).trans e
    obtain ⟨a1, a2⟩ := g3.put (s' := { s3 with heap := s3.heap.update a (Obj.mapSeq (insF z k)) }) (c := .list (vs.take k ++ u :: vs.drop k)) hm3 hs
      ⟨insF z k items, _, hL.update _, by
        rw [insert_toList items k z (by omega)]
        exact ((rv.mono kk).take k).append (.cons (r3.mono kk |> fun r => r) ((rv.mono kk).drop k))⟩ rfl rfl
    exact ⟨.none, _, VR.none, a1, Step.trans x1 (Step.trans x2 (Step.trans x3 a2)), q3⟩)
end
end
section -- P13
open PySem PyProof.Rows PySem.SeqAt

noncomputable def b2 (b : Bool) : Int := if b then 1 else 0
mutual
/-- ==, where it is plain -/
noncomputable def eqv (v w : V) : Option Bool := match v with
  | .none => (match w with | .none => some true | _ => none)
  | .bool a => (match w with | .bool b => some (a == b) | .int b => some (b2 a == b) | _ => none)
  | .int a => (match w with | .int b => some (a == b) | .bool b => some (a == b2 b) | _ => none)
  | .str a => (match w with | .str b => some (a == b) | _ => none)
  | .tup a => (match w with | .tup b => eqvs a b | _ => none)
  | _ => none
noncomputable def eqvs : List V → List V → Option Bool
  | [], [] => some true
  | a :: as, b :: bs => match eqv a b, eqvs as bs with
    | some x, some y => some (x && y)
    | _, _ => none
  | _, _ => none
end
theorem eqv_no {v w : V} {b : Bool} {P : Prop} (h : eqv v w = none) (e : eqv v w = some b) : P := by rw [h] at e; cases e
theorem eqv_yes {v w : V} {b c : Bool} (h : eqv v w = some c) (e : eqv v w = some b) : c = b := Option.some.inj (h.symm.trans e)
theorem eqvs_both {a b : V} {as bs : List V} {x y : Bool} (h1 : eqv a b = some x) (h2 : eqvs as bs = some y) : eqvs (a :: as) (b :: bs) = some (x && y) := by
  show (match eqv a b, eqvs as bs with | some x, some y => some (x && y) | _, _ => none) = _
  rw [h1, h2]
theorem eqv_ii (i : Int) : eqv (.int i) (.int i) = some true := by show some (i == i) = _; rw [beq_self_eq_true]
theorem eqv_bb (b : Bool) : eqv (.bool b) (.bool b) = some true := by show some (b == b) = _; rw [beq_self_eq_true]
theorem eqv_ss (x : Str) : eqv (.str x) (.str x) = some true := by show some (x == x) = _; rw [beq_self_eq_true]
theorem eqvs_nil : eqvs [] [] = some true := rfl
theorem eqvs_same {α : Type} {e : α → V} (h : ∀ a, eqv (e a) (e a) = some true) (l : List α) : eqvs (l.map e) (l.map e) = some true := by
  induction l with
  | nil => rfl
  | cons a l ih => exact eqvs_both (h a) ih
theorem eqvs_cons {a b : V} {as bs : List V} {k : Bool} (e : eqvs (a :: as) (b :: bs) = some k) : ∃ x y, eqv a b = some x ∧ eqvs as bs = some y ∧ (x && y) = k := by
  have e : (match eqv a b, eqvs as bs with | some x, some y => some (x && y) | _, _ => none) = some k := e
  cases h1 : eqv a b with
  | none => rw [h1] at e; cases e
  | some x =>
    rw [h1] at e
    cases h2 : eqvs as bs with
    | none => rw [h2] at e; cases e
    | some y => rw [h2] at e; cases e; exact ⟨x, y, rfl, rfl, rfl⟩
/-- == of two lists of values, one by one -/
theorem all_range_cons {n : Nat} {e : Nat → Bool} : (List.range (n + 1)).all e = (e 0 && (List.range n).all fun i => e (i + 1)) := by
  rw [List.range_succ_eq_map, List.all_cons, List.all_map]; rfl

noncomputable def EqOf (u : Nat) (s : Shared) (y x : Value) (b : Bool) : Prop := ∀ A : Around, A.units + u ≤ cLine → EqAt A s y x b
noncomputable def RcOf (u : Nat) (s : Shared) (y x : Value) (b : Bool) : Prop := ∀ A : Around, A.units + u ≤ cLine → RcAt A s y x b ∧ RcNeAt A s y x (!b)

/-- the depth of the tuples -/
theorem EqOf.mono {u v : Nat} {s : Shared} {y x : Value} {b : Bool} (h : EqOf u s y x b) (hu : u ≤ v) : EqOf v s y x b := fun A hA => h A (by omega)

inductive EqL (u : Nat) (s : Shared) : List Value → List Value → Bool → Prop
  | nil : EqL u s [] [] true
  | cons {x y : Value} {xs ys : List Value} {a b : Bool} : EqOf u s x y a → EqL u s xs ys b → EqL u s (x :: xs) (y :: ys) (a && b)
theorem EqL.length {u : Nat} {s : Shared} {xs ys : List Value} {b : Bool} (h : EqL u s xs ys b) : xs.length = ys.length := by
  induction h with
  | nil => rfl
  | cons _ _ ih => exact congrArg Nat.succ ih
theorem EqL.fn {u : Nat} {s : Shared} {xs ys : List Value} {b : Bool} (h : EqL u s xs ys b) : ∃ e : Nat → Bool, (∀ (j : Nat) (h1 : j < xs.length) (h2 : j < ys.length), EqOf u s xs[j] ys[j] (e j)) ∧ (List.range xs.length).all e = b := by
  induction h with
  | nil => exact ⟨fun _ => true, fun j h => absurd h (Nat.not_lt_zero _), rfl⟩
  | @cons _ _ _ _ a _ h r ih =>
    obtain ⟨e, he, hb⟩ := ih
    refine ⟨Nat.rec a fun j _ => e j, fun j h1 h2 => ?_, ?_⟩
    · cases j with
      | zero => exact h
      | succ j => exact he j (Nat.lt_of_succ_lt_succ h1) (Nat.lt_of_succ_lt_succ h2)
    · rw [List.length_cons, all_range_cons, hb]; rfl
theorem EqL.up {u v : Nat} {s : Shared} {xs ys : List Value} {k : Bool} (huv : u ≤ v) (h : EqL u s xs ys k) : EqL v s xs ys k := by
  induction h with
  | nil => exact .nil
  | cons h _ ih => exact .cons (h.mono huv) ih
theorem rc_lists {u : Nat} {s : Shared} {l b : Addr} {items items2 : Array Value} {k : Bool} (hl : s.heap.IsList l items) (hb : s.heap.IsList b items2) (h : EqL u s items.toList items2.toList k) : RcOf (u + 2) s (.ref l) (.ref b) k := fun A hA => by
  obtain ⟨e, he, hk⟩ := h.fn
  have hsz : items.size = items2.size := by simpa using h.length
  have hu : A.units < cLine := by omega
  have hh : ∀ j (h1 : j < items.size) (h2 : j < items2.size), EqAt A.in1 s items[j] items2[j] (e j) := fun j h1 h2 => by
    have := he j (by simpa using h1) (by simpa using h2) A.in1 (by show A.units + 1 + u ≤ cLine; omega)
    simpa using this
  have e1 : (List.range items.size).all e = k := by rw [← hk]; simp
  exact ⟨by have := RcAt.lists hl hb hsz hu hh; rwa [e1] at this, by have := RcNeAt.lists hl hb hsz hu hh; rwa [e1] at this⟩
theorem rc_tuples {u : Nat} {s : Shared} {l b : Addr} {items items2 : Array Value} {k : Bool} (hl : s.heap.IsTuple l items) (hb : s.heap.IsTuple b items2) (h : EqL u s items.toList items2.toList k) : RcOf (u + 2) s (.ref l) (.ref b) k := fun A hA => by
  obtain ⟨e, he, hk⟩ := h.fn
  have hsz : items.size = items2.size := by simpa using h.length
  have hu : A.units < cLine := by omega
  have hh : ∀ j (h1 : j < items.size) (h2 : j < items2.size), EqAt A.in1 s items[j] items2[j] (e j) := fun j h1 h2 => by
    have := he j (by simpa using h1) (by simpa using h2) A.in1 (by show A.units + 1 + u ≤ cLine; omega)
    simpa using this
  have e1 : ((List.range (min items.size items2.size)).all e && items.size == items2.size) = k := by rw [← hk, ← hsz]; simp
  exact ⟨by have := RcAt.tuples hl hb hu hh; rwa [e1] at this, by have := RcNeAt.tuples hl hb hu hh; rwa [e1] at this⟩

mutual
noncomputable def deep : V → Nat
  | .tup vs => deeps vs + 2
  | _ => 0
noncomputable def deeps : List V → Nat
  | [] => 0
  | v :: vs => max (deep v) (deeps vs)
end
theorem deep_le {u : V} {vs : List V} (h : u ∈ vs) : deep u ≤ deeps vs := by
  induction vs with
  | nil => cases h
  | cons v vs ih =>
    rcases List.mem_cons.mp h with rfl | h
    · exact Nat.le_max_left _ _
    · exact Nat.le_trans (ih h) (Nat.le_max_right _ _)
noncomputable def AtV (s : Shared) (v : V) : Prop := ∀ (w : V) (x y : Value) (b : Bool), VR s.heap v x → VR s.heap w y → eqv v w = some b → (x = y → b = true) ∧ EqOf (deep v) s x y b ∧ RcOf (deep v) s x y b
noncomputable def AtVs (s : Shared) (vs : List V) : Prop := ∀ (ws : List V) (xs ys : List Value) (b : Bool), VRs s.heap vs xs → VRs s.heap ws ys → eqvs vs ws = some b → (xs = ys → b = true) ∧ EqL (deeps vs) s xs ys b
theorem AtVs.of {s : Shared} {vs : List V} (h : ∀ v ∈ vs, AtV s v) : AtVs s vs := by
  induction vs with
  | nil =>
    intro ws xs ys b r1 r2 e
    cases r1
    cases r2 with
    | nil =>
      obtain rfl : true = b := Option.some.inj e
      exact ⟨fun _ => rfl, .nil⟩
    | cons _ _ => cases (show (none : Option Bool) = some _ from e)
  | cons v vs ih =>
    intro ws xs ys b r1 r2 e
    cases r1 with | cons a b =>
    cases r2 with
    | nil => cases (show (none : Option Bool) = some _ from e)
    | cons c d =>
      obtain ⟨x, y, h1, h2, rfl⟩ := eqvs_cons e
      obtain ⟨i1, i2, _⟩ := h v List.mem_cons_self _ _ _ _ a c h1
      obtain ⟨j1, j2⟩ := ih (fun u hu => h u (List.mem_cons_of_mem _ hu)) _ _ _ _ b d h2
      refine ⟨fun q => ?_, .cons (i2.mono (Nat.le_max_left _ _)) (j2.up (Nat.le_max_right _ _))⟩
      rw [i1 (List.cons.inj q).1, j1 (List.cons.inj q).2]; rfl
theorem AtV.of {s : Shared} {v : V} (h : ∀ vs, v = .tup vs → AtVs s vs) : AtV s v := fun w x y b rv r e => by
  cases rv with
  | none =>
    cases r with
    | none =>
      obtain rfl := eqv_yes (c := true) rfl e
      exact ⟨fun _ => rfl, fun A _ => .same _, fun A _ => ⟨.none_none, .none_none⟩⟩
    | _ => exact eqv_no rfl e
  | bool a =>
    cases r with
    | bool b =>
      obtain rfl := eqv_yes (c := (a == b)) rfl e
      exact ⟨fun q => by cases q; exact beq_self_eq_true _, fun A _ => .bool_bool _ _, fun A _ => ⟨.bool_bool _ _, .bool_bool _ _⟩⟩
    | int b _ =>
      obtain rfl := eqv_yes (c := (b2 a == b)) rfl e
      exact ⟨nofun, fun A _ => .bool_int _ _ _, fun A _ => ⟨.bool_int _ _ _, .bool_int _ _ _⟩⟩
    | _ => exact eqv_no rfl e
  | int a =>
    cases r with
    | int b _ =>
      obtain rfl := eqv_yes (c := (a == b)) rfl e
      exact ⟨fun q => by cases q; exact beq_self_eq_true _, fun A _ => .int_int _ _ _ _, fun A _ => ⟨.int_int _ _ _ _, .int_int _ _ _ _⟩⟩
    | bool b =>
      obtain rfl := eqv_yes (c := (a == b2 b)) rfl e
      exact ⟨nofun, fun A _ => .int_bool _ _ _, fun A _ => ⟨.int_bool _ _ _, .int_bool _ _ _⟩⟩
    | _ => exact eqv_no rfl e
  | str a =>
    cases r with
    | str b _ =>
      obtain rfl := eqv_yes (c := (a == b)) rfl e
      exact ⟨fun q => by cases q; exact beq_self_eq_true _, fun A _ => .str_str _ _ _ _, fun A _ => ⟨.str_str _ _ _ _, .str_str _ _ _ _⟩⟩
    | _ => exact eqv_no rfl e
  | @tup l vs xs n a b =>
    cases r with
    | @tup m ws ys k c d =>
      obtain ⟨L1, L⟩ := h _ rfl _ _ _ _ b d e
      have R := rc_tuples (s := s) ⟨_, a, rfl, _, rfl⟩ ⟨_, c, rfl, _, rfl⟩ L
      have same : l = m → _ := fun q => L1 (by subst q; rw [a] at c; cases c; rfl)
      refine ⟨fun q => same (by cases q; rfl), fun A hA => ?_, R⟩
      by_cases hlm : l = m
      · rw [same hlm, hlm]; exact .same _
      · exact .of_refs hlm (R A hA).1
    | _ => exact eqv_no rfl e
  | _ => exact eqv_no rfl e
theorem AtV.all {s : Shared} (n : Nat) : ∀ v, deep v ≤ n → AtV s v := by
  induction n with
  | zero => exact fun v hv => AtV.of fun vs e => by subst e; cases hv
  | succ n ih =>
    refine fun v hv => AtV.of fun vs e => AtVs.of fun u hu => ih u ?_
    subst e
    exact Nat.le_trans (deep_le hu) (Nat.le_trans (Nat.le_succ _) (Nat.le_of_succ_le_succ hv))
theorem eqv.at {s : Shared} {v w : V} {x y : Value} {b : Bool} (h1 : VR s.heap v x) (h2 : VR s.heap w y) (e : eqv v w = some b) : EqOf (deep v) s x y b ∧ RcOf (deep v) s x y b :=
  (AtV.all _ v (Nat.le_refl _) _ _ _ _ h1 h2 e).2
theorem eqvs.at {s : Shared} {vs ws : List V} {xs ys : List Value} {b : Bool} (h1 : VRs s.heap vs xs) (h2 : VRs s.heap ws ys) (e : eqvs vs ws = some b) : EqL (deeps vs) s xs ys b :=
  (AtVs.of (fun v _ => AtV.all _ v (Nat.le_refl _)) _ _ _ _ h1 h2 e).2
end
section -- P14
open PySem PyProof.Rows PySem.SeqAt

theorem deeps_le {n : Nat} {vs : List V} (h : ∀ v ∈ vs, deep v ≤ n) : deeps vs ≤ n := by
  induction vs with
  | nil => exact Nat.zero_le _
  | cons v vs ih => exact Nat.max_le.mpr ⟨h v List.mem_cons_self, ih fun w hw => h w (List.mem_cons_of_mem _ hw)⟩

section
variable {g : G} {C : Fm g} {Q : V → St → Prop} {st : St}
theorem room (C : Fm g) : C.A.units + 900 ≤ cLine := by
  have := C.units
  have : cLine = 9900 := rfl
  omega
/-- == and != of plain values -/
theorem TO2.eqv {v w : V} {b : Bool} (h : eqv v w = some b) (q : Q (.bool b) st) (hd : deep v ≤ 800 := by decide) : TO2 VR g C (compareOp .Eq) v w Q st := fun s x y gs rx ry =>
  ((Mine.eqv.at rx ry h).2 C.A (by have := room C; omega)).1 pr g.w _ _ (Po.here gs (VR.bool _) q)
theorem TO2.nev {v w : V} {b : Bool} (h : Mine.eqv v w = some b) (q : Q (.bool (!b)) st) (hd : deep v ≤ 800 := by decide) : TO2 VR g C (compareOp .NotEq) v w Q st := fun s x y gs rx ry =>
  ((Mine.eqv.at rx ry h).2 C.A (by have := room C; omega)).2 pr g.w _ _ (Po.here gs (VR.bool _) q)

/-- == of what lies in two lists: plain, or lists themselves -/
inductive EqS (sto : Sto) : V → V → Bool → Prop
  | v {v w : V} {b : Bool} : Mine.eqv v w = some b → deep v ≤ 800 → EqS sto v w b
  | l {a b : Addr} {vs ws : List V} {k : Bool} : (a, .list vs) ∈ sto → (b, .list ws) ∈ sto → a ≠ b → eqvs vs ws = some k → deeps vs ≤ 700 → EqS sto (.ref a) (.ref b) k
  | ln {a b : Addr} {vs ws : List V} : (a, .list vs) ∈ sto → (b, .list ws) ∈ sto → a ≠ b → vs.length ≠ ws.length → EqS sto (.ref a) (.ref b) false
inductive EqSs (sto : Sto) : List V → List V → Bool → Prop
  | nil : EqSs sto [] [] true
  | cons {v w : V} {vs ws : List V} {a b : Bool} : EqS sto v w a → EqSs sto vs ws b → EqSs sto (v :: vs) (w :: ws) (a && b)
theorem EqSs.of {sto : Sto} {vs ws : List V} {k : Bool} (h : eqvs vs ws = some k) (hd : ∀ v ∈ vs, deep v ≤ 800) : EqSs sto vs ws k := by
  induction vs generalizing ws k with
  | nil =>
    cases ws with
    | nil => cases Option.some.inj (show some true = some k from h); exact .nil
    | cons _ _ => cases (show (none : Option Bool) = some k from h)
  | cons v vs ih =>
    cases ws with
    | nil => cases (show (none : Option Bool) = some k from h)
    | cons w ws =>
      obtain ⟨x, y, h1, h2, rfl⟩ := eqvs_cons h
      exact .cons (.v h1 (hd _ List.mem_cons_self)) (ih h2 fun v hv => hd v (List.mem_cons_of_mem _ hv))
theorem IsLL {sto : Sto} {s : Shared} (gs : GoodS g sto s) {a : Addr} {vs : List V} (h : (a, .list vs) ∈ sto) : ∃ items, s.heap.IsList a items ∧ VRs s.heap vs items.toList :=
  let ⟨items, n, e, r⟩ := gs.cells _ h; ⟨items, ⟨_, e, rfl, n, rfl⟩, r⟩
theorem EqS.at {sto : Sto} {s : Shared} (gs : GoodS g sto s) {v w : V} {b : Bool} (h : EqS sto v w b) {x y : Value} (rx : VR s.heap v x) (ry : VR s.heap w y) : EqOf 802 s x y b := by
  cases h with
  | v h hd => exact (Mine.eqv.at rx ry h).1.mono (by omega)
  | l h1 h2 hne h hd =>
    cases rx; cases ry
    obtain ⟨i1, l1, r1⟩ := IsLL gs h1
    obtain ⟨i2, l2, r2⟩ := IsLL gs h2
    exact fun A hA => .of_refs hne (rc_lists l1 l2 (eqvs.at r1 r2 h) A (by omega)).1
  | ln h1 h2 hne h =>
    cases rx; cases ry
    obtain ⟨i1, l1, r1⟩ := IsLL gs h1
    obtain ⟨i2, l2, r2⟩ := IsLL gs h2
    have e1 := r1.length
    have e2 := r2.length
    exact fun A hA => .of_refs hne (RcAt.lists_lengths l1 l2 (by simp at e1 e2; simp; omega) (by omega))
theorem EqSs.at {sto : Sto} {s : Shared} (gs : GoodS g sto s) {vs ws : List V} {b : Bool} (h : EqSs sto vs ws b) {xs ys : List Value} (r1 : VRs s.heap vs xs) (r2 : VRs s.heap ws ys) : EqL 802 s xs ys b := by
  induction h generalizing xs ys with
  | nil => cases r1; cases r2; exact .nil
  | cons h _ ih =>
    obtain ⟨_, _, rfl, a, b⟩ := r1.consI
    obtain ⟨_, _, rfl, c, d⟩ := r2.consI
    exact .cons (h.at gs a c) (ih b d)
theorem TO2.eqL {a b : Addr} {vs ws : List V} {k : Bool} (h1 : (a, .list vs) ∈ st.sto) (h2 : (b, .list ws) ∈ st.sto) (h : EqSs st.sto vs ws k) (q : Q (.bool k) st) : TO2 VR g C (compareOp .Eq) (.ref a) (.ref b) Q st := fun s x y gs rx ry => by
  cases rx; cases ry
  obtain ⟨i1, l1, r1⟩ := IsLL gs.toGoodS h1
  obtain ⟨i2, l2, r2⟩ := IsLL gs.toGoodS h2
  exact (rc_lists l1 l2 (h.at gs.toGoodS r1 r2) C.A (by have := room C; omega)).1 pr g.w _ _ (Po.here gs (VR.bool _) q)
theorem TO2.neL {a b : Addr} {vs ws : List V} {k : Bool} (h1 : (a, .list vs) ∈ st.sto) (h2 : (b, .list ws) ∈ st.sto) (h : EqSs st.sto vs ws k) (q : Q (.bool (!k)) st) : TO2 VR g C (compareOp .NotEq) (.ref a) (.ref b) Q st := fun s x y gs rx ry => by
  cases rx; cases ry
  obtain ⟨i1, l1, r1⟩ := IsLL gs.toGoodS h1
  obtain ⟨i2, l2, r2⟩ := IsLL gs.toGoodS h2
  exact (rc_lists l1 l2 (h.at gs.toGoodS r1 r2) C.A (by have := room C; omega)).2 pr g.w _ _ (Po.here gs (VR.bool _) q)
theorem TO2.eqLn {a b : Addr} {vs ws : List V} (h1 : (a, .list vs) ∈ st.sto) (h2 : (b, .list ws) ∈ st.sto) (h : vs.length ≠ ws.length) (q : Q (.bool false) st) : TO2 VR g C (compareOp .Eq) (.ref a) (.ref b) Q st := fun s x y gs rx ry => by
  cases rx; cases ry
  obtain ⟨i1, l1, r1⟩ := IsLL gs.toGoodS h1
  obtain ⟨i2, l2, r2⟩ := IsLL gs.toGoodS h2
  have e1 := r1.length
  have e2 := r2.length
  exact RcAt.lists_lengths l1 l2 (by simp at e1 e2; simp; omega) (by have := room C; omega) pr g.w _ _ (Po.here gs (VR.bool _) q)
/-- < where it is plain -/
noncomputable def ltv (v w : V) : Option Bool := match v with
  | .int a => (match w with | .int b => some (decide (a < b)) | .bool b => some (decide (a < b2 b)) | _ => none)
  | .bool a => (match w with | .int b => some (decide (b2 a < b)) | .bool b => some (decide (b2 a < b2 b)) | _ => none)
  | .str a => (match w with | .str b => some (decide (a.cps.toList < b.cps.toList)) | _ => none)
  | _ => none
theorem gives_lt_bi (b : Bool) (i : Int) (t : Tok) : Gives (Builtin.«int.__lt__» ⟨[.bool b, .int i t], []⟩) (.val (.bool (decide (b2 b < i)))) := by cases b <;> exact .of_eq rfl
theorem gives_gt_bi (b : Bool) (i : Int) (t : Tok) : Gives (Builtin.«int.__gt__» ⟨[.bool b, .int i t], []⟩) (.val (.bool (decide (i < b2 b)))) := by cases b <;> exact .of_eq rfl
theorem rc_lt_bi {p : Program} {w : World} {A : Around} {E : Value → Shared → Prop} {s : Shared} {Q : Value → Shared → Prop} (a : Bool) (i : Int) (t : Tok) (h : Q (.bool (decide (b2 a < i))) s) : wpAny (model p w) A (richCompare .Lt (.bool a) (.int i t)) Q E s := by
  refine rc_left_or (Ta := "bool") (Tb := "int") rfl (typeIs_int s _ _) (by decide) F.sub_int_bool F.slot_bool_lt ?_ (.inl rfl)
  exact call_gives F.slot_bool_lt rfl F.entry_int_lt (F.args_int_lt_2 _ _) (gives_lt_bi a i t) ⟨nofun, h⟩
theorem rc_lt_ib {p : Program} {w : World} {A : Around} {E : Value → Shared → Prop} {s : Shared} {Q : Value → Shared → Prop} (a : Bool) (i : Int) (t : Tok) (h : Q (.bool (decide (i < b2 a))) s) : wpAny (model p w) A (richCompare .Lt (.int i t) (.bool a)) Q E s := by
  refine rc_sub_first_or (Ta := "int") (Tb := "bool") (typeIs_int s _ _) rfl (by decide) F.sub_bool_int F.slot_bool_gt_refl ?_ (.inl rfl)
  exact call_gives F.slot_bool_gt_refl rfl F.entry_int_gt (F.args_int_gt_2 _ _) (gives_gt_bi a i t) ⟨nofun, h⟩
theorem ltv_no {v w : V} {b : Bool} {P : Prop} (h : Mine.ltv v w = none) (e : Mine.ltv v w = some b) : P := by rw [h] at e; cases e
theorem ltv_yes {v w : V} {b c : Bool} (h : Mine.ltv v w = some c) (e : Mine.ltv v w = some b) : c = b := Option.some.inj (h.symm.trans e)
theorem TO2.ltv {v w : V} {b : Bool} (h : Mine.ltv v w = some b) (q : Q (.bool b) st) : TO2 VR g C (compareOp .Lt) v w Q st := by
  cases v with
  | int a =>
    cases w with
    | int c => cases ltv_yes (c := decide (a < c)) rfl h; exact TO2.ltI q
    | bool c =>
      cases ltv_yes (c := decide (a < b2 c)) rfl h
      intro s x y gs rx ry
      cases rx; cases ry
      exact rc_lt_ib _ _ _ (Po.here gs (VR.bool _) q)
    | _ => exact ltv_no rfl h
  | bool a =>
    cases w with
    | int c =>
      cases ltv_yes (c := decide (b2 a < c)) rfl h
      intro s x y gs rx ry
      cases rx; cases ry
      exact rc_lt_bi _ _ _ (Po.here gs (VR.bool _) q)
    | bool c =>
      cases ltv_yes (c := decide (b2 a < b2 c)) rfl h
      intro s x y gs rx ry
      cases rx; cases ry
      exact PyProof.Rows.lt_bool (Po.here gs (VR.bool _) q)
    | _ => exact ltv_no rfl h
  | str a =>
    cases w with
    | str c => cases ltv_yes (c := decide (a.cps.toList < c.cps.toList)) rfl h; exact TO2.ltS q
    | _ => exact ltv_no rfl h
  | _ => exact ltv_no rfl h
end
end
section -- P15
/-- these arguments give these names these values -/
noncomputable def Bnd (g : G) (f : Fn) (args : List V) (ks : List Str) (us : List V) (ns : List Str) (vs : List V) : Prop :=
  ∀ fd : FuncData, fd.params = f.ps → fd.defaults = f.dV → fd.kwdefaults = f.kV → ∀ s vals kvals, Base g.H s.heap → VRs s.heap args vals → VRs s.heap us kvals →
    ∃ xs, VRs s.heap vs xs ∧ xs.length = ns.length ∧ BindsTo s fd ⟨vals, ks.zip kvals⟩ (ns.zip xs)

theorem lookup_rev_zip : ∀ {ns : List Str} {xs : List Value}, ns.Nodup → ∀ {x : Str} {v : Value}, (x, v) ∈ ns.zip xs → (ns.zip xs).reverse.lookup x = some v := by
  intro ns xs nd x v h
  have hn : ((ns.zip xs).reverse.map (·.1)).Nodup := by
    rw [List.map_reverse]
    refine List.pairwise_reverse.mpr ?_
    suffices h : ((ns.zip xs).map (·.1)).Nodup from h.imp fun h => Ne.symm h
    have : ∀ (ns : List Str) (xs : List Value), ns.Nodup → ((ns.zip xs).map (·.1)).Nodup := by
      intro ns
      induction ns with
      | nil => intro xs _; simp
      | cons a ns ih =>
        intro xs nd
        cases xs with
        | nil => simp
        | cons b xs =>
          obtain ⟨h1, h2⟩ := List.nodup_cons.mp nd
          rw [List.zip_cons_cons, List.map_cons]
          refine List.nodup_cons.mpr ⟨fun hm => ?_, ih xs h2⟩
          obtain ⟨p, hp, e⟩ := List.mem_map.mp hm
          exact h1 (by have := zip_fst hp; rw [e] at this; exact this)
    exact this ns xs nd
  exact lookup_nodup (p := (x, v)) hn (List.mem_reverse.mpr h)
theorem lookup_zip_none {ns : List Str} {xs : List Value} {x : Str} (h : x ∉ ns) : (ns.zip xs).reverse.lookup x = none := by
  rw [List.lookup_eq_none_iff]
  intro p hp
  have hp' := List.mem_reverse.mp hp
  exact bne_iff_ne.mpr fun e => h (e ▸ zip_fst hp')

theorem one_mem {α : Type} {l : List α} (h : l.length ≤ 1) {p : α} (hp : p ∈ l) : l = [p] := by
  cases l with
  | nil => cases hp
  | cons q l =>
    cases l with
    | nil => rw [List.mem_singleton.mp hp]
    | cons _ _ => exact absurd h (by simp)
theorem lookup_one {l : List (Str × Addr)} (h : l.length ≤ 1) {p : Str × Addr} (hp : p ∈ l) : l.lookup p.1 = some p.2 := by
  rw [one_mem h hp]; show List.lookup p.1 [(p.1, p.2)] = _; rw [List.lookup_cons]; simp
noncomputable def extra (f : Fn) : Loc := f.cl.map fun p => (p.1, .val (.ref clsA))
/-- at a def's own place: the rest of its body -/
noncomputable def TrA {α β : Type} (R : Heap → β → α → Prop) (g : G) (C : Fm g) (body : List Stmt) (t : Sem α) (Q : β → St → Prop) (st : St) : Prop :=
  ∀ s, GoodF g C st s → PySem.wpAt g.M C.A (.func body C.env) t (Po R g C st s Q) noE s
noncomputable abbrev TXsA (g : G) (C : Fm g) (body x : List Stmt) (Q : F → St → Prop) (st : St) : Prop := TrA RF g C body (execs x C.env) Q st
theorem TrA.of {α β : Type} {R : Heap → β → α → Prop} {C : Fm g} {body : List Stmt} {t : Sem α} {Q : β → St → Prop} {st : St} (h : Tr R g C t Q st) : TrA R g C body t Q st := fun s gs => PySem.wpAt_of_wpAny (h s gs)
theorem TC.bdA {g : G} {f : Fn} {ns : List Str} {n : Nat} {args us vs : List V} {ks : List Str} {Q : V → Sto → Prop} {sto : Sto} (hf : FnO g.H f) (hlt : f.a ∉ tbls ∧ f.c ∉ tbls)
    (hcl : ∀ p ∈ f.cl, f.sc.names.lookup p.1 = some .free ∧ p.1 ∉ ns ∧ p.2 ∉ tbls ∧ p.2 < g.H.objs.size ∧ g.H.IsCell p.2 (some (.ref clsA))) (hcl1 : f.cl.length ≤ 1)
    (hpl : Bnd g f args ks us ns vs) (hnd : ns.Nodup)
    (hin : ("_initial_size" : Str) ∉ ns) (hcell : ∀ x ∈ f.sc.names, x.2 ≠ .cell) (hkind : ∀ x ∈ ns, f.sc.names.lookup x = some .local)
    (hco : f.sc.isCoroutine = false) (hgen : f.sc.isGenerator = false) (hk : f.sc.kind = .function)
    (body : ∀ C : Fm g, IsEnv g f C → C.n = n → TXsA g C f.body f.body (kDef Q) ⟨ns.zip vs ++ extra f, sto⟩) : TC g (n + 1) (.ref f.a) args ks us Q sto := by
  intro A s vals kvals hd hu hh gs rv rk
  obtain ⟨o, fd, ho, hdat, e1, e2, e3, e4, e5, e6, e7, e8, e9, e10, hrec⟩ := hf
  show codeAny g.M A (.call (.ref f.a) ⟨vals, ks.zip kvals⟩) _ s
  obtain ⟨xs, rxs, hlx, hb⟩ := hpl fd e2 e7 e8 s vals kvals gs.base rv rk
  have kp : ∀ b o, g.H.get? b = some o → b ∉ tbls → s.heap.get? b = some o := gs.base.keep
  refine ks_codeAny_call_defAt (by show A.depth < 1000; omega) (kp _ _ ho hlt.1) hdat ?_ ?_ e3 hb (by rw [e4]; exact hcell) (fun y hy => by rw [e4]; exact hkind _ (zip_fst hy)) (fun h₁ hns hk₁ => ?_) (e4 ▸ hco) (e4 ▸ hgen) (e4 ▸ hk)
  · obtain ⟨mc, ⟨oc, es, ep, hoc, r⟩, q⟩ := g.top.nolim
    exact ⟨mc, ⟨oc, es, ep, kp _ _ hoc (by decide), r⟩, q⟩
  · obtain ⟨c, oc, vs, t, hc, hoc, r⟩ := hrec
    cases hc
    rw [e9, e1]
    exact ⟨f.c, oc, vs, t, rfl, kp _ _ hoc hlt.2, r⟩
  · have hL : g.H.objs.size ≤ s.heap.objs.size := gs.base.size
    have ecl : (callEnv fd s.heap.objs.size f.a).cells = f.cl := e6
    have lone : ∀ x c, f.cl.lookup x = some c → f.cl = [(x, c)] := fun x c hx => one_mem hcl1 (mem_of_lookup hx)
    have ci : ∀ x y c, (callEnv fd s.heap.objs.size f.a).cells.lookup x = some c → (callEnv fd s.heap.objs.size f.a).cells.lookup y = some c → x = y := fun x y c hx hy => by
      rw [ecl] at hx hy
      have := (lone _ _ hx).symm.trans (lone _ _ hy)
      exact (Prod.mk.inj (List.cons.inj this).1).1
    have kd : (callEnv fd s.heap.objs.size f.a).scope.kind = .function := by show fd.scope.kind = _; rw [e4, hk]
    let C : Fm g := ⟨A.deeper (callEnv fd s.heap.objs.size f.a), callEnv fd s.heap.objs.size f.a, n, kd, e5, e10, (by show A.depth + 1 + 4 * n < 900; omega), (by show A.units + 3 + 40 * n < 9000; omega), hh, hL, ci, fun _ => False, fun _ h => h.elim⟩
    have hz : s.heap.objs.size ≤ h₁.objs.size := Nat.le_of_lt hns.lt
    have gs1 : GoodS g sto { s with heap := h₁, toks := s.toks + (ns.zip xs).length } := gs.ext hk₁ rfl rfl
    have hkk : ∀ y, C.env.kindOf y = f.sc.names.lookup y := fun y => by show fd.scope.names.lookup y = _; rw [e4]
    have gF : GoodF g C ⟨ns.zip vs ++ extra f, sto⟩ { s with heap := h₁, toks := s.toks + (ns.zip xs).length } := by
      refine ⟨gs1, ⟨_, hns, lookup_zip_none hin, fun p hp => ?_⟩, fun b hb => hb.elim⟩
      · rcases List.mem_append.mp hp with hp | hp
        · obtain ⟨y, hy, ry⟩ := VRs.zip rxs p hp
          exact ⟨y, .inl ⟨(hkk _).trans (hkind _ (zip_fst hp)), lookup_rev_zip hnd hy⟩, ry.mono fun a items n e => hk₁ _ _ e⟩
        · obtain ⟨q, hq, rfl⟩ := List.mem_map.mp hp
          obtain ⟨h1, h2, h3, h4, o, ho, hd'⟩ := hcl q hq
          refine ⟨_, .inr ⟨.inr ((hkk _).trans h1), q.2, ?_, o, hk₁ _ _ (kp _ _ ho h3), hd'⟩, VR.val _⟩
          show (callEnv fd s.heap.objs.size f.a).cells.lookup q.1 = some q.2
          rw [ecl]
          exact lookup_one hcl1 hq
    have isE : IsEnv g f C := ⟨e4, e9, rfl, by show fd.qualname ++ _ = _; rw [e1], rfl, fun y hy h' => absurd rfl (hcell _ (mem_of_lookup hy)), fun p hp => by
        show (callEnv fd s.heap.objs.size f.a).cells.lookup p.1 = some p.2
        rw [ecl]
        exact lookup_one hcl1 hp⟩
    have hb := body C isE rfl { s with heap := h₁, toks := s.toks + (ns.zip xs).length } gF
    refine ks_wpAt_mono hb (fun fl s' ⟨f', st', rf, g', x', q⟩ => ?_) noE.any
    have x1 : SS g sto st'.sto s s' := by
      have a : SS g sto sto s { s with heap := h₁, toks := s.toks + (ns.zip xs).length } := SS.ext hk₁ rfl
      refine ⟨fun b o e n => ?_, fun b hb => ?_, fun gn h => (x'.gens gn h), x'.gsize⟩
      · obtain ⟨o', e', s1⟩ := a.keep b o e n
        obtain ⟨o'', e'', s2⟩ := x'.keep b o' e' (by
          rintro (h | h | h)
          · exact n h
          · have : b = s.heap.objs.size := h
            exact absurd (Heap.lt_size e) (by rw [this]; exact Nat.lt_irrefl _)
          · exact h.elim)
        exact ⟨o'', e'', s1.trans s2⟩
      · rcases x'.grow b (.inl hb) with (h | h | h) | h
        · exact .inl h
        · exact .inr (none_size (Nat.le_of_eq (show s.heap.objs.size = b from h.symm)))
        · exact h.elim
        · exact .inr fun o e => h _ (hk₁ _ _ e)
    cases rf with
    | next => exact ⟨.none, .none, st'.sto, rfl, VR.none, g'.toGoodS, x1, q⟩
    | brk => exact ⟨.none, .none, st'.sto, rfl, VR.none, g'.toGoodS, x1, q⟩
    | cont => exact ⟨.none, .none, st'.sto, rfl, VR.none, g'.toGoodS, x1, q⟩
    | ret r => exact ⟨_, _, st'.sto, rfl, r, g'.toGoodS, x1, q⟩
theorem TC.bd {g : G} {f : Fn} {ns : List Str} {n : Nat} {args us vs : List V} {ks : List Str} {Q : V → Sto → Prop} {sto : Sto} (hf : FnO g.H f) (hlt : f.a ∉ tbls ∧ f.c ∉ tbls)
    (hcl : ∀ p ∈ f.cl, f.sc.names.lookup p.1 = some .free ∧ p.1 ∉ ns ∧ p.2 ∉ tbls ∧ p.2 < g.H.objs.size ∧ g.H.IsCell p.2 (some (.ref clsA))) (hcl1 : f.cl.length ≤ 1)
    (hpl : Bnd g f args ks us ns vs) (hnd : ns.Nodup)
    (hin : ("_initial_size" : Str) ∉ ns) (hcell : ∀ x ∈ f.sc.names, x.2 ≠ .cell) (hkind : ∀ x ∈ ns, f.sc.names.lookup x = some .local)
    (hco : f.sc.isCoroutine = false) (hgen : f.sc.isGenerator = false) (hk : f.sc.kind = .function)
    (body : ∀ C : Fm g, IsEnv g f C → C.n = n → TXs g C f.body (kDef Q) ⟨ns.zip vs ++ extra f, sto⟩) : TC g (n + 1) (.ref f.a) args ks us Q sto := by
  exact TC.bdA hf hlt hcl hcl1 hpl hnd hin hcell hkind hco hgen hk fun C E hn => TrA.of (body C E hn)
end
section -- P16
theorem binds_peek {K : W.Frag} {s : Shared} {fd : FuncData} {args : Args} {binds : List (Str × Value)} (X : K.In s.heap) (e : ∀ S, W.peek K S (bindArgs fd args) = some binds) : BindsTo s fd args binds :=
  fun M _ _ _ q => (W.Looks.of_peek (M := M) X (e _)).here q
theorem binds_fd {f : Fn} {K : W.Frag} {s : Shared} {fd : FuncData} {args : Args} {binds : List (Str × Value)} (h1 : fd.params = f.ps) (h2 : fd.defaults = f.dV) (h3 : fd.kwdefaults = f.kV) (X : K.In s.heap)
    (e : ∀ (fd : FuncData) S, W.peek K S (bindArgs { fd with params := f.ps, defaults := f.dV, kwdefaults := f.kV } args) = some binds) : BindsTo s fd args binds := by
  have e := e fd
  rw [← h1, ← h2, ← h3] at e
  exact binds_peek X e
theorem in2 {h : Heap} {a b : Addr} {o p : Obj} (h1 : h.get? a = some o) (h2 : h.get? b = some p) : W.Frag.In [(a, o), (b, p)] h := by
  intro c q e
  simp only [List.lookup_cons, List.lookup_nil] at e
  split at e
  · rename_i hc; cases e; rw [beq_iff_eq.mp hc]; exact h1
  · split at e
    · rename_i hc; cases e; rw [beq_iff_eq.mp hc]; exact h2
    · cases e
theorem TE.name' {g : G} {C : Fm g} {Q : V → St → Prop} {st : St} {x : Str} {pos : Pos} (h : ∃ v, (x, v) ∈ st.loc ∧ Q v st) (hd : (x == ("__debug__" : Str)) = false := by decide) (hn : (x == ("__classdict__" : Str)) = false := by decide) :
    TE g C (.Name x pos) Q st := let ⟨v, hx, q⟩ := h; TE.name hx q hd hn
noncomputable def Has (l ps : Loc) : Prop := ∀ p ∈ ps, p ∈ l
theorem Has.nil {l : Loc} : Has l [] := fun p h => by cases h
theorem Has.cons {l : Loc} {p : Str × V} {ps : Loc} (h : p ∈ l) (hs : Has l ps) : Has l (p :: ps) := fun q hq => by
  rcases List.mem_cons.mp hq with rfl | hq
  · exact h
  · exact hs q hq
noncomputable def lims : List Str := ["a", "x", "lo", "hi", "key"]
theorem VRs.two {h : Heap} {a b : V} {xs : List Value} (r : VRs h [a, b] xs) : ∃ x y, xs = [x, y] ∧ VR h a x ∧ VR h b y := by
  cases r with | cons r1 r => cases r with | cons r2 r => cases r; exact ⟨_, _, rfl, r1, r2⟩
theorem VRs.three {h : Heap} {a b c : V} {xs : List Value} (r : VRs h [a, b, c] xs) : ∃ x y z, xs = [x, y, z] ∧ VR h a x ∧ VR h b y ∧ VR h c z := by
  cases r with | cons r1 r => cases r with | cons r2 r => cases r with | cons r3 r => cases r; exact ⟨_, _, _, rfl, r1, r2, r3⟩
theorem VRs.four {h : Heap} {a b c d : V} {xs : List Value} (r : VRs h [a, b, c, d] xs) : ∃ x y z w, xs = [x, y, z, w] ∧ VR h a x ∧ VR h b y ∧ VR h c z ∧ VR h d w := by
  cases r with | cons r1 r => cases r with | cons r2 r => cases r with | cons r3 r => cases r with | cons r4 r => cases r; exact ⟨_, _, _, _, rfl, r1, r2, r3, r4⟩
theorem VRs.one {h : Heap} {a : V} {xs : List Value} (r : VRs h [a] xs) : ∃ x, xs = [x] ∧ VR h a x := by
  cases r with | cons r1 r => cases r; exact ⟨_, rfl, r1⟩
theorem VRs.zero {h : Heap} {xs : List Value} (r : VRs h [] xs) : xs = [] := by cases r; rfl

section
variable {g : G} {a x lo hi k : V}
theorem defs (g : G) {s : Shared} (b : Base g.H s.heap) {T d : Addr} (hT : T ∈ ([22, 31, 40, 49] : List Addr)) (hd : d ∈ ([23, 32, 41, 50] : List Addr)) :
    ∃ t n h u m, W.Frag.In [(T, { cls := .type "tuple", data := .seq #[.int 0 t, .none] n }), (d, { cls := .type "dict", data := .dict #[⟨h, .str "key" u, .none⟩] m })] s.heap := by
  obtain ⟨t, n, e⟩ := g.top.df T hT
  obtain ⟨h, u, m, e'⟩ := g.top.kd d hd
  exact ⟨t, n, h, u, m, in2 (b.keep _ _ e ((by decide : ∀ T ∈ ([22, 31, 40, 49] : List Addr), T ∉ tbls) T hT)) (b.keep _ _ e' ((by decide : ∀ T ∈ ([23, 32, 41, 50] : List Addr), T ∉ tbls) d hd))⟩
theorem bBR2 : Bnd g fBR [a, x] [] [] lims [a, x, (.int 0), .none, .none] := fun fd h1 h2 h3 s vals kvals b q r => by
  obtain ⟨v1, v2, rfl, r1, r2⟩ := q.two
  obtain rfl := r.zero
  obtain ⟨t, n, h, u, m, F⟩ := defs g b (T := 31) (d := 32) (by simp) (by simp)
  refine ⟨[v1, v2, .int 0 t, .none, .none], .cons r1 (.cons r2 (.cons (.int 0 t) (.cons .none (.cons .none .nil)))), rfl, ?_⟩
  exact binds_fd h1 h2 h3 F fun fd S => by rfl
theorem bBR2k : Bnd g fBR [a, x] ["key"] [k] lims [a, x, (.int 0), .none, k] := fun fd h1 h2 h3 s vals kvals b q r => by
  obtain ⟨v1, v2, rfl, r1, r2⟩ := q.two
  obtain ⟨vk, rfl, rk⟩ := r.one
  obtain ⟨t, n, h, u, m, F⟩ := defs g b (T := 31) (d := 32) (by simp) (by simp)
  refine ⟨[v1, v2, .int 0 t, .none, vk], .cons r1 (.cons r2 (.cons (.int 0 t) (.cons .none (.cons rk .nil)))), rfl, ?_⟩
  exact binds_fd h1 h2 h3 F fun fd S => by rfl
theorem bBR4 : Bnd g fBR [a, x, lo, hi] [] [] lims [a, x, lo, hi, .none] := fun fd h1 h2 h3 s vals kvals b q r => by
  obtain ⟨v1, v2, v3, v4, rfl, r1, r2, r3, r4⟩ := q.four
  obtain rfl := r.zero
  obtain ⟨t, n, h, u, m, F⟩ := defs g b (T := 31) (d := 32) (by simp) (by simp)
  refine ⟨[v1, v2, v3, v4, .none], .cons r1 (.cons r2 (.cons r3 (.cons r4 (.cons .none .nil)))), rfl, ?_⟩
  exact binds_fd h1 h2 h3 F fun fd S => by rfl
theorem bBR4k : Bnd g fBR [a, x, lo, hi] ["key"] [k] lims [a, x, lo, hi, k] := fun fd h1 h2 h3 s vals kvals b q r => by
  obtain ⟨v1, v2, v3, v4, rfl, r1, r2, r3, r4⟩ := q.four
  obtain ⟨vk, rfl, rk⟩ := r.one
  obtain ⟨t, n, h, u, m, F⟩ := defs g b (T := 31) (d := 32) (by simp) (by simp)
  refine ⟨[v1, v2, v3, v4, vk], .cons r1 (.cons r2 (.cons r3 (.cons r4 (.cons rk .nil)))), rfl, ?_⟩
  exact binds_fd h1 h2 h3 F fun fd S => by rfl
theorem bBL2 : Bnd g fBL [a, x] [] [] lims [a, x, (.int 0), .none, .none] := fun fd h1 h2 h3 s vals kvals b q r => by
  obtain ⟨v1, v2, rfl, r1, r2⟩ := q.two
  obtain rfl := r.zero
  obtain ⟨t, n, h, u, m, F⟩ := defs g b (T := 49) (d := 50) (by simp) (by simp)
  refine ⟨[v1, v2, .int 0 t, .none, .none], .cons r1 (.cons r2 (.cons (.int 0 t) (.cons .none (.cons .none .nil)))), rfl, ?_⟩
  exact binds_fd h1 h2 h3 F fun fd S => by rfl
theorem bBL2k : Bnd g fBL [a, x] ["key"] [k] lims [a, x, (.int 0), .none, k] := fun fd h1 h2 h3 s vals kvals b q r => by
  obtain ⟨v1, v2, rfl, r1, r2⟩ := q.two
  obtain ⟨vk, rfl, rk⟩ := r.one
  obtain ⟨t, n, h, u, m, F⟩ := defs g b (T := 49) (d := 50) (by simp) (by simp)
  refine ⟨[v1, v2, .int 0 t, .none, vk], .cons r1 (.cons r2 (.cons (.int 0 t) (.cons .none (.cons rk .nil)))), rfl, ?_⟩
  exact binds_fd h1 h2 h3 F fun fd S => by rfl
theorem bBL4 : Bnd g fBL [a, x, lo, hi] [] [] lims [a, x, lo, hi, .none] := fun fd h1 h2 h3 s vals kvals b q r => by
  obtain ⟨v1, v2, v3, v4, rfl, r1, r2, r3, r4⟩ := q.four
  obtain rfl := r.zero
  obtain ⟨t, n, h, u, m, F⟩ := defs g b (T := 49) (d := 50) (by simp) (by simp)
  refine ⟨[v1, v2, v3, v4, .none], .cons r1 (.cons r2 (.cons r3 (.cons r4 (.cons .none .nil)))), rfl, ?_⟩
  exact binds_fd h1 h2 h3 F fun fd S => by rfl
theorem bBL4k : Bnd g fBL [a, x, lo, hi] ["key"] [k] lims [a, x, lo, hi, k] := fun fd h1 h2 h3 s vals kvals b q r => by
  obtain ⟨v1, v2, v3, v4, rfl, r1, r2, r3, r4⟩ := q.four
  obtain ⟨vk, rfl, rk⟩ := r.one
  obtain ⟨t, n, h, u, m, F⟩ := defs g b (T := 49) (d := 50) (by simp) (by simp)
  refine ⟨[v1, v2, v3, v4, vk], .cons r1 (.cons r2 (.cons r3 (.cons r4 (.cons rk .nil)))), rfl, ?_⟩
  exact binds_fd h1 h2 h3 F fun fd S => by rfl
theorem bIR2 : Bnd g fIR [a, x] [] [] lims [a, x, (.int 0), .none, .none] := fun fd h1 h2 h3 s vals kvals b q r => by
  obtain ⟨v1, v2, rfl, r1, r2⟩ := q.two
  obtain rfl := r.zero
  obtain ⟨t, n, h, u, m, F⟩ := defs g b (T := 22) (d := 23) (by simp) (by simp)
  refine ⟨[v1, v2, .int 0 t, .none, .none], .cons r1 (.cons r2 (.cons (.int 0 t) (.cons .none (.cons .none .nil)))), rfl, ?_⟩
  exact binds_fd h1 h2 h3 F fun fd S => by rfl
theorem bIR2k : Bnd g fIR [a, x] ["key"] [k] lims [a, x, (.int 0), .none, k] := fun fd h1 h2 h3 s vals kvals b q r => by
  obtain ⟨v1, v2, rfl, r1, r2⟩ := q.two
  obtain ⟨vk, rfl, rk⟩ := r.one
  obtain ⟨t, n, h, u, m, F⟩ := defs g b (T := 22) (d := 23) (by simp) (by simp)
  refine ⟨[v1, v2, .int 0 t, .none, vk], .cons r1 (.cons r2 (.cons (.int 0 t) (.cons .none (.cons rk .nil)))), rfl, ?_⟩
  exact binds_fd h1 h2 h3 F fun fd S => by rfl
theorem bIR3k : Bnd g fIR [a, x, lo] ["key"] [k] lims [a, x, lo, .none, k] := fun fd h1 h2 h3 s vals kvals b q r => by
  obtain ⟨v1, v2, v3, rfl, r1, r2, r3⟩ := q.three
  obtain ⟨vk, rfl, rk⟩ := r.one
  obtain ⟨t, n, h, u, m, F⟩ := defs g b (T := 22) (d := 23) (by simp) (by simp)
  refine ⟨[v1, v2, v3, .none, vk], .cons r1 (.cons r2 (.cons r3 (.cons .none (.cons rk .nil)))), rfl, ?_⟩
  exact binds_fd h1 h2 h3 F fun fd S => by rfl
theorem bIR4k : Bnd g fIR [a, x, lo, hi] ["key"] [k] lims [a, x, lo, hi, k] := fun fd h1 h2 h3 s vals kvals b q r => by
  obtain ⟨v1, v2, v3, v4, rfl, r1, r2, r3, r4⟩ := q.four
  obtain ⟨vk, rfl, rk⟩ := r.one
  obtain ⟨t, n, h, u, m, F⟩ := defs g b (T := 22) (d := 23) (by simp) (by simp)
  refine ⟨[v1, v2, v3, v4, vk], .cons r1 (.cons r2 (.cons r3 (.cons r4 (.cons rk .nil)))), rfl, ?_⟩
  exact binds_fd h1 h2 h3 F fun fd S => by rfl
theorem bIL2 : Bnd g fIL [a, x] [] [] lims [a, x, (.int 0), .none, .none] := fun fd h1 h2 h3 s vals kvals b q r => by
  obtain ⟨v1, v2, rfl, r1, r2⟩ := q.two
  obtain rfl := r.zero
  obtain ⟨t, n, h, u, m, F⟩ := defs g b (T := 40) (d := 41) (by simp) (by simp)
  refine ⟨[v1, v2, .int 0 t, .none, .none], .cons r1 (.cons r2 (.cons (.int 0 t) (.cons .none (.cons .none .nil)))), rfl, ?_⟩
  exact binds_fd h1 h2 h3 F fun fd S => by rfl
theorem bIL2k : Bnd g fIL [a, x] ["key"] [k] lims [a, x, (.int 0), .none, k] := fun fd h1 h2 h3 s vals kvals b q r => by
  obtain ⟨v1, v2, rfl, r1, r2⟩ := q.two
  obtain ⟨vk, rfl, rk⟩ := r.one
  obtain ⟨t, n, h, u, m, F⟩ := defs g b (T := 40) (d := 41) (by simp) (by simp)
  refine ⟨[v1, v2, .int 0 t, .none, vk], .cons r1 (.cons r2 (.cons (.int 0 t) (.cons .none (.cons rk .nil)))), rfl, ?_⟩
  exact binds_fd h1 h2 h3 F fun fd S => by rfl
theorem bIL3k : Bnd g fIL [a, x, lo] ["key"] [k] lims [a, x, lo, .none, k] := fun fd h1 h2 h3 s vals kvals b q r => by
  obtain ⟨v1, v2, v3, rfl, r1, r2, r3⟩ := q.three
  obtain ⟨vk, rfl, rk⟩ := r.one
  obtain ⟨t, n, h, u, m, F⟩ := defs g b (T := 40) (d := 41) (by simp) (by simp)
  refine ⟨[v1, v2, v3, .none, vk], .cons r1 (.cons r2 (.cons r3 (.cons .none (.cons rk .nil)))), rfl, ?_⟩
  exact binds_fd h1 h2 h3 F fun fd S => by rfl
theorem bIL4k : Bnd g fIL [a, x, lo, hi] ["key"] [k] lims [a, x, lo, hi, k] := fun fd h1 h2 h3 s vals kvals b q r => by
  obtain ⟨v1, v2, v3, v4, rfl, r1, r2, r3, r4⟩ := q.four
  obtain ⟨vk, rfl, rk⟩ := r.one
  obtain ⟨t, n, h, u, m, F⟩ := defs g b (T := 40) (d := 41) (by simp) (by simp)
  refine ⟨[v1, v2, v3, v4, vk], .cons r1 (.cons r2 (.cons r3 (.cons r4 (.cons rk .nil)))), rfl, ?_⟩
  exact binds_fd h1 h2 h3 F fun fd S => by rfl
end
end
noncomputable abbrev Keeps (sto sto' : Sto) : Prop := ∀ p ∈ sto, p ∈ sto'
section -- P20
set_option genSizeOf false
set_option genInjectivity false
section
variable {g : G} {C : Fm g} {st st1 : St} {s s' : Shared}
/-- the frame's side and one hidden thing more -/
noncomputable def XI (g : G) (C : Fm g) (it : Addr) (sto : Sto) (b : Addr) : Prop := XF g C sto b ∨ b = it

theorem XF.noFields (gs : GoodF g C st s) {it : Addr} {o : Obj} (e : s.heap.get? it = some o) (hd : ∃ fs, o.data = .fields fs) (hN : g.H.objs.size ≤ it) : ¬ XF g C st.sto it := by
  obtain ⟨fs, hd⟩ := hd
  rintro ((h | h) | h | h)
  · obtain ⟨p, hp, rfl⟩ := List.mem_map.mp h
    exact (cell_ne_dict (gs.cells p hp) e).2.2.1 _ hd
  · have : it = 99 ∨ it = 106 := by simpa [tbls] using h
    have h2 := g.top.tabs (103, 99) (by simp [tabCodes])
    have h3 := g.top.tabs (110, 106) (by simp [tabCodes])
    rcases this with rfl | rfl
    · exact absurd h2.2 (Nat.not_lt.mpr hN)
    · exact absurd h3.2 (Nat.not_lt.mpr hN)
  · subst h
    obtain ⟨m, ⟨o', es, ep, e', hd', _⟩, _⟩ := gs.loc
    rw [e] at e'; cases e'; rw [hd] at hd'; cases hd'
  · obtain ⟨v, o', e', hd'⟩ := gs.cellsAre _ h
    rw [e] at e'; cases e'; rw [hd] at hd'; cases hd'

/-- the hidden thing is changed: the rest stands -/
theorem GoodF.poke (gs : GoodF g C st s) {it : Addr} {o : Obj} (e : s.heap.get? it = some o) (hd : ∃ fs, o.data = .fields fs) (hN : g.H.objs.size ≤ it) (hs : Heap.SameBut it s.heap s'.heap) (hg : s'.gens = s.gens) (ho : s'.os = s.os) :
    GoodF g C st s' ∧ TupK s.heap s'.heap := by
  have hd0 := hd
  obtain ⟨fs, hd⟩ := hd
  have nX := XF.noFields gs e hd0 hN
  have k : TupK s.heap s'.heap := fun b items n e' => (hs.2 b fun h => by subst h; rw [e] at e'; cases e'; cases hd).trans e'
  have kn : ∀ a m, s.heap.Ns a m → s'.heap.Ns a m := fun a m n => n.sameBut hs fun h => by
    subst h; obtain ⟨o', es, ep, e', hd', _⟩ := n; rw [e] at e'; cases e'; rw [hd] at hd'; cases hd'
  have kc : ∀ a v, s.heap.IsCell a v → s'.heap.IsCell a v := fun a v n => n.sameBut hs fun h => by
    subst h; obtain ⟨o', e', hd'⟩ := n; rw [e] at e'; cases e'; rw [hd] at hd'; cases hd'
  refine ⟨⟨⟨gs.base.same hN hs (tab_lt g), fun p hp => ?_, gs.new, gs.nodup, ho.trans gs.os, hg ▸ gs.bare⟩, ?_, fun b hb => let ⟨v, h⟩ := gs.cellsAre b hb; ⟨v, kc _ _ h⟩⟩, k⟩
  · exact (gs.cells p hp).keep k (fun o' e' => (hs.2 _ fun h => nX (.inl (.inl (h ▸ List.mem_map_of_mem hp)))).trans e') fun d x n _ => kn _ _ n
  · obtain ⟨m, n, hi, l⟩ := gs.loc
    refine ⟨m, kn _ _ n, hi, fun p hp => ?_⟩
    obtain ⟨v, b, r⟩ := l p hp
    refine ⟨v, ?_, r.mono k⟩
    rcases b with b | ⟨b, c, h1, h2⟩
    · exact .inl b
    · exact .inr ⟨b, c, h1, kc _ _ h2⟩
/-- the hidden thing is lost sight of, and new things may lie there -/
theorem GoodF.lose (gs : GoodF g C st s) {it : Addr} {o : Obj} (e : s.heap.get? it = some o) (hd : ∃ fs, o.data = .fields fs) (hN : g.H.objs.size ≤ it) (hs : Heap.ExtBut it s.heap s'.heap) (hg : s'.gens = s.gens) (ho : s'.os = s.os) :
    GoodF g C st s' ∧ TupK s.heap s'.heap := by
  let h1 := s.heap.update it fun _ => { cls := .none, data := .freed }
  have hb : Heap.SameBut it s.heap h1 := Heap.SameBut.update ..
  have hn : ∀ o, h1.get? it ≠ some o := fun o h => by
    obtain ⟨a, b⟩ := Heap.get?_some_iff.mp h
    obtain ⟨c, _⟩ := Heap.get?_some_iff.mp e
    have : h1.objs[it]? = some { cls := .none, data := .freed } := by
      show (s.heap.update it _).objs[it]? = _
      cases hh : s.heap with
      | mk objs =>
        rw [hh] at c
        simp only [Heap.update, Array.getElem?_modify, if_true]
        simp only at c
        rw [c]; rfl
    rw [this] at a; cases a; cases b
  obtain ⟨g1, k1⟩ := gs.poke (s' := { s with heap := h1 }) e hd hN hb rfl rfl
  have hk : ∀ b o, h1.get? b = some o → s'.heap.get? b = some o := fun b o' e' => by
    by_cases hbi : b = it
    · subst hbi; exact absurd e' (hn _)
    · exact hs b o' hbi ((hb.2 b hbi).symm.trans e')
  exact ⟨(g1.ext (s' := s') hk hg ho).1, fun b items n e' => hk _ _ (k1 _ _ _ e')⟩

theorem SF.toXI (x : SF g C st st1 s s') (it : Addr) : Step (XI g C it st.sto) (XI g C it st1.sto) s s' :=
  Step.weaken x (fun d h => .inl h) fun d h => by
    rcases h with h | h
    · rcases x.grow d h with h | h
      · exact .inl (.inl h)
      · exact .inr h
    · exact .inl (.inr h)
theorem XI.poke {it : Addr} (hs : Heap.ExtBut it s.heap s'.heap) (hg : s'.gens = s.gens) : Step (XI g C it st.sto) (XI g C it st.sto) s s' :=
  Step.but (.inr rfl) (fun b o n e => hs b o n e) hg
theorem XI.drop {it : Addr} (x : Step (XF g C st.sto) (XI g C it st1.sto) s s') : SF g C st st1 s s' := Step.weaken x (fun _ h => h) fun d h => x.grow d (.inl h)
theorem XI.keep {it : Addr} {o : Obj} (gs : GoodF g C st s) (x : SF g C st st1 s s') (e : s.heap.get? it = some o) (hd : ∃ fs, o.data = .fields fs) (hN : g.H.objs.size ≤ it) (hf : o.cls ≠ .type "frame") : s'.heap.get? it = some o :=
  x.tuple e (XF.noFields gs e hd hN) hf

/-- what hands out vs, one by one -/
structure Iter (g : G) (vs : List V) where
  P : Nat → Addr → Obj → Prop
  R : Sto → Prop
  mono : ∀ sto sto', R sto → (∀ p ∈ sto, p ∈ sto') → R sto'
  fields : ∀ i a o, P i a o → (∃ fs, o.data = .fields fs) ∧ ∃ n, o.cls = .type n ∧ n ∉ ["frame", "enumerate", "zip", "dict_itemiterator", "dict_reverseitemiterator", "odict_iterator", "itertools.zip_longest", "itertools.pairwise"]
  item : ∀ (A : Around) (sto : Sto) (s : Shared) (it : Addr) (o : Obj) (i : Nat) (v : V), A.handled = none → GoodS g sto s → R sto → s.heap.get? it = some o → P i it o → vs[i]? = some v → ∀ (Q : Option Value → Shared → Prop) (E : Value → Shared → Prop),
    (∀ x s' o', VR s'.heap v x → s'.heap.get? it = some o' → P (i + 1) it o' → Heap.SameBut it s.heap s'.heap → s'.gens = s.gens → s'.os = s.os → Q (some x) s') → wpAny g.M A (pyNext (.ref it)) Q E s
  done : ∀ (A : Around) (sto : Sto) (s : Shared) (it : Addr) (o : Obj), A.handled = none → GoodS g sto s → R sto → s.heap.get? it = some o → P vs.length it o → ∀ (Q : Option Value → Shared → Prop) (E : Value → Shared → Prop),
    (∀ s', Heap.ExtBut it s.heap s'.heap → s'.gens = s.gens → s'.os = s.os → Q none s') → wpAny g.M A (pyNext (.ref it)) Q E s
  self : ∀ (A : Around) (s : Shared) (it : Addr) (o : Obj) (i : Nat), s.heap.get? it = some o → P i it o → ∀ (Q : Value → Shared → Prop) (E : Value → Shared → Prop), Q (.ref it) s → wpAny g.M A (pyIter (.ref it)) Q E s

theorem Iter.nf {vs : List V} (I : Iter g vs) {i : Nat} {a : Addr} {o : Obj} (h : I.P i a o) : o.cls ≠ .type "frame" := fun e => by
  obtain ⟨_, n, h1, h2⟩ := I.fields i a o h
  rw [e] at h1; cases h1; exact h2 (by simp)

/-- a list's own -/
noncomputable def Iter.list (g : G) (a : Addr) (vs : List V) : Iter g vs where
  P := fun i it o => a ≠ it ∧ o.cls = .type "list_iterator" ∧ o.data = .fields #[.ref a, .int i 0]
  R := fun sto => (a, .list vs) ∈ sto
  mono := fun sto sto1 h k => k (a, Cell.list vs) h
  fields := fun i it o h => ⟨⟨_, h.2.2⟩, _, h.2.1, by decide⟩
  item := fun A sto s it o i v hh gs hR e hP hv Q E hQ => by
    obtain ⟨items, hl, rv⟩ := IsLL gs hR
    obtain ⟨x, hx, rx⟩ := rv.get i v hv
    refine wpAny_pyNext_list_item ⟨o, e, hP.2⟩ hl (by simpa using hx) fun h' hit hs => ?_
    obtain ⟨o', e', hP'⟩ := hit
    have k : TupK s.heap h' := fun b its m e1 => (hs.2 b fun hb => by subst hb; rw [e] at e1; cases e1; exact absurd hP.2.2 (by simp)).trans e1
    exact hQ x { s with heap := h' } o' (rx.mono k) e' ⟨hP.1, hP'⟩ hs rfl rfl
  done := fun A sto s it o hh gs hR e hP Q E hQ => by
    obtain ⟨items, hl, rv⟩ := IsLL gs hR
    have := rv.length
    refine wpAny_pyNext_list_end hh ⟨o, e, hP.2⟩ hl (by simp at this; simp; omega) fun h' hs => ?_
    exact hQ { s with heap := h' } hs rfl rfl
  self := fun A s it o i e hP Q E q => wpAny_pyIter_listiter ⟨o, e, hP.2⟩ q

noncomputable def Iter.range (g : G) (n : Nat) : Iter g ((List.range n).map fun (i : Nat) => V.int (i : Int)) where
  P := fun i it o => o = { cls := .type "range_iterator", dict := none, data := .fields #[rawInt (i : Int), rawInt ((n : Int) - i), rawInt 1], slots := #[] }
  R := fun _ => True
  mono := fun _ _ _ _ => trivial
  fields := fun i it o h => by subst h; exact ⟨⟨_, rfl⟩, _, rfl, by decide⟩
  item := fun A sto s it o i v hh gs hR e hP hv Q E hQ => by
    subst hP
    obtain ⟨h1, h2⟩ := List.getElem?_eq_some_iff.mp hv
    simp only [List.getElem_map, List.getElem_range] at h2
    simp only [List.length_map, List.length_range] at h1
    subst h2
    refine wpAny_pyNext_range_item e (by omega) fun h' hit hs => ?_
    refine hQ _ { s with heap := h', toks := s.toks + 1 } _ (VR.int _ _) hit ?_ hs rfl rfl
    have e1 : (i : Int) + 1 = ((i + 1 : Nat) : Int) := by omega
    have e2 : (n : Int) - i - 1 = (n : Int) - ((i + 1 : Nat) : Int) := by omega
    rw [e1, e2]
  done := fun A sto s it o hh gs hR e hP Q E hQ => by
    subst hP
    refine wpAny_pyNext_range_end hh e (by simp) fun h' hs => ?_
    exact hQ { s with heap := h' } hs rfl rfl
  self := fun A s it o i e hP Q E q => by subst hP; exact wpAny_pyIter_rangeiter e q

theorem go_skip {A : Around} {target : Expr} {it : Addr} {x : Value} {o : Obj} {n : String} {fs : Array Value} {Q : Unit → Shared → Prop} {E : Value → Shared → Prop} (e : s.heap.get? it = some o) (hc : o.cls = .type n) (hd : o.data = .fields fs)
    (hn : n ∉ ["frame", "enumerate", "zip", "dict_itemiterator", "dict_reverseitemiterator", "odict_iterator", "itertools.zip_longest", "itertools.pairwise"]) (q : Q () s) : wpAny g.M A (letOwnedTupleGo target (.ref it) x) Q E s := by
  have key : ∀ a, wpAny g.M A (do
      let o ← load it
      match o.cls, o.data with
      | .type n, .fields vs =>
        if ["enumerate", "zip", "dict_itemiterator", "dict_reverseitemiterator", "odict_iterator", "itertools.zip_longest", "itertools.pairwise"].contains n && vs[0]? == some (rawInt a) then
          rule "for.unpacks-the-owned-tuple"
          updateField it 0 .none
      | _, _ => pure () : Sem Unit) Q E s := fun a => by
    refine wpAny_bind (wpAny_load e ?_)
    rw [hc, hd]
    show wpAny g.M A (if _ then _ else _) Q E s
    rw [if_neg]
    · exact wpAny_pure q
    · intro h
      have h1 := (Bool.and_eq_true_iff.mp h).1
      rw [List.contains_iff_mem] at h1
      exact hn (List.mem_cons_of_mem _ h1)
  unfold letOwnedTupleGo
  cases target <;> first | exact wpAny_pure q | (cases x <;> first | exact wpAny_pure q | exact key _)
end
end
section -- P21
section
variable {g : G} {C : Fm g} {st : St} {s : Shared}
/-- where a loop's things come from -/
noncomputable def TSrc (g : G) (C : Fm g) (iter : Expr) (K : (vs : List V) → Iter g vs → St → Prop) (st : St) : Prop :=
  ∀ s, GoodF g C st s → wpAny g.M C.A (eval iter C.env) (fun x s1 => wpAny g.M C.A (pyIter x) (fun itv s2 => ∃ it vs, ∃ I : Iter g vs, ∃ st1 o, itv = .ref it ∧ g.H.objs.size ≤ it ∧ s2.heap.get? it = some o ∧ I.P 0 it o ∧
    GoodF g C st1 s2 ∧ Step (XF g C st.sto) (XI g C it st1.sto) s s2 ∧ I.R st1.sto ∧ K vs I st1) noE s1) noE s
theorem fresh_it (gs : GoodF g C st s) {o : Obj} (hf : o.isFreed = false) {st0 : St} {s0 : Shared} (x : SF g C st0 st s0 s) :
    g.H.objs.size ≤ s.heap.objs.size ∧ (s.heap.push o).get? s.heap.objs.size = some o ∧ GoodF g C st { s with heap := s.heap.push o } ∧ Step (XF g C st0.sto) (XI g C s.heap.objs.size st.sto) s0 { s with heap := s.heap.push o } := by
  obtain ⟨a1, a2⟩ := gs.newObj (s' := { s with heap := s.heap.push o }) rfl rfl rfl
  refine ⟨gs.base.size, Heap.get?_push_size _ hf, a1, Step.trans x (Step.weaken a2 (fun _ h => h) fun d h => ?_)⟩
  rcases h with h | h
  · exact .inl h
  · exact .inr (none_size (Nat.le_of_eq h.symm))
section
variable (g : G) (C : Fm g)
noncomputable abbrev kSrcL (K : (vs : List V) → Iter g vs → St → Prop) : V → St → Prop := fun v st => ∃ a vs, v = .ref a ∧ (a, .list vs) ∈ st.sto ∧ K vs (Iter.list g a vs) st
noncomputable abbrev kSrcR (K : (vs : List V) → Iter g vs → St → Prop) : List V → St → Prop := fun vs st => ∃ n : Nat, vs = [.int (n : Int)] ∧ n ≤ 1000 ∧ K _ (Iter.range g n) st
end
theorem kSrcL.it {g : G} {K : (vs : List V) → Iter g vs → St → Prop} {a : Addr} {vs : List V} {st : St} (h : (a, .list vs) ∈ st.sto) (k : K vs (Iter.list g a vs) st) : kSrcL g K (.ref a) st := ⟨a, vs, rfl, h, k⟩
theorem kSrcR.it {g : G} {K : (vs : List V) → Iter g vs → St → Prop} {i : Int} (n : Nat) {st : St} (hi : i = (n : Int)) (h : n ≤ 1000) (k : K _ (Iter.range g n) st) : kSrcR g K [.int i] st := ⟨n, by rw [hi], h, k⟩
theorem TSrc.list {iter : Expr} {K : (vs : List V) → Iter g vs → St → Prop} (h : TE g C iter (kSrcL g K) st) : TSrc g C iter K st := fun s gs =>
  h.on gs fun v st1 x s1 q r g1 x1 => by
    obtain ⟨a, vs, rfl, hm, k⟩ := q
    cases r
    obtain ⟨items, hl, rv⟩ := IsLL g1.toGoodS hm
    refine wpAny_pyIter_list hl ?_
    obtain ⟨b1, b2, b3, b4⟩ := fresh_it (o := { cls := .type "list_iterator", data := .fields #[.ref a, .int 0 0] }) g1 rfl x1
    refine ⟨_, vs, Iter.list g a vs, st1, _, rfl, b1, b2, ⟨?_, rfl, rfl⟩, b3, b4, hm, k⟩
    obtain ⟨o, e, _⟩ := hl
    exact Nat.ne_of_lt (Heap.lt_size e)
theorem TSrc.range {e : Expr} {p pos : Pos} {K : (vs : List V) → Iter g vs → St → Prop} (hk : C.env.kindOf "range" = some .globalImplicit)
    (h : TEs g C pos [e] (kSrcR g K) st)
    (he : starEach [e] C.env = [(false, eval e C.env)] := by rfl) : TSrc g C (.Call (.Name "range" p) [e] [] pos) K st := fun s gs => by
  refine wpAny_Call_Name_kw (Calls.Name_function_global C.kind hk (Calls.loadGlobal_builtin (mg := g.mg) (mb := g.mb) (by rw [C.globals]; exact Ns.base g.top.gl gs.base (by decide)) (g.top.bn ("range", .type "range") (by simp [bNames])).1
    (by rw [C.builtins]; exact Ns.base g.top.bl gs.base (by decide)) (g.top.bn ("range", .type "range") (by simp [bNames])).2 ?_) (by decide))
  have hp : (backTo pos (starEach [e] C.env)).any (·.1) = false := by rw [he]; rfl
  refine callWith_type hp ?_
  have h' := h
  unfold TEs at h'
  rw [he] at h' ⊢
  refine Calls.evalArgs_plain (h'.on gs fun vs st1 as s1 q rs g1 x1 => ?_)
  obtain ⟨n, rfl, hn, k⟩ := q
  obtain ⟨x, rfl, rx⟩ := rs.one
  cases rx
  refine call_range_1 ?_
  obtain ⟨a1, a2⟩ := g1.newObj (s' := { s1 with heap := s1.heap.push { cls := .type "range", data := .fields #[.int 0 s1.toks, .int (n : Int) ‹Tok›, .int 1 (s1.toks + 1)] }, toks := s1.toks + 1 + 1 }) rfl rfl rfl
  have hsz : Builtin.Range.rangeSize 0 (n : Int) 1 = (n : Int) := by
    unfold Builtin.Range.rangeSize
    simp only [show (1 : Int) > 0 by decide, if_true, Int.ediv_one]
    split <;> omega
  refine wpAny_pyIter_range (IsRange.new ..) ?_ ?_
  · have fit : ∀ k : Int, 0 ≤ k → k ≤ 2000 → Builtin.Range.rangeFitsLong k = true := fun k h1 h2 => by
      unfold Builtin.Range.rangeFitsLong
      rw [Bool.and_eq_true, decide_eq_true_eq, decide_eq_true_eq]
      exact ⟨Int.le_trans (by decide) h1, Int.lt_of_le_of_lt h2 (by decide)⟩
    unfold Builtin.Range.small
    rw [hsz, fit 0 (by decide) (by decide), fit n (by omega) (by omega), fit 1 (by decide) (by decide), if_pos (by decide), fit (n + (1 - 1)) (by omega) (by omega)]
    cases (n : Int) == 0 <;> rfl
  rw [hsz]
  obtain ⟨b1, b2, b3, b4⟩ := fresh_it (o := { cls := .type "range_iterator", data := .fields #[rawInt 0, rawInt (n : Int), rawInt 1] }) a1 rfl (Step.trans x1 a2)
  exact ⟨_, _, Iter.range g n, st1, _, rfl, b1, b2, by show _ = _; simp, b3, b4, trivial, k⟩

/-- a target takes a value -/
noncomputable def TA (g : G) (C : Fm g) (target : Expr) (v : V) (Q : St → Prop) (st : St) : Prop :=
  ∀ s x, GoodF g C st s → VR s.heap v x → wpAny g.M C.A (assign target C.env x) (fun _ s' => ∃ st', GoodF g C st' s' ∧ SF g C st st' s s' ∧ Q st') noE s
theorem TA.name {x : Str} {p : Pos} {v : V} {Q : St → Prop} (hk : Stores g C x) (q : Q ⟨set st.loc x v, st.sto⟩) : TA g C (.Name x p) v Q st := fun s y gs r =>
  wpAny_assign_Name (store' gs r hk fun s2 g2 x2 => ⟨_, g2, x2, q⟩)
noncomputable def setAll : Loc → List Str → List V → Loc
  | l, x :: xs, v :: vs => setAll (set l x v) xs vs
  | l, _, _ => l
theorem assigns : ∀ (xs : List (Str × Pos)) (vs : List V) (vals : List Value) (st : St) (s : Shared) (Q : St → Prop), GoodF g C st s → VRs s.heap vs vals → (∀ p ∈ xs, Stores g C p.1) → Q ⟨setAll st.loc (xs.map (·.1)) vs, st.sto⟩ → xs.length = vs.length →
    wpAny g.M C.A (assignInOrder (xs.map fun p => assign (.Name p.1 p.2) C.env) vals) (fun _ s' => ∃ st', GoodF g C st' s' ∧ SF g C st st' s s' ∧ Q st') noE s := by
  intro xs
  induction xs with
  | nil =>
    intro vs vals st s Q gs r _ q hl
    cases r with
    | nil => exact wpAny_assignInOrder_none ⟨st, gs, Step.refl _ _, q⟩
    | cons a b => simp at hl
  | cons p xs ih =>
    intro vs vals st s Q gs r hk q hl
    cases r with
    | nil => simp at hl
    | cons a b =>
      refine wpAny_assignInOrder_more (wpAny_assign_Name (store' gs a (hk p List.mem_cons_self) fun s2 g2 x2 => ?_))
      refine wpAny_mono (ih _ _ _ s2 Q g2 (b.mono (SF.tup gs x2)) (fun p hp => hk p (List.mem_cons_of_mem _ hp)) q (by simpa using hl)) (fun _ s3 ⟨st3, g3, x3, q3⟩ => ⟨st3, g3, Step.trans x2 x3, q3⟩) fun _ _ e => e
theorem TA.tup {xs : List (Str × Pos)} {elts : List Expr} {p : Pos} {k : Nat} {vs : List V} {Q : St → Prop} (hk : ∀ p ∈ xs, Stores g C p.1) (hl : xs.length = vs.length) (hel : elts = xs.map fun p => Expr.Name p.1 p.2)
    (he : assignEach elts C.env = xs.map fun p => (false, assign (.Name p.1 p.2) C.env)) (q : Q ⟨setAll st.loc (xs.map (·.1)) vs, st.sto⟩) : TA g C (.Tuple elts k p) (.tup vs) Q st := fun s z gs r => by
  cases r with
  | tup ho hvs =>
    rename_i a items n
    have hsz : items.size = vs.length := by have := hvs.length; simpa using this.symm
    have h1 : (assignEach elts C.env).length = items.size := by rw [he, hsz, List.length_map, hl]
    have h2 : (assignEach elts C.env).findIdx? (·.1) = none := by rw [he, List.findIdx?_map]; simp
    refine wpAny_assign_Tuple (x1 := k) C.handled ⟨_, ho, rfl, n, rfl⟩ h1 h2 fun h' hx' => ?_
    have hk' : ∀ b o, s.heap.get? b = some o → h'.get? b = some o := fun b o e => hx' b o (Nat.ne_of_lt (Heap.lt_size e)) e
    obtain ⟨g1, x1⟩ := gs.ext (s' := { s with heap := h' }) hk' rfl rfl
    have h3 : (assignEach elts C.env).map (·.2) = xs.map fun p => assign (.Name p.1 p.2) C.env := by rw [he, List.map_map]; rfl
    rw [h3]
    refine wpAny_mono (assigns xs vs _ st _ Q g1 (hvs.mono fun b its m e => hk' _ _ e) hk q hl) (fun _ s3 ⟨st3, g3, x3, q3⟩ => ⟨st3, g3, Step.trans x1 x3, q3⟩) fun _ _ e => e
/-- x, y = two -/
theorem TA.tup2 {x y : Str} {px py p : Pos} {k : Nat} {v w : V} {Q : St → Prop} (hx : Stores g C x) (hy : Stores g C y) (q : Q ⟨set (set st.loc x v) y w, st.sto⟩) : TA g C (.Tuple [.Name x px, .Name y py] k p) (.tup [v, w]) Q st :=
  TA.tup (xs := [(x, px), (y, py)]) (fun p hp => by
    rcases List.mem_cons.mp hp with rfl | hp
    · exact hx
    · rw [List.mem_singleton] at hp; subst hp; exact hy) rfl rfl rfl q
noncomputable abbrev kLoop (R : Sto → Prop) (J : St → Prop) (Q : F → St → Prop) : F → St → Prop := fun f st => match f with
  | .next | .cont => J st ∧ R st.sto
  | .brk => Q .next st
  | .ret v => Q (.ret v) st
noncomputable abbrev kFor (g : G) (C : Fm g) (target : Expr) (body orelse : List Stmt) (Q : F → St → Prop) : (vs : List V) → Iter g vs → St → Prop := fun vs I st1 => ∃ J : Nat → St → Prop, J 0 st1 ∧
  (∀ i v st2, vs[i]? = some v → J i st2 → I.R st2.sto → TA g C target v (TXs g C body (kLoop I.R (J (i + 1)) Q)) st2) ∧ (∀ st2, J vs.length st2 → I.R st2.sto → TXs g C orelse Q st2)
theorem kFor.it {g : G} {C : Fm g} {target : Expr} {body orelse : List Stmt} {Q : F → St → Prop} {vs : List V} {I : Iter g vs} {st1 : St} (J : Nat → St → Prop) (h0 : J 0 st1)
    (turn : ∀ i v st2, vs[i]? = some v → J i st2 → I.R st2.sto → TA g C target v (TXs g C body (kLoop I.R (J (i + 1)) Q)) st2) (fin : ∀ st2, J vs.length st2 → I.R st2.sto → TXs g C orelse Q st2) : kFor g C target body orelse Q vs I st1 := ⟨J, h0, turn, fin⟩
/-- the loop -/
theorem TX.for {target iter : Expr} {body orelse : List Stmt} {pos : Pos} {Q : F → St → Prop}
    (h : TSrc g C iter (kFor g C target body orelse Q) st) (hs : ∀ x, foldedSetIterable iter C.env x = pure x := by intro _; rfl) : TX g C (.For target iter body orelse pos) Q st := fun s gs => by
  refine wpAny_For (wpAny_mono (h s gs) (fun x s1 h1 => wpAny_mono h1 (fun itv s2 h2 => ?_) fun _ _ e => e.elim) fun _ _ e => e.elim) hs
  obtain ⟨it, vs, I, st1, o, rfl, hN, e, hP, g1, x1, hR, J, hJ, turn, fin⟩ := h2
  refine codeAny_forLoop_any (fun n s' => ∃ i st' o', n = vs.length + 1 - i ∧ i ≤ vs.length ∧ s'.heap.get? it = some o' ∧ I.P i it o' ∧ GoodF g C st' s' ∧ Step (XF g C st.sto) (XI g C it st'.sto) s s' ∧ I.R st'.sto ∧ J i st') ?_ (vs.length + 1) ⟨0, st1, o, rfl, Nat.zero_le _, e, hP, g1, x1, hR, hJ⟩
  rintro n s' ⟨i, st', o', rfl, hi, e', hP', g', x', hR', hJ'⟩
  obtain ⟨hfd, cn, hc, hcn⟩ := I.fields _ _ _ hP'
  by_cases hlt : i < vs.length
  · have hv : vs[i]? = some vs[i] := List.getElem?_eq_getElem hlt
    refine I.item C.A _ s' it o' i _ C.handled g'.toGoodS hR' e' hP' hv _ _ fun x s3 o3 rx e3 hP3 hs3 hg3 ho3 => ?_
    obtain ⟨g3, k3⟩ := g'.poke e' hfd hN hs3 hg3 ho3
    have x3 := Step.trans x' (XI.poke (g := g) (C := C) (st := st') hs3.extBut hg3)
    obtain ⟨hfd3, cn3, hc3, hcn3⟩ := I.fields _ _ _ hP3
    obtain ⟨fs3, hd3⟩ := id hfd3
    refine go_skip e3 hc3 hd3 hcn3 ?_
    refine wpAny_mono (turn i _ st' hv hJ' hR' s3 x g3 rx) (fun _ s4 ⟨st4, g4, x4, q4⟩ => ?_) fun _ _ e => e.elim
    have e4 := XI.keep g3 x4 e3 hfd3 hN (I.nf hP3)
    refine q4.on g4 fun f st5 a s5 q rf g5 x5 => ?_
    have e5 := XI.keep g4 x5 e4 hfd3 hN (I.nf hP3)
    have xx := Step.trans x3 (Step.trans (x4.toXI it) (x5.toXI it))
    cases rf with
    | next => exact ⟨vs.length + 1 - (i + 1), n_turn hlt, i + 1, st5, o3, rfl, hlt, e5, hP3, g5, xx, q.2, q.1⟩
    | cont => exact ⟨vs.length + 1 - (i + 1), n_turn hlt, i + 1, st5, o3, rfl, hlt, e5, hP3, g5, xx, q.2, q.1⟩
    | brk => exact ⟨_, st5, RF.next, g5, XI.drop xx, q⟩
    | ret r => exact ⟨_, st5, RF.ret r, g5, XI.drop xx, q⟩
  · have hi' : i = vs.length := n_end (by assumption) hlt
    subst hi'
    refine I.done C.A _ s' it o' C.handled g'.toGoodS hR' e' hP' _ _ fun s3 hs3 hg3 ho3 => ?_
    obtain ⟨g3, k3⟩ := g'.lose e' hfd hN hs3 hg3 ho3
    have x3 := Step.trans x' (XI.poke (g := g) (C := C) (st := st') hs3 hg3)
    exact (fin st' hJ' hR').on g3 fun f st5 a s5 q rf g5 x5 => ⟨f, st5, rf, g5, XI.drop (Step.trans x3 (x5.toXI it)), q⟩
end
end
section -- P22
section
variable {g : G} {C : Fm g} {st : St} {s : Shared}
noncomputable abbrev kTA (g : G) (C : Fm g) (e : Expr) (Q : St → Prop) : V → St → Prop := fun v st => TA g C e v Q st
theorem TX.assignT {elts : List Expr} {k : Nat} {tpos : Pos} {value : Expr} {pos : Pos} {Q : F → St → Prop} (h : TE g C value (kTA g C (.Tuple elts k tpos) (Q .next)) st)
    (hs : swapsWithSole [.Tuple elts k tpos] value pos.line C.env = pure false) (hw : swappedStores [.Tuple elts k tpos] value C.env = pure none) : TX g C (.Assign [.Tuple elts k tpos] value pos) Q st := fun s gs =>
  Assign_Tuple (h.on gs fun v st1 x s1 q r g1 x1 => wpAny_mono (q s1 x g1 r) (fun _ s2 ⟨st2, g2, x2, q2⟩ => ⟨_, st2, RF.next, g2, Step.trans x1 x2, q2⟩) fun _ _ e => e) hs hw

/-- the two things of a list -/
theorem unpackItems_list2 {a : Addr} {v w : V} {Q : List Value → Shared → Prop} {sto : Sto} {A : Around} (hh : A.handled = none) (gs : GoodS g sto s) (hm : (a, .list [v, w]) ∈ sto)
    (h : ∀ x y s', VR s.heap v x → VR s.heap w y → (∀ b o, s.heap.get? b = some o → s'.heap.get? b = some o) → s'.gens = s.gens → s'.os = s.os → Q [x, y] s') : wpAny g.M A (unpackItems (.ref a) 2 none) Q noE s := by
  obtain ⟨items, hl, rv⟩ := IsLL gs hm
  obtain ⟨x, y, e, rx, ry⟩ := rv.two
  have hne : a ≠ s.heap.objs.size := by obtain ⟨o, ho, _⟩ := hl; exact Nat.ne_of_lt (Heap.lt_size ho)
  have ei : ∀ i : Nat, items[i]? = [x, y][i]? := fun i => by rw [← e]; simp
  have keep : ∀ {h1 h2 : Heap}, (∀ b o, s.heap.get? b = some o → h1.get? b = some o) → Heap.ExtBut s.heap.objs.size h1 h2 → ∀ b o, s.heap.get? b = some o → h2.get? b = some o := fun k1 k2 b o e => k2 b o (Nat.ne_of_lt (Heap.lt_size e)) (k1 b o e)
  unfold unpackItems
  refine wpAny_bind ?_
  unfold notIterableAtAll
  refine wpAny_bind (wpAny_specialOf hl.typeIs slot_list_iter.lookup ?_)
  refine wpAny_pure ?_
  simp only [Bool.false_eq_true, if_false]
  refine wpAny_bind (wpAny_holding (wpAny_pyIter_list hl ?_))
  refine wpAny_bind (wpAny_holding ?_)
  show wpAny _ _ (pyNext _ >>= _) _ _ _
  have k0 : ∀ b o, s.heap.get? b = some o → (s.heap.push { cls := .type "list_iterator", data := .fields #[.ref a, .int 0 0] }).get? b = some o := fun b o e => Heap.get?_push_of_some _ e
  refine wpAny_bind (wpAny_pyNext_list_item (i := 0) ⟨_, Heap.get?_push_size _ rfl, rfl, rfl⟩ (hl.push _) (x := x) (by rw [ei]; rfl) fun h1 hit1 hs1 => ?_)
  have k1 := keep k0 hs1.extBut
  refine wpAny_bind (wpAny_holding ?_)
  show wpAny _ _ (pyNext _ >>= _) _ _ _
  have l1 : h1.IsList a items := (hl.push _).extBut hs1.extBut hne
  refine wpAny_bind (wpAny_pyNext_list_item hit1 l1 (x := y) (by rw [ei]; rfl) fun h2 hit2 hs2 => ?_)
  have k2 := keep k1 hs2.extBut
  have l2 : h2.IsList a items := l1.extBut hs2.extBut hne
  refine wpAny_bind (wpAny_holding (wpAny_pure ?_))
  refine wpAny_pure ?_
  refine wpAny_pure ?_
  first | refine iteF (by simp) ?_ | rw [if_neg (by simp)]
  refine wpAny_bind (wpAny_holding (wpAny_pyNext_list_end hh hit2 l2 (by rw [ei]; rfl) fun h3 hs3 => ?_))
  simp only [Option.isSome_none, Bool.false_eq_true, if_false]
  exact wpAny_pure (h x y _ rx ry (keep k2 hs3) rfl rfl)
theorem TA.list2 {x y : Str} {px py p : Pos} {k : Nat} {a : Addr} {v w : V} {Q : St → Prop} (hm : (a, .list [v, w]) ∈ st.sto) (hx : Stores g C x) (hy : Stores g C y) (q : Q ⟨set (set st.loc x v) y w, st.sto⟩) :
    TA g C (.Tuple [.Name x px, .Name y py] k p) (.ref a) Q st := fun s z gs r => by
  cases r
  rw [assign_Tuple]
  refine wpAny_bind (wpAny_standAt ?_)
  show wpAny g.M C.A (unpack (.ref a) [(false, assign (.Name x px) C.env), (false, assign (.Name y py) C.env)]) _ _ s
  unfold unpack
  show wpAny g.M C.A (holding [.ref a] (unpackItems (.ref a) 2 none) >>= fun items => assignInOrder [assign (.Name x px) C.env, assign (.Name y py) C.env] items) _ _ s
  refine wpAny_bind (wpAny_holding (unpackItems_list2 C.handled gs.toGoodS hm fun u v s' r1 r2 hk hg ho => ?_))
  obtain ⟨g1, x1⟩ := gs.ext (s' := s') hk hg ho
  refine wpAny_mono (assigns [(x, px), (y, py)] [_, _] [u, v] st s' Q g1 (.cons (r1.mono fun b its m e => hk _ _ e) (.cons (r2.mono fun b its m e => hk _ _ e) .nil)) (fun p hp => by
    rcases List.mem_cons.mp hp with rfl | hp
    · exact hx
    · rw [List.mem_singleton] at hp; subst hp; exact hy) q rfl) (fun _ s3 ⟨st3, g3, x3, q3⟩ => ⟨st3, g3, Step.trans x1 x3, q3⟩) fun _ _ e => e.elim
end
end
section -- P23
section
variable {g : G} {C : Fm g} {st : St} {s : Shared}
noncomputable abbrev testsOf (ifs : List Expr) (env : Env) : Sem Bool := forIn ifs true fun c r => if r = true then do let ok ← isTrue c env (eval c env); pure (ForInStep.yield ok) else pure (ForInStep.yield r)
noncomputable abbrev TTs (g : G) (C : Fm g) (ifs : List Expr) (Q : Bool → St → Prop) (st : St) : Prop := Tr RB g C (testsOf ifs C.env) Q st
theorem TTs.nil {Q : Bool → St → Prop} (q : Q true st) : TTs g C [] Q st := fun s gs => wpAny_tests_nil (Po.here gs rfl q)
theorem TTs.one {c : Expr} {Q : Bool → St → Prop} (h : TT g C c Q st) : TTs g C [c] Q st := fun s gs => wpAny_tests_one (h s gs)
noncomputable abbrev TAct (g : G) (C : Fm g) (act : Sem Unit) (Q : St → Prop) (st : St) : Prop := Tr RU g C act (fun _ => Q) st

noncomputable abbrev turnOf (target iter : Expr) (ifs : List Expr) (it : Value) (act : Sem Unit) (more : Code) (env : Env) : Sem Fin := do
  standAt iter.pos
  match ← pyNext it with
  | none => pure (.done .next)
  | some v =>
    letOwnedTupleGo target it v
    assign target env v
    let mut ok := true
    for c in ifs do
      if ok then ok ← isTrue c env (eval c env)
    if ok then act
    again more

/-- one clause's loop -/
theorem compLoop {elt target iter : Expr} {gens : List Comprehension} {scope : Scope} {pos : Pos} {ifs : List Expr} {d : Nat} {it : Addr} {acc : Value} {act : Sem Unit} {vs : List V} (I : Iter g vs) (J : Nat → St → Prop) {R : Result → Shared → Prop}
    (hturn : compTurn (.ListComp elt gens scope pos) d (.ref it) acc C.env = turnOf target iter ifs (.ref it) act (.compLoop (.ListComp elt gens scope pos) d (.ref it) acc C.env) C.env)
    (gs : GoodF g C st s) {o : Obj} (hN : g.H.objs.size ≤ it) (ho : s.heap.get? it = some o) (hP : I.P 0 it o) (hR : I.R st.sto) (hJ : J 0 st)
    (turn : ∀ i v st2, vs[i]? = some v → J i st2 → I.R st2.sto → TA g C target v (fun st3 => TTs g C ifs (fun b st4 => if b then TAct g C act (fun st5 => J (i + 1) st5 ∧ I.R st5.sto) st4 else J (i + 1) st4 ∧ I.R st4.sto) st3) st2)
    (fin : ∀ st' s', GoodF g C st' s' → Step (XI g C it st.sto) (XI g C it st'.sto) s s' → J vs.length st' → I.R st'.sto → R (.ok .next) s') :
    codeAny g.M C.A (.compLoop (.ListComp elt gens scope pos) d (.ref it) acc C.env) R s := by
  refine codeAny_loop rfl (fun n s' => ∃ i st' o', n = vs.length + 1 - i ∧ i ≤ vs.length ∧ s'.heap.get? it = some o' ∧ I.P i it o' ∧ GoodF g C st' s' ∧ Step (XI g C it st.sto) (XI g C it st'.sto) s s' ∧ I.R st'.sto ∧ J i st') ?_
    (vs.length + 1) ⟨0, st, o, rfl, Nat.zero_le _, ho, hP, gs, Step.refl _ _, hR, hJ⟩
  rintro n s' ⟨i, st', o', rfl, hi, e', hP', g', x', hR', hJ'⟩
  show wpAny _ C.A ((compTurn (.ListComp elt gens scope pos) d (.ref it) acc C.env).onRaise (fun x => do noteFrame x C.env; theTreesLotGoes x)) _ _ s'
  refine wpAny_noted ?_
  rw [hturn]
  refine wpAny_bind (wpAny_standAt (wpAny_bind ?_))
  obtain ⟨hfd, cn, hc, hcn⟩ := I.fields _ _ _ hP'
  by_cases hlt : i < vs.length
  · have hv : vs[i]? = some vs[i] := List.getElem?_eq_getElem hlt
    refine I.item C.A _ s' it o' i _ C.handled g'.toGoodS hR' e' hP' hv _ _ fun x s3 o3 rx e3 hP3 hs3 hg3 ho3 => ?_
    obtain ⟨g3, k3⟩ := g'.poke e' hfd hN hs3 hg3 ho3
    have x3 := Step.trans x' (XI.poke (g := g) (C := C) (st := st') hs3.extBut hg3)
    obtain ⟨hfd3, cn3, hc3, hcn3⟩ := I.fields _ _ _ hP3
    obtain ⟨fs3, hd3⟩ := id hfd3
    refine wpAny_bind (go_skip e3 hc3 hd3 hcn3 ?_)
    refine wpAny_bind (wpAny_mono (turn i _ st' hv hJ' hR' s3 x g3 rx) (fun _ s4 ⟨st4, g4, x4, q4⟩ => ?_) fun _ _ e => e.elim)
    have e4 := XI.keep g3 x4 e3 hfd3 hN (I.nf hP3)
    refine wpAny_bind (q4.on g4 fun b st5 a s5 q rb g5 x5 => ?_)
    have e5 := XI.keep g4 x5 e4 hfd3 hN (I.nf hP3)
    have xx := Step.trans x3 (Step.trans (x4.toXI it) (x5.toXI it))
    cases rb
    cases b with
    | false => exact wpAny_pure ⟨rfl, vs.length + 1 - (i + 1), n_turn hlt, i + 1, st5, o3, rfl, hlt, e5, hP3, g5, xx, q.2, q.1⟩
    | true =>
      refine wpAny_bind ((show TAct g C act _ st5 from q).on g5 fun _ st6 _ s6 q6 _ g6 x6 => ?_)
      have e6 := XI.keep g5 x6 e5 hfd3 hN (I.nf hP3)
      exact wpAny_pure ⟨rfl, vs.length + 1 - (i + 1), n_turn hlt, i + 1, st6, o3, rfl, hlt, e6, hP3, g6, Step.trans xx (x6.toXI it), q6.2, q6.1⟩
  · have hi' : i = vs.length := n_end (by assumption) hlt
    subst hi'
    refine I.done C.A _ s' it o' C.handled g'.toGoodS hR' e' hP' _ _ fun s3 hs3 hg3 ho3 => ?_
    obtain ⟨g3, k3⟩ := g'.lose e' hfd hN hs3 hg3 ho3
    exact wpAny_pure (fin st' s3 g3 (Step.trans x' (XI.poke (g := g) (C := C) (st := st') hs3 hg3)) hJ' hR')

/-- the start of a clause's loop -/
theorem compStart_at {elt : Expr} {gens : List Comprehension} {scope : Scope} {pos : Pos} {d : Nat} {it : Addr} {acc : Value} {env : Env} {A : Around} {R : Result → Shared → Prop} {target iter : Expr} {ifs : List Expr} {vs : List V} (I : Iter g vs) {i : Nat} {o : Obj}
    (hg : gens[d]? = some ⟨target, iter, ifs, 0⟩) (ho : s.heap.get? it = some o) (hP : I.P i it o)
    (h : codeAny g.M A (.compLoop (.ListComp elt gens scope pos) d (.ref it) acc env) R s) : codeAny g.M A (.compStart (.ListComp elt gens scope pos) d (.ref it) acc env) R s := by
  refine codeAny_of_tree ?_
  show wpAny _ _ ((compStart (.ListComp elt gens scope pos) d (.ref it) acc env).onRaise (fun x => do noteFrame x env; standAt theWindowsPlace)) _ _ s
  refine wpAny_notedAt ?_
  unfold compStart
  rw [show clausesOf (.ListComp elt gens scope pos) = gens from rfl, hg]
  show wpAny _ _ (ask >>= _) _ _ s
  refine wpAny_bind (wpAny_askSetting (wpAny_ite ?_))
  split
  · first
      | exact wpAny_bind (wpAny_pure (wpAny_pure (And.intro rfl h)))
      | exact wpAny_pure (And.intro rfl h)
  · refine wpAny_bind (wpAny_rule ?_)
    show wpAny _ _ (standAt iter.pos >>= _) _ _ s
    exact wpAny_bind (wpAny_standAt (wpAny_bind (I.self _ s it o i ho hP _ _ (wpAny_pure (And.intro rfl h)))))
end
end
section -- P24
theorem cellsList {env : Env} : ∀ (ns : List (Str × NameKind)) (acc : List (Str × Addr)), (∀ p ∈ ns, p.2 = .free → ∃ c, env.cells.lookup p.1 = some c) →
    ∃ cl : List (Str × Addr), (forIn ns acc fun (x : Str × NameKind) r => (do if (x.2 == NameKind.free) = true then (do let a ← cellOf env x.1; pure (ForInStep.yield ((x.1, a) :: r))) else pure (ForInStep.yield r) : Sem (ForInStep (List (Str × Addr))))) = pure cl ∧
      (∀ p ∈ cl, p ∈ acc ∨ env.cells.lookup p.1 = some p.2) ∧ (∀ p ∈ acc, p ∈ cl) ∧ ∀ p ∈ ns, p.2 = .free → ∃ c, (p.1, c) ∈ cl
  | [], acc, _ => ⟨acc, rfl, fun p h => .inl h, fun p h => h, fun p h => by cases h⟩
  | (x, k) :: ns, acc, h => by
    rw [List.forIn_cons]
    by_cases hk : k = .free
    · obtain ⟨c, hc⟩ := h (x, k) List.mem_cons_self hk
      obtain ⟨cl, e, h1, h2, h3⟩ := cellsList (env := env) ns ((x, c) :: acc) fun p hp => h p (List.mem_cons_of_mem _ hp)
      refine ⟨cl, ?_, fun p hp => ?_, fun p hp => h2 p (List.mem_cons_of_mem _ hp), fun p hp hf => ?_⟩
      · subst hk
        simp only [cellOf, hc]
        exact e
      · rcases h1 p hp with hp | hp
        · rcases List.mem_cons.mp hp with rfl | hp
          · exact .inr hc
          · exact .inl hp
        · exact .inr hp
      · rcases List.mem_cons.mp hp with rfl | hp
        · exact ⟨c, h2 _ List.mem_cons_self⟩
        · exact h3 p hp hf
    · obtain ⟨cl, e, h1, h2, h3⟩ := cellsList (env := env) ns acc fun p hp => h p (List.mem_cons_of_mem _ hp)
      refine ⟨cl, ?_, h1, h2, fun p hp hf => ?_⟩
      · have : (k == NameKind.free) = false := by cases k <;> first | rfl | exact absurd rfl hk
        simp only [this]
        exact e
      · rcases List.mem_cons.mp hp with rfl | hp
        · exact absurd hf hk
        · exact h3 p hp hf
theorem closure_ok {scope : Scope} {env : Env} (h : ∀ p ∈ scope.names, p.2 = .free → ∃ c, env.cells.lookup p.1 = some c) :
    ∃ cl, closureFor scope env = pure cl ∧ (∀ x c, cl.lookup x = some c → env.cells.lookup x = some c) ∧ ∀ x, scope.names.lookup x = some .free → ∃ c, cl.lookup x = some c := by
  obtain ⟨cl, e, h1, h2, h3⟩ := cellsList (env := env) scope.names [] h
  refine ⟨cl, ?_, fun x c hx => ?_, fun x hx => ?_⟩
  · unfold closureFor
    exact congrArg (fun m => m >>= fun r => pure r) e
  · rcases h1 _ (mem_of_lookup hx) with h | h
    · cases h
    · exact h
  · obtain ⟨c, hc⟩ := h3 _ (mem_of_lookup hx) rfl
    cases hl : cl.lookup x with
    | none => exact absurd (List.lookup_eq_none_iff.mp hl _ hc) (by simp)
    | some c => exact ⟨c, rfl⟩

theorem relabel_kind {scope : Scope} {env : Env} {x : Str} {k : NameKind} (h : scope.names.lookup x = some k) : (k ≠ .free → (relabel scope env).names.lookup x = some k) ∧
    (k = .free → (relabel scope env).names.lookup x = some NameKind.free ∨ (relabel scope env).names.lookup x = some NameKind.cell) := by
  simp only [relabel]
  generalize scope.names = ns at h
  induction ns with
  | nil => simp at h
  | cons p ns ih =>
    obtain ⟨n, k'⟩ := p
    rw [List.map_cons]
    by_cases hx : x = n
    · subst hx
      simp only [List.lookup_cons, beq_self_eq_true] at h
      cases h
      constructor
      · intro hk
        have : (k == NameKind.free) = false := by cases k <;> first | rfl | exact absurd rfl hk
        simp [this, List.lookup_cons]
      · rintro rfl
        dsimp only
        by_cases hc : ((NameKind.free == NameKind.free) && env.scope.kind == .function && env.kindOf x == some .cell) = true
        · right; rw [if_pos hc, List.lookup_cons, beq_self_eq_true]
        · left; rw [if_neg hc, List.lookup_cons, beq_self_eq_true]
    · have hb : (x == n) = false := beq_eq_false_iff_ne.mpr hx
      rw [List.lookup_cons, hb] at h
      have ih' := ih h
      dsimp only
      by_cases hc : ((k' == NameKind.free) && env.scope.kind == .function && env.kindOf n == some .cell) = true
      · rw [if_pos hc, List.lookup_cons, hb]; exact ih'
      · rw [if_neg hc, List.lookup_cons, hb]; exact ih'
section
variable {g : G} {C : Fm g} {st : St} {s s' : Shared}
/-- the frame of a comprehension in C -/
structure CompOf (g : G) (C : Fm g) (scope : Scope) (C' : Fm g) : Prop where
  scope : C'.env.scope = relabel scope C.env
  n : C'.n = C.n
theorem CompOf.kindOf {scope : Scope} {C' : Fm g} (h : CompOf g C scope C') (x : Str) {k : NameKind} (hk : scope.names.lookup x = some k) (hn : k ≠ .free) : C'.env.kindOf x = some k := by
  show C'.env.scope.names.lookup x = _
  rw [h.scope]; exact (relabel_kind hk).1 hn
theorem CompOf.stores {scope : Scope} {C' : Fm g} (h : CompOf g C scope C') (x : Str) (hk : scope.names.lookup x = some .local) (hx : x ≠ "_initial_size") : Stores g C' x := .inl ⟨h.kindOf x hk (by decide), hx⟩

theorem cell_dict {N : Nat} {a L : Addr} {c : Cell} {h h' : Heap} {m : Str → Option Value} (x : CellR h N a c) (k : TupK h h') (n : h.Ns L m) (hi : m "_initial_size" = none) (ha : a ≠ L) (hs : Heap.SameBut L h h') : CellR h' N a c :=
  x.keep k (fun o e => (hs.2 a ha).trans e) fun d y hn _ => hn.sameBut hs fun h => by
    subst h
    have := Ns.one n hn "_initial_size"
    rw [hi] at this; simp [only] at this
/-- the locals of a frame that is done are changed -/
theorem GoodF.pokeDict (gs : GoodF g C st s) {L : Addr} {m : Str → Option Value} (n : s.heap.Ns L m) (hi : m "_initial_size" = none) (hN : g.H.objs.size ≤ L) (hL : L ≠ C.env.locals) (hs : Heap.SameBut L s.heap s'.heap) (hg : s'.gens = s.gens) (ho : s'.os = s.os) : GoodF g C st s' := by
  obtain ⟨oL, es, ep, eL, hdL, _⟩ := id n
  have k : TupK s.heap s'.heap := fun b items n' e => (hs.2 b fun h => by subst h; rw [eL] at e; cases e; cases hdL).trans e
  have kc : ∀ a v, s.heap.IsCell a v → s'.heap.IsCell a v := fun a v x => x.sameBut hs fun h => by
    subst h; obtain ⟨o', e', hd'⟩ := x; rw [eL] at e'; cases e'; rw [hdL] at hd'; cases hd'
  have nX : ¬ XS g st.sto L := XS.noDict gs.toGoodS eL (.inl ⟨es, ep, hdL⟩)
  refine ⟨⟨gs.base.same hN hs (tab_lt g), fun p hp => cell_dict (gs.cells p hp) k n hi (fun h => nX (.inl (h ▸ List.mem_map_of_mem hp))) hs, gs.new, gs.nodup, ho.trans gs.os, hg ▸ gs.bare⟩, ?_, fun b hb => let ⟨v, h⟩ := gs.cellsAre b hb; ⟨v, kc _ _ h⟩⟩
  obtain ⟨m', n', hi', l⟩ := gs.loc
  refine ⟨m', n'.sameBut hs (Ne.symm hL), hi', fun p hp => ?_⟩
  obtain ⟨v, b, r⟩ := l p hp
  refine ⟨v, ?_, r.mono k⟩
  rcases b with b | ⟨b, c, h1, h2⟩
  · exact .inl b
  · exact .inr ⟨b, c, h1, kc _ _ h2⟩
/-- behind a piece that ran in another frame: ours stands -/
theorem GoodF.backH {sto' : Sto} {X' : Addr → Prop} {it : Addr} (gs : GoodF g C st s) (gs' : GoodS g sto' s') (x : Step (fun b => XS g st.sto b ∨ b = it) X' s s') (hit : ∀ o, s.heap.get? it = some o → ∃ fs, o.data = .fields fs) : GoodF g C ⟨st.loc, sto'⟩ s' := by
  have nd : ∀ a o, s.heap.get? a = some o → ((∃ es n, o.data = .dict es n) ∨ ∃ v, o.data = .cell v) → ¬ (XS g st.sto a ∨ a = it) := fun a o e h => by
    rintro (h1 | h1)
    · exact XS.noDict gs.toGoodS e h h1
    · subst h1
      obtain ⟨fs, hf⟩ := hit o e
      rcases h with ⟨es, n, h⟩ | ⟨v, h⟩ <;> · rw [hf] at h; cases h
  have kc : ∀ a v, s.heap.IsCell a v → s'.heap.IsCell a v := fun a v h => IsCell.same h fun o e q => x.keep a o e (nd a o e (.inr q))
  have kt : TupK s.heap s'.heap := fun a items n e => x.tuple e (by
    rintro (h1 | h1)
    · exact XS.noTuple gs.toGoodS e h1
    · subst h1
      obtain ⟨fs, hf⟩ := hit _ e
      cases hf) (by simp)
  refine ⟨gs', ?_, fun b hb => let ⟨v, h⟩ := gs.cellsAre b hb; ⟨v, kc _ _ h⟩⟩
  obtain ⟨m, n, hi, l⟩ := gs.loc
  refine ⟨m, Ns.same n fun o e q => x.keep _ o e (nd _ o e (.inl q)), hi, fun p hp => ?_⟩
  obtain ⟨v, b, r⟩ := l p hp
  refine ⟨v, ?_, r.mono kt⟩
  rcases b with b | ⟨b, c, h1, h2⟩
  · exact .inl b
  · exact .inr ⟨b, c, h1, kc _ _ h2⟩
end
end
section -- P25
section
variable {g : G} {C : Fm g} {st : St} {s s' : Shared}
noncomputable def compFm (C : Fm g) (scope : Scope) (cl : List (Str × Addr)) (L : Addr) (hk : scope.kind = .function) (hL : g.H.objs.size ≤ L) (hc : ∀ x c, cl.lookup x = some c → C.env.cells.lookup x = some c) : Fm g :=
  { A := C.A, env := compEnvC scope cl L C.env, n := C.n, kind := hk, globals := C.globals, builtins := C.builtins, depth := C.depth, units := C.units, handled := C.handled, new := hL,
    cinj := fun x y c h1 h2 => C.cinj x y c (hc _ _ h1) (hc _ _ h2), own := fun _ => False, ownN := fun _ h => h.elim }

theorem comp_core {elt target iter : Expr} {ifs : List Expr} {rest : List Comprehension} {scope : Scope} {pos pos' : Pos} {use : Option (Value → Sem Unit)} {Qv : Value → Shared → Prop} {act : Value → Env → Sem Unit} {K : V → St → Prop}
    (hkind : scope.kind = .function) (hcell : ∀ x ∈ scope.names, x.2 ≠ .cell) (hnames : ∀ x ∈ scope.names, x.2 = .local → scope.names.lookup x.1 = some .local) (hfree : ∀ p ∈ scope.names, p.2 = .free → ∃ c, C.env.cells.lookup p.1 = some c)
    (hs : ∀ x, foldedSetIterable iter C.env x = pure x)
    (hturn : ∀ (env : Env) (it : Addr) (acc : Value), compTurn (.ListComp elt (⟨target, iter, ifs, 0⟩ :: rest) scope pos) 0 (.ref it) acc env = turnOf target iter ifs (.ref it) (act acc env) (.compLoop (.ListComp elt (⟨target, iter, ifs, 0⟩ :: rest) scope pos) 0 (.ref it) acc env) env)
    (gs : GoodF g C st s)
    (h : TSrc g C iter (fun vs I st1 => ∀ (C' : Fm g) (D : Addr), CompOf g C scope C' → (∀ p ∈ st1.sto, p.1 ≠ D) → I.R st1.sto → ∃ (fr : Loc) (J : Nat → St → Prop), (∀ p ∈ fr, p ∈ st1.loc ∧ scope.names.lookup p.1 = some .free ∧ C.env.kindOf p.1 ≠ some .local) ∧
      J 0 ⟨fr, (D, .list []) :: st1.sto⟩ ∧
      (∀ i v st2, vs[i]? = some v → J i st2 → I.R st2.sto → TA g C' target v (fun st3 => TTs g C' ifs (fun b st4 => if b then TAct g C' (act (.ref D) C'.env) (fun st5 => J (i + 1) st5 ∧ I.R st5.sto) st4 else J (i + 1) st4 ∧ I.R st4.sto) st3) st2) ∧
      (∀ st2, J vs.length st2 → I.R st2.sto → K (.ref D) ⟨st1.loc, st2.sto⟩)) st)
    (post : ∀ D st2 s' L m, GoodF g C st2 s' → Step (XF g C st.sto) (fun b => XF g C st2.sto b ∨ b = L) s s' → s'.heap.Ns L m → m "_initial_size" = none → g.H.objs.size ≤ L → L ≠ C.env.locals → K (.ref D) st2 → compPost g.M C.A noE use Qv (.ref D) L (.ok .next) s') :
    wpAny g.M C.A (comprehension (.ListComp elt (⟨target, iter, ifs, 0⟩ :: rest) scope pos) scope C.env pos' (newList []) false (eval iter C.env) use) Qv noE s := by
  obtain ⟨cl, hclos, hcl1, hcl2⟩ := closure_ok (env := C.env) hfree
  refine wpAny_comprehension_free (g := ⟨target, iter, ifs, 0⟩) (gs := rest) rfl hs hclos hkind hnames (wpAny_mono (h s gs) (fun x s1 h1 => wpAny_mono h1 (fun itv s2 h2 => ?_) fun _ _ e => e.elim) fun _ _ e => e.elim)
  obtain ⟨it, vs, I, st1, o, rfl, hN, e, hP, g1, x1, hR, k⟩ := h2
  refine wpAny_newObj_type (hd := by size_fits) ?_
  obtain ⟨g3, x3⟩ := g1.newList (s' := { s2 with heap := s2.heap.push { cls := .type "list", data := .seq ([] : List Value).toArray } }) (items := ([] : List Value).toArray) (vs := []) VRs.nil rfl rfl rfl
  have hf := g1.toGoodS.fresh
  have hD0 := none_size (h := s2.heap) (a := s2.heap.objs.size) (Nat.le_refl _)
  have e3 : ({ s2 with heap := s2.heap.push { cls := .type "list", data := .seq ([] : List Value).toArray } } : Shared).heap.get? it = some o := Heap.get?_push_of_some _ e
  generalize hD : s2.heap.objs.size = D at *
  generalize hs3 : ({ s2 with heap := s2.heap.push { cls := .type "list", data := .seq ([] : List Value).toArray } } : Shared) = s3 at *
  refine wpAny_newFunctionEnv hcell (by intro y hy; simp at hy) (fun h₁ hns₁ hsb₁ => ?_) hkind
  have hL : g.H.objs.size ≤ s3.heap.objs.size := g3.base.size
  have hL0 := none_size (h := s3.heap) (a := s3.heap.objs.size) (Nat.le_refl _)
  have k4 : ∀ b o, s3.heap.get? b = some o → h₁.get? b = some o := fun b o e => hsb₁.extBut b o (Nat.ne_of_lt (Heap.lt_size e)) (Heap.get?_push_of_some _ e)
  generalize hLL : s3.heap.objs.size = L at *
  let C' := compFm C scope cl L hkind hL hcl1
  have cof : CompOf g C scope C' := ⟨rfl, rfl⟩
  obtain ⟨fr, J, hfr, hJ, turn, fin⟩ := k C' D cof hf hR
  -- the comprehension's frame stands
  have g4 : GoodS g ((D, .list []) :: st1.sto) { s3 with heap := h₁, toks := s3.toks + ([] : List (Str × Value)).length } := g3.toGoodS.ext k4 rfl rfl
  have gC : GoodF g C' ⟨fr, (D, .list []) :: st1.sto⟩ { s3 with heap := h₁, toks := s3.toks + ([] : List (Str × Value)).length } := by
    refine ⟨g4, ⟨_, hns₁, rfl, fun p hp => ?_⟩, fun b hb => hb.elim⟩
    obtain ⟨h1, h2, h3⟩ := hfr p hp
    obtain ⟨m, n, _, l⟩ := g3.loc
    obtain ⟨v, b, r⟩ := l p h1
    refine ⟨v, .inr ⟨?_, ?_⟩, r.mono fun a items n e => k4 _ _ e⟩
    · show (relabel scope C.env).names.lookup p.1 = _ ∨ (relabel scope C.env).names.lookup p.1 = _
      exact ((relabel_kind h2).2 rfl).symm
    · rcases b with ⟨b, _⟩ | ⟨_, c, hc1, hc2⟩
      · exact absurd b h3
      · obtain ⟨c', hc'⟩ := hcl2 _ h2
        have := hcl1 _ _ hc'
        rw [hc1] at this; cases this
        exact ⟨c, hc', IsCell.same hc2 fun o e _ => ⟨o, k4 _ _ e, .refl o⟩⟩
  have e4 : h₁.get? it = some o := k4 _ _ e3
  have hfd := (I.fields _ _ _ hP).1
  have hR4 : I.R ((D, Cell.list []) :: st1.sto) := I.mono _ _ hR fun p hp => List.mem_cons_of_mem _ hp
  refine compStart_at (env := C'.env) I rfl e4 hP ?_
  refine compLoop (C := C') (st := ⟨fr, (D, .list []) :: st1.sto⟩) I J (hturn C'.env it (.ref D)) gC hN e4 hP hR4 hJ turn fun st' s' g' x' hJ' hR' => ?_
  -- back in our frame
  have x24 : Step (fun b => XS g st1.sto b ∨ b = it) (XI g C' it ((D, .list []) :: st1.sto)) s2 { s3 with heap := h₁, toks := s3.toks + ([] : List (Str × Value)).length } :=
    ⟨fun b o eb _ => ⟨o, k4 b o (by rw [← hs3]; exact Heap.get?_push_of_some _ eb), .refl o⟩, fun b hb => by
      rcases hb with ((hb | hb) | hb | hb) | hb
      · rcases List.mem_cons.mp hb with rfl | hb
        · exact .inr hD0
        · exact .inl (.inl (.inl hb))
      · exact .inl (.inl (.inr hb))
      · refine .inr fun o eo => ?_
        have hb : b = L := hb
        subst hb
        exact hL0 o (by rw [← hs3]; exact Heap.get?_push_of_some _ eo)
      · exact hb.elim
      · exact .inl (.inr hb), fun _ _ => by rw [← hs3], by rw [← hs3]; exact Nat.le_refl _⟩
  have x2' := Step.trans x24 x'
  have hit : ∀ o', s2.heap.get? it = some o' → ∃ fs, o'.data = .fields fs := fun o' eo => by rw [e] at eo; cases eo; exact hfd
  have gB := g1.backH g'.toGoodS x2' hit
  obtain ⟨mL, nL, hiL, _⟩ := g'.loc
  have hLC : L ≠ C.env.locals := by
    obtain ⟨m, ⟨o', es, ep, eo, _⟩, _⟩ := g3.loc
    intro hh
    exact hL0 o' (hh ▸ eo)
  refine post D ⟨st1.loc, st'.sto⟩ s' L mL gB ?_ nL hiL hL hLC (fin st' hJ' hR')
  refine Step.trans x1 (Step.weaken x2' (fun d hd => ?_) fun d hd => ?_)
  · rcases hd with hd | hd
    · exact .inl (.inl hd)
    · exact .inr hd
  · rcases hd with (hd | hd | hd) | hd
    · rcases x2'.grow d (.inl (.inl hd)) with (h1 | h1) | h1
      · exact .inl (.inl (.inl h1))
      · exact .inl (.inr h1)
      · exact .inr h1
    · exact .inl (.inl (.inr (.inl hd)))
    · exact .inl (.inl (.inr (.inr hd)))
    · refine .inr fun o eo => hL0 o ?_
      have hd : d = L := hd
      rw [← hd, ← hs3]; exact Heap.get?_push_of_some _ eo

/-- list(..), and a name for it -/
theorem TE.comp {elt target iter : Expr} {ifs : List Expr} {rest : List Comprehension} {scope : Scope} {pos : Pos} {act : Value → Env → Sem Unit} {Q : V → St → Prop}
    (hturn : ∀ (env : Env) (it : Addr) (acc : Value), compTurn (.ListComp elt (⟨target, iter, ifs, 0⟩ :: rest) scope pos) 0 (.ref it) acc env = turnOf target iter ifs (.ref it) (act acc env) (.compLoop (.ListComp elt (⟨target, iter, ifs, 0⟩ :: rest) scope pos) 0 (.ref it) acc env) env)
    (hfree : ∀ p ∈ scope.names, p.2 = .free → ∃ c, C.env.cells.lookup p.1 = some c)
    (h : TSrc g C iter (fun vs I st1 => ∀ (C' : Fm g) (D : Addr), CompOf g C scope C' → (∀ p ∈ st1.sto, p.1 ≠ D) → I.R st1.sto → ∃ (fr : Loc) (J : Nat → St → Prop), (∀ p ∈ fr, p ∈ st1.loc ∧ scope.names.lookup p.1 = some .free ∧ C.env.kindOf p.1 ≠ some .local) ∧
      J 0 ⟨fr, (D, .list []) :: st1.sto⟩ ∧
      (∀ i v st2, vs[i]? = some v → J i st2 → I.R st2.sto → TA g C' target v (fun st3 => TTs g C' ifs (fun b st4 => if b then TAct g C' (act (.ref D) C'.env) (fun st5 => J (i + 1) st5 ∧ I.R st5.sto) st4 else J (i + 1) st4 ∧ I.R st4.sto) st3) st2) ∧
      (∀ st2, J vs.length st2 → I.R st2.sto → Q (.ref D) ⟨st1.loc, st2.sto⟩)) st)
    (hkind : scope.kind = .function) (hcell : ∀ x ∈ scope.names, x.2 ≠ .cell) (hnames : ∀ x ∈ scope.names, x.2 = .local → scope.names.lookup x.1 = some .local) (hs : ∀ x, foldedSetIterable iter C.env x = pure x) :
    TE g C (.ListComp elt (⟨target, iter, ifs, 0⟩ :: rest) scope pos) Q st := fun s gs => by
  rw [eval_ListComp]
  refine comp_core (K := Q) (use := Option.none) hkind hcell hnames hfree hs hturn gs h fun D st2 s' L m g2 x2 nL hi hN hLC q => ⟨m, nL, fun h' hs' => ?_⟩
  have gp := g2.pokeDict (s' := { s' with heap := h' }) nL hi hN hLC hs' rfl rfl
  refine ⟨.ref D, st2, VR.ref _, gp, ?_, q⟩
  have x3 : Step (fun b => XF g C st2.sto b ∨ b = L) (fun b => XF g C st2.sto b ∨ b = L) s' { s' with heap := h' } := Step.but (.inr rfl) (fun b o n e => (hs'.2 b n).trans e) rfl
  exact Step.weaken (Step.trans x2 x3) (fun _ h => h) fun d hd => (Step.trans x2 x3).grow d (.inl hd)
theorem TX.assignComp {elt target iter : Expr} {ifs : List Expr} {rest : List Comprehension} {scope : Scope} {pos spos py : Pos} {y : Str} {act : Value → Env → Sem Unit} {Q : F → St → Prop}
    (hturn : ∀ (env : Env) (it : Addr) (acc : Value), compTurn (.ListComp elt (⟨target, iter, ifs, 0⟩ :: rest) scope pos) 0 (.ref it) acc env = turnOf target iter ifs (.ref it) (act acc env) (.compLoop (.ListComp elt (⟨target, iter, ifs, 0⟩ :: rest) scope pos) 0 (.ref it) acc env) env)
    (hfree : ∀ p ∈ scope.names, p.2 = .free → ∃ c, C.env.cells.lookup p.1 = some c)
    (hsw : swapsWith (.ListComp elt (⟨target, iter, ifs, 0⟩ :: rest) scope pos) (some (.Name y py)) spos.line C.env = pure true) (hy : C.env.kindOf y = some .local) (hyi : y ≠ "_initial_size")
    (h : TSrc g C iter (fun vs I st1 => ∀ (C' : Fm g) (D : Addr), CompOf g C scope C' → (∀ p ∈ st1.sto, p.1 ≠ D) → I.R st1.sto → ∃ (fr : Loc) (J : Nat → St → Prop), (∀ p ∈ fr, p ∈ st1.loc ∧ scope.names.lookup p.1 = some .free ∧ C.env.kindOf p.1 ≠ some .local) ∧
      J 0 ⟨fr, (D, .list []) :: st1.sto⟩ ∧
      (∀ i v st2, vs[i]? = some v → J i st2 → I.R st2.sto → TA g C' target v (fun st3 => TTs g C' ifs (fun b st4 => if b then TAct g C' (act (.ref D) C'.env) (fun st5 => J (i + 1) st5 ∧ I.R st5.sto) st4 else J (i + 1) st4 ∧ I.R st4.sto) st3) st2) ∧
      (∀ st2, J vs.length st2 → I.R st2.sto → Q .next ⟨set st1.loc y (.ref D), st2.sto⟩)) st)
    (hkind : scope.kind = .function) (hcell : ∀ x ∈ scope.names, x.2 ≠ .cell) (hnames : ∀ x ∈ scope.names, x.2 = .local → scope.names.lookup x.1 = some .local) (hs : ∀ x, foldedSetIterable iter C.env x = pure x) :
    TX g C (.Assign [.Name y py] (.ListComp elt (⟨target, iter, ifs, 0⟩ :: rest) scope pos) spos) Q st := fun s gs => by
  rw [exec_Assign_Name_used _ _ _ _ hsw]
  refine wpAny_bind (wpAny_standAt (wpAny_bind ?_))
  show wpAny _ C.A (do let _ ← comprehension (.ListComp elt (⟨target, iter, ifs, 0⟩ :: rest) scope pos) scope C.env _ (newList []) false (eval iter C.env) (some (PySem.assign (.Name y py) C.env))) _ _ s
  refine wpAny_bind (wpAny_mono (comp_core (K := fun v st2 => Q .next ⟨set st2.loc y v, st2.sto⟩) (use := some (PySem.assign (.Name y py) C.env)) (Qv := fun _ s' => Po RF g C st s Q .next s') hkind hcell hnames hfree hs hturn gs h fun D st2 s' L m g2 x2 nL hi hN hLC q => ?_) (fun _ s' hq => wpAny_pure (wpAny_pure hq)) fun _ _ e => e)
  show wpAny _ C.A (PySem.assign (.Name y py) C.env (.ref D)) _ _ _
  refine wpAny_assign_Name ?_
  obtain ⟨m0, n0, hi0, l0⟩ := id g2.loc
  refine wpAny_storeName_local hy n0 (fun h2 hn2 hs2 => ?_) (by rw [C.kind]; rfl)
  obtain ⟨g3, x3⟩ := g2.setLocal (s' := { s' with heap := h2, toks := s'.toks + 1 }) hy hyi (VR.ref D) (fun m' n' => by
    have : m' = m0 := funext fun y => Ns.one n' n0 y
    rw [this]; exact hn2) hs2 rfl rfl
  have nL3 : h2.Ns L m := nL.sameBut hs2 hLC
  refine ⟨m, nL3, fun h' hs' => ?_⟩
  have gp := g3.pokeDict (s' := { s' with heap := h', toks := s'.toks + 1 }) nL3 hi hN hLC hs' rfl rfl
  refine ⟨F.next, _, RF.next, gp, ?_, q⟩
  have y3 : Step (fun b => XF g C st2.sto b ∨ b = L) (fun b => XF g C st2.sto b ∨ b = L) s' { s' with heap := h2, toks := s'.toks + 1 } := by
    refine Step.weaken x3 (fun d h => .inl h) fun d h => ?_
    rcases h with h | h
    · rcases x3.grow d h with h | h
      · exact .inl (.inl h)
      · exact .inr h
    · exact .inl (.inr h)
  have x4 : Step (fun b => XF g C st2.sto b ∨ b = L) (fun b => XF g C st2.sto b ∨ b = L) { s' with heap := h2, toks := s'.toks + 1 } { s' with heap := h', toks := s'.toks + 1 } := Step.but (.inr rfl) (fun b o n e => (hs'.2 b n).trans e) rfl
  have z := Step.trans x2 (Step.trans y3 x4)
  exact Step.weaken z (fun _ h => h) fun d hd => z.grow d (.inl hd)

/-- one more for the list -/
theorem TAct.emit {elt : Expr} {D : Addr} {Q : St → Prop} (h : TE g C elt (fun y st1 => ∃ ys, (D, .list ys) ∈ st1.sto ∧ ys.length < 1000 ∧ Q ⟨st1.loc, put st1.sto D (.list (ys ++ [y]))⟩) st) :
    TAct g C (do let _ ← call (.builtin "list.append") [.ref D, ← eval elt C.env]) Q st := fun s gs => by
  refine wpAny_bind (h.on gs fun y st1 x s1 q r g1 x1 => ?_)
  obtain ⟨ys, hm, hl, q⟩ := q
  obtain ⟨items, n, hL, rv⟩ := g1.toGoodS.at hm
  have e : items.size = ys.length := by rw [rv.length]; simp
  refine wpAny_bind (call_meets F.slot_list_append ⟨_, hL, rfl⟩ F.entry_list_append (F.args_list_append_2 _ _) (AutoListH.list_append_list_val_0 D items n x (by rw [sizeLine_eq]; omega)) ⟨hL, ?_⟩)
  have hs : Heap.SameBut D s1.heap (s1.heap.update D (Obj.mapSeq fun xs => xs.push x)) := Heap.SameBut.update ..
  have k : TupK s1.heap (s1.heap.update D (Obj.mapSeq fun xs => xs.push x)) := fun b its m e => (hs.2 b fun h => by subst h; rw [hL] at e; simp at e).trans e
  obtain ⟨a1, a2⟩ := g1.put (s' := { s1 with heap := s1.heap.update D (Obj.mapSeq fun xs => xs.push x) }) (c := .list (ys ++ [y])) hm hs
    ⟨items.push x, _, hL.update _, by simpa using (rv.mono k).snoc (r.mono k)⟩ rfl rfl
  exact wpAny_pure ⟨(), _, trivial, a1, Step.trans x1 a2, q⟩
end
end
section -- P26
section
variable {g : G} {C : Fm g} {st : St} {s s' : Shared}
noncomputable abbrev emitOf (elt : Expr) (acc : Value) (env : Env) : Sem Unit := do let _ ← call (.builtin "list.append") [acc, ← eval elt env]
theorem take_filterMap {f : V → Option V} {vs : List V} {i : Nat} {v : V} (h : vs[i]? = some v) : (vs.take (i + 1)).filterMap f = (vs.take i).filterMap f ++ (match f v with | some y => [y] | none => []) := by
  rw [List.take_add_one, h, List.filterMap_append]
  cases hf : f v <;> simp [hf]
theorem Keeps.put {sto sto' : Sto} {D : Addr} {c : Cell} (k : Keeps sto sto') (hD : ∀ p ∈ sto, p.1 ≠ D) : Keeps sto (Mine.put sto' D c) := fun p hp => mem_put_ne (k p hp) (hD p hp)

/-- what a comprehension of one clause asks -/
noncomputable abbrev kC3 (w : Option V) (fr : Loc) (t : Sto) : V → St → Prop := fun y st => w = some y ∧ Has st.loc fr ∧ Keeps t st.sto
noncomputable abbrev kC2 (g : G) (C : Fm g) (elt : Expr) (w : Option V) (fr : Loc) (t : Sto) : Bool → St → Prop := fun b st => if b then TE g C elt (kC3 w fr t) st else w = none ∧ Has st.loc fr ∧ Keeps t st.sto
noncomputable def Comp1 (g : G) (C : Fm g) (scope : Scope) (target : Expr) (ifs : List Expr) (elt : Expr) (fin : V → Sto → Prop) (vs : List V) (I : Iter g vs) (st1 : St) : Prop :=
  vs.length ≤ 900 ∧ ∃ (fr : Loc) (f : V → Option V), (∀ p ∈ fr, p ∈ st1.loc ∧ scope.names.lookup p.1 = some .free ∧ C.env.kindOf p.1 ≠ some .local) ∧
    (∀ C' : Fm g, CompOf g C scope C' → ∀ v ∈ vs, ∀ (loc : Loc) (sto : Sto), Has loc fr → Keeps st1.sto sto → TA g C' target v (TTs g C' ifs (kC2 g C' elt (f v) fr sto)) ⟨loc, sto⟩) ∧
    ∀ D sto', (∀ p ∈ st1.sto, p.1 ≠ D) → Keeps st1.sto sto' → (D, .list (vs.filterMap f)) ∈ sto' → fin (.ref D) sto'
theorem Comp1.it {scope : Scope} {target : Expr} {ifs : List Expr} {elt : Expr} {fin : V → Sto → Prop} {vs : List V} {I : Iter g vs} {st1 : St} (hl : vs.length ≤ 900) (fr : Loc) (f : V → Option V) (hfr : ∀ p ∈ fr, p ∈ st1.loc ∧ scope.names.lookup p.1 = some .free ∧ C.env.kindOf p.1 ≠ some .local)
    (turn : ∀ C' : Fm g, CompOf g C scope C' → ∀ v ∈ vs, ∀ (loc : Loc) (sto : Sto), Has loc fr → Keeps st1.sto sto → TA g C' target v (TTs g C' ifs (kC2 g C' elt (f v) fr sto)) ⟨loc, sto⟩)
    (q : ∀ D sto', (∀ p ∈ st1.sto, p.1 ≠ D) → Keeps st1.sto sto' → (D, .list (vs.filterMap f)) ∈ sto' → fin (.ref D) sto') : Comp1 g C scope target ifs elt fin vs I st1 := ⟨hl, fr, f, hfr, turn, q⟩
theorem Comp1.go {scope : Scope} {target : Expr} {ifs : List Expr} {elt : Expr} {fin : V → Sto → Prop} {vs : List V} {I : Iter g vs} {st1 : St} (h : Comp1 g C scope target ifs elt fin vs I st1) {C' : Fm g} {D : Addr} (cof : CompOf g C scope C') (hD : ∀ p ∈ st1.sto, p.1 ≠ D) (hR : I.R st1.sto) :
    ∃ (fr : Loc) (J : Nat → St → Prop), (∀ p ∈ fr, p ∈ st1.loc ∧ scope.names.lookup p.1 = some .free ∧ C.env.kindOf p.1 ≠ some .local) ∧
      J 0 ⟨fr, (D, .list []) :: st1.sto⟩ ∧
      (∀ i v st2, vs[i]? = some v → J i st2 → I.R st2.sto → TA g C' target v (fun st3 => TTs g C' ifs (fun b st4 => if b then TAct g C' (emitOf elt (.ref D) C'.env) (fun st5 => J (i + 1) st5 ∧ I.R st5.sto) st4 else J (i + 1) st4 ∧ I.R st4.sto) st3) st2) ∧
      (∀ st2, J vs.length st2 → I.R st2.sto → fin (.ref D) st2.sto) := by
  obtain ⟨hl, fr, f, hfr, turn, done⟩ := h
  refine ⟨fr, fun i st2 => Has st2.loc fr ∧ Keeps st1.sto st2.sto ∧ (D, .list ((vs.take i).filterMap f)) ∈ st2.sto, hfr, ⟨fun p hp => hp, fun p hp => List.mem_cons_of_mem _ hp, List.mem_cons_self⟩, ?_, ?_⟩
  · rintro i v ⟨loc, sto⟩ hv ⟨h1, h2, h3⟩ _ s x gs r
    refine wpAny_mono (turn C' cof v (List.mem_of_getElem? hv) loc sto h1 h2 s x gs r) (fun _ s3 ⟨st3, g3, x3, q3⟩ => ⟨st3, g3, x3, q3.mono fun b st4 q4 => ?_⟩) fun _ _ e => e
    cases b with
    | true =>
      refine TAct.emit (Tr.mono (show TE g C' elt _ st4 from q4) fun y st5 q5 => ?_)
      obtain ⟨e, h4, h5⟩ := q5
      have ek : (vs.take (i + 1)).filterMap f = (vs.take i).filterMap f ++ [y] := by rw [take_filterMap hv, e]
      refine ⟨_, h5 _ h3, ?_, ⟨h4, Keeps.put (fun p hp => h5 p (h2 p hp)) hD, by rw [ek]; exact mem_put (h5 _ h3)⟩, ?_⟩
      · have := List.length_filterMap_le f (vs.take i)
        rw [List.length_take] at this
        omega
      · exact I.mono _ _ hR (Keeps.put (fun p hp => h5 p (h2 p hp)) hD)
    | false =>
      obtain ⟨e, h4, h5⟩ := (show f v = none ∧ Has st4.loc fr ∧ Keeps sto st4.sto from q4)
      have ek : (vs.take (i + 1)).filterMap f = (vs.take i).filterMap f := by rw [take_filterMap hv, e, List.append_nil]
      exact ⟨⟨h4, fun p hp => h5 p (h2 p hp), by rw [ek]; exact h5 _ h3⟩, I.mono _ _ hR fun p hp => h5 p (h2 p hp)⟩
  · rintro st2 ⟨h1, h2, h3⟩ _
    rw [List.take_length] at h3
    exact done D st2.sto hD h2 h3
theorem TSrc.mono {iter : Expr} {K K' : (vs : List V) → Iter g vs → St → Prop} (h : TSrc g C iter K st) (hk : ∀ vs I st1, I.R st1.sto → K vs I st1 → K' vs I st1) : TSrc g C iter K' st := fun s gs =>
  wpAny_mono (h s gs) (fun x s1 h1 => wpAny_mono h1 (fun itv s2 h2 => by
    obtain ⟨it, vs, I, st1, o, a1, a2, a3, a4, a5, a6, a7, k⟩ := h2
    exact ⟨it, vs, I, st1, o, a1, a2, a3, a4, a5, a6, a7, hk _ _ _ a7 k⟩) fun _ _ e => e) fun _ _ e => e
noncomputable abbrev kComp1 (g : G) (C : Fm g) (scope : Scope) (target : Expr) (ifs : List Expr) (elt : Expr) (Q : V → St → Prop) : (vs : List V) → Iter g vs → St → Prop := fun vs I st => Comp1 g C scope target ifs elt (kSto st.loc Q) vs I st
theorem TE.comp1 {elt target iter : Expr} {ifs : List Expr} {scope : Scope} {pos : Pos} {Q : V → St → Prop} (hfree : ∀ p ∈ scope.names, p.2 = .free → ∃ c, C.env.cells.lookup p.1 = some c)
    (h : TSrc g C iter (kComp1 g C scope target ifs elt Q) st)
    (hkind : scope.kind = .function) (hcell : ∀ x ∈ scope.names, x.2 ≠ .cell) (hnames : ∀ x ∈ scope.names, x.2 = .local → scope.names.lookup x.1 = some .local) (hs : ∀ x, foldedSetIterable iter C.env x = pure x) :
    TE g C (.ListComp elt [⟨target, iter, ifs, 0⟩] scope pos) Q st :=
  TE.comp (act := emitOf elt) (fun env it acc => rfl) hfree (h.mono fun vs I st1 _ k C' D cof hD hR => k.go cof hD hR) hkind hcell hnames hs
theorem TX.assignComp1 {elt target iter : Expr} {ifs : List Expr} {scope : Scope} {pos spos py : Pos} {y : Str} {Q : F → St → Prop} (hfree : ∀ p ∈ scope.names, p.2 = .free → ∃ c, C.env.cells.lookup p.1 = some c)
    (hsw : swapsWith (.ListComp elt [⟨target, iter, ifs, 0⟩] scope pos) (some (.Name y py)) spos.line C.env = pure true) (hy : C.env.kindOf y = some .local) (hyi : y ≠ "_initial_size")
    (h : TSrc g C iter (kComp1 g C scope target ifs elt (kSet y Q)) st)
    (hkind : scope.kind = .function) (hcell : ∀ x ∈ scope.names, x.2 ≠ .cell) (hnames : ∀ x ∈ scope.names, x.2 = .local → scope.names.lookup x.1 = some .local) (hs : ∀ x, foldedSetIterable iter C.env x = pure x) :
    TX g C (.Assign [.Name y py] (.ListComp elt [⟨target, iter, ifs, 0⟩] scope pos) spos) Q st :=
  TX.assignComp (act := emitOf elt) (fun env it acc => rfl) hfree hsw hy hyi (h.mono fun vs I st1 _ k C' D cof hD hR => k.go cof hD hR) hkind hcell hnames hs
end
end
section -- P27
section
variable {g : G} {C : Fm g} {st : St} {s s' : Shared}
noncomputable abbrev innerOf (elt target iter : Expr) (ifs : List Expr) (target2 iter2 : Expr) (scope : Scope) (pos : Pos) (acc : Value) (env : Env) : Sem Unit := do
  let x ← eval iter2 env
  standAt iter2.pos
  let x ← foldedSetIterable iter2 env x
  let _ ← runOwn (.compStart (.ListComp elt [⟨target, iter, ifs, 0⟩, ⟨target2, iter2, [], 0⟩] scope pos) 1 (← holding [x] (pyIter x)) acc env) env
theorem TAct.inner {elt target iter : Expr} {ifs : List Expr} {target2 iter2 : Expr} {scope : Scope} {pos : Pos} {D : Addr} {Q : St → Prop} (hs : ∀ x, foldedSetIterable iter2 C.env x = pure x)
    (h : TSrc g C iter2 (fun vs I st1 => ∃ J : Nat → St → Prop, J 0 st1 ∧
      (∀ i v st2, vs[i]? = some v → J i st2 → I.R st2.sto → TA g C target2 v (fun st3 => TTs g C [] (fun b st4 => if b then TAct g C (emitOf elt (.ref D) C.env) (fun st5 => J (i + 1) st5 ∧ I.R st5.sto) st4 else J (i + 1) st4 ∧ I.R st4.sto) st3) st2) ∧
      (∀ st2, J vs.length st2 → I.R st2.sto → Q st2)) st) : TAct g C (innerOf elt target iter ifs target2 iter2 scope pos (.ref D) C.env) Q st := fun s gs => by
  refine wpAny_bind (wpAny_mono (h s gs) (fun x s1 h1 => wpAny_bind (wpAny_standAt (wpAny_bind (wpAny_of_eq (hs x) (wpAny_bind (wpAny_holding (wpAny_mono h1 (fun itv s2 h2 => ?_) fun _ _ e => e.elim))))))) fun _ _ e => e.elim)
  obtain ⟨it, vs, I, st1, o, rfl, hN, e, hP, g1, x1, hR, J, hJ, turn, fin⟩ := h2
  refine wpAny_bind (wpAny_runOwn ?_)
  refine compStart_at (d := 1) I rfl e hP ?_
  refine compLoop (C := C) (st := st1) I J rfl g1 hN e hP hR hJ turn fun st' s' g' x' hJ' hR' => ?_
  exact wpAny_pure ⟨(), st', trivial, g', XI.drop (Step.trans x1 x'), fin st' hJ' hR'⟩

/-- what a comprehension of two clauses asks -/
noncomputable abbrev kD3 (w : V) (fr : Loc) (t : Sto) : V → St → Prop := fun y st => y = w ∧ Has st.loc fr ∧ Keeps t st.sto
noncomputable abbrev kD2 (g : G) (C : Fm g) (target2 elt : Expr) (wl : List V) (fr : Loc) (t0 t : Sto) (D : Addr) : (vs : List V) → Iter g vs → St → Prop := fun ws I2 st4 => Keeps t st4.sto ∧ I2.R (st4.sto.filter fun p => decide (p.1 ≠ D)) ∧
  ∃ (fr2 : Loc) (f : V → V), Has st4.loc fr2 ∧ Has fr2 fr ∧ wl = ws.map f ∧ ∀ w ∈ ws, ∀ (loc' : Loc) (sto' : Sto), Has loc' fr2 → Keeps t0 sto' → TA g C target2 w (TE g C elt (kD3 (f w) fr2 sto')) ⟨loc', sto'⟩
noncomputable def Comp2 (g : G) (C : Fm g) (scope : Scope) (target target2 iter2 elt : Expr) (fin : V → Sto → Prop) (vs : List V) (I : Iter g vs) (st1 : St) : Prop :=
  vs.length ≤ 80 ∧ ∃ (fr : Loc) (ff : V → List V), (∀ p ∈ fr, p ∈ st1.loc ∧ scope.names.lookup p.1 = some .free ∧ C.env.kindOf p.1 ≠ some .local) ∧ (∀ v ∈ vs, (ff v).length ≤ 10) ∧
    (∀ C' : Fm g, CompOf g C scope C' → ∀ v ∈ vs, ∀ (loc : Loc) (sto : Sto) (D : Addr), Has loc fr → Keeps st1.sto sto → (∃ ys, (D, Cell.list ys) ∈ sto) → TA g C' target v (TSrc g C' iter2 (kD2 g C' target2 elt (ff v) fr st1.sto sto D)) ⟨loc, sto⟩) ∧
    ∀ D sto', (∀ p ∈ st1.sto, p.1 ≠ D) → Keeps st1.sto sto' → (D, .list (vs.flatMap ff)) ∈ sto' → fin (.ref D) sto'
theorem take_flatMap {ff : V → List V} {vs : List V} {i : Nat} {v : V} (h : vs[i]? = some v) : (vs.take (i + 1)).flatMap ff = (vs.take i).flatMap ff ++ ff v := by
  rw [List.take_add_one, h, List.flatMap_append]; simp
theorem length_flatMap {ff : V → List V} : ∀ {vs : List V}, (∀ v ∈ vs, (ff v).length ≤ 10) → (vs.flatMap ff).length ≤ 10 * vs.length
  | [], _ => by simp
  | v :: vs, h => by
    have h1 := h v List.mem_cons_self
    have h2 := length_flatMap (ff := ff) (vs := vs) fun w hw => h w (List.mem_cons_of_mem _ hw)
    rw [List.flatMap_cons, List.length_append, List.length_cons]
    omega
theorem Comp2.go {scope : Scope} {target target2 iter iter2 elt : Expr} {pos : Pos} {fin : V → Sto → Prop} {vs : List V} {I : Iter g vs} {st1 : St} (h : Comp2 g C scope target target2 iter2 elt fin vs I st1) (hs : ∀ (env : Env) x, foldedSetIterable iter2 env x = pure x) {C' : Fm g} {D : Addr} (cof : CompOf g C scope C') (hD : ∀ p ∈ st1.sto, p.1 ≠ D) (hR : I.R st1.sto) :
    ∃ (fr : Loc) (J : Nat → St → Prop), (∀ p ∈ fr, p ∈ st1.loc ∧ scope.names.lookup p.1 = some .free ∧ C.env.kindOf p.1 ≠ some .local) ∧
      J 0 ⟨fr, (D, .list []) :: st1.sto⟩ ∧
      (∀ i v st2, vs[i]? = some v → J i st2 → I.R st2.sto → TA g C' target v (fun st3 => TTs g C' [] (fun b st4 => if b then TAct g C' (innerOf elt target iter [] target2 iter2 scope pos (.ref D) C'.env) (fun st5 => J (i + 1) st5 ∧ I.R st5.sto) st4 else J (i + 1) st4 ∧ I.R st4.sto) st3) st2) ∧
      (∀ st2, J vs.length st2 → I.R st2.sto → fin (.ref D) st2.sto) := by
  obtain ⟨hl, fr, ff, hfr, h10, turn, done⟩ := h
  refine ⟨fr, fun i st2 => Has st2.loc fr ∧ Keeps st1.sto st2.sto ∧ (D, .list ((vs.take i).flatMap ff)) ∈ st2.sto, hfr, ⟨fun p hp => hp, fun p hp => List.mem_cons_of_mem _ hp, List.mem_cons_self⟩, ?_, ?_⟩
  · rintro i v ⟨loc, sto⟩ hv ⟨h1, h2, h3⟩ _ s x gs r
    have hil : i < vs.length := (List.getElem?_eq_some_iff.mp hv).1
    have hll : ((vs.take i).flatMap ff).length ≤ 800 := by
      have := length_flatMap (ff := ff) (vs := vs.take i) fun w hw => h10 w (List.mem_of_mem_take hw)
      have h2 := List.length_take_le i vs
      omega
    refine wpAny_mono (turn C' cof v (List.mem_of_getElem? hv) loc sto D h1 h2 ⟨_, h3⟩ s x gs r) (fun _ s3 ⟨st3, g3, x3, q3⟩ => ⟨st3, g3, x3, TTs.nil ?_⟩) fun _ _ e => e
    first | refine iteT rfl ?_ | rw [if_pos rfl]
    refine TAct.inner (hs _) (q3.mono ?_)
    rintro ws I2 st4 hR2 ⟨k4, hRD, fr2, f, hf1, hf2, hff, turn2⟩
    have hwl : ws.length ≤ 10 := by have := h10 v (List.mem_of_getElem? hv); rw [hff, List.length_map] at this; exact this
    have kR : ∀ sto5 : Sto, (∀ p ∈ st4.sto, p.1 ≠ D → p ∈ sto5) → I2.R sto5 := fun sto5 h => I2.mono _ _ hRD fun p hp => by
      obtain ⟨h1, h2⟩ := List.mem_filter.mp hp
      exact h p h1 (by simpa using h2)
    refine ⟨fun j st5 => Has st5.loc fr2 ∧ (∀ p ∈ st4.sto, p.1 ≠ D → p ∈ st5.sto) ∧ (D, .list ((vs.take i).flatMap ff ++ (ws.take j).map f)) ∈ st5.sto, ⟨hf1, fun p hp _ => hp, by simpa using k4 _ h3⟩, ?_, ?_⟩
    · rintro j w ⟨loc', sto'⟩ hw ⟨h5, h6, h7⟩ _ s x gs r
      have kk : Keeps st1.sto sto' := fun p hp => h6 p (k4 p (h2 p hp)) (hD p hp)
      refine wpAny_mono (turn2 w (List.mem_of_getElem? hw) loc' sto' h5 kk s x gs r) (fun _ s3 ⟨st3, g3, x3, q3⟩ => ⟨st3, g3, x3, TTs.nil ?_⟩) fun _ _ e => e
      first | refine iteT rfl ?_ | rw [if_pos rfl]
      refine TAct.emit (Tr.mono q3 fun y st6 q6 => ?_)
      obtain ⟨rfl, h8, h9⟩ := q6
      have ek : (vs.take i).flatMap ff ++ (ws.take (j + 1)).map f = ((vs.take i).flatMap ff ++ (ws.take j).map f) ++ [f w] := by rw [List.take_add_one, hw]; simp
      have h10' : ∀ p ∈ st4.sto, p.1 ≠ D → p ∈ put st6.sto D (.list (((vs.take i).flatMap ff ++ (ws.take j).map f) ++ [f w])) := fun p hp hne => mem_put_ne (h9 p (h6 p hp hne)) hne
      refine ⟨_, h9 _ h7, ?_, ⟨h8, h10', by rw [ek]; exact mem_put (h9 _ h7)⟩, kR _ h10'⟩
      have h4 : (ws.take j).length = min j ws.length := List.length_take ..
      rw [List.length_append, List.length_map]
      omega
    · rintro ⟨loc', sto'⟩ ⟨h5, h6, h7⟩ _
      rw [List.take_length] at h7
      have kk : Keeps st1.sto sto' := fun p hp => h6 p (k4 p (h2 p hp)) (hD p hp)
      exact ⟨⟨fun p hp => h5 p (hf2 p hp), kk, by rw [take_flatMap hv, hff]; exact h7⟩, I.mono _ _ hR kk⟩
  · rintro st2 ⟨h1, h2, h3⟩ _
    rw [List.take_length] at h3
    exact done D st2.sto hD h2 h3
theorem turn2 {elt target iter target2 iter2 : Expr} {scope : Scope} {pos : Pos} (env : Env) (it : Addr) (acc : Value) :
    compTurn (.ListComp elt [⟨target, iter, [], 0⟩, ⟨target2, iter2, [], 0⟩] scope pos) 0 (.ref it) acc env = turnOf target iter [] (.ref it) (innerOf elt target iter [] target2 iter2 scope pos acc env) (.compLoop (.ListComp elt [⟨target, iter, [], 0⟩, ⟨target2, iter2, [], 0⟩] scope pos) 0 (.ref it) acc env) env := by
  simp only [turnOf, innerOf, bind_assoc, pure_bind]
  rfl
noncomputable abbrev kComp2 (g : G) (C : Fm g) (scope : Scope) (target target2 iter2 elt : Expr) (Q : V → St → Prop) : (vs : List V) → Iter g vs → St → Prop := fun vs I st => Comp2 g C scope target target2 iter2 elt (kSto st.loc Q) vs I st
theorem TX.assignComp2 {elt target iter target2 iter2 : Expr} {scope : Scope} {pos spos py : Pos} {y : Str} {Q : F → St → Prop} (hfree : ∀ p ∈ scope.names, p.2 = .free → ∃ c, C.env.cells.lookup p.1 = some c)
    (hsw : swapsWith (.ListComp elt [⟨target, iter, [], 0⟩, ⟨target2, iter2, [], 0⟩] scope pos) (some (.Name y py)) spos.line C.env = pure true) (hy : C.env.kindOf y = some .local) (hyi : y ≠ "_initial_size")
    (h : TSrc g C iter (kComp2 g C scope target target2 iter2 elt (kSet y Q)) st)
    (hkind : scope.kind = .function) (hcell : ∀ x ∈ scope.names, x.2 ≠ .cell) (hnames : ∀ x ∈ scope.names, x.2 = .local → scope.names.lookup x.1 = some .local) (hs : ∀ x, foldedSetIterable iter C.env x = pure x) (hs2 : ∀ (env : Env) x, foldedSetIterable iter2 env x = pure x) :
    TX g C (.Assign [.Name y py] (.ListComp elt [⟨target, iter, [], 0⟩, ⟨target2, iter2, [], 0⟩] scope pos) spos) Q st :=
  TX.assignComp (act := innerOf elt target iter [] target2 iter2 scope pos) turn2 hfree hsw hy hyi (h.mono fun vs I st1 _ k C' D cof hD hR => k.go hs2 cof hD hR) hkind hcell hnames hs
end
end
section -- P28
section
variable {g : G} {C : Fm g} {st : St} {s s' : Shared} {Q : V → St → Prop}
/-- a bound of a slice -/
noncomputable def TP (g : G) (C : Fm g) (x : Option Expr) (Q : Option Int → St → Prop) (st : St) : Prop := match x with
  | none => Q none st
  | some e => TE g C e (fun v st1 => ∃ i, v = .int i ∧ Q (some i) st1) st
noncomputable def vpick (vs : List V) (lo hi st : Option Int) : List V := (sliceRange (sliceBounds lo hi st vs.length).1 (sliceBounds lo hi st vs.length).2.1 (sliceBounds lo hi st vs.length).2.2).filterMap (vs[·]?)
theorem vpick_plain (l : List V) (lo hi : Option Int) : vpick l lo hi none = (l.drop (lo.elim 0 (clipAt l.length))).take (hi.elim l.length (clipAt l.length) - lo.elim 0 (clipAt l.length)) := by
  unfold vpick
  rw [sliceBounds_plain]
  dsimp only
  rw [sliceRange_one]
  have := pick_run l.toArray (lo.elim 0 (clipAt l.length)) (hi.elim l.length (clipAt l.length) - lo.elim 0 (clipAt l.length))
  simpa only [List.getElem?_toArray] using this
theorem pick_range {l : List V} (m : Nat) (h : m ≤ l.length) : (List.range m).filterMap (l[·]?) = l.take m := by
  induction m with
  | zero => rfl
  | succ m ih =>
    rw [List.range_succ, List.filterMap_append, ih (Nat.le_of_succ_le h), List.take_add_one]
    congr 1
section
variable (g : G) (C : Fm g)
noncomputable abbrev kP (Q : Option Int → St → Prop) : V → St → Prop := fun v st => ∃ i, v = .int i ∧ Q (some i) st
noncomputable abbrev kSl3 (v : V) (lo sp : Option Int) (Q : V → St → Prop) : Option Int → St → Prop := fun hi st => ∃ a vs, v = .ref a ∧ (a, .list vs) ∈ st.sto ∧ vs.length ≤ 1000 ∧ ∀ D, (∀ p ∈ st.sto, p.1 ≠ D) → Q (.ref D) ⟨st.loc, (D, .list (vpick vs lo hi sp)) :: st.sto⟩
noncomputable abbrev kSl2 (upper : Option Expr) (v : V) (Q : V → St → Prop) : Option Int → St → Prop := fun lo st => TP g C upper (kSl3 v lo none Q) st
noncomputable abbrev kSl1 (lower upper : Option Expr) (Q : V → St → Prop) : V → St → Prop := fun v st => TP g C lower (kSl2 g C upper v Q) st
noncomputable abbrev kSs4 (v : V) (lo hi : Option Int) (Q : V → St → Prop) : Option Int → St → Prop := fun sp st => sp ≠ some 0 ∧ kSl3 v lo sp Q hi st
noncomputable abbrev kSs3 (sp : Expr) (v : V) (lo : Option Int) (Q : V → St → Prop) : Option Int → St → Prop := fun hi st => TP g C (some sp) (kSs4 v lo hi Q) st
noncomputable abbrev kSs2 (upper : Option Expr) (sp : Expr) (v : V) (Q : V → St → Prop) : Option Int → St → Prop := fun lo st => TP g C upper (kSs3 g C sp v lo Q) st
noncomputable abbrev kSs1 (lower upper : Option Expr) (sp : Expr) (Q : V → St → Prop) : V → St → Prop := fun v st => TP g C lower (kSs2 g C upper sp v Q) st
end
theorem kP.it {Q : Option Int → St → Prop} {i : Int} {st : St} (q : Q (some i) st) : kP Q (.int i) st := ⟨i, rfl, q⟩
theorem kSl3.it {lo hi sp : Option Int} {Q : V → St → Prop} {a : Addr} {vs : List V} {st : St} (h : (a, .list vs) ∈ st.sto) (hl : vs.length ≤ 1000) (q : ∀ D, (∀ p ∈ st.sto, p.1 ≠ D) → Q (.ref D) ⟨st.loc, (D, .list (vpick vs lo hi sp)) :: st.sto⟩) : kSl3 (.ref a) lo sp Q hi st := ⟨a, vs, rfl, h, hl, q⟩
theorem TP.yes {e : Expr} {Q : Option Int → St → Prop} (h : TE g C e (kP Q) st) : TP g C (some e) Q st := h
theorem TP.no {Q : Option Int → St → Prop} (q : Q Option.none st) : TP g C Option.none Q st := q
theorem TP.on {x : Option Expr} {Q : Option Int → St → Prop} (h : TP g C x Q st) (gs : GoodF g C st s) {P : Value → Shared → Prop} {E : Value → Shared → Prop}
    (k : ∀ i st' a s', Q i st' → IsPart a i → GoodF g C st' s' → SF g C st st' s s' → P a s') : wpAny g.M C.A (evalPart x C.env) P E s := by
  cases x with
  | none => exact wpAny_pure (k none st _ s h .none gs (Step.refl _ _))
  | some e =>
    refine Tr.on h gs fun v st' a s' q r g' x' => ?_
    obtain ⟨i, rfl, q⟩ := q
    cases r
    exact k _ _ _ _ q (.int _ _) g' x'
theorem VRs.pick {h : Heap} {vs : List V} {items : Array Value} (r : VRs h vs items.toList) (lo hi st : Option Int) : VRs h (vpick vs lo hi st) (slicePick items lo hi st).toList := by
  have hl : vs.length = items.size := by have := r.length; simpa using this
  unfold vpick slicePick
  rw [hl]
  generalize sliceRange _ _ _ = is
  show VRs h (is.filterMap (vs[·]?)) (is.filterMap (items[·]?))
  induction is with
  | nil => exact .nil
  | cons i is ih =>
    cases hv : vs[i]? with
    | none =>
      have hi : items[i]? = none := by
        rw [List.getElem?_eq_none_iff] at hv
        simp; omega
      rw [List.filterMap_cons_none hv, List.filterMap_cons_none hi]; exact ih
    | some v =>
      obtain ⟨x, hx, rx⟩ := r.get i v hv
      have hi : items[i]? = some x := by simpa using hx
      rw [List.filterMap_cons_some hv, List.filterMap_cons_some hi]; exact .cons rx ih
theorem slice_end {a : Addr} {vs : List V} {lo hi sp : Option Int} {vl vu vp : Value} {Q : V → St → Prop} (g1 : GoodF g C st s) (hm : (a, .list vs) ∈ st.sto) (hl : vs.length ≤ 1000) (pl : IsPart vl lo) (pu : IsPart vu hi) (pp : IsPart vp sp) (h0 : sp ≠ some 0)
    (q : ∀ D, (∀ p ∈ st.sto, p.1 ≠ D) → Q (.ref D) ⟨st.loc, (D, .list (vpick vs lo hi sp)) :: st.sto⟩) :
    ({ s with heap := s.heap.push { cls := .type "slice", data := .fields #[vl, vu, vp] } } : Shared).TypeIs (.ref a) "list" ∧
    wpAny g.M C.A (getItem (.ref a) (.ref s.heap.objs.size)) (Po VR g C st s Q) noE { s with heap := s.heap.push { cls := .type "slice", data := .fields #[vl, vu, vp] } } := by
  obtain ⟨g2, x2⟩ := g1.newObj (s' := { s with heap := s.heap.push { cls := .type "slice", data := .fields #[vl, vu, vp] } }) rfl rfl rfl
  obtain ⟨items, hL, rv⟩ := IsLL g2.toGoodS hm
  refine ⟨hL.typeIs, wpAny_getItem_list_slice hL (Heap.IsSliceOf.new ..) pl pu pp h0 ?_ ?_⟩
  · obtain ⟨g3, x3⟩ := g2.newList (s' := { s with heap := (s.heap.push { cls := .type "slice", data := .fields #[vl, vu, vp] }).push { cls := .type "list", data := .seq (slicePick items lo hi sp) } }) (items := slicePick items lo hi sp) (vs := vpick vs lo hi sp) (rv.pick lo hi sp) rfl rfl rfl
    exact ⟨_, _, VR.ref _, g3, Step.trans x2 x3, q _ g2.toGoodS.fresh⟩
  · have := rv.length
    rw [sizeLine_eq]; simp at this; omega
theorem TE.slice {o : Expr} {lower upper : Option Expr} {p pos : Pos} (h : TE g C o (kSl1 g C lower upper Q) st) : TE g C (.Subscript o (.Slice lower upper Option.none p) pos) Q st := fun s gs =>
  Subscript_ (h.on gs fun v st1 x s1 q r g1 x1 => wpAny_Slice (q.on g1 fun lo st2 vl s2 q2 pl g2 x2 => q2.on g2 fun hi st3 vu s3 q3 pu g3 x3 => by
    obtain ⟨a, vs, rfl, hm, hl, q3⟩ := q3
    cases r
    refine wpAny_pure ?_
    obtain ⟨t, w⟩ := slice_end (Q := Q) g3 hm hl pl pu .none (by simp) q3
    exact tailG t slot_list_getitem.lookup (wpAny_mono w (fun _ _ p => Po.trans x1 (Po.trans x2 (Po.trans x3 p))) fun _ _ e => e) (by with_unfolding_all rfl)))
theorem TE.sliceS {o sp : Expr} {lower upper : Option Expr} {p pos : Pos} (h : TE g C o (kSs1 g C lower upper sp Q) st) : TE g C (.Subscript o (.Slice lower upper (some sp) p) pos) Q st := fun s gs =>
  Subscript_ (h.on gs fun v st1 x s1 q r g1 x1 => wpAny_Slice (q.on g1 fun lo st2 vl s2 q2 pl g2 x2 => q2.on g2 fun hi st3 vu s3 q3 pu g3 x3 => q3.on g3 fun sp st4 vp s4 q4 pp g4 x4 => by
    obtain ⟨h0, a, vs, rfl, hm, hl, q4⟩ := q4
    cases r
    obtain ⟨t, w⟩ := slice_end (Q := Q) g4 hm hl pl pu pp h0 q4
    exact tailG t slot_list_getitem.lookup (wpAny_mono w (fun _ _ p => Po.trans x1 (Po.trans x2 (Po.trans x3 (Po.trans x4 p)))) fun _ _ e => e) (by with_unfolding_all rfl)))
/-- x[-k] -/
theorem TO2.itemN {o i : Expr} {a : Addr} {vs : List V} {j : Int} (k : Nat) {v : V} (hj : j = -((k : Nat) : Int)) (hk : 0 < k ∧ k ≤ vs.length) (hm : (a, .list vs) ∈ st.sto) (hv : vs[vs.length - k]? = some v) (hl : vs.length ≤ 1000) (q : Q v st)
    (hs : ∀ a b, subscripted i false a b = operate [a, b] (getItem a b) := by intro _ _; with_unfolding_all rfl) : TO2 VR g C (subscriptTail o i) (.ref a) (.int j) Q st := fun s x y gs rx ry => by
  subst hj
  cases ry; cases rx
  obtain ⟨items, hL, rv⟩ := IsLL gs.toGoodS hm
  obtain ⟨z, hz, rz⟩ := rv.get _ v hv
  have e : vs.length = items.size := by have := rv.length; simpa using this
  have e1 : (-((k : Nat) : Int) + (items.size : Int)).toNat = vs.length - k := (n_neg k items.size).trans (by rw [e])
  have e2 : -(2 ^ 63 : Int) ≤ -((k : Nat) : Int) := Int.neg_le_neg (Int.le_trans (show ((k : Nat) : Int) ≤ 1000 by omega) (by decide))
  exact tailG hL.typeIs slot_list_getitem.lookup (wpAny_getItem_list_neg hL (by omega) (by omega) e2 (x := z) (by rw [e1]; simpa using hz) (Po.here gs rz q)) (hs _ _)
/-- "abc"[k] -/
theorem TO2.itemS {o i : Expr} {x : Str} {j : Int} (k : Nat) {c : Nat} (hj : j = (k : Nat)) (hl : x.length ≤ 1000) (hc : x.cps[k]? = some c) (q : Q (.str ⟨#[c]⟩) st)
    (hs : ∀ a b, subscripted i false a b = operate [a, b] (getItem a b) := by intro _ _; with_unfolding_all rfl) : TO2 VR g C (subscriptTail o i) (.str x) (.int j) Q st := fun s y z gs rx ry => by
  subst hj
  cases ry; cases rx
  have hk : k < x.length := (Array.getElem?_eq_some_iff.mp hc).1
  refine tailG (typeIs_str s _ _) F.slot_str_getitem.lookup (PySem.P.getItem_str ?_ (by rw [seqIndex_nat hk]; exact hc) (Po.toks gs _ (VR.str _ _) q)) (hs _ _)
  rw [Bool.or_eq_false_iff, decide_eq_false_iff_not, decide_eq_false_iff_not]
  exact ⟨Int.not_lt.mpr (Int.le_trans (by decide) (Int.natCast_nonneg k)), Int.not_le.mpr (Int.lt_trans (show ((k : Nat) : Int) < 1001 by omega) (by decide))⟩
/-- lists put together -/
theorem TO2.addL {a b : Addr} {vs ws : List V} (h1 : (a, .list vs) ∈ st.sto) (h2 : (b, .list ws) ∈ st.sto) (hl : vs.length + ws.length ≤ 1000) (q : ∀ D, (∀ p ∈ st.sto, p.1 ≠ D) → Q (.ref D) ⟨st.loc, (D, .list (vs ++ ws)) :: st.sto⟩) :
    TO2 VR g C (binaryOp .Add) (.ref a) (.ref b) Q st := fun s x y gs rx ry => by
  cases rx; cases ry
  obtain ⟨i1, n1, l1, r1⟩ := gs.toGoodS.at h1
  obtain ⟨i2, n2, l2, r2⟩ := gs.toGoodS.at h2
  refine PySem.P.add_list l1 l2 ?_ ?_
  · obtain ⟨g3, x3⟩ := gs.newList (s' := { s with heap := s.heap.push { cls := .type "list", data := .seq (i1 ++ i2) } }) (items := i1 ++ i2) (vs := vs ++ ws) (by simpa using r1.append r2) rfl rfl rfl
    exact ⟨_, _, VR.ref _, g3, x3, q _ gs.toGoodS.fresh⟩
  · have e1 := r1.length
    have e2 := r2.length
    rw [sizeLine_eq]; simp at e1 e2; omega
theorem VRs.rep {h : Heap} {vs : List V} {items : Array Value} (r : VRs h vs items.toList) (k : Nat) : ∀ (acc : Array Value) (ws : List V), VRs h ws acc.toList → VRs h (ws ++ (List.replicate k vs).flatten) (List.foldl (fun x1 x2 => x1 ++ x2) acc (List.replicate k items)).toList := by
  induction k with
  | zero => intro acc ws hw; simpa using hw
  | succ k ih =>
    intro acc ws hw
    rw [List.replicate_succ, List.replicate_succ, List.foldl_cons, List.flatten_cons, ← List.append_assoc]
    exact ih _ _ (by simpa using hw.append r)
theorem TO2.mulL {a : Addr} {vs : List V} {j : Int} (k : Nat) (hj : j = (k : Nat)) (h1 : (a, .list vs) ∈ st.sto) (hl : vs.length * k ≤ 1000) (hk : k ≤ 1000) (q : ∀ D, (∀ p ∈ st.sto, p.1 ≠ D) → Q (.ref D) ⟨st.loc, (D, .list (List.replicate k vs).flatten) :: st.sto⟩) :
    TO2 VR g C (binaryOp .Mult) (.ref a) (.int j) Q st := fun s x y gs rx ry => by
  subst hj
  cases rx; rcases ry with _ | _ | ⟨_, u⟩
  obtain ⟨items, n, l1, r1⟩ := gs.toGoodS.at h1
  have e : vs.length = items.size := by have := r1.length; simpa using this
  have hfit : Builtin.List.listFitsIndex ((k : Nat) : Int) = true := fitsIndex_of (Int.natCast_nonneg k) (Int.lt_trans (show ((k : Nat) : Int) < 1001 by omega) (by decide))
  have hk2 : (((k : Nat) : Int)).toNat = k := rfl
  have hs1 : items.size * (((k : Nat) : Int)).toNat ≤ 1000 := by rw [hk2, ← e]; exact hl
  have hbig : ¬ items.size * (((k : Nat) : Int)).toNat > (2 ^ 63 - 1) / 8 := Nat.not_lt.mpr (Nat.le_trans hs1 (by decide))
  have htl : ¬ Builtin.List.listTooLong (items.size * (((k : Nat) : Int)).toNat) = true := by
    have : Builtin.List.listTooLong (items.size * (((k : Nat) : Int)).toNat) = false := by
      unfold Builtin.List.listTooLong
      have hs2 : items.size * k ≤ 1000 := hs1
      rw [sizeLine_eq]; simp; omega
    rw [this]; exact Bool.false_ne_true
  have M := @AutoListH.list___mul___list_int_3 a items n ((k : Nat) : Int) u (notfit hfit) hbig htl
  have hB := F.entry_list_mul
  generalize Builtin.«list.__mul__» = B at M hB
  refine wpAny_binaryOp_repeat_ref (T := "list") (U := "int") (by decide) ⟨_, l1, rfl⟩ (fun s' => typeIs_int s' _ u) noFill_list_mul F.fills_int_mul F.slot_int_rmul repeat_list F.slot_int_index.lookup ?_
  have M2 := int___rmul___int_list ((k : Nat) : Int) u a items n
  have hB2 := F.entry_int_rmul
  generalize Builtin.«int.__rmul__» = B2 at M2 hB2
  refine call_meets F.slot_int_rmul (typeIs_int s _ u) hB2 (F.args_int_rmul_2 _ _) M2 ⟨l1, rfl, ⟨_, l1, rfl⟩, ?_⟩
  refine call_meets F.slot_list_mul ⟨_, l1, rfl⟩ hB (F.args_list_mul_2 _ _) M ⟨l1, ?_⟩
  have hv : VRs s.heap (List.replicate k vs).flatten (List.foldl (fun x1 x2 => x1 ++ x2) #[] (List.replicate (if items.isEmpty = true then 0 else (((k : Nat) : Int)).toNat) items)).toList := by
    by_cases he : items.isEmpty = true
    · first | refine iteT he ?_ | rw [if_pos he]
      have : vs = [] := by
        have : items.size = 0 := by simpa using he
        exact List.length_eq_zero_iff.mp (by omega)
      subst this
      simpa using VRs.nil
    · first | refine iteF he ?_ | rw [if_neg he]
      simpa using VRs.rep r1 k #[] [] VRs.nil
  obtain ⟨g3, x3⟩ := gs.newList (s' := { s with heap := s.heap.push { cls := .type "list", data := .seq (List.foldl (fun x1 x2 => x1 ++ x2) #[] (List.replicate (if items.isEmpty = true then 0 else (((k : Nat) : Int)).toNat) items)) } }) hv rfl rfl rfl
  exact ⟨_, _, VR.ref _, g3, x3, q _ gs.toGoodS.fresh⟩
end
end
section
--MACROS
local macro_rules | `(tactic| walk_at "mem") => `(tactic| first | assumption | exact mem_set | (refine mem_set_ne ?_ (by decide); walk_at "mem") | exact List.mem_cons_self | (refine List.mem_cons_of_mem _ ?_; walk_at "mem"))
local macro_rules | `(tactic| walk_at "has") => `(tactic| first | exact Has.nil | (refine Has.cons (by walk_at "mem") ?_; walk_at "has"))
local macro_rules | `(tactic| walk_at "put") => `(tactic| first | assumption | exact List.mem_cons_self | (refine mem_put_ne ?_ (by first | assumption | exact Ne.symm (by assumption)); walk_at "put") | (apply mem_put; walk_at "put") | (refine List.mem_cons_of_mem _ ?_; walk_at "put"))
local macro_rules | `(tactic| walk_at "yes") => `(tactic| refine iteT (by first | rfl | assumption | decide) ?_)
local macro_rules | `(tactic| walk_at "no") => `(tactic| refine iteF (by first | exact Bool.false_ne_true | decide | assumption) ?_)
local macro_rules | `(tactic| walk_at "in") => `(tactic| first | exact List.mem_cons_self | (refine List.mem_cons_of_mem _ ?_; walk_at "in"))
local macro_rules | `(tactic| walk_at "sto") => `(tactic| first | exact IsEnv.stores (by assumption) _ (by rfl) (by decide) | exact CompOf.stores (by assumption) _ (by rfl) (by decide) | exact IsEnv.storesC (by assumption) _ (by rfl) (by rfl))
local macro_rules | `(tactic| walk_at "kg") => `(tactic| first | exact (IsEnv.kindOf (by assumption) _).trans (by rfl) | exact CompOf.kindOf (by assumption) _ (by rfl) (by decide))
local macro_rules | `(tactic| walk_at "m1") => `(tactic| first
  | with_reducible first
    | refine TXs.nil ?_
    | refine TXs.cons ?_
    | refine TX.ret ?_
    | refine TX.ite ?_
    | refine TX.brk ?_
    | refine TE.int ?_
    | refine TE.str ?_
    | refine TE.bool ?_
    | refine TE.none ?_
    | refine TE.bin ?_
    | refine TE.cmp ?_
    | refine TT.cmp ?_
    | refine TE.sliceS ?_
    | refine TE.slice ?_
    | refine TP.yes ?_
    | refine TP.no ?_
    | refine TE.sub ?_
    | refine TE.list ?_
    | refine TE.tuple ?_
    | refine TEs.nil ?_
    | refine TEs.cons ?_
  | ((with_reducible refine TX.assign ?_ ?_); walk_at "sto"; rotate_left)
  | ((with_reducible refine TE.name (v := ?_) ?_ ?_); rotate_left; (focus walk_at "mem")))
section -- P17
section
variable {g : G}
theorem fn_of {g : G} {f : Fn} (h : f ∈ fns) : FnO g.H f := g.top.fn f h
theorem len2 {α : Type} {l : List α} (h : l.length = 2) : ∃ a b, l = [a, b] := by
  obtain ⟨a, l, rfl⟩ := List.exists_cons_of_length_eq_add_one h
  obtain ⟨b, rfl⟩ := List.length_eq_one_iff.mp (Nat.succ.inj h)
  exact ⟨a, b, rfl⟩
theorem len3 {α : Type} {l : List α} (h : l.length = 3) : ∃ a b c, l = [a, b, c] := by
  obtain ⟨a, l, rfl⟩ := List.exists_cons_of_length_eq_add_one h
  obtain ⟨b, c, rfl⟩ := len2 (Nat.succ.inj h)
  exact ⟨a, b, c, rfl⟩
theorem plain_1 {f : Fn} {x : Str} (h : ∀ (fd : FuncData) (u : Value), bindArgs { fd with params := f.ps, defaults := f.dV, kwdefaults := f.kV } ⟨[u], []⟩ = pure [(x, u)]) : Plain f [x] := fun fd h1 h2 h3 vals hl => by
  obtain ⟨u, rfl⟩ := List.length_eq_one_iff.mp hl
  have := h fd u
  rw [← h1, ← h2, ← h3] at this
  exact this
theorem plain_2 {f : Fn} {x y : Str} (h : ∀ (fd : FuncData) (u v : Value), bindArgs { fd with params := f.ps, defaults := f.dV, kwdefaults := f.kV } ⟨[u, v], []⟩ = pure [(x, u), (y, v)]) : Plain f [x, y] := fun fd h1 h2 h3 vals hl => by
  obtain ⟨u, v, rfl⟩ := len2 hl
  have := h fd u v
  rw [← h1, ← h2, ← h3] at this
  exact this
/-- the last line of a body -/
theorem cXf {v : V} {sto : Sto} {Q : V → Sto → Prop} (q : Q v sto) : TC g 1 (.ref fXf.a) [v] [] [] Q sto := by
  refine TC.def (ns := ["s"]) (fn_of (by walk_at "in")) (by decide) rfl (plain_1 fun fd v => rfl) rfl (by decide) (by decide) (by decide) (by decide) rfl rfl rfl fun C E hn => ?_
  show TXs g C _ _ ⟨[("s", v)], sto⟩
  refine TXs.cons ?_
  repeat walk_at "m1"
  exact q
theorem cKey {v : V} {vs : List V} {sto : Sto} {Q : V → Sto → Prop} (hl : vs.length ≤ 999) (q : Q v sto) : TC g 2 (.ref fKey.a) [.tup (v :: vs)] [] [] Q sto := by
  refine TC.def (ns := ["mark"]) (fn_of (by walk_at "in")) (by decide) rfl (plain_1 fun fd v => rfl) rfl (by decide) (by decide) (by decide) (by decide) rfl rfl rfl fun C E hn => ?_
  show TXs g C _ _ ⟨[("mark", .tup (v :: vs))], sto⟩
  refine TXs.cons ?_
  walk_at "m1"
  refine TE.callP (f := fXf) (m := 1) (by walk_at "in") (by walk_at "in") (by walk_at "kg") (by decide) (by omega) ?_
  repeat walk_at "m1"
  refine TO2.itemT 0 (v := v) rfl rfl (by simp; omega) ?_
  repeat walk_at "m1"
  exact cXf q
theorem cCo {a b : Str} {sto : Sto} {Q : V → Sto → Prop} (q : Q (.int ((if b.cps.toList < a.cps.toList then 1 else 0) - (if a.cps.toList < b.cps.toList then 1 else 0))) sto) : TC g 1 (.ref fCo.a) [.str a, .str b] [] [] Q sto := by
  refine TC.def (ns := ["a", "b"]) (fn_of (by walk_at "in")) (by decide) rfl (plain_2 fun fd v w => rfl) rfl (by decide) (by decide) (by decide) (by decide) rfl rfl rfl fun C E hn => ?_
  show TXs g C _ _ ⟨[("a", .str a), ("b", .str b)], sto⟩
  refine TXs.cons ?_
  repeat walk_at "m1"
  refine TO2.gtS ?_
  repeat walk_at "m1"
  refine TO2.ltS ?_
  refine TO2.subB ?_
  simpa using q
end
end
section -- P18
section
variable {g : G}
noncomputable abbrev kCalF (g : G) (C : Fm g) (a : Addr) (m : Nat) (pos : Pos) (es : List Expr) (P : V → St → Prop) : V → St → Prop := fun v st => v = .val (.ref a) ∧ TEs g C pos es (kCall g m (.ref a) P) st
theorem TE.callF {C : Fm g} {st : St} {P : V → St → Prop} {f : Fn} {id : Str} {p pos : Pos} {m : Nat} {e : Expr} {rest : List Expr} (hf : f ∈ fns) (hlt : f.a ∉ tbls) (hm : m ≤ C.n)
    (h : TE g C (.Name id p) (kCalF g C f.a m pos (e :: rest) P) st)
    (he : starEach (e :: rest) C.env = (false, eval e C.env) :: starEach rest C.env) : TE g C (.Call (.Name id p) (e :: rest) [] pos) P st := fun s gs => by
  refine wpAny_Call_Name_kw (h.on gs fun v st0 x s0 q r g0 x0 => ?_)
  obtain ⟨rfl, q⟩ := q
  cases r
  obtain ⟨o, fd, ho, hdat⟩ := Fn.there hf hlt g0
  refine callWith_function_kw (o := o) (fd := fd) ?_
  unfold TEs at q
  rw [he] at q ⊢
  refine Calls.evalArgs_plain (q.on g0 fun vs st1 as s1 q rs g1 x1 => ⟨⟨?_, hdat⟩, ?_⟩)
  · obtain ⟨oo, ffd, hh, _⟩ := g.top.fn f hf
    have a1 := g0.base.keep _ _ hh hlt
    have a2 := g1.base.keep _ _ hh hlt
    rw [ho] at a1; cases a1
    exact a2
  · exact wpAny_mono (call_of g1 q hm rs VRs.nil) (fun _ _ p => Po.trans x0 (Po.trans x1 p)) fun _ _ e => e
noncomputable def bis (p : Nat → Bool) : Nat → Nat → Nat → Nat
  | 0, lo, _ => lo
  | n + 1, lo, hi => if lo < hi then (if p ((lo + hi) / 2) then bis p n lo ((lo + hi) / 2) else bis p n ((lo + hi) / 2 + 1) hi) else lo
theorem mid_ge {lo hi : Nat} (h : lo < hi) : lo ≤ (lo + hi) / 2 := by omega
theorem mid_lt {lo hi : Nat} (h : lo < hi) : (lo + hi) / 2 < hi := by omega
theorem mid_cut {lo hi : Nat} (h : lo < hi) : (lo + hi) / 2 - lo < hi - lo := Nat.sub_lt_sub_right (mid_ge h) (mid_lt h)
theorem mid_cut' {lo hi : Nat} (h : lo < hi) : hi - ((lo + hi) / 2 + 1) < hi - lo := Nat.sub_lt_sub_left h (Nat.lt_succ_of_le (mid_ge h))
theorem mid_fdiv (lo hi : Nat) : ((lo : Int) + hi).fdiv 2 = (((lo + hi) / 2 : Nat) : Int) := by rw [Int.fdiv_eq_ediv_of_nonneg _ (by decide)]; rfl
theorem nneg (n : Nat) : ¬ (decide ((n : Int) < 0) = true) := fun h => absurd (of_decide_eq_true h) (Int.not_lt.mpr (Int.natCast_nonneg n))
theorem dlt {m n : Nat} (h : m < n) : decide ((m : Int) < n) = true := decide_eq_true (Int.ofNat_lt.mpr h)
theorem dnl {m n : Nat} (h : ¬ m < n) : ¬ (decide ((m : Int) < n) = true) := fun e => h (Int.ofNat_lt.mp (of_decide_eq_true e))
theorem nb {b : Bool} (h : b = true) : ¬ ((!b) = true) := by rw [h]; decide
theorem nb' {b : Bool} (h : ¬ b = true) : (!b) = true := by cases b with | true => exact absurd rfl h | false => rfl
theorem bis_fuel {p : Nat → Bool} (n m lo hi : Nat) (h1 : hi - lo ≤ n) (h2 : hi - lo ≤ m) : bis p n lo hi = bis p m lo hi := by
  induction n generalizing m lo hi with
  | zero =>
    cases m with
    | zero => rfl
    | succ m => rw [bis, bis, if_neg (Nat.not_lt.mpr (Nat.sub_eq_zero_iff_le.mp (Nat.le_zero.mp h1)))]
  | succ n ih =>
    by_cases h : lo < hi
    · cases m with
      | zero => exact absurd h (Nat.not_lt.mpr (Nat.sub_eq_zero_iff_le.mp (Nat.le_zero.mp h2)))
      | succ m =>
        rw [bis, bis, if_pos h, if_pos h]
        have a := mid_cut h
        have b := mid_cut' h
        rw [ih m _ _ (Nat.le_of_lt_succ (Nat.lt_of_lt_of_le a h1)) (Nat.le_of_lt_succ (Nat.lt_of_lt_of_le a h2)), ih m _ _ (Nat.le_of_lt_succ (Nat.lt_of_lt_of_le b h1)) (Nat.le_of_lt_succ (Nat.lt_of_lt_of_le b h2))]
    · cases m with
      | zero => rw [bis, bis, if_neg h]
      | succ m => rw [bis, bis, if_neg h, if_neg h]
/-- where the halving ends -/
noncomputable def bisect (p : Nat → Bool) (lo hi : Nat) : Nat := bis p (hi - lo) lo hi
theorem bisect_end {p : Nat → Bool} {lo hi : Nat} (h : ¬ lo < hi) : bisect p lo hi = lo := by
  unfold bisect
  rw [Nat.sub_eq_zero_of_le (Nat.not_lt.mp h), bis]
theorem bisect_one {p : Nat → Bool} {lo hi : Nat} (h : lo < hi) : bisect p lo hi = if p ((lo + hi) / 2) then bisect p lo ((lo + hi) / 2) else bisect p ((lo + hi) / 2 + 1) hi := by
  unfold bisect
  have e : hi - lo = hi - lo - 1 + 1 := (Nat.sub_add_cancel (Nat.sub_pos_of_lt h)).symm
  rw [bis_fuel (hi - lo) (hi - lo - 1 + 1) lo hi (Nat.le_refl _) (Nat.le_of_eq e), bis, if_pos h,
    bis_fuel (hi - lo - 1) _ lo ((lo + hi) / 2) (Nat.le_of_lt_succ (Nat.lt_of_lt_of_eq (mid_cut h) e)) (Nat.le_refl _),
    bis_fuel (hi - lo - 1) _ ((lo + hi) / 2 + 1) hi (Nat.le_of_lt_succ (Nat.lt_of_lt_of_eq (mid_cut' h) e)) (Nat.le_refl _)]
theorem bisect_up {p : Nat → Bool} {lo hi : Nat} (h : lo < hi) (hp : p ((lo + hi) / 2) = true) : bisect p lo hi = bisect p lo ((lo + hi) / 2) := (bisect_one h).trans (if_pos hp)
theorem bisect_dn {p : Nat → Bool} {lo hi : Nat} (h : lo < hi) (hp : ¬ p ((lo + hi) / 2) = true) : bisect p lo hi = bisect p ((lo + hi) / 2 + 1) hi := (bisect_one h).trans (if_neg hp)
noncomputable def isNo : V → Bool
  | .none => true
  | .val x => x == .none
  | _ => false
theorem isNo_of (v : V) : ∀ h x, VR h v x → (x == .none) = isNo v := fun h x r => by cases r <;> rfl
theorem TO2.is' {g : G} {C : Fm g} {Q : V → St → Prop} {st : St} {v : V} (q : Q (.bool (isNo v)) st) : TO2 VR g C (compareOp .Is) v .none Q st := TO2.isN (isNo_of v) q
theorem TO2.isnt' {g : G} {C : Fm g} {Q : V → St → Prop} {st : St} {v : V} (q : Q (.bool (!(isNo v))) st) : TO2 VR g C (compareOp .IsNot) v .none Q st := TO2.isNotN (isNo_of v) q

/-- fBR, no key -/
theorem cBR0 {a : Addr} {x hi : V} {vs : List V} {lo : Nat} {p : Nat → Bool} {sto : Sto} {Q : V → Sto → Prop} {args us : List V} {ks : List Str} (hb : Bnd g fBR args ks us lims [.ref a, x, .int lo, hi, .none])
    (hm : (a, .list vs) ∈ sto) (hl : vs.length ≤ 900) (hp : ∀ i v, vs[i]? = some v → Mine.ltv x v = some (p i)) {h : Nat} (hh : (hi = .none ∧ h = vs.length) ∨ (hi = .int h ∧ h ≤ vs.length))
    (q : Q (.int (bisect p lo h)) sto) : TC g 1 (.ref fBR.a) args ks us Q sto := by
  refine TC.bd (fn_of (by walk_at "in")) (by decide) nofun (by decide) hb (by decide) (by decide) (by decide) (by decide) rfl rfl rfl fun C E hn => ?_
  show TXs g C _ _ ⟨[("a", .ref a), ("x", x), ("lo", .int lo), ("hi", hi), ("key", .none)], sto⟩
  refine TXs.cons ?_
  repeat walk_at "m1"
  refine TO2.ltI (kB.it ?_)
  refine iteF (nneg lo) ?_
  repeat walk_at "m1"
  refine TO2.is' (kB.it ?_)
  have fin : ∀ l : Loc, Has l [("a", .ref a), ("x", x), ("lo", .int lo), ("hi", .int h), ("key", .none)] → h ≤ vs.length → TXs g C (fBR.body.drop 2) (kDef Q) ⟨l, sto⟩ := by
    intro l H hle
    refine Tr.less (st' := ⟨_, sto⟩) H rfl ?_
    refine TXs.cons ?_
    repeat walk_at "m1"
    refine TO2.is' (kB.it ?_)
    walk_at "yes"
    refine TXs.cons ?_
    refine TX.while (fun n st => ∃ lo' hi' : Nat, Has st.loc [("a", .ref a), ("x", x), ("lo", .int lo'), ("hi", .int hi'), ("key", .none)] ∧ st.sto = sto ∧ hi' ≤ vs.length ∧ bisect p lo' hi' = bisect p lo h ∧ n = hi' - lo') ?_ (h - lo) ⟨lo, h, fun p hp => hp, rfl, hle, rfl, rfl⟩
    rintro n ⟨l', sto'⟩ ⟨lo', hi', H', e, hle', hb', rfl⟩
    have e : sto' = sto := e
    subst e
    refine Tr.less (st' := ⟨_, sto'⟩) H' rfl ?_
    repeat walk_at "m1"
    refine TO2.ltI (kB.it ?_)
    by_cases hlt : lo' < hi'
    · refine iteT (dlt hlt) ?_
      have hmid : (lo' + hi') / 2 < vs.length := Nat.lt_of_lt_of_le (mid_lt hlt) hle'
      obtain ⟨v, hv⟩ : ∃ v, vs[(lo' + hi') / 2]? = some v := ⟨_, List.getElem?_eq_getElem hmid⟩
      repeat walk_at "m1"
      refine TO2.addI ?_
      repeat walk_at "m1"
      refine TO2.divI (by decide) ?_
      rw [mid_fdiv]
      repeat walk_at "m1"
      refine TO2.itemL _ rfl ?_ hv ?_ ?_
      · exact hm
      · exact Nat.le_trans hl (by decide)
      refine TO2.ltv (hp _ _ hv) (kB.it ?_)
      by_cases hpm : p ((lo' + hi') / 2) = true
      · refine iteT hpm ?_
        repeat walk_at "m1"
        exact ⟨_, mid_cut hlt, lo', (lo' + hi') / 2, by walk_at "has", rfl, Nat.le_of_lt hmid, (bisect_up hlt hpm).symm.trans hb', rfl⟩
      · refine iteF hpm ?_
        repeat walk_at "m1"
        refine TO2.addI ?_
        repeat walk_at "m1"
        exact ⟨_, mid_cut' hlt, (lo' + hi') / 2 + 1, hi', by walk_at "has", rfl, hle', (bisect_dn hlt hpm).symm.trans hb', rfl⟩
    · refine iteF (dnl hlt) ?_
      repeat walk_at "m1"
      rw [bisect_end hlt] at hb'
      rw [hb']; exact q
  rcases hh with ⟨rfl, rfl⟩ | ⟨rfl, hle⟩
  · walk_at "yes"
    repeat walk_at "m1"
    refine TE.callB (bid := "len") (by walk_at "in") (by walk_at "kg") ?_
    repeat walk_at "m1"
    refine TOL.one (TO1.lenL (vs := vs) ?_ ?_ ?_)
    · exact hm
    · exact Nat.le_trans hl (by decide)
    walk_at "m1"
    refine fin _ ?_ (Nat.le_refl _)
    walk_at "has"
  · walk_at "no"
    walk_at "m1"
    exact fin _ (fun p hp => hp) hle
/-- fBL, no key -/
theorem cBL0 {a : Addr} {x hi : V} {vs : List V} {lo : Nat} {p : Nat → Bool} {sto : Sto} {Q : V → Sto → Prop} {args us : List V} {ks : List Str} (hb : Bnd g fBL args ks us lims [.ref a, x, .int lo, hi, .none])
    (hm : (a, .list vs) ∈ sto) (hl : vs.length ≤ 900) (hp : ∀ i v, vs[i]? = some v → Mine.ltv v x = some (!(p i))) {h : Nat} (hh : (hi = .none ∧ h = vs.length) ∨ (hi = .int h ∧ h ≤ vs.length))
    (q : Q (.int (bisect p lo h)) sto) : TC g 1 (.ref fBL.a) args ks us Q sto := by
  refine TC.bd (fn_of (by walk_at "in")) (by decide) nofun (by decide) hb (by decide) (by decide) (by decide) (by decide) rfl rfl rfl fun C E hn => ?_
  show TXs g C _ _ ⟨[("a", .ref a), ("x", x), ("lo", .int lo), ("hi", hi), ("key", .none)], sto⟩
  refine TXs.cons ?_
  repeat walk_at "m1"
  refine TO2.ltI (kB.it ?_)
  refine iteF (nneg lo) ?_
  repeat walk_at "m1"
  refine TO2.is' (kB.it ?_)
  have fin : ∀ l : Loc, Has l [("a", .ref a), ("x", x), ("lo", .int lo), ("hi", .int h), ("key", .none)] → h ≤ vs.length → TXs g C (fBL.body.drop 2) (kDef Q) ⟨l, sto⟩ := by
    intro l H hle
    refine Tr.less (st' := ⟨_, sto⟩) H rfl ?_
    refine TXs.cons ?_
    repeat walk_at "m1"
    refine TO2.is' (kB.it ?_)
    walk_at "yes"
    refine TXs.cons ?_
    refine TX.while (fun n st => ∃ lo' hi' : Nat, Has st.loc [("a", .ref a), ("x", x), ("lo", .int lo'), ("hi", .int hi'), ("key", .none)] ∧ st.sto = sto ∧ hi' ≤ vs.length ∧ bisect p lo' hi' = bisect p lo h ∧ n = hi' - lo') ?_ (h - lo) ⟨lo, h, fun p hp => hp, rfl, hle, rfl, rfl⟩
    rintro n ⟨l', sto'⟩ ⟨lo', hi', H', e, hle', hb', rfl⟩
    have e : sto' = sto := e
    subst e
    refine Tr.less (st' := ⟨_, sto'⟩) H' rfl ?_
    repeat walk_at "m1"
    refine TO2.ltI (kB.it ?_)
    by_cases hlt : lo' < hi'
    · refine iteT (dlt hlt) ?_
      have hmid : (lo' + hi') / 2 < vs.length := Nat.lt_of_lt_of_le (mid_lt hlt) hle'
      obtain ⟨v, hv⟩ : ∃ v, vs[(lo' + hi') / 2]? = some v := ⟨_, List.getElem?_eq_getElem hmid⟩
      repeat walk_at "m1"
      refine TO2.addI ?_
      repeat walk_at "m1"
      refine TO2.divI (by decide) ?_
      rw [mid_fdiv]
      repeat walk_at "m1"
      refine TO2.itemL _ rfl ?_ hv ?_ ?_
      · exact hm
      · exact Nat.le_trans hl (by decide)
      repeat walk_at "m1"
      refine TO2.ltv (hp _ _ hv) (kB.it ?_)
      by_cases hpm : p ((lo' + hi') / 2) = true
      · refine iteF (nb hpm) ?_
        repeat walk_at "m1"
        exact ⟨_, mid_cut hlt, lo', (lo' + hi') / 2, by walk_at "has", rfl, Nat.le_of_lt hmid, (bisect_up hlt hpm).symm.trans hb', rfl⟩
      · refine iteT (nb' hpm) ?_
        repeat walk_at "m1"
        refine TO2.addI ?_
        repeat walk_at "m1"
        exact ⟨_, mid_cut' hlt, (lo' + hi') / 2 + 1, hi', by walk_at "has", rfl, hle', (bisect_dn hlt hpm).symm.trans hb', rfl⟩
    · refine iteF (dnl hlt) ?_
      repeat walk_at "m1"
      rw [bisect_end hlt] at hb'
      rw [hb']; exact q
  rcases hh with ⟨rfl, rfl⟩ | ⟨rfl, hle⟩
  · walk_at "yes"
    repeat walk_at "m1"
    refine TE.callB (bid := "len") (by walk_at "in") (by walk_at "kg") ?_
    repeat walk_at "m1"
    refine TOL.one (TO1.lenL (vs := vs) ?_ ?_ ?_)
    · exact hm
    · exact Nat.le_trans hl (by decide)
    walk_at "m1"
    refine fin _ ?_ (Nat.le_refl _)
    walk_at "has"
  · walk_at "no"
    walk_at "m1"
    exact fin _ (fun p hp => hp) hle
/-- fBR, with a key -/
theorem cBRk {a : Addr} {x hi : V} {vs : List V} {lo : Nat} {p : Nat → Bool} {sto : Sto} {Q : V → Sto → Prop} {args us : List V} {ks : List Str} {kf : Fn} (hkf : kf ∈ fns) (hka : kf.a ∉ tbls) {κ : Nat → V} (hk : ∀ i v, vs[i]? = some v → ∀ (sto : Sto) (Q : V → Sto → Prop), Q (κ i) sto → TC g 2 (.ref kf.a) [v] [] [] Q sto) (hb : Bnd g fBR args ks us lims [.ref a, x, .int lo, hi, .val (.ref kf.a)])
    (hm : (a, .list vs) ∈ sto) (hl : vs.length ≤ 900) (hp : ∀ i v, vs[i]? = some v → Mine.ltv x (κ i) = some (p i)) {h : Nat} (hh : (hi = .none ∧ h = vs.length) ∨ (hi = .int h ∧ h ≤ vs.length))
    (q : Q (.int (bisect p lo h)) sto) : TC g 3 (.ref fBR.a) args ks us Q sto := by
  refine TC.bd (fn_of (by walk_at "in")) (by decide) nofun (by decide) hb (by decide) (by decide) (by decide) (by decide) rfl rfl rfl fun C E hn => ?_
  show TXs g C _ _ ⟨[("a", .ref a), ("x", x), ("lo", .int lo), ("hi", hi), ("key", .val (.ref kf.a))], sto⟩
  refine TXs.cons ?_
  repeat walk_at "m1"
  refine TO2.ltI (kB.it ?_)
  refine iteF (nneg lo) ?_
  repeat walk_at "m1"
  refine TO2.is' (kB.it ?_)
  have fin : ∀ l : Loc, Has l [("a", .ref a), ("x", x), ("lo", .int lo), ("hi", .int h), ("key", .val (.ref kf.a))] → h ≤ vs.length → TXs g C (fBR.body.drop 2) (kDef Q) ⟨l, sto⟩ := by
    intro l H hle
    refine Tr.less (st' := ⟨_, sto⟩) H rfl ?_
    refine TXs.cons ?_
    repeat walk_at "m1"
    refine TO2.is' (kB.it ?_)
    walk_at "no"
    refine TXs.cons ?_
    refine TX.while (fun n st => ∃ lo' hi' : Nat, Has st.loc [("a", .ref a), ("x", x), ("lo", .int lo'), ("hi", .int hi'), ("key", .val (.ref kf.a))] ∧ st.sto = sto ∧ hi' ≤ vs.length ∧ bisect p lo' hi' = bisect p lo h ∧ n = hi' - lo') ?_ (h - lo) ⟨lo, h, fun p hp => hp, rfl, hle, rfl, rfl⟩
    rintro n ⟨l', sto'⟩ ⟨lo', hi', H', e, hle', hb', rfl⟩
    have e : sto' = sto := e
    subst e
    refine Tr.less (st' := ⟨_, sto'⟩) H' rfl ?_
    repeat walk_at "m1"
    refine TO2.ltI (kB.it ?_)
    by_cases hlt : lo' < hi'
    · refine iteT (dlt hlt) ?_
      have hmid : (lo' + hi') / 2 < vs.length := Nat.lt_of_lt_of_le (mid_lt hlt) hle'
      obtain ⟨v, hv⟩ : ∃ v, vs[(lo' + hi') / 2]? = some v := ⟨_, List.getElem?_eq_getElem hmid⟩
      repeat walk_at "m1"
      refine TO2.addI ?_
      repeat walk_at "m1"
      refine TO2.divI (by decide) ?_
      rw [mid_fdiv]
      repeat walk_at "m1"
      refine TE.callF (f := kf) (m := 2) hkf hka (by omega) ?_ rfl
      walk_at "m1"
      refine ⟨rfl, ?_⟩
      repeat walk_at "m1"
      refine TO2.itemL _ rfl ?_ hv ?_ ?_
      · exact hm
      · exact Nat.le_trans hl (by decide)
      repeat walk_at "m1"
      refine hk _ _ hv _ _ ?_
      repeat walk_at "m1"
      refine TO2.ltv (hp _ _ hv) (kB.it ?_)
      by_cases hpm : p ((lo' + hi') / 2) = true
      · refine iteT hpm ?_
        repeat walk_at "m1"
        exact ⟨_, mid_cut hlt, lo', (lo' + hi') / 2, by walk_at "has", rfl, Nat.le_of_lt hmid, (bisect_up hlt hpm).symm.trans hb', rfl⟩
      · refine iteF hpm ?_
        repeat walk_at "m1"
        refine TO2.addI ?_
        repeat walk_at "m1"
        exact ⟨_, mid_cut' hlt, (lo' + hi') / 2 + 1, hi', by walk_at "has", rfl, hle', (bisect_dn hlt hpm).symm.trans hb', rfl⟩
    · refine iteF (dnl hlt) ?_
      repeat walk_at "m1"
      rw [bisect_end hlt] at hb'
      rw [hb']; exact q
  rcases hh with ⟨rfl, rfl⟩ | ⟨rfl, hle⟩
  · walk_at "yes"
    repeat walk_at "m1"
    refine TE.callB (bid := "len") (by walk_at "in") (by walk_at "kg") ?_
    repeat walk_at "m1"
    refine TOL.one (TO1.lenL (vs := vs) ?_ ?_ ?_)
    · exact hm
    · exact Nat.le_trans hl (by decide)
    walk_at "m1"
    refine fin _ ?_ (Nat.le_refl _)
    walk_at "has"
  · walk_at "no"
    walk_at "m1"
    exact fin _ (fun p hp => hp) hle
/-- fBL, with a key -/
theorem cBLk {a : Addr} {x hi : V} {vs : List V} {lo : Nat} {p : Nat → Bool} {sto : Sto} {Q : V → Sto → Prop} {args us : List V} {ks : List Str} {kf : Fn} (hkf : kf ∈ fns) (hka : kf.a ∉ tbls) {κ : Nat → V} (hk : ∀ i v, vs[i]? = some v → ∀ (sto : Sto) (Q : V → Sto → Prop), Q (κ i) sto → TC g 2 (.ref kf.a) [v] [] [] Q sto) (hb : Bnd g fBL args ks us lims [.ref a, x, .int lo, hi, .val (.ref kf.a)])
    (hm : (a, .list vs) ∈ sto) (hl : vs.length ≤ 900) (hp : ∀ i v, vs[i]? = some v → Mine.ltv (κ i) x = some (!(p i))) {h : Nat} (hh : (hi = .none ∧ h = vs.length) ∨ (hi = .int h ∧ h ≤ vs.length))
    (q : Q (.int (bisect p lo h)) sto) : TC g 3 (.ref fBL.a) args ks us Q sto := by
  refine TC.bd (fn_of (by walk_at "in")) (by decide) nofun (by decide) hb (by decide) (by decide) (by decide) (by decide) rfl rfl rfl fun C E hn => ?_
  show TXs g C _ _ ⟨[("a", .ref a), ("x", x), ("lo", .int lo), ("hi", hi), ("key", .val (.ref kf.a))], sto⟩
  refine TXs.cons ?_
  repeat walk_at "m1"
  refine TO2.ltI (kB.it ?_)
  refine iteF (nneg lo) ?_
  repeat walk_at "m1"
  refine TO2.is' (kB.it ?_)
  have fin : ∀ l : Loc, Has l [("a", .ref a), ("x", x), ("lo", .int lo), ("hi", .int h), ("key", .val (.ref kf.a))] → h ≤ vs.length → TXs g C (fBL.body.drop 2) (kDef Q) ⟨l, sto⟩ := by
    intro l H hle
    refine Tr.less (st' := ⟨_, sto⟩) H rfl ?_
    refine TXs.cons ?_
    repeat walk_at "m1"
    refine TO2.is' (kB.it ?_)
    walk_at "no"
    refine TXs.cons ?_
    refine TX.while (fun n st => ∃ lo' hi' : Nat, Has st.loc [("a", .ref a), ("x", x), ("lo", .int lo'), ("hi", .int hi'), ("key", .val (.ref kf.a))] ∧ st.sto = sto ∧ hi' ≤ vs.length ∧ bisect p lo' hi' = bisect p lo h ∧ n = hi' - lo') ?_ (h - lo) ⟨lo, h, fun p hp => hp, rfl, hle, rfl, rfl⟩
    rintro n ⟨l', sto'⟩ ⟨lo', hi', H', e, hle', hb', rfl⟩
    have e : sto' = sto := e
    subst e
    refine Tr.less (st' := ⟨_, sto'⟩) H' rfl ?_
    repeat walk_at "m1"
    refine TO2.ltI (kB.it ?_)
    by_cases hlt : lo' < hi'
    · refine iteT (dlt hlt) ?_
      have hmid : (lo' + hi') / 2 < vs.length := Nat.lt_of_lt_of_le (mid_lt hlt) hle'
      obtain ⟨v, hv⟩ : ∃ v, vs[(lo' + hi') / 2]? = some v := ⟨_, List.getElem?_eq_getElem hmid⟩
      repeat walk_at "m1"
      refine TO2.addI ?_
      repeat walk_at "m1"
      refine TO2.divI (by decide) ?_
      rw [mid_fdiv]
      repeat walk_at "m1"
      refine TE.callF (f := kf) (m := 2) hkf hka (by omega) ?_ rfl
      walk_at "m1"
      refine ⟨rfl, ?_⟩
      repeat walk_at "m1"
      refine TO2.itemL _ rfl ?_ hv ?_ ?_
      · exact hm
      · exact Nat.le_trans hl (by decide)
      repeat walk_at "m1"
      refine hk _ _ hv _ _ ?_
      repeat walk_at "m1"
      refine TO2.ltv (hp _ _ hv) (kB.it ?_)
      by_cases hpm : p ((lo' + hi') / 2) = true
      · refine iteF (nb hpm) ?_
        repeat walk_at "m1"
        exact ⟨_, mid_cut hlt, lo', (lo' + hi') / 2, by walk_at "has", rfl, Nat.le_of_lt hmid, (bisect_up hlt hpm).symm.trans hb', rfl⟩
      · refine iteT (nb' hpm) ?_
        repeat walk_at "m1"
        refine TO2.addI ?_
        repeat walk_at "m1"
        exact ⟨_, mid_cut' hlt, (lo' + hi') / 2 + 1, hi', by walk_at "has", rfl, hle', (bisect_dn hlt hpm).symm.trans hb', rfl⟩
    · refine iteF (dnl hlt) ?_
      repeat walk_at "m1"
      rw [bisect_end hlt] at hb'
      rw [hb']; exact q
  rcases hh with ⟨rfl, rfl⟩ | ⟨rfl, hle⟩
  · walk_at "yes"
    repeat walk_at "m1"
    refine TE.callB (bid := "len") (by walk_at "in") (by walk_at "kg") ?_
    repeat walk_at "m1"
    refine TOL.one (TO1.lenL (vs := vs) ?_ ?_ ?_)
    · exact hm
    · exact Nat.le_trans hl (by decide)
    walk_at "m1"
    refine fin _ ?_ (Nat.le_refl _)
    walk_at "has"
  · walk_at "no"
    walk_at "m1"
    exact fin _ (fun p hp => hp) hle
end
end
section -- P19
section
variable {g : G}
theorem notInter {C : Fm g} : interactive C.env = false := by unfold interactive; rw [C.kind]; rfl
/-- fIR, no key -/
theorem cIR0 {a : Addr} {x hi : V} {vs : List V} {lo : Nat} {p : Nat → Bool} {sto : Sto} {Q : V → Sto → Prop} {args us : List V} {ks : List Str} (hb : Bnd g fIR args ks us lims [.ref a, x, .int lo, hi, .none])
    (hm : (a, .list vs) ∈ sto) (hl : vs.length ≤ 900) (hp : ∀ i v, vs[i]? = some v → Mine.ltv x v = some (p i)) {h : Nat} (hh : (hi = .none ∧ h = vs.length) ∨ (hi = .int h ∧ h ≤ vs.length)) (hle : bisect p lo h ≤ vs.length)
    (q : Q .none (put sto a (.list (vs.take (bisect p lo h) ++ x :: vs.drop (bisect p lo h))))) : TC g 2 (.ref fIR.a) args ks us Q sto := by
  refine TC.bd (fn_of (by walk_at "in")) (by decide) nofun (by decide) hb (by decide) (by decide) (by decide) (by decide) rfl rfl rfl fun C E hn => ?_
  show TXs g C _ _ ⟨[("a", .ref a), ("x", x), ("lo", .int lo), ("hi", hi), ("key", .none)], sto⟩
  refine TXs.cons ?_
  repeat walk_at "m1"
  refine TO2.is' (kB.it ?_)
  walk_at "yes"
  repeat walk_at "m1"
  refine TE.callP (f := fBR) (m := 1) (by walk_at "in") (by walk_at "in") (by walk_at "kg") (by decide) (n_le hn) ?_
  repeat walk_at "m1"
  refine cBR0 bBR4 hm hl hp hh ?_
  repeat walk_at "m1"
  refine TX.expr ?_ notInter
  refine TE.insert ?_
  walk_at "m1"
  refine ⟨_, _, rfl, hm, ?_⟩
  repeat walk_at "m1"
  refine ⟨_, _, rfl, hle, hm, by omega, rfl, ?_⟩
  repeat walk_at "m1"
  exact q
/-- fIL, no key -/
theorem cIL0 {a : Addr} {x hi : V} {vs : List V} {lo : Nat} {p : Nat → Bool} {sto : Sto} {Q : V → Sto → Prop} {args us : List V} {ks : List Str} (hb : Bnd g fIL args ks us lims [.ref a, x, .int lo, hi, .none])
    (hm : (a, .list vs) ∈ sto) (hl : vs.length ≤ 900) (hp : ∀ i v, vs[i]? = some v → Mine.ltv v x = some (!(p i))) {h : Nat} (hh : (hi = .none ∧ h = vs.length) ∨ (hi = .int h ∧ h ≤ vs.length)) (hle : bisect p lo h ≤ vs.length)
    (q : Q .none (put sto a (.list (vs.take (bisect p lo h) ++ x :: vs.drop (bisect p lo h))))) : TC g 2 (.ref fIL.a) args ks us Q sto := by
  refine TC.bd (fn_of (by walk_at "in")) (by decide) nofun (by decide) hb (by decide) (by decide) (by decide) (by decide) rfl rfl rfl fun C E hn => ?_
  show TXs g C _ _ ⟨[("a", .ref a), ("x", x), ("lo", .int lo), ("hi", hi), ("key", .none)], sto⟩
  refine TXs.cons ?_
  repeat walk_at "m1"
  refine TO2.is' (kB.it ?_)
  walk_at "yes"
  repeat walk_at "m1"
  refine TE.callP (f := fBL) (m := 1) (by walk_at "in") (by walk_at "in") (by walk_at "kg") (by decide) (n_le hn) ?_
  repeat walk_at "m1"
  refine cBL0 bBL4 hm hl hp hh ?_
  repeat walk_at "m1"
  refine TX.expr ?_ notInter
  refine TE.insert ?_
  walk_at "m1"
  refine ⟨_, _, rfl, hm, ?_⟩
  repeat walk_at "m1"
  refine ⟨_, _, rfl, hle, hm, by omega, rfl, ?_⟩
  repeat walk_at "m1"
  exact q
/-- fIR, with a key -/
theorem cIRk {a : Addr} {x hi : V} {vs : List V} {lo : Nat} {p : Nat → Bool} {sto : Sto} {Q : V → Sto → Prop} {args us : List V} {ks : List Str} {kf : Fn} (hkf : kf ∈ fns) (hka : kf.a ∉ tbls) {κ : Nat → V} {y : V} (hk : ∀ i v, vs[i]? = some v → ∀ (sto : Sto) (Q : V → Sto → Prop), Q (κ i) sto → TC g 2 (.ref kf.a) [v] [] [] Q sto) (hky : ∀ (sto : Sto) (Q : V → Sto → Prop), Q y sto → TC g 2 (.ref kf.a) [x] [] [] Q sto) (hb : Bnd g fIR args ks us lims [.ref a, x, .int lo, hi, .val (.ref kf.a)])
    (hm : (a, .list vs) ∈ sto) (hl : vs.length ≤ 900) (hp : ∀ i v, vs[i]? = some v → Mine.ltv y (κ i) = some (p i)) {h : Nat} (hh : (hi = .none ∧ h = vs.length) ∨ (hi = .int h ∧ h ≤ vs.length)) (hle : bisect p lo h ≤ vs.length)
    (q : Q .none (put sto a (.list (vs.take (bisect p lo h) ++ x :: vs.drop (bisect p lo h))))) : TC g 4 (.ref fIR.a) args ks us Q sto := by
  refine TC.bd (fn_of (by walk_at "in")) (by decide) nofun (by decide) hb (by decide) (by decide) (by decide) (by decide) rfl rfl rfl fun C E hn => ?_
  show TXs g C _ _ ⟨[("a", .ref a), ("x", x), ("lo", .int lo), ("hi", hi), ("key", .val (.ref kf.a))], sto⟩
  refine TXs.cons ?_
  repeat walk_at "m1"
  refine TO2.is' (kB.it ?_)
  walk_at "no"
  repeat walk_at "m1"
  refine TE.callK (f := fBR) (m := 3) (ks := ["key"]) (by walk_at "in") (by walk_at "in") (by walk_at "kg") (by decide) (n_le hn) ?_
  repeat walk_at "m1"
  refine TE.callF (f := kf) (m := 2) hkf hka (by omega) ?_ rfl
  walk_at "m1"
  refine ⟨rfl, ?_⟩
  repeat walk_at "m1"
  refine hky _ _ ?_
  repeat walk_at "m1"
  refine TKs.cons ?_
  walk_at "m1"
  refine TKs.nil ?_
  refine cBRk hkf hka hk bBR4k hm hl hp hh ?_
  repeat walk_at "m1"
  refine TX.expr ?_ notInter
  refine TE.insert ?_
  walk_at "m1"
  refine ⟨_, _, rfl, hm, ?_⟩
  repeat walk_at "m1"
  refine ⟨_, _, rfl, hle, hm, by omega, rfl, ?_⟩
  repeat walk_at "m1"
  exact q
/-- fIL, with a key -/
theorem cILk {a : Addr} {x hi : V} {vs : List V} {lo : Nat} {p : Nat → Bool} {sto : Sto} {Q : V → Sto → Prop} {args us : List V} {ks : List Str} {kf : Fn} (hkf : kf ∈ fns) (hka : kf.a ∉ tbls) {κ : Nat → V} {y : V} (hk : ∀ i v, vs[i]? = some v → ∀ (sto : Sto) (Q : V → Sto → Prop), Q (κ i) sto → TC g 2 (.ref kf.a) [v] [] [] Q sto) (hky : ∀ (sto : Sto) (Q : V → Sto → Prop), Q y sto → TC g 2 (.ref kf.a) [x] [] [] Q sto) (hb : Bnd g fIL args ks us lims [.ref a, x, .int lo, hi, .val (.ref kf.a)])
    (hm : (a, .list vs) ∈ sto) (hl : vs.length ≤ 900) (hp : ∀ i v, vs[i]? = some v → Mine.ltv (κ i) y = some (!(p i))) {h : Nat} (hh : (hi = .none ∧ h = vs.length) ∨ (hi = .int h ∧ h ≤ vs.length)) (hle : bisect p lo h ≤ vs.length)
    (q : Q .none (put sto a (.list (vs.take (bisect p lo h) ++ x :: vs.drop (bisect p lo h))))) : TC g 4 (.ref fIL.a) args ks us Q sto := by
  refine TC.bd (fn_of (by walk_at "in")) (by decide) nofun (by decide) hb (by decide) (by decide) (by decide) (by decide) rfl rfl rfl fun C E hn => ?_
  show TXs g C _ _ ⟨[("a", .ref a), ("x", x), ("lo", .int lo), ("hi", hi), ("key", .val (.ref kf.a))], sto⟩
  refine TXs.cons ?_
  repeat walk_at "m1"
  refine TO2.is' (kB.it ?_)
  walk_at "no"
  repeat walk_at "m1"
  refine TE.callK (f := fBL) (m := 3) (ks := ["key"]) (by walk_at "in") (by walk_at "in") (by walk_at "kg") (by decide) (n_le hn) ?_
  repeat walk_at "m1"
  refine TE.callF (f := kf) (m := 2) hkf hka (by omega) ?_ rfl
  walk_at "m1"
  refine ⟨rfl, ?_⟩
  repeat walk_at "m1"
  refine hky _ _ ?_
  repeat walk_at "m1"
  refine TKs.cons ?_
  walk_at "m1"
  refine TKs.nil ?_
  refine cBLk hkf hka hk bBL4k hm hl hp hh ?_
  repeat walk_at "m1"
  refine TX.expr ?_ notInter
  refine TE.insert ?_
  walk_at "m1"
  refine ⟨_, _, rfl, hm, ?_⟩
  repeat walk_at "m1"
  refine ⟨_, _, rfl, hle, hm, by omega, rfl, ?_⟩
  repeat walk_at "m1"
  exact q
end
end
section -- P29
section
variable {g : G} {C : Fm g} {st : St} {s s' : Shared} {Q : V → St → Prop}
theorem TO1.negI {i : Int} (q : Q (.int (-i)) st) : TO1 VR g C (unaryOp .USub) (.int i) Q st := fun s x gs r => by
  cases r; exact PySem.P.neg_int (Po.toks gs _ (VR.int _ _) q)
theorem preSum_take (is : List Int) (n : Nat) (h : n ≤ is.length) : preSum (fun i => is.getD i 0) n = (is.take n).sum := by
  induction n with
  | zero => rfl
  | succ n ih =>
    have hn : n < is.length := h
    rw [preSum, ih (Nat.le_of_lt hn), List.take_add_one, List.sum_append, List.getElem?_eq_getElem hn, List.getD_eq_getElem?_getD, List.getElem?_eq_getElem hn]
    simp
theorem TOL.sum {a : Addr} {is : List Int} (hm : (a, .list (is.map V.int)) ∈ st.sto) (q : Q (.int is.sum) st) : TOL g C (fun xs => call (.builtin "sum") xs) [.ref a] Q st := fun s xs gs r => by
  obtain ⟨x, rfl, rx⟩ := r.one
  cases rx
  obtain ⟨items, hL, rv⟩ := IsLL gs.toGoodS hm
  have e : is.length = items.size := by have := rv.length; simpa using this
  have hlt : a < s.heap.objs.size := by obtain ⟨o, ho, _⟩ := hL; exact Heap.lt_size ho
  refine call_sum_walkG (wpAny_pyIter_list hL ?_)
  refine ⟨_, _, _, _, _, _, fun i => is.getD i 0, rfl, Walks.list (A := C.A.in1) C.handled s.heap.objs.size a (Nat.ne_of_lt hlt) items, ⟨⟨_, Heap.get?_push_size _ rfl, rfl, rfl⟩, hL.push _⟩, fun b hb => ?_, fun i v hv => ?_, fun h' tk t' hk => ?_⟩
  · show b < (s.heap.push _).objs.size
    rw [Heap.size_push]
    rcases List.mem_cons.mp hb with rfl | hb
    · exact Nat.lt_succ_self _
    · rw [List.mem_singleton] at hb; subst hb; exact Nat.lt_succ_of_lt hlt
  · obtain ⟨w, hw, rw_⟩ := rv.get' i v (by simpa using hv)
    rw [List.getElem?_map] at hw
    cases hi : is[i]? with
    | none => rw [hi] at hw; cases hw
    | some k =>
      rw [hi] at hw; cases hw
      cases rw_
      exact ⟨‹Tok›, by simp [hi]⟩
  · have hk' : ∀ b o, s.heap.get? b = some o → h'.get? b = some o := fun b o eb => hk b o (by simp; exact Nat.ne_of_lt (Heap.lt_size eb)) (Heap.get?_push_of_some _ eb)
    obtain ⟨g1, x1⟩ := gs.ext (s' := { s with heap := h', toks := tk }) hk' rfl rfl
    refine ⟨_, st, VR.int _ t', g1, x1, ?_⟩
    rw [← e, preSum_take is _ (Nat.le_refl _), List.take_length]; exact q

noncomputable def instI (v : V) (T : String) : Option Bool := match v with
  | .bool _ => if T = "bool" then some true else if T = "int" then some true else none
  | .int _ => if T = "bool" then some false else if T = "int" then some true else none
  | _ => none
theorem TOL.isi {v : V} {T : String} {b : Bool} (h : instI v T = some b) (q : Q (.bool b) st) : TOL g C (fun xs => call (.builtin "isinstance") xs) [v, .val (.type T)] Q st := fun s xs gs r => by
  obtain ⟨x, y, rfl, rx, ry⟩ := r.two
  cases ry
  cases v with
  | bool _ =>
    cases rx
    by_cases e : T = "bool"
    · subst e; cases h; exact IsiPair.bool_bool (Po.here gs (VR.bool _) q)
    · by_cases e' : T = "int"
      · subst e'; cases h; exact IsiPair.bool_int (Po.here gs (VR.bool _) q)
      · rw [show instI (.bool _) T = none by unfold instI; simp only [if_neg e, if_neg e']] at h; cases h
  | int _ =>
    cases rx
    by_cases e : T = "bool"
    · subst e; cases h; exact IsiPair.int_bool (Po.toks gs _ (VR.bool _) q)
    · by_cases e' : T = "int"
      · subst e'; cases h; exact IsiPair.int_int (Po.here gs (VR.bool _) q)
      · rw [show instI (.int _) T = none by unfold instI; simp only [if_neg e, if_neg e']] at h; cases h
  | _ => cases (show (none : Option Bool) = some b from h)
theorem TOL.min2 {i j : Int} (q : Q (.int (if j < i then j else i)) st) : TOL g C (fun xs => call (.builtin "min") xs) [.int i, .int j] Q st := fun s xs gs r => by
  obtain ⟨x, y, rfl, rx, ry⟩ := r.two
  cases rx; cases ry
  refine min_two_ints C.handled fun h' tk hk => ?_
  obtain ⟨g1, x1⟩ := gs.ext (s' := { s with heap := h', toks := tk }) hk rfl rfl
  refine ⟨_, st, ?_, g1, x1, q⟩
  split <;> exact VR.int _ _
theorem TO2.powI {i j : Int} (hj : 0 ≤ j ∧ j ≤ 1000) (hi : i.natAbs < 1000) (q : Q (.int (i ^ j.toNat)) st) : TO2 VR g C (binaryOp .Pow) (.int i) (.int j) Q st := fun s x y gs rx ry => by
  cases rx; cases ry
  exact pow_int_small hj.1 (by omega) (Nat.lt_trans hi (by decide)) (Po.toks gs _ (VR.int _ _) q)
theorem VRs.ints {h : Heap} {is : List Int} {xs : List Value} (r : VRs h (is.map V.int) xs) : IntsAre xs is := by
  induction is generalizing xs with
  | nil => cases r; exact .nil
  | cons i is ih =>
    obtain ⟨_, _, rfl, a, b⟩ := VRs.consI r
    cases a; exact .cons _ _ (ih b)
theorem VRs.ofInts {h : Heap} {is : List Int} {xs : List Value} (r : IntsAre xs is) : VRs h (is.map V.int) xs := by
  induction r with
  | nil => exact .nil
  | cons i t _ ih => exact .cons (.int i t) ih
/-- sorted(whole numbers) -/
theorem TOL.sorted {a : Addr} {is : List Int} (hm : (a, .list (is.map V.int)) ∈ st.sto) (hl : is.length < 64) (q : ∀ D (js : List Int), (∀ p ∈ st.sto, p.1 ≠ D) → js.Perm is → js.Pairwise (· ≤ ·) → Q (.ref D) ⟨st.loc, (D, .list (js.map V.int)) :: st.sto⟩) :
    TOL g C (fun xs => call (.builtin "sorted") xs) [.ref a] Q st := fun s xs gs r => by
  obtain ⟨x, rfl, rx⟩ := r.one
  cases rx
  obtain ⟨items, hL, rv⟩ := IsLL gs.toGoodS hm
  have e : is.length = items.toList.length := by have := rv.length; simpa using this
  have hL' : s.heap.IsList a items.toList.toArray := by simpa using hL
  refine sorted_ints hL' rv.ints (by omega) fun out js hj hp hs => ?_
  have hk : ∀ b o, s.heap.get? b = some o → (sortedAll s.heap items.toList out).get? b = some o := fun b o e => sortedAll_old e
  obtain ⟨ep, he⟩ := sortedAll_at s.heap items.toList out
  have g1 := gs.toGoodS.ext (s' := { s with heap := sortedAll s.heap items.toList out }) hk rfl rfl
  have hf : ∀ o, s.heap.get? (s.heap.objs.size + 1) ≠ some o := none_size (Nat.le_succ _)
  have hc : CellR (sortedAll s.heap items.toList out) g.H.objs.size (s.heap.objs.size + 1) (.list (js.map V.int)) := ⟨out, ep, he, VRs.ofInts hj⟩
  obtain ⟨g2, x2⟩ := gs.back (gs.toGoodS.push g1 hf (Nat.le_succ _) hc) (SS.push (SS.ext hk rfl) (Nat.le_succ _))
  refine ⟨_, _, VR.ref _, g2, x2, q _ js (fun p hp ep => ?_) hp hs⟩
  have := gs.cells p hp
  obtain ⟨b, c⟩ := p
  cases c with
  | list vs => obtain ⟨_, _, e', _⟩ := this; exact hf _ (ep ▸ e')
  | acc iv vs => obtain ⟨_, _, _, _, _, e', _⟩ := this; exact hf _ (ep ▸ e')
end
end
section -- P30
section
variable {g : G}
theorem noFree {ns : List (Str × NameKind)} {P : Str × NameKind → Prop} (h : ∀ p ∈ ns, p.2 ≠ .free) : ∀ p ∈ ns, p.2 = .free → P p := fun p hp hf => absurd hf (h p hp)
theorem Has.refl (l : Loc) : Has l l := fun _ h => h
theorem Keeps.refl (l : Sto) : Keeps l l := fun _ h => h
theorem Keeps.trans {a b c : Sto} (x : Keeps a b) (y : Keeps b c) : Keeps a c := fun p hp => y p (x p hp)
theorem Keeps.cons {a : Sto} {p : Addr × Cell} : Keeps a (p :: a) := fun _ h => List.mem_cons_of_mem _ h
theorem TA.less {C : Fm g} {target : Expr} {v : V} {Q : St → Prop} {st st' : St} (h : ∀ p ∈ st'.loc, p ∈ st.loc) (h' : st'.sto = st.sto) (k : TA g C target v Q st') : TA g C target v Q st := fun s x gs r =>
  wpAny_mono (k s x (gs.less h h') r) (fun a s1 ⟨st1, g1, x1, q⟩ => ⟨st1, g1, by unfold SF at *; rw [h'] at x1; exact x1, q⟩) fun _ _ e => e
theorem range_at {n i : Nat} {v : V} (h : ((List.range n).map fun (i : Nat) => V.int (i : Int))[i]? = some v) : i < n ∧ v = .int i := by
  have := List.getElem?_eq_some_iff.mp h
  simp at this
  exact ⟨this.1, this.2.symm⟩
theorem range_mem {n : Nat} {v : V} (h : v ∈ (List.range n).map fun (i : Nat) => V.int (i : Int)) : ∃ i : Nat, i < n ∧ v = .int i := by
  obtain ⟨i, hi, rfl⟩ := List.mem_map.mp h
  exact ⟨i, List.mem_range.mp hi, rfl⟩
/-- _law_deeds: fourteen turns -/
noncomputable def deedF (n : Nat) : Nat → List Bool
  | 0 => []
  | t + 1 => let ds := deedF n t; let p := (ds.filter id).length; ds ++ [decide (2 * p = t) || (decide (n / 2 ^ t % 2 = 0) && decide (p < 7))]
theorem deedF_length (n : Nat) : ∀ t, (deedF n t).length = t
  | 0 => rfl
  | t + 1 => by simp [deedF, deedF_length n t]
theorem filter_bools (bs : List Bool) : (bs.map V.bool).filterMap (fun v => match v with | .bool true => some (.bool true) | _ => none) = (bs.filter id).map V.bool := by
  induction bs with
  | nil => rfl
  | cons b bs ih => cases b <;> simp [ih]
theorem cDeeds {n : Nat} {sto : Sto} {Q : V → Sto → Prop} (q : ∀ D sto', (∀ p ∈ sto, p.1 ≠ D) → Keeps sto sto' → (D, .list ((deedF n 14).map V.bool)) ∈ sto' → Q (.ref D) sto') : TC g 1 (.ref fDeeds.a) [.int n] [] [] Q sto := by
  refine TC.def (ns := ["number"]) (fn_of (by walk_at "in")) (by decide) rfl (plain_1 fun fd v => rfl) rfl (by decide) (by decide) (by decide) (by decide) rfl rfl rfl fun C E hn => ?_
  show TXs g C _ _ ⟨[("number", .int n)], sto⟩
  refine TXs.cons ?_
  repeat walk_at "m1"
  refine ⟨by simp, fun D hD => ?_⟩
  repeat walk_at "m1"
  refine TX.for ?_
  refine TSrc.range (by walk_at "kg") ?_
  repeat walk_at "m1"
  refine ⟨14, rfl, by decide, fun i st => Has st.loc [("number", .int n), ("deeds", .ref D)] ∧ Keeps sto st.sto ∧ (D, .list ((deedF n i).map V.bool)) ∈ st.sto, ⟨by walk_at "has", Keeps.cons, List.mem_cons_self⟩, ?_, ?_⟩
  · rintro i v ⟨l, t⟩ hv ⟨H, K, hm⟩ _
    obtain ⟨hi, rfl⟩ := range_at hv
    refine TA.less (st' := ⟨[("number", .int n), ("deeds", .ref D)], t⟩) H rfl ?_
    refine TA.name (by walk_at "sto") ?_
    refine TXs.cons ?_
    repeat walk_at "m1"
    refine TE.callB (bid := "len") (by walk_at "in") (by walk_at "kg") ?_
    repeat walk_at "m1"
    refine TE.comp1 (noFree (by decide)) ?_ rfl (by decide) (by decide) (fun _ => rfl)
    refine TSrc.list ?_
    repeat walk_at "m1"
    refine kSrcL.it hm (Comp1.it (by simp [deedF_length]; omega) ([]) (fun v => match v with | .bool true => some (.bool true) | _ => none) nofun ?_ ?_)
    · intro C' cof v hv loc t2 H2 K2
      obtain ⟨b, hb, rfl⟩ := List.mem_map.mp hv
      refine TA.name (by walk_at "sto") ?_
      refine TTs.one (TT.val ?_)
      repeat walk_at "m1"
      refine TO1.truthB ?_
      cases b with
      | true =>
        walk_at "yes"
        repeat walk_at "m1"
        exact ⟨rfl, nofun, Keeps.refl _⟩
      | false =>
        walk_at "no"
        exact ⟨rfl, nofun, Keeps.refl _⟩
    · intro D2 t2 hD2 K2 hm2
      rw [filter_bools] at hm2
      repeat walk_at "m1"
      refine TOL.one (TO1.lenL (vs := ((deedF n i).filter id).map V.bool) ?_ ?_ ?_)
      · exact hm2
      · have := List.length_filter_le id (deedF n i)
        rw [deedF_length] at this
        rw [List.length_map]; omega
      rw [List.length_map]
      repeat walk_at "m1"
      generalize hp : ((deedF n i).filter id).length = pu
      have hpu : pu ≤ 14 := by
        have := List.length_filter_le id (deedF n i)
        rw [deedF_length] at this
        omega
      refine TX.expr ?_ notInter
      refine TE.append ?_
      walk_at "m1"
      refine kApp.it (K2 _ hm) ?_
      have step : deedF n (i + 1) = deedF n i ++ [decide (2 * pu = i) || (decide (n / 2 ^ i % 2 = 0) && decide (pu < 7))] := by rw [deedF, hp]
      have fin : ∀ b : Bool, (decide (2 * pu = i) || (decide (n / 2 ^ i % 2 = 0) && decide (pu < 7))) = b → ∃ vs, (D, Cell.list vs) ∈ t2 ∧ vs.length < 1000 ∧ V.none = V.none ∧ ∀ loc : Loc, Has loc [("number", .int n), ("deeds", .ref D)] → (Has loc [("number", .int n), ("deeds", .ref D)] ∧ Keeps sto (put t2 D (.list (vs ++ [.bool b]))) ∧ (D, .list ((deedF n (i + 1)).map V.bool)) ∈ put t2 D (.list (vs ++ [.bool b]))) := by
        rintro b rfl
        refine ⟨_, K2 _ hm, by simp [deedF_length]; omega, rfl, fun loc hl => ⟨hl, Keeps.put (Keeps.trans K K2) hD, ?_⟩⟩
        rw [step, List.map_append]
        exact mem_put (K2 _ hm)
      refine TE.or2 ?_
      repeat walk_at "m1"
      refine TO2.mulI ?_ (by constructor <;> decide)
      repeat walk_at "m1"
      refine TO2.eqI ?_
      refine TO1.truthB ?_
      have e1 : ((2 : Int) * (pu : Int) == (i : Int)) = decide (2 * pu = i) := by
        rw [Bool.eq_iff_iff, beq_iff_eq, decide_eq_true_eq]; omega
      rw [e1]
      by_cases h1 : 2 * pu = i
      · rw [decide_eq_true h1] at *
        walk_at "yes"
        obtain ⟨vs, f1, f2, f3, f4⟩ := fin true rfl
        exact ⟨vs, f1, f2, f3, TXs.nil ⟨f4 _ (by walk_at "has"), trivial⟩⟩
      · rw [decide_eq_false h1] at *
        walk_at "no"
        refine TE.bool1 (TE.and2 ?_)
        repeat walk_at "m1"
        have hpow : ((2 : Int) ^ ((i : Int)).toNat) = ((2 ^ i : Nat) : Int) := by simp
        have hp0 : 0 < 2 ^ i := Nat.pow_pos (by decide)
        have hp1 : 2 ^ i ≤ 2 ^ 13 := Nat.pow_le_pow_right (by decide) (by omega)
        refine TO2.powI ⟨by omega, by omega⟩ (by decide) ?_
        rw [hpow]
        refine TO2.divI ⟨by omega, by have : (2 ^ 13 : Nat) = 8192 := by decide
                                      omega⟩ ?_
        repeat walk_at "m1"
        refine TO2.modI (by decide) ?_
        repeat walk_at "m1"
        refine TO2.eqI ?_
        refine TO1.truthB ?_
        have e2 : (((n : Int).fdiv ((2 ^ i : Nat) : Int)).fmod 2 == 0) = decide (n / 2 ^ i % 2 = 0) := by
          rw [Int.fdiv_eq_ediv_of_nonneg _ (by omega), Int.fmod_eq_emod_of_nonneg _ (by decide), Bool.eq_iff_iff, beq_iff_eq, decide_eq_true_eq, ← Int.natCast_ediv]
          omega
        rw [e2]
        by_cases h2 : n / 2 ^ i % 2 = 0
        · rw [decide_eq_true h2] at *
          walk_at "yes"
          refine TE.bool1 ?_
          repeat walk_at "m1"
          refine TO2.ltI ?_
          have e3 : decide ((pu : Int) < 7) = decide (pu < 7) := by rw [decide_eq_decide]; omega
          rw [e3]
          obtain ⟨vs, f1, f2, f3, f4⟩ := fin (decide (pu < 7)) (by simp)
          exact ⟨vs, f1, f2, f3, TXs.nil ⟨f4 _ (by walk_at "has"), trivial⟩⟩
        · rw [decide_eq_false h2] at *
          walk_at "no"
          obtain ⟨vs, f1, f2, f3, f4⟩ := fin false (by simp)
          exact ⟨vs, f1, f2, f3, TXs.nil ⟨f4 _ (by walk_at "has"), trivial⟩⟩
  · rintro ⟨l, t⟩ ⟨H, K, hm⟩ _
    refine Tr.less (st' := ⟨_, t⟩) H rfl ?_
    repeat walk_at "m1"
    exact q D t hD K hm
end
end
section -- P31
section
variable {g : G}
noncomputable def pieces0 : List (Str × Str) := [(" ", ""), ("\t", " "), ("", "b"), ("  ", "A"), ("", "."), (" ", "c"), ("", "é")]
noncomputable def pv (p : Str × Str) : V := .tup [.str p.1, .str p.2]
noncomputable def piecesF (k : Nat) : List (Str × Str) := pieces0.drop k ++ pieces0.take k
theorem cPieces {k : Nat} (hk : k < 7) {sto : Sto} {Q : V → Sto → Prop} (q : ∀ D sto', (∀ p ∈ sto, p.1 ≠ D) → Keeps sto sto' → (D, .list ((piecesF k).map pv)) ∈ sto' → Q (.ref D) sto') : TC g 1 (.ref fPieces.a) [.int k] [] [] Q sto := by
  refine TC.def (ns := ["turned"]) (fn_of (by walk_at "in")) (by decide) rfl (plain_1 fun fd v => rfl) rfl (by decide) (by decide) (by decide) (by decide) rfl rfl rfl fun C E hn => ?_
  show TXs g C _ _ ⟨[("turned", .int k)], sto⟩
  refine TXs.cons ?_
  have t2 : ∀ a b : V, [a, b].length ≤ 1000 := fun _ _ => by simp
  walk_at "m1"
  walk_at "m1"
  iterate 7
    walk_at "m1"
    walk_at "m1"
    walk_at "m1"
    walk_at "m1"
    walk_at "m1"
    walk_at "m1"
    walk_at "m1"
    refine ⟨t2 _ _, ?_⟩
  repeat walk_at "m1"
  refine ⟨by simp, fun D hD => ?_⟩
  repeat walk_at "m1"
  refine kP.it ?_
  repeat walk_at "m1"
  refine kSl3.it List.mem_cons_self (by simp) (fun D2 hD2 => ?_)
  repeat walk_at "m1"
  refine ⟨_, rfl, D, _, rfl, List.mem_cons_of_mem _ List.mem_cons_self, by simp, fun D3 hD3 => ?_⟩
  have n12 := hD2 _ List.mem_cons_self
  have e : ∀ j : Nat, j < 7 → vpick (pieces0.map pv) (some (j : Int)) none none = (pieces0.drop j).map pv ∧ vpick (pieces0.map pv) none (some (j : Int)) none = (pieces0.take j).map pv := by
    intro j hj
    match j, hj with
    | 0, _ => exact ⟨rfl, rfl⟩
    | 1, _ => exact ⟨rfl, rfl⟩
    | 2, _ => exact ⟨rfl, rfl⟩
    | 3, _ => exact ⟨rfl, rfl⟩
    | 4, _ => exact ⟨rfl, rfl⟩
    | 5, _ => exact ⟨rfl, rfl⟩
    | 6, _ => exact ⟨rfl, rfl⟩
  refine TO2.addL (vs := (pieces0.drop k).map pv) (ws := (pieces0.take k).map pv) ?_ ?_ ?_ fun D4 hD4 => ?_
  · rw [← (e k hk).1]; exact List.mem_cons_of_mem _ List.mem_cons_self
  · rw [← (e k hk).2]; exact List.mem_cons_self
  · have h1 := List.length_drop (l := pieces0) (i := k)
    have h2 := List.length_take_le k pieces0
    have : pieces0.length = 7 := rfl
    rw [List.length_map, List.length_map]; omega
  have hnew : ∀ p ∈ sto, p.1 ≠ D4 := fun p hp => hD4 p (List.mem_cons_of_mem _ (List.mem_cons_of_mem _ (List.mem_cons_of_mem _ hp)))
  refine q D4 _ hnew (fun p hp => List.mem_cons_of_mem _ (List.mem_cons_of_mem _ (List.mem_cons_of_mem _ (List.mem_cons_of_mem _ hp)))) ?_
  rw [piecesF, List.map_append]
  exact List.mem_cons_self
end
end
section -- P32
section
variable {g : G}
/-- what stands behind the first i pieces -/
noncomputable def frontAt (ps : List (Str × Str)) : Nat → Str
  | 0 => ""
  | i + 1 => match ps[i]? with
    | some p => frontAt ps i ++ p.1 ++ p.2
    | none => frontAt ps i
theorem frontAt_length {ps : List (Str × Str)} (h : ∀ p ∈ ps, p.1.length + p.2.length ≤ 4) : ∀ i, (frontAt ps i).length ≤ 4 * i
  | 0 => Nat.le_of_eq rfl
  | i + 1 => by
    have ih := frontAt_length h i
    unfold frontAt
    cases e : ps[i]? with
    | none => simp only; omega
    | some p =>
      have := h p (List.mem_of_getElem? e)
      simp only [Str.length_append]; omega
noncomputable def frontsV (ps : List (Str × Str)) (n : Nat) : List V := (List.range (n + 1)).map fun i => .str (frontAt ps i)
theorem frontsV_length {ps : List (Str × Str)} {n : Nat} : (frontsV ps n).length = n + 1 := by simp [frontsV]
theorem cFronts {ps : List (Str × Str)} {a : Addr} (h4 : ∀ p ∈ ps, p.1.length + p.2.length ≤ 4) (hl : ps.length ≤ 7) {sto : Sto} (hm : (a, .list (ps.map pv)) ∈ sto) {Q : V → Sto → Prop}
    (q : ∀ D sto', (∀ p ∈ sto, p.1 ≠ D) → Keeps sto sto' → (D, .list (frontsV ps ps.length)) ∈ sto' → Q (.ref D) sto') : TC g 1 (.ref fFronts.a) [.ref a] [] [] Q sto := by
  refine TC.def (ns := ["pieces"]) (fn_of (by walk_at "in")) (by decide) rfl (plain_1 fun fd v => rfl) rfl (by decide) (by decide) (by decide) (by decide) rfl rfl rfl fun C E hn => ?_
  show TXs g C _ _ ⟨[("pieces", .ref a)], sto⟩
  refine TXs.cons ?_
  repeat walk_at "m1"
  refine ⟨by simp, fun D hD => ?_⟩
  repeat walk_at "m1"
  refine TX.for ?_
  refine TSrc.list ?_
  repeat walk_at "m1"
  refine kSrcL.it (List.mem_cons_of_mem _ hm) (kFor.it (fun i st => Has st.loc [("fronts", .ref D)] ∧ Keeps sto st.sto ∧ (D, .list (frontsV ps i)) ∈ st.sto) (⟨by walk_at "has", Keeps.cons, List.mem_cons_self⟩) ?_ ?_)
  · rintro i v ⟨l, t⟩ hv ⟨H, K, hmD⟩ _
    obtain ⟨p, hp, rfl⟩ : ∃ p, ps[i]? = some p ∧ pv p = v := by
      rw [List.getElem?_map] at hv
      cases e : ps[i]? with
      | none => rw [e] at hv; cases hv
      | some p => rw [e] at hv; cases hv; exact ⟨p, rfl, rfl⟩
    have hi : i < ps.length := (List.getElem?_eq_some_iff.mp hp).1
    refine TA.less (st' := ⟨[("fronts", .ref D)], t⟩) H rfl ?_
    refine TA.tup2 (by walk_at "sto") (by walk_at "sto") ?_
    refine TXs.cons (TX.expr ?_ notInter)
    refine TE.append ?_
    walk_at "m1"
    refine kApp.it hmD ?_
    have h1 := h4 p (List.mem_of_getElem? hp)
    have h2 := frontAt_length h4 i
    repeat walk_at "m1"
    refine TE.un ?_
    repeat walk_at "m1"
    refine TO1.negI ?_
    refine TO2.itemN (vs := frontsV ps i) 1 rfl ?_ hmD (v := .str (frontAt ps i)) ?_ ?_ ?_
    · exact ⟨by decide, by rw [frontsV_length]; omega⟩
    · rw [frontsV_length]; simp [frontsV]
    · rw [frontsV_length]; omega
    repeat walk_at "m1"
    refine TO2.addS (by omega) ?_
    repeat walk_at "m1"
    refine TO2.addS (by rw [Str.length_append]; omega) ?_
    refine ⟨_, hmD, by rw [frontsV_length]; omega, rfl, TXs.nil ⟨⟨by walk_at "has", Keeps.put K hD, ?_⟩, ?_⟩⟩
    · have e : frontsV ps (i + 1) = frontsV ps i ++ [.str (frontAt ps i ++ p.1 ++ p.2)] := by
        unfold frontsV
        rw [List.range_succ (n := i + 1), List.map_append]
        simp [frontAt, hp]
      rw [e]; exact mem_put hmD
    · exact mem_put_ne (K _ hm) (hD _ hm)
  · rintro ⟨l, t⟩ ⟨H, K, hmD⟩ _
    refine Tr.less (st' := ⟨_, t⟩) H rfl ?_
    rw [List.length_map] at hmD
    repeat walk_at "m1"
    exact q D t hD K hmD

end
end
section -- P33
section
variable {g : G}
noncomputable abbrev iv (n : Nat) : V := .int (n : Int)
theorem bisect_le {p : Nat → Bool} {lo hi : Nat} (h : lo ≤ hi) : bisect p lo hi ≤ hi := by
  have : ∀ n lo hi, hi - lo ≤ n → lo ≤ hi → bisect p lo hi ≤ hi := by
    intro n
    induction n with
    | zero => intro lo hi h1 h2; rw [bisect_end (Nat.not_lt.mpr (Nat.sub_eq_zero_iff_le.mp (Nat.le_zero.mp h1)))]; exact h2
    | succ n ih =>
      intro lo hi h1 h2
      by_cases h : lo < hi
      · by_cases hp : p ((lo + hi) / 2) = true
        · rw [bisect_up h hp]
          exact Nat.le_trans (ih _ _ (Nat.le_of_lt_succ (Nat.lt_of_lt_of_le (mid_cut h) h1)) (mid_ge h)) (Nat.le_of_lt (mid_lt h))
        · rw [bisect_dn h hp]
          exact ih _ _ (Nat.le_of_lt_succ (Nat.lt_of_lt_of_le (mid_cut' h) h1)) (mid_lt h)
      · rw [bisect_end h]; exact h2
  exact this _ lo hi (Nat.le_refl _) h
/-- bisect_left over whole numbers -/
noncomputable def bisL (l : List Nat) (x : Nat) : Nat := bisect (fun j => !(decide (l.getD j 0 < x))) 0 l.length
noncomputable def bisR (l : List Nat) (x : Nat) : Nat := bisect (fun j => decide (x < l.getD j 0)) 0 l.length
theorem bisL_le (l : List Nat) (x : Nat) : bisL l x ≤ l.length := bisect_le (Nat.zero_le _)
theorem bisR_le (l : List Nat) (x : Nat) : bisR l x ≤ l.length := bisect_le (Nat.zero_le _)
theorem iv_at {l : List Nat} {i : Nat} {v : V} (h : (l.map iv)[i]? = some v) : v = iv (l.getD i 0) := by
  rw [List.getElem?_map] at h
  cases e : l[i]? with
  | none => rw [e] at h; cases h
  | some n => rw [e] at h; cases h; simp [e]
theorem cBLi {a : Addr} {l : List Nat} {x : Nat} {sto : Sto} {Q : V → Sto → Prop} (hm : (a, .list (l.map iv)) ∈ sto) (hl : l.length ≤ 900) (q : Q (iv (bisL l x)) sto) : TC g 1 (.ref fBL.a) [.ref a, iv x] [] [] Q sto :=
  cBL0 (lo := 0) (vs := l.map iv) (p := fun j => !(decide (l.getD j 0 < x))) (h := l.length) bBL2 hm (by rw [List.length_map]; exact hl) (fun i v hv => by
    rw [iv_at hv]; show some _ = _; simp) (.inl ⟨rfl, by rw [List.length_map]⟩) q
theorem cBRi {a : Addr} {l : List Nat} {x : Nat} {sto : Sto} {Q : V → Sto → Prop} (hm : (a, .list (l.map iv)) ∈ sto) (hl : l.length ≤ 900) (q : Q (iv (bisR l x)) sto) : TC g 1 (.ref fBR.a) [.ref a, iv x] [] [] Q sto :=
  cBR0 (lo := 0) (vs := l.map iv) (p := fun j => decide (x < l.getD j 0)) (h := l.length) bBR2 hm (by rw [List.length_map]; exact hl) (fun i v hv => by
    rw [iv_at hv]; show some _ = _; simp) (.inl ⟨rfl, by rw [List.length_map]⟩) q
noncomputable def cornF (goes comes : List Nat) : Nat → List Nat
  | 0 => [0]
  | t + 1 => let cs := cornF goes comes t; let c := cs.getLast?.getD 0; if c < 7 then cs ++ [bisL goes (comes.getD c 0)] else cs
theorem cornF_ok {goes comes : List Nat} (hg : goes.length = 7) : ∀ t, (cornF goes comes t).length ≤ t + 1 ∧ 0 < (cornF goes comes t).length ∧ ∀ c ∈ cornF goes comes t, c ≤ 7
  | 0 => ⟨by simp [cornF], by simp [cornF], by simp [cornF]⟩
  | t + 1 => by
    obtain ⟨h1, h2, h3⟩ := cornF_ok (comes := comes) hg t
    unfold cornF
    dsimp only
    split
    · refine ⟨by simp; omega, by simp, fun c hc => ?_⟩
      rcases List.mem_append.mp hc with hc | hc
      · exact h3 c hc
      · rw [List.mem_singleton] at hc; subst hc
        exact hg ▸ bisL_le _ _
    · exact ⟨by omega, h2, h3⟩
theorem last_at {l : List Nat} (h : 0 < l.length) : (l.map iv)[(l.map iv).length - 1]? = some (iv (l.getLast?.getD 0)) := by
  rw [List.length_map, List.getElem?_map, List.getLast?_eq_getElem?]
  have : l.length - 1 < l.length := by omega
  simp [List.getElem?_eq_getElem this]
theorem vpick_from1 {l : List V} : vpick l (some 1) none none = l.drop 1 := by
  rw [vpick_plain, show (1 : Int) = ((1 : Nat) : Int) from rfl]
  simp only [Option.elim, clipAt_nat]
  cases l with
  | nil => rfl
  | cons a l => rw [List.length_cons, Nat.min_eq_left (Nat.le_add_left 1 l.length), List.take_of_length_le (by rw [List.length_drop]; exact Nat.le_refl _)]
theorem cCorners {a b : Addr} {goes comes : List Nat} {sto : Sto} (hg : goes.length = 7) (hc : comes.length = 7) (ha : (a, .list (goes.map iv)) ∈ sto) (hb : (b, .list (comes.map iv)) ∈ sto) {Q : V → Sto → Prop}
    (q : ∀ D sto', (∀ p ∈ sto, p.1 ≠ D) → Keeps sto sto' → (D, .list (((cornF goes comes 7).drop 1).map iv)) ∈ sto' → Q (.ref D) sto') : TC g 2 (.ref fCorners.a) [.ref a, .ref b] [] [] Q sto := by
  refine TC.def (ns := ["goes", "comes"]) (fn_of (by walk_at "in")) (by decide) rfl (plain_2 fun fd v w => rfl) rfl (by decide) (by decide) (by decide) (by decide) rfl rfl rfl fun C E hn => ?_
  show TXs g C _ _ ⟨[("goes", .ref a), ("comes", .ref b)], sto⟩
  refine TXs.cons ?_
  repeat walk_at "m1"
  refine ⟨by simp, fun D hD => ?_⟩
  repeat walk_at "m1"
  refine TX.for ?_
  refine TSrc.range (by walk_at "kg") ?_
  repeat walk_at "m1"
  refine ⟨7, rfl, by decide, fun i st => Has st.loc [("goes", .ref a), ("comes", .ref b), ("corners", .ref D)] ∧ Keeps sto st.sto ∧ (D, .list ((cornF goes comes i).map iv)) ∈ st.sto, ⟨by walk_at "has", Keeps.cons, List.mem_cons_self⟩, ?_, ?_⟩
  · rintro i v ⟨l, t⟩ hv ⟨H, K, hmD⟩ _
    obtain ⟨hi, rfl⟩ := range_at hv
    obtain ⟨k1, k2, k3⟩ := cornF_ok (comes := comes) hg i
    refine TA.less (st' := ⟨_, t⟩) H rfl ?_
    refine TA.name (by walk_at "sto") ?_
    refine TXs.cons ?_
    have hlen : ((cornF goes comes i).map iv).length ≤ 1000 := by rw [List.length_map]; omega
    have hneg : 0 < 1 ∧ 1 ≤ ((cornF goes comes i).map iv).length := ⟨by decide, by rw [List.length_map]; exact k2⟩
    have hlast := last_at k2
    generalize hc' : (cornF goes comes i).getLast?.getD 0 = c at hlast
    repeat walk_at "m1"
    refine TE.un ?_
    repeat walk_at "m1"
    refine TO1.negI ?_
    refine TO2.itemN (vs := (cornF goes comes i).map iv) 1 rfl hneg hmD hlast hlen ?_
    repeat walk_at "m1"
    refine TO2.ltI (kB.it ?_)
    have estep : cornF goes comes (i + 1) = if c < 7 then cornF goes comes i ++ [bisL goes (comes.getD c 0)] else cornF goes comes i := by
      rw [cornF, hc']
    by_cases h7 : c < 7
    · rw [decide_eq_true (by omega : (c : Int) < 7)]
      walk_at "yes"
      refine TXs.cons (TX.expr ?_ notInter)
      refine TE.append ?_
      walk_at "m1"
      refine kApp.it hmD ?_
      refine TE.callP (f := fBL) (m := 1) (by walk_at "in") (by walk_at "in") (by walk_at "kg") (by decide) (n_le hn) ?_
      repeat walk_at "m1"
      refine TE.un ?_
      repeat walk_at "m1"
      refine TO1.negI ?_
      refine TO2.itemN (vs := (cornF goes comes i).map iv) 1 rfl hneg hmD hlast hlen ?_
      have hcc : (comes.map iv)[c]? = some (iv (comes.getD c 0)) := by
        rw [List.getElem?_map]
        have : c < comes.length := by omega
        simp [List.getElem?_eq_getElem this]
      refine TO2.itemL c rfl (K _ hb) hcc (by rw [List.length_map]; omega) ?_
      repeat walk_at "m1"
      refine cBLi (K _ ha) (by omega) ?_
      refine ⟨_, hmD, by rw [List.length_map]; omega, rfl, TXs.nil (TXs.nil ⟨⟨by walk_at "has", Keeps.put K hD, ?_⟩, trivial⟩)⟩
      rw [estep, if_pos h7, List.map_append]; exact mem_put hmD
    · rw [decide_eq_false (by omega : ¬ (c : Int) < 7)]
      walk_at "no"
      refine TXs.nil (TXs.nil ⟨⟨by walk_at "has", K, ?_⟩, trivial⟩)
      rw [estep, if_neg h7]; exact hmD
  · rintro ⟨l, t⟩ ⟨H, K, hmD⟩ _
    refine Tr.less (st' := ⟨_, t⟩) H rfl ?_
    rw [List.length_map, List.length_range] at hmD
    obtain ⟨k1, k2, k3⟩ := cornF_ok (comes := comes) hg 7
    repeat walk_at "m1"
    refine ⟨_, rfl, D, _, rfl, hmD, by rw [List.length_map]; omega, fun D2 hD2 => ?_⟩
    rw [vpick_from1, ← List.map_drop]
    exact q D2 _ (fun p hp => hD2 p (K p hp)) (Keeps.trans K Keeps.cons) List.mem_cons_self
end
end
section -- P34
section
variable {g : G}
noncomputable def sgn (a b : Nat) : Int := (if b < a then 1 else 0) - (if a < b then 1 else 0)
noncomputable def pairsL : List (Nat × Nat) := (List.range 7).flatMap fun l => (List.range l).map fun e => (e, l)
noncomputable def toldF (hs : List Nat) : List Int := pairsL.flatMap fun p => [sgn (hs.getD p.1 0) (hs.getD p.2 0), sgn (hs.getD p.1 0) (hs.getD p.2 0 + 1)]
noncomputable def pairsF (hs : List Nat) : Nat := ((toldF hs).filter (· == 0)).length
/-- the fronts stand in order -/
noncomputable def Mono (fr : Nat → Str) : Prop := ∀ i j, i ≤ 7 → j ≤ 7 → decide ((fr i).cps.toList < (fr j).cps.toList) = decide (i < j)
noncomputable def frV (fr : Nat → Str) : List V := (List.range 8).map fun i => .str (fr i)
theorem frV_at {fr : Nat → Str} {i : Nat} (h : i < 8) : (frV fr)[i]? = some (.str (fr i)) := by simp [frV, h]
noncomputable def ppv (p : Nat × Nat) : V := .tup [iv p.1, iv p.2]
theorem swaps_true {C : Fm g} {elt : Expr} {gens : List Comprehension} {scope : Scope} {pos py : Pos} {y : Str} {l : Nat} (hy : C.env.kindOf y = some .local) (hl : (py.line == pos.line) = true) (hn : (scope.names.any fun (n, k) => n == y && (k == .local || k == .cell)) = false) :
    swapsWith (.ListComp elt gens scope pos) (some (.Name y py)) l C.env = pure true := by
  have hb : (C.env.blockKind == .function) = true := by
    unfold Env.blockKind; rw [C.kind]; rfl
  show (pure (C.env.blockKind == .function && C.env.kindOf y == some .local && py.line == pos.line && !(scope.names.any fun (n, k) => n == y && (k == .local || k == .cell))) : Sem Bool) = pure true
  rw [hb, hy, hl, hn]; rfl
theorem freeOf {C : Fm g} {f : Fn} {ns : List (Str × NameKind)} (E : IsEnv g f C) (h : ∀ p ∈ ns, p.2 = .free → f.sc.names.lookup p.1 = some .cell ∧ ((cellsFrom 0 f.sc.names []).lookup p.1).isSome = true) : ∀ p ∈ ns, p.2 = .free → ∃ c, C.env.cells.lookup p.1 = some c := fun p hp hf =>
  let ⟨c, h1, _⟩ := E.cells p.1 (h p hp hf).1 (h p hp hf).2; ⟨c, h1⟩
theorem cellOfE {C : Fm g} {f : Fn} (E : IsEnv g f C) {x : Str} (h : f.sc.names.lookup x = some .cell) : C.env.kindOf x ≠ some .local := by rw [E.kindOf, h]; decide
theorem filter_zero : ∀ ts : List Int, (ts.map V.int).filterMap (fun v => match v with | .int i => if i = 0 then some (.int i) else none | _ => none) = (ts.filter (· == 0)).map V.int
  | [] => rfl
  | i :: ts => by
    have ih := filter_zero ts
    by_cases h0 : i = 0
    · subst h0; simp [ih]
    · simp [h0, ih]
theorem cPairs {fr : Nat → Str} {hs : List Nat} {a b : Addr} {sto : Sto} (hm : Mono fr) (hl : hs.length = 7) (h6 : ∀ h ∈ hs, h ≤ 6) (ha : (a, .list (frV fr)) ∈ sto) (hb : (b, .list (hs.map iv)) ∈ sto) {Q : V → Sto → Prop}
    (q : ∀ sto', Keeps sto sto' → Q (iv (pairsF hs)) sto') : TC g 2 (.ref fPairs.a) [.ref a, .ref b] [] [] Q sto := by
  refine TC.def (ns := ["fronts", "heights"]) (fn_of (by walk_at "in")) (by decide) rfl (plain_2 fun fd v w => rfl) rfl (by decide) (by decide) (by decide) (by decide) rfl rfl rfl fun C E hn => ?_
  show TXs g C _ _ ⟨[("fronts", .ref a), ("heights", .ref b)], sto⟩
  refine TXs.cons ?_
  refine TX.assignComp2 (noFree (by decide)) (swaps_true (by walk_at "kg") rfl rfl) (by walk_at "kg") (by decide) ?_ rfl (by decide) (by decide) (fun _ => rfl) (fun _ _ => rfl)
  refine TSrc.range (by walk_at "kg") ?_
  repeat walk_at "m1"
  refine ⟨7, rfl, by decide, by simp, [], fun v => match v with | .int l => (List.range l.toNat).map fun e => ppv (e, l.toNat) | _ => [], nofun, ?_, ?_, ?_⟩
  · intro v hv
    obtain ⟨i, hi, rfl⟩ := range_mem hv
    simp; omega
  · intro C' cof v hv loc t D H K _
    obtain ⟨i, hi, rfl⟩ := range_mem hv
    refine TA.name (by walk_at "sto") ?_
    refine TSrc.range (by walk_at "kg") ?_
    repeat walk_at "m1"
    refine ⟨i, rfl, by omega, Keeps.refl _, trivial, [("later", iv i)], fun w => .tup [w, iv i], by walk_at "has", nofun, by simp [ppv], ?_⟩
    intro w hw loc' t' H' K'
    refine TA.less (st' := ⟨_, t'⟩) H' rfl ?_
    refine TA.name (by walk_at "sto") ?_
    repeat walk_at "m1"
    exact ⟨by simp, rfl, by walk_at "has", Keeps.refl _⟩
  · intro D1 t1 hD1 K1 hm1
    have e1 : (List.flatMap (fun v => match v with | V.int l => (List.range l.toNat).map fun e => ppv (e, l.toNat) | _ => []) ((List.range 7).map fun (i : Nat) => V.int (i : Int))) = pairsL.map ppv := by
      unfold pairsL
      rw [List.flatMap_map, List.map_flatMap]
      simp [Function.comp_def]
    rw [e1] at hm1
    refine TXs.cons ?_
    refine TX.assignComp2 (freeOf E (by decide)) (swaps_true (by walk_at "kg") rfl rfl) (by walk_at "kg") (by decide) ?_ rfl (by decide) (by decide) (fun _ => rfl) (fun _ _ => rfl)
    refine TSrc.list ?_
    repeat walk_at "m1"
    refine ⟨D1, _, rfl, hm1, by rw [List.length_map]; decide, [("fronts", .ref a), ("heights", .ref b)], fun v => match v with | .tup [.int o, .int t] => [.int (sgn (hs.getD o.toNat 0) (hs.getD t.toNat 0)), .int (sgn (hs.getD o.toNat 0) (hs.getD t.toNat 0 + 1))] | _ => [], ?_, ?_, ?_, ?_⟩
    · intro p hp
      rcases List.mem_cons.mp hp with rfl | hp
      · exact ⟨by walk_at "mem", by rfl, cellOfE E (by rfl)⟩
      · rw [List.mem_singleton] at hp; subst hp
        exact ⟨by walk_at "mem", by rfl, cellOfE E (by rfl)⟩
    · intro v hv
      obtain ⟨p, hp, rfl⟩ := List.mem_map.mp hv
      simp [ppv]
    · intro C' cof v hv loc t D H K hD
      obtain ⟨⟨o, w⟩, hp, rfl⟩ := List.mem_map.mp hv
      have how : o < 7 ∧ w < 7 := (by decide : ∀ p ∈ pairsL, p.1 < 7 ∧ p.2 < 7) _ hp
      refine TA.less (st' := ⟨_, t⟩) H rfl ?_
      refine TA.tup2 (by walk_at "sto") (by walk_at "sto") ?_
      refine TSrc.list ?_
      repeat walk_at "m1"
      refine ⟨by simp, fun D2 hD2 => ⟨D2, _, rfl, List.mem_cons_self, Keeps.cons, ?_, [("fronts", .ref a), ("heights", .ref b), ("one", iv o), ("other", iv w)], fun v => match v with | .int m => .int (sgn (hs.getD o 0) (hs.getD w 0 + m.toNat)) | _ => .none, by walk_at "has", ?_, by simp [ppv], ?_⟩⟩
      · obtain ⟨ys, hy⟩ := hD
        exact List.mem_filter.mpr ⟨List.mem_cons_self, by simpa using Ne.symm (hD2 _ hy)⟩
      · intro p hp
        rcases List.mem_cons.mp hp with rfl | hp
        · exact List.mem_cons_self
        · rw [List.mem_singleton] at hp; subst hp; exact List.mem_cons_of_mem _ List.mem_cons_self
      · intro m hm' loc' t' H' K'
        obtain ⟨k, hk, rfl⟩ : ∃ k : Nat, k ≤ 1 ∧ m = iv k := by
          rcases List.mem_cons.mp hm' with rfl | hm'
          · exact ⟨0, by decide, rfl⟩
          · rw [List.mem_singleton] at hm'; subst hm'; exact ⟨1, by decide, rfl⟩
        have ha' := K' _ (K1 _ ha)
        have hb' := K' _ (K1 _ hb)
        have g1 : hs.getD o 0 ≤ 6 := by
          have : o < hs.length := by omega
          rw [List.getD_eq_getElem?_getD, List.getElem?_eq_getElem this]
          exact h6 _ (List.getElem_mem this)
        have g2 : hs.getD w 0 ≤ 6 := by
          have : w < hs.length := by omega
          rw [List.getD_eq_getElem?_getD, List.getElem?_eq_getElem this]
          exact h6 _ (List.getElem_mem this)
        have go : (hs.map iv)[o]? = some (iv (hs.getD o 0)) := by
          have : o < hs.length := by omega
          simp [List.getElem?_eq_getElem this]
        have gw : (hs.map iv)[w]? = some (iv (hs.getD w 0)) := by
          have : w < hs.length := by omega
          simp [List.getElem?_eq_getElem this]
        have hl8 : (frV fr).length ≤ 1000 := by simp [frV]
        have hl7 : (hs.map iv).length ≤ 1000 := by rw [List.length_map]; omega
        generalize hs.getD o 0 = x at *
        generalize hs.getD w 0 = y at *
        refine TA.less (st' := ⟨_, t'⟩) H' rfl ?_
        refine TA.name (by walk_at "sto") ?_
        refine TE.callP (f := fCo) (m := 1) (by walk_at "in") (by walk_at "in") (by walk_at "kg") (by decide) (n_le (cof.n.trans hn)) ?_
        repeat walk_at "m1"
        refine TO2.itemL o rfl hb' go hl7 ?_
        refine TO2.itemL x rfl ha' (frV_at (by omega)) hl8 ?_
        repeat walk_at "m1"
        refine TO2.itemL w rfl hb' gw hl7 ?_
        repeat walk_at "m1"
        refine TO2.addI ?_
        refine TO2.itemL (y + k) (by omega) ha' (frV_at (by omega)) hl8 ?_
        repeat walk_at "m1"
        refine cCo ⟨?_, by walk_at "has", Keeps.refl _⟩
        have m1 := hm (y + k) x (by omega) (by omega)
        have m2 := hm x (y + k) (by omega) (by omega)
        rw [decide_eq_decide] at m1 m2
        simp only [m1, m2, sgn]
        simp
    · intro D3 t3 hD3 K3 hm3
      have e3 : (List.flatMap (fun v => match v with | .tup [.int o, .int t] => [V.int (sgn (hs.getD o.toNat 0) (hs.getD t.toNat 0)), .int (sgn (hs.getD o.toNat 0) (hs.getD t.toNat 0 + 1))] | _ => []) (pairsL.map ppv)) = (toldF hs).map V.int := by
        unfold toldF
        rw [List.flatMap_map, List.map_flatMap]
        simp [Function.comp_def, ppv]
      rw [e3] at hm3
      have hlen : (toldF hs).length = 42 := by
        unfold toldF
        rw [List.length_flatMap]
        show (pairsL.map fun _ => 2).sum = 42
        decide
      have hmap : ((toldF hs).map V.int).length ≤ 900 := by rw [List.length_map]; omega
      simp only [pairsF] at q
      generalize toldF hs = ts at *
      refine TXs.cons ?_
      walk_at "m1"
      walk_at "m1"
      refine TE.comp1 (noFree (by decide)) ?_ rfl (by decide) (by decide) (fun _ => rfl)
      refine TSrc.list ?_
      repeat walk_at "m1"
      refine kSrcL.it hm3 (Comp1.it hmap ([]) (fun _ => none) nofun ?_ ?_)
      · intro C' cof v hv loc t H K
        obtain ⟨i, hi, rfl⟩ := List.mem_map.mp hv
        refine TA.name (by walk_at "sto") (TTs.one (TT.val ?_))
        refine TE.callB (bid := "isinstance") (by walk_at "in") (by walk_at "kg") ?_
        repeat walk_at "m1"
        refine TE.builtin (v := .type "bool") (by walk_at "in") (by walk_at "kg") ?_
        repeat walk_at "m1"
        refine TOL.isi (b := false) rfl ?_
        refine TO1.truthB ?_
        walk_at "no"
        exact ⟨rfl, nofun, Keeps.refl _⟩
      · intro D4 t4 hD4 K4 hm4
        rw [show (ts.map V.int).filterMap (fun _ => (none : Option V)) = [] by simp] at hm4
        repeat walk_at "m1"
        refine ⟨by simp, fun D5 hD5 => ?_⟩
        refine TO2.neL (List.mem_cons_of_mem _ hm4) List.mem_cons_self EqSs.nil (kB.it ?_)
        walk_at "no"
        refine TXs.nil (TXs.cons (TX.ret ?_))
        refine TE.callB (bid := "len") (by walk_at "in") (by walk_at "kg") ?_
        walk_at "m1"
        refine TE.comp1 (noFree (by decide)) ?_ rfl (by decide) (by decide) (fun _ => rfl)
        refine TSrc.list ?_
        repeat walk_at "m1"
        refine kSrcL.it (List.mem_cons_of_mem _ (K4 _ hm3)) (Comp1.it hmap ([]) (fun v => match v with | .int i => if i = 0 then some (.int i) else none | _ => none) nofun ?_ ?_)
        · intro C' cof v hv loc t H K
          obtain ⟨i, hi, rfl⟩ := List.mem_map.mp hv
          refine TA.name (by walk_at "sto") (TTs.one ?_)
          repeat walk_at "m1"
          refine TO2.eqI (kB.it ?_)
          by_cases h0 : i = 0
          · subst h0
            walk_at "yes"
            repeat walk_at "m1"
            exact ⟨rfl, nofun, Keeps.refl _⟩
          · rw [beq_eq_false_iff_ne.mpr h0]
            walk_at "no"
            exact ⟨by simp [h0], nofun, Keeps.refl _⟩
        · intro D6 t6 hD6 K6 hm6
          have e6 : (ts.map V.int).filterMap (fun v => match v with | .int i => if i = 0 then some (.int i) else none | _ => none) = (ts.filter (· == 0)).map V.int := by
            exact filter_zero ts
          rw [e6] at hm6
          repeat walk_at "m1"
          refine TOL.one (TO1.lenL (vs := (ts.filter (· == 0)).map V.int) ?_ ?_ ?_)
          · exact hm6
          · have := List.length_filter_le (· == 0) ts
            rw [List.length_map]; omega
          rw [List.length_map]
          exact q _ (Keeps.trans K1 (Keeps.trans K3 (Keeps.trans K4 (Keeps.trans Keeps.cons K6))))
end
end
section -- P35
section
variable {g : G}
/-- a kind: whether it is a truth, and what it counts -/
noncomputable def kv (k : Bool × Bool) : V := if k.1 then .bool k.2 else .int (b2 k.2)
theorem kv_lt (u w : Bool × Bool) : ltv (kv u) (kv w) = some (decide (b2 u.2 < b2 w.2)) := by
  obtain ⟨a, b⟩ := u; obtain ⟨c, d⟩ := w
  cases a <;> cases c <;> rfl
noncomputable def insL {α : Type} (lt : α → α → Bool) (l : List α) (x : α) : List α := let k := bisect (fun j => match l[j]? with | some y => !(lt y x) | none => true) 0 l.length; l.take k ++ x :: l.drop k
noncomputable def insR {α : Type} (lt : α → α → Bool) (l : List α) (x : α) : List α := let k := bisect (fun j => match l[j]? with | some y => lt x y | none => true) 0 l.length; l.take k ++ x :: l.drop k
theorem insL_length {α : Type} (lt : α → α → Bool) (l : List α) (x : α) : (insL lt l x).length = l.length + 1 := by
  unfold insL; simp only [List.length_append, List.length_take, List.length_cons, List.length_drop]
  exact n_min (bisect_le (Nat.zero_le _))
theorem insR_length {α : Type} (lt : α → α → Bool) (l : List α) (x : α) : (insR lt l x).length = l.length + 1 := by
  unfold insR; simp only [List.length_append, List.length_take, List.length_cons, List.length_drop]
  exact n_min (bisect_le (Nat.zero_le _))
/-- insort over things that stand for α -/
theorem cILg {α : Type} {e : α → V} {lt : α → α → Bool} (hlt : ∀ u w, ltv (e u) (e w) = some (lt u w)) {a : Addr} {l : List α} {x : α} {sto : Sto} {Q : V → Sto → Prop} (hm : (a, .list (l.map e)) ∈ sto) (hl : l.length ≤ 900)
    (q : Q .none (put sto a (.list ((insL lt l x).map e)))) : TC g 2 (.ref fIL.a) [.ref a, e x] [] [] Q sto :=
  cIL0 (lo := 0) (vs := l.map e) (p := fun j => match l[j]? with | some y => !(lt y x) | none => true) (h := l.length) bIL2 hm (by rw [List.length_map]; exact hl) (fun i v hv => by
    rw [List.getElem?_map] at hv
    cases h : l[i]? with
    | none => rw [h] at hv; cases hv
    | some y => rw [h] at hv; cases hv; simp [hlt]) (.inl ⟨rfl, by rw [List.length_map]⟩) (by rw [List.length_map]; exact bisect_le (Nat.zero_le _)) (by
    rw [← List.map_take, ← List.map_drop, ← List.map_cons, ← List.map_append]; exact q)
theorem cIRg {α : Type} {e : α → V} {lt : α → α → Bool} (hlt : ∀ u w, ltv (e u) (e w) = some (lt u w)) {a : Addr} {l : List α} {x : α} {sto : Sto} {Q : V → Sto → Prop} (hm : (a, .list (l.map e)) ∈ sto) (hl : l.length ≤ 900)
    (q : Q .none (put sto a (.list ((insR lt l x).map e)))) : TC g 2 (.ref fIR.a) [.ref a, e x] [] [] Q sto :=
  cIR0 (lo := 0) (vs := l.map e) (p := fun j => match l[j]? with | some y => lt x y | none => true) (h := l.length) bIR2 hm (by rw [List.length_map]; exact hl) (fun i v hv => by
    rw [List.getElem?_map] at hv
    cases h : l[i]? with
    | none => rw [h] at hv; cases hv
    | some y => rw [h] at hv; cases hv; simp [hlt]) (.inl ⟨rfl, by rw [List.length_map]⟩) (by rw [List.length_map]; exact bisect_le (Nat.zero_le _)) (by
    rw [← List.map_take, ← List.map_drop, ← List.map_cons, ← List.map_append]; exact q)
/-- the same with a key -/
theorem cILgk {α : Type} {e : α → V} {κ : α → V} {kf : Fn} {lt : α → α → Bool} (hkf : kf ∈ fns) (hka : kf.a ∉ tbls) {a : Addr} {l : List α} {x : α} {lo : Nat} {hi : V} {h : Nat} {args : List V} (hb : Bnd g fIL args ["key"] [.val (.ref kf.a)] lims [.ref a, e x, .int lo, hi, .val (.ref kf.a)])
    (hh : (hi = .none ∧ h = l.length) ∨ (hi = .int h ∧ h ≤ l.length)) (hll : lo ≤ h) (hlt : ∀ u w, (u ∈ l ∨ u = x) → (w ∈ l ∨ w = x) → ltv (κ u) (κ w) = some (lt u w)) {sto : Sto} {Q : V → Sto → Prop}
    (hk : ∀ u, (u ∈ l ∨ u = x) → ∀ (sto : Sto) (Q : V → Sto → Prop), Q (κ u) sto → TC g 2 (.ref kf.a) [e u] [] [] Q sto) (hm : (a, .list (l.map e)) ∈ sto) (hl : l.length ≤ 900)
    (q : Q .none (put sto a (.list ((l.take (bisect (fun j => match l[j]? with | some y => !(lt y x) | none => true) lo h) ++ x :: l.drop (bisect (fun j => match l[j]? with | some y => !(lt y x) | none => true) lo h)).map e)))) : TC g 4 (.ref fIL.a) args ["key"] [.val (.ref kf.a)] Q sto :=
  have hle : h ≤ l.length := by rcases hh with ⟨_, h⟩ | ⟨_, h⟩ <;> omega
  cILk (lo := lo) (vs := l.map e) (p := (fun j => match l[j]? with | some y => !(lt y x) | none => true)) (h := h) (κ := fun i => match l[i]? with | some y => κ y | none => .none) (y := κ x) hkf hka (fun i v hv sto Q qq => by
    rw [List.getElem?_map] at hv
    cases h : l[i]? with
    | none => rw [h] at hv; cases hv
    | some y => rw [h] at hv; cases hv; exact hk y (.inl (List.mem_of_getElem? h)) _ _ (by simpa [h] using qq)) (fun sto Q qq => hk x (.inr rfl) _ _ qq) hb hm (by rw [List.length_map]; exact hl) (fun i v hv => by
    rw [List.getElem?_map] at hv
    cases h : l[i]? with
    | none => rw [h] at hv; cases hv
    | some y => simp only [h]; rw [hlt y x (.inl (List.mem_of_getElem? h)) (.inr rfl), Bool.not_not]) (by rw [List.length_map]; exact hh) (by rw [List.length_map]; exact Nat.le_trans (bisect_le hll) hle) (by
    rw [← List.map_take, ← List.map_drop, ← List.map_cons, ← List.map_append]; exact q)
theorem cIRgk {α : Type} {e : α → V} {κ : α → V} {kf : Fn} {lt : α → α → Bool} (hkf : kf ∈ fns) (hka : kf.a ∉ tbls) {a : Addr} {l : List α} {x : α} {lo : Nat} {hi : V} {h : Nat} {args : List V} (hb : Bnd g fIR args ["key"] [.val (.ref kf.a)] lims [.ref a, e x, .int lo, hi, .val (.ref kf.a)])
    (hh : (hi = .none ∧ h = l.length) ∨ (hi = .int h ∧ h ≤ l.length)) (hll : lo ≤ h) (hlt : ∀ u w, (u ∈ l ∨ u = x) → (w ∈ l ∨ w = x) → ltv (κ u) (κ w) = some (lt u w)) {sto : Sto} {Q : V → Sto → Prop}
    (hk : ∀ u, (u ∈ l ∨ u = x) → ∀ (sto : Sto) (Q : V → Sto → Prop), Q (κ u) sto → TC g 2 (.ref kf.a) [e u] [] [] Q sto) (hm : (a, .list (l.map e)) ∈ sto) (hl : l.length ≤ 900)
    (q : Q .none (put sto a (.list ((l.take (bisect (fun j => match l[j]? with | some y => lt x y | none => true) lo h) ++ x :: l.drop (bisect (fun j => match l[j]? with | some y => lt x y | none => true) lo h)).map e)))) : TC g 4 (.ref fIR.a) args ["key"] [.val (.ref kf.a)] Q sto :=
  have hle : h ≤ l.length := by rcases hh with ⟨_, h⟩ | ⟨_, h⟩ <;> omega
  cIRk (lo := lo) (vs := l.map e) (p := (fun j => match l[j]? with | some y => lt x y | none => true)) (h := h) (κ := fun i => match l[i]? with | some y => κ y | none => .none) (y := κ x) hkf hka (fun i v hv sto Q qq => by
    rw [List.getElem?_map] at hv
    cases h : l[i]? with
    | none => rw [h] at hv; cases hv
    | some y => rw [h] at hv; cases hv; exact hk y (.inl (List.mem_of_getElem? h)) _ _ (by simpa [h] using qq)) (fun sto Q qq => hk x (.inr rfl) _ _ qq) hb hm (by rw [List.length_map]; exact hl) (fun i v hv => by
    rw [List.getElem?_map] at hv
    cases h : l[i]? with
    | none => rw [h] at hv; cases hv
    | some y => simp only [h]; rw [hlt x y (.inr rfl) (.inl (List.mem_of_getElem? h))]) (by rw [List.length_map]; exact hh) (by rw [List.length_map]; exact Nat.le_trans (bisect_le hll) hle) (by
    rw [← List.map_take, ← List.map_drop, ← List.map_cons, ← List.map_append]; exact q)
end
end
section -- P36
section
variable {g : G}
noncomputable def klt (u w : Bool × Bool) : Bool := decide (b2 u.2 < b2 w.2)
noncomputable def kindsF : List Nat → List (Bool × Bool)
  | hs => hs.foldl (fun l h => insR klt (insL klt l (true, decide (0 < h))) (false, decide (0 < h))) []
theorem kindsF_length (hs : List Nat) : (kindsF hs).length = 2 * hs.length := by
  unfold kindsF
  have : ∀ (hs : List Nat) (l : List (Bool × Bool)), (hs.foldl (fun l h => insR klt (insL klt l (true, decide (0 < h))) (false, decide (0 < h))) l).length = l.length + 2 * hs.length := by
    intro hs
    induction hs with
    | nil => intro l; simp
    | cons h hs ih => intro l; rw [List.foldl_cons, ih, insR_length, insL_length, List.length_cons]; omega
  simpa using this hs []
theorem kindsF_step {hs : List Nat} {i h : Nat} (e : hs[i]? = some h) : kindsF (hs.take (i + 1)) = insR klt (insL klt (kindsF (hs.take i)) (true, decide (0 < h))) (false, decide (0 < h)) := by
  unfold kindsF
  rw [List.take_add_one, e, List.foldl_append]; rfl
noncomputable def dueK (r : Nat) : List (Bool × Bool) := List.replicate r (true, false) ++ List.replicate r (false, false) ++ List.replicate (7 - r) (true, true) ++ List.replicate (7 - r) (false, true)
theorem kv_min (h : Nat) : V.int (if (1 : Int) < (h : Int) then 1 else (h : Int)) = kv (false, decide (0 < h)) := by
  unfold kv b2
  match h with
  | 0 => rfl
  | 1 => rfl
  | n + 2 =>
    rw [if_pos (by omega)]; simp
noncomputable def isort (l : List Nat) : List Nat := l.mergeSort (fun a b => decide (a ≤ b))
theorem flat_eq {hs : List Nat} {js : List Int} (hp : js.Perm (hs.map Int.ofNat)) (hs' : js.Pairwise (· ≤ ·)) : js = (isort hs).map Int.ofNat := by
  refine List.Perm.eq_of_pairwise (le := (· ≤ ·)) (fun a b _ _ h1 h2 => Int.le_antisymm h1 h2) hs' ?_ (hp.trans ((List.mergeSort_perm hs _).symm.map _))
  have : (isort hs).Pairwise (fun a b => decide (a ≤ b) = true) := List.pairwise_mergeSort (fun a b c h1 h2 => by simp at *; omega) (fun a b => by simp; omega) hs
  rw [List.pairwise_map]
  exact this.imp fun h => by simp at h; show Int.ofNat _ ≤ Int.ofNat _; exact Int.ofNat_le.mpr h
theorem not_none_isnt {v : V} : v = .none → (!(isNo v)) = false := by rintro rfl; rfl
theorem rep1 (k : Nat) (v : V) : (List.replicate k [v]).flatten = List.replicate k v := by
  induction k with
  | zero => rfl
  | succ k ih => rw [List.replicate_succ, List.flatten_cons, ih, List.replicate_succ]; rfl
theorem eqvs_iv (l : List Nat) : eqvs (l.map iv) (l.map iv) = some true := eqvs_same (e := iv) (fun n => eqv_ii (n : Int)) l
theorem deep_iv {l : List Nat} {n : Nat} : ∀ v ∈ l.map iv, deep v ≤ n := fun v hv => by
  obtain ⟨k, _, rfl⟩ := List.mem_map.mp hv
  exact Nat.zero_le _
theorem eqSs_iv {sto : Sto} (l : List Nat) : EqSs sto (l.map iv) (l.map iv) true := EqSs.of (eqvs_iv l) deep_iv
theorem due1 : ∀ r < 8, eqvs ((dueK r).map kv) (List.replicate (2 * r) (.int 0) ++ List.replicate (14 - 2 * r) (.int 1)) = some true := by decide
theorem due2 : ∀ r < 8, eqvs ((dueK r).map fun k => .bool k.1) (List.replicate r (.bool true) ++ List.replicate r (.bool false) ++ List.replicate (7 - r) (.bool true) ++ List.replicate (7 - r) (.bool false)) = some true := by decide
theorem due3 : ∀ r < 8, (dueK r).length = 14 := by decide
theorem deep_kv {l : List (Bool × Bool)} {n : Nat} : ∀ v ∈ l.map kv, deep v ≤ n := fun v hv => by
  obtain ⟨⟨a, b⟩, _, rfl⟩ := List.mem_map.mp hv
  cases a <;> exact Nat.zero_le _
theorem filterMap_some {α : Type} (f : V → V) (e : α → V) (l : List α) : (l.map e).filterMap (fun v => some (f v)) = l.map fun x => f (e x) := by
  induction l with
  | nil => rfl
  | cons a l ih => rw [List.map_cons, List.filterMap_cons, ih]; rfl
theorem vpick_butlast {cs : List Nat} : vpick (cs.map iv) none (some (-1)) none = cs.dropLast.map iv := by
  rw [vpick_plain, show (-1 : Int) = -((1 : Nat) : Int) from rfl]
  simp only [Option.elim, clipAt_neg _ _ (Nat.le_refl 1), List.drop_zero, Nat.sub_zero]
  rw [List.length_map, List.dropLast_eq_take, List.map_take]
theorem cFlat {hs cs : List Nat} {a b : Addr} {sto : Sto} (hl : hs.length = 7) (hc : cs.length ≤ 7) (hc0 : 0 < cs.length) (hr : cs.getD 0 0 ≤ 7) (hk : kindsF hs = dueK (cs.getD 0 0)) (hlo : (List.range cs.length).map (bisL (isort hs)) = 0 :: cs.dropLast) (hhi : (List.range cs.length).map (bisR (isort hs)) = cs)
    (ha : (a, .list (hs.map iv)) ∈ sto) (hb : (b, .list (cs.map iv)) ∈ sto) {Q : V → Sto → Prop}
    (q : ∀ sto', Keeps sto sto' → Q (.bool true) sto') : TC g 3 (.ref fFlat.a) [.ref a, .ref b] [] [] Q sto := by
  refine TC.def (ns := ["heights", "corners"]) (fn_of (by walk_at "in")) (by decide) rfl (plain_2 fun fd v w => rfl) rfl (by decide) (by decide) (by decide) (by decide) rfl rfl rfl fun C E hn => ?_
  show TXs g C _ _ ⟨[("heights", .ref a), ("corners", .ref b)], sto⟩
  refine TXs.cons ?_
  repeat walk_at "m1"
  refine ⟨by simp, fun D hD => ?_⟩
  repeat walk_at "m1"
  refine TX.for ?_
  refine TSrc.list ?_
  repeat walk_at "m1"
  refine kSrcL.it (List.mem_cons_of_mem _ ha) (kFor.it (fun i st => Has st.loc [("heights", .ref a), ("corners", .ref b), ("kinds", .ref D)] ∧ Keeps sto st.sto ∧ (D, .list ((kindsF (hs.take i)).map kv)) ∈ st.sto) (⟨by walk_at "has", Keeps.cons, List.mem_cons_self⟩) ?_ ?_)
  · rintro i v ⟨l, t⟩ hv ⟨H, K, hmD⟩ _
    obtain ⟨h, hh, rfl⟩ : ∃ h, hs[i]? = some h ∧ v = iv h := by
      rw [List.getElem?_map] at hv
      cases e : hs[i]? with
      | none => rw [e] at hv; cases hv
      | some n => rw [e] at hv; cases hv; exact ⟨n, rfl, rfl⟩
    have hi : i < 7 := hl ▸ (List.getElem?_eq_some_iff.mp hh).1
    have estep := kindsF_step hh
    have hlen : (kindsF (hs.take i)).length ≤ 14 := by
      rw [kindsF_length]
      have := List.length_take_le i hs
      omega
    generalize kindsF (hs.take i) = ks at *
    refine TA.less (st' := ⟨_, t⟩) H rfl ?_
    refine TA.name (by walk_at "sto") ?_
    refine TXs.cons ?_
    walk_at "m1"
    refine TT.or ?_
    walk_at "m1"
    refine TE.callP (f := fIL) (m := 2) (by walk_at "in") (by walk_at "in") (by walk_at "kg") (by decide) (n_le hn) ?_
    repeat walk_at "m1"
    refine TO2.gtI ?_
    repeat walk_at "m1"
    have e0 : V.bool (decide ((0 : Int) < (h : Int))) = kv (true, decide (0 < h)) := by
      show V.bool _ = V.bool _
      congr 1
      rw [decide_eq_decide]; omega
    rw [e0]
    refine cILg (lt := klt) kv_lt hmD (by omega) ?_
    repeat walk_at "m1"
    refine TO2.isnt' (kB.it ?_)
    walk_at "no"
    refine TT.or ?_
    walk_at "m1"
    refine TE.callP (f := fIR) (m := 2) (by walk_at "in") (by walk_at "in") (by walk_at "kg") (by decide) (n_le hn) ?_
    repeat walk_at "m1"
    refine TE.callB (bid := "min") (by walk_at "in") (by walk_at "kg") ?_
    repeat walk_at "m1"
    refine TOL.min2 ?_
    repeat walk_at "m1"
    rw [kv_min]
    refine cIRg (lt := klt) kv_lt (mem_put hmD) (by rw [insL_length]; omega) ?_
    repeat walk_at "m1"
    refine TO2.isnt' (kB.it ?_)
    walk_at "no"
    refine TT.or_nil ?_
    walk_at "no"
    refine TXs.nil (TXs.nil ⟨⟨by walk_at "has", Keeps.put (Keeps.put K hD) hD, ?_⟩, ?_⟩)
    · rw [estep]; exact mem_put (mem_put hmD)
    · exact mem_put_ne (mem_put_ne (K _ ha) (hD _ ha)) (hD _ ha)
  · rintro ⟨l, t⟩ ⟨H, K, hmD⟩ _
    rw [List.length_map, List.take_length] at hmD
    refine Tr.less (st' := ⟨_, t⟩) H rfl ?_
    repeat walk_at "m1"
    have h0 : (cs.map iv)[0]? = some (iv (cs.getD 0 0)) := by
      have : 0 < cs.length := by omega
      simp [List.getElem?_eq_getElem this]
    refine TO2.itemL 0 rfl (K _ hb) h0 (by rw [List.length_map]; omega) ?_
    rw [hk] at hmD
    generalize cs.getD 0 0 = r at *
    have n1000 : ∀ v : V, [v].length ≤ 1000 := fun _ => by simp
    have hb' := K _ hb
    have ha' := K _ ha
    repeat walk_at "m1"
    refine ⟨n1000 _, fun D1 hD1 => ?_⟩
    repeat walk_at "m1"
    refine TO2.mulL r rfl List.mem_cons_self (by simp; omega) (by omega) fun D2 hD2 => ?_
    rw [rep1]
    repeat walk_at "m1"
    refine ⟨n1000 _, fun D3 hD3 => ?_⟩
    repeat walk_at "m1"
    refine TO2.mulL r rfl List.mem_cons_self (by simp; omega) (by omega) fun D4 hD4 => ?_
    rw [rep1]
    refine TO2.addL (List.mem_cons_of_mem _ (List.mem_cons_of_mem _ List.mem_cons_self)) List.mem_cons_self (by simp; omega) fun D5 hD5 => ?_
    repeat walk_at "m1"
    refine ⟨n1000 _, fun D6 hD6 => ?_⟩
    repeat walk_at "m1"
    refine TO2.subI ?_
    refine TO2.mulL (7 - r) (by omega) List.mem_cons_self (by simp; omega) (by omega) fun D7 hD7 => ?_
    rw [rep1]
    refine TO2.addL (List.mem_cons_of_mem _ (List.mem_cons_of_mem _ List.mem_cons_self)) List.mem_cons_self (by simp; omega) fun D8 hD8 => ?_
    repeat walk_at "m1"
    refine ⟨n1000 _, fun D9 hD9 => ?_⟩
    repeat walk_at "m1"
    refine TO2.subI ?_
    refine TO2.mulL (7 - r) (by omega) List.mem_cons_self (by simp; omega) (by omega) fun D10 hD10 => ?_
    rw [rep1]
    refine TO2.addL (List.mem_cons_of_mem _ (List.mem_cons_of_mem _ List.mem_cons_self)) List.mem_cons_self (by simp; omega) fun D11 hD11 => ?_
    generalize ht1 : ((D11, Cell.list _) :: _ : Sto) = t1
    have hdue : (D11, Cell.list (List.replicate r (.bool true) ++ List.replicate r (.bool false) ++ List.replicate (7 - r) (.bool true) ++ List.replicate (7 - r) (.bool false))) ∈ t1 := by rw [← ht1]; exact List.mem_cons_self
    have K1 : Keeps t t1 := fun p hp => by rw [← ht1]; repeat (first | exact hp | refine List.mem_cons_of_mem _ ?_)
    clear ht1
    have hmD1 := K1 _ hmD
    refine TXs.cons ?_
    walk_at "m1"
    refine TT.or ?_
    repeat walk_at "m1"
    refine ⟨n1000 _, fun E1 hE1 => ?_⟩
    repeat walk_at "m1"
    refine TO2.mulI ?_ (by constructor <;> decide)
    refine TO2.mulL (2 * r) (by omega) List.mem_cons_self (by simp; omega) (by omega) fun E2 hE2 => ?_
    rw [rep1]
    repeat walk_at "m1"
    refine ⟨n1000 _, fun E3 hE3 => ?_⟩
    repeat walk_at "m1"
    refine TO2.mulI ?_ (by constructor <;> decide)
    refine TO2.subI ?_
    refine TO2.mulL (14 - 2 * r) (by omega) List.mem_cons_self (by simp; omega) (by omega) fun E4 hE4 => ?_
    rw [rep1]
    refine TO2.addL (List.mem_cons_of_mem _ (List.mem_cons_of_mem _ List.mem_cons_self)) List.mem_cons_self (by simp; omega) fun E5 hE5 => ?_
    generalize ht2 : ((E5, Cell.list _) :: _ : Sto) = t2
    have hE5 : (E5, Cell.list (List.replicate (2 * r) (V.int 0) ++ List.replicate (14 - 2 * r) (.int 1))) ∈ t2 := by rw [← ht2]; exact List.mem_cons_self
    have K2 : Keeps t1 t2 := fun p hp => by rw [← ht2]; repeat (first | exact hp | refine List.mem_cons_of_mem _ ?_)
    clear ht2
    have hmD2 := K2 _ hmD1
    refine TO2.neL hmD2 hE5 (EqSs.of (due1 r (by omega)) deep_kv) (kB.it ?_)
    walk_at "no"
    refine TT.or ?_
    walk_at "m1"
    refine TE.comp1 (noFree (by decide)) ?_ rfl (by decide) (by decide) (fun _ => rfl)
    refine TSrc.list ?_
    repeat walk_at "m1"
    refine kSrcL.it hmD2 (Comp1.it (by rw [List.length_map, due3 r (by omega)]; decide) ([]) (fun v => some (match v with | .bool _ => .bool true | _ => .bool false)) nofun ?_ ?_)
    · intro C' cof v hv loc t4 H4 K4
      obtain ⟨⟨x, y⟩, hx, rfl⟩ := List.mem_map.mp hv
      refine TA.name (by walk_at "sto") (TTs.nil ?_)
      walk_at "yes"
      refine TE.callB (bid := "isinstance") (by walk_at "in") (by walk_at "kg") ?_
      repeat walk_at "m1"
      refine TE.builtin (v := .type "bool") (by walk_at "in") (by walk_at "kg") ?_
      repeat walk_at "m1"
      refine TOL.isi (b := x) (by cases x <;> rfl) ?_
      exact ⟨by cases x <;> rfl, nofun, Keeps.refl _⟩
    · intro D3' t3 hD3' K3 hm3
      rw [filterMap_some] at hm3
      have e3 : ((dueK r).map fun k => (match kv k with | .bool _ => V.bool true | _ => V.bool false)) = (dueK r).map fun k => V.bool k.1 := List.map_congr_left fun k _ => by obtain ⟨x, y⟩ := k; cases x <;> rfl
      rw [e3] at hm3
      repeat walk_at "m1"
      have K3' : Keeps t t3 := Keeps.trans K1 (Keeps.trans K2 K3)
      refine TO2.neL hm3 (K3 _ (K2 _ hdue)) (EqSs.of (due2 r (by omega)) fun v hv => by obtain ⟨k, _, rfl⟩ := List.mem_map.mp hv; exact Nat.zero_le _) (kB.it ?_)
      walk_at "no"
      refine TT.or_nil ?_
      walk_at "no"
      refine TXs.nil ?_
      refine Tr.less (st' := ⟨[("heights", .ref a), ("corners", .ref b)], t3⟩) (show Has _ _ by walk_at "has") rfl ?_
      have ha3 := K3' _ ha'
      have hb3 := K3' _ hb'
      have Kt : Keeps sto t3 := Keeps.trans K K3'
      clear hm3 hD3' K3 hE5 hmD2 hdue hmD1 K2 K1
      refine TXs.cons ?_
      walk_at "m1"
      refine TE.callB (bid := "sorted") (by walk_at "in") (by walk_at "kg") ?_
      repeat walk_at "m1"
      refine TOL.sorted (is := hs.map Int.ofNat) (by rw [List.map_map]; exact ha3) (by rw [List.length_map]; omega) fun D6 js hD6 hp hsj => ?_
      have hflat : js.map V.int = (isort hs).map iv := by rw [flat_eq hp hsj, List.map_map]; rfl
      have hil : (isort hs).length = 7 := by unfold isort; rw [List.length_mergeSort, hl]
      rw [hflat]
      refine TXs.cons ?_
      refine TX.assignComp1 (freeOf E (by decide)) (swaps_true (by walk_at "kg") rfl rfl) (by walk_at "kg") (by decide) ?_ rfl (by decide) (by decide) (fun _ => rfl)
      refine TSrc.range (by walk_at "kg") ?_
      walk_at "m1"
      refine TE.callB (bid := "len") (by walk_at "in") (by walk_at "kg") ?_
      repeat walk_at "m1"
      refine TOL.one (TO1.lenL (vs := cs.map iv) (List.mem_cons_of_mem _ hb3) (by rw [List.length_map]; omega) ?_)
      walk_at "m1"
      refine ⟨cs.length, by simp, by omega, by simp; omega, [("flat", .ref D6)], fun v => some (match v with | .int i => iv (bisL (isort hs) i.toNat) | _ => .none), ?_, ?_, ?_⟩
      · intro p hp
        rw [List.mem_singleton] at hp; subst hp
        exact ⟨by walk_at "mem", by rfl, cellOfE E (by rfl)⟩
      · intro C' cof v hv loc t4 H4 K4
        obtain ⟨i, hi, rfl⟩ := range_mem hv
        refine TA.less (st' := ⟨_, t4⟩) H4 rfl ?_
        refine TA.name (by walk_at "sto") (TTs.nil ?_)
        walk_at "yes"
        refine TE.callP (f := fBL) (m := 1) (by walk_at "in") (by walk_at "in") (by walk_at "kg") (by decide) (n_le (cof.n.trans hn)) ?_
        repeat walk_at "m1"
        refine cBLi (K4 _ List.mem_cons_self) (by omega) ⟨rfl, by walk_at "has", Keeps.refl _⟩
      · intro D7 t5 hD7 K5 hm5
        rw [filterMap_some] at hm5
        have e5 : ((List.range cs.length).map fun (x : Nat) => (match V.int (x : Int) with | .int i => iv (bisL (isort hs) i.toNat) | _ => V.none)) = (0 :: cs.dropLast).map iv := by rw [← hlo, List.map_map]; rfl
        rw [e5] at hm5
        have hb5 := K5 _ (List.mem_cons_of_mem _ hb3)
        have hf5 := K5 _ List.mem_cons_self
        have Kt5 : Keeps sto t5 := Keeps.trans Kt (Keeps.trans Keeps.cons K5)
        refine Tr.less (st' := ⟨[("corners", .ref b), ("flat", .ref D6), ("lows", .ref D7)], t5⟩) (show Has _ _ by walk_at "has") rfl ?_
        refine TXs.cons (TX.ret ?_)
        refine TE.and2 ?_
        repeat walk_at "m1"
        refine ⟨by simp, fun D8 hD8 => ?_⟩
        repeat walk_at "m1"
        refine TE.un ?_
        repeat walk_at "m1"
        refine TO1.negI ?_
        have epick := vpick_butlast (cs := cs)
        refine ⟨_, rfl, b, _, rfl, List.mem_cons_of_mem _ hb5, by rw [List.length_map]; omega, fun D9 hD9 => ?_⟩
        rw [epick]
        refine TO2.addL (List.mem_cons_of_mem _ List.mem_cons_self) List.mem_cons_self (by simp; omega) fun D10 hD10 => ?_
        refine TO2.eqL (vs := (0 :: cs.dropLast).map iv) (List.mem_cons_of_mem _ (List.mem_cons_of_mem _ (List.mem_cons_of_mem _ hm5))) List.mem_cons_self (eqSs_iv (0 :: cs.dropLast)) ?_
        refine TO1.truthB ?_
        walk_at "yes"
        refine TE.bool1 ?_
        walk_at "m1"
        refine TE.comp1 (freeOf E (by decide)) ?_ rfl (by decide) (by decide) (fun _ => rfl)
        refine TSrc.range (by walk_at "kg") ?_
        walk_at "m1"
        refine TE.callB (bid := "len") (by walk_at "in") (by walk_at "kg") ?_
        repeat walk_at "m1"
        refine TOL.one (TO1.lenL (vs := cs.map iv) (List.mem_cons_of_mem _ (List.mem_cons_of_mem _ (List.mem_cons_of_mem _ hb5))) (by rw [List.length_map]; omega) ?_)
        walk_at "m1"
        refine ⟨cs.length, by simp, by omega, by simp; omega, [("flat", .ref D6)], fun v => some (match v with | .int i => iv (bisR (isort hs) i.toNat) | _ => .none), ?_, ?_, ?_⟩
        · intro p hp
          rw [List.mem_singleton] at hp; subst hp
          exact ⟨by walk_at "mem", by rfl, cellOfE E (by rfl)⟩
        · intro C' cof v hv loc t6 H6 K6
          obtain ⟨i, hi, rfl⟩ := range_mem hv
          refine TA.less (st' := ⟨_, t6⟩) H6 rfl ?_
          refine TA.name (by walk_at "sto") (TTs.nil ?_)
          walk_at "yes"
          refine TE.callP (f := fBR) (m := 1) (by walk_at "in") (by walk_at "in") (by walk_at "kg") (by decide) (n_le (cof.n.trans hn)) ?_
          repeat walk_at "m1"
          refine cBRi (K6 _ (List.mem_cons_of_mem _ (List.mem_cons_of_mem _ (List.mem_cons_of_mem _ hf5)))) (by omega) ⟨rfl, by walk_at "has", Keeps.refl _⟩
        · intro D11' t7 hD11' K7 hm7
          rw [filterMap_some] at hm7
          have e7 : ((List.range cs.length).map fun (x : Nat) => (match V.int (x : Int) with | .int i => iv (bisR (isort hs) i.toNat) | _ => V.none)) = cs.map iv := by
            conv => rhs; rw [← hhi, List.map_map]
            rfl
          rw [e7] at hm7
          repeat walk_at "m1"
          refine TO2.eqL (vs := cs.map iv) hm7 (K7 _ (List.mem_cons_of_mem _ (List.mem_cons_of_mem _ (List.mem_cons_of_mem _ hb5)))) (eqSs_iv cs) ?_
          exact q _ (fun p hp => K7 _ (List.mem_cons_of_mem _ (List.mem_cons_of_mem _ (List.mem_cons_of_mem _ (Kt5 p hp)))))
end
end
section -- P37
section
variable {g : G}
noncomputable def mkV (fr : Nat → Str) (m : Nat × Bool) : V := .tup [.str (fr m.1), .str (if m.2 then "+" else "-")]
noncomputable def mkK (fr : Nat → Str) (m : Nat × Bool) : V := .str (fr m.1)
theorem cKeyM {fr : Nat → Str} (m : Nat × Bool) (sto : Sto) (Q : V → Sto → Prop) (q : Q (mkK fr m) sto) : TC g 2 (.ref fKey.a) [mkV fr m] [] [] Q sto := cKey (by simp) q
theorem getE {α : Type} {e : α → V} {l : List α} {i : Nat} {v : V} (h : (l.map e)[i]? = some v) : ∃ u, l[i]? = some u ∧ v = e u := by
  rw [List.getElem?_map] at h
  cases hh : l[i]? with
  | none => rw [hh] at h; cases h
  | some u => rw [hh] at h; cases h; exact ⟨u, rfl, rfl⟩
noncomputable def lowF (rm : List (Nat × Bool)) (x : Nat) : Nat := bisect (fun j => match rm[j]? with | some m => !(decide (m.1 < x)) | none => true) 0 rm.length
noncomputable def highF (rm : List (Nat × Bool)) (x : Nat) : Nat := bisect (fun j => match rm[j]? with | some m => decide (x < m.1) | none => true) 0 rm.length
theorem lowF_le (rm : List (Nat × Bool)) (x : Nat) : lowF rm x ≤ rm.length := bisect_le (Nat.zero_le _)
theorem highF_le (rm : List (Nat × Bool)) (x : Nat) : highF rm x ≤ rm.length := bisect_le (Nat.zero_le _)
theorem cBLm {fr : Nat → Str} (hm : Mono fr) {a : Addr} {rm : List (Nat × Bool)} {x : Nat} (hx : x ≤ 7) (h7 : ∀ m ∈ rm, m.1 ≤ 7) {sto : Sto} {Q : V → Sto → Prop} (ha : (a, .list (rm.map (mkV fr))) ∈ sto) (hl : rm.length ≤ 900) (q : Q (iv (lowF rm x)) sto) :
    TC g 3 (.ref fBL.a) [.ref a, .str (fr x)] ["key"] [.val (.ref fKey.a)] Q sto :=
  cBLk (lo := 0) (vs := rm.map (mkV fr)) (p := fun j => match rm[j]? with | some m => !(decide (m.1 < x)) | none => true) (h := rm.length) (κ := fun i => match rm[i]? with | some m => mkK fr m | none => .none) (by walk_at "in") (by decide)
    (fun i v hv sto Q qq => by
      obtain ⟨u, hu, rfl⟩ := getE hv
      exact cKeyM u _ _ (by simpa [hu] using qq)) bBL2k ha (by rw [List.length_map]; exact hl) (fun i v hv => by
      obtain ⟨u, hu, rfl⟩ := getE hv
      have := hm u.1 x (h7 u (List.mem_of_getElem? hu)) hx
      simp only [hu, Bool.not_not]
      show some _ = _
      rw [this]) (.inl ⟨rfl, by rw [List.length_map]⟩) q
theorem cBRm {fr : Nat → Str} (hm : Mono fr) {a : Addr} {rm : List (Nat × Bool)} {x : Nat} (hx : x ≤ 7) (h7 : ∀ m ∈ rm, m.1 ≤ 7) {sto : Sto} {Q : V → Sto → Prop} (ha : (a, .list (rm.map (mkV fr))) ∈ sto) (hl : rm.length ≤ 900) (q : Q (iv (highF rm x)) sto) :
    TC g 3 (.ref fBR.a) [.ref a, .str (fr x)] ["key"] [.val (.ref fKey.a)] Q sto :=
  cBRk (lo := 0) (vs := rm.map (mkV fr)) (p := fun j => match rm[j]? with | some m => decide (x < m.1) | none => true) (h := rm.length) (κ := fun i => match rm[i]? with | some m => mkK fr m | none => .none) (by walk_at "in") (by decide)
    (fun i v hv sto Q qq => by
      obtain ⟨u, hu, rfl⟩ := getE hv
      exact cKeyM u _ _ (by simpa [hu] using qq)) bBR2k ha (by rw [List.length_map]; exact hl) (fun i v hv => by
      obtain ⟨u, hu, rfl⟩ := getE hv
      have := hm x u.1 hx (h7 u (List.mem_of_getElem? hu))
      simp only [hu]
      show some _ = _
      rw [this]) (.inl ⟨rfl, by rw [List.length_map]⟩) q
noncomputable def szF (rm : List (Nat × Bool)) : Nat → Nat → List Int → List Int
  | 0, _, acc => acc
  | n + 1, i, acc => let z := (highF rm i : Int) - lowF rm i - acc.getLast?.getD 0; if z = 0 then acc else szF rm n (i + 1) (acc ++ [z])
theorem vpick_last {l : List V} : vpick l (some (-1)) none none = (match l.getLast? with | some x => [x] | none => []) := by
  rcases List.eq_nil_or_concat l with rfl | ⟨m, x, rfl⟩
  · rfl
  · rw [vpick_plain, show (-1 : Int) = -((1 : Nat) : Int) from rfl]
    simp only [Option.elim, clipAt_neg _ _ (Nat.le_refl 1)]
    rw [List.take_of_length_le (by rw [List.length_drop]; exact Nat.le_refl _)]
    simp
theorem lastSum (acc : List Int) : (match (acc.map V.int).getLast? with | some x => [x] | none => []) = ((acc.getLast?.toList).map V.int) := by
  rw [List.getLast?_map]
  cases acc.getLast? <;> rfl
theorem cSizes {fr : Nat → Str} (hm : Mono fr) {a b : Addr} {rm : List (Nat × Bool)} (h7 : ∀ m ∈ rm, m.1 ≤ 7) (hl : rm.length = 14) {sto : Sto} {Q : V → Sto → Prop} (ha : (a, .list (rm.map (mkV fr))) ∈ sto) (hb : (b, .list (frV fr)) ∈ sto)
    (q : ∀ D sto', (∀ p ∈ sto, p.1 ≠ D) → Keeps sto sto' → (D, .list ((szF rm 8 0 []).map V.int)) ∈ sto' → Q (.ref D) sto') : TC g 4 (.ref fSizes.a) [.ref a, .ref b] [] [] Q sto := by
  refine TC.def (ns := ["row", "fronts"]) (fn_of (by walk_at "in")) (by decide) rfl (plain_2 fun fd v w => rfl) rfl (by decide) (by decide) (by decide) (by decide) rfl rfl rfl fun C E hn => ?_
  show TXs g C _ _ ⟨[("row", .ref a), ("fronts", .ref b)], sto⟩
  refine TXs.cons ?_
  repeat walk_at "m1"
  refine ⟨by simp, fun D hD => ?_⟩
  repeat walk_at "m1"
  refine TX.for ?_
  refine TSrc.list ?_
  repeat walk_at "m1"
  refine ⟨b, _, rfl, List.mem_cons_of_mem _ hb, fun i st => Has st.loc [("row", .ref a), ("sizes", .ref D)] ∧ Keeps sto st.sto ∧ ∃ acc : List Int, (D, .list (acc.map V.int)) ∈ st.sto ∧ acc.length ≤ i ∧ szF rm (8 - i) i acc = szF rm 8 0 [], ⟨by walk_at "has", Keeps.cons, [], List.mem_cons_self, Nat.le_refl _, rfl⟩, ?_, ?_⟩
  · rintro i v ⟨l, t⟩ hv ⟨H, K, acc, hmD, hal, hsz⟩ _
    obtain ⟨u, hu, rfl⟩ := getE hv
    obtain ⟨hi, rfl⟩ := List.getElem?_eq_some_iff.mp hu
    simp only [List.length_range] at hi
    rw [List.getElem_range]
    have hn8 : 8 - i = (8 - (i + 1)) + 1 := n_dec (by assumption)
    rw [hn8, szF] at hsz
    have hla := lowF_le rm i
    have hha := highF_le rm i
    have Ka := K _ ha
    generalize hlo : lowF rm i = lo at *
    generalize hhi : highF rm i = hi' at *
    refine TA.less (st' := ⟨_, t⟩) H rfl ?_
    refine TA.name (by walk_at "sto") ?_
    refine TXs.cons ?_
    walk_at "m1"
    refine TE.callK (f := fBL) (m := 3) (ks := ["key"]) (by walk_at "in") (by walk_at "in") (by walk_at "kg") (by decide) (n_le hn) ?_
    repeat walk_at "m1"
    refine TE.callP (f := fXf) (m := 1) (by walk_at "in") (by walk_at "in") (by walk_at "kg") (by decide) (n_le hn) ?_
    repeat walk_at "m1"
    refine cXf ?_
    repeat walk_at "m1"
    refine TKs.cons (TE.glob (v := .ref fKey.a) (by walk_at "in") (by walk_at "kg") (TKs.nil ?_))
    refine cBLm hm (by omega) h7 Ka (by omega) ?_
    rw [hlo]
    repeat walk_at "m1"
    refine TE.callK (f := fBR) (m := 3) (ks := ["key"]) (by walk_at "in") (by walk_at "in") (by walk_at "kg") (by decide) (n_le hn) ?_
    repeat walk_at "m1"
    refine TE.callP (f := fXf) (m := 1) (by walk_at "in") (by walk_at "in") (by walk_at "kg") (by decide) (n_le hn) ?_
    repeat walk_at "m1"
    refine cXf ?_
    repeat walk_at "m1"
    refine TKs.cons (TE.glob (v := .ref fKey.a) (by walk_at "in") (by walk_at "kg") (TKs.nil ?_))
    refine cBRm hm (by omega) h7 Ka (by omega) ?_
    rw [hhi]
    repeat walk_at "m1"
    refine TO2.subI ?_
    refine TE.callB (bid := "sum") (by walk_at "in") (by walk_at "kg") ?_
    repeat walk_at "m1"
    refine TE.un ?_
    repeat walk_at "m1"
    refine TO1.negI (kP.it ?_)
    walk_at "m1"
    refine kSl3.it hmD (by rw [List.length_map]; omega) (fun D2 hD2 => ?_)
    rw [vpick_last, lastSum]
    repeat walk_at "m1"
    refine TOL.sum (is := acc.getLast?.toList) List.mem_cons_self ?_
    have esum : acc.getLast?.toList.sum = acc.getLast?.getD 0 := by cases acc.getLast? <;> simp
    rw [esum]
    refine TO2.subI ?_
    generalize hz : (hi' : Int) - lo - acc.getLast?.getD 0 = z at *
    repeat walk_at "m1"
    refine TO2.eqI (kB.it ?_)
    by_cases h0 : z = 0
    · subst h0
      walk_at "yes"
      rw [if_pos rfl] at hsz
      repeat walk_at "m1"
      rw [hsz] at hmD
      exact q D _ hD (Keeps.trans K Keeps.cons) (List.mem_cons_of_mem _ hmD)
    · rw [beq_eq_false_iff_ne.mpr h0]
      walk_at "no"
      rw [if_neg h0] at hsz
      refine TXs.nil (TXs.cons (TX.expr ?_ notInter))
      refine TE.append ?_
      walk_at "m1"
      refine kApp.it (List.mem_cons_of_mem _ hmD) ?_
      repeat walk_at "m1"
      have kk : Keeps sto ((D2, Cell.list (acc.getLast?.toList.map V.int)) :: t) := Keeps.trans K Keeps.cons
      refine ⟨_, List.mem_cons_of_mem _ hmD, by rw [List.length_map]; omega, rfl, TXs.nil ⟨⟨by walk_at "has", Keeps.put kk hD, acc ++ [z], ?_, ?_, hsz⟩, ?_⟩⟩
      · rw [List.map_append]; exact mem_put (List.mem_cons_of_mem _ hmD)
      · rw [List.length_append]; simp; omega
      · exact mem_put_ne (kk _ hb) (hD _ hb)
  · rintro ⟨l, t⟩ ⟨H, K, acc, hmD, hal, hsz⟩ _
    refine Tr.less (st' := ⟨_, t⟩) H rfl ?_
    have : (frV fr).length = 8 := by simp [frV]
    rw [this] at hsz
    have hsz : acc = szF rm 8 0 [] := hsz
    rw [hsz] at hmD
    repeat walk_at "m1"
    exact q D t hD K hmD
end
end
section -- P38
section
variable {g : G}
noncomputable def mlt (u w : Nat × Bool) : Bool := decide (u.1 < w.1)
noncomputable def rowF (ms : List (Nat × Bool)) : List (Nat × Bool) := ms.foldl (insR mlt) []
noncomputable def backF (ms : List (Nat × Bool)) : List (Nat × Bool) := ms.reverse.foldl (insL mlt) []
theorem foldl_step {α : Type} (f : List α → α → List α) {ms : List α} {i : Nat} {m : α} (h : ms[i]? = some m) : (ms.take (i + 1)).foldl f [] = f ((ms.take i).foldl f []) m := by
  rw [List.take_add_one, h, List.foldl_append]; rfl
theorem insR_mem {α : Type} {lt : α → α → Bool} {l : List α} {x u : α} (h : u ∈ insR lt l x) : u ∈ l ∨ u = x := by
  unfold insR at h
  rcases List.mem_append.mp h with h | h
  · exact .inl (List.mem_of_mem_take h)
  · rcases List.mem_cons.mp h with h | h
    · exact .inr h
    · exact .inl (List.mem_of_mem_drop h)
theorem insL_mem {α : Type} {lt : α → α → Bool} {l : List α} {x u : α} (h : u ∈ insL lt l x) : u ∈ l ∨ u = x := by
  unfold insL at h
  rcases List.mem_append.mp h with h | h
  · exact .inl (List.mem_of_mem_take h)
  · rcases List.mem_cons.mp h with h | h
    · exact .inr h
    · exact .inl (List.mem_of_mem_drop h)
theorem foldR_mem {α : Type} {lt : α → α → Bool} : ∀ {ms l : List α} {u : α}, u ∈ ms.foldl (insR lt) l → u ∈ ms ∨ u ∈ l
  | [], l, u, h => .inr h
  | m :: ms, l, u, h => by
    rcases foldR_mem (ms := ms) h with h | h
    · exact .inl (List.mem_cons_of_mem _ h)
    · rcases insR_mem h with h | h
      · exact .inr h
      · exact .inl (h ▸ List.mem_cons_self)
theorem foldL_mem {α : Type} {lt : α → α → Bool} : ∀ {ms l : List α} {u : α}, u ∈ ms.foldl (insL lt) l → u ∈ ms ∨ u ∈ l
  | [], l, u, h => .inr h
  | m :: ms, l, u, h => by
    rcases foldL_mem (ms := ms) h with h | h
    · exact .inl (List.mem_cons_of_mem _ h)
    · rcases insL_mem h with h | h
      · exact .inr h
      · exact .inl (h ▸ List.mem_cons_self)
theorem foldR_length {α : Type} {lt : α → α → Bool} : ∀ {ms l : List α}, (ms.foldl (insR lt) l).length = l.length + ms.length
  | [], l => rfl
  | m :: ms, l => by rw [List.foldl_cons, foldR_length, insR_length, List.length_cons]; omega
theorem foldL_length {α : Type} {lt : α → α → Bool} : ∀ {ms l : List α}, (ms.foldl (insL lt) l).length = l.length + ms.length
  | [], l => rfl
  | m :: ms, l => by rw [List.foldl_cons, foldL_length, insL_length, List.length_cons]; omega
theorem mk_lt {fr : Nat → Str} (hm : Mono fr) {u w : Nat × Bool} (h1 : u.1 ≤ 7) (h2 : w.1 ≤ 7) : ltv (mkK fr u) (mkK fr w) = some (mlt u w) := by
  show some _ = some _
  rw [hm u.1 w.1 h1 h2]; rfl
section
variable {fr : Nat → Str} (hm : Mono fr) {a : Addr} {l : List (Nat × Bool)} {x : Nat × Bool} (h7 : ∀ m ∈ l, m.1 ≤ 7) (hx : x.1 ≤ 7) {sto : Sto} {Q : V → Sto → Prop} (ha : (a, .list (l.map (mkV fr))) ∈ sto) (hl : l.length ≤ 900)
include hm h7 hx ha hl
omit hm ha hl in
theorem mk7 : ∀ u, (u ∈ l ∨ u = x) → u.1 ≤ 7 := fun u h => by
  rcases h with h | rfl
  · exact h7 u h
  · exact hx
omit ha hl in
theorem mkLt : ∀ u w, (u ∈ l ∨ u = x) → (w ∈ l ∨ w = x) → ltv (mkK fr u) (mkK fr w) = some (mlt u w) := fun u w h1 h2 => mk_lt hm (mk7 h7 hx u h1) (mk7 h7 hx w h2)
theorem rowIR (q : Q .none (put sto a (.list ((insR mlt l x).map (mkV fr))))) : TC g 4 (.ref fIR.a) [.ref a, mkV fr x] ["key"] [.val (.ref fKey.a)] Q sto :=
  cIRgk (kf := fKey) (κ := mkK fr) (lt := mlt) (lo := 0) (h := l.length) (by walk_at "in") (by decide) bIR2k (.inl ⟨rfl, rfl⟩) (Nat.zero_le _) (mkLt hm h7 hx) (fun u _ _ _ qq => cKeyM u _ _ qq) ha hl q
theorem rowIL (q : Q .none (put sto a (.list ((insL mlt l x).map (mkV fr))))) : TC g 4 (.ref fIL.a) [.ref a, mkV fr x] ["key"] [.val (.ref fKey.a)] Q sto :=
  cILgk (kf := fKey) (κ := mkK fr) (lt := mlt) (lo := 0) (h := l.length) (by walk_at "in") (by decide) bIL2k (.inl ⟨rfl, rfl⟩) (Nat.zero_le _) (mkLt hm h7 hx) (fun u _ _ _ qq => cKeyM u _ _ qq) ha hl q
theorem rowIR0 (q : Q .none (put sto a (.list ((x :: l).map (mkV fr))))) : TC g 4 (.ref fIR.a) [.ref a, mkV fr x, .int 0, .int 0] ["key"] [.val (.ref fKey.a)] Q sto :=
  cIRgk (kf := fKey) (κ := mkK fr) (lt := mlt) (lo := 0) (hi := .int ((0 : Nat) : Int)) (h := 0) (by walk_at "in") (by decide) bIR4k (.inr ⟨rfl, Nat.zero_le _⟩) (Nat.zero_le _) (mkLt hm h7 hx) (fun u _ _ _ qq => cKeyM u _ _ qq) ha hl (by rw [bisect_end (Nat.lt_irrefl 0)]; exact q)
theorem rowIL0 (q : Q .none (put sto a (.list ((x :: l).map (mkV fr))))) : TC g 4 (.ref fIL.a) [.ref a, mkV fr x, .int 0, .int 0] ["key"] [.val (.ref fKey.a)] Q sto :=
  cILgk (kf := fKey) (κ := mkK fr) (lt := mlt) (lo := 0) (hi := .int ((0 : Nat) : Int)) (h := 0) (by walk_at "in") (by decide) bIL4k (.inr ⟨rfl, Nat.zero_le _⟩) (Nat.zero_le _) (mkLt hm h7 hx) (fun u _ _ _ qq => cKeyM u _ _ qq) ha hl (by rw [bisect_end (Nat.lt_irrefl 0)]; exact q)
theorem rowIRe {n : Nat} (hn : n = l.length) (q : Q .none (put sto a (.list ((l ++ [x]).map (mkV fr))))) : TC g 4 (.ref fIR.a) [.ref a, mkV fr x, iv n] ["key"] [.val (.ref fKey.a)] Q sto := by
  subst hn
  exact cIRgk (kf := fKey) (κ := mkK fr) (lt := mlt) (lo := l.length) (h := l.length) (by walk_at "in") (by decide) bIR3k (.inl ⟨rfl, rfl⟩) (Nat.le_refl _) (mkLt hm h7 hx) (fun u _ _ _ qq => cKeyM u _ _ qq) ha hl (by rw [bisect_end (Nat.lt_irrefl _)]; simpa using q)
theorem rowILe {n : Nat} (hn : n = l.length) (q : Q .none (put sto a (.list ((l ++ [x]).map (mkV fr))))) : TC g 4 (.ref fIL.a) [.ref a, mkV fr x, iv n] ["key"] [.val (.ref fKey.a)] Q sto := by
  subst hn
  exact cILgk (kf := fKey) (κ := mkK fr) (lt := mlt) (lo := l.length) (h := l.length) (by walk_at "in") (by decide) bIL3k (.inl ⟨rfl, rfl⟩) (Nat.le_refl _) (mkLt hm h7 hx) (fun u _ _ _ qq => cKeyM u _ _ qq) ha hl (by rw [bisect_end (Nat.lt_irrefl _)]; simpa using q)
end
theorem vpick_rev {l : List V} (h : l.length = 14) : vpick l none none (some (-1)) = l.reverse := by
  unfold vpick
  rw [h, show sliceRange (sliceBounds none none (some (-1)) 14).1 (sliceBounds none none (some (-1)) 14).2.1 (sliceBounds none none (some (-1)) 14).2.2 = (List.range 14).reverse by decide, List.filterMap_reverse, pick_range 14 (Nat.le_of_eq h.symm), ← h, List.take_length]
theorem eqvs_mk {fr : Nat → Str} (l : List (Nat × Bool)) : eqvs (l.map (mkV fr)) (l.map (mkV fr)) = some true :=
  eqvs_same (e := mkV fr) (fun m => show eqvs _ _ = _ from eqvs_both (eqv_ss _) (eqvs_both (eqv_ss _) eqvs_nil)) l
theorem deeps_mk {fr : Nat → Str} (l : List (Nat × Bool)) : deeps (l.map (mkV fr)) ≤ 700 := Nat.le_trans (deeps_le (n := 2) fun v hv => by
  obtain ⟨m, _, rfl⟩ := List.mem_map.mp hv
  exact Nat.le_of_eq rfl) (by decide)
/-- where things lie behind one turn of _law_row -/
theorem rowMem {t : Sto} {A1 A2 A3 A4 D : Addr} {Y1 Y2 Y3 Y4 X1 X2 X3 X4 : Cell} (m1 : (A1, Y1) ∈ t) (m2 : (A2, Y2) ∈ t) (m3 : (A3, Y3) ∈ t) (m4 : (A4, Y4) ∈ t) (n12 : A1 ≠ A2) (n13 : A1 ≠ A3) (n14 : A1 ≠ A4) (n23 : A2 ≠ A3) (n24 : A2 ≠ A4) (n34 : A3 ≠ A4)
    (d1 : A1 ≠ D) (d2 : A2 ≠ D) (d3 : A3 ≠ D) (d4 : A4 ≠ D) (N2 N3 N4 : Cell) :
    (D, N2) ∈ put ((D, N2) :: put (put t A1 X1) A2 X2) A3 X3 ∧ (D, N3) ∈ put (put ((D, N2) :: put (put t A1 X1) A2 X2) A3 X3) D N3 ∧ (D, N3) ∈ put (put (put ((D, N2) :: put (put t A1 X1) A2 X2) A3 X3) D N3) A4 X4 ∧
    (A4, Y4) ∈ put (put ((D, N2) :: put (put t A1 X1) A2 X2) A3 X3) D N3 ∧ (A3, Y3) ∈ (D, N2) :: put (put t A1 X1) A2 X2 ∧
    (D, N4) ∈ put (put (put (put ((D, N2) :: put (put t A1 X1) A2 X2) A3 X3) D N3) A4 X4) D N4 ∧ (A1, X1) ∈ put (put (put (put ((D, N2) :: put (put t A1 X1) A2 X2) A3 X3) D N3) A4 X4) D N4 ∧
    (A2, X2) ∈ put (put (put (put ((D, N2) :: put (put t A1 X1) A2 X2) A3 X3) D N3) A4 X4) D N4 ∧ (A3, X3) ∈ put (put (put (put ((D, N2) :: put (put t A1 X1) A2 X2) A3 X3) D N3) A4 X4) D N4 ∧
    (A4, X4) ∈ put (put (put (put ((D, N2) :: put (put t A1 X1) A2 X2) A3 X3) D N3) A4 X4) D N4 := by
  have a1 : (A1, X1) ∈ put (put t A1 X1) A2 X2 := mem_put_ne (mem_put m1) n12
  have a2 : (A2, X2) ∈ put (put t A1 X1) A2 X2 := mem_put (mem_put_ne m2 n12.symm)
  have a3 : (A3, Y3) ∈ put (put t A1 X1) A2 X2 := mem_put_ne (mem_put_ne m3 n13.symm) n23.symm
  have a4 : (A4, Y4) ∈ put (put t A1 X1) A2 X2 := mem_put_ne (mem_put_ne m4 n14.symm) n24.symm
  have b0 : (D, N2) ∈ put ((D, N2) :: put (put t A1 X1) A2 X2) A3 X3 := mem_put_ne List.mem_cons_self d3.symm
  have b3 : (A3, X3) ∈ put ((D, N2) :: put (put t A1 X1) A2 X2) A3 X3 := mem_put (List.mem_cons_of_mem _ a3)
  have c4 : (A4, Y4) ∈ put (put ((D, N2) :: put (put t A1 X1) A2 X2) A3 X3) D N3 := mem_put_ne (mem_put_ne (List.mem_cons_of_mem _ a4) n34.symm) d4
  have e0 : (D, N3) ∈ put (put (put ((D, N2) :: put (put t A1 X1) A2 X2) A3 X3) D N3) A4 X4 := mem_put_ne (mem_put b0) d4.symm
  exact ⟨b0, mem_put b0, e0, c4, List.mem_cons_of_mem _ a3, mem_put e0, mem_put_ne (mem_put_ne (mem_put_ne (mem_put_ne (List.mem_cons_of_mem _ a1) n13) d1) n14) d1,
    mem_put_ne (mem_put_ne (mem_put_ne (mem_put_ne (List.mem_cons_of_mem _ a2) n23) d2) n24) d2, mem_put_ne (mem_put_ne (mem_put_ne b3 d3) n34) d3, mem_put_ne (mem_put c4) d4⟩
theorem cRow {fr : Nat → Str} (hm : Mono fr) {a : Addr} {ms : List (Nat × Bool)} (h7 : ∀ m ∈ ms, m.1 ≤ 7) (hl : ms.length = 14) (hrb : rowF ms = backF ms) {sto : Sto} {Q : V → Sto → Prop} (ha : (a, .list (ms.map (mkV fr))) ∈ sto)
    (q : ∀ D sto', (∀ p ∈ sto, p.1 ≠ D) → Keeps sto sto' → (D, .list ((rowF ms).map (mkV fr))) ∈ sto' → Q (.ref D) sto') : TC g 5 (.ref fRow.a) [.ref a] [] [] Q sto := by
  refine TC.def (ns := ["marks"]) (fn_of (by walk_at "in")) (by decide) rfl (plain_1 fun fd v => rfl) rfl (by decide) (by decide) (by decide) (by decide) rfl rfl rfl fun C E hn => ?_
  show TXs g C _ _ ⟨[("marks", .ref a)], sto⟩
  refine TXs.cons (TX.assignT ?_ rfl rfl)
  walk_at "m1"
  iterate 4
    walk_at "m1"
    walk_at "m1"
    walk_at "m1"
    refine ⟨by simp, fun _ _ => ?_⟩
  rename_i A1 hA1 A2 hA2 A3 hA3 A4 hA4
  walk_at "m1"
  refine ⟨by simp, ?_⟩
  refine TA.tup (xs := [("row", _), ("back", _), ("front", _), ("end", _)]) (fun p hp => ?_) rfl rfl rfl ?_
  · simp only [List.mem_cons, List.not_mem_nil, or_false] at hp
    rcases hp with rfl | rfl | rfl | rfl <;> walk_at "sto"
  have n12 : A1 ≠ A2 := hA2 (A1, _) List.mem_cons_self
  have n23 : A2 ≠ A3 := hA3 (A2, _) List.mem_cons_self
  have n34 : A3 ≠ A4 := hA4 (A3, _) List.mem_cons_self
  have n13 : A1 ≠ A3 := hA3 (A1, _) (List.mem_cons_of_mem _ List.mem_cons_self)
  have n24 : A2 ≠ A4 := hA4 (A2, _) (List.mem_cons_of_mem _ List.mem_cons_self)
  have n14 : A1 ≠ A4 := hA4 (A1, _) (List.mem_cons_of_mem _ (List.mem_cons_of_mem _ List.mem_cons_self))
  have f1 : ∀ p ∈ sto, p.1 ≠ A1 := hA1
  have f2 : ∀ p ∈ sto, p.1 ≠ A2 := fun p hp => hA2 p (List.mem_cons_of_mem _ hp)
  have f3 : ∀ p ∈ sto, p.1 ≠ A3 := fun p hp => hA3 p (List.mem_cons_of_mem _ (List.mem_cons_of_mem _ hp))
  have f4 : ∀ p ∈ sto, p.1 ≠ A4 := fun p hp => hA4 p (List.mem_cons_of_mem _ (List.mem_cons_of_mem _ (List.mem_cons_of_mem _ hp)))
  clear hA1 hA2 hA3 hA4
  refine Tr.less (st' := ⟨[("marks", .ref a), ("row", .ref A1), ("back", .ref A2), ("front", .ref A3), ("end", .ref A4)], (A4, .list []) :: (A3, .list []) :: (A2, .list []) :: (A1, .list []) :: sto⟩) (show Has _ _ by walk_at "has") rfl ?_
  refine TXs.cons (TX.for ?_)
  refine TSrc.range (by walk_at "kg") ?_
  repeat walk_at "m1"
  refine ⟨14, rfl, by decide, fun i st => Has st.loc [("marks", .ref a), ("row", .ref A1), ("back", .ref A2), ("front", .ref A3), ("end", .ref A4)] ∧ Keeps sto st.sto ∧ (A1, .list (((ms.take i).foldl (insR mlt) []).map (mkV fr))) ∈ st.sto ∧
    (A2, .list (((ms.reverse.take i).foldl (insL mlt) []).map (mkV fr))) ∈ st.sto ∧ (A3, .list ((ms.take i).reverse.map (mkV fr))) ∈ st.sto ∧ (A4, .list ((ms.take i).map (mkV fr))) ∈ st.sto, ⟨by walk_at "has", fun p hp => by simp [hp], by walk_at "put", by walk_at "put", by walk_at "put", by walk_at "put"⟩, ?_, ?_⟩
  · rintro i v ⟨l, t⟩ hv ⟨H, K, m1, m2, m3, m4⟩ _
    obtain ⟨hi, rfl⟩ := range_at hv
    have Ka := K _ ha
    obtain ⟨x, hx⟩ : ∃ x, ms[i]? = some x := ⟨_, List.getElem?_eq_getElem (by omega)⟩
    obtain ⟨y, hy⟩ : ∃ y, ms[13 - i]? = some y := ⟨_, List.getElem?_eq_getElem (by omega)⟩
    have hy' : ms.reverse[i]? = some y := by
      rw [List.getElem?_reverse (by omega), hl, show 14 - 1 - i = 13 - i from rfl]; exact hy
    have hxv : (ms.map (mkV fr))[i]? = some (mkV fr x) := by rw [List.getElem?_map, hx]; rfl
    have hyv : (ms.map (mkV fr))[13 - i]? = some (mkV fr y) := by rw [List.getElem?_map, hy]; rfl
    have hx7 := h7 x (List.mem_of_getElem? hx)
    have hy7 := h7 y (List.mem_of_getElem? hy)
    have e1 := foldl_step (insR mlt) hx
    have e2 := foldl_step (insL mlt) hy'
    have e3 : (ms.take (i + 1)) = ms.take i ++ [x] := by rw [List.take_add_one, hx]; rfl
    have b1 : ∀ m ∈ (ms.take i).foldl (insR mlt) [], m.1 ≤ 7 := fun m hm' => by
      rcases foldR_mem hm' with h | h
      · exact h7 m (List.mem_of_mem_take h)
      · cases h
    have b2 : ∀ m ∈ (ms.reverse.take i).foldl (insL mlt) [], m.1 ≤ 7 := fun m hm' => by
      rcases foldL_mem hm' with h | h
      · exact h7 m (List.mem_reverse.mp (List.mem_of_mem_take h))
      · cases h
    have b4 : ∀ m ∈ ms.take i, m.1 ≤ 7 := fun m hm' => h7 m (List.mem_of_mem_take hm')
    have b3 : ∀ m ∈ (ms.take i).reverse, m.1 ≤ 7 := fun m hm' => b4 m (List.mem_reverse.mp hm')
    have l4 : (ms.take i).length = i := by rw [List.length_take]; omega
    have l1 : ((ms.take i).foldl (insR mlt) []).length ≤ 900 := by rw [foldR_length, l4]; simp; omega
    have l2 : ((ms.reverse.take i).foldl (insL mlt) []).length ≤ 900 := by
      rw [foldL_length, List.length_take]; simp; omega
    have hml : (ms.map (mkV fr)).length ≤ 1000 := by rw [List.length_map]; omega
    generalize (ms.take i).foldl (insR mlt) [] = rw' at *
    generalize (ms.reverse.take i).foldl (insL mlt) [] = bk at *
    generalize ms.take i = tk at *
    refine TA.less (st' := ⟨_, t⟩) H rfl ?_
    refine TA.name (by walk_at "sto") ?_
    refine TXs.cons ?_
    repeat walk_at "m1"
    refine TE.callK (f := fIR) (m := 4) (ks := ["key"]) (by walk_at "in") (by walk_at "in") (by walk_at "kg") (by decide) (n_le hn) ?_
    repeat walk_at "m1"
    refine TO2.itemL i rfl Ka hxv hml ?_
    repeat walk_at "m1"
    refine TKs.cons (TE.glob (v := .ref fKey.a) (by walk_at "in") (by walk_at "kg") (TKs.nil ?_))
    refine rowIR hm b1 hx7 m1 l1 ?_
    repeat walk_at "m1"
    refine TE.callK (f := fIL) (m := 4) (ks := ["key"]) (by walk_at "in") (by walk_at "in") (by walk_at "kg") (by decide) (n_le hn) ?_
    repeat walk_at "m1"
    refine TO2.subI ?_
    refine TO2.itemL (13 - i) (by omega) (mem_put_ne Ka (f1 _ ha)) hyv hml ?_
    repeat walk_at "m1"
    refine TKs.cons (TE.glob (v := .ref fKey.a) (by walk_at "in") (by walk_at "kg") (TKs.nil ?_))
    refine rowIL hm b2 hy7 (by walk_at "put") l2 ?_
    repeat walk_at "m1"
    refine ⟨by simp, fun D hD => ?_⟩
    have d1 : A1 ≠ D := hD (A1, .list ((insR mlt rw' x).map (mkV fr))) (mem_put_ne (mem_put m1) n12)
    have d2 : A2 ≠ D := hD (A2, .list ((insL mlt bk y).map (mkV fr))) (mem_put (mem_put_ne m2 (Ne.symm n12)))
    have d3 : A3 ≠ D := hD (A3, _) (mem_put_ne (mem_put_ne m3 (Ne.symm n13)) (Ne.symm n23))
    have d4 : A4 ≠ D := hD (A4, _) (mem_put_ne (mem_put_ne m4 (Ne.symm n14)) (Ne.symm n24))
    have kk : Keeps sto (put (put t A1 (.list ((insR mlt rw' x).map (mkV fr)))) A2 (.list ((insL mlt bk y).map (mkV fr)))) := Keeps.put (Keeps.put K f1) f2
    have hDs : ∀ p ∈ sto, p.1 ≠ D := fun p hp => hD p (kk p hp)
    clear hD
    obtain ⟨w1, w2, w3, w4, w5, w6, w7, w8, w9, w10⟩ := rowMem (X1 := .list ((insR mlt rw' x).map (mkV fr))) (X2 := .list ((insL mlt bk y).map (mkV fr))) (X3 := .list ((x :: tk.reverse).map (mkV fr))) (X4 := .list ((tk ++ [x]).map (mkV fr))) m1 m2 m3 m4 n12 n13 n14 n23 n24 n34 d1 d2 d3 d4
      (.list [.none, .none]) (.list [.none, .none, .none]) (.list [.none, .none, .none, .none])
    repeat walk_at "m1"
    refine TO2.modI (by decide) ?_
    repeat walk_at "m1"
    refine TO2.eqI (kB.it ?_)
    cases hpar : (((i : Int).fmod 2) == 0) with
    | true =>
      walk_at "yes"
      refine TXs.cons (TX.expr ?_ notInter)
      refine TE.append ?_
      walk_at "m1"
      refine kApp.it List.mem_cons_self ?_
      refine TE.callK (f := fIL) (m := 4) (ks := ["key"]) (by walk_at "in") (by walk_at "in") (by walk_at "kg") (by decide) (n_le hn) ?_
      repeat walk_at "m1"
      refine TO2.itemL i rfl (List.mem_cons_of_mem _ (kk _ ha)) hxv hml ?_
      repeat walk_at "m1"
      refine TKs.cons (TE.glob (v := .ref fKey.a) (by walk_at "in") (by walk_at "kg") (TKs.nil ?_))
      refine rowIL0 hm b3 hx7 w5 (by rw [List.length_reverse]; omega) ?_
      refine ⟨[.none, .none], w1, by simp, rfl, ?_⟩
      refine TXs.cons (TX.expr ?_ notInter)
      refine TE.append ?_
      walk_at "m1"
      refine kApp.it w2 ?_
      refine TE.callK (f := fIR) (m := 4) (ks := ["key"]) (by walk_at "in") (by walk_at "in") (by walk_at "kg") (by decide) (n_le hn) ?_
      repeat walk_at "m1"
      refine TO2.itemL i rfl (mem_put_ne (mem_put_ne (List.mem_cons_of_mem _ (kk _ ha)) (f3 _ ha)) (hDs _ ha)) hxv hml ?_
      repeat walk_at "m1"
      refine TKs.cons (TE.glob (v := .ref fKey.a) (by walk_at "in") (by walk_at "kg") (TKs.nil ?_))
      refine rowIRe hm b4 hx7 w4 (by omega) l4.symm ?_
      refine ⟨[.none, .none, .none], w3, by simp, rfl, ?_⟩
      refine TXs.nil (TXs.cons ?_)
      walk_at "m1"
      repeat walk_at "m1"
      refine ⟨by simp, fun D2 hD2 => ?_⟩
      repeat walk_at "m1"
      refine TO2.mulL 4 rfl List.mem_cons_self (by simp) (by decide) fun D3 hD3 => ?_
      refine TO2.neL (vs := [.none, .none, .none, .none]) (ws := [.none, .none, .none, .none]) (List.mem_cons_of_mem _ (List.mem_cons_of_mem _ w6)) List.mem_cons_self (EqSs.of (by rfl) (by simp [deep])) (kB.it ?_)
      walk_at "no"
      have kk2 : Keeps sto (put (put (put (put ((D, Cell.list [.none, .none]) :: put (put t A1 (.list ((insR mlt rw' x).map (mkV fr)))) A2 (.list ((insL mlt bk y).map (mkV fr)))) A3 (.list ((x :: tk.reverse).map (mkV fr)))) D (.list ([.none, .none] ++ [.none]))) A4 (.list ((tk ++ [x]).map (mkV fr)))) D (.list ([.none, .none, .none] ++ [.none]))) :=
        Keeps.put (Keeps.put (Keeps.put (Keeps.put (Keeps.trans kk Keeps.cons) f3) hDs) f4) hDs
      refine TXs.nil (TXs.nil ⟨⟨by walk_at "has", Keeps.trans kk2 (Keeps.trans Keeps.cons Keeps.cons), ?_, ?_, ?_, ?_⟩, trivial⟩)
      · rw [e1]; exact List.mem_cons_of_mem _ (List.mem_cons_of_mem _ w7)
      · rw [e2]; exact List.mem_cons_of_mem _ (List.mem_cons_of_mem _ w8)
      · rw [e3, List.reverse_append]; exact List.mem_cons_of_mem _ (List.mem_cons_of_mem _ w9)
      · rw [e3]; exact List.mem_cons_of_mem _ (List.mem_cons_of_mem _ w10)
    | false =>
      walk_at "no"
      refine TXs.cons (TX.expr ?_ notInter)
      refine TE.append ?_
      walk_at "m1"
      refine kApp.it List.mem_cons_self ?_
      refine TE.callK (f := fIR) (m := 4) (ks := ["key"]) (by walk_at "in") (by walk_at "in") (by walk_at "kg") (by decide) (n_le hn) ?_
      repeat walk_at "m1"
      refine TO2.itemL i rfl (List.mem_cons_of_mem _ (kk _ ha)) hxv hml ?_
      repeat walk_at "m1"
      refine TKs.cons (TE.glob (v := .ref fKey.a) (by walk_at "in") (by walk_at "kg") (TKs.nil ?_))
      refine rowIR0 hm b3 hx7 w5 (by rw [List.length_reverse]; omega) ?_
      refine ⟨[.none, .none], w1, by simp, rfl, ?_⟩
      refine TXs.cons (TX.expr ?_ notInter)
      refine TE.append ?_
      walk_at "m1"
      refine kApp.it w2 ?_
      refine TE.callK (f := fIL) (m := 4) (ks := ["key"]) (by walk_at "in") (by walk_at "in") (by walk_at "kg") (by decide) (n_le hn) ?_
      repeat walk_at "m1"
      refine TO2.itemL i rfl (mem_put_ne (mem_put_ne (List.mem_cons_of_mem _ (kk _ ha)) (f3 _ ha)) (hDs _ ha)) hxv hml ?_
      repeat walk_at "m1"
      refine TKs.cons (TE.glob (v := .ref fKey.a) (by walk_at "in") (by walk_at "kg") (TKs.nil ?_))
      refine rowILe hm b4 hx7 w4 (by omega) l4.symm ?_
      refine ⟨[.none, .none, .none], w3, by simp, rfl, ?_⟩
      refine TXs.nil (TXs.cons ?_)
      walk_at "m1"
      repeat walk_at "m1"
      refine ⟨by simp, fun D2 hD2 => ?_⟩
      repeat walk_at "m1"
      refine TO2.mulL 4 rfl List.mem_cons_self (by simp) (by decide) fun D3 hD3 => ?_
      refine TO2.neL (vs := [.none, .none, .none, .none]) (ws := [.none, .none, .none, .none]) (List.mem_cons_of_mem _ (List.mem_cons_of_mem _ w6)) List.mem_cons_self (EqSs.of (by rfl) (by simp [deep])) (kB.it ?_)
      walk_at "no"
      have kk2 : Keeps sto (put (put (put (put ((D, Cell.list [.none, .none]) :: put (put t A1 (.list ((insR mlt rw' x).map (mkV fr)))) A2 (.list ((insL mlt bk y).map (mkV fr)))) A3 (.list ((x :: tk.reverse).map (mkV fr)))) D (.list ([.none, .none] ++ [.none]))) A4 (.list ((tk ++ [x]).map (mkV fr)))) D (.list ([.none, .none, .none] ++ [.none]))) :=
        Keeps.put (Keeps.put (Keeps.put (Keeps.put (Keeps.trans kk Keeps.cons) f3) hDs) f4) hDs
      refine TXs.nil (TXs.nil ⟨⟨by walk_at "has", Keeps.trans kk2 (Keeps.trans Keeps.cons Keeps.cons), ?_, ?_, ?_, ?_⟩, trivial⟩)
      · rw [e1]; exact List.mem_cons_of_mem _ (List.mem_cons_of_mem _ w7)
      · rw [e2]; exact List.mem_cons_of_mem _ (List.mem_cons_of_mem _ w8)
      · rw [e3, List.reverse_append]; exact List.mem_cons_of_mem _ (List.mem_cons_of_mem _ w9)
      · rw [e3]; exact List.mem_cons_of_mem _ (List.mem_cons_of_mem _ w10)
  · rintro ⟨l, t⟩ ⟨H, K, m1, m2, m3, m4⟩ _
    refine Tr.less (st' := ⟨_, t⟩) H rfl ?_
    have hra : (List.map (fun (i : Nat) => V.int (i : Int)) (List.range 14)).length = 14 := by simp
    rw [hra] at m1 m2 m3 m4
    have t14 : ms.take 14 = ms := List.take_of_length_le (by omega)
    have t14' : ms.reverse.take 14 = ms.reverse := List.take_of_length_le (by simp; omega)
    rw [t14] at m1 m3 m4
    rw [t14'] at m2
    have m1 : (A1, Cell.list ((rowF ms).map (mkV fr))) ∈ t := m1
    have m2 : (A2, Cell.list ((backF ms).map (mkV fr))) ∈ t := m2
    have Ka : (a, Cell.list (ms.map (mkV fr))) ∈ t := K _ ha
    refine TXs.nil (TXs.cons (TX.ret (TE.ite ?_)))
    repeat walk_at "m1"
    refine ⟨by simp, fun D1 hD1 => ?_⟩
    repeat walk_at "m1"
    refine TE.un ?_
    repeat walk_at "m1"
    refine TO1.negI ⟨_, rfl, by decide, a, _, rfl, List.mem_cons_of_mem _ Ka, by rw [List.length_map]; omega, fun D2 hD2 => ?_⟩
    rw [vpick_rev (by rw [List.length_map, hl])]
    have k3 : A3 ≠ D2 := hD2 (A3, _) (List.mem_cons_of_mem _ m3)
    repeat walk_at "m1"
    refine ⟨by simp, fun D3 hD3 => ?_⟩
    refine TO2.eqL (vs := [.ref A1, .ref A3, .ref A4]) (ws := [.ref A2, .ref D2, .ref a]) (List.mem_cons_of_mem _ (List.mem_cons_of_mem _ List.mem_cons_self)) List.mem_cons_self (k := true && (true && (true && true))) ?_ (kB.it ?_)
    · refine .cons (.l (List.mem_cons_of_mem _ (List.mem_cons_of_mem _ (List.mem_cons_of_mem _ m1))) (List.mem_cons_of_mem _ (List.mem_cons_of_mem _ (List.mem_cons_of_mem _ m2))) n12 ?_ (deeps_mk _)) (.cons (.l (vs := ms.reverse.map (mkV fr)) (List.mem_cons_of_mem _ (List.mem_cons_of_mem _ (List.mem_cons_of_mem _ m3))) (List.mem_cons_of_mem _ List.mem_cons_self) k3 ?_ (deeps_mk _)) (.cons (.l (List.mem_cons_of_mem _ (List.mem_cons_of_mem _ (List.mem_cons_of_mem _ m4))) (List.mem_cons_of_mem _ (List.mem_cons_of_mem _ (List.mem_cons_of_mem _ Ka))) (Ne.symm (f4 _ ha)) (eqvs_mk _) (deeps_mk _)) .nil))
      · rw [hrb]; exact eqvs_mk _
      · rw [← List.map_reverse]; exact eqvs_mk _
    walk_at "yes"
    repeat walk_at "m1"
    exact q A1 _ f1 (Keeps.trans K (Keeps.trans Keeps.cons (Keeps.trans Keeps.cons Keeps.cons))) (List.mem_cons_of_mem _ (List.mem_cons_of_mem _ (List.mem_cons_of_mem _ m1)))
end
end
section -- P39
section
variable {g : G}
theorem TX.try {C : Fm g} {st : St} {Q : F → St → Prop} {body orelse : List Stmt} {h0 : ExceptHandler} {hs : List ExceptHandler} {pos : Pos} (h : TXs g C body (fun f st1 => match f with | .next => TXs g C orelse Q st1 | f => Q f st1) st) : TX g C (.Try body (h0 :: hs) orelse [] pos) Q st := fun s gs =>
  wpAny_Try_except (h.on gs fun f st1 a s1 q rf g1 x1 => by
    cases rf with
    | next => exact wpAny_mono ((show TXs g C orelse Q st1 from q) s1 g1) (fun _ _ p => Po.trans x1 p) noE.any
    | brk => exact ⟨_, st1, RF.brk, g1, x1, q⟩
    | cont => exact ⟨_, st1, RF.cont, g1, x1, q⟩
    | ret r => exact ⟨_, st1, RF.ret r, g1, x1, q⟩)
noncomputable def ov : Option Str → V
  | none => .none
  | some s => .str s
noncomputable def nameF (l e : Option Str) : Str := match e with
  | none => l.getD "C"
  | some e => l.getD "C" ++ "." ++ e
theorem isNo_ov (o : Option Str) : isNo (ov o) = o.isNone := by cases o <;> rfl
theorem cBN {l e : Option Str} (hl : ∀ x, l = some x → x.length ≤ 1000) (he : ∀ x, e = some x → x.length ≤ 1000) {sto : Sto} {Q : V → Sto → Prop} (q : Q (.str (nameF l e)) sto) : TC g 1 (.ref fBN.a) [.tup [ov l, ov e]] [] [] Q sto := by
  refine TC.def (ns := ["localetuple"]) (fn_of (by walk_at "in")) (by decide) rfl (plain_1 fun fd v => rfl) rfl (by decide) (by decide) (by decide) (by decide) rfl rfl rfl fun C E hn => ?_
  show TXs g C _ _ ⟨[("localetuple", .tup [ov l, ov e])], sto⟩
  refine TXs.cons (TX.try ?_)
  refine TXs.cons (TX.assignT ?_ rfl rfl)
  walk_at "m1"
  refine TA.tup2 (by walk_at "sto") (by walk_at "sto") ?_
  refine TXs.cons ?_
  repeat walk_at "m1"
  refine TO2.is' (kB.it ?_)
  rw [isNo_ov]
  have c1 : Str.length "." = 1 := rfl
  have c2 : Str.length "C" = 1 := rfl
  cases l with
  | none =>
    walk_at "yes"
    repeat walk_at "m1"
    refine TO2.is' (kB.it ?_)
    rw [isNo_ov]
    cases e with
    | none =>
      walk_at "yes"
      repeat walk_at "m1"
      exact q
    | some x =>
      have := he x rfl
      walk_at "no"
      repeat walk_at "m1"
      refine TO2.addS (by omega) ?_
      repeat walk_at "m1"
      refine TO2.addS (by rw [Str.length_append]; omega) ?_
      exact q
  | some y =>
    have := hl y rfl
    walk_at "no"
    repeat walk_at "m1"
    refine TO2.is' (kB.it ?_)
    rw [isNo_ov]
    cases e with
    | none =>
      walk_at "yes"
      repeat walk_at "m1"
      exact q
    | some x =>
      have := he x rfl
      walk_at "no"
      repeat walk_at "m1"
      refine TO2.addS (by omega) ?_
      repeat walk_at "m1"
      refine TO2.addS (by rw [Str.length_append]; omega) ?_
      exact q
end
end
section -- P40
section
variable {g : G}
noncomputable def slt (a b : Str) : Bool := decide (a.cps.toList < b.cps.toList)
theorem slt_ltv (a b : Str) : ltv (.str a) (.str b) = some (slt a b) := rfl
noncomputable def letters : Str := "ABCabcd"
noncomputable def letterAt (i : Nat) : Str := ⟨#[letters.cps.getD i 0]⟩
noncomputable def nameAt (names : List (Option Str)) (goes comes : List Nat) (i : Nat) : Str := nameF ((names[bisR comes (goes.getD i 0)]?).getD none) (some (letterAt i))
noncomputable def namedF (goes comes : List Nat) : Nat → List (Option Str) × List Str
  | 0 => ([none], [])
  | i + 1 => let r := namedF goes comes i; let nm := nameAt r.1 goes comes i; (r.1 ++ [some nm], if i % 2 = 0 then insL slt r.2 nm else insR slt r.2 nm)
structure NamedOk (goes comes : List Nat) : Prop where
  bis : ∀ i, i < 7 → bisR comes (goes.getD i 0) ≤ i
  ord : ∀ p, p < 6 → ∃ a b, (namedF goes comes 7).2[p]? = some a ∧ (namedF goes comes 7).2[p + 1]? = some b ∧ slt a b = true ∧ slt b a = false
theorem nameF_length {l : Option Str} {x : Str} {n : Nat} (hl : ∀ y, l = some y → y.length ≤ n) (h1 : 1 ≤ n) (hx : x.length = 1) : (nameF l (some x)).length ≤ n + 2 := by
  unfold nameF
  simp only [Str.length_append]
  have c1 : Str.length "." = 1 := rfl
  cases l with
  | none => have : ((none : Option Str).getD "C").length = 1 := rfl
            omega
  | some y => have := hl y rfl
              simp only [Option.getD_some]; omega
theorem namedF_ok {goes comes : List Nat} : ∀ i, (namedF goes comes i).1.length = i + 1 ∧ (namedF goes comes i).2.length = i ∧ (∀ x, some x ∈ (namedF goes comes i).1 → x.length ≤ 2 * i + 1) ∧ ∀ x ∈ (namedF goes comes i).2, x.length ≤ 2 * i + 1
  | 0 => ⟨rfl, rfl, by simp [namedF], by simp [namedF]⟩
  | i + 1 => by
    obtain ⟨h1, h2, h3, h4⟩ := namedF_ok (goes := goes) (comes := comes) i
    have hn : (nameAt (namedF goes comes i).1 goes comes i).length ≤ 2 * i + 1 + 2 := nameF_length (fun y hy => by
      cases hq : (namedF goes comes i).1[bisR comes (goes.getD i 0)]? with
      | none => rw [hq] at hy; cases hy
      | some o => rw [hq] at hy; simp only [Option.getD_some] at hy; subst hy; exact h3 y (List.mem_of_getElem? hq)) (by omega) rfl
    refine ⟨by simp [namedF, h1], ?_, ?_, ?_⟩
    · simp only [namedF]; split
      · rw [insL_length, h2]
      · rw [insR_length, h2]
    · intro x hx
      simp only [namedF] at hx
      rcases List.mem_append.mp hx with hx | hx
      · have := h3 x hx; omega
      · simp at hx; subst hx; omega
    · intro x hx
      simp only [namedF] at hx
      split at hx
      · rcases insL_mem hx with hx | hx
        · have := h4 x hx; omega
        · subst hx; omega
      · rcases insR_mem hx with hx | hx
        · have := h4 x hx; omega
        · subst hx; omega
theorem ite_join {C : Fm g} {st : St} {e1 e2 : Expr} {Q : V → St → Prop} {v : V} {b : Bool} (h1 : b = true → ∀ P : V → St → Prop, P v st → TE g C e1 P st) (h2 : b = false → ∀ P : V → St → Prop, P v st → TE g C e2 P st) (q : Q v st) : if b = true then TE g C e1 Q st else TE g C e2 Q st := by
  cases b with
  | true => rw [if_pos rfl]; exact h1 rfl Q q
  | false => rw [if_neg (by decide)]; exact h2 rfl Q q
theorem cNamed {a b : Addr} {goes comes : List Nat} {sto : Sto} (hg : goes.length = 7) (hc : comes.length = 7) (ok : NamedOk goes comes) (ha : (a, .list (goes.map iv)) ∈ sto) (hb : (b, .list (comes.map iv)) ∈ sto) {Q : V → Sto → Prop}
    (q : ∀ D sto', (∀ p ∈ sto, p.1 ≠ D) → Keeps sto sto' → (D, .list ((namedF goes comes 7).2.map fun n => V.int ((n.length : Int).fdiv 2 - 1))) ∈ sto' → Q (.ref D) sto') : TC g 5 (.ref fNamed.a) [.ref a, .ref b] [] [] Q sto := by
  refine TC.def (ns := ["goes", "comes"]) (fn_of (by walk_at "in")) (by decide) rfl (plain_2 fun fd v w => rfl) rfl (by decide) (by decide) (by decide) (by decide) rfl rfl rfl fun C E hn => ?_
  show TXs g C _ _ ⟨[("goes", .ref a), ("comes", .ref b)], sto⟩
  refine TXs.cons ?_
  repeat walk_at "m1"
  refine ⟨by simp, fun A1 hA1 => ?_⟩
  repeat walk_at "m1"
  refine ⟨by simp, fun A2 hA2 => ?_⟩
  repeat walk_at "m1"
  have n12 : A1 ≠ A2 := hA2 (A1, _) List.mem_cons_self
  have f1 : ∀ p ∈ sto, p.1 ≠ A1 := hA1
  have f2 : ∀ p ∈ sto, p.1 ≠ A2 := fun p hp => hA2 p (List.mem_cons_of_mem _ hp)
  clear hA1 hA2
  refine Tr.less (st' := ⟨[("goes", .ref a), ("comes", .ref b), ("names", .ref A1), ("order", .ref A2)], (A2, .list []) :: (A1, .list [.none]) :: sto⟩) (show Has _ _ by walk_at "has") rfl ?_
  refine TX.for ?_
  refine TSrc.range (by walk_at "kg") ?_
  repeat walk_at "m1"
  refine ⟨7, rfl, by decide, fun i st => Has st.loc [("goes", .ref a), ("comes", .ref b), ("names", .ref A1), ("order", .ref A2)] ∧ Keeps sto st.sto ∧ (A1, .list ((namedF goes comes i).1.map ov)) ∈ st.sto ∧ (A2, .list ((namedF goes comes i).2.map V.str)) ∈ st.sto,
    ⟨by walk_at "has", fun p hp => by simp [hp], by walk_at "put", by walk_at "put"⟩, ?_, ?_⟩
  · rintro i v ⟨l, t⟩ hv ⟨H, K, m1, m2⟩ _
    obtain ⟨hi, rfl⟩ := range_at hv
    obtain ⟨k1, k2, k3, k4⟩ := namedF_ok (goes := goes) (comes := comes) i
    have hbis := ok.bis i hi
    have hgv : (goes.map iv)[i]? = some (iv (goes.getD i 0)) := by
      rw [List.getElem?_map]
      have : i < goes.length := by omega
      simp [List.getElem?_eq_getElem this]
    obtain ⟨o, ho⟩ : ∃ o, (namedF goes comes i).1[bisR comes (goes.getD i 0)]? = some o := ⟨_, List.getElem?_eq_getElem (by omega)⟩
    have hov : ((namedF goes comes i).1.map ov)[bisR comes (goes.getD i 0)]? = some (ov o) := by rw [List.getElem?_map, ho]; rfl
    have hol : ∀ y, o = some y → y.length ≤ 2 * i + 1 := fun y hy => k3 y (hy ▸ List.mem_of_getElem? ho)
    have hnm : nameAt (namedF goes comes i).1 goes comes i = nameF o (some (letterAt i)) := by unfold nameAt; rw [ho]; rfl
    have hlc : letters.cps[i]? = some (letters.cps.getD i 0) := by
      have : i < letters.cps.size := hi
      simp [Array.getElem?_eq_getElem this]
    have hnl : (nameF o (some (letterAt i))).length ≤ 2 * i + 3 := nameF_length hol (by omega) rfl
    have estep : namedF goes comes (i + 1) = ((namedF goes comes i).1 ++ [some (nameF o (some (letterAt i)))], if i % 2 = 0 then insL slt (namedF goes comes i).2 (nameF o (some (letterAt i))) else insR slt (namedF goes comes i).2 (nameF o (some (letterAt i)))) := by
      rw [namedF, hnm]
    have hkl : (goes.map iv).length ≤ 1000 := by rw [List.length_map]; omega
    have hnl1 : ((namedF goes comes i).1.map ov).length ≤ 900 := by rw [List.length_map]; omega
    have hnl2 : (namedF goes comes i).2.length ≤ 900 := by omega
    have Ka := K _ ha
    have Kb := K _ hb
    have c1 : Str.length "." = 1 := rfl
    have c2 : Str.length "C" = 1 := rfl
    have c3 : (letterAt i).length = 1 := rfl
    have c4 : (⟨#[letters.cps.getD i 0]⟩ : Str).length = 1 := rfl
    clear hnm k3 k4 ho
    generalize hnm : nameF o (some (letterAt i)) = nm at *
    generalize (namedF goes comes i).1 = ns at *
    generalize (namedF goes comes i).2 = od at *
    refine TA.less (st' := ⟨_, t⟩) H rfl ?_
    refine TA.name (by walk_at "sto") ?_
    refine TXs.cons ?_
    repeat walk_at "m1"
    refine TO2.itemS i rfl (by decide) hlc ?_
    repeat walk_at "m1"
    refine TE.callP (f := fBR) (m := 1) (by walk_at "in") (by walk_at "in") (by walk_at "kg") (by decide) (n_le hn) ?_
    repeat walk_at "m1"
    refine TO2.itemL i rfl Ka hgv hkl ?_
    repeat walk_at "m1"
    refine cBRi Kb (by omega) ?_
    refine TO2.itemL _ rfl m1 hov (by omega) ?_
    walk_at "m1"
    walk_at "m1"
    walk_at "m1"
    walk_at "m1"
    refine TE.ite ?_
    repeat walk_at "m1"
    refine TO2.is' (kB.it ?_)
    rw [isNo_ov]
    refine ite_join (v := .str (o.getD "C")) (fun hb P qq => ?_) (fun hb P qq => ?_) ?_
    · cases o with
      | none => exact TE.str qq
      | some y => cases hb
    · cases o with
      | none => cases hb
      | some y => repeat walk_at "m1"
                  exact qq
    have hoL : (o.getD "C").length ≤ 100 := by
      cases o with
      | none => decide
      | some y => have := hol y rfl
                  simp only [Option.getD_some]; omega
    repeat walk_at "m1"
    refine TO2.addS (by omega) ?_
    repeat walk_at "m1"
    refine TO2.addS (by rw [Str.length_append]; omega) ?_
    rw [show o.getD "C" ++ "." ++ (⟨#[letters.cps.getD i 0]⟩ : Str) = nm from hnm]
    refine TXs.cons ?_
    walk_at "m1"
    walk_at "m1"
    walk_at "m1"
    walk_at "m1"
    refine TE.callP (f := fBN) (m := 1) (by walk_at "in") (by walk_at "in") (by walk_at "kg") (by decide) (n_le hn) ?_
    repeat walk_at "m1"
    refine ⟨by simp, ?_⟩
    repeat walk_at "m1"
    refine cBN (l := o) (e := some (letterAt i)) (fun x hx => by have := hol x hx; omega) (fun x hx => by cases hx; omega) ?_
    rw [hnm]
    repeat walk_at "m1"
    refine TE.callP (f := fBN) (m := 1) (by walk_at "in") (by walk_at "in") (by walk_at "kg") (by decide) (n_le hn) ?_
    repeat walk_at "m1"
    refine ⟨by simp, ?_⟩
    repeat walk_at "m1"
    refine cBN (l := some nm) (e := none) (fun x hx => by cases hx; omega) nofun ?_
    rw [show nameF (some nm) none = nm from rfl]
    repeat walk_at "m1"
    refine ⟨by simp, fun D1 hD1 => ?_⟩
    repeat walk_at "m1"
    refine ⟨by simp, fun D2 hD2 => ?_⟩
    refine TO2.neL (vs := [.str nm, .str nm]) (ws := [.str nm, .str nm]) (List.mem_cons_of_mem _ List.mem_cons_self) List.mem_cons_self (EqSs.of (k := true) (eqvs_both (eqv_ss _) (eqvs_both (eqv_ss _) eqvs_nil)) (by simp [deep])) (kB.it ?_)
    walk_at "no"
    have d1 : A1 ≠ D1 := hD1 (A1, _) m1
    have d2 : A2 ≠ D1 := hD1 (A2, _) m2
    have d3 : A1 ≠ D2 := hD2 (A1, _) (List.mem_cons_of_mem _ m1)
    have d4 : A2 ≠ D2 := hD2 (A2, _) (List.mem_cons_of_mem _ m2)
    refine TXs.nil (TXs.cons (TX.expr ?_ notInter))
    refine TE.append ?_
    walk_at "m1"
    refine kApp.it (List.mem_cons_of_mem _ (List.mem_cons_of_mem _ m1)) ?_
    repeat walk_at "m1"
    refine ⟨_, List.mem_cons_of_mem _ (List.mem_cons_of_mem _ m1), by omega, rfl, ?_⟩
    have m2' : (A2, Cell.list (od.map V.str)) ∈ put ((D2, Cell.list [.str nm, .str nm]) :: (D1, Cell.list [.str nm, .str nm]) :: t) A1 (.list (ns.map ov ++ [.str nm])) := mem_put_ne (List.mem_cons_of_mem _ (List.mem_cons_of_mem _ m2)) (Ne.symm n12)
    have m1' : (A1, Cell.list ((ns ++ [some nm]).map ov)) ∈ put ((D2, Cell.list [.str nm, .str nm]) :: (D1, Cell.list [.str nm, .str nm]) :: t) A1 (.list (ns.map ov ++ [.str nm])) := by
      rw [List.map_append]; exact mem_put (List.mem_cons_of_mem _ (List.mem_cons_of_mem _ m1))
    have K' : Keeps sto (put ((D2, Cell.list [.str nm, .str nm]) :: (D1, Cell.list [.str nm, .str nm]) :: t) A1 (.list (ns.map ov ++ [.str nm]))) := Keeps.put (Keeps.trans K (Keeps.trans Keeps.cons Keeps.cons)) f1
    refine TXs.cons ?_
    repeat walk_at "m1"
    refine TO2.modI (by decide) ?_
    repeat walk_at "m1"
    refine TO2.eqI (kB.it ?_)
    have hpar : (((i : Int).fmod 2) == 0) = decide (i % 2 = 0) := by
      rw [Int.fmod_eq_emod_of_nonneg _ (by decide), Bool.eq_iff_iff, beq_iff_eq, decide_eq_true_eq]
      omega
    rw [hpar]
    by_cases hp : i % 2 = 0
    · rw [decide_eq_true hp]
      rw [if_pos hp] at estep
      walk_at "yes"
      refine TXs.cons (TX.expr ?_ notInter)
      refine TE.callK (f := fIL) (m := 4) (ks := ["key"]) (by walk_at "in") (by walk_at "in") (by walk_at "kg") (by decide) (n_le hn) ?_
      repeat walk_at "m1"
      refine TKs.cons (TE.glob (v := .ref fXf.a) (by walk_at "in") (by walk_at "kg") (TKs.nil ?_))
      refine cILgk (kf := fXf) (e := V.str) (κ := V.str) (lt := slt) (lo := 0) (h := od.length) (by walk_at "in") (by decide) bIL2k (.inl ⟨rfl, rfl⟩) (Nat.zero_le _) (fun u w _ _ => slt_ltv u w) (fun u _ _ _ qq => (cXf qq).up (by decide)) m2' hnl2 ⟨rfl, ?_⟩
      refine TXs.nil (TXs.nil ⟨⟨by walk_at "has", Keeps.put K' f2, ?_, ?_⟩, trivial⟩)
      · rw [estep]; exact mem_put_ne m1' n12
      · rw [estep]; exact mem_put m2'
    · rw [decide_eq_false hp]
      rw [if_neg hp] at estep
      walk_at "no"
      refine TXs.cons (TX.expr ?_ notInter)
      refine TE.callP (f := fIR) (m := 2) (by walk_at "in") (by walk_at "in") (by walk_at "kg") (by decide) (n_le hn) ?_
      repeat walk_at "m1"
      refine cIRg (e := V.str) (lt := slt) slt_ltv m2' hnl2 ⟨rfl, ?_⟩
      refine TXs.nil (TXs.nil ⟨⟨by walk_at "has", Keeps.put K' f2, ?_, ?_⟩, trivial⟩)
      · rw [estep]; exact mem_put_ne m1' n12
      · rw [estep]; exact mem_put m2'
  · rintro ⟨l, t⟩ ⟨H, K, m1, m2⟩ _
    have hra : (List.map (fun (i : Nat) => V.int (i : Int)) (List.range 7)).length = 7 := by simp
    rw [hra] at m1 m2
    obtain ⟨k1, k2, k3, k4⟩ := namedF_ok (goes := goes) (comes := comes) 7
    have hord := ok.ord
    generalize (namedF goes comes 7).2 = od at *
    refine Tr.less (st' := ⟨[("order", .ref A2)], t⟩) (fun p hp => H p (by rw [List.mem_singleton] at hp; subst hp; exact List.mem_cons_of_mem _ (List.mem_cons_of_mem _ (List.mem_cons_of_mem _ List.mem_cons_self)))) rfl ?_
    refine TXs.nil (TXs.cons (TX.for ?_))
    refine TSrc.range (by walk_at "kg") ?_
    repeat walk_at "m1"
    refine ⟨6, rfl, by decide, fun i st => Has st.loc [("order", .ref A2)] ∧ Keeps t st.sto, ⟨by walk_at "has", Keeps.refl _⟩, ?_, ?_⟩
    · rintro i v ⟨l2, t2⟩ hv ⟨H2, K2⟩ _
      obtain ⟨hi, rfl⟩ := range_at hv
      obtain ⟨x, y, hx, hy, h1, h2⟩ := hord i hi
      have hxv : (od.map V.str)[i]? = some (.str x) := by rw [List.getElem?_map, hx]; rfl
      have hyv : (od.map V.str)[i + 1]? = some (.str y) := by rw [List.getElem?_map, hy]; rfl
      have hol : (od.map V.str).length ≤ 1000 := by rw [List.length_map]; omega
      have M2 := K2 _ m2
      have s1 := of_decide_eq_true h1
      have s2 := of_decide_eq_false h2
      refine TA.less (st' := ⟨_, t2⟩) H2 rfl ?_
      refine TA.name (by walk_at "sto") ?_
      refine TXs.cons ?_
      walk_at "m1"
      walk_at "m1"
      walk_at "m1"
      walk_at "m1"
      refine TE.callP (f := fCo) (m := 1) (by walk_at "in") (by walk_at "in") (by walk_at "kg") (by decide) (n_le hn) ?_
      repeat walk_at "m1"
      refine TO2.itemL i rfl M2 hxv hol ?_
      repeat walk_at "m1"
      refine TO2.addI ?_
      refine TO2.itemL (i + 1) (by omega) M2 hyv hol ?_
      repeat walk_at "m1"
      refine cCo ?_
      rw [if_neg s2, if_pos s1]
      repeat walk_at "m1"
      refine TE.callP (f := fCo) (m := 1) (by walk_at "in") (by walk_at "in") (by walk_at "kg") (by decide) (n_le hn) ?_
      repeat walk_at "m1"
      refine TO2.addI ?_
      refine TO2.itemL (i + 1) (by omega) M2 hyv hol ?_
      repeat walk_at "m1"
      refine TO2.itemL i rfl M2 hxv hol ?_
      repeat walk_at "m1"
      refine cCo ?_
      rw [if_neg s2, if_pos s1]
      repeat walk_at "m1"
      refine ⟨by simp, fun D1 hD1 => ?_⟩
      repeat walk_at "m1"
      refine TE.un ?_
      repeat walk_at "m1"
      refine TO1.negI ?_
      repeat walk_at "m1"
      refine ⟨by simp, fun D2 hD2 => ?_⟩
      refine TO2.neL (vs := [.int (-1), .int 1]) (ws := [.int (-1), .int 1]) (List.mem_cons_of_mem _ List.mem_cons_self) List.mem_cons_self (EqSs.of (k := true) (by decide) (by simp [deep])) (kB.it ?_)
      walk_at "no"
      exact TXs.nil (TXs.nil ⟨⟨by walk_at "has", Keeps.trans K2 (Keeps.trans Keeps.cons Keeps.cons)⟩, trivial⟩)
    · rintro ⟨l2, t2⟩ ⟨H2, K2⟩ _
      refine Tr.less (st' := ⟨_, t2⟩) H2 rfl ?_
      refine TXs.nil (TXs.cons (TX.ret ?_))
      refine TE.comp1 (noFree (by decide)) ?_ rfl (by decide) (by decide) (fun _ => rfl)
      refine TSrc.list ?_
      repeat walk_at "m1"
      refine kSrcL.it (K2 _ m2) (Comp1.it (by rw [List.length_map]; omega) ([]) (fun v => some (match v with | .str n => .int ((n.length : Int).fdiv 2 - 1) | _ => .none)) nofun ?_ ?_)
      · intro C' cof v hv loc t4 H4 K4
        obtain ⟨n, hn', rfl⟩ := List.mem_map.mp hv
        have hnl := k4 n hn'
        refine TA.name (by walk_at "sto") (TTs.nil ?_)
        walk_at "yes"
        walk_at "m1"
        walk_at "m1"
        refine TE.callB (bid := "len") (by walk_at "in") (by walk_at "kg") ?_
        repeat walk_at "m1"
        refine TOL.one (TO1.lenS (by omega) ?_)
        repeat walk_at "m1"
        refine TO2.divI (by decide) ?_
        repeat walk_at "m1"
        refine TO2.subI ⟨rfl, nofun, Keeps.refl _⟩
      · intro D t5 hD K5 hm5
        rw [filterMap_some] at hm5
        exact q D t5 (fun p hp => hD p (K2 p (K p hp))) (Keeps.trans K (Keeps.trans K2 K5)) hm5
end
end
section -- P41
section
variable {g : G} {C : Fm g} {st : St} {s s' : Shared} {Q : V → St → Prop}
/-- the class, as it lies there -/
theorem classK (b : Base g.H s.heap) : ∃ oC oN, W.Frag.In [(137, oC), (136, oN)] s.heap ∧ AccK [(137, oC), (136, oN)] := by
  obtain ⟨oC, oN, h1, h2, k⟩ := g.top.acc
  exact ⟨oC, oN, in2 (b.keep _ _ h1 (by decide)) (b.keep _ _ h2 (by decide)), k⟩
theorem accLook (b : Base g.H s.heap) {n : Str} {r : Option Value} (h : (n, r) ∈ accRows) (M : Model) : W.Looks M s.heap (typeLookup (.ref 137) n) r := by
  obtain ⟨oC, oN, X, k⟩ := classK b
  exact W.looks_findIn X (k.rows _ h)
/-- a pile as it lies there -/
theorem pileAt {sto : Sto} (gs : GoodS g sto s) {a : Addr} {w : V} {vs : List V} (hm : (a, .acc w vs) ∈ sto) : ∃ items n d sl x, s.heap.get? a = some { cls := .ref clsA, dict := some d, data := .seq items n, slots := sl } ∧ VRs s.heap vs items.toList ∧
    g.H.objs.size ≤ d ∧ VR s.heap w x ∧ s.heap.Ns d (only x) := gs.cells _ hm
theorem pileSpecial {A : Around} {E : Value → Shared → Prop} {sto : Sto} (gs : GoodS g sto s) {a : Addr} {w : V} {vs : List V} (hm : (a, .acc w vs) ∈ sto) {n : Str} {r : Option Value} (h : (n, r) ∈ accRows) {P : Option Value → Shared → Prop} (q : P r s) :
    wpAny g.M A (specialOf (.ref a) n) P E s := by
  obtain ⟨items, k, d, sl, x, ho, _⟩ := pileAt gs hm
  unfold specialOf
  refine wpAny_bind ?_
  have : wpAny g.M A (typeOf (.ref a)) (fun t s' => t = .ref 137 ∧ s' = s) E s := by
    refine wpAny_mono (Q := fun t s' => t = .ref 137 ∧ s' = s) (W.Looks.here (r := .ref 137) ?_ ⟨rfl, rfl⟩) (fun _ _ h => h) fun _ _ e => e
    exact (W.Looks.ld ho).andThen .now
  refine wpAny_mono this (fun t s' ⟨e1, e2⟩ => ?_) fun _ _ e => e
  subst e1 e2
  exact (accLook gs.base h _).here q
theorem getMethod_pile {A : Around} {E : Value → Shared → Prop} {sto : Sto} (gs : GoodS g sto s) {a : Addr} {w : V} {vs : List V} (hm : (a, .acc w vs) ∈ sto) {n : Str} {f tf : Value} (h : (n, some f) ∈ accRows) (hn : n ≠ "_initial_size")
    (ht : W.Looks g.M s.heap (typeOf f) tf) (htf : (tf != .type "function" && tf != .type "method_descriptor" && tf != .type "wrapper_descriptor") = false) {pl : Sem Bool} {P : Value × List Value → Shared → Prop} (q : P (f, [.ref a]) s) :
    wpAny g.M A (getMethod (.ref a) n pl) P E s := by
  obtain ⟨items, k, d, sl, x, ho, _, hd, hx, hN⟩ := pileAt gs hm
  unfold getMethod
  refine wpAny_bind (pileSpecial gs hm (r := some (.builtin "list.__getattribute__")) (by simp [accRows]) ?_)
  have hcan : (Manifest.canonical "list.__getattribute__" != "object.__getattribute__") = false := by decide +kernel
  simp only [hcan, Bool.false_eq_true, if_false]
  refine wpAny_bind (pileSpecial gs hm (r := none) (by simp [accRows]) ?_)
  simp only [Option.isSome_none, Bool.false_eq_true, if_false]
  refine wpAny_bind (pileSpecial gs hm h ?_)
  dsimp only
  refine wpAny_bind (ht.here ?_)
  simp only [htf, Bool.false_eq_true, if_false]
  refine wpAny_bind (wpAny_loadPart ho ?_)
  dsimp only
  refine wpAny_bind (wpAny_nsGet hN ?_)
  have hno : (only x n).isSome = false := by unfold only; rw [if_neg hn]; rfl
  simp only [hno, Bool.false_eq_true, if_false]
  exact wpAny_bind (wpAny_rule (wpAny_pure q))
theorem fnType {M : Model} (b : Base g.H s.heap) {f : Fn} (hf : f ∈ meths) (hlt : f.a ∉ tbls) : W.Looks M s.heap (typeOf (.ref f.a)) (.type "function") := by
  obtain ⟨_, o, ho, hc⟩ := g.top.mfn f hf
  have : W.Looks M s.heap (typeOf (.ref f.a)) o.cls := (W.Looks.ld (b.keep _ _ ho hlt)).andThen .now
  rw [hc] at this
  exact this
theorem Meth.there {f : Fn} (hf : f ∈ meths) (hlt : f.a ∉ tbls) (gs : GoodS g st.sto s) : ∃ o fd, s.heap.get? f.a = some o ∧ o.data = .func fd := by
  obtain ⟨⟨o, fd, ho, hdat, _⟩, _⟩ := g.top.mfn f hf
  exact ⟨o, fd, gs.base.keep _ _ ho hlt, hdat⟩
/-- a call of a pile's own method -/
theorem TE.meth0 {f : Fn} {o : Expr} {name : Str} {ap pos : Pos} {pl : Sem Bool} {m : Nat} (hf : f ∈ meths) (hlt : f.a ∉ tbls) (hrow : (name, some (.ref f.a)) ∈ accRows) (hn : name ≠ "_initial_size") (hm : m ≤ C.n)
    (h : TE g C o (fun v st1 => ∃ a w vs, v = .ref a ∧ (a, .acc w vs) ∈ st1.sto ∧ TC g m (.ref f.a) [.ref a] [] [] (fun r sto' => Q r ⟨st1.loc, sto'⟩) st1.sto) st)
    (he : eval (.Call (.Attribute o name ap) [] [] pos) C.env = (do
      let ov ← eval o C.env
      standAt ap.atName
      let (f, first) ← holding [ov] (getMethod ov name pl)
      callWith pos f first (backTo pos (starEach [] C.env)) [])) : TE g C (.Call (.Attribute o name ap) [] [] pos) Q st := fun s gs => by
  rw [he]
  refine wpAny_bind (h.on gs fun v st1 x s1 q r g1 x1 => wpAny_bind (wpAny_standAt (wpAny_bind (wpAny_holding ?_))))
  obtain ⟨a, w, vs, rfl, hma, q⟩ := q
  cases r
  refine getMethod_pile g1.toGoodS hma hrow hn (fnType g1.base hf hlt) (by decide) ?_
  obtain ⟨ob, fd, ho, hdat⟩ := Meth.there hf hlt g1.toGoodS
  refine callWith_function_kw (o := ob) (fd := fd) (PyProof.Rows.evalArgs_none ⟨⟨ho, hdat⟩, ?_⟩)
  exact wpAny_mono (call_of (ks := []) g1 q hm (.cons (.ref a) .nil) VRs.nil) (fun _ _ p => Po.trans x1 p) fun _ _ e => e
theorem TE.methP {f : Fn} {o e : Expr} {rest : List Expr} {name : Str} {ap pos : Pos} {pl : Sem Bool} {m : Nat} (hf : f ∈ meths) (hlt : f.a ∉ tbls) (hrow : (name, some (.ref f.a)) ∈ accRows) (hn : name ≠ "_initial_size") (hm : m ≤ C.n)
    (h : TE g C o (fun v st1 => ∃ a w vs, v = .ref a ∧ (a, .acc w vs) ∈ st1.sto ∧ TEs g C pos (e :: rest) (fun us st2 => TC g m (.ref f.a) (.ref a :: us) [] [] (fun r sto' => Q r ⟨st2.loc, sto'⟩) st2.sto) st1) st)
    (hst : starEach (e :: rest) C.env = (false, eval e C.env) :: starEach rest C.env)
    (he : eval (.Call (.Attribute o name ap) (e :: rest) [] pos) C.env = (do
      let ov ← eval o C.env
      standAt ap.atName
      let (f, first) ← holding [ov] (getMethod ov name pl)
      callWith pos f first (backTo pos (starEach (e :: rest) C.env)) [])) : TE g C (.Call (.Attribute o name ap) (e :: rest) [] pos) Q st := fun s gs => by
  rw [he]
  refine wpAny_bind (h.on gs fun v st1 x s1 q r g1 x1 => wpAny_bind (wpAny_standAt (wpAny_bind (wpAny_holding ?_))))
  obtain ⟨a, w, vs, rfl, hma, q⟩ := q
  cases r
  refine getMethod_pile g1.toGoodS hma hrow hn (fnType g1.base hf hlt) (by decide) ?_
  obtain ⟨ob, fd, ho, hdat⟩ := Meth.there hf hlt g1.toGoodS
  refine callWith_function_kw (o := ob) (fd := fd) ?_
  unfold TEs at q
  rw [hst] at q ⊢
  refine Calls.evalArgs_plain (q.on g1 fun us st2 as s2 q2 rs g2 x2 => ⟨⟨?_, hdat⟩, ?_⟩)
  · obtain ⟨⟨oo, ffd, hh, _⟩, _⟩ := g.top.mfn f hf
    have a1 := g1.base.keep _ _ hh hlt
    have a2 := g2.base.keep _ _ hh hlt
    rw [ho] at a1; cases a1
    exact a2
  · exact wpAny_mono (call_of (ks := []) g2 q2 hm (.cons (.ref a) rs) VRs.nil) (fun _ _ p => Po.trans x1 (Po.trans x2 p)) fun _ _ e => e
theorem pileType {M : Model} {sto : Sto} (gs : GoodS g sto s) {a : Addr} {w : V} {vs : List V} (hm : (a, .acc w vs) ∈ sto) : W.Looks M s.heap (typeOf (.ref a)) (.ref 137) := by
  obtain ⟨items, k, d, sl, x, ho, _⟩ := pileAt gs hm
  exact (W.Looks.ld ho).andThen .now
theorem pileInst {M : Model} {sto : Sto} (gs : GoodS g sto s) {a : Addr} {w : V} {vs : List V} (hm : (a, .acc w vs) ∈ sto) : W.Looks M s.heap (isInstance (.ref a) (.type "list")) true := by
  obtain ⟨oC, oN, X, k⟩ := classK gs.base
  exact (pileType gs hm).andThen (W.looks_subIn X k.subL)
/-- a list's own built-in, upon a pile -/
theorem call_pile {A : Around} {E : Value → Shared → Prop} {sto : Sto} (gs : GoodS g sto s) {a : Addr} {w : V} {vs : List V} (hm : (a, .acc w vs) ∈ sto) {id n : String} {B : Builtin} {rest : List Value} {P : Value → Shared → Prop}
    (hk : builtinKind id = some .slot ∨ builtinKind id = some .method) (hs : splitId id = some ("list", n)) (hplain : plainId id = true) (entry : entryFor table id = some B) (ha : argsOk id ⟨.ref a :: rest, []⟩)
    (h : ∀ (E' : Value → Shared → Prop), wpAny g.M A.in1 (B ⟨.ref a :: rest, []⟩) (fun fin s' => ∃ v, fin = .done (.ret v) ∧ P v s') E' s) : wpAny g.M A (call (.builtin id) (.ref a :: rest)) P E s := by
  refine wpAny_call (codeAny_call_builtin hplain entry ?_)
  have fin : wpAny g.M A.in1 (B ⟨.ref a :: rest, []⟩) (fun fin s' => match fin with | .done f => (match (Except.ok f : Result) with | .ok (.ret v) => P v s' | .ok _ => False | .error e => E e s') | .again c' => c'.quiet = true ∧ codeAny g.M A c' (fun r s' => match r with | .ok (.ret v) => P v s' | .ok _ => False | .error e => E e s') s') (fun e s' => E e s') s :=
    wpAny_mono (h _) (fun fin s' ⟨v, e, q⟩ => by subst e; exact q) fun _ _ e => e
  rcases hk with hk | hk
  all_goals
    simp only [checkBuiltinCall, hk, hs]
    refine wpAny_bind ((pileInst gs hm).here ?_)
    simp only [Bool.not_true, Bool.false_eq_true, if_false]
    cases hsig : Manifest.signature? id with
    | none => exact wpAny_pure fin
    | some sig =>
      simp only [argsOk, hsig] at ha
      have h2 : Bind.checkArgs id sig ⟨.ref a :: rest, []⟩ = pure () := ha
      show wpAny _ _ (Bind.checkArgs id sig ⟨.ref a :: rest, []⟩) _ _ s
      rw [h2]; exact wpAny_pure fin
/-- append, a list's, upon a pile -/
noncomputable abbrev kApP2 (a : Addr) (Q : V → St → Prop) : V → St → Prop := fun u st => ∃ w vs, (a, .acc w vs) ∈ st.sto ∧ vs.length < 900 ∧ Q .none ⟨st.loc, put st.sto a (.acc w (vs ++ [u]))⟩
noncomputable abbrev kApP (g : G) (C : Fm g) (e : Expr) (Q : V → St → Prop) : V → St → Prop := fun v st => ∃ a w vs0, v = .ref a ∧ (a, .acc w vs0) ∈ st.sto ∧ TE g C e (kApP2 a Q) st
theorem TE.appendP {o e : Expr} {ap pos : Pos} {pl : Sem Bool} (h : TE g C o (kApP g C e Q) st)
    (hst : backTo pos (starEach [e] C.env) = [(false, eval e C.env)])
    (he : eval (.Call (.Attribute o "append" ap) [e] [] pos) C.env = (do
      let ov ← eval o C.env
      standAt ap.atName
      let (f, first) ← holding [ov] (getMethod ov "append" pl)
      callWith pos f first (backTo pos (starEach [e] C.env)) [])) : TE g C (.Call (.Attribute o "append" ap) [e] [] pos) Q st := fun s gs => by
  rw [he]
  refine wpAny_bind (h.on gs fun v st1 x s1 q r g1 x1 => wpAny_bind (wpAny_standAt (wpAny_bind (wpAny_holding ?_))))
  obtain ⟨a, w, vs0, rfl, hma, q⟩ := q
  cases r
  refine getMethod_pile g1.toGoodS hma (f := .builtin "list.append") (by simp [accRows]) (by decide) (.of_pure PySem.F.type_list_append) (by decide) ?_
  rw [hst]
  refine Calls.callWith_builtin rfl (Calls.evalArgs_plain (Calls.spliced_cons (q.on g1 fun u st2 y s2 q2 r2 g2 x2 => Calls.spliced_nil ?_)))
  obtain ⟨w2, vs, hm2, hlen, q2⟩ := q2
  obtain ⟨items, n, d, sl, x, ho, rv, hd, hx, hN⟩ := pileAt g2.toGoodS hm2
  have e : items.size = vs.length := by have := rv.length; simpa using this.symm
  refine call_pile g2.toGoodS hm2 (n := "append") (.inr (by decide +kernel)) (by decide +kernel) (by decide +kernel) PySem.F.entry_list_append (PySem.F.args_list_append_2 _ _) fun E' => ?_
  unfold Builtin.«list.append»
  refine wpAny_bind (wpAny_of_eq (a := (Value.ref a, y)) rfl ?_)
  have hsA : Heap.SameBut a s2.heap (s2.heap.update a (Obj.mapSeq fun xs => xs.push y)) := Heap.SameBut.update ..
  refine wpAny_bind (listUpdate_at ho rfl ?_ (by rw [sizeLine_eq]; omega) (by rw [sizeLine_eq, Array.size_push]; omega))
  have kT : TupK s2.heap (s2.heap.update a (Obj.mapSeq fun xs => xs.push y)) := fun b its m e => (hsA.2 b fun h => by subst h; rw [ho] at e; simp at e).trans e
  have hNs : (s2.heap.update a (Obj.mapSeq fun xs => xs.push y)).Ns d (only x) := hN.sameBut hsA fun h => by
    subst h; obtain ⟨o', es, ep, e', hd', _⟩ := hN; rw [ho] at e'; cases e'; cases hd'
  obtain ⟨a1, a2⟩ := g2.put (s' := { s2 with heap := s2.heap.update a (Obj.mapSeq fun xs => xs.push y) }) (c := .acc w2 (vs ++ [u])) hm2 hsA
    ⟨items.push y, _, d, sl, x, Heap.get?_update_self (Obj.mapSeq fun xs => xs.push y) ho rfl, by simpa using (rv.mono kT).snoc (r2.mono kT), hd, hx.mono kT, hNs⟩ rfl rfl
  exact wpAny_pure ⟨.none, rfl, .none, _, VR.none, a1, Step.trans x1 (Step.trans x2 a2), q2⟩
end
end
section -- P42
section
variable {g : G}
theorem plain_3 {f : Fn} {x y z : Str} (h : ∀ (fd : FuncData) (u v w : Value), bindArgs { fd with params := f.ps, defaults := f.dV, kwdefaults := f.kV } ⟨[u, v, w], []⟩ = pure [(x, u), (y, v), (z, w)]) : Plain f [x, y, z] := fun fd h1 h2 h3 vals hl => by
  obtain ⟨u, v, w, rfl⟩ := len3 hl
  have := h fd u v w
  rw [← h1, ← h2, ← h3] at this
  exact this
theorem meth_of {f : Fn} (h : f ∈ meths) : FnO g.H f := (g.top.mfn f h).1
theorem cPush {a : Addr} {w : V} {vs : List V} {x y : V} {sto : Sto} {Q : V → Sto → Prop} (hm : (a, .acc w vs) ∈ sto) (hl : vs.length < 900) (q : Q .none (put sto a (.acc w (vs ++ [.tup [x, y]])))) : TC g 1 (.ref fPush.a) [.ref a, x, y] [] [] Q sto := by
  refine TC.def (ns := ["self", "fws", "string"]) (meth_of (by walk_at "in")) (by decide) rfl (plain_3 fun fd u v w => rfl) rfl (by decide) (by decide) (by decide) (by decide) rfl rfl rfl fun C E hn => ?_
  show TXs g C _ _ ⟨[("self", .ref a), ("fws", x), ("string", y)], sto⟩
  refine TXs.cons (TX.expr ?_ notInter)
  refine TE.appendP ?_ rfl rfl
  walk_at "m1"
  refine ⟨a, w, vs, rfl, hm, ?_⟩
  repeat walk_at "m1"
  refine ⟨by simp, w, vs, hm, hl, rfl, TXs.nil q⟩
end
end
section -- P43
section
variable {g : G}
theorem TXsA.cons {C : Fm g} {body : List Stmt} {x : Stmt} {rest : List Stmt} {Q : F → St → Prop} {st : St} (h : TrA RF g C body (exec x C.env) (fun f st1 => match f with | .next => TXsA g C body rest Q st1 | f => Q f st1) st) : TXsA g C body (x :: rest) Q st := fun s gs =>
  ks_wpAt_execs_cons (ks_wpAt_mono (h s gs) (fun f s1 ⟨b, st1, r, g1, x1, q⟩ => by
    cases r with
    | next => exact ks_wpAt_mono (q s1 g1) (fun _ _ p => Po.trans x1 p) fun _ _ e => e
    | brk => exact ⟨_, _, RF.brk, g1, x1, q⟩
    | cont => exact ⟨_, _, RF.cont, g1, x1, q⟩
    | ret r => exact ⟨_, _, RF.ret r, g1, x1, q⟩) fun _ _ e => e)
theorem TXA.ret {C : Fm g} {body : List Stmt} {e : Expr} {pos : Pos} {Q : F → St → Prop} {st : St} (h : TrA VR g C body (eval e C.env) (fun v st1 => Q (.ret v) st1) st) : TrA RF g C body (exec (.Return (some e) pos) C.env) Q st := fun s gs =>
  ks_wpAt_Return_some (ks_wpAt_mono (h s gs) (fun v s1 ⟨b, st1, r, g1, x1, q⟩ => ⟨_, _, RF.ret r, g1, x1, q⟩) fun _ _ e => e)
theorem TXA.expr {C : Fm g} {body : List Stmt} {e : Expr} {pos : Pos} {Q : F → St → Prop} {st : St} (h : TrA VR g C body (eval e C.env) (fun v st1 => Q .next st1) st) (hi : interactive C.env = false) (hs : swapsWith e none pos.line C.env = pure false) : TrA RF g C body (exec (.Expr e pos) C.env) Q st := fun s gs =>
  ks_wpAt_Expr_any (ks_wpAt_mono (h s gs) (fun v s1 ⟨b, st1, r, g1, x1, q⟩ => ⟨_, _, RF.next, g1, x1, q⟩) fun _ _ e => e) hi hs
end
end
section -- P44
section
theorem own_init : (kfb_private% "ownerAndName") "list.__init__" = ("list", "__init__") := by first | decide +kernel | kernel_rfl
theorem own_len : (kfb_private% "ownerAndName") "list.__len__" = ("list", "__len__") := by first | decide +kernel | kernel_rfl
theorem own_pop : (kfb_private% "ownerAndName") "list.pop" = ("list", "pop") := by first | decide +kernel | kernel_rfl
theorem slot_wd_get : Slot "wrapper_descriptor" "__get__" "wrapper_descriptor.__get__" := .of (owner := "wrapper_descriptor") (n := "__get__") (by rw [typeLookup_type, builtinLookup_eq_fast]; kernel_rfl) (by decide +kernel) (by decide +kernel) (by decide +kernel)
  (by first | exact .inl (by decide +kernel) | exact .inr (by decide +kernel)) (by rw [isSubtype_type]; kernel_rfl)
theorem slot_md_get : Slot "method_descriptor" "__get__" "method_descriptor.__get__" := .of (owner := "method_descriptor") (n := "__get__") (by rw [typeLookup_type, builtinLookup_eq_fast]; kernel_rfl) (by decide +kernel) (by decide +kernel) (by decide +kernel)
  (by first | exact .inl (by decide +kernel) | exact .inr (by decide +kernel)) (by rw [isSubtype_type]; kernel_rfl)
theorem entry_wd_get : entryFor table "wrapper_descriptor.__get__" = some Builtin.«wrapper_descriptor.__get__» := entryFor_of_tree (by kernel_rfl)
theorem entry_md_get : entryFor table "method_descriptor.__get__" = some Builtin.«method_descriptor.__get__» := entryFor_of_tree (by kernel_rfl)
theorem args_wd_get (a b c : Value) : argsOk "wrapper_descriptor.__get__" ⟨[a, b, c], []⟩ := by unfold argsOk; kernel_rfl
theorem args_md_get (a b c : Value) : argsOk "method_descriptor.__get__" ⟨[a, b, c], []⟩ := by unfold argsOk; kernel_rfl
theorem ty_init : typeOf (.builtin "list.__init__") = pure (.type "wrapper_descriptor") := by show builtinType _ = _; rw [builtinType_eq_fast]; kernel_rfl
theorem ty_len : typeOf (.builtin "list.__len__") = pure (.type "wrapper_descriptor") := by show builtinType _ = _; rw [builtinType_eq_fast]; kernel_rfl
theorem ty_pop : typeOf (.builtin "list.pop") = pure (.type "method_descriptor") := by show builtinType _ = _; rw [builtinType_eq_fast]; kernel_rfl
end
section
variable {M : Model} {A : Around} {E : Value → Shared → Prop} {s : Shared} {x C : Addr} {P : Fin → Shared → Prop}
/-- a list's own method bound to an object -/
theorem bind_list {id : String} {n : String} {bt : String} (ho : (kfb_private% "ownerAndName") id = ("list", n)) (hi : W.Looks M s.heap (isInstance (.ref x) (.type "list")) true) (h : P (.done (.ret (.ref s.heap.objs.size))) { s with heap := s.heap.push { cls := .type bt, data := .fields #[.builtin id, .ref x] } }) :
    wpAny M A ((kfb_private% "bindBuiltin") bt (.builtin id) (some (.ref x))) P E s := by
  show wpAny _ _ ((kfb_private% "checkInstance") (.builtin id) (.ref x) >>= _) _ _ _
  refine wpAny_bind ?_
  show wpAny _ _ ((kfb_private% "nameAndClass") (.builtin id) >>= _) _ _ _
  refine wpAny_bind (wpAny_of_eq (a := (PySem.Str.ofString n, .type "list")) (by show pure (PySem.Str.ofString ((kfb_private% "ownerAndName") id).2, Value.type ((kfb_private% "ownerAndName") id).1) = _; rw [ho]) ?_)
  refine wpAny_bind (hi.here ?_)
  refine wpAny_pure ?_
  exact wpAny_bind (wpAny_newObj_type (wpAny_pure h))
theorem get_wd {id n : String} (ho : (kfb_private% "ownerAndName") id = ("list", n)) (hi : W.Looks M s.heap (isInstance (.ref x) (.type "list")) true) (h : P (.done (.ret (.ref s.heap.objs.size))) { s with heap := s.heap.push { cls := .type "method-wrapper", data := .fields #[.builtin id, .ref x] } }) :
    wpAny M A (Builtin.«wrapper_descriptor.__get__» ⟨[.builtin id, .ref x, .ref C], []⟩) P E s := by
  unfold Builtin.«wrapper_descriptor.__get__»
  refine wpAny_bind (wpAny_of_eq (a := (.builtin id, some (.ref x), some (.ref C))) (by first | rfl | kernel_rfl) ?_)
  exact bind_list ho hi h
theorem get_md {id n : String} (ho : (kfb_private% "ownerAndName") id = ("list", n)) (ht : Manifest.toldItsClass.contains id = false) (hi : W.Looks M s.heap (isInstance (.ref x) (.type "list")) true) (h : P (.done (.ret (.ref s.heap.objs.size))) { s with heap := s.heap.push { cls := .type "builtin_function_or_method", data := .fields #[.builtin id, .ref x] } }) :
    wpAny M A (Builtin.«method_descriptor.__get__» ⟨[.builtin id, .ref x, .ref C], []⟩) P E s := by
  unfold Builtin.«method_descriptor.__get__»
  refine wpAny_bind (wpAny_of_eq (a := (.builtin id, some (.ref x), some (.ref C))) (by first | rfl | kernel_rfl) ?_)
  simp only [ht, Bool.false_eq_true, if_false]
  exact bind_list ho hi h
/-- how a list's own method is bound: its kind of descriptor -/
structure Desc (id bt : String) : Prop where
  get : ∃ dt gid B, typeOf (.builtin id) = pure (.type dt) ∧ Slot dt "__get__" gid ∧ entryFor table gid = some B ∧ (∀ a b c, argsOk gid ⟨[a, b, c], []⟩) ∧ ∀ {M : Model} {A : Around} {E : Value → Shared → Prop} {s : Shared} {x C : Addr} {P : Fin → Shared → Prop},
    W.Looks M s.heap (isInstance (.ref x) (.type "list")) true → P (.done (.ret (.ref s.heap.objs.size))) { s with heap := s.heap.push { cls := .type bt, data := .fields #[.builtin id, .ref x] } } → wpAny M A (B ⟨[.builtin id, .ref x, .ref C], []⟩) P E s
theorem desc_init : Desc "list.__init__" "method-wrapper" := ⟨_, _, _, ty_init, slot_wd_get, entry_wd_get, args_wd_get, fun hi h => get_wd own_init hi h⟩
theorem desc_len : Desc "list.__len__" "method-wrapper" := ⟨_, _, _, ty_len, slot_wd_get, entry_wd_get, args_wd_get, fun hi h => get_wd own_len hi h⟩
theorem desc_pop : Desc "list.pop" "builtin_function_or_method" := ⟨_, _, _, ty_pop, slot_md_get, entry_md_get, args_md_get, fun hi h => get_md own_pop (by decide +kernel) hi h⟩
end
end
section -- P45
section
variable {prog : Program} {w : World} {A : Around} {E : Value → Shared → Prop} {h : Heap} {g : Array GenState} {d : Drawn} {t : Nat} {os : OsState}
/-- super()'s look for a name that a built-in class owns -/
theorem super_ga {so D x C : Addr} {id bt : String} {l₀ l : List Value} {K : W.Frag} {name : Str} {tk : Tok} {Q : PySem.Fin → Shared → Prop} (ds : Desc id bt)
    (hso : h.get? so = some { cls := .type "super", dict := none, data := .fields #[.ref D, .ref x, .ref C], slots := #[] }) (hno : W.Looks (model prog w) h (opaqueClassAbove (.ref C)) none)
    (hC : W.Looks (model prog w) h (mroOf (.ref C)) l₀) (hl : (l₀.dropWhile (· != .ref D)).drop 1 = l) (X : K.In h)
    (hf : W.alongIn K name l = some (some (.builtin id))) (hi : W.Looks (model prog w) h (isInstance (.ref x) (.type "list")) true) (hxC : x ≠ C) (hn : (name == ("__class__" : Str)) = false)
    (hq : Q (.done (.ret (.ref h.objs.size))) ⟨h.push { cls := .type bt, data := .fields #[.builtin id, .ref x] }, g, d, t, os⟩) :
    wpAny (model prog w) A (Builtin.«super.__getattribute__» ⟨[.ref so, .str name tk], []⟩) Q E ⟨h, g, d, t, os⟩ := by
  obtain ⟨dt, gid, B, hty, hsl, hen, hag, hrun⟩ := ds.get
  have hlk := hsl.lookup
  have hne : (Value.ref x == Value.ref C) = false := by simp [hxC]
  have hTf : (⟨h, g, d, t, os⟩ : Shared).TypeIs (.builtin id) dt := hty
  have hdt : ({ cls := .type "super", dict := none, data := .fields #[.ref D, .ref x, .ref C], slots := #[] } : Obj).data = .fields #[.ref D, .ref x, .ref C] := rfl
  have f0 : (#[.ref D, .ref x, .ref C] : Array Value)[0]? = some (.ref D) := rfl
  have f1 : (#[.ref D, .ref x, .ref C] : Array Value)[1]? = some (.ref x) := rfl
  have f2 : (#[.ref D, .ref x, .ref C] : Array Value)[2]? = some (.ref C) := rfl
  unfold Builtin.«super.__getattribute__»
  repeat (first
    | (with_reducible refine wpAny_field hso hdt f0 ?_) | (with_reducible refine wpAny_field hso hdt f1 ?_) | (with_reducible refine wpAny_field hso hdt f2 ?_)
    | (with_reducible refine wpAny_bind (ks_wpAny_notOpaque hno ?_)) | (with_reducible refine ks_wpAny_notOpaque hno ?_)
    | (with_reducible refine wpAny_bind (W.Looks.at hC ?_); rw [hl])
    | (with_reducible refine W.Looks.at hC ?_; rw [hl])
    | (refine ks_forIn_along X (fun _ _ => rfl) rfl ?_ hf)
    | (with_reducible refine wpAny_typeOf hTf ?_)
    | (with_reducible refine wpAny_call_entry hsl hTf hen ?_ (hag _ _ _))
    | (with_reducible refine ⟨_, rfl, ?_⟩)
    | (with_reducible refine hrun hi ?_)
    | (simp only [hn, hne, Bool.or_false, Bool.false_eq_true, if_false])
    | wp_step
    | dsimp only)
  all_goals exact hq
theorem getMethod_superB {so D x C : Addr} {id bt : String} {l₀ l : List Value} {K : W.Frag} {name : Str} {pl : Sem Bool} {Q : Value × List Value → Shared → Prop} (ds : Desc id bt)
    (hso : h.get? so = some { cls := .type "super", dict := none, data := .fields #[.ref D, .ref x, .ref C], slots := #[] }) (hno : W.Looks (model prog w) h (opaqueClassAbove (.ref C)) none)
    (hC : W.Looks (model prog w) h (mroOf (.ref C)) l₀) (hl : (l₀.dropWhile (· != .ref D)).drop 1 = l) (X : K.In h)
    (hf : W.alongIn K name l = some (some (.builtin id))) (hi : W.Looks (model prog w) h (isInstance (.ref x) (.type "list")) true) (hxC : x ≠ C) (hn : (name == ("__class__" : Str)) = false)
    (hq : Q (.ref h.objs.size, []) ⟨h.push { cls := .type bt, data := .fields #[.builtin id, .ref x] }, g, d, t + 1, os⟩) :
    wpAny (model prog w) A (getMethod (.ref so) name pl) Q E ⟨h, g, d, t, os⟩ := by
  have hlk := F.ks_slot_super_ga.lookup
  have hcan := F.ks_canon_super_ga
  have hT : ∀ t', (⟨h, g, d, t', os⟩ : Shared).TypeIs (.ref so) "super" := fun _ => ⟨_, hso, rfl⟩
  unfold getMethod
  refine wpAny_bind (wpAny_specialOf (hT _) hlk ?_)
  show wpAny _ _ (if (Manifest.canonical "super.__getattribute__" != "object.__getattribute__") = true then _ else _) _ _ _
  first | refine iteT hcan ?_ | rw [if_pos hcan]
  unfold getAttr getAttrBy
  refine wpAny_bind (wpAny_bind (wpAny_mkText (wpAny_holding (wpAny_bind (wpAny_typeOf (hT _) (wpAny_bind (wpAny_of_eq hlk ?_)))))))
  show wpAny _ _ (getAttrByItsOwn (.ref so) (.str name t) (.type "super") (.builtin "super.__getattribute__") true false) _ _ _
  unfold getAttrByItsOwn hookBefore callGetattribute boundAndCalled
  refine wpAny_bind (wpAny_of_eq (show (if onTheHeap (.type "super") then typeLookup (.type "super") "__getattr__" else pure none) = pure none from rfl) ?_)
  refine wpAny_bind (wpAny_attempt (wpAny_holding ?_))
  show wpAny _ _ (bindSpecial (.builtin "super.__getattribute__") (.ref so) >>= _) _ _ _
  refine wpAny_bind (wpAny_of_eq (F.ks_slot_super_ga.bind _) ?_)
  refine wpAny_mono (Q := fun v s' => v = .ref h.objs.size ∧ s' = ⟨h.push { cls := .type bt, data := .fields #[.builtin id, .ref x] }, g, d, t + 1, os⟩) (E := fun _ _ => False)
    (wpAny_call_entry F.ks_slot_super_ga (hT _) F.ks_entry_super_ga (super_ga ds hso hno hC hl X hf hi hxC hn ⟨_, rfl, rfl, rfl⟩) (F.ks_gaArgs_super _ _)) (fun v s' hv => ?_) fun _ _ z => z.elim
  obtain ⟨rfl, rfl⟩ := hv
  exact wpAny_pure (wpAny_pure hq)
/-- a bound built-in called -/
theorem call_boundB {u x : Addr} {id bt : String} {B : Builtin} {rest : List Value} {s : Shared} {Q : Value → Shared → Prop} (hbt : bt = "builtin_function_or_method" ∨ bt = "method-wrapper") (ho : s.heap.get? u = some { cls := .type bt, data := .fields #[.builtin id, .ref x] })
    (hck : ∀ {Q' : Unit → Shared → Prop} {E' : Value → Shared → Prop}, Q' () s → wpAny (model prog w) A.in1 (checkBoundCall id ⟨.ref x :: rest, []⟩) Q' E' s) (hplain : plainId id = true) (entry : entryFor table id = some B)
    (h : ∀ (E' : Value → Shared → Prop), wpAny (model prog w) A.in1 (B ⟨.ref x :: rest, []⟩) (fun fin s' => ∃ v, fin = .done (.ret v) ∧ Q v s') E' s) : wpAny (model prog w) A (call (.ref u) rest) Q E s := by
  refine wpAny_call (codeAny_of_tree ?_)
  show wpAny _ A.in1 (callAny (.ref u) ⟨rest, []⟩) _ _ s
  simp only [callAny]
  refine wpAny_bind (wpAny_load ho ?_)
  have hb : (Value.type bt == Value.type "method" || Value.type bt == Value.type "builtin_function_or_method" || Value.type bt == Value.type "method-wrapper") = true := by rcases hbt with rfl | rfl <;> decide
  have hb2 : (Value.type bt != Value.type "method") = true := by rcases hbt with rfl | rfl <;> decide
  simp only [hb, hb2, if_true]
  refine wpAny_bind (hck ?_)
  refine wpAny_bind (wpAny_pure (wpAny_pure ?_))
  refine ⟨plainId_quiet hplain _, codeAny_builtin entry ?_⟩
  rw [Around.under_plainId hplain _]
  exact wpAny_mono (h _) (fun fin s' ⟨v, e, q⟩ => by subst e; exact q) fun _ _ e => e
theorem callWith_boundB {pos : Pos} {u x : Addr} {id bt : String} {s : Shared} {Q : Value → Shared → Prop} (hbt : bt = "builtin_function_or_method" ∨ bt = "method-wrapper") (ho : s.heap.get? u = some { cls := .type bt, data := .fields #[.builtin id, .ref x] })
    (hcall : wpAny (model prog w) A (call (.ref u) [] []) Q E s) : wpAny (model prog w) A (callWith pos (.ref u) [] [] []) Q E s := by
  unfold callWith
  refine wpAny_bind (wpAny_holding (PyProof.Rows.evalArgs_none (wpAny_bind (wpAny_standAt ?_))))
  refine wpAny_bind (m := keeperOf (.ref u)) ?_
  unfold keeperOf
  refine wpAny_bind (wpAny_load ho ?_)
  have hb : (Value.type bt != Value.type "method") = true := by rcases hbt with rfl | rfl <;> decide
  have hb2 : (Value.type bt == Value.type "builtin_function_or_method" || Value.type bt == Value.type "method-wrapper") = true := by rcases hbt with rfl | rfl <;> decide
  simp only [hb, hb2, if_true]
  refine wpAny_pure ?_
  exact wpAny_bind (wpAny_mono hcall (fun r s₂ hr => wpAny_bind (wpAny_holding (wpAny_point (wpAny_pure hr)))) fun _ _ x => x)
end
end
section -- P46
section
variable {g : G} {C : Fm g} {st : St}
theorem FnO.got {f : Fn} (hf : FnO g.H f) (hlt : f.a ∉ tbls ∧ f.c ∉ tbls) {s : Shared} (b : Base g.H s.heap) : ∃ o fd, s.heap.get? f.a = some o ∧ o.data = .func fd ∧ fd.params = f.ps := by
  obtain ⟨o, fd, ho, hd, e1, e2, _⟩ := hf
  exact ⟨o, fd, b.keep _ _ ho hlt.1, hd, by first | exact e2 | exact e1⟩
theorem classData137 {s : Shared} (b : Base g.H s.heap) : ∃ oD cd, s.heap.get? 137 = some oD ∧ oD.data = .cls cd ∧ cd.mro = [.ref 137, .type "list", .type "object"] := by
  obtain ⟨oC, oN, X, k⟩ := classK b
  obtain ⟨oc, od, cd, sl, hl, _, _, hm, _⟩ := k.cls
  exact ⟨_, cd, X _ _ hl, rfl, hm⟩
theorem mro137 {M : Model} {s : Shared} (b : Base g.H s.heap) : W.Looks M s.heap (mroOf (.ref 137)) [.ref 137, .type "list", .type "object"] := by
  obtain ⟨oC, oN, X, k⟩ := classK b
  obtain ⟨oc, od, cd, sl, hl, _, _, hm, _⟩ := k.cls
  have L : W.Looks M s.heap (mroOf (.ref 137)) cd.mro := (W.looks_clsIn X (by unfold W.clsIn; rw [hl])).andThen .now
  rw [hm] at L
  exact L
theorem memK : ∀ {K : W.Frag} {a : Addr} {o : Obj}, K.lookup a = some o → (a, o) ∈ K
  | [], _, _, h => by cases h
  | (b, p) :: K, a, o, h => by
    rw [List.lookup_cons] at h
    split at h
    · rename_i q
      cases h
      have : a = b := by simpa using q
      subst this
      exact List.mem_cons_self
    · exact List.mem_cons_of_mem _ (memK h)
theorem opaque137 {M : Model} {s : Shared} (b : Base g.H s.heap) : W.Looks M s.heap (opaqueClassAbove (.ref 137)) none := by
  obtain ⟨K, hk, h⟩ := g.top.op
  exact W.looks_opaque (fun a o e => b.keep _ _ (hk _ (memK e)).1 (hk _ (memK e)).2) h
theorem superBase {f : Fn} {body : List Stmt} {p0 p1 : Pos} {attr : Str} {whole : Sem Value} {a : Addr} {w : V} {vs : List V} {s : Shared} {Q : Value → Shared → Prop} (hf : f = fInit ∨ f = fPop ∨ f = fCnt) (E : IsEnv g f C) (gs : GoodF g C st s)
    (hs : (("self" : Str), V.ref a) ∈ st.loc) (hc : (("__class__" : Str), V.val (.ref 137)) ∈ st.loc) (hm : (a, .acc w vs) ∈ st.sto) (hat : (attr == ("__class__" : Str)) = false)
    (hq : ∀ h', h'.get? s.heap.objs.size = some { cls := .type "super", dict := none, data := .fields #[.ref 137, .ref a, .ref 137], slots := #[] } → (∀ y o, s.heap.get? y = some o → h'.get? y = some o) → Q (.ref s.heap.objs.size) { s with heap := h' }) :
    PySem.wpAt g.M C.A (.func body C.env) (attributeBase (.Call (.Name "super" p0) [] [] p1) attr C.env whole) Q noE s := by
  have hmm : f ∈ meths := by rcases hf with rfl | rfl | rfl <;> (unfold meths; simp)
  have hlt : f.a ∉ tbls ∧ f.c ∉ tbls := by rcases hf with rfl | rfl | rfl <;> decide
  have hcf : f.c ∈ ([73, 96, 133] : List Addr) := by rcases hf with rfl | rfl | rfl <;> decide
  have hks : f.sc.names.lookup ("super" : Str) = some .globalImplicit := by rcases hf with rfl | rfl | rfl <;> rfl
  have hkc : f.sc.names.lookup ("__class__" : Str) = some .free := by rcases hf with rfl | rfl | rfl <;> rfl
  have hp : ∃ ar : Arg, (f.ps.posonlyargs ++ f.ps.args).head? = some ar ∧ ar.arg = "self" := by rcases hf with rfl | rfl | rfl <;> exact ⟨_, rfl, rfl⟩
  obtain ⟨ar, hp, har⟩ := hp
  obtain ⟨o, fd, ho, hd, hps⟩ := FnO.got (meth_of hmm) hlt gs.base
  obtain ⟨oc, cvs, file, tf, hoc, hcd, hv, hfile⟩ := g.top.cf f.c hcf
  refine ks_wpAt_super_base ((E.kindOf _).trans hks) ((E.kindOf _).trans hkc) hat E.func ho hd (hps ▸ hp) E.code (gs.base.keep _ _ hoc hlt.2) hcd hv hfile (by decide +kernel) ?_
  rw [har]
  have name : ∀ {x : Str} {b : Addr} {u : V} {P : Value → Shared → Prop}, (x, u) ∈ st.loc → (∀ val, VR s.heap u val → val = .ref b) → (x == ("__debug__" : Str)) = false → (x == ("__classdict__" : Str)) = false → P (.ref b) s → wpAny g.M C.A (loadName C.env x) P noE s := fun {x b u P} hx hv hd hn q => by
    obtain ⟨m, n, _, l⟩ := gs.loc
    obtain ⟨val, bd, r⟩ := l _ hx
    cases hv _ r
    rcases bd with ⟨bd, e⟩ | ⟨bd | bd, c, h1, h2⟩
    · exact wpAny_loadName_local C.kind bd n e q
    · exact wpAny_loadName_cell C.kind bd h1 h2 q
    · exact wpAny_loadName_free C.kind bd h1 h2 q hn
  rw [loadName_read C.kind ((E.kindOf _).trans hks)]
  refine Calls.loadGlobal_builtin (mg := g.mg) (mb := g.mb) (v := .type "super") (by rw [C.globals]; exact Ns.base g.top.gl gs.base (by decide)) (g.top.bn (("super" : Str), .type "super") (by unfold bNames; simp)).1
    (by rw [C.builtins]; exact Ns.base g.top.bl gs.base (by decide)) (g.top.bn (("super" : Str), .type "super") (by unfold bNames; simp)).2 ?_
  refine ⟨rfl, name hc (fun v r => by cases r; rfl) (by decide) (by decide) (name hs (fun v r => by cases r; rfl) (by decide) (by decide) ?_)⟩
  obtain ⟨oD, cd, hD, hDd, _⟩ := classData137 gs.base
  obtain ⟨items, k, d, sl, x, hx, _⟩ := pileAt gs.toGoodS hm
  obtain ⟨oC, oN, X, kk⟩ := classK gs.base
  refine ks_wpAny_isType_cls hD hDd ⟨rfl, ?_⟩
  exact ks_wpAny_call_super hD hDd hx rfl (fun c h => by cases h) (W.looks_subIn X kk.subS) hq
end
end
section -- P47
section
variable {g : G} {C : Fm g} {st : St}
/-- super().name() where a list's own method is found -/
theorem TA.superCall {f : Fn} {body : List Stmt} {p0 p1 ap pos : Pos} {name : Str} {pl : Sem Bool} {id bt : String} {B : Builtin} {a : Addr} {w : V} {vs : List V} {Q : V → St → Prop} (hf : f = fInit ∨ f = fPop ∨ f = fCnt) (E : IsEnv g f C)
    (hs : (("self" : Str), V.ref a) ∈ st.loc) (hc : (("__class__" : Str), V.val (.ref 137)) ∈ st.loc) (hm : (a, .acc w vs) ∈ st.sto) (hat : (name == ("__class__" : Str)) = false)
    (ds : Desc id bt) (hbt : bt = "builtin_function_or_method" ∨ bt = "method-wrapper") (hal : W.ownIn [] name (.type "list") = some (some (.builtin id))) (hplain : plainId id = true) (entry : entryFor table id = some B)
    (hck : ∀ {A : Around} {s : Shared} {Q' : Unit → Shared → Prop} {E' : Value → Shared → Prop}, GoodF g C st s → Q' () s → wpAny g.M A (checkBoundCall id ⟨[.ref a], []⟩) Q' E' s)
    (run : ∀ s, GoodF g C st s → ∀ (E' : Value → Shared → Prop), wpAny g.M C.A.in1 (B ⟨[.ref a], []⟩) (fun fin s' => ∃ v, fin = .done (.ret v) ∧ Po VR g C st s Q v s') E' s)
    (he : eval (.Call (.Attribute (.Call (.Name "super" p0) [] [] p1) name ap) [] [] pos) C.env = (do
      let ov ← attributeBase (.Call (.Name "super" p0) [] [] p1) name C.env (eval (.Call (.Name "super" p0) [] [] p1) C.env)
      standAt ap.atName
      let (f, first) ← holding [ov] (getMethod ov name pl)
      callWith pos f first (backTo pos (starEach [] C.env)) [])) :
    TrA VR g C body (eval (.Call (.Attribute (.Call (.Name "super" p0) [] [] p1) name ap) [] [] pos) C.env) Q st := fun s gs => by
  refine ks_wpAt_MethodCall (superBase hf E gs hs hc hm hat fun h' hso hk => ?_) he
  obtain ⟨g1, x1⟩ := gs.ext (s' := { s with heap := h' }) hk rfl rfl
  obtain ⟨oC, oN, X, kk⟩ := classK g1.base
  have hxC : a ≠ 137 := fun h => by
    have := gs.new _ hm
    obtain ⟨o, e, n⟩ := g.top.acc
    subst h
    obtain ⟨h1, _, _⟩ := n
    exact absurd (Heap.lt_size h1) (Nat.not_lt.mpr this)
  refine getMethod_superB ds hso (opaque137 g1.base) (mro137 g1.base) rfl X (by
    show W.alongIn _ name [.type "list", .type "object"] = _
    unfold W.alongIn
    have : W.ownIn [(137, oC), (136, oN)] name (.type "list") = some (some (.builtin id)) := hal
    rw [this]) (pileInst g1.toGoodS hm) hxC hat ?_
  obtain ⟨g2, x2⟩ := g1.ext (s' := { s with heap := h'.push { cls := .type bt, data := .fields #[.builtin id, .ref a] }, toks := s.toks + 1 }) (fun b o e => Heap.get?_push_of_some _ e) rfl rfl
  have hu : (h'.push { cls := .type bt, data := .fields #[.builtin id, .ref a] }).get? h'.objs.size = some { cls := .type bt, data := .fields #[.builtin id, .ref a] } := Heap.get?_push_at rfl rfl
  refine callWith_boundB hbt hu (call_boundB hbt hu (fun q => hck g2 q) hplain entry fun E' => ?_)
  exact wpAny_mono (run _ g2 E') (fun fin s' ⟨v, e, p⟩ => ⟨v, e, Po.trans x1 (Po.trans x2 p)⟩) fun _ _ e => e
end
end
section -- P48
section
variable {g : G} {C : Fm g} {st : St}
theorem Bnd.plain {f : Fn} {args : List V} {ns : List Str} (hpl : Plain f ns) (hl : args.length = ns.length) : Bnd g f args [] [] ns args := fun fd h1 h2 h3 s vals kvals b rv rk =>
  ⟨vals, rv, rv.length.symm.trans hl, fun _ _ _ _ q => wpAny_of_eq (hpl fd h1 h2 h3 vals (rv.length.symm.trans hl)) q⟩
theorem clsCell {f : Fn} {ns : List Str} (hf : f = fInit ∨ f = fPop ∨ f = fCnt) (hn : ("__class__" : Str) ∉ ns) : ∀ p ∈ f.cl, f.sc.names.lookup p.1 = some .free ∧ p.1 ∉ ns ∧ p.2 ∉ tbls ∧ p.2 < g.H.objs.size ∧ g.H.IsCell p.2 (some (.ref clsA)) := by
  have hk : f.sc.names.lookup ("__class__" : Str) = some .free := by rcases hf with rfl | rfl | rfl <;> rfl
  have hc : f.cl = [(("__class__" : Str), 61)] := by rcases hf with rfl | rfl | rfl <;> rfl
  intro p hp
  rw [hc, List.mem_singleton] at hp
  subst hp
  exact ⟨hk, hn, by decide, g.top.cc.1, g.top.cc.2⟩
theorem ck_len (a : Addr) : checkBoundCall "list.__len__" ⟨[.ref a], []⟩ = pure () := by first | kernel_rfl | rfl
theorem run_len {A : Around} {E : Value → Shared → Prop} {s : Shared} {P : PySem.Fin → Shared → Prop} {sto : Sto} (gs : GoodS g sto s) {a : Addr} {w : V} {vs : List V} (hm : (a, .acc w vs) ∈ sto) (h : P (.done (.ret (.int (vs.length : Int) s.toks))) { s with toks := s.toks + 1 }) :
    wpAny g.M A (Builtin.«list.__len__» ⟨[.ref a], []⟩) P E s := by
  obtain ⟨items, k, d, sl, x, ho, rv, _⟩ := pileAt gs hm
  have e : items.size = vs.length := by have := rv.length; simpa using this.symm
  unfold Builtin.«list.__len__»
  refine wpAny_bind (wpAny_of_eq (a := (.ref a, [])) rfl ?_)
  dsimp only
  refine wpAny_bind ?_
  unfold seqSize
  refine wpAny_bind (wpAny_loadPart ho ?_)
  refine wpAny_pure ?_
  rw [e]
  unfold retInt
  refine wpAny_bind (wpAny_mkInt ?_)
  exact wpAny_pure h
theorem cCnt {a : Addr} {w : V} {vs : List V} {sto : Sto} {Q : V → Sto → Prop} (hm : (a, .acc w vs) ∈ sto) (q : Q (.int vs.length) sto) : TC g 1 (.ref fCnt.a) [.ref a] [] [] Q sto := by
  refine TC.bdA (ns := ["self"]) (vs := [.ref a]) (meth_of (by walk_at "in")) (by decide) (clsCell (.inr (.inr rfl)) (by decide)) (by decide) (Bnd.plain (plain_1 fun fd u => rfl) rfl) (by decide) (by decide) (by decide) (by decide) rfl rfl rfl fun C E hn => ?_
  · show TXsA g C _ _ _ ⟨[("self", .ref a), ("__class__", .val (.ref 137))], sto⟩
    refine TXsA.cons (TXA.ret ?_)
    refine TA.superCall (.inr (.inr rfl)) E (by walk_at "mem") (by walk_at "mem") hm (by decide) desc_len (.inr rfl) (by rfl) (by decide +kernel) PySem.F.entry_list_len (fun gs q => wpAny_of_eq (ck_len a) q) (fun s gs E' => ?_) rfl
    refine run_len gs.toGoodS hm ⟨_, rfl, ?_⟩
    obtain ⟨g2, x2⟩ := gs.toks (s.toks + 1)
    exact ⟨.int vs.length, _, VR.int _ _, g2, x2, q⟩
end
end
section -- P49
section
variable {g : G} {C : Fm g} {st : St}
theorem ck_pop_sig (a : Addr) : (match Manifest.signature? "list.pop" with | some sig => Bind.checkArgs "list.pop" { sig with full := s!"{("_Accumulator" : Str).toString}.{Bind.lastOf "list.pop"}" } ⟨[.ref a], []⟩ | none => pure ()) = pure () := by kernel_rfl
theorem ck_pop {A : Around} {E : Value → Shared → Prop} {s : Shared} {P : Unit → Shared → Prop} {sto : Sto} (gs : GoodS g sto s) {a : Addr} {w : V} {vs : List V} (hm : (a, .acc w vs) ∈ sto) (q : P () s) : wpAny g.M A (checkBoundCall "list.pop" ⟨[.ref a], []⟩) P E s := by
  obtain ⟨oC, oN, X, k⟩ := classK gs.base
  obtain ⟨items, kk, d, sl, x, ho, rv, _⟩ := pileAt gs hm
  have hmod : W.Looks g.M s.heap (isInstance (.ref a) (.type "module")) false := (pileType gs hm).andThen (W.looks_subIn X k.subM)
  obtain ⟨oc, od, cd, sl', hl, _, _, _, _, hqn, htp, _⟩ := k.cls
  have hcd : W.Looks g.M s.heap (classData 137) cd := W.looks_clsIn X (by unfold W.clsIn; rw [hl])
  have hty : W.Looks g.M s.heap (typeOf (.ref 137)) (.type "type") := by
    have : W.Looks g.M s.heap (typeOf (.ref 137)) oc := (W.Looks.ld (X _ _ hl)).andThen .now
    rw [htp] at this; exact this
  have hk : builtinKind "list.pop" = some .method := by decide +kernel
  have hva : Manifest.varargsMethods.contains "list.pop" = false := by decide +kernel
  have ck := ck_pop_sig a
  unfold checkBoundCall
  cases hsig : Manifest.signature? "list.pop" with
  | none => exact wpAny_pure q
  | some sig =>
    rw [hsig] at ck
    simp only [hk, show (Manifest.AttrKind.method != Manifest.AttrKind.method && Manifest.AttrKind.method != Manifest.AttrKind.classMethod) = false from by decide, Bool.false_eq_true, if_false]
    refine wpAny_bind (hmod.here ?_)
    simp only [hva, Bool.or_self, Bool.false_eq_true, if_false]
    refine wpAny_bind (ks_wpAny_isType_inst ho (fun c h => by cases h) ?_)
    simp only [Bool.false_eq_true, if_false]
    refine wpAny_bind ((pileType gs hm).here ?_)
    dsimp only
    refine wpAny_bind (hcd.here ?_)
    refine wpAny_bind (hty.here ?_)
    rw [if_pos (by decide : (Value.type "type" == Value.type "type") = true), hqn]
    exact wpAny_of_eq ck q
theorem run_pop {A : Around} {E : Value → Shared → Prop} {s : Shared} {P : PySem.Fin → Shared → Prop} {a : Addr} {items : Array Value} {k : Nat} {d : Option Addr} {sl : Array (Option Value)} {c : Value} (ho : s.heap.get? a = some { cls := c, dict := d, data := .seq items k, slots := sl }) (hne : 0 < items.size) (hl : items.size < 900)
    (h : P (.done (.ret items[items.size - 1])) { s with heap := s.heap.update a (Obj.mapSeq fun xs => xs.eraseIdxIfInBounds (items.size - 1)) }) :
    wpAny g.M A (Builtin.«list.pop» ⟨[.ref a], []⟩) P E s := by
  unfold Builtin.«list.pop»
  refine wpAny_bind (wpAny_of_eq (a := (.ref a, [])) rfl ?_)
  dsimp only
  refine wpAny_bind (wpAny_pure ?_)
  have hf : Builtin.List.listFitsIndex (-1) = true := by decide
  simp only [hf, Bool.not_true, Bool.false_eq_true, if_false]
  refine wpAny_bind (listItems_at ho rfl ?_)
  have he : items.isEmpty = false := by simpa [Array.isEmpty] using Nat.pos_iff_ne_zero.mp hne
  simp only [he, Bool.false_eq_true, if_false]
  have hi : ((PySem.seqIndex? (-1) items.size).bind fun k => items[k]?.map (k, ·)) = some (items.size - 1, items[items.size - 1]) := by
    have h1 : PySem.seqIndex? (-1) items.size = some (items.size - 1) := by
      unfold PySem.seqIndex?
      first | refine iteT (by decide : (-1 : Int) < 0) ?_ | rw [if_pos (by decide : (-1 : Int) < 0)]
      have : (decide ((0 : Int) ≤ -1 + (items.size : Int)) && decide (-1 + (items.size : Int) < (items.size : Int))) = true := by
        rw [Bool.and_eq_true, decide_eq_true_eq, decide_eq_true_eq]; omega
      simp only [this, if_true]
      congr 1
      exact n_neg 1 items.size
    rw [h1]
    show items[items.size - 1]?.map _ = _
    rw [Array.getElem?_eq_getElem (by omega)]
    rfl
  simp only [hi]
  refine wpAny_bind (listUpdate_at ho rfl ?_ (by rw [sizeLine_eq]; omega) (by rw [sizeLine_eq]; simp [Array.eraseIdxIfInBounds]; split <;> (first | omega | (simp; omega) | simp)))
  exact wpAny_pure h
end
end
section -- P50
section
variable {g : G} {C : Fm g} {st : St}
theorem VRs.unsnoc {h : Heap} {vs : List V} {v : V} {xs : List Value} (r : VRs h (vs ++ [v]) xs) : ∃ ys y, xs = ys ++ [y] ∧ VRs h vs ys ∧ VR h v y := by
  induction vs generalizing xs with
  | nil =>
    obtain ⟨x, rfl, a⟩ := VRs.one r
    exact ⟨[], x, rfl, .nil, a⟩
  | cons u vs ih =>
    obtain ⟨x, xs, rfl, a, b⟩ := VRs.consI r
    obtain ⟨ys, y, rfl, r1, r2⟩ := ih b
    exact ⟨x :: ys, y, rfl, .cons a r1, r2⟩
theorem snoc_erase {items : Array Value} {h : Heap} {vs : List V} {v : V} (rv : VRs h (vs ++ [v]) items.toList) (h0 : 0 < items.size) : VRs h vs (items.eraseIdxIfInBounds (items.size - 1)).toList ∧ VR h v items[items.size - 1] := by
  obtain ⟨ys, y, e, r1, r2⟩ := VRs.unsnoc rv
  have hi : items = (ys ++ [y]).toArray := by rw [← e]
  subst hi
  have hs : (ys ++ [y]).toArray.size - 1 = ys.length := by simp
  have e1 : ((ys ++ [y]).toArray.eraseIdxIfInBounds ((ys ++ [y]).toArray.size - 1)).toList = ys := by
    unfold Array.eraseIdxIfInBounds
    rw [dif_pos (by simp)]
    simp
    exact List.eraseIdx_append_of_length_le (by simp) _ |>.trans (by simp)
  have e2 : (ys ++ [y]).toArray[(ys ++ [y]).toArray.size - 1] = y := by simp
  rw [e1, e2]
  exact ⟨r1, r2⟩
theorem cPopE {a : Addr} {w : V} {sto : Sto} {Q : V → Sto → Prop} (hm : (a, .acc w []) ∈ sto) (q : Q (.tup [.str "", .str ""]) sto) : TC g 2 (.ref fPop.a) [.ref a] [] [] Q sto := by
  refine TC.bdA (ns := ["self"]) (vs := [.ref a]) (meth_of (by walk_at "in")) (by decide) (clsCell (.inr (.inl rfl)) (by decide)) (by decide) (Bnd.plain (plain_1 fun fd u => rfl) rfl) (by decide) (by decide) (by decide) (by decide) rfl rfl rfl fun C E hn => ?_
  show TXsA g C _ _ _ ⟨[("self", .ref a), ("__class__", .val (.ref 137))], sto⟩
  refine TXsA.cons (TrA.of ?_)
  repeat walk_at "m1"
  refine TE.meth0 (f := fCnt) (m := 1) (by walk_at "in") (by decide) (by walk_at "in") (by decide) (n_le hn) ?_ rfl
  walk_at "m1"
  refine ⟨a, w, [], rfl, hm, cCnt hm ?_⟩
  walk_at "m1"
  refine TO2.eqI ?_
  refine kB.it ?_
  walk_at "yes"
  repeat walk_at "m1"
  exact ⟨by simp, q⟩
theorem cPopS {a : Addr} {w : V} {vs : List V} {v : V} {sto : Sto} {Q : V → Sto → Prop} (hm : (a, .acc w (vs ++ [v])) ∈ sto) (hl : vs.length < 800) (q : Q v (put sto a (.acc w vs))) : TC g 2 (.ref fPop.a) [.ref a] [] [] Q sto := by
  refine TC.bdA (ns := ["self"]) (vs := [.ref a]) (meth_of (by walk_at "in")) (by decide) (clsCell (.inr (.inl rfl)) (by decide)) (by decide) (Bnd.plain (plain_1 fun fd u => rfl) rfl) (by decide) (by decide) (by decide) (by decide) rfl rfl rfl fun C E hn => ?_
  show TXsA g C _ _ _ ⟨[("self", .ref a), ("__class__", .val (.ref 137))], sto⟩
  refine TXsA.cons (TrA.of ?_)
  repeat walk_at "m1"
  refine TE.meth0 (f := fCnt) (m := 1) (by walk_at "in") (by decide) (by walk_at "in") (by decide) (n_le hn) ?_ rfl
  walk_at "m1"
  refine ⟨a, w, _, rfl, hm, cCnt hm ?_⟩
  walk_at "m1"
  refine TO2.eqI ?_
  refine ⟨false, ?_, ?_⟩
  · congr 1
    simp
    omega
  walk_at "no"
  walk_at "m1"
  show TXsA g C _ _ _ _
  refine TXsA.cons (TXA.ret ?_)
  refine TA.superCall (.inr (.inl rfl)) E (by walk_at "mem") (by walk_at "mem") hm (by decide) desc_pop (.inl rfl) (by rfl) (by decide +kernel) PySem.F.entry_list_pop (fun gs q => ck_pop gs.toGoodS hm q) (fun s gs E' => ?_) rfl
  obtain ⟨items, n, d, sl, x, ho, rv, hd, hx, hN⟩ := pileAt gs.toGoodS hm
  have e : items.size = vs.length + 1 := by have := rv.length; simpa using this.symm
  have h0 : 0 < items.size := by omega
  obtain ⟨r1, r2⟩ := snoc_erase rv h0
  refine run_pop ho h0 (by omega) ⟨_, rfl, ?_⟩
  have hsA : Heap.SameBut a s.heap (s.heap.update a (Obj.mapSeq fun xs => xs.eraseIdxIfInBounds (items.size - 1))) := Heap.SameBut.update ..
  have kT : TupK s.heap (s.heap.update a (Obj.mapSeq fun xs => xs.eraseIdxIfInBounds (items.size - 1))) := fun b its m e => (hsA.2 b fun h => by subst h; rw [ho] at e; simp at e).trans e
  have hNs : (s.heap.update a (Obj.mapSeq fun xs => xs.eraseIdxIfInBounds (items.size - 1))).Ns d (only x) := hN.sameBut hsA fun h => by
    subst h; obtain ⟨o', es, ep, e', hd', _⟩ := hN; rw [ho] at e'; cases e'; cases hd'
  obtain ⟨a1, a2⟩ := gs.put (s' := { s with heap := s.heap.update a (Obj.mapSeq fun xs => xs.eraseIdxIfInBounds (items.size - 1)) }) (c := .acc w vs) hm hsA
    ⟨items.eraseIdxIfInBounds (items.size - 1), _, d, sl, x, Heap.get?_update_self (Obj.mapSeq fun xs => xs.eraseIdxIfInBounds (items.size - 1)) ho rfl, r1.mono kT, hd, hx.mono kT, hNs⟩ rfl rfl
  exact ⟨v, _, r2.mono kT, a1, a2, q⟩
end
end
section -- P51
section
variable {g : G}
theorem keepK {K : W.Frag} (k : AccK K) : W.keepIn K (.ref 137) = true := by
  obtain ⟨oc, od, cd, sl, hl, _⟩ := k.cls
  unfold W.keepIn; simp only [hl, k.call]; rfl
/-- what a class call looks up -/
structure Mk (M : Model) (h : Heap) : Prop where
  obj : ∃ oc od cd sl, h.get? 137 = some ⟨oc, od, .cls cd, sl⟩ ∧ cd.abstract = false ∧ cd.hasDel = false ∧ cd.mro = [.ref 137, .type "list", .type "object"] ∧ cd.hasDict = true
  made : W.Looks M h (Bind.madeBy (.ref 137)) (some "list.__new__")
  base : W.Looks M h (Bind.staticBase (.ref 137)) (.ref 137)
  self : W.Looks M h (isSubtype (.ref 137) (.ref 137)) true
  lst : W.Looks M h (isSubtype (.ref 137) (.type "list")) true
  top : W.Looks M h (isSubtype (.ref 137) (.type "object")) true
  call : W.Looks M h (specialOf (.ref 137) "__call__") (some (.builtin "type.__call__"))
  typ : W.Looks M h (isInstance (.ref 137) (.type "type")) true
  init : W.Looks M h (typeLookup (.ref 137) "__init__") (some (.ref 74))
  ib : ∀ self, W.Looks M h (bindSpecial (.ref 74) self) (.ref 74, [self])
theorem Mk.of {M : Model} {s : Shared} (b : Base g.H s.heap) : Mk M s.heap := by
  obtain ⟨oC, oN, X, k⟩ := classK b
  obtain ⟨oc, od, cd, sl, hl, e1, e2, e3, e4, e5, e6, e7⟩ := k.cls
  have hc : W.clsIn [(137, oC), (136, oN)] 137 = some cd := by unfold W.clsIn; rw [hl]
  have hm : W.Looks M s.heap (mroOf (.ref 137)) cd.mro := (W.looks_clsIn X hc).andThen .now
  have made : W.Looks M s.heap (Bind.madeBy (.ref 137)) (some "list.__new__") := by
    intro A Q E s k q
    unfold Bind.madeBy
    refine wpAny_bind (hm A _ E s k ?_)
    rw [e3, List.forIn_cons]
    refine wpAny_bind (wpAny_bind (wpAny_bind (wpAny_bind (wpAny_loadPart (k _ _ (X _ _ hl)) (wpAny_pure ?_)))))
    dsimp only
    rw [← Array.getElem?_toList, e4]
    exact wpAny_pure (wpAny_pure (wpAny_pure q))
  refine ⟨⟨oc, od, cd, sl, X _ _ hl, e1, e2, e3, e7⟩, made, ?_, W.looks_subIn X k.subS, W.looks_subIn X k.subL, W.looks_subIn X k.subO, W.looks_specialIn X k.call, W.looks_instIn X k.inst, W.looks_findIn X (k.rows ("__init__", some (.ref 74)) (by unfold accRows; simp)), fun self => ?_⟩
  · intro A Q E s k q
    unfold Bind.staticBase
    refine wpAny_bind (hm A _ E s k ?_)
    rw [e3, List.forIn_cons]
    exact wpAny_bind (wpAny_bind (wpAny_bind (made A _ E s k (wpAny_pure (wpAny_pure (wpAny_pure q))))))
  · unfold bindSpecial
    exact (fnType b (f := fInit) (by unfold meths; simp) (by decide)).andThen (W.Looks.of_pure (by kernel_rfl))
end
section
open PySem.W
variable {prog : Program} {w : World} {A : Around} {R : Result → Shared → Prop} {h : Heap} {gg : Array GenState} {d : Drawn} {t : Nat} {os : OsState}
noncomputable abbrev pileObj (dx : Addr) : Obj := { cls := .ref 137, dict := some dx, data := .seq #[] }
theorem ln_args (rest : List Value) : (match Manifest.signature? "list.__new__" with | some sig => Bind.checkArgs "list.__new__" sig ⟨.ref 137 :: rest, []⟩ | none => pure ()) = pure () := by kernel_rfl
theorem new_L {rest : List Value} (Y : Mk (model prog w) h)
    (hq : R (.ok (.ret (.ref (h.objs.size + 1)))) ⟨(h.push emptyDict).push (pileObj h.objs.size), gg, d, t, os⟩) :
    codeAny (model prog w) A (.call (.builtin "list.__new__") ⟨.ref 137 :: rest, []⟩) R ⟨h, gg, d, t, os⟩ := by
  obtain ⟨⟨oc, od, cd, sl, hC, e1, e2, e4, e5⟩, made, base, self, lst, top, call, typ, init, ib⟩ := Y
  have hq' := plainId_quiet PySem.F.plain_list_new
  have hk : builtinKind "list.__new__" = some .builtinFn := by decide +kernel
  have hs : splitId "list.__new__" = some ("list", "__new__") := by decide +kernel
  have ha := ln_args rest
  refine codeAny_call_builtin_code (hq' _) ?_
  simp only [checkBuiltinCall, hk, hs]
  repeat (first | simp only [bne_self_eq_false, Bool.false_eq_true, if_false] | lk)
  refine codeAny_builtin_stack PySem.F.entry_list_new rfl fun p st => ?_
  rw [Around.under_plainId PySem.F.plain_list_new _]
  simp only [owner_list_new]
  repeat (first | simp only [Bool.false_eq_true, if_false, Bool.not_true] | lk)
  refine wpAny_load (Heap.get?_push_of_some _ (Heap.get?_push_of_some _ hC)) ?_
  refine wpAny_pure ?_
  rw [e2]
  refine wpAny_pure (wpAny_pure ?_)
  show R _ _
  rw [Heap.size_push]
  exact hq
theorem make_L {rest : List Value} (Y : Mk (model prog w) h)
    (hq : codeAny (model prog w) (A.under (.builtin "type.__call__" ⟨.ref 137 :: rest, []⟩)) (.call (.ref 74) ⟨.ref (h.objs.size + 1) :: rest, []⟩) (InitBack (h.objs.size + 1) R) ⟨(h.push emptyDict).push (pileObj h.objs.size), gg, d, t, os⟩) :
    codeAny (model prog w) A (.call (.ref 137) ⟨rest, []⟩) R ⟨h, gg, d, t, os⟩ := by
  have Y' := Y
  obtain ⟨⟨oc, od, cd, sl, hC, e1, e2, e4, e5⟩, made, base, self, lst, top, call, typ, init, ib⟩ := Y
  have ne : cd.mro.isEmpty = false := by rw [e4]; rfl
  refine codeAny_of_tree ?_
  show wpAny _ _ (callAny (.ref 137) _) _ _ _
  refine nd_load hC ?_
  show wpAny _ _ (callAny.viaDunder (.ref 137) _) _ _ _
  unfold callAny.viaDunder
  refine wpAny_bind (call.at ?_)
  dsimp only
  rw [tc_bind]
  refine wpAny_bind (wpAny_pure (wpAny_bind (wpAny_pure ?_)))
  refine wpAny_pure (a := Fin.again (.call (.builtin "type.__call__") ⟨.ref 137 :: rest, []⟩)) (And.intro rfl ?_)
  refine codeAny_call_builtin_at (Code.quiet_builtin _ (by decide +kernel)) entry_typeCall (check_slot tc_kind tc_split typ (tc_args _ _ _) ?_)
  unfold Builtin.«type.__call__»
  have hm : Looks (model prog w) h (mroOf (.ref 137)) cd.mro := ((Looks.ld (part := none) hC).andThen .now).andThen .now
  repeat (first | simp only [ne, Bool.false_eq_true, if_false] | with_reducible refine wpAny_call ?_ | lk)
  refine new_L Y' ?_
  have k : ∀ b o, h.get? b = some o → ((h.push emptyDict).push (pileObj h.objs.size)).get? b = some o := fun b o e => Heap.get?_push_of_some _ (Heap.get?_push_of_some _ e)
  have hx : ((h.push emptyDict).push (pileObj h.objs.size)).get? (h.objs.size + 1) = some (pileObj h.objs.size) := by heap_get
  have t1 : Looks (model prog w) ((h.push emptyDict).push (pileObj h.objs.size)) (typeOf (.ref (h.objs.size + 1))) (.ref 137) := (Looks.ld hx).andThen .now
  have s1 := self.keeps k
  have i1 := init.keeps k
  have b1 := (ib (.ref (h.objs.size + 1))).keeps k
  unfold isInstance callSpecial? specialOf
  repeat (first | with_reducible refine wpAny_call ?_ | lk)
  refine codeAny_mono hq fun r s' z => ?_
  rcases r with e | (v | _ | _ | _) <;> first | exact z | exact z.elim | skip
  obtain ⟨rfl, z⟩ := z
  exact wpAny_pure (wpAny_pure z)
theorem refuse_list (self : Value) : refuseLoop self "__setattr__" [.type "list", .type "object"] = pure () := by kernel_rfl
/-- self._initial_size = v, in a new pile -/
theorem setAttr_L {g : G} {E : Value → Shared → Prop} {s : Shared} {a dx : Addr} {k : Nat} {sl : Array (Option Value)} {items : Array Value} {v : Value} {Q : Unit → Shared → Prop} (b : Base g.H s.heap)
    (hx : s.heap.get? a = some { cls := .ref 137, dict := some dx, data := .seq items k, slots := sl }) (hn : s.heap.Ns1 dx (fun _ => none))
    (hq : ∀ h' tk, h'.Ns1 dx (only v) → Heap.SameBut dx s.heap h' → Q () { s with heap := h', toks := tk }) :
    wpAny g.M A (setAttr (.ref a) "_initial_size" v) Q E s := by
  obtain ⟨h, gg, d, tk, os⟩ := s
  obtain ⟨oC, oN, X, k⟩ := classK b
  dsimp only at hx hn X
  obtain ⟨oc, od, cd, sl', hl, f1, f2, f3, f4, f5, f6, f7⟩ := k.cls
  have hc : clsIn [(137, oC), (136, oN)] 137 = some cd := by unfold clsIn; rw [hl]
  have hD := X _ _ hl
  have hm : Looks g.M h (mroOf (.ref 137)) cd.mro := (looks_clsIn X hc).andThen .now
  have r1 := looks_findIn (M := g.M) X (k.rows ("__setattr__", some (.builtin "object.__setattr__")) (by unfold accRows; simp))
  have r2 := looks_findIn (M := g.M) X (k.rows ("_initial_size", none) (by unfold accRows; simp))
  have t1 : Looks g.M h (typeOf (.ref a)) (.ref 137) := (Looks.ld hx).andThen .now
  have SF := PySem.F.store_object
  have sub : Looks g.M h (isInstance (.ref a) (.type "object")) true := t1.andThen (looks_subIn X k.subO)
  unfold setAttr callSpecial? specialOf
  refine wpAny_bind (wpAny_mkText ?_)
  refine wpAny_bind (wpAny_bind (wpAny_bind (t1.at (r1.at ?_))))
  dsimp only
  rw [SF.slot.bind]
  refine wpAny_holding (wpAny_bind (wpAny_pure (wpAny_bind (wpAny_call ?_))))
  refine codeAny_call_builtin SF.slot.plain SF.entry (@check_slot g.M _ _ _ "object.__setattr__" "object" "__setattr__" (.ref a) [.str "_initial_size" tk, v] [] _ SF.kind SF.split sub (SF.args (.ref a) (.str "_initial_size" tk) v) ?_)
  show wpAny _ _ (Builtin.«object.__setattr__» ⟨[.ref a, .str "_initial_size" tk, v], []⟩) _ _ _
  rw [osa_eq, refuse_eq]
  refine wpAny_bind (wpAny_bind (t1.at (wpAny_bind (hm.at ?_))))
  rw [f3, refuseLoop_ref, refuse_list]
  refine wpAny_pure (wpAny_bind (t1.at (wpAny_bind (r2.at (wpAny_bind (wpAny_pure ?_))))))
  show wpAny _ _ (Builtin.ObjectAttr.storeInOwnDict _ _ _ _ _ _) _ _ _
  refine wpAny_bind (wpAny_pure (wpAny_bind (wpAny_bind (wpAny_loadPart hx (wpAny_bind ((looks_clsIn X hc).at ?_))))))
  rw [f7]
  refine wpAny_pure (a := some dx) (wpAny_bind (wpAny_pure (wpAny_bind ?_)))
  refine wpAny_nsSet1 hn fun h' hn' hs => ?_
  obtain ⟨oD, esD, epD, hoD, hdD, hcD⟩ := hn'.count (ns := ["_initial_size"]) (by within_ways)
  refine wpAny_bind (wpAny_lookBehind hoD (by rw [hdD]; exact pastItsLine_dict (Nat.le_trans hcD (by rw [List.length_cons, List.length_nil, sizeLine_eq]; omega))) ?_)
  refine wpAny_pure ?_
  refine wpAny_pure (wpAny_pure ?_)
  exact hq _ _ hn' hs
end
end
section -- P52
section
variable {g : G}
theorem ck_init (a : Addr) : checkBoundCall "list.__init__" ⟨[.ref a], []⟩ = pure () := by first | kernel_rfl | rfl
theorem GoodS.has {s : Shared} {sto : Sto} (gs : GoodS g sto s) {p : Addr × Cell} (hp : p ∈ sto) : ∃ o, s.heap.get? p.1 = some o := by
  have := gs.cells p hp
  obtain ⟨q, c⟩ := p
  cases c with
  | list vs => obtain ⟨_, _, e, _⟩ := this; exact ⟨_, e⟩
  | acc iv vs => obtain ⟨_, _, _, _, _, e, _⟩ := this; exact ⟨_, e⟩
theorem put_head {sto : Sto} {a : Addr} {c d : Cell} (h : ∀ p ∈ sto, p.1 ≠ a) : put ((a, c) :: sto) a d = (a, d) :: sto := by
  unfold put
  rw [List.map_cons, if_pos rfl]
  congr 1
  have : ∀ p ∈ sto, (if p.1 = a then (a, d) else p) = id p := fun p hp => if_neg (h p hp)
  rw [List.map_congr_left this, List.map_id]
theorem run_init {A : Around} {E : Value → Shared → Prop} {s : Shared} {P : PySem.Fin → Shared → Prop} {a : Addr} {k : Nat} {d : Option Addr} {sl : Array (Option Value)} {c : Value} (ho : s.heap.get? a = some { cls := c, dict := d, data := .seq #[] k, slots := sl })
    (h : P (.done (.ret .none)) { s with heap := s.heap.update a (Obj.mapSeq fun _ => #[]) }) : wpAny g.M A (Builtin.«list.__init__» ⟨[.ref a], []⟩) P E s := by
  show wpAny _ _ (do let old ← Builtin.List.listItems (.ref a); Builtin.List.listUpdate (.ref a) (fun _ => #[]); letGo old.toList.reverse; ret .none) _ _ s
  refine wpAny_bind (listItems_at ho rfl ?_)
  refine wpAny_bind (listUpdate_at ho rfl ?_ (by rw [sizeLine_eq]; simp) (by rw [sizeLine_eq]; simp))
  refine wpAny_bind (wpAny_letGo ?_)
  exact wpAny_pure h
/-- a new pile -/
theorem cNew {x : V} {args : List V} {sto : Sto} {Q : V → Sto → Prop} (hb : ∀ a, Bnd g fInit (.ref a :: args) [] [] ["self", "initial_size"] [.ref a, x]) (q : ∀ a, (∀ p ∈ sto, p.1 ≠ a) → Q (.ref a) ((a, .acc x []) :: sto)) : TC g 4 (.ref 137) args [] [] Q sto := by
  intro A s vals kvals hd hu hh gs rv rk
  cases rk
  show codeAny g.M A (.call (.ref 137) ⟨vals, []⟩) _ s
  obtain ⟨h, gg, d, t, os⟩ := s
  refine make_L (Mk.of gs.base) ?_
  let a : Addr := h.objs.size + 1
  let s1 : Shared := ⟨(h.push W.emptyDict).push (pileObj h.objs.size), gg, d, t, os⟩
  have k1 : ∀ b o, h.get? b = some o → s1.heap.get? b = some o := fun b o e => Heap.get?_push_of_some _ (Heap.get?_push_of_some _ e)
  have gs1 : GoodS g sto s1 := gs.ext k1 rfl rfl
  have hx : s1.heap.get? a = some (pileObj h.objs.size) := by show ((h.push W.emptyDict).push (pileObj h.objs.size)).get? (h.objs.size + 1) = _; heap_get
  have hdx : s1.heap.get? h.objs.size = some W.emptyDict := by show ((h.push W.emptyDict).push (pileObj h.objs.size)).get? h.objs.size = _; heap_get
  obtain ⟨o, fd, ho, hdat, e1, e2, e3, e4, e5, e6, e7, e8, e9, e10, hrec⟩ := meth_of (g := g) (f := fInit) (by walk_at "in")
  have rv1 : VRs s1.heap (.ref a :: args) (.ref a :: vals) := .cons (.ref a) (rv.mono fun b _ _ e => k1 _ _ e)
  obtain ⟨xs, rxs, hlx, hbt⟩ := hb a fd e2 e7 e8 s1 (.ref a :: vals) [] gs1.base rv1 VRs.nil
  have hwt : (Code.builtin "type.__call__" ⟨.ref 137 :: vals, []⟩).weight ≤ 2 := by
    have : (Code.builtin "type.__call__" ⟨.ref 137 :: vals, []⟩).weight = 1 := by kernel_rfl
    omega
  have hcu : (Code.builtin "type.__call__" ⟨.ref 137 :: vals, []⟩).cUnits ≤ 10 := by
    have : (Code.builtin "type.__call__" ⟨.ref 137 :: vals, []⟩).cUnits = 1 := by kernel_rfl
    omega
  have hd' : (A.under (.builtin "type.__call__" ⟨.ref 137 :: vals, []⟩)).depth + 4 * 3 < 900 := by show A.depth + _ + _ < 900; omega
  have hu' : (A.under (.builtin "type.__call__" ⟨.ref 137 :: vals, []⟩)).units + 40 * 3 < 9000 := by show A.units + _ + _ < 9000; omega
  have hh' : (A.under (.builtin "type.__call__" ⟨.ref 137 :: vals, []⟩)).handled = none := hh
  generalize (A.under (.builtin "type.__call__" ⟨.ref 137 :: vals, []⟩)) = A1 at hd' hu' hh' ⊢
  have kp : ∀ b o, g.H.get? b = some o → b ∉ tbls → s1.heap.get? b = some o := gs1.base.keep
  have hcl := clsCell (g := g) (f := fInit) (ns := ["self", "initial_size"]) (.inl rfl) (by decide)
  refine ks_codeAny_call_defAt (s := s1) (by show A1.depth < 1000; omega) (kp _ _ ho (by decide)) hdat ?_ ?_ e3 hbt (by rw [e4]; decide) (fun y hy => by rw [e4]; exact (show ∀ x ∈ (["self", "initial_size"] : List Str), fInit.sc.names.lookup x = some .local by decide) _ (zip_fst hy)) (fun h₁ hns hk₁ => ?_) (e4 ▸ rfl) (e4 ▸ rfl) (e4 ▸ rfl)
  · obtain ⟨mc, ⟨oc, es, ep, hoc, r⟩, q⟩ := g.top.nolim
    exact ⟨mc, ⟨oc, es, ep, kp _ _ hoc (by decide), r⟩, q⟩
  · obtain ⟨c, oc, vs, t, hc, hoc, r⟩ := hrec
    cases hc
    rw [e9, e1]
    exact ⟨fInit.c, oc, vs, t, rfl, kp _ _ hoc (by decide), r⟩
  have hL : g.H.objs.size ≤ s1.heap.objs.size := gs1.base.size
  have ecl : (callEnv fd s1.heap.objs.size fInit.a).cells = fInit.cl := e6
  have ci : ∀ x y c, (callEnv fd s1.heap.objs.size fInit.a).cells.lookup x = some c → (callEnv fd s1.heap.objs.size fInit.a).cells.lookup y = some c → x = y := fun x y c hx hy => by
    rw [ecl] at hx hy
    have h1 := mem_of_lookup hx
    have h2 := mem_of_lookup hy
    rw [show fInit.cl = [(("__class__" : Str), 61)] from rfl, List.mem_singleton] at h1 h2
    rw [Prod.mk.injEq] at h1 h2
    rw [h1.1, h2.1]
  have kd : (callEnv fd s1.heap.objs.size fInit.a).scope.kind = .function := by show fd.scope.kind = _; rw [e4]; rfl
  let C : Fm g := ⟨A1.deeper (callEnv fd s1.heap.objs.size fInit.a), callEnv fd s1.heap.objs.size fInit.a, 2, kd, e5, e10, (by show A1.depth + 1 + 4 * 2 < 900; omega), (by show A1.units + 3 + 40 * 2 < 9000; omega), hh', hL, ci, fun _ => False, fun _ h => h.elim⟩
  have hkk : ∀ y, C.env.kindOf y = fInit.sc.names.lookup y := fun y => by show fd.scope.names.lookup y = _; rw [e4]
  have isE : IsEnv g fInit C := ⟨e4, e9, rfl, by show fd.qualname ++ _ = _; rw [e1], rfl, fun y hy h' => absurd rfl ((show ∀ x ∈ fInit.sc.names, x.2 ≠ .cell by decide) _ (mem_of_lookup hy)), fun p hp => by
        show (callEnv fd s1.heap.objs.size fInit.a).cells.lookup p.1 = some p.2
        rw [ecl]
        exact lookup_one (by decide) hp⟩
  obtain ⟨y1, y2, rfl, ry1, ry2⟩ := rxs.two
  cases ry1
  let s2 : Shared := { s1 with heap := h₁, toks := s1.toks + ((["self", "initial_size"] : List Str).zip [Value.ref a, y2]).length }
  have gs2 : GoodS g sto s2 := gs1.ext hk₁ rfl rfl
  have kself : C.env.kindOf "self" = some .local := (hkk _).trans (by rfl)
  have kini : C.env.kindOf "initial_size" = some .local := (hkk _).trans (by rfl)
  show PySem.wpAt g.M C.A (.func fInit.body C.env) (execs fInit.body C.env) _ _ s2
  refine ks_wpAt_execs_cons (PySem.wpAt_of_wpAny ?_)
  have hnl : (("initial_size" : Str), y2) ∈ (["self", "initial_size"] : List Str).zip [Value.ref a, y2] := by simp
  refine plainObj_wpAny_Assign_Attribute (wpAny_Name (wpAny_loadName_local C.kind kini hns (v := y2) (by simp) (wpAny_Name (wpAny_loadName_local C.kind kself hns (v := .ref a) (by rfl) ?_) (by decide))) (by decide))
  have k2 : ∀ b o, s1.heap.get? b = some o → s2.heap.get? b = some o := hk₁
  refine setAttr_L gs2.base (k2 _ _ hx) (Heap.Ns1.of_empty ⟨_, #[], _, k2 _ _ hdx, rfl, fun e he => absurd he (by simp), fun _ => rfl⟩) fun h' tk hn' hs' => ?_
  let s3 : Shared := { heap := h', gens := s2.gens, drawn := s2.drawn, toks := tk, os := s2.os }
  have k3 : ∀ b o, h.get? b = some o → s3.heap.get? b = some o := fun b o e => (hs'.2 b (Nat.ne_of_lt (Heap.lt_size e))).trans (k2 _ _ (k1 _ _ e))
  have fresh : ∀ p ∈ sto, p.1 ≠ a := fun p hp e => by
    obtain ⟨o, ho⟩ := GoodS.has gs hp
    rw [e] at ho
    exact absurd (Heap.lt_size ho) (by show ¬ (h.objs.size + 1 < h.objs.size); omega)
  have hc : CellR s3.heap g.H.objs.size a (.acc x []) := ⟨#[], _, h.objs.size, _, y2, (hs'.2 a (Nat.succ_ne_self _)).trans (k2 _ _ hx), VRs.nil, gs.base.size, ry2.mono fun b _ _ e => (hs'.2 b (fun hb => by subst hb; rw [hdx] at e; simp at e)).trans (k2 _ _ e), hn'.ns⟩
  have gs3 : GoodS g ((a, .acc x []) :: sto) s3 := gs.push (gs.ext k3 rfl rfl) (none_size (Nat.le_succ _)) (Nat.le_succ _) hc
  have hlo : s1.heap.objs.size = h.objs.size + 2 := by show ((h.push W.emptyDict).push (pileObj h.objs.size)).objs.size = _; rw [Heap.size_push, Heap.size_push]
  have gF : GoodF g C ⟨[("self", .ref a), ("__class__", .val (.ref 137))], (a, .acc x []) :: sto⟩ s3 := by
    refine ⟨gs3, ⟨_, hns.sameBut hs' (by show s1.heap.objs.size ≠ h.objs.size; rw [hlo]; omega), by rfl, fun p hp => ?_⟩, fun b hb => hb.elim⟩
    rcases List.mem_cons.mp hp with rfl | hp
    · exact ⟨.ref a, .inl ⟨kself, by rfl⟩, VR.ref a⟩
    · rw [List.mem_singleton] at hp
      subst hp
      obtain ⟨h1, h2, h3', h4, o, ho, hd'⟩ := hcl ("__class__", 61) (by decide)
      refine ⟨_, .inr ⟨.inr ((hkk _).trans h1), 61, ?_, o, ?_, hd'⟩, VR.val _⟩
      · show (callEnv fd s1.heap.objs.size fInit.a).cells.lookup ("__class__" : Str) = some 61
        rw [ecl]; rfl
      · exact k3 _ _ (gs.base.keep _ _ ho h3')
  show PySem.wpAt g.M C.A (.func fInit.body C.env) (execs _ C.env) _ _ s3
  have hb2 : TXsA g C fInit.body (fInit.body.drop 1) (fun f st1 => f = .next ∧ st1.sto = (a, .acc x []) :: sto) ⟨[("self", .ref a), ("__class__", .val (.ref 137))], (a, .acc x []) :: sto⟩ := by
    refine TXsA.cons (TXA.expr ?_ notInter rfl)
    refine TA.superCall (.inl rfl) isE (by walk_at "mem") (by walk_at "mem") (w := x) (vs := []) List.mem_cons_self (by decide) desc_init (.inr rfl) (by rfl) (by decide +kernel) PySem.F.entry_list_init (fun gs q => wpAny_of_eq (ck_init a) q) (fun s gs E' => ?_) rfl
    obtain ⟨items, n, dd, sl, xx, ho, rv, hd, hx, hN⟩ := pileAt gs.toGoodS (a := a) (w := x) (vs := []) List.mem_cons_self
    have hi : items = #[] := by
      have := rv.length
      simp at this
      exact Array.eq_empty_of_size_eq_zero this.symm
    subst hi
    refine run_init ho ⟨_, rfl, ?_⟩
    have hsA : Heap.SameBut a s.heap (s.heap.update a (Obj.mapSeq fun _ => #[])) := Heap.SameBut.update ..
    have kT : TupK s.heap (s.heap.update a (Obj.mapSeq fun _ => #[])) := fun b its m e => (hsA.2 b fun h => by subst h; rw [ho] at e; simp at e).trans e
    have hNs : (s.heap.update a (Obj.mapSeq fun _ => #[])).Ns dd (only xx) := hN.sameBut hsA fun h => by
      subst h; obtain ⟨o', es, ep, e', hd', _⟩ := hN; rw [ho] at e'; cases e'; cases hd'
    obtain ⟨a1, a2⟩ := gs.put (s' := { s with heap := s.heap.update a (Obj.mapSeq fun _ => #[]) }) (a := a) (c₀ := .acc x []) (c := .acc x []) List.mem_cons_self hsA
      ⟨#[], _, dd, sl, xx, Heap.get?_update_self (Obj.mapSeq fun _ => #[]) ho rfl, VRs.nil, hd, hx.mono kT, hNs⟩ rfl rfl
    exact ⟨.none, _, VR.none, a1, a2, TrA.of (TXs.nil ⟨rfl, put_head fresh⟩)⟩
  refine ks_wpAt_mono (hb2 s3 gF) (fun fl s' ⟨f', st', rf, g', x', q1, q2⟩ => ?_) noE.any
  subst q1
  cases rf
  refine ⟨rfl, .ref a, .ref a, st'.sto, rfl, VR.ref a, g'.toGoodS, ?_, q2 ▸ q a fresh⟩
  refine ⟨fun b o e n => ?_, fun b hb => ?_, fun gn hgn => x'.gens gn hgn, x'.gsize⟩
  · have hlt : b < h.objs.size := Heap.lt_size e
    refine x'.keep b o (k3 _ _ e) ?_
    rintro ((z | z) | z | z)
    · rw [List.map_cons] at z
      rcases List.mem_cons.mp z with z | z
      · have z : b = h.objs.size + 1 := z
        rw [z] at hlt
        exact Nat.not_lt.mpr (Nat.le_succ _) hlt
      · exact n (.inl z)
    · exact n (.inr z)
    · have z : b = s1.heap.objs.size := z
      rw [z, hlo] at hlt
      exact Nat.not_lt.mpr (Nat.le_add_right _ _) hlt
    · exact z.elim
  · rcases x'.grow b (.inl hb) with ((z | z) | z | z) | z
    · rw [List.map_cons] at z
      rcases List.mem_cons.mp z with z | z
      · exact .inr (none_size (by show h.objs.size ≤ b; rw [z]; exact Nat.le_succ _))
      · exact .inl (.inl z)
    · exact .inl (.inr z)
    · have z : b = s1.heap.objs.size := z
      exact .inr (none_size (by rw [z, hlo]; show h.objs.size ≤ h.objs.size + 2; omega))
    · exact z.elim
    · exact .inr fun o e => z _ (k3 _ _ e)
end
end
section -- P53
section
variable {g : G} {s : Shared}
theorem next_item {M : Model} {A : Around} {E : Value → Shared → Prop} {it l : Addr} {i : Nat} {ol : Obj} {items : Array Value} {n : Nat} {x : Value} {Q : Option Value → Shared → Prop} (hit : s.heap.IsListIter it l i)
    (hol : s.heap.get? l = some ol) (hdl : ol.data = .seq items n) (hx : items[i]? = some x)
    (hQ : ∀ h', h'.IsListIter it l (i + 1) → Heap.SameBut it s.heap h' → Q (some x) { s with heap := h' }) : wpAny g.M A (pyNext (.ref it)) Q E s := by
  obtain ⟨o, ho, hc, hd⟩ := id hit
  unfold pyNext
  refine wpAny_bind (wpAny_attempt (wpAny_callSpecial?_slot (name := Str.ofString "__next__") hit.typeIs slot_listiter_next (wpAny_call_entry slot_listiter_next hit.typeIs entry_listiter_next ?_ (args_listiter_next _))))
  show wpAny _ _ (field (.ref it) 0 >>= _) _ _ s
  refine wpAny_bind (wpAny_field ho hd (x := .ref l) rfl ?_)
  show wpAny _ _ (if (Value.ref l == Value.none) = true then _ else _) _ _ s
  first | refine iteF (show ¬ ((Value.ref l == Value.none) = true) from Bool.false_ne_true) ?_ | rw [if_neg (show ¬ ((Value.ref l == Value.none) = true) from Bool.false_ne_true)]
  show wpAny _ _ (field (.ref it) 1 >>= _) _ _ s
  refine wpAny_bind (wpAny_field ho hd (x := .int i 0) rfl ?_)
  show wpAny _ _ (seqItems? (.ref l) >>= _) _ _ s
  refine wpAny_bind (wpAny_seqItems hol hdl ?_)
  simp only [Int.toNat_natCast, hx]
  refine wpAny_bind (wpAny_setField ho hd (by simp) (wpAny_pure ⟨x, rfl, wpAny_pure (hQ _ ⟨_, Heap.get?_update_self _ ho (Obj.isFreed_of_fields (Obj.data_mapFields hd _)), (Obj.cls_mapFields ..).trans hc, ?_⟩ (Heap.SameBut.update ..))⟩))
  rw [Obj.data_mapFields hd]; simp [rawInt]
theorem next_end {A : Around} {E : Value → Shared → Prop} {it l : Addr} {i : Nat} {ol : Obj} {items : Array Value} {n : Nat} {Q : Option Value → Shared → Prop} (hh : A.handled = none) (hit : s.heap.IsListIter it l i)
    (hol : s.heap.get? l = some ol) (hdl : ol.data = .seq items n) (hx : items[i]? = none)
    (hQ : ∀ h', Heap.ExtBut it s.heap h' → Q none { s with heap := h' }) : wpAny g.M A (pyNext (.ref it)) Q E s := by
  obtain ⟨o, ho, hc, hd⟩ := id hit
  unfold pyNext
  refine wpAny_bind (wpAny_attempt (wpAny_callSpecial?_slot (name := Str.ofString "__next__") hit.typeIs slot_listiter_next (wpAny_call_entry slot_listiter_next hit.typeIs entry_listiter_next ?_ (args_listiter_next _))))
  show wpAny _ _ (field (.ref it) 0 >>= _) _ _ s
  refine wpAny_bind (wpAny_field ho hd (x := .ref l) rfl ?_)
  show wpAny _ _ (if (Value.ref l == Value.none) = true then _ else _) _ _ s
  first | refine iteF (show ¬ ((Value.ref l == Value.none) = true) from Bool.false_ne_true) ?_ | rw [if_neg (show ¬ ((Value.ref l == Value.none) = true) from Bool.false_ne_true)]
  show wpAny _ _ (field (.ref it) 1 >>= _) _ _ s
  refine wpAny_bind (wpAny_field ho hd (x := .int i 0) rfl ?_)
  show wpAny _ _ (seqItems? (.ref l) >>= _) _ _ s
  refine wpAny_bind (wpAny_seqItems hol hdl ?_)
  simp only [Int.toNat_natCast, hx]
  refine wpAny_bind (wpAny_rule (wpAny_bind (wpAny_setField ho hd (by simp) ?_)))
  show wpAny _ _ (newExc (.type "StopIteration") [] >>= _) _ _ _
  refine wpAny_bind ?_
  simp only [newExc, newTuple]
  refine wpAny_bind (wpAny_newObj_type ?_ (by size_fits))
  refine wpAny_bind (m := firstArgMember _ _) (wpAny_of_eq (a := Value.none) (by first | rfl | (simp only [firstArgMember]; rfl)) ?_)
  refine wpAny_newObj_type ?_ (by size_fits)
  unfold raiseNew
  refine wpAny_bind (wpAny_handled ?_)
  rw [show A.in1.handled = none from hh]
  refine wpAny_bind (wpAny_pure (wpAny_throw ?_))
  refine wpAny_bind (wpAny_isInstance (T := "StopIteration") (b := true) ⟨_, Heap.get?_push_size _ rfl, rfl⟩ isSubtype_stop ?_)
  exact wpAny_pure (hQ _ (((Heap.SameBut.update ..).extBut.push _).push _))

noncomputable abbrev Piece := Str × Str
/-- where the pieces lie -/
noncomputable def TupsAt (h : Heap) (ts : List Addr) (ps : List Piece) : Prop := ts.length = ps.length ∧ ∀ (j : Nat) (t : Addr) (p : Piece), ts[j]? = some t → ps[j]? = some p → ∃ u v n, h.get? t = some { cls := .type "tuple", data := .seq #[.str p.1 u, .str p.2 v] n }
theorem VRs.str2 {h : Heap} {x y : Str} {xs : List Value} (r : VRs h [.str x, .str y] xs) : ∃ u v, xs = [.str x u, .str y v] := by
  cases r with
  | cons a b => cases b with
    | cons b c => cases c; cases a; cases b; exact ⟨_, _, rfl⟩
theorem tups_of {h : Heap} {ps : List Piece} {xs : List Value} (r : VRs h (ps.map pv) xs) : ∃ ts : List Addr, xs = ts.map Value.ref ∧ TupsAt h ts ps := by
  induction ps generalizing xs with
  | nil => cases r; exact ⟨[], rfl, rfl, fun j t p h1 => by cases h1⟩
  | cons p ps ih =>
    obtain ⟨x, ys, rfl, a, b⟩ := VRs.consI r
    obtain ⟨ts, rfl, h1, h2⟩ := ih b
    have a : VR h (.tup [.str p.1, .str p.2]) x := a
    cases a with
    | @tup t items n _ ho hv =>
      obtain ⟨u, v, e2⟩ := hv.str2
      have e3 : items = #[.str p.1 u, .str p.2 v] := by rw [← Array.toArray_toList (xs := items), e2]
      subst e3
      refine ⟨t :: ts, rfl, congrArg Nat.succ h1, fun j t' p' h3 h4 => ?_⟩
      cases j with
      | zero => cases h3; cases h4; exact ⟨u, v, n, ho⟩
      | succ j => exact h2 j t' p' h3 h4
noncomputable def PSt (it a : Addr) (oP : Obj) (ts : List Addr) (ps : List Piece) (i : Nat) (h : Heap) : Prop := h.IsListIter it a i ∧ h.get? a = some oP ∧ TupsAt h ts ps
theorem PSt.mono {it a : Addr} {oP : Obj} {ts : List Addr} {ps : List Piece} {i : Nat} {h h' : Heap} (x : PSt it a oP ts ps i h) (k : ∀ b ∈ it :: a :: ts, ∀ o, h.get? b = some o → h'.get? b = some o) : PSt it a oP ts ps i h' := by
  obtain ⟨⟨o, e, r⟩, h2, h3, h4⟩ := x
  exact ⟨⟨o, k _ List.mem_cons_self _ e, r⟩, k _ (List.mem_cons_of_mem _ List.mem_cons_self) _ h2, h3, fun j t p e1 e2 => let ⟨u, v, n, e3⟩ := h4 j t p e1 e2; ⟨u, v, n, k _ (List.mem_cons_of_mem _ (List.mem_cons_of_mem _ (List.mem_of_getElem? e1))) _ e3⟩⟩
theorem walksP (A : Around) (hh : A.handled = none) {it a : Addr} {oP : Obj} {ts : List Addr} {ps : List Piece} {n : Nat} (hd : oP.data = .seq (ts.map Value.ref).toArray n) (ha : a ≠ it) (ht : ∀ t ∈ ts, t ≠ it) :
    WalksU pr g.w A it (it :: a :: ts) [it] ps.length (fun i vals => ∃ p u v, ps[i]? = some p ∧ vals = #[.str p.1 u, .str p.2 v]) (PSt it a oP ts ps) (fun i T h => PSt it a oP ts ps (i + 1) h ∧ T ≠ it) where
  sub := fun b hb => by rw [List.mem_singleton] at hb; subst hb; exact List.mem_cons_self
  frame := fun i h h' st k => st.mono k
  item := fun i s Q E hi st hQ => by
    obtain ⟨h1, h2, h3, h4⟩ := st
    have hti : i < ts.length := by rw [h3]; exact hi
    obtain ⟨u, v, n, e⟩ := h4 i ts[i] ps[i] (List.getElem?_eq_getElem hti) (List.getElem?_eq_getElem hi)
    refine next_item (g := g) (M := g.M) h1 h2 hd (x := .ref ts[i]) (by simp [hti]) fun h' hit hs => ?_
    have kk : ∀ b, b ≠ it → ∀ o, s.heap.get? b = some o → h'.get? b = some o := fun b hb o e => (hs.2 b hb).trans e
    refine hQ ts[i] _ h' s.toks ⟨ps[i], u, v, List.getElem?_eq_getElem hi, rfl⟩ ⟨_, kk _ (ht _ (List.getElem_mem hti)) _ e, rfl, n, rfl⟩ ⟨⟨hit, kk _ ha _ h2, h3, fun j t p e1 e2 => ?_⟩, ht _ (List.getElem_mem hti)⟩ fun b o hb e => kk b (fun h => hb (by simp [h])) o e
    obtain ⟨u, v, n, e3⟩ := h4 j t p e1 e2
    exact ⟨u, v, n, kk _ (ht _ (List.mem_of_getElem? e1)) _ e3⟩
  go := fun elts k pos i T s Q E st hQ => by
    obtain ⟨⟨⟨o, e, hc, hd⟩, st2⟩, hT⟩ := st
    refine go_skip (g := g) e hc hd (by decide) (hQ s.heap ⟨⟨o, e, hc, hd⟩, st2⟩ fun b o _ e => e)
  apart := fun i T h st => by rw [List.mem_singleton]; exact st.2
  done := fun s Q E st hQ => by
    obtain ⟨h1, h2, h3, h4⟩ := st
    refine next_end (g := g) hh h1 h2 hd (by simp [h3]) fun h' hs => hQ h' s.toks fun b o hb e => hs b o (fun h => hb (by simp [h])) e
  self := fun i s Q E st hQ => wpAny_pyIter_listiter st.1 hQ
end
end
section -- P54
section
variable {g : G} {s : Shared} {sto : Sto}
theorem getAttr_pile {A : Around} {E : Value → Shared → Prop} (gs : GoodS g sto s) {a : Addr} {i : Int} {vs : List V} (hm : (a, .acc (.int i) vs) ∈ sto) {expr : Bool} {Q : Value → Shared → Prop} (q : ∀ t, Q (.int i t) { s with toks := s.toks + 1 }) :
    wpAny g.M A (getAttr (.ref a) "_initial_size" expr) Q E s := by
  obtain ⟨items, kk, dd, sl, x, ho, _, hd, hx, hN⟩ := pileAt gs hm
  obtain ⟨oC, oN, X, k⟩ := classK gs.base
  have gs' : GoodS g sto { s with toks := s.toks + 1 } := gs.ext (fun _ _ e => e) rfl rfl
  cases hx with
  | int _ tt =>
  obtain ⟨h, gg, d, t, os⟩ := s
  dsimp only at ho hN X
  obtain ⟨oc, od, cd, sl', hl, f1, f2, f3, f4, f5, f6, f7⟩ := k.cls
  have hc : W.clsIn [(137, oC), (136, oN)] 137 = some cd := by unfold W.clsIn; rw [hl]
  have L0 : W.Looks g.M h (typeOf (.ref a)) (.ref 137) := (W.Looks.ld ho).andThen .now
  have L1 := W.looks_findIn (M := g.M) X (k.rows ("__getattribute__", some (.builtin "list.__getattribute__")) (by unfold accRows; simp))
  have L2 := W.looks_findIn (M := g.M) X (k.rows ("__getattr__", none) (by unfold accRows; simp))
  have L3 := W.looks_findIn (M := g.M) X (k.rows ("_initial_size", none) (by unfold accRows; simp))
  unfold getAttr getAttrBy
  refine wpAny_bind (wpAny_mkText (wpAny_holding (wpAny_bind (L0.at (wpAny_bind (L1.at ?_))))))
  show wpAny _ _ (getAttrByItsOwn (.ref a) (.str "_initial_size" t) (.ref 137) (.builtin "list.__getattribute__") true expr) _ _ _
  unfold getAttrByItsOwn
  show wpAny _ _ (typeLookup (.ref 137) "__getattr__" >>= _) _ _ _
  refine wpAny_bind (L2.at ?_)
  refine wpAny_bind (wpAny_attempt (wpAny_holding ?_))
  have hcg : callGetattribute (.ref a) (.str "_initial_size" t) (.builtin "list.__getattribute__") expr = boundAndCalled (.builtin "list.__getattribute__") (.ref a) (.str "_initial_size" t) := by
    unfold callGetattribute onTheHeap
    rw [Bool.and_false]; rfl
  rw [hcg]
  unfold boundAndCalled
  rw [PySem.F.slot_list_getattribute.bind]
  refine wpAny_bind (wpAny_pure ?_)
  refine call_pile gs' hm (.inl (by decide +kernel)) (n := "__getattribute__") (by decide +kernel) PySem.F.slot_list_getattribute.plain PySem.F.entry_list_ga (PySem.F.args_list_getattribute_2 _ _) fun E' => ?_
  unfold Builtin.«object.__getattribute__»
  refine wpAny_bind (wpAny_of_eq (a := (.ref a, [.str "_initial_size" t])) rfl ?_)
  dsimp only
  refine wpAny_bind (wpAny_pure (wpAny_bind (L0.at ?_)))
  unfold Builtin.ObjectAttr.find
  refine wpAny_bind (wpAny_bind (L3.at (wpAny_bind (wpAny_pure (wpAny_bind (wpAny_pure ?_))))))
  show wpAny _ _ (Builtin.ObjectAttr.ownThenClass _ _ _ _) _ _ _
  unfold Builtin.ObjectAttr.ownThenClass
  refine wpAny_bind ?_
  show wpAny _ _ (Builtin.ObjectAttr.ownDict a >>= _) _ _ _
  refine wpAny_bind ?_
  unfold Builtin.ObjectAttr.ownDict
  refine wpAny_bind (wpAny_loadPart ho ?_)
  show wpAny _ _ (instanceDict a false) _ _ _
  unfold instanceDict
  refine wpAny_bind (wpAny_loadPart ho ?_)
  dsimp only
  refine wpAny_bind ((W.looks_clsIn X hc).at ?_)
  rw [f7]
  refine wpAny_pure ?_
  show wpAny _ _ (nsGet dd "_initial_size") _ _ _
  refine wpAny_nsGet hN ?_
  have ho' : only (Value.int i tt) "_initial_size" = some (.int i tt) := by unfold only; rw [if_pos rfl]
  rw [ho']
  refine wpAny_bind (wpAny_rule ?_)
  refine wpAny_pure ?_
  refine wpAny_pure ⟨_, rfl, ?_⟩
  exact wpAny_pure (q tt)
theorem pyIter_pile {A : Around} {E : Value → Shared → Prop} (gs : GoodS g sto s) {a : Addr} {w : V} {vs : List V} (hm : (a, .acc w vs) ∈ sto) {Q : Value → Shared → Prop} (q : Q (.ref s.heap.objs.size) { s with heap := s.heap.push { cls := .type "list_iterator", data := .fields #[.ref a, .int 0 0] } }) :
    wpAny g.M A (pyIter (.ref a)) Q E s := by
  unfold pyIter
  refine wpAny_bind (pileSpecial gs hm (r := some (.builtin "list.__iter__")) (by simp [accRows]) ?_)
  show wpAny g.M A (callSpecialIfBoundUnlessNone? (.ref a) "__iter__" _ >>= _) _ _ _
  refine wpAny_bind ?_
  simp only [callSpecialIfBoundUnlessNone?, bindSpecialIfBound?]
  refine wpAny_holding (wpAny_bind (wpAny_bind (pileSpecial gs hm (r := some (.builtin "list.__iter__")) (by simp [accRows]) ?_)))
  simp only [slot_list_iter.bind]
  refine wpAny_bind (wpAny_askSetting (wpAny_ite ?_))
  have hcall : ∀ {Q' : Value → Shared → Prop} {E' : Value → Shared → Prop}, Q' (.ref s.heap.objs.size) { s with heap := s.heap.push { cls := .type "list_iterator", data := .fields #[.ref a, .int 0 0] } } → wpAny g.M A (call (.builtin "list.__iter__") [.ref a]) Q' E' s := fun {Q' E'} q' => by
    refine call_pile gs hm (.inl (by decide +kernel)) (n := "__iter__") (by decide +kernel) (by decide +kernel) entry_list_iter (args_list_iter _) fun E' => ?_
    show wpAny _ _ (do ret (← newFields "list_iterator" [.ref a, rawInt 0])) _ _ s
    exact wpAny_bind (wpAny_newObj_type (wpAny_pure ⟨_, rfl, q'⟩))
  split
  · refine wpAny_bind (wpAny_pure (wpAny_pure ?_))
    simp only [builtin_beq_none, Bool.false_eq_true, if_false]
    refine wpAny_bind (hcall (wpAny_pure ?_))
    exact wpAny_bind (wpAny_specialOf ⟨_, Heap.get?_push_size _ rfl, rfl⟩ slot_listiter_next.lookup (wpAny_pure q))
  · refine wpAny_tryCatch (wpAny_bind (wpAny_pure (wpAny_pure ?_)))
    simp only [builtin_beq_none, Bool.false_eq_true, if_false]
    refine wpAny_bind (hcall (wpAny_pure ?_))
    exact wpAny_bind (wpAny_specialOf ⟨_, Heap.get?_push_size _ rfl, rfl⟩ slot_listiter_next.lookup (wpAny_pure q))
end
section
variable {g : G} {C : Fm g} {st : St}
/-- self._initial_size -/
noncomputable abbrev kAt (Q : V → St → Prop) : V → St → Prop := fun v st => ∃ a i vs, v = .ref a ∧ (a, .acc (.int i) vs) ∈ st.sto ∧ Q (.int i) st
theorem TE.attrI {o : Expr} {pos : Pos} {Q : V → St → Prop} (h : TE g C o (kAt Q) st)
    (he : eval (.Attribute o "_initial_size" pos) C.env = (do
      let ov ← eval o C.env
      standAt pos.atName
      let r ← holding [ov] (getAttr ov "_initial_size" true)
      letTemporaryGo o ov r
      pure r)) (hg : ∀ ov r, letTemporaryGo o ov r = pure () := by intro _ _; rfl) : TE g C (.Attribute o "_initial_size" pos) Q st := fun s gs => by
  rw [he]
  refine wpAny_bind (h.on gs fun v st1 x s1 q r g1 x1 => wpAny_bind (wpAny_standAt (wpAny_bind (wpAny_holding ?_))))
  obtain ⟨a, i, vs, rfl, hm, q⟩ := q
  cases r
  refine getAttr_pile g1.toGoodS hm fun t => ?_
  rw [hg]
  refine wpAny_bind (wpAny_pure (wpAny_pure ?_))
  obtain ⟨g2, x2⟩ := g1.toks (s1.toks + 1)
  exact ⟨.int i, st1, VR.int i t, g2, Step.trans x1 x2, q⟩
end
section
variable {prog : Program} {w : World} {A : Around} {I : Addr} {fp wr : List Addr} {G : Array GenState → Array GenState → Prop} {n : Nat} {P : Nat → Value → Prop} {St : Nat → Shared → Prop}
/-- one number ahead of the row -/
theorem WalksS.ahead (W : WalksS prog w A I fp wr G n P St) : WalksS prog w A I fp wr G (n + 1) (fun i v => match i with | 0 => False | i + 1 => P i v) (fun i s => match i with | 0 => False | i + 1 => St i s) where
  sub := W.sub
  grefl := W.grefl
  gtrans := W.gtrans
  frame := fun i s h' tk st ht hk => by
    cases i with
    | zero => exact st.elim
    | succ i => exact W.frame i s h' tk st ht hk
  item := fun i s Q E hi st hQ => by
    cases i with
    | zero => exact st.elim
    | succ i => exact W.item i s Q E (Nat.lt_of_succ_lt_succ hi) st fun v s' hP hst hm => hQ v s' hP hst hm
  done := fun s Q E st hQ => W.done s Q E st hQ
  self := fun i s Q E st hQ => by
    cases i with
    | zero => exact st.elim
    | succ i => exact W.self i s Q E st hQ
theorem preSum_ahead (i0 : Int) (val : Nat → Int) : ∀ n, preSum (fun i => match i with | 0 => i0 | i + 1 => val i) (n + 1) = i0 + preSum val n
  | 0 => by simp [preSum]
  | n + 1 => by
    have := preSum_ahead i0 val n
    simp only [preSum] at this ⊢
    omega
/-- sum(gen, start) -/
theorem call_sum2 {E : Value → Shared → Prop} {s : Shared} {x : Value} {i0 : Int} {t0 : Tok} {Q : Value → Shared → Prop}
    (h : wpAny (model prog w) A.in1 (pyIter x) (fun it s₂ => ∃ I fp wr G n P St val, it = .ref I ∧ WalksS prog w A.in1 I fp wr G n P St ∧ St 0 s₂ ∧ (∀ b ∈ fp, b < s₂.heap.objs.size) ∧
      (∀ i v, P i v → ∃ t, v = .int (val i) t) ∧
      ∀ s' t', Moved wr G s₂ s' → Q (.int (i0 + preSum val n) t') s') E s) :
    wpAny (model prog w) A (call (.builtin "sum") [x, .int i0 t0]) Q E s := by
  refine call_function_tree F.kind_sum F.plain_sum F.entry_sum (by unfold argsOk; kernel_rfl) ?_
  unfold Builtin.«sum»
  simp only [List.length_cons, List.length_nil]
  first | refine iteF (by decide) ?_ | rw [if_neg (by decide)]
  refine wpAny_bind (wpAny_of_eq (show Builtin.Builtins.bindParams "sum" ["start"] 0 ⟨[.int i0 t0], []⟩ = pure [some (.int i0 t0)] from rfl) ?_)
  refine wpAny_bind (wpAny_mono h (fun it s₂ h₂ => ?_) fun _ _ e => e)
  obtain ⟨I, fp, wr, G, n, P, St, val, rfl, W, hst, hfp, hval, hQ⟩ := h₂
  have fin : ∀ (tA : Tok) (tk : Nat) (stg : Int), (stg = 0 ∨ stg = 2) → s₂.toks ≤ tk → wpAny (model prog w) A.in1 (do
      forIn [("str", "strings", "''"), ("bytes", "bytes", "b''"), ("bytearray", "bytearray", "b''")] PUnit.unit fun x __s => do
        let __do_lift ← isInstance (.int i0 tA) (Value.type x.fst)
        if __do_lift = true then do
          rule "sum.start-refused"
          raiseErrorMade "TypeError" (toString "sum() can't sum " ++ toString x.2.fst ++ toString " [use " ++ toString x.2.snd ++ toString ".join(seq) instead]")
          pure (ForInStep.yield PUnit.unit)
        else pure (ForInStep.yield PUnit.unit)
      let __do_lift ← newList [.int i0 tA]
      again (Code.builtin "sum.loop" { pos := [.ref I, __do_lift, rawInt stg, rawInt 0] }))
      (fun fin s' => match fin with
        | .done f => wants Q E (.ok f) s'
        | .again c' => c'.quiet = true ∧ codeAny (model prog w) A c' (wants Q E) s') (fun e s' => wants Q E (.error e) s') { s₂ with toks := tk } := fun tA tk stg hs ht => by
    simp only [List.forIn_cons, List.forIn_nil]
    refine wpAny_bind (wpAny_bind (wpAny_bind (wpAny_isInstance (T := "int") (b := false) (typeIs_int _ _ _) PySem.sub_int_str ?_)))
    simp only [Bool.false_eq_true, if_false]
    refine wpAny_pure (wpAny_bind (wpAny_bind (wpAny_isInstance (T := "int") (b := false) (typeIs_int _ _ _) PySem.sub_int_bytes ?_)))
    simp only [Bool.false_eq_true, if_false]
    refine wpAny_pure (wpAny_bind (wpAny_bind (wpAny_isInstance (T := "int") (b := false) (typeIs_int _ _ _) PySem.sub_int_bytearray ?_)))
    simp only [Bool.false_eq_true, if_false]
    refine wpAny_pure (wpAny_pure ?_)
    refine wpAny_bind (wpAny_newObj_type ?_)
    have hSf : s₂.heap.objs.size ∉ fp := fun hm => Nat.lt_irrefl _ (hfp _ hm)
    have h0 : preSum (fun i => match i with | 0 => i0 | i + 1 => val i) 1 = i0 := by simp [preSum]
    refine wpAny_pure ⟨plainId_quiet F.plain_sum_loop _, codeAny_sum_loopAnyS (WalksS.ahead W) (fun i => match i with | 0 => i0 | i + 1 => val i) (fun i v hP => ?_) s₂.heap.objs.size hSf n 1 _ tA 0 stg hs (by omega) (by omega)
      (W.frame 0 s₂ _ _ hst ht fun b _ o e => Heap.get?_push_of_some _ e) (by rw [h0]; exact Heap.get?_push_size _ rfl) fun s' t' hm => ?_⟩
    · cases i with
      | zero => exact hP.elim
      | succ i => exact hval i v hP
    · rw [preSum_ahead]
      exact hQ s' t' (hm.drop_new ht)
  dsimp only
  split
  · refine wpAny_bind (wpAny_rule (wpAny_bind (wpAny_mkInt (wpAny_bind (wpAny_pure ?_)))))
    exact fin _ _ 0 (.inl rfl) (Nat.le_succ _)
  · refine wpAny_bind (wpAny_pure ?_)
    exact fin t0 s₂.toks 2 (.inr rfl) (Nat.le_refl _)
end
end
section -- P55
section
variable {g : G} {C : Fm g} {st : St} {s s' : Shared}
/-- a table has grown, new things lie there and generators beside -/
theorem Base.leap {H h h' : Heap} {w : World} {mg mb : Str → Option Value} (top : TopH w H mg mb) (b : Base H h) {c P : Addr} {ps more : Array Value} (hcp : (c, P) ∈ tabCodes) (ht : h.TableAt c P ps) (hic : h'.IsCode c P (ps ++ more)) (ht' : h'.TableAt c P (ps ++ more)) (hx : Heap.ExtBut P h h') : Base H h' := by
  obtain ⟨ps₀, _, ht₀⟩ := top.tb _ hcp
  have hP : P ∈ tbls := by
    rcases List.mem_cons.mp hcp with e | e
    · cases e; decide
    · rw [List.mem_singleton] at e; cases e; decide
  refine ⟨fun d o e n => hx d o (fun hd => n (hd ▸ hP)) (b.keep d o e n), b.last, b.old.step_table ht₀ ht ht' hx ?_, fun cp hcp' => ?_⟩
  · rcases List.mem_cons.mp hcp with e | e
    · cases e; decide
    · rw [List.mem_singleton] at e; cases e; decide
  · by_cases hq : cp = (c, P)
    · subst hq; exact ⟨_, hic, ht'⟩
    · obtain ⟨qs, i, t⟩ := b.tabs cp hcp'
      have hn : cp.1 ≠ P ∧ cp.2 ≠ P := by
        rcases List.mem_cons.mp hcp with e | e <;> rcases List.mem_cons.mp hcp' with e' | e'
        · exact absurd (e'.trans e.symm) hq
        · rw [List.mem_singleton] at e'; cases e; subst e'; decide
        · rw [List.mem_singleton] at e; cases e; subst e'; decide
        · rw [List.mem_singleton] at e e'; exact absurd (e'.trans e.symm) hq
      exact ⟨qs, i.extBut hx hn.1 hn.2, t.extBut hx hn.1 hn.2⟩
theorem GoodF.leap (gs : GoodF g C st s) {c P : Addr} {ps more : Array Value} (hcp : (c, P) ∈ tabCodes) (ht : s.heap.TableAt c P ps) (hic : s'.heap.IsCode c P (ps ++ more)) (ht' : s'.heap.TableAt c P (ps ++ more)) (hx : Heap.ExtBut P s.heap s'.heap)
    (hg : ∀ i, i < s.gens.size → s'.gens[i]? = s.gens[i]?) (hgs : s.gens.size ≤ s'.gens.size) (hb : AllBare s'.gens) (ho : s'.os = s.os) : GoodF g C st s' ∧ SF g C st st s s' := by
  have hP : P ∈ tbls := by
    rcases List.mem_cons.mp hcp with e | e
    · cases e; decide
    · rw [List.mem_singleton] at e; cases e; decide
  have notP : ∀ (d : Addr) o, s.heap.get? d = some o → (∀ vs, o.data ≠ .fields vs) → d ≠ P := fun d o e hd hdp => by
    subst hdp
    rw [ht.2] at e; cases e; exact hd _ rfl
  have k : TupK s.heap s'.heap := fun b items n e => hx _ _ (notP _ _ e (by simp)) e
  have kn : ∀ a m, s.heap.Ns a m → s'.heap.Ns a m := fun a m n => by
    obtain ⟨o, es, ep, e, hd, r⟩ := n
    exact ⟨o, es, ep, hx _ _ (notP _ _ e (by rw [hd]; simp)) e, hd, r⟩
  have kc : ∀ a v, s.heap.IsCell a v → s'.heap.IsCell a v := fun a v n => by
    obtain ⟨o, e, hd⟩ := n
    exact ⟨o, hx _ _ (notP _ _ e (by rw [hd]; simp)) e, hd⟩
  refine ⟨⟨⟨Base.leap g.top gs.base hcp ht hic ht' hx, fun p hp => ?_, gs.new, gs.nodup, ho.trans gs.os, hb⟩, ?_, fun b hb => let ⟨v, h⟩ := gs.cellsAre b hb; ⟨v, kc _ _ h⟩⟩, ?_⟩
  · exact (gs.cells p hp).keep k (fun o e => hx _ _ (notP _ _ e (cell_ne_dict (gs.cells p hp) e).2.2.1) e) fun d x n _ => kn _ _ n
  · obtain ⟨m, n, hi, l⟩ := gs.loc
    refine ⟨m, kn _ _ n, hi, fun p hp => ?_⟩
    obtain ⟨v, b, r⟩ := l p hp
    refine ⟨v, ?_, r.mono k⟩
    rcases b with b | ⟨b, c, h1, h2⟩
    · exact .inl b
    · exact .inr ⟨b, c, h1, kc _ _ h2⟩
  · exact ⟨fun b o e n => ⟨o, hx b o (fun h => n (.inl (.inr (h ▸ hP)))) e, .refl o⟩, fun b h => .inl h, hg, hgs⟩
/-- the code of a genexp, kept in its table -/
theorem genexpr_code {M : Model} {A : Around} {E : Value → Shared → Prop} {env : Env} {c P : Addr} {ps : Array Value} {pos : Pos} {qn : Str} {scope : Scope} {Q : Value → Shared → Prop} (hc : env.code = .ref c) (hok : s.heap.IsCode c P ps) (htab : s.heap.TableAt c P ps)
    (hQ : ∀ code h' tk more, Heap.ExtBut P s.heap h' → s.heap.objs.size ≤ h'.objs.size → h'.IsCode c P (ps ++ more) → h'.TableAt c P (ps ++ more) → Q code { s with heap := h', toks := tk }) : wpAny M A (genexprCode env pos qn scope) Q E s := by
  cases hf : codeAmong pos ps.toList with
  | some cv =>
    refine wpAny_genexprCode_hit hc hok hf (hQ cv s.heap s.toks #[] (Heap.ExtBut.refl _ _) (Nat.le_refl _) ?_ ?_)
    · rw [Array.append_empty]; exact hok
    · rw [Array.append_empty]; exact htab
  | none => exact wpAny_genexprCodeX hc hok htab hf fun c' h' tk hx h1 h2 hic _ ht' _ => hQ _ h' tk _ hx (Nat.le_trans h1 (Nat.le_of_lt h2)) hic ht'
theorem passing_all (n : Nat) : passing (fun _ => true) n 0 = List.range n := by
  unfold passing
  rw [List.drop_zero, List.filter_eq_self.mpr (fun _ _ => rfl)]
theorem rangeN_at {n j i : Nat} (h : (List.range n)[j]? = some i) : i = j := by
  obtain ⟨h1, h2⟩ := List.getElem?_eq_some_iff.mp h
  simpa using h2.symm
theorem pass_len (n : Nat) : (passing (fun _ => true) n 0).length = n := by rw [passing_all, List.length_range]

theorem IsCode.two {h h' : Heap} {c P : Addr} {ps : Array Value} (x : h.IsCode c P ps) (k1 : ∀ o, h.get? c = some o → h'.get? c = some o) (k2 : ∀ o, h.get? P = some o → h'.get? P = some o) : h'.IsCode c P ps := by
  obtain ⟨o, vs, file, tf, flags, tg, inF, text, tt, op, a, r1, r2, r3, r4, r5, r6, b, r⟩ := x
  exact ⟨o, vs, file, tf, flags, tg, inF, text, tt, op, k1 _ a, r1, r2, r3, r4, r5, r6, k2 _ b, r⟩
theorem TableAt.two {h h' : Heap} {c P : Addr} {ps : Array Value} (x : h.TableAt c P ps) (k1 : ∀ o, h.get? c = some o → h'.get? c = some o) (k2 : ∀ o, h.get? P = some o → h'.get? P = some o) : h'.TableAt c P ps :=
  let ⟨⟨o, vs, a, r⟩, t⟩ := x; ⟨⟨o, vs, k1 _ a, r⟩, k2 _ t⟩
theorem WalksS.imp {prog : Program} {w : World} {A : Around} {I : Addr} {fp wr : List Addr} {G : Array GenState → Array GenState → Prop} {n : Nat} {P P' : Nat → Value → Prop} {St : Nat → Shared → Prop} (W : WalksS prog w A I fp wr G n P St) (h : ∀ i v, P i v → P' i v) :
    WalksS prog w A I fp wr G n P' St :=
  ⟨W.sub, W.grefl, W.gtrans, W.frame, fun i s Q E hi st hQ => W.item i s Q E hi st fun v s' hP => hQ v s' (h _ _ hP), W.done, W.self⟩
/-- (elt for xa, xb in self): what it hands out is F -/
theorem gen_pile {f : Fn} {P : Addr} (E : IsEnv g f C) (hcp : (f.c, P) ∈ tabCodes) (gs : GoodF g C st s) {a : Addr} {w : V} {ps : List Piece} (hm : (a, .acc w (ps.map pv)) ∈ st.sto) (hself : (("self" : Str), V.ref a) ∈ st.loc)
    {elt : Expr} {xa xb : Str} {pa pb pt ip pos : Pos} {kt : Nat} {scope : Scope} (hco : scope.isCoroutine = false) (hclos : closureFor scope C.env = pure []) (hcell : ∀ y ∈ scope.names, y.2 ≠ .cell) (h0 : scope.names.lookup (".0" : Str) = some NameKind.local)
    (hxa : scope.names.lookup xa = some .local) (hxb : scope.names.lookup xb = some .local) (hab : xa ≠ xb) (hkind : scope.kind = .function) {F : Piece → Value → Prop}
    (helt : ∀ (C' : Addr) (code : Value) (A' : Around) (E' : Value → Shared → Prop) (p : Piece) (u v : Tok) (s₂ : Shared) (m₂ : Str → Option Value), p ∈ ps → s₂.heap.Ns C' m₂ → m₂ xa = some (.str p.1 u) → m₂ xb = some (.str p.2 v) → s₂.heap.Ns mainGlobals g.mg → s₂.heap.Ns builtinsNs g.mb →
      wpAny g.M A' (eval elt (genEnv scope [] C' code builtinsNs C.env)) (fun y s₃ => F p y ∧ PySem.Keeps s₂ s₃) E' s₂)
    {Q : Value → Shared → Prop}
    (hq : ∀ ag fp wr gi St s', GoodF g C st s' → SF g C st st s s' → WalksS pr g.w C.A.in4 ag fp wr (GenOnlyQ gi) ps.length (fun j y => ∃ p, ps[j]? = some p ∧ F p y) St → St 0 s' → (∀ i s1, St i s1 → s1.TypeIs (.ref ag) "generator") → ag ∈ fp → (∀ b ∈ fp, b < s'.heap.objs.size) →
      (∀ s'', Moved wr (GenOnlyQ gi) s' s'' → GoodF g C st s'' ∧ SF g C st st s s'') → Q (.ref ag) s')
    (hs : ∀ x, genFold (.Name "self" ip) C.env x = pure x := by intro _; rfl) :
    wpAny g.M C.A (eval (.GeneratorExp elt [⟨.Tuple [.Name xa pa, .Name xb pb] kt pt, .Name "self" ip, [], 0⟩] scope pos) C.env) Q noE s := by
  have hd := C.depth
  have hroom : C.A.depth < recursionLimit := by show C.A.depth < 1000; omega
  obtain ⟨tbs, hic, hta⟩ := gs.base.tabs _ hcp
  refine wpAny_GeneratorExp_walksQT C.handled hco hclos hcell h0 hxa hxb hab hkind hroom ?_ hs
  have hev : TE g C (.Name "self" ip) (fun v st1 => v = .ref a ∧ st1 = st) st := TE.name hself ⟨rfl, rfl⟩
  refine hev.on gs fun v st1 xv s1 q r g1 x1 => ?_
  obtain ⟨rfl, rfl⟩ := q
  cases r
  obtain ⟨tb1, hic1, hta1⟩ := g1.base.tabs _ hcp
  obtain ⟨items, n, dd, sl, xw, ho, rv, hdd, hxw, hN⟩ := pileAt g1.toGoodS hm
  obtain ⟨ts, hts, hta⟩ := tups_of rv
  have hit : items = (ts.map Value.ref).toArray := by rw [← Array.toArray_toList (xs := items), hts]
  subst hit
  have hPs : P < s1.heap.objs.size := Heap.lt_size hta1.2
  have hPH : P < g.H.objs.size := (g.top.tabs _ hcp).2
  have haP : a ≠ P := Nat.ne_of_gt (Nat.lt_of_lt_of_le hPH (g1.new _ hm))
  have hal : a < s1.heap.objs.size := Heap.lt_size ho
  have htc : ∀ t ∈ ts, ∃ o, s1.heap.get? t = some o ∧ o.cls = .type "tuple" := fun t ht => by
    obtain ⟨j, hj, e⟩ := List.mem_iff_getElem.mp ht
    have hj' : j < ps.length := hta.1 ▸ hj
    obtain ⟨u, v, n, e2⟩ := hta.2 j t ps[j] (by rw [List.getElem?_eq_getElem hj, e]) (List.getElem?_eq_getElem hj')
    exact ⟨_, e2, rfl⟩
  have htl : ∀ t ∈ ts, t < s1.heap.objs.size := fun t ht => let ⟨o, e, _⟩ := htc t ht; Heap.lt_size e
  have htP : ∀ t ∈ ts, t ≠ P := fun t ht h => by
    obtain ⟨o, e, c⟩ := htc t ht
    subst h
    rw [hta1.2] at e; cases e; cases c
  have hlim : s1.heap.NoLimit := by
    obtain ⟨mc, ⟨oc, es, ep, hoc, r⟩, q⟩ := g.top.nolim
    exact ⟨mc, ⟨oc, es, ep, g1.base.keep _ _ hoc (by decide), r⟩, q⟩
  refine pyIter_pile g1.toGoodS hm ⟨hlim.keeps fun b o e => Heap.get?_push_of_some _ e, ?_⟩
  have k2 : ∀ b o, s1.heap.get? b = some o → (s1.heap.push { cls := .type "list_iterator", data := .fields #[.ref a, .int 0 0] }).get? b = some o := fun b o e => Heap.get?_push_of_some _ e
  refine genexpr_code (E.code) (hic1.keeps k2) (hta1.keeps k2) fun code h3 tk3 more hx3 hsz3 hic3 hta3 => ?_
  have hx13 : Heap.ExtBut P s1.heap h3 := fun b o hb e => hx3 b o hb (k2 b o e)
  have hsz1 : s1.heap.objs.size + 1 ≤ h3.objs.size := by have := hsz3; rw [Heap.size_push] at this; exact this
  obtain ⟨bm, ob, BM, hbm⟩ := g.top.gm
  have hPt : P ∈ tbls := (by decide : ∀ cp ∈ tabCodes, cp.2 ∈ tbls) _ hcp
  have b3 : ∀ d o, g.H.get? d = some o → d ∉ tbls → h3.get? d = some o := fun d o e n => hx13 d o (fun h => n (h ▸ hPt)) (g1.base.keep d o e n)
  have n3 : ∀ {a : Addr} {m : Str → Option Value}, g.H.Ns a m → a ∉ tbls → h3.Ns a m := fun x hn => let ⟨o, es, ep, e, r⟩ := x; ⟨o, es, ep, b3 _ _ e hn, r⟩
  refine wpAny_builtinsFor (m := g.mg) (bm := bm) (o := ob) (by rw [C.globals]; exact n3 g.top.gl (by decide)) ?_ BM.ne (b3 _ _ BM.obj hbm) BM.cls BM.dict BM.data ?_
  · exact BM.name
  let it : Addr := s1.heap.objs.size
  have hit3 : h3.IsListIter it a 0 := ⟨_, hx3 _ _ (Nat.ne_of_gt hPs) (Heap.get?_push_size _ rfl), rfl, rfl⟩
  have st0 : PSt it a { cls := .ref clsA, dict := some dd, data := .seq (ts.map Value.ref).toArray n, slots := sl } ts ps 0 h3 := by
    refine ⟨hit3, hx13 _ _ haP ho, hta.1, fun j t p h1 h2 => ?_⟩
    obtain ⟨u, v, n, e⟩ := hta.2 j t p h1 h2
    exact ⟨u, v, n, hx13 _ _ (htP _ (List.mem_of_getElem? h1)) e⟩
  refine ⟨it, it :: a :: ts, [it], ps.length, fun i vals => ∃ p u v, ps[i]? = some p ∧ vals = #[.str p.1 u, .str p.2 v], PSt it a { cls := .ref clsA, dict := some dd, data := .seq (ts.map Value.ref).toArray n, slots := sl } ts ps, _, fun _ => true, fun i y => ∃ p, ps[i]? = some p ∧ F p y, rfl,
    fun A' hA => walksP (g := g) A' hA rfl (Nat.ne_of_lt hal) fun t ht => Nat.ne_of_lt (htl t ht), fun i vals ⟨p, u, v, _, e⟩ => ⟨_, _, e⟩, st0, fun b hb => ?_, ?_, ?_, fun href hk => ?_, fun ag h5 tk5 gs5 hbare hlt5 hsz5 keep5 W hgen => ?_⟩
  · show b < h3.objs.size
    rcases List.mem_cons.mp hb with rfl | hb
    · exact hsz1
    · rcases List.mem_cons.mp hb with rfl | hb
      · exact Nat.lt_of_lt_of_le hal (Nat.le_of_succ_le hsz1)
      · exact Nat.lt_of_lt_of_le (htl _ hb) (Nat.le_of_succ_le hsz1)
  · obtain ⟨mc, ⟨oc, es, ep, hoc, r⟩, q⟩ := g.top.nolim
    exact ⟨mc, ⟨oc, es, ep, b3 _ _ hoc (by decide), r⟩, q⟩
  · rw [List.mem_singleton]
    have hl : cStatics < s1.heap.objs.size := let ⟨_, hn, _⟩ := hlim; hn.lt
    exact Nat.ne_of_lt hl
  · have glob : ∀ {a : Addr} {m : Str → Option Value} {s₂ : Shared}, g.H.Ns a m → a ∉ tbls → (∀ b ∈ List.range h3.objs.size, b ∉ [it] → ∀ o, href.get? b = some o → s₂.heap.get? b = some o) → s₂.heap.Ns a m := fun {a m s₂} x hn hk2 => by
      obtain ⟨o, es, ep, e, r⟩ := x
      have e3 := b3 _ _ e hn
      refine ⟨o, es, ep, hk2 a (List.mem_range.mpr (Heap.lt_size e3)) ?_ _ (hk _ _ e3), r⟩
      rw [List.mem_singleton]
      exact Nat.ne_of_lt (Nat.lt_of_lt_of_le (Heap.lt_size e) g1.base.size)
    refine ⟨fun A' E' i va vb s₂ m₂ _ _ _ _ _ _ => wpAny_pure ⟨rfl, ⟨_, _, rfl, fun _ _ e => e⟩⟩, fun A' E' i va vb s₂ m₂ _ ⟨p, u, v, hp, hv⟩ _ hn h1 h2 hk2 => ?_⟩
    cases hv
    exact wpAny_mono (helt _ code A' E' p u v s₂ m₂ (List.mem_of_getElem? hp) hn h1 h2 (glob g.top.gl (by decide) hk2) (glob g.top.bl (by decide) hk2)) (fun y s₃ ⟨hF, hK⟩ => ⟨(⟨p, hp, hF⟩ : ∃ p, ps[i]? = some p ∧ F p y), hK⟩) fun _ _ e => e
  · have hx15 : Heap.ExtBut P s1.heap h5 := fun b o hb e => keep5 b o (hx13 b o hb e)
    obtain ⟨g5, x5⟩ := g1.leap (s' := { s1 with gens := s1.gens.push gs5, toks := tk5, heap := h5 }) hcp hta1 (hic3.keeps keep5) (hta3.keeps keep5) hx15 (fun i hi => by
      show (s1.gens.push gs5)[i]? = s1.gens[i]?
      rw [Array.getElem?_push, if_neg (Nat.ne_of_lt hi)]) (by show s1.gens.size ≤ (s1.gens.push gs5).size; rw [Array.size_push]; exact Nat.le_succ _) (g1.bare.push hbare) rfl
    rw [pass_len] at W
    refine hq ag _ _ _ _ _ g5 (Step.trans x1 x5) (W.imp fun j y ⟨i, hi, hF⟩ => ?_) hgen (fun i s1 st => st.1.typeIs) List.mem_cons_self (fun b hb => ?_) fun s'' hmv => ?_
    · rw [passing_all] at hi
      rw [rangeN_at hi] at hF
      exact hF
    · show b < h5.objs.size
      have hlt5' : h3.objs.size < ag := hlt5
      rw [hsz5]
      rcases List.mem_cons.mp hb with rfl | hb
      · exact Nat.lt_succ_self _
      · rcases List.mem_cons.mp hb with rfl | hb
        · exact Nat.lt_succ_of_lt hlt5'
        · exact Nat.lt_succ_of_lt (Nat.lt_trans (List.mem_range.mp hb) hlt5')
    · have nw : ∀ b, b < s1.heap.objs.size → b ∉ h3.objs.size :: [it] := fun b hb hm => by
        rcases List.mem_cons.mp hm with h | h
        · rw [h] at hb; exact Nat.lt_irrefl _ (Nat.lt_trans hb hsz1)
        · rw [List.mem_singleton] at h; rw [h] at hb; exact Nat.lt_irrefl _ hb
      have hcs : f.c < s1.heap.objs.size := let ⟨⟨o, vs, e, _⟩, _⟩ := hta1; Heap.lt_size e
      have kc := fun o => hmv.heap f.c o (nw _ hcs)
      have kP := fun o => hmv.heap P o (nw _ hPs)
      have q1 : ∀ i, i < s1.gens.size → s''.gens[i]? = s1.gens[i]? := fun i hi => by
        have hp : (s1.gens.push gs5)[i]? = s1.gens[i]? := by rw [Array.getElem?_push, if_neg (Nat.ne_of_lt hi)]
        rcases hmv.gens with e | ⟨⟨_, e⟩, _⟩
        · rw [e]; exact hp
        · rw [e i (Nat.ne_of_lt hi)]; exact hp
      have q2 : s1.gens.size ≤ s''.gens.size := by
        have hp : s1.gens.size ≤ (s1.gens.push gs5).size := by rw [Array.size_push]; exact Nat.le_succ _
        rcases hmv.gens with e | ⟨⟨e, _⟩, _⟩
        · rw [e]; exact hp
        · rw [e]; exact hp
      obtain ⟨g6, x6⟩ := g1.leap (s' := s'') hcp hta1 (IsCode.two (hic3.keeps keep5) kc kP) (TableAt.two (hta3.keeps keep5) kc kP) (fun b o hb e => hmv.heap b o (nw _ (Heap.lt_size e)) (hx15 b o hb e)) q1 q2 (GenOnlyQ.bare hmv.gens (g1.bare.push hbare)) hmv.os
      exact ⟨g6, Step.trans x1 x6⟩
end
end
section -- P56
section
variable {g : G} {C : Fm g} {st : St} {s : Shared}
theorem evName {x : Str} {pos : Pos} {v : V} {P : Value → Shared → Prop} {E : Value → Shared → Prop} (gs : GoodF g C st s) (hx : (x, v) ∈ st.loc) (q : ∀ val, VR s.heap v val → P val s) (hd : (x == ("__debug__" : Str)) = false := by decide) (hn : (x == ("__classdict__" : Str)) = false := by decide) :
    wpAny g.M C.A (eval (.Name x pos) C.env) P E s := by
  obtain ⟨m, n, _, l⟩ := gs.loc
  obtain ⟨val, b, r⟩ := l _ hx
  refine wpAny_Name ?_ hd
  rcases b with ⟨b, e⟩ | ⟨b | b, c, h1, h2⟩
  · exact wpAny_loadName_local C.kind b n e (q _ r)
  · exact wpAny_loadName_cell C.kind b h1 h2 (q _ r)
  · exact wpAny_loadName_free C.kind b h1 h2 (q _ r) hn
noncomputable def plen (p : Piece) : Int := (p.1.length : Int) + (p.2.length : Int)
noncomputable def ptext (p : Piece) : Str := Txt.join "" [p.1, p.2]
/-- len(xa) + len(xb) -/
theorem el_len {A : Around} {E : Value → Shared → Prop} {env : Env} {xa xb : Str} {q1 q2 q3 q4 q5 q6 q7 : Pos} {p : Piece} {u v : Tok} {m : Str → Option Value} (hk : env.scope.kind = .function) (hg : env.kindOf "len" = some .globalImplicit) (ha : env.kindOf xa = some .local) (hb : env.kindOf xb = some .local)
    (hgl : env.globals = mainGlobals) (hbu : env.builtins = builtinsNs) (n1 : s.heap.Ns mainGlobals g.mg) (n2 : s.heap.Ns builtinsNs g.mb) (n : s.heap.Ns env.locals m) (e1 : m xa = some (.str p.1 u)) (e2 : m xb = some (.str p.2 v)) (l1 : p.1.length ≤ 1000) (l2 : p.2.length ≤ 1000)
    (hda : (xa == ("__debug__" : Str)) = false) (hdb : (xb == ("__debug__" : Str)) = false) :
    wpAny g.M A (eval (.BinOp (.Call (.Name "len" q1) [.Name xa q2] [] q3) .Add (.Call (.Name "len" q4) [.Name xb q5] [] q6) q7) env) (fun y s₃ => (∃ t, y = .int (plen p) t) ∧ PySem.Keeps s s₃) E s := by
  have call : ∀ {x : Str} {q1 q2 q3 : Pos} {y : Str} {t : Tok} {s : Shared} {P : Value → Shared → Prop}, env.kindOf x = some .local → (x == ("__debug__" : Str)) = false → s.heap.Ns mainGlobals g.mg → s.heap.Ns builtinsNs g.mb → s.heap.Ns env.locals m → m x = some (.str y t) → y.length ≤ 1000 →
      P (.int y.length (s.toks + 1)) { s with toks := s.toks + 1 + 1 } → wpAny g.M A (eval (.Call (.Name "len" q1) [.Name x q2] [] q3) env) P E s := fun hx hdx n1 n2 n e l q => by
    refine wpAny_Call_Name_kw (Calls.Name_function_global hk hg (Calls.loadGlobal_builtin (mg := g.mg) (mb := g.mb) (by rw [hgl]; exact n1) (g.top.bn ("len", .builtin "len") (by simp [bNames])).1 (by rw [hbu]; exact n2) (g.top.bn ("len", .builtin "len") (by simp [bNames])).2 ?_) (by decide))
    refine Calls.callWith_builtin rfl (Calls.evalArgs_plain (Calls.spliced_cons (wpAny_Name (wpAny_loadName_local hk hx n e (Calls.spliced_nil ?_)) hdx)))
    exact PySem.P.len_str (by omega) q
  refine wpAny_BinOp (call ha hda n1 n2 n e1 l1 (call hb hdb n1 n2 n e2 l2 ?_))
  exact wpAny_add_int ⟨⟨_, rfl⟩, ⟨_, _, rfl, fun b o e => e⟩⟩
/-- self.__len__() -/
noncomputable def fullLen (w : Int) (ps : List Piece) : Int := w + (ps.map plen).sum
theorem cLen {a : Addr} {w : Int} {ps : List Piece} {sto : Sto} {Q : V → Sto → Prop} (hm : (a, .acc (.int w) (ps.map pv)) ∈ sto) (hl : ∀ p ∈ ps, p.1.length ≤ 1000 ∧ p.2.length ≤ 1000) (q : Q (.int (fullLen w ps)) sto) : TC g 2 (.ref fLen.a) [.ref a] [] [] Q sto := by
  refine TC.def (ns := ["self"]) (meth_of (by walk_at "in")) (by decide) rfl (plain_1 fun fd u => rfl) rfl (by decide) (by decide) (by decide) (by decide) rfl rfl rfl fun C E hn => ?_
  show TXs g C _ _ ⟨[("self", .ref a)], sto⟩
  refine TXs.cons (TX.ret fun s gs => ?_)
  have hself : (("self" : Str), V.ref a) ∈ ([("self", .ref a)] : Loc) := List.mem_cons_self
  refine wpAny_Call_Name_kw (Calls.Name_function_global C.kind (by walk_at "kg") (Calls.loadGlobal_builtin (mg := g.mg) (mb := g.mb) (by rw [C.globals]; exact Ns.base g.top.gl gs.base (by decide)) (g.top.bn ("sum", .builtin "sum") (by simp [bNames])).1
    (by rw [C.builtins]; exact Ns.base g.top.bl gs.base (by decide)) (g.top.bn ("sum", .builtin "sum") (by simp [bNames])).2 ?_) (by decide))
  refine Calls.callWith_builtin rfl (Calls.evalArgs_plain (Calls.spliced_cons ?_))
  refine gen_pile (F := fun p y => ∃ t, y = .int (plen p) t) (P := 99) E (by decide) gs (st := ⟨[("self", .ref a)], sto⟩) hm hself rfl ?_ (by decide) (by decide) (by decide) (by decide) (by decide) rfl ?_ ?_
  · rfl
  · intro C' code A' E' p u v s₂ m₂ hp n e1 e2 n1 n2
    refine el_len (g := g) (p := p) rfl rfl rfl rfl C.globals rfl n1 n2 n e1 e2 (hl p hp).1 (hl p hp).2 (by decide) (by decide)
  intro ag fp wr gi St s' g' x' W hst hT hag hfp leave
  refine Calls.spliced_cons ?_
  show wpAny g.M C.A (do
      let ov ← eval (.Name "self" _) C.env
      standAt _
      let r ← holding [ov] (getAttr ov "_initial_size" true)
      letTemporaryGo (.Name "self" _) ov r
      pure r) _ _ _
  refine wpAny_bind (evName g' (by exact hself) fun val rv => ?_)
  cases rv
  refine wpAny_bind (wpAny_standAt (wpAny_bind (wpAny_holding (getAttr_pile g'.toGoodS hm fun t => ?_))))
  refine wpAny_bind (wpAny_pure (wpAny_pure (Calls.spliced_nil ?_)))
  refine call_sum2 ?_
  have W1 := W.in4_1
  refine W1.self 0 _ _ _ (W1.frame 0 s' s'.heap (s'.toks + 1) hst (Nat.le_succ _) fun _ _ _ e => e) ?_
  refine ⟨ag, fp, wr, _, _, _, St, fun i => (ps.map plen).getD i 0, rfl, W1, W1.frame 0 s' s'.heap (s'.toks + 1) hst (Nat.le_succ _) fun _ _ _ e => e, hfp, fun i v ⟨p, hp, t, e⟩ => ⟨t, ?_⟩, fun s'' t' hm2 => ?_⟩
  · rw [e]
    congr 1
    show plen p = (ps.map plen).getD i 0
    rw [List.getD_eq_getElem?_getD, List.getElem?_map, hp]; rfl
  obtain ⟨g6, x6⟩ := leave s'' (Moved.trans W1.gtrans ((Moved.refl W1.grefl).then_heap (Nat.le_succ _) fun _ _ _ e => e) hm2)
  refine ⟨.int (fullLen w ps), _, ?_, g6, x6, q⟩
  have : preSum (fun i => (ps.map plen).getD i 0) ps.length = (ps.map plen).sum := by
    have := preSum_take (ps.map plen) ps.length (by simp)
    rw [this, List.take_of_length_le (by simp)]
  rw [this]
  exact VR.int _ _
end
end
section -- P57
section
variable {g : G} {s : Shared}
/-- EMPTYSTRING.join((xa, xb)) -/
theorem el_join {A : Around} {E : Value → Shared → Prop} {env : Env} {xa xb : Str} {q1 q2 q3 q4 q5 q6 : Pos} {k : Nat} {p : Piece} {u v : Tok} {m : Str → Option Value} (hk : env.scope.kind = .function) (hg : env.kindOf "EMPTYSTRING" = some .globalImplicit) (ha : env.kindOf xa = some .local) (hb : env.kindOf xb = some .local)
    (hgl : env.globals = mainGlobals) (n1 : s.heap.Ns mainGlobals g.mg) (n : s.heap.Ns env.locals m) (e1 : m xa = some (.str p.1 u)) (e2 : m xb = some (.str p.2 v)) (l1 : p.1.length ≤ 1000) (l2 : p.2.length ≤ 1000)
    (hda : (xa == ("__debug__" : Str)) = false) (hdb : (xb == ("__debug__" : Str)) = false) {pl : Sem Bool}
    (he : eval (.Call (.Attribute (.Name "EMPTYSTRING" q1) "join" q2) [.Tuple [.Name xa q3, .Name xb q4] k q5] [] q6) env = (do
      let ov ← eval (.Name "EMPTYSTRING" q1) env
      standAt q2.atName
      let (f, first) ← holding [ov] (getMethod ov "join" pl)
      callWith q6 f first [(false, eval (.Tuple [.Name xa q3, .Name xb q4] k q5) env)] [])) :
    wpAny g.M A (eval (.Call (.Attribute (.Name "EMPTYSTRING" q1) "join" q2) [.Tuple [.Name xa q3, .Name xb q4] k q5] [] q6) env) (fun y s₃ => (∃ t, y = .str (ptext p) t) ∧ PySem.Keeps s s₃) E s := by
  rw [he]
  obtain ⟨t0, h0⟩ := g.top.ge
  refine wpAny_bind (Calls.Name_function_global hk hg (Calls.loadGlobal_global (mg := g.mg) (by rw [hgl]; exact n1) h0 ?_) (by decide))
  refine wpAny_bind (wpAny_standAt (wpAny_bind (wpAny_holding (GM.join ?_))))
  refine Calls.callWith_builtin rfl (Calls.evalArgs_plain (Calls.spliced_cons ?_))
  refine Tuple_ ?_
  refine args_cons (wpAny_Name (wpAny_loadName_local hk ha n e1 ?_) hda)
  refine args_cons (wpAny_Name (wpAny_loadName_local hk hb n e2 (args_nil ?_)) hdb)
  refine wpAny_newObj_type ?_ (by size_fits)
  refine Calls.spliced_nil ?_
  refine join_tuple (ys := [p.1, p.2]) ⟨_, Heap.get?_push_size _ rfl, rfl, _, rfl⟩ (.cons _ _ (.cons _ _ .nil)) ?_ fun t' k => ?_
  · simp
    have : ("" : Str).length = 0 := by rfl
    omega
  · exact ⟨⟨t', rfl⟩, _, _, rfl, fun b o e => Heap.get?_push_of_some _ e⟩
noncomputable def fullText (ps : List Piece) : Str := Txt.join "" (ps.map ptext)
theorem cStr {a : Addr} {w : Int} {ps : List Piece} {sto : Sto} {Q : V → Sto → Prop} (hm : (a, .acc (.int w) (ps.map pv)) ∈ sto) (hl : ∀ p ∈ ps, p.1.length ≤ 1000 ∧ p.2.length ≤ 1000) (hj : JoinOk "" (ps.map ptext) = true) (hn : ps.length ≤ 1000) (q : Q (.str (fullText ps)) sto) : TC g 2 (.ref fStr.a) [.ref a] [] [] Q sto := by
  refine TC.def (ns := ["self"]) (meth_of (by walk_at "in")) (by decide) rfl (plain_1 fun fd u => rfl) rfl (by decide) (by decide) (by decide) (by decide) rfl rfl rfl fun C E hn => ?_
  show TXs g C _ _ ⟨[("self", .ref a)], sto⟩
  refine TXs.cons (TX.ret fun s gs => ?_)
  have hself : (("self" : Str), V.ref a) ∈ ([("self", .ref a)] : Loc) := List.mem_cons_self
  obtain ⟨t0, h0⟩ := g.top.ge
  show wpAny g.M C.A (do
      let ov ← eval (.Name "EMPTYSTRING" _) C.env
      standAt _
      let (f, first) ← holding [ov] (getMethod ov "join" _)
      callWith _ f first _ []) _ _ s
  refine wpAny_bind (Calls.Name_function_global C.kind (by walk_at "kg") (Calls.loadGlobal_global (mg := g.mg) (by rw [C.globals]; exact Ns.base g.top.gl gs.base (by decide)) h0 ?_) (by decide))
  refine wpAny_bind (wpAny_standAt (wpAny_bind (wpAny_holding (GM.join ?_))))
  refine Calls.callWith_builtin rfl (Calls.evalArgs_plain (Calls.spliced_cons ?_))
  refine gen_pile (F := fun p y => ∃ t, y = .str (ptext p) t) (P := 106) E (by decide) gs (st := ⟨[("self", .ref a)], sto⟩) hm hself rfl ?_ (by decide) (by decide) (by decide) (by decide) (by decide) rfl ?_ ?_
  · rfl
  · intro C' code A' E' p u v s₂ m₂ hp n e1 e2 n1 n2
    exact el_join (g := g) (p := p) rfl rfl rfl rfl C.globals n1 n e1 e2 (hl p hp).1 (hl p hp).2 (by decide) (by decide) rfl
  intro ag fp wr gi St s' g' x' W hst hT hag hfp leave
  refine Calls.spliced_nil ?_
  have W2 := W.in4_2
  refine SC.joinGen W2 hT hst hfp hag (fun j v ⟨p, hp, t, e⟩ => ⟨_, t, e⟩) (fun s'' lt hm2 hacc => ?_) (by rw [sizeLine_eq]; omega)
  have hl2 : lt.map (·.1) = ps.map ptext := by
    apply List.ext_getElem?
    intro j
    have hsz : lt.length = ps.length := by simpa [strValues] using hacc.1
    by_cases hj : j < ps.length
    · have hj' : j < lt.length := hsz ▸ hj
      obtain ⟨p, hp, u, hv⟩ := hacc.2 j (.str lt[j].1 lt[j].2) (by simp [strValues, List.getElem?_eq_getElem hj'])
      injection hv with h1 _
      rw [List.getElem?_map, List.getElem?_map, hp, List.getElem?_eq_getElem hj']
      simp [h1]
    · rw [List.getElem?_eq_none (by simpa [hsz] using Nat.le_of_not_lt hj), List.getElem?_eq_none (by simpa using Nat.le_of_not_lt hj)]
  rw [hl2]
  obtain ⟨g6, x6⟩ := leave s'' hm2
  obtain ⟨g7, x7⟩ := g6.toks s''.toks
  refine ⟨hj, fun t' k => ?_⟩
  obtain ⟨g7, x7⟩ := g6.toks k
  exact ⟨.str (fullText ps), _, VR.str _ _, g7, Step.trans x6 x7, q⟩
end
end
section -- P58
section
variable {g : G} {s : Shared} {sto : Sto}
theorem special_pile {A : Around} {E : Value → Shared → Prop} (gs : GoodS g sto s) {a : Addr} {w : V} {vs : List V} (hm : (a, .acc w vs) ∈ sto) {f : Fn} {name : Str} (hf : f ∈ meths) (hlt : f.a ∉ tbls) (hrow : (name, some (.ref f.a)) ∈ accRows) {Q : Option Value → Shared → Prop}
    (h : wpAny g.M A (call (.ref f.a) [.ref a]) (fun v => Q (some v)) E s) : wpAny g.M A (callSpecial? (.ref a) name) Q E s := by
  unfold callSpecial?
  refine wpAny_bind (pileSpecial gs hm hrow ?_)
  refine wpAny_holding (wpAny_bind ?_)
  have hb : W.Looks g.M s.heap (bindSpecial (.ref f.a) (.ref a)) (.ref f.a, [.ref a]) := by
    unfold bindSpecial
    exact (fnType gs.base hf hlt).andThen (W.Looks.of_pure (by kernel_rfl))
  refine hb.here (wpAny_bind (wpAny_mono h (fun v s' q => wpAny_pure q) fun _ _ e => e))
/-- a call by its contract -/
theorem call_raw {A : Around} {E : Value → Shared → Prop} {n : Nat} {f : Value} {args : List V} {vals : List Value} {P : V → Sto → Prop} (gs : GoodS g sto s) (h : TC g n f args [] [] P sto) (hd : A.depth + 4 * n < 900) (hu : A.units + 40 * n < 9000) (hh : A.handled = none) (rv : VRs s.heap args vals)
    {Q : Value → Shared → Prop} (q : ∀ v x sto' s', VR s'.heap v x → GoodS g sto' s' → SS g sto sto' s s' → P v sto' → Q x s') : wpAny g.M A (call f vals) Q E s :=
  wpAny_call (codeAny_mono (h A s vals [] hd hu hh gs rv VRs.nil) fun r s' ⟨v, x, sto', e, rx, g', x', p⟩ => by subst e; exact q v x sto' s' rx g' x' p)
theorem len_core {A : Around} (gs : GoodS g sto s) {a : Addr} {w : Int} {ps : List Piece} (hm : (a, .acc (.int w) (ps.map pv)) ∈ sto) (hl : ∀ p ∈ ps, p.1.length ≤ 1000 ∧ p.2.length ≤ 1000) (h0 : 0 ≤ fullLen w ps ∧ fullLen w ps < 2 ^ 62) (hd : A.depth + 4 * 2 < 900) (hu : A.units + 40 * 2 < 9000) (hh : A.handled = none)
    {P : PySem.Fin → Shared → Prop} {E : Value → Shared → Prop} (q : ∀ s' t, GoodS g sto s' → SS g sto sto s s' → P (.done (.ret (.int (fullLen w ps) t))) s') : wpAny g.M A (Builtin.«len» ⟨[.ref a], []⟩) P E s := by
  unfold Builtin.«len»
  refine wpAny_bind (m := oneArg "len" _) (wpAny_pure ?_)
  refine wpAny_bind (m := callSpecial? (.ref a) (Str.ofString "__len__")) (special_pile (f := fLen) gs hm (by walk_at "in") (by decide) (by walk_at "in") ?_)
  refine call_raw gs (cLen (Q := fun v sto' => v = .int (fullLen w ps) ∧ sto' = sto) hm hl ⟨rfl, rfl⟩) hd hu hh (.cons (.ref a) .nil) fun v x sto' s' rx g' x' ⟨e1, e2⟩ => ?_
  subst e1 e2
  cases rx
  refine wpAny_bind (wpAny_holding (wpAny_pure ?_))
  refine wpAny_bind (wpAny_letGo ?_)
  show wpAny _ _ (if fullLen w ps < 0 then _ else _) _ _ _
  first | refine iteF (by omega) ?_ | rw [if_neg (by omega)]
  show wpAny _ _ (if fullLen w ps ≥ 2 ^ 63 then _ else _) _ _ _
  first | refine iteF (by omega) ?_ | rw [if_neg (by omega)]
  refine wpAny_bind (wpAny_mkInt (wpAny_pure ?_))
  exact q _ _ (g'.ext (fun _ _ e => e) rfl rfl) (Step.trans x' (SS.ext (fun _ _ e => e) rfl))
end
section
variable {g : G} {C : Fm g} {st : St}
theorem TO1.lenP {a : Addr} {w : Int} {ps : List Piece} {Q : V → St → Prop} (hm : (a, .acc (.int w) (ps.map pv)) ∈ st.sto) (hl : ∀ p ∈ ps, p.1.length ≤ 1000 ∧ p.2.length ≤ 1000) (h0 : 0 ≤ fullLen w ps ∧ fullLen w ps < 2 ^ 62) (hn : 3 ≤ C.n) (q : Q (.int (fullLen w ps)) st) :
    TO1 VR g C (fun x => call (.builtin "len") [x]) (.ref a) Q st := fun s x gs r => by
  cases r
  have hd := C.depth
  have hu := C.units
  refine Calls.call_function_entry kind_len plain_len entry_len (args_len1 _) ?_
  refine len_core (A := C.A.in1) gs.toGoodS hm hl h0 (by show C.A.depth + _ < _; omega) (by show C.A.units + 1 + _ < _; omega) C.handled fun s' t g' x' => ?_
  obtain ⟨g2, x2⟩ := gs.back g' x'
  exact ⟨_, rfl, .int (fullLen w ps), st, VR.int _ t, g2, x2, q⟩
theorem TO1.truthP {a : Addr} {w : Int} {ps : List Piece} {Q : Bool → St → Prop} (hm : (a, .acc (.int w) (ps.map pv)) ∈ st.sto) (hl : ∀ p ∈ ps, p.1.length ≤ 1000 ∧ p.2.length ≤ 1000) (h0 : 0 ≤ fullLen w ps ∧ fullLen w ps < 2 ^ 62) (hn : 3 ≤ C.n) (q : Q (fullLen w ps != 0) st) :
    TO1 RB g C truthy (.ref a) Q st := fun s x gs r => by
  cases r
  have hd := C.depth
  have hu := C.units
  unfold truthy
  refine wpAny_bind (m := callSpecial? (.ref a) (Str.ofString "__bool__")) (wpAny_bind (pileSpecial gs.toGoodS hm (r := none) (by simp [accRows]) (wpAny_pure ?_)))
  refine wpAny_bind (pileSpecial gs.toGoodS hm (r := some (.ref 104)) (by simp [accRows]) ?_)
  simp only [Option.isNone_some, Bool.false_eq_true, if_false]
  refine wpAny_bind (wpAny_runValue (codeAny_builtin entry_len ?_))
  rw [Around.under_plainId plain_len _]
  refine len_core (A := C.A.in1) gs.toGoodS hm hl h0 (by show C.A.depth + _ < _; omega) (by show C.A.units + 1 + _ < _; omega) C.handled fun s' t g' x' => ?_
  obtain ⟨g2, x2⟩ := gs.back g' x'
  exact wpAny_pure ⟨(fullLen w ps != 0), st, rfl, g2, x2, q⟩
theorem TO1.strP {a : Addr} {w : Int} {ps : List Piece} {Q : V → St → Prop} (hm : (a, .acc (.int w) (ps.map pv)) ∈ st.sto) (hl : ∀ p ∈ ps, p.1.length ≤ 1000 ∧ p.2.length ≤ 1000) (hj : JoinOk "" (ps.map ptext) = true) (hp : ps.length ≤ 1000) (hn : 3 ≤ C.n) (q : Q (.str (fullText ps)) st) :
    TO1 VR g C (fun x => call (.type "str") [x]) (.ref a) Q st := fun s x gs r => by
  cases r
  have hd := C.depth
  have hu := C.units
  have hmeths : fStr ∈ meths := by walk_at "in"
  refine callType_codes (T := "str") (Bi := Builtin.«object.__init__») (Q₁ := fun r s₁ => ∃ y u, r = .str y u ∧ Po VR g C st s Q r s₁) PySem.F.called_str (PySem.F.typeCall_str_1 _) PySem.F.entry_object_init ?_ ?_
  · refine codeAny_of_tree ?_
    show wpAny _ C.A.in1.in1 (do checkBuiltinCall "str.__new__" ⟨[.type "str", .ref a], []⟩; again (.builtin "str.__new__" ⟨[.type "str", .ref a], []⟩)) _ _ s
    refine wpAny_bind (wpAny_of_eq (PySem.F.newCall_str_1 _) (wpAny_pure ⟨plainId_quiet (by decide +kernel) _, codeAny_builtin PySem.F.entry_str_new ?_⟩))
    rw [Around.under_plainId (by decide +kernel) _]
    rw [str_new_tree]
    refine wpAny_bind (wpAny_pure ?_)
    refine wpAny_bind (wpAny_of_eq isSubtype_str_str ?_)
    refine wpAny_bind ?_
    unfold PySem.Builtin.Str.strOf
    rw [show PySem.Builtin.Str.isExactStr (.ref a) = false from rfl]
    refine wpAny_bind (m := cRoomFor _ _) (wpAny_cRoomFor (by show C.A.units + 1 + 1 < 9900; omega) ?_)
    refine wpAny_bind (m := callSpecial? (.ref a) (Str.ofString "__str__")) (special_pile (f := fStr) gs.toGoodS hm hmeths (by decide) (by walk_at "in") ?_)
    refine call_raw (A := C.A.in1.in1) gs.toGoodS (cStr (Q := fun v sto' => v = .str (fullText ps) ∧ sto' = st.sto) hm hl hj hp ⟨rfl, rfl⟩) (by show C.A.depth + _ < _; omega) (by show C.A.units + 1 + 1 + _ < _; omega) C.handled (.cons (.ref a) .nil) fun v x sto' s' rx g' x' ⟨e1, e2⟩ => ?_
    subst e1 e2
    cases rx
    obtain ⟨g2, x2⟩ := gs.back g' x'
    exact wpAny_pure (wpAny_pure ⟨_, _, rfl, .str (fullText ps), st, VR.str _ _, g2, x2, q⟩)
  · rintro obj s₁ ⟨y, u, rfl, hq⟩
    exact ⟨typeIs_str _ _ _, PySem.F.args_object_init_2 _ _, object_init_meets PySem.F.called_str.init.lookup PySem.F.called_str.made (by decide) pr g.w C.A.in1 _ s₁ ⟨typeIs_str _ _ _, rfl, hq⟩⟩
end
end
section -- P59
section
variable {g : G} {C : Fm g} {st : St} {Q : V → St → Prop}
theorem TO1.notT {v : V} (h : TO1 RB g C truthy v (fun b st1 => Q (.bool (!b)) st1) st) : TO1 VR g C (unaryOp .Not) v Q st := fun s x gs r => by
  unfold unaryOp
  refine wpAny_holding ?_
  show wpAny _ _ (truthy x >>= fun b => pure (Value.bool (!b))) _ _ s
  exact wpAny_bind (wpAny_mono (h s x gs r) (fun b s1 ⟨b', st1, rb, g1, x1, q⟩ => by cases rb; exact wpAny_pure ⟨_, st1, VR.bool _, g1, x1, q⟩) fun _ _ e => e)
noncomputable abbrev kSp (Q : V → St → Prop) : V → St → Prop := fun v st => ∃ x, v = .str x ∧ Q (.bool (Txt.isspace x)) st
noncomputable abbrev kStr (Q : V → St → Prop) : V → St → Prop := fun v st => ∃ x, v = .str x ∧ x.length ≤ 1000 ∧ Q (.str (Txt.strip x)) st
theorem TE.isspace {o : Expr} {ap pos : Pos} {pl : Sem Bool} (h : TE g C o (kSp Q) st)
    (he : eval (.Call (.Attribute o "isspace" ap) [] [] pos) C.env = (do
      let ov ← eval o C.env
      standAt ap.atName
      let (f, first) ← holding [ov] (getMethod ov "isspace" pl)
      callWith pos f first (backTo pos (starEach [] C.env)) [])) : TE g C (.Call (.Attribute o "isspace" ap) [] [] pos) Q st := fun s gs => by
  rw [he]
  refine wpAny_bind (h.on gs fun v st1 x s1 q r g1 x1 => wpAny_bind (wpAny_standAt (wpAny_bind (wpAny_holding ?_))))
  obtain ⟨y, rfl, q⟩ := q
  cases r
  exact GM.isspace (callWith_method0 (SC.isspace ⟨_, st1, VR.bool _, g1, x1, q⟩))
theorem TE.strip {o : Expr} {ap pos : Pos} {pl : Sem Bool} (h : TE g C o (kStr Q) st)
    (he : eval (.Call (.Attribute o "strip" ap) [] [] pos) C.env = (do
      let ov ← eval o C.env
      standAt ap.atName
      let (f, first) ← holding [ov] (getMethod ov "strip" pl)
      callWith pos f first (backTo pos (starEach [] C.env)) [])) : TE g C (.Call (.Attribute o "strip" ap) [] [] pos) Q st := fun s gs => by
  rw [he]
  refine wpAny_bind (h.on gs fun v st1 x s1 q r g1 x1 => wpAny_bind (wpAny_standAt (wpAny_bind (wpAny_holding ?_))))
  obtain ⟨y, rfl, hl, q⟩ := q
  cases r
  refine GM.strip (callWith_method0 (SC.strip (fun t' k => ?_) (by rw [sizeLine_eq]; omega)))
  obtain ⟨g2, x2⟩ := g1.toks k
  exact ⟨_, st1, VR.str _ _, g2, Step.trans x1 x2, q⟩
end
section
variable {g : G}
/-- the pile's pieces are as they should be -/
structure POk (w : Int) (ps : List Piece) : Prop where
  short : ∀ p ∈ ps, p.1.length ≤ 1000 ∧ p.2.length ≤ 1000
  join : JoinOk "" (ps.map ptext) = true
  few : ps.length ≤ 700
  nn : 0 ≤ fullLen w ps
  fit : fullLen w ps < 2 ^ 62
noncomputable def wsF (w : Int) (ps : List Piece) : Bool := w == 0 && (fullLen w ps == 0 || Txt.isspace (fullText ps))
theorem cWs {a : Addr} {w : Int} {ps : List Piece} {sto : Sto} {Q : V → Sto → Prop} (hm : (a, .acc (.int w) (ps.map pv)) ∈ sto) (ok : POk w ps) (q : Q (.bool (wsF w ps)) sto) : TC g 4 (.ref fWs.a) [.ref a] [] [] Q sto := by
  refine TC.def (ns := ["self"]) (meth_of (by walk_at "in")) (by decide) rfl (plain_1 fun fd u => rfl) rfl (by decide) (by decide) (by decide) (by decide) rfl rfl rfl fun C E hn => ?_
  show TXs g C _ _ ⟨[("self", .ref a)], sto⟩
  refine TXs.cons (TX.ret ?_)
  refine TE.and2 (TE.cmp (TE.attrI ?_ rfl) rfl)
  walk_at "m1"
  refine ⟨a, w, _, rfl, hm, ?_⟩
  walk_at "m1"
  refine TO2.eqI (TO1.truthB ?_)
  by_cases hw : w = 0
  · first | refine iteT (by simpa using hw) ?_ | rw [if_pos (by simpa using hw)]
    refine TE.bool1 (TE.or2 (TE.un ?_))
    walk_at "m1"
    refine TO1.notT (TO1.truthP hm ok.short ⟨ok.nn, ok.fit⟩ (by omega) (TO1.truthB ?_))
    by_cases h0 : fullLen w ps = 0
    · first | refine iteT (by simpa using h0) ?_ | rw [if_pos (by simpa using h0)]
      have : wsF w ps = (!(fullLen w ps != 0)) := by unfold wsF; simp [hw, h0] <;> (subst hw; simp [h0])
      rw [← this]; exact q
    · first | refine iteF (by simpa using h0) ?_ | rw [if_neg (by simpa using h0)]
      refine TE.bool1 (TE.isspace ?_ rfl)
      refine TE.callT (T := "str") (by walk_at "in") (by walk_at "kg") ?_
      repeat walk_at "m1"
      refine TOL.one (TO1.strP hm ok.short ok.join (by have := ok.few; omega) (by omega) ⟨_, rfl, ?_⟩)
      have : wsF w ps = Txt.isspace (fullText ps) := by unfold wsF; subst hw; simp [h0]
      rw [← this]; exact q
  · first | refine iteF (by simpa using hw) ?_ | rw [if_neg (by simpa using hw)]
    have : wsF w ps = (w == 0) := by unfold wsF; simp [hw]
    rw [← this]; exact q
end
end
section -- P60
section
variable {g : G}
/-- what is told of a pile is as due -/
structure Due (w : Int) (ps : List Piece) (x : Str) : Prop where
  text : fullText ps = x
  len : fullLen w ps = w + (x.length : Int)
  ws : wsF w ps = (w == 0 && Txt.strip x == ("" : Str))
  short : x.length ≤ 1000
theorem plain_4 {f : Fn} {x y z t : Str} (h : ∀ (fd : FuncData) (u v w r : Value), bindArgs { fd with params := f.ps, defaults := f.dV, kwdefaults := f.kV } ⟨[u, v, w, r], []⟩ = pure [(x, u), (y, v), (z, w), (t, r)]) : Plain f [x, y, z, t] := fun fd h1 h2 h3 vals hl => by
  obtain ⟨u, vals, rfl⟩ := List.exists_cons_of_length_eq_add_one hl
  obtain ⟨v, w, r, rfl⟩ := len3 (Nat.succ.inj hl)
  have := h fd u v w r
  rw [← h1, ← h2, ← h3] at this
  exact this
theorem cps_beq (x y : Str) : (x.cps.toList == y.cps.toList) = (x == y) := by
  cases x with | mk a => cases y with | mk b =>
  rw [Bool.eq_iff_iff]
  simp
theorem cDue {a : Addr} {w : Int} {ps : List Piece} {x : Str} {hi : Int} {sto : Sto} {Q : V → Sto → Prop} (hm : (a, .acc (.int w) (ps.map pv)) ∈ sto) (ok : POk w ps) (du : Due w ps x) (hh : hi = ps.length) (q : ∀ sto', Keeps sto sto' → Q (.bool true) sto') : TC g 6 (.ref fDue.a) [.ref a, .int w, .str x, .int hi] [] [] Q sto := by
  refine TC.def (ns := ["pile", "first", "front", "high"]) (g.top.fn _ (by walk_at "in")) (by decide) rfl (plain_4 fun fd u v w r => rfl) rfl (by decide) (by decide) (by decide) (by decide) rfl rfl rfl fun C E hn => ?_
  show TXs g C _ _ ⟨[("pile", .ref a), ("first", .int w), ("front", .str x), ("high", .int hi)], sto⟩
  refine TXs.cons ?_
  repeat walk_at "m1"
  refine TE.callT (T := "str") (by walk_at "in") (by walk_at "kg") ?_
  repeat walk_at "m1"
  refine TOL.one (TO1.strP hm ok.short ok.join (by have := ok.few; omega) (by omega) ?_)
  walk_at "m1"
  refine TE.callB (bid := "len") (by walk_at "in") (by walk_at "kg") ?_
  repeat walk_at "m1"
  refine TOL.one (TO1.lenP hm ok.short ⟨ok.nn, ok.fit⟩ (by omega) ?_)
  walk_at "m1"
  refine TE.meth0 (f := fCnt) (m := 1) (by walk_at "in") (by decide) (by walk_at "in") (by decide) (n_le hn) ?_ rfl
  walk_at "m1"
  refine ⟨a, _, _, rfl, hm, cCnt hm ?_⟩
  walk_at "m1"
  refine TE.meth0 (f := fWs) (m := 4) (by walk_at "in") (by decide) (by walk_at "in") (by decide) (n_le hn) ?_ rfl
  walk_at "m1"
  refine ⟨a, _, _, rfl, hm, cWs hm ok ?_⟩
  walk_at "m1"
  refine ⟨by simp, fun D hD => ?_⟩
  have hf : ∀ p ∈ sto, p.1 ≠ D := hD
  repeat walk_at "m1"
  refine TE.callB (bid := "len") (by walk_at "in") (by walk_at "kg") ?_
  repeat walk_at "m1"
  refine TOL.one (TO1.lenS (by have := du.short; omega) (TO2.addI ?_))
  repeat walk_at "m1"
  have fin : ∀ (E : Addr) (b : Bool), b = (w == 0 && Txt.strip x == ("" : Str)) → EqSs ((E, Cell.list [V.str x, V.int (w + x.length), V.int hi, V.bool b]) :: (D, Cell.list [V.str (fullText ps), V.int (fullLen w ps), V.int ((ps.map pv).length : Nat), V.bool (wsF w ps)]) :: sto)
      [V.str (fullText ps), V.int (fullLen w ps), V.int ((ps.map pv).length : Nat), V.bool (wsF w ps)] [V.str x, V.int (w + x.length), V.int hi, V.bool b] true := fun E b hb => by
    refine EqSs.of ?_ ?_
    · rw [du.text, du.len, du.ws, hh, hb, List.length_map]
      exact eqvs_both (eqv_ss _) (eqvs_both (eqv_ii _) (eqvs_both (eqv_ii _) (eqvs_both (eqv_bb _) eqvs_nil)))
    · intro v hv
      simp only [List.mem_cons, List.not_mem_nil, or_false] at hv
      rcases hv with rfl | rfl | rfl | rfl <;> simp [deep]
  refine TE.and2 (TE.cmp ?_ rfl)
  repeat walk_at "m1"
  refine TO2.eqI (TO1.truthB ?_)
  by_cases hw : w = 0
  · first | refine iteT (by simpa using hw) ?_ | rw [if_pos (by simpa using hw)]
    refine TE.bool1 (TE.cmp (TE.strip ?_ rfl) rfl)
    repeat walk_at "m1"
    refine ⟨x, rfl, du.short, ?_⟩
    repeat walk_at "m1"
    refine TO2.eqS ?_
    repeat walk_at "m1"
    refine ⟨by simp, fun E hE => ?_⟩
    refine TO2.eqL (List.mem_cons_of_mem _ List.mem_cons_self) List.mem_cons_self (fin E _ ?_) ?_
    · rw [cps_beq]; subst hw; simp
    · exact q _ fun p hp => List.mem_cons_of_mem _ (List.mem_cons_of_mem _ hp)
  · first | refine iteF (by simpa using hw) ?_ | rw [if_neg (by simpa using hw)]
    repeat walk_at "m1"
    refine ⟨by simp, fun E hE => ?_⟩
    refine TO2.eqL (List.mem_cons_of_mem _ List.mem_cons_self) List.mem_cons_self (fin E _ ?_) ?_
    · simp [hw]
    · exact q _ fun p hp => List.mem_cons_of_mem _ (List.mem_cons_of_mem _ hp)
end
end
section -- P61
section
variable {g : G}
noncomputable def stepD (x : Nat × List (Nat × Bool) × List Nat) (up : Bool) : Nat × List (Nat × Bool) × List Nat := if up then (x.1 + 1, x.2.1 ++ [(x.1, true)] ++ [(x.1 + 1, false)], x.2.2 ++ [x.1]) else (x.1 - 1, x.2.1, x.2.2)
noncomputable def runD (ds : List Bool) (i : Nat) : Nat × List (Nat × Bool) × List Nat := (ds.take i).foldl stepD (0, [], [])
theorem runD_succ {ds : List Bool} {i : Nat} {b : Bool} (h : ds[i]? = some b) : runD ds (i + 1) = stepD (runD ds i) b := by
  unfold runD
  rw [List.take_add_one, h]
  simp
theorem stepD_len (x : Nat × List (Nat × Bool) × List Nat) (d : Bool) : (stepD x d).2.1.length ≤ x.2.1.length + 2 ∧ (stepD x d).2.2.length ≤ x.2.2.length + 1 := by
  unfold stepD
  cases d <;> simp
theorem runD_len : ∀ (ds : List Bool) (x : Nat × List (Nat × Bool) × List Nat), (ds.foldl stepD x).2.1.length ≤ x.2.1.length + 2 * ds.length ∧ (ds.foldl stepD x).2.2.length ≤ x.2.2.length + ds.length
  | [], x => by simp
  | d :: ds, x => by
    have ih := runD_len ds (stepD x d)
    have hs := stepD_len x d
    rw [List.foldl_cons, List.length_cons]
    omega
theorem runD_few {ds : List Bool} {i : Nat} (h : ds.length ≤ 14) : (runD ds i).2.1.length ≤ 28 ∧ (runD ds i).2.2.length ≤ 14 := by
  have := runD_len (ds.take i) (0, [], [])
  have hl : (ds.take i).length ≤ 14 := by rw [List.length_take]; omega
  unfold runD
  simp at this
  constructor <;> (simp at hl ⊢; omega)
/-- the deeds never push past seven nor pop from nothing -/
noncomputable def OkD (ds : List Bool) : Prop := ∀ (i : Nat) (b : Bool), ds[i]? = some b → if b then (runD ds i).1 < 7 else 0 < (runD ds i).1 ∧ (runD ds i).1 ≤ 7
theorem take_pv {ps : List Piece} {h : Nat} {p : Piece} (e : ps[h]? = some p) : (ps.take (h + 1)).map pv = (ps.take h).map pv ++ [.tup [.str p.1, .str p.2]] := by
  rw [List.take_add_one, e, List.map_append]; rfl
section
variable {C : Fm g} {st : St} {P : V → St → Prop} {p : Pos} {m : Nat}
theorem TE.newP {e : Expr} {rest : List Expr} {pos : Pos} (hk : C.env.kindOf "_Accumulator" = some .globalImplicit) (hm : m ≤ C.n)
    (h : TEs g C pos (e :: rest) (kCall g m (.ref 137) P) st)
    (he : starEach (e :: rest) C.env = (false, eval e C.env) :: starEach rest C.env := by rfl) (hplain : (backTo pos (starEach rest C.env)).any (·.1) = false := by rfl) : TE g C (.Call (.Name "_Accumulator" p) (e :: rest) [] pos) P st := fun s gs => by
  refine wpAny_Call_Name_kw (Calls.Name_function_global C.kind hk (Calls.loadGlobal_global (mg := g.mg) (by rw [C.globals]; exact Ns.base g.top.gl gs.base (by decide)) (g.top.gn ("_Accumulator", .ref 137) (by walk_at "in")) ?_) (by decide))
  obtain ⟨oC, oN, h1, h2, k⟩ := g.top.acc
  have X : ∀ {s : Shared}, Base g.H s.heap → W.Frag.In [(137, oC), (136, oN)] s.heap := fun b => in2 (b.keep _ _ h1 (by decide)) (b.keep _ _ h2 (by decide))
  refine W.callWith_K (X gs.base) (keepK k) (h.on gs fun vs st1 as s1 q rs g1 x1 => ⟨X g1.base, ?_⟩) he hplain
  exact wpAny_mono (call_of (ks := []) g1 q hm rs VRs.nil) (fun _ _ p => Po.trans x1 p) fun _ _ e => e
theorem TE.newP0 {pos : Pos} (hk : C.env.kindOf "_Accumulator" = some .globalImplicit) (hm : m ≤ C.n)
    (h : TC g m (.ref 137) [] [] [] (kSto st.loc P) st.sto) : TE g C (.Call (.Name "_Accumulator" p) [] [] pos) P st := fun s gs => by
  refine wpAny_Call_Name_kw (Calls.Name_function_global C.kind hk (Calls.loadGlobal_global (mg := g.mg) (by rw [C.globals]; exact Ns.base g.top.gl gs.base (by decide)) (g.top.gn ("_Accumulator", .ref 137) (by walk_at "in")) ?_) (by decide))
  obtain ⟨oC, oN, h1, h2, k⟩ := g.top.acc
  have X : ∀ {s : Shared}, Base g.H s.heap → W.Frag.In [(137, oC), (136, oN)] s.heap := fun b => in2 (b.keep _ _ h1 (by decide)) (b.keep _ _ h2 (by decide))
  exact W.callWith_K0 (X gs.base) (keepK k) (call_of (ks := []) gs h hm VRs.nil VRs.nil)
end
theorem bInit1 {a x : V} : Bnd g fInit [a, x] [] [] ["self", "initial_size"] [a, x] := fun fd h1 h2 h3 s vals kvals b q r => by
  obtain ⟨v1, v2, rfl, r1, r2⟩ := q.two
  obtain rfl := r.zero
  refine ⟨[v1, v2], .cons r1 (.cons r2 .nil), rfl, ?_⟩
  obtain ⟨t, n, e⟩ := g.top.df1
  have F : W.Frag.In [(66, { cls := .type "tuple", data := .seq #[.int 0 t] n }), (66, { cls := .type "tuple", data := .seq #[.int 0 t] n })] s.heap := in2 (b.keep _ _ e (by decide)) (b.keep _ _ e (by decide))
  cases fd
  simp only at h1 h2 h3
  subst h1 h2 h3
  exact binds_peek F fun S => by rfl
theorem bInit0 {a : V} : Bnd g fInit [a] [] [] ["self", "initial_size"] [a, .int 0] := fun fd h1 h2 h3 s vals kvals b q r => by
  obtain ⟨v1, rfl, r1⟩ := q.one
  obtain rfl := r.zero
  obtain ⟨t, n, e⟩ := g.top.df1
  refine ⟨[v1, .int 0 t], .cons r1 (.cons (.int 0 t) .nil), rfl, ?_⟩
  have F : W.Frag.In [(66, { cls := .type "tuple", data := .seq #[.int 0 t] n }), (66, { cls := .type "tuple", data := .seq #[.int 0 t] n })] s.heap := in2 (b.keep _ _ e (by decide)) (b.keep _ _ e (by decide))
  cases fd
  simp only at h1 h2 h3
  subst h1 h2 h3
  exact binds_peek F fun S => by rfl
theorem TO2.iaddI {C : Fm g} {Q : V → St → Prop} {st : St} {i j : Int} (q : Q (.int (i + j)) st) : TO2 VR g C (inplaceOp .Add) (.int i) (.int j) Q st := fun s x y gs rx ry => by
  cases rx; cases ry; exact AutoIntOps.iadd_0 (Po.toks gs _ (VR.int _ _) q)
theorem TO2.isubI {C : Fm g} {Q : V → St → Prop} {st : St} {i j : Int} (q : Q (.int (i - j)) st) : TO2 VR g C (inplaceOp .Sub) (.int i) (.int j) Q st := fun s x y gs rx ry => by
  cases rx; cases ry; exact AutoIntOps.isub_0 (Po.toks gs _ (VR.int _ _) q)
theorem eqv_pv (p : Piece) : Mine.eqv (pv p) (pv p) = some true ∧ deep (pv p) ≤ 800 := by
  constructor
  · exact eqvs_both (eqv_ss _) (eqvs_both (eqv_ss _) eqvs_nil)
  · simp [pv, deep, deeps]
noncomputable def deepFor : List Stmt := subAt fDeep.body 4
noncomputable def deepLoc (w : Int) (pa fa P M H : Addr) (k : Nat) : Loc := [("first", .int w), ("pieces", .ref pa), ("fronts", .ref fa), ("pile", .ref P), ("marks", .ref M), ("heights", .ref H), ("high", iv k)]
theorem deepTail {C : Fm g} (E : IsEnv g fDeep C) (hn : C.n = 7) {fr : Nat → Str} {w : Int} {ps : List Piece} {pa fa P M H : Addr} {k : Nat} {l : Loc} {t : Sto} (ok : POk w (ps.take k)) (du : Due w (ps.take k) (fr k)) (hk : k ≤ 7) (hpl : ps.length = 7) (hs : Has l (deepLoc w pa fa P M H k)) (h3 : (fa, .list (frV fr)) ∈ t)
    (hm : (P, .acc (.int w) ((ps.take k).map pv)) ∈ t) {Qp : F → St → Prop} (q : ∀ t', Keeps t t' → Qp .next ⟨deepLoc w pa fa P M H k, t'⟩) : TXs g C (deepFor.drop 1) Qp ⟨l, t⟩ := by
  refine Tr.less (st' := ⟨deepLoc w pa fa P M H k, t⟩) hs rfl ?_
  refine TXs.cons (TX.ite (TT.not (TT.val ?_ (by intro w; rfl))))
  refine TE.callP (f := fDue) (m := 6) (by walk_at "in") (by walk_at "in") (by walk_at "kg") (by decide) (n_le hn) ?_
  unfold deepLoc
  repeat walk_at "m1"
  refine TO2.itemL k rfl h3 (frV_at (by omega)) (by simp [frV]) ?_
  repeat walk_at "m1"
  refine cDue hm ok du (by rw [List.length_take]; omega) fun t' K' => TO1.truthB ?_
  refine TXs.nil ?_
  exact TXs.nil (q t' K')
theorem cDeep {fr : Nat → Str} {w : Int} {ps : List Piece} {ds : List Bool} {da pa fa : Addr} (hp : ps.length = 7) (hd : ds.length ≤ 14) (okD : OkD ds) (ok : ∀ h, h ≤ 7 → POk w (ps.take h)) (du : ∀ h, h ≤ 7 → Due w (ps.take h) (fr h)) {sto : Sto} {Q : V → Sto → Prop}
    (h1 : (da, .list (ds.map V.bool)) ∈ sto) (h2 : (pa, .list (ps.map pv)) ∈ sto) (h3 : (fa, .list (frV fr)) ∈ sto)
    (q : ∀ D M H sto', (∀ p ∈ sto, p.1 ≠ M) → (∀ p ∈ sto, p.1 ≠ H) → M ≠ H → Keeps sto sto' → (D, .list [.ref M, .ref H]) ∈ sto' → (M, .list ((runD ds ds.length).2.1.map (mkV fr))) ∈ sto' → (H, .list ((runD ds ds.length).2.2.map iv)) ∈ sto' → Q (.ref D) sto') :
    TC g 8 (.ref fDeep.a) [.ref da, .int w, .ref pa, .ref fa] [] [] Q sto := by
  refine TC.def (ns := ["deeds", "first", "pieces", "fronts"]) (fn_of (by walk_at "in")) (by decide) rfl (plain_4 fun fd u v w r => rfl) rfl (by decide) (by decide) (by decide) (by decide) rfl rfl rfl fun C E hn => ?_
  show TXs g C _ _ ⟨[("deeds", .ref da), ("first", .int w), ("pieces", .ref pa), ("fronts", .ref fa)], sto⟩
  refine TXs.cons ?_
  repeat walk_at "m1"
  refine TE.newP (m := 4) (by walk_at "kg") (n_le hn) ?_
  repeat walk_at "m1"
  refine cNew (fun a => bInit1) fun P hP => ?_
  repeat walk_at "m1"
  refine ⟨by simp, fun M hM => ?_⟩
  repeat walk_at "m1"
  refine ⟨by simp, fun H hH => ?_⟩
  repeat walk_at "m1"
  have hMP : M ≠ P := fun h => hM (P, .acc (.int w) []) List.mem_cons_self h.symm
  have hHP : H ≠ P := fun h => hH (P, .acc (.int w) []) (List.mem_cons_of_mem _ List.mem_cons_self) h.symm
  have hHM : H ≠ M := fun h => hH (M, .list []) List.mem_cons_self h.symm
  have hM' : ∀ p ∈ sto, p.1 ≠ M := fun p hp => hM p (List.mem_cons_of_mem _ hp)
  have hP' : ∀ p ∈ sto, p.1 ≠ P := fun p hp => hP p hp
  have hH' : ∀ p ∈ sto, p.1 ≠ H := fun p hp => hH p (List.mem_cons_of_mem _ (List.mem_cons_of_mem _ hp))
  refine TX.for ?_
  refine TSrc.list ?_
  repeat walk_at "m1"
  clear hP hM hH
  refine ⟨da, _, rfl, List.mem_cons_of_mem _ (List.mem_cons_of_mem _ (List.mem_cons_of_mem _ h1)), fun i st => Has st.loc [("first", .int w), ("pieces", .ref pa), ("fronts", .ref fa), ("pile", .ref P), ("marks", .ref M), ("heights", .ref H), ("high", iv (runD ds i).1)] ∧ Keeps sto st.sto ∧ (runD ds i).1 ≤ 7 ∧
    (P, .acc (.int w) ((ps.take (runD ds i).1).map pv)) ∈ st.sto ∧ (M, .list ((runD ds i).2.1.map (mkV fr))) ∈ st.sto ∧ (H, .list ((runD ds i).2.2.map iv)) ∈ st.sto, ⟨by walk_at "has", ?_, Nat.zero_le _, ?_, ?_, ?_⟩, ?_, ?_⟩
  · exact fun p hp => List.mem_cons_of_mem _ (List.mem_cons_of_mem _ (List.mem_cons_of_mem _ hp))
  · exact List.mem_cons_of_mem _ (List.mem_cons_of_mem _ List.mem_cons_self)
  · exact List.mem_cons_of_mem _ List.mem_cons_self
  · exact List.mem_cons_self
  · rintro i v ⟨l, t⟩ hv ⟨Hs, K, h7, hmP, hmM, hmH⟩ _
    obtain ⟨b, hb, rfl⟩ := getE hv
    have okb := okD i b hb
    have few := runD_few (i := i) hd
    refine TA.less (st' := ⟨[("first", .int w), ("pieces", .ref pa), ("fronts", .ref fa), ("pile", .ref P), ("marks", .ref M), ("heights", .ref H), ("high", iv (runD ds i).1)], t⟩) Hs rfl ?_
    refine TA.name (by walk_at "sto") ?_
    refine TXs.cons (TX.ite (TT.val ?_ (by intro w; rfl)))
    walk_at "m1"
    refine TO1.truthB ?_
    have er := runD_succ hb
    unfold iv
    generalize runD ds i = r at *
    obtain ⟨k, dm, hs⟩ := r
    dsimp only at *
    cases b with
    | true =>
      walk_at "yes"
      have hk : k < 7 := okb
      obtain ⟨p, hpk⟩ : ∃ p, ps[k]? = some p := ⟨_, List.getElem?_eq_getElem (by omega)⟩
      refine TXs.cons (TX.expr (TE.append ?_) notInter)
      walk_at "m1"
      refine kApp.it hmM ?_
      repeat walk_at "m1"
      refine TE.callT (T := "str") (by walk_at "in") (by walk_at "kg") ?_
      repeat walk_at "m1"
      refine TOL.one (TO1.strP hmP (ok k (by omega)).short (ok k (by omega)).join (by have := (ok k (by omega)).few; omega) (by omega) ?_)
      repeat walk_at "m1"
      refine ⟨by simp, _, hmM, by rw [List.length_map]; omega, rfl, ?_⟩
      refine TXs.cons (TX.ite (TT.cmp ?_ rfl))
      refine TE.methP (f := fPush) (m := 1) (by walk_at "in") (by decide) (by walk_at "in") (by decide) (n_le hn) ?_ rfl rfl
      walk_at "m1"
      refine ⟨P, _, _, rfl, mem_put_ne hmP (Ne.symm hMP), ?_⟩
      repeat walk_at "m1"
      refine TO2.itemL k rfl (mem_put_ne (K _ h2) (hM' _ h2)) (v := pv p) (by rw [List.getElem?_map, hpk]; rfl) (by rw [List.length_map]; omega) ?_
      repeat walk_at "m1"
      refine TO2.itemT (vs := [.str p.1, .str p.2]) 0 rfl rfl (by simp) ?_
      repeat walk_at "m1"
      refine TO2.itemL k rfl (mem_put_ne (K _ h2) (hM' _ h2)) (v := pv p) (by rw [List.getElem?_map, hpk]; rfl) (by rw [List.length_map]; omega) ?_
      repeat walk_at "m1"
      refine TO2.itemT (vs := [.str p.1, .str p.2]) 1 rfl rfl (by simp) ?_
      repeat walk_at "m1"
      refine cPush (mem_put_ne hmP (Ne.symm hMP)) (by rw [List.length_map, List.length_take]; omega) ?_
      rw [← take_pv hpk]
      repeat walk_at "m1"
      refine TO2.isNotN (b := true) (fun h x r => by cases r; rfl) (kB.it ?_)
      walk_at "no"
      refine TXs.nil ?_
      have e1 : dm.map (mkV fr) ++ [.tup [.str (fullText (ps.take k)), .str "+"]] = (dm ++ [(k, true)]).map (mkV fr) := by rw [(du k h7).text, List.map_append]; rfl
      have e2 : (dm ++ [(k, true)]).map (mkV fr) ++ [.tup [.str (fullText (ps.take (k + 1))), .str "-"]] = (dm ++ [(k, true)] ++ [(k + 1, false)]).map (mkV fr) := by rw [(du (k + 1) hk).text, List.map_append (l₁ := dm ++ [(k, true)])]; rfl
      have e3 : hs.map iv ++ [iv k] = (hs ++ [k]).map iv := by rw [List.map_append]; rfl
      rw [e1]
      have hmM1 : (M, .list ((dm ++ [(k, true)]).map (mkV fr))) ∈ put t M (.list ((dm ++ [(k, true)]).map (mkV fr))) := mem_put hmM
      have hmP1 : (P, .acc (.int w) ((ps.take k).map pv)) ∈ put t M (.list ((dm ++ [(k, true)]).map (mkV fr))) := mem_put_ne hmP (Ne.symm hMP)
      have hmH1 : (H, .list (hs.map iv)) ∈ put t M (.list ((dm ++ [(k, true)]).map (mkV fr))) := mem_put_ne hmH hHM
      have K1 : Keeps sto (put t M (.list ((dm ++ [(k, true)]).map (mkV fr)))) := Keeps.put K hM'
      generalize put t M (.list ((dm ++ [(k, true)]).map (mkV fr))) = t1 at *
      have hmM2 : (M, .list ((dm ++ [(k, true)]).map (mkV fr))) ∈ put t1 P (.acc (.int w) ((ps.take (k + 1)).map pv)) := mem_put_ne hmM1 hMP
      have hmP2 : (P, .acc (.int w) ((ps.take (k + 1)).map pv)) ∈ put t1 P (.acc (.int w) ((ps.take (k + 1)).map pv)) := mem_put hmP1
      have hmH2 : (H, .list (hs.map iv)) ∈ put t1 P (.acc (.int w) ((ps.take (k + 1)).map pv)) := mem_put_ne hmH1 hHP
      have K2 : Keeps sto (put t1 P (.acc (.int w) ((ps.take (k + 1)).map pv))) := Keeps.put K1 hP'
      generalize put t1 P (.acc (.int w) ((ps.take (k + 1)).map pv)) = t2 at *
      refine TXs.cons (TX.expr (TE.append ?_) notInter)
      walk_at "m1"
      refine kApp.it hmM2 ?_
      repeat walk_at "m1"
      refine TE.callT (T := "str") (by walk_at "in") (by walk_at "kg") ?_
      repeat walk_at "m1"
      refine TOL.one (TO1.strP hmP2 (ok (k + 1) hk).short (ok (k + 1) hk).join (by have := (ok (k + 1) hk).few; omega) (by omega) ?_)
      repeat walk_at "m1"
      refine ⟨by simp, _, hmM2, by rw [List.length_map, List.length_append]; simp; omega, rfl, ?_⟩
      rw [e2]
      have hmM3 : (M, .list ((dm ++ [(k, true)] ++ [(k + 1, false)]).map (mkV fr))) ∈ put t2 M (.list ((dm ++ [(k, true)] ++ [(k + 1, false)]).map (mkV fr))) := mem_put hmM2
      have hmP3 : (P, .acc (.int w) ((ps.take (k + 1)).map pv)) ∈ put t2 M (.list ((dm ++ [(k, true)] ++ [(k + 1, false)]).map (mkV fr))) := mem_put_ne hmP2 (Ne.symm hMP)
      have hmH3 : (H, .list (hs.map iv)) ∈ put t2 M (.list ((dm ++ [(k, true)] ++ [(k + 1, false)]).map (mkV fr))) := mem_put_ne hmH2 hHM
      have K3 : Keeps sto (put t2 M (.list ((dm ++ [(k, true)] ++ [(k + 1, false)]).map (mkV fr)))) := Keeps.put K2 hM'
      generalize put t2 M (.list ((dm ++ [(k, true)] ++ [(k + 1, false)]).map (mkV fr))) = t3 at *
      refine TXs.cons (TX.expr (TE.append ?_) notInter)
      walk_at "m1"
      refine kApp.it hmH3 ?_
      repeat walk_at "m1"
      refine ⟨_, hmH3, by rw [List.length_map]; omega, rfl, ?_⟩
      rw [e3]
      refine TXs.cons (TX.aug (u := .int (k : Int)) (by walk_at "sto") (by walk_at "mem") ?_)
      repeat walk_at "m1"
      refine TO2.iaddI ?_
      rw [show (k : Int) + 1 = ((k + 1 : Nat) : Int) by omega]
      have hmM4 : (M, .list ((dm ++ [(k, true)] ++ [(k + 1, false)]).map (mkV fr))) ∈ put t3 H (.list ((hs ++ [k]).map iv)) := mem_put_ne hmM3 (Ne.symm hHM)
      have hmP4 : (P, .acc (.int w) ((ps.take (k + 1)).map pv)) ∈ put t3 H (.list ((hs ++ [k]).map iv)) := mem_put_ne hmP3 (Ne.symm hHP)
      have hmH4 : (H, .list ((hs ++ [k]).map iv)) ∈ put t3 H (.list ((hs ++ [k]).map iv)) := mem_put hmH3
      have K4 : Keeps sto (put t3 H (.list ((hs ++ [k]).map iv))) := Keeps.put K3 hH'
      generalize put t3 H (.list ((hs ++ [k]).map iv)) = t4 at *
      refine TXs.nil ?_
      have er' : runD ds (i + 1) = (k + 1, dm ++ [(k, true)] ++ [(k + 1, false)], hs ++ [k]) := er
      refine deepTail E hn (k := k + 1) (ok _ hk) (du _ hk) hk hp (by unfold deepLoc; walk_at "has") (K4 _ h3) hmP4 fun t' K' => ?_
      show (_ ∧ _ ∧ _ ∧ _ ∧ _ ∧ _) ∧ _
      rw [er']
      exact ⟨⟨by unfold deepLoc; walk_at "has", Keeps.trans K4 K', hk, K' _ hmP4, K' _ hmM4, K' _ hmH4⟩, K' _ (K4 _ h1)⟩
    | false =>
      walk_at "no"
      have hk : 0 < k := okb.1
      obtain ⟨j, rfl⟩ : ∃ j, k = j + 1 := ⟨k - 1, by omega⟩
      obtain ⟨p, hpk⟩ : ∃ p, ps[j]? = some p := ⟨_, List.getElem?_eq_getElem (by omega)⟩
      have er' : runD ds (i + 1) = (j, dm, hs) := er
      refine TXs.cons (TX.aug (u := .int ((j + 1 : Nat) : Int)) (by walk_at "sto") (by walk_at "mem") ?_)
      repeat walk_at "m1"
      refine TO2.isubI ?_
      rw [show ((j + 1 : Nat) : Int) - 1 = ((j : Nat) : Int) by omega]
      refine TXs.cons (TX.ite (TT.cmp ?_ rfl))
      refine TE.meth0 (f := fPop) (m := 2) (by walk_at "in") (by decide) (by walk_at "in") (by decide) (n_le hn) ?_ rfl
      walk_at "m1"
      have hmP' : (P, .acc (.int w) ((ps.take j).map pv ++ [pv p])) ∈ t := by have := hmP; rw [take_pv hpk] at this; exact this
      refine ⟨P, _, _, rfl, hmP', cPopS hmP' (by rw [List.length_map, List.length_take]; omega) ?_⟩
      have hmM4 : (M, .list (dm.map (mkV fr))) ∈ put t P (.acc (.int w) ((ps.take j).map pv)) := mem_put_ne hmM hMP
      have hmP4 : (P, .acc (.int w) ((ps.take j).map pv)) ∈ put t P (.acc (.int w) ((ps.take j).map pv)) := mem_put hmP
      have hmH4 : (H, .list (hs.map iv)) ∈ put t P (.acc (.int w) ((ps.take j).map pv)) := mem_put_ne hmH hHP
      have K4 : Keeps sto (put t P (.acc (.int w) ((ps.take j).map pv))) := Keeps.put K hP'
      generalize put t P (.acc (.int w) ((ps.take j).map pv)) = t4 at *
      repeat walk_at "m1"
      refine TO2.itemL j rfl (K4 _ h2) (v := pv p) (by rw [List.getElem?_map, hpk]; rfl) (by rw [List.length_map]; omega) ?_
      refine TO2.nev (eqv_pv p).1 (kB.it ?_) (eqv_pv p).2
      walk_at "no"
      refine TXs.nil ?_
      refine TXs.nil ?_
      refine deepTail E hn (k := j) (ok _ (by omega)) (du _ (by omega)) (by omega) hp (by unfold deepLoc; walk_at "has") (K4 _ h3) hmP4 fun t' K' => ?_
      show (_ ∧ _ ∧ _ ∧ _ ∧ _ ∧ _) ∧ _
      rw [er']
      exact ⟨⟨by unfold deepLoc; walk_at "has", Keeps.trans K4 K', by omega, K' _ hmP4, K' _ hmM4, K' _ hmH4⟩, K' _ (K4 _ h1)⟩
  · rintro ⟨l, t⟩ ⟨Hs, K, h7, hmP, hmM, hmH⟩ _
    rw [List.length_map] at hmM hmH Hs
    refine Tr.less (st' := ⟨_, t⟩) Hs rfl ?_
    repeat walk_at "m1"
    refine ⟨by simp, fun D hD => ?_⟩
    exact q D M H _ hM' hH' (Ne.symm hHM) (fun p hp => List.mem_cons_of_mem _ (K p hp)) List.mem_cons_self (List.mem_cons_of_mem _ hmM) (List.mem_cons_of_mem _ hmH)
end
end
section -- P62
section
variable {g : G}
noncomputable abbrev plusP : Piece := ("", "+")
noncomputable def stepA (x : Nat × Nat) (m : Nat × Bool) : Nat × Nat := if m.2 then (x.1 + 1, x.2 + x.1) else (x.1 - 1, x.2)
noncomputable def runA (rm : List (Nat × Bool)) (i : Nat) : Nat × Nat := (rm.take i).foldl stepA (0, 0)
theorem runA_succ {rm : List (Nat × Bool)} {i : Nat} {m : Nat × Bool} (h : rm[i]? = some m) : runA rm (i + 1) = stepA (runA rm i) m := by
  unfold runA
  rw [List.take_add_one, h]
  simp
/-- the marks never pop from nothing -/
noncomputable def OkA (rm : List (Nat × Bool)) : Prop := ∀ (i : Nat) (m : Nat × Bool), rm[i]? = some m → (runA rm i).1 ≤ 7 ∧ (m.2 = false → 0 < (runA rm i).1)
theorem ones_sum : ∀ n : Nat, (List.replicate n (1 : Int)).sum = n
  | 0 => rfl
  | n + 1 => by rw [List.replicate_succ, List.sum_cons, ones_sum n]; omega
theorem plus_len (n : Nat) : fullLen 0 (List.replicate n plusP) = n := by
  unfold fullLen
  rw [List.map_replicate]
  have : plen plusP = 1 := by decide +kernel
  rw [this, ones_sum]; simp
theorem plus_short (n : Nat) : ∀ p ∈ List.replicate n plusP, p.1.length ≤ 1000 ∧ p.2.length ≤ 1000 := fun p hp => by
  rw [List.eq_of_mem_replicate hp]; decide +kernel
theorem plus_snoc (n : Nat) : (List.replicate (n + 1) plusP).map pv = (List.replicate n plusP).map pv ++ [.tup [.str "", .str "+"]] := by
  rw [List.replicate_succ', List.map_append]; rfl
theorem cArea {fr : Nat → Str} {rm : List (Nat × Bool)} {ra : Addr} (hl : rm.length ≤ 14) (okA : OkA rm) (h0 : (runA rm rm.length).1 = 0) {sto : Sto} {Q : V → Sto → Prop} (h1 : (ra, .list (rm.map (mkV fr))) ∈ sto)
    (q : ∀ sto', Keeps sto sto' → Q (iv (runA rm rm.length).2) sto') : TC g 8 (.ref fArea.a) [.ref ra] [] [] Q sto := by
  refine TC.def (ns := ["row"]) (fn_of (by walk_at "in")) (by decide) rfl (plain_1 fun fd u => rfl) rfl (by decide) (by decide) (by decide) (by decide) rfl rfl rfl fun C E hn => ?_
  show TXs g C _ _ ⟨[("row", .ref ra)], sto⟩
  refine TXs.cons ?_
  repeat walk_at "m1"
  refine TE.newP0 (m := 4) (by walk_at "kg") (n_le hn) ?_
  refine cNew (fun a => bInit0) fun P hP => ?_
  repeat walk_at "m1"
  refine TX.for ?_
  refine TSrc.list ?_
  repeat walk_at "m1"
  have hP' : ∀ p ∈ sto, p.1 ≠ P := hP
  clear hP
  refine kSrcL.it (List.mem_cons_of_mem _ h1) (kFor.it (fun i st => Has st.loc [("pile", .ref P), ("area", iv (runA rm i).2)] ∧ Keeps sto st.sto ∧ (P, .acc (.int 0) ((List.replicate (runA rm i).1 plusP).map pv)) ∈ st.sto) (⟨by walk_at "has", fun p hp => List.mem_cons_of_mem _ hp, List.mem_cons_self⟩) ?_ ?_)
  · rintro i v ⟨l, t⟩ hv ⟨Hs, K, hmP⟩ _
    obtain ⟨m, hb, rfl⟩ := getE hv
    obtain ⟨hk7, ok0⟩ := okA i m hb
    have er := runA_succ hb
    unfold iv at *
    generalize runA rm i = r at *
    obtain ⟨k, ar⟩ := r
    dsimp only at *
    refine TA.less (st' := ⟨[("pile", .ref P), ("area", .int (ar : Int))], t⟩) Hs rfl ?_
    refine TA.tup2 (by walk_at "sto") (by walk_at "sto") ?_
    refine TXs.cons (TX.ite (TT.cmp ?_ rfl))
    repeat walk_at "m1"
    obtain ⟨x, b⟩ := m
    cases b with
    | true =>
      refine TO2.eqS ⟨true, by show V.bool (("+" : Str).cps.toList == ("+" : Str).cps.toList) = _; exact congrArg V.bool (by decide +kernel), ?_⟩
      walk_at "yes"
      have er' : runA rm (i + 1) = (k + 1, ar + k) := er
      refine TXs.cons (TX.aug (u := .int (ar : Int)) (by walk_at "sto") (by walk_at "mem") ?_)
      refine TE.callB (bid := "len") (by walk_at "in") (by walk_at "kg") ?_
      repeat walk_at "m1"
      refine TOL.one (TO1.lenP hmP (plus_short k) ⟨by rw [plus_len]; omega, by rw [plus_len]; omega⟩ (by omega) (TO2.iaddI ?_))
      rw [plus_len, show (ar : Int) + (k : Int) = ((ar + k : Nat) : Int) by omega]
      refine TXs.cons (TX.expr ?_ notInter)
      refine TE.methP (f := fPush) (m := 1) (by walk_at "in") (by decide) (by walk_at "in") (by decide) (n_le hn) ?_ rfl rfl
      walk_at "m1"
      refine ⟨P, _, _, rfl, hmP, ?_⟩
      repeat walk_at "m1"
      refine cPush hmP (by simp; omega) ⟨rfl, ?_⟩
      refine TXs.nil (TXs.nil ?_)
      show (_ ∧ _ ∧ _) ∧ _
      rw [er']
      exact ⟨⟨by walk_at "has", Keeps.put K hP', by rw [plus_snoc]; exact mem_put hmP⟩, mem_put_ne (K _ h1) (hP' _ h1)⟩
    | false =>
      refine TO2.eqS ⟨false, by show V.bool (("-" : Str).cps.toList == ("+" : Str).cps.toList) = _; exact congrArg V.bool (by decide +kernel), ?_⟩
      walk_at "no"
      have hk := ok0 rfl
      obtain ⟨j, rfl⟩ : ∃ j, k = j + 1 := ⟨k - 1, by omega⟩
      have er' : runA rm (i + 1) = (j, ar) := er
      refine TXs.cons (TX.ite (TT.cmp ?_ rfl))
      refine TE.meth0 (f := fPop) (m := 2) (by walk_at "in") (by decide) (by walk_at "in") (by decide) (n_le hn) ?_ rfl
      walk_at "m1"
      have hmP' : (P, .acc (.int 0) ((List.replicate j plusP).map pv ++ [.tup [.str "", .str "+"]])) ∈ t := by rw [← plus_snoc]; exact hmP
      refine ⟨P, _, _, rfl, hmP', cPopS hmP' (by simp; omega) ?_⟩
      repeat walk_at "m1"
      refine ⟨by simp, ?_⟩
      refine TO2.eqv (b := false) (by decide +kernel) (kB.it ?_)
      walk_at "no"
      refine TXs.nil (TXs.nil (TXs.nil ?_))
      show (_ ∧ _ ∧ _) ∧ _
      rw [er']
      exact ⟨⟨by walk_at "has", Keeps.put K hP', mem_put hmP⟩, mem_put_ne (K _ h1) (hP' _ h1)⟩
  · rintro ⟨l, t⟩ ⟨Hs, K, hmP⟩ _
    rw [List.length_map] at hmP Hs
    rw [h0] at hmP
    refine Tr.less (st' := ⟨_, t⟩) Hs rfl ?_
    repeat walk_at "m1"
    refine TE.ite (TT.cmp ?_ rfl)
    refine TE.meth0 (f := fPop) (m := 2) (by walk_at "in") (by decide) (by walk_at "in") (by decide) (n_le hn) ?_ rfl
    walk_at "m1"
    refine ⟨P, _, _, rfl, hmP, cPopE hmP ?_⟩
    repeat walk_at "m1"
    refine ⟨by simp, ?_⟩
    refine TO2.eqv (b := true) (by decide +kernel) (kB.it ?_)
    walk_at "yes"
    repeat walk_at "m1"
    exact q t K
end
end
section -- P63
section
variable {prog : Program} {w : World} {A : Around} {R : GenEnd} {Y : Protocol} {n : Nat} {s₀ : Shared} {c : Code} {fs : List Frame} {s : Shared} {env : Env} {K : Flow → Sem Fin} {H : Value → Sem Fin} {gd : Bool → Bool} {lv : List Value → List Value}
theorem seg_If {t : Expr} {a b : List Stmt} {pos : Pos} (h : wpAny (model prog w) (A.over c fs) (isTrue t env (eval t env)) (fun x s' => if x = true then Seg (model prog w) A R Y n s₀ c ((execs a env).wrap K H gd lv) fs s' else Seg (model prog w) A R Y n s₀ c ((execs b env).wrap K H gd lv) fs s') (fun x s' => Seg (model prog w) A R Y n s₀ c (H x) fs s') s) :
    Seg (model prog w) A R Y n s₀ c ((exec (.If t a b pos) env).wrap K H gd lv) fs s := by
  rw [exec_If]
  refine seg_bind_wrap (wpAny_standAt ?_)
  refine seg_bind_wrap (wpAny_mono h (fun x s' hx => ?_) fun _ _ e => e)
  cases x <;> exact hx
noncomputable abbrev ownFail (env : Env) (x : Value) : Sem Unit := do
  if (← field x 1) == Value.none then unsupported "frame.own-activation:exception-without-traceback"
  setFlight x env.frame
noncomputable abbrev backFrame (env : Env) (K : Flow → Sem Fin) (H : Value → Sem Fin) (gd : Bool → Bool) (lv : List Value → List Value) (c : Code) (p : Pos) : Frame :=
  .ret (fun r => ((match r with | .ok f => (.pure f : Sem Flow) | .error e => .raise e).onRaise (ownFail env)).wrap K H gd lv) none (gd false) (lv []) c p []
theorem seg_For {target iter : Expr} {body orelse : List Stmt} {pos : Pos} (h : wpAny (model prog w) (A.over c fs) (eval iter env) (fun x s1 => wpAny (model prog w) (A.over c fs) (pyIter x) (fun it s2 => ∀ p, Seg (model prog w) A R Y n s₀ (.forLoop target it body orelse env) ((model prog w).den (.forLoop target it body orelse env)) (backFrame env K H gd lv c p :: fs) s2)
      (fun x s' => Seg (model prog w) A R Y n s₀ c (H x) fs s') s1) (fun x s' => Seg (model prog w) A R Y n s₀ c (H x) fs s') s) (hs : ∀ x, foldedSetIterable iter env x = pure x := by intro _; rfl) :
    Seg (model prog w) A R Y n s₀ c ((exec (.For target iter body orelse pos) env).wrap K H gd lv) fs s := by
  rw [exec_For]
  refine seg_bind_wrap (wpAny_standAt ?_)
  refine seg_bind_wrap (wpAny_mono h (fun x s1 h1 => ?_) fun _ _ e => e)
  refine seg_bind_wrap (wpAny_of_eq (hs x) ?_)
  refine seg_bind_wrap (wpAny_standAt ?_)
  refine seg_bind_wrap (wpAny_holding (wpAny_mono h1 (fun it s2 h2 => ?_) fun _ _ e => e))
  exact seg_call h2
noncomputable abbrev noteFail (env : Env) (e : Value) : Sem Fin := ((do noteFrame e env; theTreesLotGoes e : Sem Unit).bind fun _ => .raise e)
/-- one turn of a for -/
theorem seg_forTurn {target : Expr} {it : Value} {body orelse : List Stmt} {c : Code} {E : Value → Shared → Prop}
    (h : wpAny (model prog w) (A.over c fs) (pyNext it) (fun r s1 => match r with
      | none => Seg (model prog w) A R Y n s₀ c (.pure (.again (.block orelse env))) fs s1
      | some v => wpAny (model prog w) (A.over c fs) (letOwnedTupleGo target it v) (fun _ s2 => wpAny (model prog w) (A.over c fs) (assign target env v) (fun _ s3 =>
          Seg (model prog w) A R Y n s₀ c ((execs body env).wrap (fun f => match f with
            | .next | .cont => .pure (.again (.forLoop target it body orelse env))
            | .brk => .pure (.done .next)
            | .ret v => .pure (.done (.ret v))) (noteFail env) id id) fs s3) noE s2) noE s1) noE s) :
    Seg (model prog w) A R Y n s₀ c ((forTurn target it body orelse env).onRaise (fun x => do noteFrame x env; theTreesLotGoes x)) fs s := by
  rw [Sem.onRaise_eq_wrap]
  unfold forTurn
  refine seg_bind_wrap (wpAny_standAt ?_)
  refine seg_bind_wrap (wpAny_onRaise (wpAny_mono h (fun r s1 h1 => ?_) fun _ _ e => e.elim))
  cases r with
  | none => exact h1
  | some v =>
    refine seg_bind_wrap (wpAny_mono h1 (fun _ s2 h2 => ?_) fun _ _ e => e.elim)
    refine seg_bind_wrap (wpAny_mono h2 (fun _ s3 h3 => ?_) fun _ _ e => e.elim)
    rw [Sem.bind_eq_wrap', Sem.wrap_wrap]
    exact Eq.mpr (congrArg (fun t => Seg (model prog w) A R Y n s₀ c t fs s3) (Sem.wrap_congr (execs body env) id id (K' := fun f => match f with
            | .next | .cont => .pure (.again (.forLoop target it body orelse env))
            | .brk => .pure (.done .next)
            | .ret v => .pure (.done (.ret v))) (H' := noteFail env) (fun f => by cases f <;> rfl) (fun e => rfl))) h3
/-- behind the loop, or out of it -/
theorem seg_back {K' : Flow → Sem Fin} {H' : Value → Sem Fin} {gd' : Bool → Bool} {lv' : List Value → List Value} {c₁ : Code} {p : Pos} {f : Flow} (h : Seg (model prog w) A R Y n s₀ c₁ (K' f) fs s) : Seg (model prog w) A R Y n s₀ c (.pure (.done f)) (backFrame env K' H' gd' lv' c₁ p :: fs) s :=
  seg_leaf (.ok f) h
theorem seg_block_nil (h : Seg (model prog w) A R Y n s₀ (.block [] env) (.pure (.done .next)) fs s) : Seg (model prog w) A R Y n s₀ c (.pure (.again (.block [] env))) fs s :=
  seg_again rfl h
end
end
section -- P64
section
variable {g : G}
noncomputable def giBody : List Stmt := subAt fGI.body 1
noncomputable def giTarget : Expr := match (fGI.body[1]? : Option Stmt) with | some (Stmt.For t _ _ _ _) => t | _ => default
noncomputable def After (L it : Addr) (s s' : Shared) : Prop := (∀ b o, b ≠ L → b ≠ it → s.heap.get? b = some o → s'.heap.get? b = some o) ∧ s'.gens = s.gens ∧ s'.os = s.os
theorem After.refl (L it : Addr) (s : Shared) : After L it s s := ⟨fun _ _ _ _ e => e, rfl, rfl⟩
theorem After.trans {L it : Addr} {a b c : Shared} (x : After L it a b) (y : After L it b c) : After L it a c := ⟨fun d o h1 h2 e => y.1 d o h1 h2 (x.1 d o h1 h2 e), y.2.1.trans x.2.1, y.2.2.trans x.2.2⟩
theorem After.on {L it : Addr} {a b : Shared} (x : After L it a b) {h' : Heap} {tk : Nat} (k : ∀ d o, d ≠ L → d ≠ it → b.heap.get? d = some o → h'.get? d = some o) : After L it a { b with heap := h', toks := tk } := x.trans ⟨k, rfl, rfl⟩
/-- what the generator reads -/
structure GS (g : G) (L it ga : Addr) (zs : List Int) (i : Nat) (last : Option Int) (s : Shared) : Prop where
  ns : ∃ m, s.heap.Ns L m ∧ m "_initial_size" = none ∧ ∃ x, m "last_interval" = some x ∧ (match last with | none => x = .none | some z => ∃ t, x = .int z t)
  it : s.heap.IsListIter it ga i
  ls : ∃ items, s.heap.IsList ga items ∧ IntsAre items.toList zs
  gl : s.heap.Ns mainGlobals g.mg
structure Kept (g : G) (L it ga : Addr) (zs : List Int) (s s' : Shared) : Prop where
  ns : ∀ m, s.heap.Ns L m → s'.heap.Ns L m
  it : ∀ o, s.heap.get? it = some o → s'.heap.get? it = some o
  ls : ∃ items, s'.heap.IsList ga items ∧ IntsAre items.toList zs
  gl : s'.heap.Ns mainGlobals g.mg
theorem Kept.trans {L it ga : Addr} {zs : List Int} {a b c : Shared} (x : Kept g L it ga zs a b) (y : Kept g L it ga zs b c) : Kept g L it ga zs a c := ⟨fun m n => y.ns m (x.ns m n), fun o e => y.it o (x.it o e), y.ls, y.gl⟩
theorem GS.kept {L it ga : Addr} {zs : List Int} {i : Nat} {last : Option Int} {s s' : Shared} (x : GS g L it ga zs i last s) (k : Kept g L it ga zs s s') : GS g L it ga zs i last s' := by
  obtain ⟨m, n, r⟩ := x.ns
  obtain ⟨o, e, q⟩ := x.it
  exact ⟨⟨m, k.ns m n, r⟩, ⟨o, k.it o e, q⟩, k.ls, k.gl⟩
/-- what the generator hands out from here on; true: then it ends -/
inductive Fut : List Int → Option Int → List Int → Bool → Prop
  | nil {last : Option Int} : Fut [] last [] true
  | stop {r : List Int} {last : Option Int} : Fut (127 :: r) last [] true
  | forever {r : List Int} {z : Int} (n : Nat) : Fut (0 :: r) (some z) (List.replicate n z) false
  | item {z : Int} {r : List Int} {last : Option Int} {fut : List Int} {fin : Bool} : z ≠ 127 → z ≠ 0 → Fut r (some z) fut fin → Fut (z :: r) last (z :: fut) fin
noncomputable def Hid (it : Addr) (s : Shared) : Prop := ∀ o, s.heap.get? it = some o → o.cls = .type "list_iterator" ∧ ∃ fs, o.data = .fields fs
theorem Hid.of {it ga : Addr} {i : Nat} {s : Shared} (h : s.heap.IsListIter it ga i) : Hid it s := fun o e => by
  obtain ⟨o', e', hc, hd⟩ := h
  rw [e] at e'; cases e'
  exact ⟨hc, _, hd⟩
noncomputable def giY (g : G) (L it ga : Addr) (zs outs : List Int) (fin : Bool) : Protocol := fun m s₀ v s' kap => (∃ t, v = .int (outs.getD (outs.length - 1 - m) 0) t) ∧ Hid it s₀ ∧ After L it s₀ s' ∧ (∃ i, s'.heap.IsListIter it ga i) ∧ (∃ m, s'.heap.Ns L m ∧ m "_initial_size" = none) ∧ ((0 < m ∨ fin = true) → ∀ s'', Kept g L it ga zs s' s'' → kap (.send .none) s'')
noncomputable def giR (L it : Addr) : GenEnd := fun n s₀ r s₁ => n = 0 ∧ r = .ok (.ret .none) ∧ Hid it s₀ ∧ After L it s₀ s₁
/-- the rest of the row -/
noncomputable def Suf (outs fut : List Int) : Prop := ∃ pre, outs = pre ++ fut
theorem Suf.head {outs fut : List Int} {z : Int} (h : Suf outs (z :: fut)) : outs.getD (outs.length - 1 - fut.length) 0 = z := by
  obtain ⟨pre, rfl⟩ := h
  have : (pre ++ z :: fut).length - 1 - fut.length = pre.length := by rw [List.length_append, List.length_cons]; omega
  rw [this]; simp
theorem Suf.tail {outs fut : List Int} {z : Int} (h : Suf outs (z :: fut)) : Suf outs fut := by
  obtain ⟨pre, rfl⟩ := h
  exact ⟨pre ++ [z], by simp⟩
structure GEnv (env : Env) (L : Addr) : Prop where
  scope : env.scope = fGI.sc
  locals : env.locals = L
  globals : env.globals = mainGlobals
  frame : env.frame = some L
end
end
section -- P65
section
variable {g : G} {A : Around} {env : Env} {L it ga : Addr} {zs outs : List Int}
noncomputable def giIf : List Stmt := subAt giBody 1
noncomputable def giWT : Expr := match (giIf[1]? : Option Stmt) with | some (Stmt.While t _ _ _) => t | _ => default
noncomputable def giWB : List Stmt := subAt giIf 1
theorem GEnv.kind (E : GEnv env L) : env.scope.kind = .function := by rw [E.scope]; rfl
theorem GEnv.of (E : GEnv env L) (x : Str) : env.kindOf x = fGI.sc.names.lookup x := by unfold Env.kindOf; rw [E.scope]
theorem GEnv.inter (E : GEnv env L) : interactive env = false := by unfold interactive; rw [E.kind]; rfl
theorem GEnv.coro (E : GEnv env L) : env.scope.isCoroutine = false := by rw [E.scope]; rfl
theorem ev_loc {A : Around} {Er : Value → Shared → Prop} {s : Shared} (E : GEnv env L) {x : Str} {pos : Pos} {m : Str → Option Value} {v : Value} {P : Value → Shared → Prop} (hk : fGI.sc.names.lookup x = some .local) (hn : s.heap.Ns L m) (hv : m x = some v) (q : P v s) (hd : (x == ("__debug__" : Str)) = false := by decide) : wpAny g.M A (eval (.Name x pos) env) P Er s :=
  wpAny_Name (wpAny_loadName_local E.kind ((E.of x).trans hk) (by rw [E.locals]; exact hn) hv q) hd
theorem seg_gi_while (E : GEnv env L) {z : Int} {i : Nat} {fs : List Frame} (hfs : splitAtGen fs = none) (hfg : fs.any Frame.guarded = false) : ∀ (k : Nat) (s₀ s : Shared), Suf outs (List.replicate (k + 1) z) → GS g L it ga zs i (some z) s → Hid it s₀ → After L it s₀ s →
    Seg g.M A (giR L it) (giY g L it ga zs outs false) (k + 1) s₀ (.whileLoop giWT giWB [] env) (g.M.den (.whileLoop giWT giWB [] env)) fs s := by
  intro k
  induction k with
  | zero =>
    intro s₀ s hs gs hd af
    refine seg_whileLoop (isTrue_plain (Constant_bool (wpAny_truthy_bool ?_)) rfl)
    first | refine iteT rfl ?_ | rw [if_pos rfl]
    refine seg_execs_cons ?_
    obtain ⟨m, hn, hm0, x, hx, t, rfl⟩ := gs.ns
    refine seg_Expr_Yield hfs rfl hfg (ev_loc E rfl hn hx fun kap hk => ?_) E.coro E.inter
    refine ⟨⟨t, ?_⟩, hd, af, ⟨i, gs.it⟩, ⟨m, hn, hm0⟩, fun h => ?_⟩
    · have := Suf.head (z := z) (fut := []) hs
      rw [List.length_nil] at this
      rw [this]
    · rcases h with h | h
      · exact absurd h (by decide)
      · cases h
  | succ k ih =>
    intro s₀ s hs gs hd af
    refine seg_whileLoop (isTrue_plain (Constant_bool (wpAny_truthy_bool ?_)) rfl)
    first | refine iteT rfl ?_ | rw [if_pos rfl]
    refine seg_execs_cons ?_
    obtain ⟨m, hn, hm0, x, hx, t, rfl⟩ := gs.ns
    have hlen : (List.replicate (k + 1) z).length = k + 1 := List.length_replicate
    refine seg_Expr_Yield hfs rfl hfg (ev_loc E rfl hn hx fun kap hk => ?_) E.coro E.inter
    refine ⟨⟨t, ?_⟩, hd, af, ⟨i, gs.it⟩, ⟨m, hn, hm0⟩, fun _ s'' kp => hk .none s'' ?_⟩
    · have := Suf.head (z := z) (fut := List.replicate (k + 1) z) hs
      rw [hlen] at this
      rw [this]
    · refine seg_execs_nil ?_
      refine seg_again rfl ?_
      exact ih s'' s'' (Suf.tail (z := z) hs) (gs.kept kp) (Hid.of (gs.kept kp).it) (After.refl _ _ _)
theorem ints_get {items : List Value} {zs : List Int} (r : IntsAre items zs) {i : Nat} {z : Int} (e : zs[i]? = some z) : ∃ t, items[i]? = some (.int z t) := by
  induction r generalizing i with
  | nil => cases e
  | cons n t _ ih =>
    cases i with
    | zero => cases e; exact ⟨t, rfl⟩
    | succ i => exact ih e
theorem ints_len {items : List Value} {zs : List Int} (r : IntsAre items zs) : items.length = zs.length := by
  induction r with
  | nil => rfl
  | cons n t _ ih => exact congrArg Nat.succ ih
theorem ints_none {items : List Value} {zs : List Int} (h : IntsAre items zs) {i : Nat} (e : zs.length ≤ i) : items[i]? = none :=
  List.getElem?_eq_none (by rw [ints_len h]; exact e)
/-- the tests: is it the end, is it a nought -/
theorem gi_is {A : Around} {s : Shared} (E : GEnv env L) {m : Str → Option Value} {z : Int} {t : Tok} {p1 p2 p3 : Pos} {P : Bool → Shared → Prop} {Er : Value → Shared → Prop} (hn : s.heap.Ns L m) (hv : m "interval" = some (.int z t)) (hg : s.heap.Ns mainGlobals g.mg) (q : P (z == 127) s) :
    wpAny g.M A (isTrue (.Compare (.Name "interval" p1) [.Eq] [.Name "CHAR_MAX" p2] p3) env (eval (.Compare (.Name "interval" p1) [.Eq] [.Name "CHAR_MAX" p2] p3) env)) P Er s := by
  obtain ⟨tc, hc⟩ := g.top.gi
  refine wpAny_isTrue_Compare1 (ev_loc E rfl hn hv ?_) (by with_unfolding_all rfl)
  refine Calls.Name_function_global E.kind ((E.of _).trans rfl) (Calls.loadGlobal_global (mg := g.mg) (by rw [E.globals]; exact hg) hc ?_) (by decide)
  exact PySem.P.eq_int (wpAny_truthy_bool q)
theorem gi_zero {A : Around} {s : Shared} (E : GEnv env L) {m : Str → Option Value} {z : Int} {t : Tok} {p1 p2 p3 : Pos} {k : Nat} {P : Bool → Shared → Prop} {Er : Value → Shared → Prop} (hn : s.heap.Ns L m) (hv : m "interval" = some (.int z t)) (q : P (z == 0) { s with toks := s.toks + 1 }) :
    wpAny g.M A (isTrue (.Compare (.Name "interval" p1) [.Eq] [.Constant (.int 0) k p2] p3) env (eval (.Compare (.Name "interval" p1) [.Eq] [.Constant (.int 0) k p2] p3) env)) P Er s := by
  refine wpAny_isTrue_Compare1 (ev_loc E rfl hn hv ?_) (by with_unfolding_all rfl)
  refine wpAny_Constant_int ?_
  exact PySem.P.eq_int (wpAny_truthy_bool q)
theorem gi_last {A : Around} {s : Shared} (E : GEnv env L) {m : Str → Option Value} {x : Value} {p1 p2 p3 : Pos} {k : Nat} {P : Bool → Shared → Prop} {Er : Value → Shared → Prop} (hn : s.heap.Ns L m) (hv : m "last_interval" = some x) (q : P (x == .none) s) :
    wpAny g.M A (isTrue (.Compare (.Name "last_interval" p1) [.Is] [.Constant .none k p2] p3) env (eval (.Compare (.Name "last_interval" p1) [.Is] [.Constant .none k p2] p3) env)) P Er s := by
  refine wpAny_isTrue_Compare1 (ev_loc E rfl hn hv ?_) (by with_unfolding_all rfl)
  refine Constant_none ?_
  exact is_none_gen (wpAny_truthy_bool q)
end
end
section -- P66
section
variable {g : G} {A : Around} {env : Env} {L it ga : Addr} {zs outs : List Int}
structure Apart (L it ga : Addr) : Prop where
  li : L ≠ it
  lg : L ≠ ga
  ig : it ≠ ga
  lm : L ≠ mainGlobals
  im : it ≠ mainGlobals
theorem IsList.but {h h' : Heap} {a b : Addr} {items : Array Value} (x : h.IsList a items) (hs : ∀ o, h.get? a = some o → h'.get? a = some o) : h'.IsList a items := let ⟨o, e, r⟩ := x; ⟨o, hs _ e, r⟩
/-- a turn's start -/
theorem gi_turn {A : Around} {s : Shared} (E : GEnv env L) (ap : Apart L it ga) {i : Nat} {last : Option Int} {z : Int} (gs : GS g L it ga zs i last s) (hz : zs[i]? = some z) {P : Shared → Prop}
    (q : ∀ s3 m t, s3.heap.Ns L m → m "_initial_size" = none → m "interval" = some (.int z t) → GS g L it ga zs (i + 1) last s3 → After L it s s3 → (∃ x, m "last_interval" = some x ∧ (match last with | none => x = .none | some z => ∃ t, x = .int z t)) → P s3) :
    wpAny g.M A (pyNext (.ref it)) (fun r s1 => match r with
      | none => False
      | some v => wpAny g.M A (letOwnedTupleGo giTarget (.ref it) v) (fun _ s2 => wpAny g.M A (assign giTarget env v) (fun _ s3 => P s3) noE s2) noE s1) noE s := by
  obtain ⟨items, hl, hi⟩ := gs.ls
  obtain ⟨t, ht⟩ := ints_get hi hz
  obtain ⟨m, hn, hm0, x, hx, hlast⟩ := gs.ns
  refine wpAny_pyNext_list_item gs.it hl (x := .int z t) (by simpa using ht) fun h' hit hs => ?_
  show wpAny _ _ (pure ()) _ _ _
  refine wpAny_pure ?_
  have k1 : ∀ b o, b ≠ it → s.heap.get? b = some o → h'.get? b = some o := fun b o hb e => (hs.2 b hb).trans e
  have hn1 : h'.Ns env.locals m := by rw [E.locals]; exact hn.sameBut hs ap.li
  refine wpAny_assign_Name (wpAny_storeName_local ((E.of _).trans rfl) hn1 (fun h2 hn2 hs2 => ?_) (by rw [E.kind]; rfl))
  rw [E.locals] at hn2 hs2
  have k2 : ∀ b o, b ≠ L → h'.get? b = some o → h2.get? b = some o := fun b o hb e => (hs2.2 b hb).trans e
  have hx2 : (fun y => if y = ("interval" : Str) then some (Value.int z t) else m y) "last_interval" = some x := by
    show (if ("last_interval" : Str) = "interval" then some (Value.int z t) else m "last_interval") = some x
    rw [if_neg (by decide)]; exact hx
  have hx0 : (fun y => if y = ("interval" : Str) then some (Value.int z t) else m y) "_initial_size" = none := by
    show (if ("_initial_size" : Str) = "interval" then some (Value.int z t) else m "_initial_size") = none
    rw [if_neg (by decide)]; exact hm0
  refine q _ _ t hn2 hx0 (by simp) ⟨⟨_, hn2, hx0, x, hx2, hlast⟩, ?_, ⟨items, ?_, hi⟩, ?_⟩ ⟨fun b o h1 h2 e => k2 _ _ h1 (k1 _ _ h2 e), rfl, rfl⟩ ⟨x, hx2, hlast⟩
  · obtain ⟨o, e, r⟩ := hit
    exact ⟨o, k2 _ _ (Ne.symm ap.li) e, r⟩
  · obtain ⟨o, e, r⟩ := hl
    exact ⟨o, k2 _ _ (Ne.symm ap.lg) (k1 _ _ (Ne.symm ap.ig) e), r⟩
  · obtain ⟨o, es, ep, e, r⟩ := gs.gl
    exact ⟨o, es, ep, k2 _ _ (Ne.symm ap.lm) (k1 _ _ (Ne.symm ap.im) e), r⟩
theorem seg_gi_turn {R : GenEnd} {Y : Protocol} {n : Nat} {s₀ : Shared} {fs : List Frame} {s : Shared} (E : GEnv env L) (ap : Apart L it ga) {i : Nat} {last : Option Int} {z : Int} (gs : GS g L it ga zs i last s) (hz : zs[i]? = some z)
    (q : ∀ s3 m t, s3.heap.Ns L m → m "_initial_size" = none → m "interval" = some (.int z t) → GS g L it ga zs (i + 1) last s3 → After L it s s3 → (∃ x, m "last_interval" = some x ∧ (match last with | none => x = .none | some z => ∃ t, x = .int z t)) →
      Seg g.M A R Y n s₀ (.forLoop giTarget (.ref it) giBody [] env) ((execs giBody env).wrap (fun f => match f with
            | .next | .cont => .pure (.again (.forLoop giTarget (.ref it) giBody [] env))
            | .brk => .pure (.done .next)
            | .ret v => .pure (.done (.ret v))) (noteFail env) id id) fs s3) :
    Seg g.M A R Y n s₀ (.forLoop giTarget (.ref it) giBody [] env) (g.M.den (.forLoop giTarget (.ref it) giBody [] env)) fs s := by
  show Seg _ A _ _ _ s₀ _ ((forTurn giTarget (.ref it) giBody [] env).onRaise (fun x => do noteFrame x env; theTreesLotGoes x)) _ s
  refine seg_forTurn (E := noE) (wpAny_mono (gi_turn E ap gs hz q) (fun r s1 h1 => ?_) fun _ _ e => e)
  cases r with
  | none => exact h1.elim
  | some v => exact h1
theorem drop_cons {i : Nat} {z : Int} {r : List Int} (h : zs.drop i = z :: r) : zs[i]? = some z ∧ zs.drop (i + 1) = r := by
  constructor
  · have := congrArg (·[0]?) h
    simpa using this
  · rw [← List.drop_drop, h]; rfl
theorem GS.toks {L it ga : Addr} {i : Nat} {last : Option Int} {s : Shared} (x : GS g L it ga zs i last s) (k : Nat) : GS g L it ga zs i last { s with toks := k } := ⟨x.ns, x.it, x.ls, x.gl⟩
theorem seg_gi_for (E : GEnv env L) (hh : A.handled = none) (ap : Apart L it ga) {K2 : Flow → Sem Fin} {H2 : Value → Sem Fin} {c₁ : Code} {p : Pos} (hK1 : K2 .next = .pure (.done (.ret .none))) (hK2 : K2 (.ret .none) = .pure (.done (.ret .none))) {rem : List Int} {last : Option Int} {fut : List Int} {fin : Bool} (fu : Fut rem last fut fin) :
    ∀ (i : Nat) (s₀ s : Shared), zs.drop i = rem → Suf outs fut → (fut ≠ [] ∨ fin = true) → GS g L it ga zs i last s → Hid it s₀ → After L it s₀ s →
    Seg g.M A (giR L it) (giY g L it ga zs outs fin) fut.length s₀ (.forLoop giTarget (.ref it) giBody [] env) (g.M.den (.forLoop giTarget (.ref it) giBody [] env)) [backFrame env K2 H2 id id c₁ p] s := by
  induction fu with
  | nil =>
    intro i s₀ s hi hs hf gs hd af
    show Seg _ A _ _ _ s₀ _ ((forTurn giTarget (.ref it) giBody [] env).onRaise (fun x => do noteFrame x env; theTreesLotGoes x)) _ s
    refine seg_forTurn (E := noE) ?_
    obtain ⟨items, hl, hv⟩ := gs.ls
    refine wpAny_pyNext_list_end hh gs.it hl (by simpa using ints_none hv (List.drop_eq_nil_iff.mp hi)) fun h' he => ?_
    refine seg_block_nil (seg_back ?_)
    rw [hK1]
    exact seg_end (.ok (.ret .none)) ⟨rfl, rfl, hd, af.on fun d o _ h2 e => he d o h2 e⟩
  | stop =>
    intro i s₀ s hi hs hf gs hd af
    obtain ⟨hz, hr⟩ := drop_cons hi
    refine seg_gi_turn E ap gs hz fun s3 m t hn hm0 hv gs3 af3 hl => ?_
    · refine seg_execs_cons (seg_If (gi_is E hn hv gs3.gl ?_))
      first | refine iteT (by decide) ?_ | rw [if_pos (by decide)]
      refine seg_execs_cons ?_
      refine seg_wrap (wpAny_Return_none ?_)
      refine seg_back ?_
      rw [hK2]
      exact seg_end (.ok (.ret .none)) ⟨rfl, rfl, hd, af.trans af3⟩
  | forever n =>
    rename_i r z
    intro i s₀ s hi hs hf gs hd af
    obtain ⟨k, rfl⟩ : ∃ k, n = k + 1 := by
      rcases hf with hf | hf
      · cases n with
        | zero => exact absurd rfl hf
        | succ k => exact ⟨k, rfl⟩
      · cases hf
    obtain ⟨hz, hr⟩ := drop_cons hi
    refine seg_gi_turn E ap gs hz fun s3 m t hn hm0 hv gs3 af3 hl => ?_
    · obtain ⟨x, hx, t2, rfl⟩ := hl
      refine seg_execs_cons (seg_If (gi_is E hn hv gs3.gl ?_))
      first | refine iteF (by decide) ?_ | rw [if_neg (by decide)]
      refine seg_execs_nil ?_
      refine seg_execs_cons (seg_If (gi_zero E hn hv ?_))
      first | refine iteT (by decide) ?_ | rw [if_pos (by decide)]
      refine seg_execs_cons (seg_If (gi_last E hn hx ?_))
      first | refine iteF (show ¬ ((Value.int z t2 == Value.none) = true) from Bool.false_ne_true) ?_ | rw [if_neg (show ¬ ((Value.int z t2 == Value.none) = true) from Bool.false_ne_true)]
      refine seg_execs_nil ?_
      refine seg_execs_cons (seg_While fun q => ?_)
      rw [List.length_replicate]
      exact seg_gi_while E rfl rfl k s₀ _ hs (gs3.toks _) hd ((af.trans af3).on fun d o _ _ e => e)
  | item h1 h2 hfu ih =>
    rename_i z r last fut fin
    intro i s₀ s hi hs hf gs hd af
    obtain ⟨hz, hr⟩ := drop_cons hi
    refine seg_gi_turn E ap gs hz fun s3 m t hn hm0 hv gs3 af3 hl => ?_
    · refine seg_execs_cons (seg_If (gi_is E hn hv gs3.gl ?_))
      first | refine iteF (by simpa using h1) ?_ | rw [if_neg (by simpa using h1)]
      refine seg_execs_nil ?_
      refine seg_execs_cons (seg_If (gi_zero E hn hv ?_))
      first | refine iteF (by simpa using h2) ?_ | rw [if_neg (by simpa using h2)]
      refine seg_execs_nil ?_
      rw [List.length_cons]
      refine seg_execs_cons ?_
      refine seg_Expr_Yield rfl rfl rfl (ev_loc E rfl hn hv fun kap hk => ?_) E.coro E.inter
      refine ⟨⟨t, by rw [Suf.head hs]⟩, hd, (af.trans af3).on fun d o _ _ e => e, ⟨_, gs3.it⟩, ⟨m, hn, hm0⟩, fun hm s'' kp => hk .none s'' ?_⟩
      have hn' := kp.ns m hn
      have gs4 := (gs3.toks (s3.toks + 1)).kept kp
      refine seg_execs_cons ?_
      refine seg_wrap (wpAny_Assign_Name (ev_loc E rfl hn' hv (wpAny_storeName_local ((E.of _).trans rfl) (by rw [E.locals]; exact hn') (fun h2 hn2 hs2 => ?_) (by rw [E.kind]; rfl))) rfl)
      rw [E.locals] at hn2 hs2
      have k2 : ∀ b o, b ≠ L → s''.heap.get? b = some o → h2.get? b = some o := fun b o hb e => (hs2.2 b hb).trans e
      have hx0 : (fun y => if y = ("last_interval" : Str) then some (Value.int z t) else m y) "_initial_size" = none := by
        show (if ("_initial_size" : Str) = "last_interval" then some (Value.int z t) else m "_initial_size") = none
        rw [if_neg (by decide)]; exact hm0
      refine seg_execs_nil ?_
      refine seg_again rfl (ih (i + 1) s'' _ hr (Suf.tail hs) (hm.imp (fun h he => by subst he; simp at h) id) ⟨⟨_, hn2, hx0, _, by simp, t, rfl⟩, ?_, ?_, ?_⟩ (Hid.of gs4.it) ((After.refl L it s'').on fun d o h1 _ e => k2 d o h1 e))
      · obtain ⟨o, e, r⟩ := gs4.it
        exact ⟨o, k2 _ _ (Ne.symm ap.li) e, r⟩
      · obtain ⟨items, ⟨o, e, r⟩, hi⟩ := gs4.ls
        exact ⟨items, ⟨o, k2 _ _ (Ne.symm ap.lg) e, r⟩, hi⟩
      · obtain ⟨o, es, ep, e, r⟩ := gs4.gl
        exact ⟨o, es, ep, k2 _ _ (Ne.symm ap.lm) e, r⟩
end
end
section -- P67
theorem seg_mono {M : Model} {A : Around} {R R' : GenEnd} {Y Y' : Protocol} (hR : ∀ n s₀ r s₁, R n s₀ r s₁ → R' n s₀ r s₁) (hY : ∀ m s₀ v s' (kap kap' : Resume → Shared → Prop), (∀ r s'', kap r s'' → kap' r s'') → Y m s₀ v s' kap → Y' m s₀ v s' kap') :
    ∀ (n : Nat) {s₀ : Shared} {c : Code} {t : Sem Fin} {fs : List Frame} {s : Shared}, Seg M A R Y n s₀ c t fs s → Seg M A R' Y' n s₀ c t fs s := by
  intro n
  induction n with
  | zero =>
    intro s₀ c t fs s h
    rw [seg_iff] at h ⊢
    intro Γ p hc hΓ
    obtain ⟨e, s', hr, he⟩ := h Γ p hc hΓ
    refine ⟨e, s', hr, ?_⟩
    cases e with
    | ret r => exact hR _ _ _ _ he
    | susp v g l k c p fs => exact ⟨he.1, hY _ _ _ _ _ _ (fun r s'' hk => hk) he.2⟩
  | succ n ih =>
    intro s₀ c t fs s h
    rw [seg_iff] at h ⊢
    intro Γ p hc hΓ
    obtain ⟨e, s', hr, he⟩ := h Γ p hc hΓ
    refine ⟨e, s', hr, ?_⟩
    cases e with
    | ret r => exact hR _ _ _ _ he
    | susp v g l k c p fs => exact ⟨he.1, hY _ _ _ _ _ _ (fun r s'' hk => ih hk) he.2⟩
section
variable {g : G} {A : Around} {env : Env} {L ga : Addr} {zs outs : List Int}
noncomputable def gY (g : G) (L ga : Addr) (zs outs : List Int) (fin : Bool) : Protocol := fun m s₀ v s' kap => (∃ t, v = .int (outs.getD (outs.length - 1 - m) 0) t) ∧ ∃ it, L < it ∧ Hid it s₀ ∧ After L it s₀ s' ∧ (∃ i, s'.heap.IsListIter it ga i) ∧ (∃ m, s'.heap.Ns L m ∧ m "_initial_size" = none) ∧ ((0 < m ∨ fin = true) → ∀ s'', Kept g L it ga zs s' s'' → kap (.send .none) s'')
noncomputable def gR (L : Addr) : GenEnd := fun n s₀ r s₁ => n = 0 ∧ r = .ok (.ret .none) ∧ ∃ it, L < it ∧ Hid it s₀ ∧ After L it s₀ s₁
/-- the generator, fresh -/
structure GF (g : G) (L ga : Addr) (zs : List Int) (s : Shared) : Prop where
  ns : ∃ m, s.heap.Ns L m ∧ m "_initial_size" = none ∧ m "grouping" = some (.ref ga)
  ls : ∃ items, s.heap.IsList ga items ∧ IntsAre items.toList zs
  gl : s.heap.Ns mainGlobals g.mg
theorem seg_gi_fresh (E : GEnv env L) (hh : A.handled = none) {fin : Bool} (fu : Fut zs none outs fin) (hf : outs ≠ [] ∨ fin = true) {s : Shared} (gf : GF g L ga zs s) (hlg : L ≠ ga) (hlm : L ≠ mainGlobals) :
    Seg g.M A (gR L) (gY g L ga zs outs fin) outs.length s (.func fGI.body env) (g.M.den (.func fGI.body env)) [] s := by
  obtain ⟨m, hn, hm0, hgr⟩ := gf.ns
  refine seg_func ?_
  refine seg_execs_cons ?_
  refine seg_wrap (wpAny_Assign_Name (Constant_none (wpAny_storeName_local ((E.of _).trans rfl) (by rw [E.locals]; exact hn) (fun h1 hn1 hs1 => ?_) (by rw [E.kind]; rfl))) rfl)
  rw [E.locals] at hn1 hs1
  have k1 : ∀ b o, b ≠ L → s.heap.get? b = some o → h1.get? b = some o := fun b o hb e => (hs1.2 b hb).trans e
  refine seg_execs_cons ?_
  obtain ⟨items, hl, hi⟩ := gf.ls
  have hl1 : h1.IsList ga items := let ⟨o, e, r⟩ := hl; ⟨o, k1 _ _ (Ne.symm hlg) e, r⟩
  have hgr1 : (fun y => if y = ("last_interval" : Str) then some Value.none else m y) "grouping" = some (.ref ga) := by
    show (if ("grouping" : Str) = "last_interval" then some Value.none else m "grouping") = _
    rw [if_neg (by decide)]; exact hgr
  have hx0 : (fun y => if y = ("last_interval" : Str) then some Value.none else m y) "_initial_size" = none := by
    show (if ("_initial_size" : Str) = "last_interval" then some Value.none else m "_initial_size") = none
    rw [if_neg (by decide)]; exact hm0
  refine seg_For (ev_loc E rfl hn1 hgr1 (wpAny_pyIter_list hl1 fun p => ?_))
  have hsz : h1.objs.size = s.heap.objs.size := hs1.1
  have hgl : ga < h1.objs.size := let ⟨o, e, _⟩ := hl1; Heap.lt_size e
  have hml : mainGlobals < h1.objs.size := let ⟨o, es, ep, e, _⟩ := gf.gl; Heap.lt_size (k1 _ _ (Ne.symm hlm) e)
  have hL : L < h1.objs.size := hn1.lt
  have kp : ∀ b o, h1.get? b = some o → (h1.push { cls := .type "list_iterator", data := .fields #[.ref ga, .int 0 0] }).get? b = some o := fun b o e => Heap.get?_push_of_some _ e
  refine seg_mono (R := giR L h1.objs.size) (Y := giY g L h1.objs.size ga zs outs fin) (fun n s₀ r s₁ ⟨a, b, c⟩ => ⟨a, b, h1.objs.size, hL, c⟩) (fun m s₀ v s' kap kap' hk ⟨a, b, c, d, d2, e⟩ => ⟨a, h1.objs.size, hL, b, c, d, d2, fun h s'' kk => hk _ _ (e h s'' kk)⟩) _ ?_
  refine seg_gi_for E hh ⟨Nat.ne_of_lt hL, hlg, Nat.ne_of_gt hgl, hlm, Nat.ne_of_gt hml⟩ rfl rfl fu 0 s _ rfl ⟨[], rfl⟩ hf ⟨⟨_, hn1.keeps kp, hx0, .none, by simp, rfl⟩, ⟨_, Heap.get?_push_size _ rfl, rfl, rfl⟩, ⟨items, let ⟨o, e, r⟩ := hl1; ⟨o, kp _ _ e, r⟩, hi⟩, ?_⟩ ?_ ?_
  · obtain ⟨o, es, ep, e, r⟩ := gf.gl
    exact ⟨o, es, ep, kp _ _ (k1 _ _ (Ne.symm hlm) e), r⟩
  · intro o e
    have := Heap.lt_size e
    rw [hsz] at this
    exact absurd this (Nat.lt_irrefl _)
  · exact ⟨fun b o h1 _ e => kp _ _ (k1 _ _ h1 e), rfl, rfl⟩
end
end
section -- P68
theorem OldK.on {h₀ h h' : Heap} (K : OldK h₀ h) (hk : ∀ b o o', h₀.get? b = some o → h.get? b = some o' → h'.get? b = some o') : OldK h₀ h' :=
  ⟨fun b o e => by
    rcases K.old b o e with x | ⟨t, hc, vs, more, hv, x⟩ | ⟨rfl, hc, ⟨o', es, n, ho', r⟩, z⟩
    · exact .inl (hk _ _ _ e x)
    · exact .inr (.inl ⟨t, hc, vs, more, hv, hk _ _ _ e x⟩)
    · exact .inr (.inr ⟨rfl, hc, ⟨o', es, n, hk _ _ _ e ho', r⟩, fun key => by rw [OldK.staticOf_congr ((hk _ _ _ e ho').trans ho'.symm) key]; exact z key⟩),
   fun b o e => let ⟨o', ho'⟩ := K.there b o e; ⟨o', hk _ _ _ e ho'⟩⟩
section
variable {g : G} {C : Fm g} {st : St} {s s' : Shared}
/-- two hidden things changed, new ones beside, and a generator's state -/
theorem GoodF.after (gs : GoodF g C st s) {L it : Addr} {m : Str → Option Value} (hn : s.heap.Ns L m) (hm0 : m "_initial_size" = none) (hN : g.H.objs.size ≤ L) (hLC : L ≠ C.env.locals) (hid : Hid it s) (hNi : g.H.objs.size ≤ it)
    (k : ∀ b o, b ≠ L → b ≠ it → s.heap.get? b = some o → s'.heap.get? b = some o) (hb : AllBare s'.gens) (ho : s'.os = s.os) : GoodF g C st s' ∧ TupK s.heap s'.heap := by
  have hL : ∀ o, s.heap.get? L = some o → ∃ es ep, o.data = .dict es ep := fun o e => by
    obtain ⟨o', es, ep, e', hd, _⟩ := hn
    rw [e] at e'; cases e'; exact ⟨_, _, hd⟩
  have old : ∀ b o o', g.H.get? b = some o → s.heap.get? b = some o' → s'.heap.get? b = some o' := fun b o o' e e' =>
    k b o' (Nat.ne_of_lt (Nat.lt_of_lt_of_le (Heap.lt_size e) hN)) (Nat.ne_of_lt (Nat.lt_of_lt_of_le (Heap.lt_size e) hNi)) e'
  have oldA : ∀ b, b < g.H.objs.size → ∀ o', s.heap.get? b = some o' → s'.heap.get? b = some o' := fun b hb o' e' =>
    k b o' (Nat.ne_of_lt (Nat.lt_of_lt_of_le hb hN)) (Nat.ne_of_lt (Nat.lt_of_lt_of_le hb hNi)) e'
  have kf : ∀ b o, s.heap.get? b = some o → (∀ es ep, o.data ≠ .dict es ep) → (∀ fs, o.data ≠ .fields fs) → s'.heap.get? b = some o := fun b o e h1 h2 =>
    k b o (fun h => by subst h; obtain ⟨es, ep, hd⟩ := hL o e; exact h1 _ _ hd) (fun h => by subst h; obtain ⟨_, fs, hd⟩ := hid o e; exact h2 _ hd) e
  have kt : TupK s.heap s'.heap := fun b items n e => kf b _ e (by simp) (by simp)
  have kn : ∀ a m, a ≠ L → s.heap.Ns a m → s'.heap.Ns a m := fun a m ha n => by
    obtain ⟨o, es, ep, e, hd, r⟩ := n
    exact ⟨o, es, ep, k a o ha (fun h => by subst h; obtain ⟨_, fs, hd'⟩ := hid o e; rw [hd] at hd'; cases hd') e, hd, r⟩
  have kc : ∀ a v, s.heap.IsCell a v → s'.heap.IsCell a v := fun a v n => by
    obtain ⟨o, e, hd⟩ := n
    exact ⟨o, kf a o e (by rw [hd]; simp) (by rw [hd]; simp), hd⟩
  refine ⟨⟨⟨⟨fun d o e n => old d o o e (gs.base.keep d o e n), gs.base.last, OldK.on gs.base.old old, fun cp h => ?_⟩, fun p hp => ?_, gs.new, gs.nodup, ho.trans gs.os, hb⟩, ?_, fun b hb => let ⟨v, h⟩ := gs.cellsAre b hb; ⟨v, kc _ _ h⟩⟩, kt⟩
  · obtain ⟨ps, i, t⟩ := gs.base.tabs cp h
    obtain ⟨h1, h2⟩ := g.top.tabs cp h
    exact ⟨ps, IsCode.two i (oldA _ h1) (oldA _ h2), TableAt.two t (oldA _ h1) (oldA _ h2)⟩
  · have c := gs.cells p hp
    refine c.keep kt (fun o e => kf _ o e (cell_ne_dict c e).1 (cell_ne_dict c e).2.2.1) fun d x n _ => kn _ _ (fun h => ?_) n
    subst h
    have := Ns.one n hn "_initial_size"
    rw [hm0] at this
    unfold only at this
    rw [if_pos rfl] at this
    cases this
  · obtain ⟨m', n, hi, l⟩ := gs.loc
    refine ⟨m', kn _ _ (Ne.symm hLC) n, hi, fun p hp => ?_⟩
    obtain ⟨v, b, r⟩ := l p hp
    refine ⟨v, ?_, r.mono kt⟩
    rcases b with b | ⟨b, c, h1, h2⟩
    · exact .inl b
    · exact .inr ⟨b, c, h1, kc _ _ h2⟩
theorem ints_of {h : Heap} {zs : List Int} {xs : List Value} (r : VRs h (zs.map V.int) xs) : IntsAre xs zs := VRs.ints r
/-- the generator as it lies there, j numbers handed out -/
structure GenOf (g : G) (A : Around) (a : Addr) (gi : Nat) (L ga : Addr) (zs outs : List Int) (fin : Bool) (j : Nat) (s : Shared) : Prop where
  gen : s.heap.IsGen a gi
  ns : ∃ m, s.heap.Ns L m ∧ m "_initial_size" = none
  run : ∃ gs, s.gens[gi]? = some gs ∧ ((GF g L ga zs s ∧ ∀ s'', GF g L ga zs s'' → gs.Goes g.M A.in1 (gR L) (gY g L ga zs outs fin) (outs.length - j) (.send .none) s'') ∨
    (∃ it, L < it ∧ (∃ i, s.heap.IsListIter it ga i) ∧ ∀ s'', Kept g L it ga zs s s'' → gs.Goes g.M A.in1 (gR L) (gY g L ga zs outs fin) (outs.length - j) (.send .none) s''))
/-- from one state to the next by the generator alone -/
structure Moves (L gi : Nat) (s s' : Shared) : Prop where
  heap : ∃ it, L < it ∧ Hid it s ∧ ∀ b o, b ≠ L → b ≠ it → s.heap.get? b = some o → s'.heap.get? b = some o
  gens : ∀ i, i ≠ gi → s'.gens[i]? = s.gens[i]?
  size : s'.gens.size = s.gens.size
theorem next_run {A : Around} {s : Shared} {a : Addr} {gi n : Nat} {gs : GenState} {Q : Option Value → Shared → Prop} {E : Value → Shared → Prop} {L ga : Addr} {zs outs : List Int} {fin : Bool} (hh : A.handled = none) (hl : s.heap.NoLimit) (hroom : A.depth < recursionLimit)
    (hg : s.heap.IsGen a gi) (hgs : s.gens[gi]? = some gs) (hgo : gs.Goes g.M A.in1 (gR L) (gY g L ga zs outs fin) n (.send .none) (s.setGen gi .running))
    (hY : ∀ v s₁ gs', gs'.bare = true → gY g L ga zs outs fin (n - 1) (s.setGen gi .running) v s₁ (fun r' s'' => match n with
        | 0 => False
        | m + 1 => gs'.Goes g.M A.in1 (gR L) (gY g L ga zs outs fin) m r' s'') → Q (some v) (s₁.setGen gi gs'))
    (hP : ∀ s₁, n = 0 → (∃ it, L < it ∧ Hid it s ∧ After L it (s.setGen gi .running) s₁) → ∀ h', (∀ b o, s₁.heap.get? b = some o → h'.get? b = some o) → Q none { s₁.setGen gi .finished with heap := h' }) :
    wpAny g.M A (pyNext (.ref a)) Q E s := by
  unfold pyNext
  refine wpAny_bind (wpAny_attempt (wpAny_callSpecial?_slot (name := Str.ofString "__next__") hg.typeIs slot_gen_next (wpAny_call_entry slot_gen_next hg.typeIs entry_gen_next ?_ (args_gen_next _))))
  show wpAny _ A.in1 (Builtin.Generator.genWake (.ref a) (.send .none)) _ _ s
  unfold Builtin.Generator.genWake
  refine wpAny_bind (wpAny_holding (wpAny_genNumber hg (wpAny_bind (wpAny_genState hgs ?_))))
  cases gs with
  | running => exact hgo.elim
  | finished => exact hgo.elim
  | _ =>
    refine wpAny_bind (wpAny_roomToWake hl hroom ?_)
    show wpAny _ A.in1 (.resume gi (.send .none) [] _) _ _ s
    refine wpAny_resumeQ hgs hgo (fun x s₁ hx => ?_) (fun v s₁ gs' hb hv => ?_)
    · obtain ⟨hn, rfl, it, hp⟩ := hx
      show wpAny _ A.in1 (newExc (.type "StopIteration") [] >>= _) _ _ _
      refine wpAny_bind ?_
      simp only [newExc, newTuple]
      refine wpAny_bind (wpAny_newObj_type ?_ (by size_fits))
      refine wpAny_bind (m := firstArgMember _ _) (wpAny_of_eq (a := Value.none) (by first | rfl | (simp only [firstArgMember]; rfl)) ?_)
      refine wpAny_newObj_type ?_ (by size_fits)
      unfold raiseNew
      refine wpAny_bind (wpAny_bind (wpAny_handled ?_))
      rw [show A.in1.handled = none from hh]
      refine wpAny_throw ?_
      refine wpAny_bind (wpAny_isInstance (T := "StopIteration") (b := true) ⟨_, Heap.get?_push_size _ rfl, rfl⟩ isSubtype_stop ?_)
      exact wpAny_pure (hP s₁ hn ⟨it, hp⟩ _ fun b o hb => Heap.get?_push_of_some _ (Heap.get?_push_of_some _ hb))
    · exact wpAny_pure ⟨v, rfl, wpAny_pure (hY v s₁ gs' hb hv)⟩
theorem gen_end {s : Shared} {gi : Nat} {s₁ : Shared} {gs x : GenState} (hgs : s.gens[gi]? = some gs) (hx : x.bare = true) (hb : AllBare s.gens) (he : s₁.gens = (s.setGen gi .running).gens) : AllBare (s₁.setGen gi x).gens ∧ (∀ i, i ≠ gi → (s₁.setGen gi x).gens[i]? = s.gens[i]?) ∧ (s₁.setGen gi x).gens.size = s.gens.size ∧ (s₁.setGen gi x).gens[gi]? = some x := by
  have h1 : s₁.gens[gi]? = some .running := by rw [he]; exact setGen_self hgs
  have go : GenOnly gi s.gens (s₁.setGen gi x).gens := (GenOnly.setGen s gi .running).trans (he ▸ GenOnly.setGen s₁ gi x)
  exact ⟨GenOnlyQ.bare (GenOnlyQ.of go (setGen_self h1) hx) hb, fun i hi => go.2 i hi, go.1, setGen_self h1⟩
end
section
variable {g : G} {C : Fm g} {st : St} {s : Shared} {a : Addr} {gi : Nat} {L ga : Addr} {zs outs : List Int} {fin : Bool} {j : Nat}
theorem gen_next (gs : GoodF g C st s) (GA : GenOf g C.A a gi L ga zs outs fin j s) (hN : g.H.objs.size ≤ L) (hLC : L ≠ C.env.locals) (hga : (ga, .list (zs.map V.int)) ∈ st.sto) (hask : j < outs.length ∨ fin = true) {Q : Option Value → Shared → Prop} {E : Value → Shared → Prop}
    (hY : j < outs.length → ∀ t s', GoodF g C st s' → Moves L gi s s' → (j + 1 < outs.length ∨ fin = true → GenOf g C.A a gi L ga zs outs fin (j + 1) s') → Q (some (.int (outs.getD j 0) t)) s')
    (hP : outs.length - j = 0 → ∀ s', GoodF g C st s' → Moves L gi s s' → Q none s') : wpAny g.M C.A (pyNext (.ref a)) Q E s := by
  have hd := C.depth
  obtain ⟨G1, ⟨m, hn, hm0⟩, gst, hgs, hrun⟩ := GA
  have hlim : s.heap.NoLimit := by
    obtain ⟨mc, ⟨oc, es, ep, hoc, r⟩, q⟩ := g.top.nolim
    exact ⟨mc, ⟨oc, es, ep, gs.base.keep _ _ hoc (by decide), r⟩, q⟩
  have hls : ∃ items, s.heap.IsList ga items ∧ IntsAre items.toList zs := by
    obtain ⟨items, hl, rv⟩ := IsLL gs.toGoodS hga
    exact ⟨items, hl, VRs.ints rv⟩
  have hgl : s.heap.Ns mainGlobals g.mg := Ns.base g.top.gl gs.base (by decide)
  have hgo : gst.Goes g.M C.A.in1 (gR L) (gY g L ga zs outs fin) (outs.length - j) (.send .none) (s.setGen gi .running) := by
    rcases hrun with ⟨gf, hrun⟩ | ⟨it, hlt, hit, hrun⟩
    · exact hrun _ ⟨gf.ns, gf.ls, gf.gl⟩
    · exact hrun _ ⟨fun m n => n, fun o e => e, hls, hgl⟩
  refine next_run C.handled hlim (by show C.A.depth < 1000; omega) G1 hgs hgo (fun v s₁ gs' hb hv => ?_) (fun s₁ hn0 ⟨it, hlt, hid, af⟩ h' hk => ?_)
  · obtain ⟨⟨t, rfl⟩, it, hlt, hid, af, hil, hm', hk⟩ := hv
    obtain ⟨b1, b2, b3, b4⟩ := gen_end hgs hb gs.bare af.2.1
    have hNi : g.H.objs.size ≤ it := Nat.le_of_lt (Nat.lt_of_le_of_lt hN hlt)
    obtain ⟨g2, _⟩ := gs.after (s' := s₁.setGen gi gs') hn hm0 hN hLC hid hNi (fun b o h1 h2 e => af.1 b o h1 h2 e) b1 af.2.2
    have hls1 : ∃ items, s₁.heap.IsList ga items ∧ IntsAre items.toList zs := by
      obtain ⟨items, hl, rv⟩ := IsLL g2.toGoodS hga
      exact ⟨items, hl, VRs.ints rv⟩
    have hgl1 : s₁.heap.Ns mainGlobals g.mg := Ns.base (h := (s₁.setGen gi gs').heap) g.top.gl g2.base (by decide)
    have hj : j < outs.length := by
      rcases hask with h | h
      · exact h
      · rcases Nat.lt_or_ge j outs.length with h1 | h1
        · exact h1
        · exfalso
          have h0 : outs.length - j = 0 := Nat.sub_eq_zero_of_le h1
          rw [h0] at hk
          exact hk (.inr h) s₁ ⟨fun m n => n, fun o e => e, hls1, hgl1⟩
    obtain ⟨d, hdd⟩ : ∃ d, outs.length - j = d + 1 := ⟨outs.length - j - 1, n_dec hj⟩
    rw [hdd] at hk
    have hv1 : outs.length - 1 - (outs.length - j - 1) = j := n_back hj
    have hda : outs.length - (j + 1) = d := Nat.succ.inj ((n_dec hj).symm.trans hdd)
    rw [hv1]
    refine hY hj t _ g2 ⟨⟨it, hlt, hid, fun b o h1 h2 e => af.1 b o h1 h2 e⟩, b2, b3⟩ fun hc => ⟨?_, hm', gs', b4, .inr ⟨it, hlt, hil, fun s'' kp => ?_⟩⟩
    · obtain ⟨o, nm, qn, ho, hc', hdat, hr⟩ := G1
      refine ⟨o, nm, qn, af.1 a o (fun h => ?_) (fun h => ?_) ho, hc', hdat, hr⟩
      · subst h
        obtain ⟨o', es, ep, e', hd', _⟩ := hn
        have e'' : s.heap.get? a = some o := ho
        rw [e''] at e'; cases e'; rw [hdat] at hd'; cases hd'
      · subst h
        obtain ⟨h1, _⟩ := hid o ho
        rw [hc'] at h1
        simp at h1
    · rw [hda]
      exact hk (by rcases hc with h | h; exact .inl (show 0 < d by rw [← hda]; exact Nat.sub_pos_of_lt h); exact .inr h) s'' ⟨kp.ns, kp.it, kp.ls, kp.gl⟩
  · obtain ⟨b1, b2, b3, b4⟩ := gen_end (x := .finished) hgs rfl gs.bare af.2.1
    have hNi : g.H.objs.size ≤ it := Nat.le_of_lt (Nat.lt_of_le_of_lt hN hlt)
    have kk : ∀ b o, b ≠ L → b ≠ it → s.heap.get? b = some o → h'.get? b = some o := fun b o h1 h2 e => hk b o (af.1 b o h1 h2 e)
    obtain ⟨g2, _⟩ := gs.after (s' := { s₁.setGen gi .finished with heap := h' }) hn hm0 hN hLC hid hNi kk b1 af.2.2
    exact hP hn0 _ g2 ⟨⟨it, hlt, hid, kk⟩, b2, b3⟩
end
end
section -- P69
section
variable {g : G} {C : Fm g} {st st1 : St} {s s' : Shared} {a : Addr} {gi : Nat} {L ga : Addr} {zs outs : List Int} {fin : Bool} {j : Nat}
theorem XF.noDictL (gs : GoodF g C st s) {L : Addr} {m : Str → Option Value} (n : s.heap.Ns L m) (hLC : L ≠ C.env.locals) : ¬ XF g C st.sto L := by
  obtain ⟨o, es, ep, e, hd, _⟩ := n
  rintro (h | h | h)
  · exact XS.noDict gs.toGoodS e (.inl ⟨es, ep, hd⟩) h
  · exact hLC h
  · obtain ⟨v, o', e', hd'⟩ := gs.cellsAre _ h
    rw [e] at e'; cases e'; rw [hd] at hd'; cases hd'
theorem Ns.by {h h' : Heap} {L : Addr} {m : Str → Option Value} (n : h.Ns L m) (k : ∀ o, h.get? L = some o → ∃ o', h'.get? L = some o' ∧ Same o o') : h'.Ns L m := Ns.same n fun o e _ => k o e
theorem GenOf.keep (gs : GoodF g C st s) (gs' : GoodF g C st1 s') (x : SF g C st st1 s s') (haN : g.H.objs.size ≤ a) (hLN : g.H.objs.size ≤ L) (hLC : L ≠ C.env.locals) (hga : (ga, .list (zs.map V.int)) ∈ st1.sto) (GA : GenOf g C.A a gi L ga zs outs fin j s) : GenOf g C.A a gi L ga zs outs fin j s' := by
  obtain ⟨G1, ⟨m, hn, hm0⟩, gst, hgs, hrun⟩ := GA
  have hgi : gi < s.gens.size := (Array.getElem?_eq_some_iff.mp hgs).1
  have kL := fun o e => x.keep L o e (XF.noDictL gs hn hLC)
  have hls : ∃ items, s'.heap.IsList ga items ∧ IntsAre items.toList zs := by
    obtain ⟨items, hl, rv⟩ := IsLL gs'.toGoodS hga
    exact ⟨items, hl, VRs.ints rv⟩
  have hgl : s'.heap.Ns mainGlobals g.mg := Ns.base g.top.gl gs'.base (by decide)
  refine ⟨?_, ⟨m, Ns.by hn kL, hm0⟩, gst, (x.gens gi hgi).trans hgs, ?_⟩
  · obtain ⟨o, nm, qn, ho, hc, hd, hr⟩ := G1
    exact ⟨o, nm, qn, x.tuple ho (XF.noFields gs ho ⟨_, hd⟩ haN) (by rw [hc]; simp), hc, hd, hr⟩
  · rcases hrun with ⟨gf, hrun⟩ | ⟨it, hlt, ⟨i, hit⟩, hrun⟩
    · refine .inl ⟨⟨?_, hls, hgl⟩, hrun⟩
      obtain ⟨m', n', q⟩ := gf.ns
      exact ⟨m', Ns.by n' kL, q⟩
    · obtain ⟨o, e, hc, hd⟩ := hit
      have e' := x.tuple e (XF.noFields gs e ⟨_, hd⟩ (Nat.le_of_lt (Nat.lt_of_le_of_lt hLN hlt))) (by rw [hc]; simp)
      refine .inr ⟨it, hlt, ⟨i, o, e', hc, hd⟩, fun s'' kp => hrun s'' (Kept.trans ⟨fun m n => Ns.by n kL, fun o2 e2 => ?_, hls, hgl⟩ kp)⟩
      rw [e] at e2; cases e2; exact e'
/-- all that is new -/
noncomputable def XN (g : G) (C : Fm g) (s : Shared) (sto : Sto) (b : Addr) : Prop := XF g C sto b ∨ s.heap.objs.size ≤ b
noncomputable def SN (g : G) (C : Fm g) (st st' : St) (s s' : Shared) : Prop := Step (XF g C st.sto) (XN g C s st'.sto) s s'
theorem SN.of (x : SF g C st st1 s s') : SN g C st st1 s s' := Step.weaken x (fun _ h => h) fun d h => by
  rcases h with h | h
  · exact x.grow d h
  · exact .inr (none_size h)
theorem SN.then {st2 : St} {s2 : Shared} (x : SN g C st st1 s s') (y : SF g C st1 st2 s' s2) : SN g C st st2 s s2 := by
  refine Step.trans x (Step.weaken (Y := XN g C s st1.sto) (Y' := XN g C s st2.sto) y (fun d h => .inl h) fun d h => ?_)
  rcases h with h | h
  · rcases y.grow d h with h | h
    · exact .inl (.inl h)
    · exact .inr h
  · exact .inl (.inr h)
theorem SN.drop (x : SN g C st st1 s s') : SF g C st st1 s s' := Step.weaken x (fun _ h => h) fun d h => x.grow d (.inl h)
theorem SN.moves {s2 : Shared} (x : SN g C st st1 s s') (hL : s.heap.objs.size ≤ L) (hgi : s.gens.size ≤ gi) (m : Moves L gi s' s2) : SN g C st st1 s s2 := by
  obtain ⟨⟨it, hlt, _, k⟩, mg, ms⟩ := m
  refine ⟨fun b o e n => ?_, x.grow, fun gg h => ?_, Nat.le_trans x.gsize (Nat.le_of_eq ms.symm)⟩
  · have hb := Heap.lt_size e
    obtain ⟨o', e', q⟩ := x.keep b o e n
    exact ⟨o', k b o' (Nat.ne_of_lt (Nat.lt_of_lt_of_le hb hL)) (Nat.ne_of_lt (Nat.lt_trans (Nat.lt_of_lt_of_le hb hL) hlt)) e', q⟩
  · rw [mg gg (Nat.ne_of_lt (Nat.lt_of_lt_of_le h hgi))]
    exact x.gens gg h
end
end
section -- P70
section
variable {g : G} {C : Fm g} {st st1 : St} {s s' : Shared} {a : Addr} {gi : Nat} {L ga : Addr} {zs outs : List Int} {fin : Bool} {j : Nat}
theorem GoodF.regens (gs : GoodF g C st s) {gens : Array GenState} (hb : AllBare gens) : GoodF g C st { s with gens := gens } := ⟨⟨gs.base, gs.cells, gs.new, gs.nodup, gs.os, hb⟩, gs.loc, gs.cellsAre⟩
theorem gen_call {e : Expr} {p pos : Pos} {K : Addr → St → Prop} (hk : C.env.kindOf "_grouping_intervals" = some .globalImplicit) (gs : GoodF g C st s) (h : TEs g C pos [e] (fun us st1 => ∃ ga, us = [.ref ga] ∧ (ga, .list (zs.map V.int)) ∈ st1.sto ∧ K ga st1) st)
    (fu : Fut zs none outs fin) (hf : outs ≠ [] ∨ fin = true) {P : Value → Shared → Prop}
    (q : ∀ a gi L ga st1 s1 s', GoodF g C st1 s' → SF g C st st1 s s1 → SF g C st1 st1 s1 s' → K ga st1 → (ga, .list (zs.map V.int)) ∈ st1.sto → g.H.objs.size ≤ a → g.H.objs.size ≤ L → L ≠ C.env.locals → s1.heap.objs.size ≤ L → s1.gens.size ≤ gi → GenOf g C.A a gi L ga zs outs fin 0 s' → P (.ref a) s')
    (he : starEach [e] C.env = [(false, eval e C.env)] := by rfl) : wpAny g.M C.A (eval (.Call (.Name "_grouping_intervals" p) [e] [] pos) C.env) P noE s := by
  have hd := C.depth
  refine wpAny_Call_Name_kw (Calls.Name_function_global C.kind hk (Calls.loadGlobal_global (mg := g.mg) (by rw [C.globals]; exact Ns.base g.top.gl gs.base (by decide)) (g.top.gn ("_grouping_intervals", .ref 162) (by walk_at "in")) ?_) (by decide))
  obtain ⟨o, fd, ho, hdat, e1, e2, e3, e4, e5, e6, e7, e8, e9, e10, hrec⟩ := g.top.fn fGI (by walk_at "in")
  refine callWith_function_kw (o := o) (fd := fd) ?_
  have h' := h
  unfold TEs at h'
  rw [he] at h' ⊢
  refine Calls.evalArgs_plain (h'.on gs fun us st1 as s1 q1 rs g1 x1 => ⟨⟨g1.base.keep _ _ ho (by decide), hdat⟩, ?_⟩)
  obtain ⟨ga, rfl, hga, hK⟩ := q1
  obtain ⟨x, rfl, rx⟩ := rs.one
  cases rx
  have kp : ∀ b o, g.H.get? b = some o → b ∉ tbls → s1.heap.get? b = some o := g1.base.keep
  refine wpAny_call (codeAny_call_generator (body := fGI.body) (by show C.A.depth < 1000; omega) (kp _ _ ho (by decide)) hdat (e4 ▸ rfl) (e4 ▸ rfl) e3 ?_ ?_)
  · obtain ⟨c, oc, vs, t, hc, hoc, r⟩ := hrec
    cases hc
    rw [e9, e1]
    exact ⟨fGI.c, oc, vs, t, rfl, kp _ _ hoc (by decide), r⟩
  have hb : bindArgs fd ⟨[.ref ga], []⟩ = pure ([("grouping", Value.ref ga)] : List (Str × Value)) := by
    cases fd
    simp only at e2 e7 e8
    subst e2 e7 e8
    rfl
  refine wpAny_of_eq hb ?_
  refine wpAny_newFunctionEnv (by rw [e4]; decide) (fun y hy => by rw [List.mem_singleton] at hy; subst hy; rw [e4]; rfl) (fun h1 hn1 hs1 => ?_) (by rw [e4]; rfl)
  have hL : g.H.objs.size ≤ s1.heap.objs.size := g1.base.size
  have k1 : ∀ b o, s1.heap.get? b = some o → h1.get? b = some o := fun b o e => hs1.extBut b o (Nat.ne_of_lt (Heap.lt_size e)) (Heap.get?_push_of_some _ e)
  refine ⟨?_, ?_⟩
  · obtain ⟨mc, ⟨oc, es, ep, hoc, r⟩, q⟩ := g.top.nolim
    exact ⟨mc, ⟨oc, es, ep, k1 _ _ (kp _ _ hoc (by decide)), r⟩, q⟩
  let env : Env := newEnv fd.scope s1.heap.objs.size fd.globals fd.closure (fd.qualname ++ ".<locals>.") (some fGI.a) fd.code none fd.builtins
  have E : GEnv env s1.heap.objs.size := ⟨e4, rfl, e5, rfl⟩
  have k2 : ∀ b o, s1.heap.get? b = some o → (h1.push { cls := .type "generator", data := .fields #[.int s1.gens.size 0, .str fd.name (s1.toks + 1), .str fd.qualname (s1.toks + 1 + 1)] }).get? b = some o := fun b o e => Heap.get?_push_of_some _ (k1 b o e)
  obtain ⟨g2, x2⟩ := g1.ext (s' := { s1 with toks := s1.toks + 1 + 1 + 1, heap := h1.push { cls := .type "generator", data := .fields #[.int s1.gens.size 0, .str fd.name (s1.toks + 1), .str fd.qualname (s1.toks + 1 + 1)] } }) k2 rfl rfl
  have g3 := g2.regens (g1.bare.push (g := .fresh (.func fGI.body env)) rfl)
  obtain ⟨items, hl, rv⟩ := IsLL g1.toGoodS hga
  have hgl : ga < s1.heap.objs.size := let ⟨o, e, _⟩ := hl; Heap.lt_size e
  have hml : mainGlobals < s1.heap.objs.size := let ⟨o, es, ep, e, _⟩ := Ns.base g.top.gl g1.base (by decide); Heap.lt_size e
  refine q h1.objs.size s1.gens.size s1.heap.objs.size ga st1 s1 _ g3 x1 ?_ hK hga ?_ hL ?_ (Nat.le_refl _) (Nat.le_refl _) ?_
  · refine ⟨x2.keep, x2.grow, fun i hi => ?_, ?_⟩
    · show (s1.gens.push _)[i]? = s1.gens[i]?
      rw [Array.getElem?_push, if_neg (Nat.ne_of_lt hi)]
    · show s1.gens.size ≤ (s1.gens.push _).size
      rw [Array.size_push]; exact Nat.le_succ _
  · have : h1.objs.size = s1.heap.objs.size + 1 := by rw [hs1.1, Heap.size_push]
    rw [this]; exact Nat.le_succ_of_le hL
  · obtain ⟨m, ⟨o', es, ep, eo, _⟩, _⟩ := g1.loc
    exact Ne.symm (Nat.ne_of_lt (Heap.lt_size eo))
  · have gf : GF g s1.heap.objs.size ga zs { s1 with gens := s1.gens.push (.fresh (.func fGI.body env)), toks := s1.toks + 1 + 1 + 1, heap := h1.push { cls := .type "generator", data := .fields #[.int s1.gens.size 0, .str fd.name (s1.toks + 1), .str fd.qualname (s1.toks + 1 + 1)] } } := by
      refine ⟨⟨_, hn1.push _, by rfl, by rfl⟩, ⟨items, let ⟨o, e, r⟩ := hl; ⟨o, k2 _ _ e, r⟩, VRs.ints rv⟩, ?_⟩
      obtain ⟨o, es, ep, e, r⟩ := Ns.base g.top.gl g1.base (show mainGlobals ∉ tbls by decide)
      exact ⟨o, es, ep, k2 _ _ e, r⟩
    refine ⟨⟨_, _, _, Heap.get?_push_size _ rfl, rfl, rfl, rfl⟩, ⟨_, hn1.push _, by rfl⟩, _, Array.getElem?_push_size .., .inl ⟨gf, fun s'' gf' => ⟨rfl, seg_gi_fresh (A := C.A.in1) E C.handled fu hf gf' (Nat.ne_of_gt hgl) (Nat.ne_of_gt hml)⟩⟩⟩
end
end
section -- P71
section
variable {g : G} {C : Fm g} {st : St} {s : Shared} {zs outs : List Int} {fin : Bool}
/-- for .. in _grouping_intervals(..) -/
noncomputable abbrev kLG (ga : Addr) (zs : List Int) (more : Prop) (J : St → Prop) (Q : F → St → Prop) : F → St → Prop := fun f st => match f with
  | .next | .cont => J st ∧ (ga, .list (zs.map V.int)) ∈ st.sto ∧ more
  | .brk => Q .next st
  | .ret v => Q (.ret v) st
noncomputable abbrev kFG (g : G) (C : Fm g) (x : Str) (zs outs : List Int) (fin : Bool) (body orelse : List Stmt) (Q : F → St → Prop) : List V → St → Prop := fun us st1 => ∃ ga, us = [.ref ga] ∧ (ga, .list (zs.map V.int)) ∈ st1.sto ∧ ∃ J : Nat → St → Prop, J 0 st1 ∧
  (∀ j st2, j < outs.length → J j st2 → (ga, .list (zs.map V.int)) ∈ st2.sto → TXs g C body (kLG ga zs (j + 1 < outs.length ∨ fin = true) (J (j + 1)) Q) ⟨set st2.loc x (.int (outs.getD j 0)), st2.sto⟩) ∧
  (∀ j st2, outs.length - j = 0 → J j st2 → TXs g C orelse Q st2)
theorem TX.forGen {x : Str} {xp : Pos} {e : Expr} {p pos pos' : Pos} {body orelse : List Stmt} {Q : F → St → Prop} (hk : C.env.kindOf "_grouping_intervals" = some .globalImplicit) (hx : Stores g C x) (fu : Fut zs none outs fin) (hf : outs ≠ [] ∨ fin = true)
    (h : TEs g C pos' [e] (kFG g C x zs outs fin body orelse Q) st)
    (he : starEach [e] C.env = [(false, eval e C.env)] := by rfl) (hs : ∀ x, foldedSetIterable (.Call (.Name "_grouping_intervals" p) [e] [] pos') C.env x = pure x := by intro _; rfl) :
    TX g C (.For (.Name x xp) (.Call (.Name "_grouping_intervals" p) [e] [] pos') body orelse pos) Q st := fun s gs => by
  refine wpAny_For (gen_call hk gs h fu hf (fun a gi L ga st1 s1 s' g' x1 x2 hK hga haN hLN hLC hLs hgis GA => ?_) he) hs
  refine wpAny_pyIter_gen GA.gen ?_
  obtain ⟨J, hJ, turn, done⟩ := hK
  refine codeAny_forLoop_any (fun n s2 => ∃ j st2, n = outs.length + 1 - j ∧ j ≤ outs.length ∧ (j < outs.length ∨ fin = true) ∧ GoodF g C st2 s2 ∧ SN g C st1 st2 s1 s2 ∧ GenOf g C.A a gi L ga zs outs fin j s2 ∧ (ga, .list (zs.map V.int)) ∈ st2.sto ∧ J j st2) ?_ (outs.length + 1)
    ⟨0, st1, rfl, Nat.zero_le _, ?_, g', SN.of x2, GA, hga, hJ⟩
  · rintro n s2 ⟨j, st2, rfl, hj, hask, g2, y2, GA2, hga2, hJ2⟩
    refine gen_next g2 GA2 hLN hLC hga2 hask (fun hlt t s3 g3 mv hgen => ?_) fun h0 s3 g3 mv => ?_
    · refine wpAny_pure (a := ()) ?_
      have y3 := y2.moves hLs hgis mv
      refine wpAny_assign_Name (store' g3 (VR.int _ t) hx fun s4 g4 x4 => ?_)
      refine (turn j st2 hlt hJ2 hga2).on g4 fun f st5 fl s5 q rf g5 x5 => ?_
      have y5 := (y3.then x4).then x5
      cases rf with
      | next =>
        obtain ⟨q1, q2, q3⟩ := q
        exact ⟨outs.length + 1 - (j + 1), n_turn (by assumption), j + 1, st5, rfl, Nat.succ_le_of_lt (by assumption), q3, g5, y5, ((hgen q3).keep g3 g4 x4 haN hLN hLC hga2).keep g4 g5 x5 haN hLN hLC q2, q2, q1⟩
      | cont =>
        obtain ⟨q1, q2, q3⟩ := q
        exact ⟨outs.length + 1 - (j + 1), n_turn (by assumption), j + 1, st5, rfl, Nat.succ_le_of_lt (by assumption), q3, g5, y5, ((hgen q3).keep g3 g4 x4 haN hLN hLC hga2).keep g4 g5 x5 haN hLN hLC q2, q2, q1⟩
      | brk => exact ⟨_, st5, RF.next, g5, Step.trans x1 (SN.drop y5), q⟩
      | ret r => exact ⟨_, st5, RF.ret r, g5, Step.trans x1 (SN.drop y5), q⟩
    · have y3 := y2.moves hLs hgis mv
      exact (done j st2 h0 hJ2).on g3 fun f st5 a s5 q rf g5 x5 => ⟨f, st5, rf, g5, Step.trans x1 (SN.drop (y3.then x5)), q⟩
  · rcases hf with h | h
    · exact .inl (List.length_pos_iff.mpr h)
    · exact .inr h
end
end
section -- P72
section
variable {g : G}
theorem eqvs_int (l : List Int) : eqvs (l.map V.int) (l.map V.int) = some true := eqvs_same eqv_ii l
theorem eqSs_int {sto : Sto} (l : List Int) : EqSs sto (l.map V.int) (l.map V.int) true := EqSs.of (eqvs_int l) fun v hv => by obtain ⟨i, _, rfl⟩ := List.mem_map.mp hv; exact Nat.zero_le _
/-- what the generator is asked to hand out -/
noncomputable def marksOut (zs : List Int) (k : Nat) : List Int := if k = 0 then zs ++ [128] else if k = 1 then zs else zs ++ List.replicate (9 - zs.length) (zs.getLast?.getD 0)
noncomputable def marksIn (zs : List Int) (k : Nat) : List Int := zs ++ (if k = 0 then [128] else if k = 1 then [127, 3] else [0, 5])
theorem Fut.app {rest outs : List Int} {fin : Bool} : ∀ {zs : List Int} {last : Option Int}, (∀ z ∈ zs, z ≠ 127 ∧ z ≠ 0) → Fut rest (if zs = [] then last else some (zs.getLast?.getD 0)) outs fin → Fut (zs ++ rest) last (zs ++ outs) fin
  | [], last, _, h => by simpa using h
  | z :: zs, last, ok, h => by
    have h1 := ok z List.mem_cons_self
    refine .item h1.1 h1.2 (Fut.app (fun y hy => ok y (List.mem_cons_of_mem _ hy)) ?_)
    cases zs with
    | nil => simpa using h
    | cons y ys => simpa [List.getLast?_cons_cons] using h
theorem lt3 {k : Nat} (h : k < 3) : k = 0 ∨ k = 1 ∨ k = 2 := by omega
theorem pick3 {k : Nat} (hk : k < 3) {a b c : Addr} {t : Sto} {F : Nat → Cell} (h0 : (a, F 0) ∈ t) (h1 : (b, F 1) ∈ t) (h2 : (c, F 2) ∈ t) : ∃ d, ([V.ref a, .ref b, .ref c] : List V)[k]? = some (.ref d) ∧ (d, F k) ∈ t := by
  rcases lt3 hk with rfl | rfl | rfl
  · exact ⟨a, rfl, h0⟩
  · exact ⟨b, rfl, h1⟩
  · exact ⟨c, rfl, h2⟩
theorem marks_fut {zs : List Int} {k : Nat} (ok : ∀ z ∈ zs, z ≠ 127 ∧ z ≠ 0) (h0 : zs ≠ []) (hl : zs.length ≤ 7) (hk : k < 3) : Fut (marksIn zs k) none (marksOut zs k) (decide (k < 2)) := by
  unfold marksIn marksOut
  rcases lt3 hk with rfl | rfl | rfl
  · exact Fut.app ok (.item (by decide) (by decide) .nil)
  · have := Fut.app (rest := [127, 3]) (outs := []) (fin := true) (last := none) ok .stop
    rw [List.append_nil] at this
    exact this
  · refine Fut.app ok ?_
    first | refine iteF h0 ?_ | rw [if_neg h0]
    exact .forever _
theorem vpick_to {l : List V} {n : Nat} : vpick l none (some (n : Int)) none = l.take n := by
  rw [vpick_plain]
  simp only [Option.elim, clipAt_nat, List.drop_zero, Nat.sub_zero]
  rcases Nat.le_total n l.length with h | h
  · rw [Nat.min_eq_left h]
  · rw [Nat.min_eq_right h, List.take_length, List.take_of_length_le h]
theorem lastV {zs : List Int} (h0 : zs ≠ []) : vpick (zs.map V.int) (some (-1)) none none = [V.int (zs.getLast?.getD 0)] := by
  rw [vpick_last, lastSum]
  rcases List.eq_nil_or_concat zs with h | ⟨m, x, rfl⟩
  · exact absurd h h0
  · simp
noncomputable def marksDue (zs : List Int) (k : Nat) : List Int := if k = 0 then zs ++ [128] else if k = 1 then zs else (zs ++ List.replicate 9 (zs.getLast?.getD 0)).take 9
theorem marks_due {zs : List Int} {k : Nat} (hl : zs.length ≤ 7) (hk : k < 3) : marksDue zs k = marksOut zs k := by
  unfold marksDue marksOut
  rcases lt3 hk with rfl | rfl | rfl
  · rfl
  · rfl
  · show (zs ++ List.replicate 9 _).take 9 = zs ++ List.replicate (9 - zs.length) _
    rw [List.take_append, List.take_of_length_le (by omega), List.take_replicate]
    congr 2
    omega
theorem marksOut_len {zs : List Int} {k : Nat} (hl : zs.length ≤ 7) (hk : k < 3) : (marksOut zs k).length ≤ 9 ∧ (k = 2 → (marksOut zs k).length = 9) ∧ zs.length ≤ (marksOut zs k).length := by
  unfold marksOut
  rcases lt3 hk with rfl | rfl | rfl
  · simp; omega
  · simp; omega
  · simp; omega
theorem marksOut_take {zs : List Int} {k i : Nat} (hi : i ≤ zs.length) : (marksOut zs k).take i = zs.take i := by
  unfold marksOut
  split
  · rw [List.take_append_of_le_length hi]
  · split
    · rfl
    · rw [List.take_append_of_le_length hi]
noncomputable def marksAdd (k : Nat) : List Int := if k = 0 then [128] else if k = 1 then [127, 3] else [0, 5]
noncomputable def sumsV (zs : List Int) : List V := (List.range zs.length).map fun i => V.int (zs.take (i + 1)).sum
theorem marksTail {C : Fm g} (E : IsEnv g fMarks C) (hn : C.n = 2) {zs : List Int} {k : Nat} {sa d T : Addr} {l : Loc} {t : Sto} (hl : zs.length ≤ 7) (hk : k < 3) (hs : Has l [("sizes", .ref sa), ("told", .ref T), ("due", .ref d)]) (h1 : (sa, .list (zs.map V.int)) ∈ t) (hd : (d, .list ((marksOut zs k).map V.int)) ∈ t)
    (hT : (T, .list ((marksOut zs k).map V.int)) ∈ t) {Q : V → Sto → Prop} (q : ∀ D sto', Keeps t sto' → (∀ p ∈ t, p.1 ≠ D) → (D, .list (sumsV zs)) ∈ sto' → Q (.ref D) sto') :
    TXs g C (fMarks.body.drop 3) (kDef Q) ⟨l, t⟩ := by
  have hlen := marksOut_len hl hk
  have hmo : ((marksOut zs k).map V.int).length ≤ 9 := by rw [List.length_map]; exact hlen.1
  refine Tr.less (st' := ⟨[("sizes", .ref sa), ("told", .ref T), ("due", .ref d)], t⟩) hs rfl ?_
  refine TXs.cons ?_
  walk_at "m1"
  refine TT.or ?_
  repeat walk_at "m1"
  refine TO2.neL hT hd (eqSs_int _) (kB.it ?_)
  walk_at "no"
  refine TT.or ?_
  walk_at "m1"
  refine TE.comp1 (noFree (by decide)) ?_ rfl (by decide) (by decide) (fun _ => rfl)
  refine TSrc.list ?_
  repeat walk_at "m1"
  refine kSrcL.it hT (Comp1.it (by omega) ([]) (fun _ => none) nofun ?_ ?_)
  · intro C' cof v hv loc t H K
    obtain ⟨i, hi, rfl⟩ := List.mem_map.mp hv
    refine TA.name (by walk_at "sto") (TTs.one (TT.or (TT.val ?_ (by intro w; rfl))))
    refine TE.callB (bid := "isinstance") (by walk_at "in") (by walk_at "kg") ?_
    repeat walk_at "m1"
    refine TE.builtin (v := .type "bool") (by walk_at "in") (by walk_at "kg") ?_
    repeat walk_at "m1"
    refine TOL.isi (b := false) rfl ?_
    refine TO1.truthB ?_
    walk_at "no"
    refine TT.or (TT.not (TT.val ?_ (by intro w; rfl)))
    refine TE.callB (bid := "isinstance") (by walk_at "in") (by walk_at "kg") ?_
    repeat walk_at "m1"
    refine TE.builtin (v := .type "int") (by walk_at "in") (by walk_at "kg") ?_
    repeat walk_at "m1"
    refine TOL.isi (b := true) rfl ?_
    refine TO1.truthB ?_
    walk_at "no"
    refine TT.or_nil ?_
    walk_at "no"
    exact ⟨rfl, nofun, Keeps.refl _⟩
  · intro D4 t4 hD4 K4 hm4
    rw [show ((marksOut zs k).map V.int).filterMap (fun _ => (none : Option V)) = [] by simp] at hm4
    repeat walk_at "m1"
    refine ⟨by simp, fun D5 hD5 => ?_⟩
    refine TO2.neL (List.mem_cons_of_mem _ hm4) List.mem_cons_self EqSs.nil (kB.it ?_)
    walk_at "no"
    refine TT.or_nil ?_
    walk_at "no"
    refine TXs.nil ?_
    have h14 := K4 _ h1
    have hT4 := K4 _ hT
    refine Tr.less (st' := ⟨[("sizes", .ref sa), ("told", .ref T)], (D5, .list []) :: t4⟩) (show Has _ _ by walk_at "has") rfl ?_
    refine TXs.cons (TX.ret ?_)
    refine TE.comp1 (freeOf E (by decide)) ?_ rfl (by decide) (by decide) (fun _ => rfl)
    refine TSrc.range (by walk_at "kg") ?_
    walk_at "m1"
    refine TE.callB (bid := "len") (by walk_at "in") (by walk_at "kg") ?_
    repeat walk_at "m1"
    refine TOL.one (TO1.lenL (vs := zs.map V.int) (List.mem_cons_of_mem _ h14) (by rw [List.length_map]; omega) ?_)
    walk_at "m1"
    refine ⟨zs.length, by rw [List.length_map], by omega, by simp; omega, [("told", .ref T)], fun v => some (match v with | .int i => V.int (zs.take (i.toNat + 1)).sum | _ => .none), ?_, ?_, ?_⟩
    · intro p hp
      rw [List.mem_singleton] at hp; subst hp
      exact ⟨by walk_at "mem", by rfl, cellOfE E (by rfl)⟩
    · intro C' cof v hv loc t5 H5 K5
      obtain ⟨i, hi, rfl⟩ := range_mem hv
      refine TA.less (st' := ⟨_, t5⟩) H5 rfl ?_
      refine TA.name (by walk_at "sto") (TTs.nil ?_)
      walk_at "yes"
      refine TE.callB (bid := "sum") (by walk_at "in") (by walk_at "kg") ?_
      repeat walk_at "m1"
      refine TO2.addI (kP.it ?_)
      refine kSl3.it (K5 _ (List.mem_cons_of_mem _ hT4)) (by omega) (fun D7 hD7 => ?_)
      rw [show (i : Int) + 1 = ((i + 1 : Nat) : Int) by omega, vpick_to, ← List.map_take, marksOut_take (by omega)]
      repeat walk_at "m1"
      refine TOL.sum List.mem_cons_self ⟨rfl, by walk_at "has", Keeps.cons⟩
    · intro D7 t6 hD7 K6 hm6
      rw [filterMap_some] at hm6
      exact q D7 t6 (Keeps.trans K4 (Keeps.trans Keeps.cons K6)) (fun p hp => hD7 p (List.mem_cons_of_mem _ (K4 p hp))) hm6
theorem cMarks {zs : List Int} {k : Nat} {sa : Addr} (ok : ∀ z ∈ zs, z ≠ 127 ∧ z ≠ 0) (h0 : zs ≠ []) (hl : zs.length ≤ 7) (hk : k < 3) {sto : Sto} {Q : V → Sto → Prop} (h1 : (sa, .list (zs.map V.int)) ∈ sto)
    (q : ∀ D sto', Keeps sto sto' → (∀ p ∈ sto, p.1 ≠ D) → (D, .list (sumsV zs)) ∈ sto' → Q (.ref D) sto') : TC g 3 (.ref fMarks.a) [.ref sa, .int (k : Int)] [] [] Q sto := by
  refine TC.def (ns := ["sizes", "kind"]) (fn_of (by walk_at "in")) (by decide) rfl (plain_2 fun fd v w => rfl) rfl (by decide) (by decide) (by decide) (by decide) rfl rfl rfl fun C E hn => ?_
  show TXs g C _ _ ⟨[("sizes", .ref sa), ("kind", .int (k : Int))], sto⟩
  have n1000 : ∀ v : V, [v].length ≤ 1000 := fun _ => by simp
  refine TXs.cons ?_
  repeat walk_at "m1"
  refine ⟨n1000 _, fun D1 hD1 => ?_⟩
  have hl1 : (zs.map V.int).length ≤ 7 := by rw [List.length_map]; exact hl
  refine TO2.addL (List.mem_cons_of_mem _ h1) List.mem_cons_self (by simp; omega) fun D2 hD2 => ?_
  repeat walk_at "m1"
  refine TE.un ?_
  repeat walk_at "m1"
  refine TO1.negI (kP.it ?_)
  walk_at "m1"
  refine kSl3.it (List.mem_cons_of_mem _ (List.mem_cons_of_mem _ h1)) (by omega) (fun D3 hD3 => ?_)
  rw [lastV h0]
  repeat walk_at "m1"
  refine TO2.mulL 9 rfl List.mem_cons_self (by simp) (by omega) fun D4 hD4 => ?_
  rw [rep1]
  refine TO2.addL (List.mem_cons_of_mem _ (List.mem_cons_of_mem _ (List.mem_cons_of_mem _ (List.mem_cons_of_mem _ h1)))) List.mem_cons_self (by simp; omega) fun D5 hD5 => ?_
  repeat walk_at "m1"
  refine kP.it ?_
  refine kSl3.it List.mem_cons_self (by simp; omega) (fun D6 hD6 => ?_)
  repeat walk_at "m1"
  refine ⟨by simp, fun D7 hD7 => ?_⟩
  repeat walk_at "m1"
  have s6 : (marksDue zs 2).map V.int = vpick (zs.map V.int ++ List.replicate 9 (V.int (zs.getLast?.getD 0))) none (some 9) none := by
    rw [show (9 : Int) = ((9 : Nat) : Int) from rfl, vpick_to]
    simp [marksDue, List.map_take]
  rw [← s6]
  generalize ht7 : ((D7, Cell.list [V.ref D2, V.ref sa, V.ref D6]) :: _ : Sto) = t7
  have K7 : Keeps sto t7 := fun p hp => by rw [← ht7]; repeat (first | exact hp | refine List.mem_cons_of_mem _ ?_)
  have m7 : (D7, Cell.list [V.ref D2, V.ref sa, V.ref D6]) ∈ t7 := by rw [← ht7]; exact List.mem_cons_self
  have m2 : (D2, Cell.list ((marksDue zs 0).map V.int)) ∈ t7 := by rw [← ht7, show (marksDue zs 0).map V.int = zs.map V.int ++ [V.int 128] by simp [marksDue]]; walk_at "in"
  have m6 : (D6, Cell.list ((marksDue zs 2).map V.int)) ∈ t7 := by rw [← ht7]; walk_at "in"
  obtain ⟨d, hd, hdc⟩ := pick3 (F := fun k => Cell.list ((marksDue zs k).map V.int)) hk m2 (K7 _ h1) m6
  refine TO2.itemL k rfl m7 hd (by simp) ?_
  rw [marks_due hl hk] at hdc
  clear m7 m2 m6 s6
  clear ht7 hD1 hD2 hD3 hD4 hD5 hD6 hD7 hd
  have hlen := marksOut_len hl hk
  have hzl : 0 < zs.length := List.length_pos_iff.mpr h0
  repeat walk_at "m1"
  refine ⟨by simp, fun T hT => ?_⟩
  repeat walk_at "m1"
  refine TX.forGen (zs := marksIn zs k) (outs := marksOut zs k) (fin := decide (k < 2)) (by walk_at "kg") (by walk_at "sto") (marks_fut ok h0 hl hk) (.inl (List.length_pos_iff.mp (by omega))) ?_
  repeat walk_at "m1"
  refine ⟨n1000 _, fun F1 hF1 => ?_⟩
  repeat walk_at "m1"
  refine ⟨by simp, fun F2 hF2 => ?_⟩
  repeat walk_at "m1"
  refine ⟨by simp, fun F3 hF3 => ?_⟩
  repeat walk_at "m1"
  refine ⟨by simp, fun F4 hF4 => ?_⟩
  repeat walk_at "m1"
  have hT' : ∀ p ∈ t7, p.1 ≠ T := hT
  generalize ht8 : ((F4, Cell.list [V.ref F1, V.ref F2, V.ref F3]) :: _ : Sto) = t8
  have K8 : Keeps t7 t8 := fun p hp => by rw [← ht8]; repeat (first | exact hp | refine List.mem_cons_of_mem _ ?_)
  have m4 : (F4, Cell.list [V.ref F1, V.ref F2, V.ref F3]) ∈ t8 := by rw [← ht8]; exact List.mem_cons_self
  have mT : (T, Cell.list []) ∈ t8 := by rw [← ht8]; walk_at "in"
  have f1 : (F1, Cell.list ((marksAdd 0).map V.int)) ∈ t8 := by rw [← ht8]; walk_at "in"
  have f2 : (F2, Cell.list ((marksAdd 1).map V.int)) ∈ t8 := by rw [← ht8]; walk_at "in"
  have f3 : (F3, Cell.list ((marksAdd 2).map V.int)) ∈ t8 := by rw [← ht8]; walk_at "in"
  obtain ⟨f, hf, hfc⟩ := pick3 (F := fun k => Cell.list ((marksAdd k).map V.int)) hk f1 f2 f3
  refine TO2.itemL k rfl m4 hf (by simp) ?_
  clear ht8 m4 f1 f2 f3 hf hT hF1 hF2 hF3 hF4
  have hadd : (marksAdd k).length ≤ 2 := by unfold marksAdd; split; decide; split <;> decide
  refine TO2.addL (K8 _ (K7 _ h1)) hfc (by rw [List.length_map, List.length_map]; omega) fun GA hGA => ?_
  rw [← List.map_append]
  have eGA : zs ++ marksAdd k = marksIn zs k := rfl
  rw [eGA]
  have hTm := List.mem_cons_of_mem (GA, Cell.list ((marksIn zs k).map V.int)) mT
  have hGT : GA ≠ T := fun h => hGA _ mT h.symm
  have hGm : (GA, Cell.list ((marksIn zs k).map V.int)) ∈ ((GA, Cell.list ((marksIn zs k).map V.int)) :: t8 : Sto) := List.mem_cons_self
  have K8 : Keeps t7 ((GA, Cell.list ((marksIn zs k).map V.int)) :: t8 : Sto) := fun p hp => List.mem_cons_of_mem _ (K8 p hp)
  generalize ((GA, Cell.list ((marksIn zs k).map V.int)) :: t8 : Sto) = t8 at hTm hGm K8 ⊢
  clear hGA hfc mT
  repeat walk_at "m1"
  have hend : ∀ (l : Loc) (t : Sto), Has l [("sizes", .ref sa), ("told", .ref T), ("due", .ref d)] → Keeps t7 t → (T, Cell.list ((marksOut zs k).map V.int)) ∈ t → TXs g C (fMarks.body.drop 3) (kDef Q) ⟨l, t⟩ := fun l t hs K hTt =>
    marksTail E hn hl hk hs (K _ (K7 _ h1)) (K _ hdc) hTt fun D t' K' hD' hD => q D t' (Keeps.trans K7 (Keeps.trans K K')) (fun p hp => hD' p (K _ (K7 _ hp))) hD
  refine ⟨GA, rfl, hGm, fun j st => Has st.loc [("sizes", .ref sa), ("told", .ref T), ("due", .ref d)] ∧ Keeps t7 st.sto ∧ (T, .list (((marksOut zs k).take j).map V.int)) ∈ st.sto, ⟨by walk_at "has", K8, by simpa using hTm⟩, ?_, ?_⟩
  · rintro j ⟨l, t⟩ hj ⟨Hs, K, hTt⟩ hGt
    refine Tr.less (st' := ⟨set [("sizes", .ref sa), ("told", .ref T), ("due", .ref d)] "size" (.int ((marksOut zs k).getD j 0)), t⟩) (fun p hp => ?_) rfl ?_
    · rcases set_cases hp with h | ⟨h, h2⟩
      · rw [h]; exact mem_set
      · exact mem_set_ne (Hs _ h) h2
    refine TXs.cons (TX.expr (TE.append ?_) notInter)
    walk_at "m1"
    refine kApp.it hTt ?_
    repeat walk_at "m1"
    have htl : ((marksOut zs k).take j).length = j := by rw [List.length_take]; omega
    refine ⟨_, hTt, by rw [List.length_map]; omega, rfl, ?_⟩
    have etake : ((marksOut zs k).take j).map V.int ++ [V.int ((marksOut zs k).getD j 0)] = ((marksOut zs k).take (j + 1)).map V.int := by
      rw [List.take_add_one, List.map_append, List.getD_eq_getElem?_getD, List.getElem?_eq_getElem hj]; rfl
    rw [etake]
    have hTt' : (T, Cell.list (((marksOut zs k).take (j + 1)).map V.int)) ∈ put t T (.list (((marksOut zs k).take (j + 1)).map V.int)) := mem_put hTt
    have K' : Keeps t7 (put t T (.list (((marksOut zs k).take (j + 1)).map V.int))) := Keeps.put K hT'
    have hGt' : (GA, Cell.list ((marksIn zs k).map V.int)) ∈ put t T (.list (((marksOut zs k).take (j + 1)).map V.int)) := mem_put_ne hGt hGT
    generalize put t T (.list (((marksOut zs k).take (j + 1)).map V.int)) = t2 at *
    have htl2 : ((marksOut zs k).take (j + 1)).length = j + 1 := by rw [List.length_take]; omega
    refine TXs.cons (TX.ite (TT.cmp ?_ rfl))
    refine TE.callB (bid := "len") (by walk_at "in") (by walk_at "kg") ?_
    repeat walk_at "m1"
    refine TOL.one (TO1.lenL hTt' (by rw [List.length_map]; omega) ?_)
    rw [List.length_map, htl2]
    walk_at "m1"
    refine TO2.eqI (kB.it ?_)
    by_cases h9 : j + 1 = 9
    · first | refine iteT (by simp; omega) ?_ | rw [if_pos (by simp; omega)]
      rw [List.take_of_length_le (by omega)] at hTt'
      walk_at "m1"
      walk_at "m1"
      refine hend (set [("sizes", .ref sa), ("told", .ref T), ("due", .ref d)] "size" (.int ((marksOut zs k).getD j 0))) t2 (by walk_at "has") K' hTt'
    · first | refine iteF (by simp; omega) ?_ | rw [if_neg (by simp; omega)]
      refine TXs.nil (TXs.nil ?_)
      refine ⟨⟨by walk_at "has", K', hTt'⟩, hGt', ?_⟩
      by_cases hk2 : k < 2
      · exact .inr (by simpa using hk2)
      · have := hlen.2.1 (by omega)
        exact .inl (by omega)
  · rintro j ⟨l, t⟩ hj ⟨Hs, K, hTt⟩
    rw [List.take_of_length_le (by omega)] at hTt
    refine TXs.nil ?_
    exact hend _ _ Hs K hTt
end
end
section -- P73
section
variable {g : G} {C : Fm g} {st : St} {s : Shared} {zs : List Int}
/-- a comprehension over a generator that hands out nothing -/
theorem TE.compGenNone {elt target e : Expr} {ifs : List Expr} {p pos pos' : Pos} {scope : Scope} {act : Value → Env → Sem Unit} {Q : V → St → Prop} (hk : C.env.kindOf "_grouping_intervals" = some .globalImplicit) (fu : Fut zs Option.none [] true)
    (hturn : ∀ (env : Env) (it : Addr) (acc : Value), compTurn (.ListComp elt [⟨target, .Call (.Name "_grouping_intervals" p) [e] [] pos', ifs, 0⟩] scope pos) 0 (.ref it) acc env = turnOf target (.Call (.Name "_grouping_intervals" p) [e] [] pos') ifs (.ref it) (act acc env) (.compLoop (.ListComp elt [⟨target, .Call (.Name "_grouping_intervals" p) [e] [] pos', ifs, 0⟩] scope pos) 0 (.ref it) acc env) env)
    (hfree : ∀ p ∈ scope.names, p.2 = .free → ∃ c, C.env.cells.lookup p.1 = some c)
    (h : TEs g C pos' [e] (fun us st1 => ∃ ga, us = [.ref ga] ∧ (ga, .list (zs.map V.int)) ∈ st1.sto ∧ ∀ D, (∀ p ∈ st1.sto, p.1 ≠ D) → Q (.ref D) ⟨st1.loc, (D, .list []) :: st1.sto⟩) st)
    (hkind : scope.kind = .function) (hcell : ∀ x ∈ scope.names, x.2 ≠ .cell) (hnames : ∀ x ∈ scope.names, x.2 = .local → scope.names.lookup x.1 = some .local)
    (he : starEach [e] C.env = [(false, eval e C.env)] := by rfl) (hs : ∀ x, foldedSetIterable (.Call (.Name "_grouping_intervals" p) [e] [] pos') C.env x = pure x := by intro _; rfl) :
    TE g C (.ListComp elt [⟨target, .Call (.Name "_grouping_intervals" p) [e] [] pos', ifs, 0⟩] scope pos) Q st := fun s gs => by
  rw [eval_ListComp]
  show wpAny g.M C.A (comprehension (.ListComp elt [⟨target, .Call (.Name "_grouping_intervals" p) [e] [] pos', ifs, 0⟩] scope pos) scope C.env _ (newList []) false (eval (.Call (.Name "_grouping_intervals" p) [e] [] pos') C.env) Option.none) _ _ s
  obtain ⟨cl, hclos, hcl1, hcl2⟩ := closure_ok (env := C.env) hfree
  refine wpAny_comprehension_free (g := ⟨target, .Call (.Name "_grouping_intervals" p) [e] [] pos', ifs, 0⟩) (gs := []) rfl hs hclos hkind hnames (gen_call hk gs h fu (.inr rfl) (fun a gi L ga st1 s1 s2 g1 x1 x2 hK hga haN hLN hLC hLs hgis GA => ?_) he)
  refine wpAny_pyIter_gen GA.gen ?_
  refine wpAny_newObj_type (hd := by size_fits) ?_
  obtain ⟨g3, x3⟩ := g1.newList (s' := { s2 with heap := s2.heap.push { cls := .type "list", data := .seq ([] : List Value).toArray } }) (items := ([] : List Value).toArray) (vs := []) VRs.nil rfl rfl rfl
  have hf := g1.toGoodS.fresh
  have hD0 := none_size (h := s2.heap) (a := s2.heap.objs.size) (Nat.le_refl _)
  have GA3 := GA.keep g1 g3 x3 haN hLN hLC (List.mem_cons_of_mem _ hga)
  have hN3 : s2.heap.objs.size ≤ ({ s2 with heap := s2.heap.push { cls := .type "list", data := .seq ([] : List Value).toArray } } : Shared).heap.objs.size := by
    show _ ≤ (Heap.push _ _).objs.size
    rw [Heap.size_push]; exact Nat.le_succ _
  generalize hs3 : ({ s2 with heap := s2.heap.push { cls := .type "list", data := .seq ([] : List Value).toArray } } : Shared) = s3 at *
  refine wpAny_newFunctionEnv hcell (by intro y hy; simp at hy) (fun h₁ hns₁ hsb₁ => ?_) hkind
  have hL0 := none_size (h := s3.heap) (a := s3.heap.objs.size) (Nat.le_refl _)
  have k4 : ∀ b o, s3.heap.get? b = some o → h₁.get? b = some o := fun b o e => hsb₁.extBut b o (Nat.ne_of_lt (Heap.lt_size e)) (Heap.get?_push_of_some _ e)
  obtain ⟨g4, x4⟩ := g3.ext (s' := { s3 with heap := h₁, toks := s3.toks + ([] : List (Str × Value)).length }) k4 rfl rfl
  have GA4 := GA3.keep g3 g4 x4 haN hLN hLC (List.mem_cons_of_mem _ hga)
  have hL2 : g.H.objs.size ≤ s3.heap.objs.size := g3.base.size
  have x13 := Step.trans x1 (Step.trans x2 x3)
  generalize hLL : s3.heap.objs.size = L2 at *
  have hL2C : L2 ≠ C.env.locals := by
    obtain ⟨m, ⟨o', es, ep, eo, _⟩, _⟩ := g3.loc
    intro hh
    exact hL0 o' (hh ▸ eo)
  have hLL2 : L2 ≠ L := by
    obtain ⟨m, ⟨o', es, ep, eo, _⟩, _⟩ := GA3.ns
    intro hh
    exact hL0 o' (hh ▸ eo)
  have y14 : SN g C st1 ⟨st1.loc, (s2.heap.objs.size, .list []) :: st1.sto⟩ s1 { s3 with heap := h₁, toks := s3.toks + ([] : List (Str × Value)).length } := SN.of (Step.trans x2 (Step.trans x3 x4))
  generalize hs4 : ({ s3 with heap := h₁, toks := s3.toks + ([] : List (Str × Value)).length } : Shared) = s4 at *
  have hns4 : s4.heap.Ns L2 (fun x => (([] : List (Str × Value)).lookup x)) := by
    rw [← hs4]; exact hns₁
  have gnext : ∀ {Q' : Option Value → Shared → Prop} {E' : Value → Shared → Prop}, (∀ s5, GoodF g C ⟨st1.loc, (s2.heap.objs.size, .list []) :: st1.sto⟩ s5 → Moves L gi s4 s5 → Q' Option.none s5) → wpAny g.M C.A (pyNext (.ref a)) Q' E' s4 := fun hq =>
    gen_next g4 GA4 hLN hLC (List.mem_cons_of_mem _ hga) (.inr rfl) (fun h => by simp at h) fun _ s5 g5 m5 => hq s5 g5 m5
  have loop : codeAny g.M C.A (.compLoop (.ListComp elt [⟨target, .Call (.Name "_grouping_intervals" p) [e] [] pos', ifs, 0⟩] scope pos) 0 (.ref a) (.ref s2.heap.objs.size) (compEnvC scope cl L2 C.env)) (compPost g.M C.A noE Option.none (fun v s' => Po VR g C st s Q v s') (.ref s2.heap.objs.size) L2) s4 := by
    refine codeAny_loop rfl (fun n s' => s' = s4) ?_ 0 rfl
    rintro n s' rfl
    show wpAny _ C.A ((compTurn _ 0 (.ref a) _ _).onRaise (fun x => do noteFrame x _; theTreesLotGoes x)) _ _ _
    refine wpAny_noted ?_
    rw [hturn]
    refine wpAny_bind (wpAny_standAt (wpAny_bind ?_))
    refine gnext ?_
    intro s5 g5 m5
    refine wpAny_pure ?_
    obtain ⟨⟨it, hlt, hid, k⟩, mg, ms⟩ := id m5
    have nL : s5.heap.Ns L2 (fun x => (([] : List (Str × Value)).lookup x)) := by
      obtain ⟨o, es, ep, e, hd, r⟩ := hns4
      exact ⟨o, es, ep, k L2 o hLL2 (fun h => by subst h; obtain ⟨_, fs, hd'⟩ := hid o e; rw [hd] at hd'; cases hd') e, hd, r⟩
    refine ⟨_, nL, fun h' hs' => ?_⟩
    have gp := g5.pokeDict (s' := { s5 with heap := h' }) nL rfl hL2 hL2C hs' rfl rfl
    refine ⟨.ref s2.heap.objs.size, ⟨st1.loc, (s2.heap.objs.size, .list []) :: st1.sto⟩, VR.ref _, gp, ?_, hK _ hf⟩
    have z5 := (y14.moves hLs hgis m5)
    have z6 := SN.drop z5
    have x3' : Step (fun b => XF g C ((s2.heap.objs.size, Cell.list []) :: st1.sto) b ∨ b = L2) (fun b => XF g C ((s2.heap.objs.size, Cell.list []) :: st1.sto) b ∨ b = L2) s5 { s5 with heap := h' } := Step.but (.inr rfl) (fun b o n e => (hs'.2 b n).trans e) rfl
    have x5 : Step (XF g C st.sto) (fun b => XF g C ((s2.heap.objs.size, Cell.list []) :: st1.sto) b ∨ b = L2) s s5 := by
      refine Step.weaken (Y := XF g C st.sto) (Y' := fun b => XF g C ((s2.heap.objs.size, Cell.list []) :: st1.sto) b ∨ b = L2) (Step.trans x1 z6) (fun _ h => h) fun d hd => ?_
      rcases hd with hd | hd
      · exact (Step.trans x1 z6).grow d hd
      · subst hd
        rcases Classical.em (XF g C st.sto d) with h | h
        · exact .inl h
        · exact .inr fun o eo => by
            obtain ⟨o', e', _⟩ := x13.keep d o eo h
            exact hL0 o' e'
    exact Step.weaken (Step.trans x5 x3') (fun _ h => h) fun d hd => (Step.trans x5 x3').grow d (.inl hd)
  refine codeAny_of_tree ?_
  show wpAny _ _ ((compStart _ 0 (.ref a) _ _).onRaise (fun x => do noteFrame x _; standAt theWindowsPlace)) _ _ s4
  refine wpAny_notedAt ?_
  unfold compStart
  show wpAny _ _ (ask >>= _) _ _ s4
  refine wpAny_bind (wpAny_askSetting (wpAny_ite ?_))
  split
  · first
      | exact wpAny_bind (wpAny_pure (wpAny_pure (And.intro rfl loop)))
      | exact wpAny_pure (And.intro rfl loop)
  · refine wpAny_bind (wpAny_rule ?_)
    show wpAny _ _ (standAt _ >>= _) _ _ s4
    exact wpAny_bind (wpAny_standAt (wpAny_bind (wpAny_pyIter_gen GA4.gen (wpAny_pure (And.intro rfl loop)))))
end
end
section -- P74
section
variable {M : Model} {A : Around} {E : Value → Shared → Prop} {s : Shared}
theorem wpAny_noteFirst {base : Heap} {env : Env} {outer : List Env} {L e : Addr} {oe : Obj} {vs : Array Value} {a0 : Value} {Q : Unit → Shared → Prop}
    (hfr : A.frames = some (env :: outer)) (hl : s.heap.FunFrames base (env :: outer)) (hf : env.frame = some L)
    (he : s.heap.get? e = some oe) (hkb : base.StaysIn s.heap) (hen : base.get? e = none) (hd : oe.data = .fields vs) (h1 : vs[1]? = some .none) (h0 : vs[0]? = some a0)
    (h : ∀ h', Heap.HeldW base (env :: outer) e oe.cls a0 L h' → s.heap.UpToSlots h' → Q () { s with heap := h' }) : wpAny M A (noteFrame (.ref e) env) Q E s := by
  unfold noteFrame
  simp only [hf]
  refine wpAny_bind (wpAny_field he hd h1 ?_)
  first | refine iteF (by decide) ?_ | rw [if_neg (by decide)]
  exact wpAny_entryW hfr hl hf he hkb hen hd (Array.getElem?_eq_some_iff.mp h1).1 h0 fun h' ⟨x1, x2, x3, x4⟩ => h h' ⟨x1, hen, x2, x3⟩ x4
theorem wpAny_setFlight_own {base : Heap} {l : List Env} {e L : Addr} {cls a0 : Value} {Q : Unit → Shared → Prop} (hh : Heap.HeldW base l e cls a0 L s.heap)
    (h : ∀ h', Heap.HeldW base l e cls a0 L h' → s.heap.UpToSlots h' → Q () { s with heap := h' }) : wpAny M A (setFlight (.ref e) (some L)) Q E s := by
  obtain ⟨hkb, hen, hl, oe, vs, T, oT, ts, he, hcls, hd, h1, hnT, hTe, hT, hdT, h3⟩ := hh
  have hsz3 : 3 < ts.size := (Array.getElem?_eq_some_iff.mp h3).1
  have other : ∀ b, b ≠ T → (s.heap.update T (Obj.mapFields (·.setIfInBounds 3 ((some L : Option Addr).elim Value.none fun f => rawInt f)))).get? b = s.heap.get? b :=
    fun b hb => Heap.get?_update_other _ _ (Ne.symm hb)
  have noRecord : ∀ b o, s.heap.get? b = some o → (∀ vs, o.data ≠ .fields vs) → b ≠ T := fun b o hb hnf q => by
    rw [q, hT] at hb; injection hb with hb; subst hb; exact hnf ts hdT
  unfold setFlight
  refine wpAny_bind (wpAny_field he hd h1 ?_)
  first | refine iteT (show (Value.ref T != Value.none) = true from by simp) ?_ | rw [if_pos (show (Value.ref T != Value.none) = true from by simp)]
  refine wpAny_setField hT hdT hsz3 (h _ ⟨fun b o hbo => (other b fun q => by rw [q, hnT] at hbo; cases hbo).trans (hkb b o hbo), hen,
    hl.of_keeps fun b o hb hnf => ⟨o, (other b (noRecord b o hb hnf)).trans hb, rfl⟩, ?_⟩ fun b o hb hnf => ⟨o.slots, (other b (noRecord b o hb hnf)).trans hb⟩)
  exact ⟨oe, vs, T, _, _, (other e (Ne.symm hTe)).trans he, hcls, hd, h1, hnT, hTe, Heap.get?_update_self _ hT (Obj.isFreed_of_fields (Obj.data_mapFields hdT _)), Obj.data_mapFields hdT _, by simp [hsz3]⟩
/-- back from a frame's own piece -/
theorem wpAny_ownFail {base : Heap} {l : List Env} {env : Env} {e L : Addr} {cls a0 : Value} {Q : Unit → Shared → Prop} (hf : env.frame = some L) (hh : Heap.HeldW base l e cls a0 L s.heap)
    (h : ∀ h', Heap.HeldW base l e cls a0 L h' → s.heap.UpToSlots h' → Q () { s with heap := h' }) : wpAny M A (ownFail env (.ref e)) Q E s := by
  obtain ⟨hkb, hen, hl, oe, vs, T, oT, ts, he, hcls, hd, h1, r⟩ := id hh
  unfold ownFail
  refine wpAny_bind (wpAny_field he hd h1 ?_)
  rw [if_neg (show ¬ ((Value.ref T == Value.none) = true) from by simp), hf]
  exact wpAny_setFlight_own hh h
end
/-- the heap below some frames -/
structure BaseOf (h base : Heap) (S : List Addr) : Prop where
  out : ∀ b ∈ S, base.get? b = none
  sub : ∀ b o, base.get? b = some o → h.get? b = some o
  all : ∀ b o, b ∉ S → h.get? b = some o → base.get? b = some o
theorem baseOf (h : Heap) : ∀ S : List Addr, ∃ base, BaseOf h base S
  | [] => ⟨h, nofun, fun _ _ e => e, fun _ _ _ e => e⟩
  | a :: S => by
    obtain ⟨base, x⟩ := baseOf h S
    refine ⟨base.hide a, fun b hb => ?_, fun b o e => x.sub b o (Heap.of_hide e), fun b o hb e => ?_⟩
    · by_cases h : b = a
      · rw [h]; exact Heap.hide_self _ _
      · rw [Heap.hide_ne _ h]
        rcases List.mem_cons.mp hb with hb | hb
        · exact absurd hb h
        · exact x.out b hb
    · rw [Heap.hide_ne _ (fun h : b = a => hb (by rw [h]; exact List.mem_cons_self))]
      exact x.all b o (fun h => hb (List.mem_cons_of_mem _ h)) e
/-- what lay in a state stands, but for the frames -/
structure Flew (L2 L1 : Addr) (l : List Env) (e : Addr) (h h' : Heap) : Prop where
  fly : ∃ base a0, Heap.FlyingW base l e (.type "ValueError") a0 h' ∧ ∀ b o, b ≠ L2 → b ≠ L1 → h.get? b = some o → base.get? b = some o
  sl : h.UpToSlots h'
structure Held (L2 L1 : Addr) (l : List Env) (e L : Addr) (h h' : Heap) : Prop where
  held : ∃ base a0, Heap.HeldW base l e (.type "ValueError") a0 L h' ∧ ∀ b o, b ≠ L2 → b ≠ L1 → h.get? b = some o → base.get? b = some o
  sl : h.UpToSlots h'
/-- the generator ends by raising: R -/
noncomputable def gRE (L L2 L1 : Addr) (l : List Env) : GenEnd := fun _ s₀ r s₁ => ∃ e base a0, r = .error (.ref e) ∧ s₁.gens = s₀.gens ∧ s₁.os = s₀.os ∧ Heap.FlyingW base l e (.type "ValueError") a0 s₁.heap ∧
  (∀ b o, b ≠ L → b ≠ L2 → b ≠ L1 → s₀.heap.get? b = some o → base.get? b = some o) ∧ (∀ b o, b ≠ L → s₀.heap.get? b = some o → (∀ vs, o.data ≠ .fields vs) → ∃ sl, s₁.heap.get? b = some { o with slots := sl })

section
variable {g : G} {A : Around} {env env2 env1 : Env} {L L2 L1 ga : Addr} {zs : List Int} {n : Nat} {Y : Protocol}
theorem seg_gi_raise (E : GEnv env L) (hbi : env.builtins = builtinsNs) (hh : A.handled = none) (hfr : A.frames = some [env2, env1]) (f2 : env2.frame = some L2) (f1 : env1.frame = some L1) (k2 : env2.scope.kind ≠ .module) (k1 : env1.scope.kind ≠ .module)
    {s : Shared} (gf : GF g L ga (0 :: zs) s) (hlg : L ≠ ga) (hlm : L ≠ mainGlobals) (hlb : L ≠ builtinsNs) (l2 : L2 ≠ L) (l1 : L1 ≠ L) (n2 : ∃ m, s.heap.Ns L2 m) (n1 : ∃ m, s.heap.Ns L1 m) (bl : s.heap.Ns builtinsNs g.mb) :
    Seg g.M A (gRE L L2 L1 [env2, env1]) Y n s (.func fGI.body env) (g.M.den (.func fGI.body env)) [] s := by
  obtain ⟨m, hn, hm0, hgr⟩ := gf.ns
  refine seg_func ?_
  refine seg_execs_cons ?_
  refine seg_wrap (wpAny_Assign_Name (Constant_none (wpAny_storeName_local ((E.of _).trans rfl) (by rw [E.locals]; exact hn) (fun h1 hn1 hs1 => ?_) (by rw [E.kind]; rfl))) rfl)
  rw [E.locals] at hn1 hs1
  have k1' : ∀ b o, b ≠ L → s.heap.get? b = some o → h1.get? b = some o := fun b o hb e => (hs1.2 b hb).trans e
  refine seg_execs_cons ?_
  obtain ⟨items, hl, hi⟩ := gf.ls
  have hl1 : h1.IsList ga items := let ⟨o, e, r⟩ := hl; ⟨o, k1' _ _ (Ne.symm hlg) e, r⟩
  have hgr1 : (fun y => if y = ("last_interval" : Str) then some Value.none else m y) "grouping" = some (.ref ga) := by
    show (if ("grouping" : Str) = "last_interval" then some Value.none else m "grouping") = _
    rw [if_neg (by decide)]; exact hgr
  have hx0 : (fun y => if y = ("last_interval" : Str) then some Value.none else m y) "_initial_size" = none := by
    show (if ("_initial_size" : Str) = "last_interval" then some Value.none else m "_initial_size") = none
    rw [if_neg (by decide)]; exact hm0
  refine seg_For (ev_loc E rfl hn1 hgr1 (wpAny_pyIter_list hl1 fun p => ?_))
  have hsz : h1.objs.size = s.heap.objs.size := hs1.1
  have hgl : ga < h1.objs.size := let ⟨o, e, _⟩ := hl1; Heap.lt_size e
  have hml : mainGlobals < h1.objs.size := let ⟨o, es, ep, e, _⟩ := gf.gl; Heap.lt_size (k1' _ _ (Ne.symm hlm) e)
  have hL : L < h1.objs.size := hn1.lt
  have kp : ∀ b o, h1.get? b = some o → (h1.push { cls := .type "list_iterator", data := .fields #[.ref ga, .int 0 0] }).get? b = some o := fun b o e => Heap.get?_push_of_some _ e
  have fresh : ∀ o, s.heap.get? h1.objs.size ≠ some o := fun o e => absurd (Heap.lt_size e) (by rw [hsz]; exact Nat.lt_irrefl _)
  refine seg_gi_turn (it := h1.objs.size) (i := 0) (last := none) (z := 0) E ⟨Nat.ne_of_lt hL, hlg, Nat.ne_of_gt hgl, hlm, Nat.ne_of_gt hml⟩ (zs := 0 :: zs) ⟨⟨_, hn1.keeps kp, hx0, .none, by simp, rfl⟩, ⟨_, Heap.get?_push_size _ rfl, rfl, rfl⟩, ⟨items, let ⟨o, e, r⟩ := hl1; ⟨o, kp _ _ e, r⟩, hi⟩, ?_⟩ rfl fun s3 m3 t hn3 hm03 hv3 gs3 af3 hl3 => ?_
  · obtain ⟨o, es, ep, e, r⟩ := gf.gl
    exact ⟨o, es, ep, kp _ _ (k1' _ _ (Ne.symm hlm) e), r⟩
  obtain ⟨x, hx, rfl⟩ := hl3
  -- from the start to here: all but L
  have keep3 : ∀ b o, b ≠ L → s.heap.get? b = some o → s3.heap.get? b = some o := fun b o hb e => af3.1 b o hb (fun h => fresh o (h ▸ e)) (kp _ _ (k1' _ _ hb e))
  refine seg_execs_cons (seg_If (gi_is E hn3 hv3 gs3.gl ?_))
  first | refine iteF (by decide) ?_ | rw [if_neg (by decide)]
  refine seg_execs_nil ?_
  refine seg_execs_cons (seg_If (gi_zero E hn3 hv3 ?_))
  first | refine iteT (by decide) ?_ | rw [if_pos (by decide)]
  refine seg_execs_cons (seg_If (gi_last E hn3 hx ?_))
  first | refine iteT (show (Value.none == Value.none) = true from by decide) ?_ | rw [if_pos (show (Value.none == Value.none) = true from by decide)]
  refine seg_execs_cons ?_
  refine seg_wrap ?_
  have hfr3 : ∀ (c : Code) (c₁ : Code) (K2 : Flow → Sem Fin) (H2 : Value → Sem Fin) (p : Pos), c.envs = [] → c₁.envs = [env] → (A.over c [backFrame env K2 H2 id id c₁ p]).frames = some [env, env2, env1] := fun c c₁ K2 H2 p hc hc1 => by
    show pushEnvs c.envs (pushEnvs (envsOf [(c₁, p)]) A.frames) = _
    rw [hc, hfr, envsOf_cons, hc1]; rfl
  obtain ⟨base, hB⟩ := baseOf s3.heap [L, L2, L1]
  obtain ⟨m2, n2⟩ := n2
  obtain ⟨m1, n1⟩ := n1
  have ns3 : ∀ a m, a ≠ L → s.heap.Ns a m → s3.heap.Ns a m := fun a m ha ⟨o, es, ep, e, r⟩ => ⟨o, es, ep, keep3 _ _ ha e, r⟩
  have hFr : s3.heap.FunFrames base [env, env2, env1] := Heap.FunFrames.cons (by rw [E.kind]; decide) E.frame hn3 (hB.out _ (by simp)) (Heap.FunFrames.cons k2 f2 (ns3 _ _ l2 n2) (hB.out _ (by simp)) (Heap.FunFrames.cons k1 f1 (ns3 _ _ l1 n1) (hB.out _ (by simp)) trivial))
  have bl3 : s3.heap.Ns builtinsNs g.mb := ns3 _ _ (Ne.symm hlb) bl
  refine wpAny_Raise_call PySem.F.excCall_ValueError PySem.F.excRaise_ValueError hh rfl ?_
  refine Calls.Name_function_global E.kind ((E.of _).trans rfl) (Calls.loadGlobal_builtin (mg := g.mg) (mb := g.mb) (by rw [E.globals]; exact gs3.gl) (g.top.bn ("ValueError", .type "ValueError") (by walk_at "in")).1
    (by rw [hbi]; exact bl3) (g.top.bn ("ValueError", .type "ValueError") (by walk_at "in")).2 ⟨rfl, ?_⟩) (by decide)
  refine Calls.evalArgs_plain (args_cons (wpAny_Constant_str ?_) rfl)
  refine args_nil ⟨rfl, (by show 1 ≤ sizeLine; decide), fun h' e hm => ?_⟩
  obtain ⟨te, he, hte, _⟩ := hm.there
  have hen : base.get? e = none := by
    cases hq : base.get? e with
    | none => rfl
    | some o => have h0 : s3.heap.get? e = none := hm.new; have := hB.sub _ _ hq; rw [h0] at this; cases this
  have hmk : ∀ b o, s3.heap.get? b = some o → h'.get? b = some o := hm.keeps
  have up0 : s3.heap.UpToSlots h' := Heap.UpToSlots.of_keeps hmk
  refine seg_bind (m := (do noteFrame (.ref e) env; theTreesLotGoes (.ref e) : Sem Unit)) ?_
  refine wpAny_bind (wpAny_noteFirst (base := base) (outer := [env2, env1]) (L := L) (oe := _) (vs := #[.ref te, .none, .none, .none, .bool false, .none]) (a0 := .ref te) (hfr3 _ _ _ _ _ rfl rfl) (hFr.of_keeps fun b o hb _ => ⟨o, hmk b o hb, rfl⟩) E.frame he (fun b o hb => hmk b o (hB.sub b o hb)) hen rfl rfl rfl fun h2 hh2 u2 => ?_)
  refine wpAny_theTreesLotGoes ?_
  refine seg_leaf (.error (.ref e)) ?_
  refine seg_wrap (wpAny_onRaise (wpAny_throw ?_))
  refine wpAny_ownFail (L := L) E.frame hh2 fun h3 hh3 u3 => ?_
  refine seg_wrap ?_
  unfold leaving
  refine wpAny_bind (wpAny_noteFrame_againW E.frame hh3.2.2.2 ?_)
  refine wpAny_landsW hh3 fun h4 ⟨c1, c2, ⟨_, _, c3⟩, c4⟩ u4 => ?_
  refine seg_end (.error (.ref e)) ⟨e, base, _, rfl, ?_, ?_, ⟨c1, c2, c3, c4⟩, fun b o b1 b2 b3 eb => hB.all b o (by simp [b1, b2, b3]) (keep3 b o b1 eb), fun b o b1 eb hnf => ?_⟩
  · exact af3.2.1
  · exact af3.2.2
  · exact (((up0.trans u2).trans u3).trans u4) b o (keep3 b o b1 eb) hnf
end
end
section -- P75
section
variable {g : G} {C : Fm g} {st : St} {s : Shared} {ga : Addr} {zs : List Int}
/-- a generator made, the argument a name -/
theorem gen_callN {x : Str} {xp p pos : Pos} {Er : Value → Shared → Prop} (hk : C.env.kindOf "_grouping_intervals" = some .globalImplicit) (gs : GoodF g C st s) (hx : (x, .ref ga) ∈ st.loc) (hxk : C.env.kindOf x = some .local) (hga : (ga, .list (zs.map V.int)) ∈ st.sto) {P : Value → Shared → Prop}
    (q : ∀ a L env h' tk, (∀ b o, s.heap.get? b = some o → h'.get? b = some o) → L = s.heap.objs.size → GEnv env L → env.builtins = builtinsNs → h'.IsGen a s.gens.size →
      GF g L ga zs { s with heap := h', toks := tk, gens := s.gens.push (.fresh (.func fGI.body env)) } → P (.ref a) { s with heap := h', toks := tk, gens := s.gens.push (.fresh (.func fGI.body env)) })
    (he : starEach [Expr.Name x xp] C.env = [(false, eval (.Name x xp) C.env)] := by rfl) (hd : (x == ("__debug__" : Str)) = false := by decide) : wpAny g.M C.A (eval (.Call (.Name "_grouping_intervals" p) [.Name x xp] [] pos) C.env) P Er s := by
  have hdp := C.depth
  refine wpAny_Call_Name_kw (Calls.Name_function_global C.kind hk (Calls.loadGlobal_global (mg := g.mg) (by rw [C.globals]; exact Ns.base g.top.gl gs.base (by decide)) (g.top.gn ("_grouping_intervals", .ref 162) (by walk_at "in")) ?_) (by decide))
  obtain ⟨o, fd, ho, hdat, e1, e2, e3, e4, e5, e6, e7, e8, e9, e10, hrec⟩ := g.top.fn fGI (by walk_at "in")
  refine callWith_function_kw (o := o) (fd := fd) ?_
  have kp : ∀ b o, g.H.get? b = some o → b ∉ tbls → s.heap.get? b = some o := gs.base.keep
  obtain ⟨ml, nl, hml0, hloc⟩ := gs.loc
  obtain ⟨v, hv, rv⟩ := hloc _ hx
  cases rv
  have hv' : ml x = some (.ref ga) := by
    rcases hv with ⟨_, h⟩ | ⟨h | h, _⟩
    · exact h
    · rw [hxk] at h; cases h
    · rw [hxk] at h; cases h
  have key : ∀ (Q' : List Value → Shared → Prop), Q' [.ref ga] s → wpAny g.M C.A (spliced (backTo pos (starEach [Expr.Name x xp] C.env))) Q' Er s := fun Q' hq => args_cons (wpAny_Name (wpAny_loadName_local C.kind hxk nl hv' (args_nil hq)) hd) he
  rw [he] at key ⊢
  refine Calls.evalArgs_plain (key _ ?_)
  refine ⟨⟨kp _ _ ho (by decide), hdat⟩, ?_⟩
  refine wpAny_call (codeAny_call_generator (body := fGI.body) (by show C.A.depth < 1000; omega) (kp _ _ ho (by decide)) hdat (e4 ▸ rfl) (e4 ▸ rfl) e3 ?_ ?_)
  · obtain ⟨c, oc, vs, t, hc, hoc, r⟩ := hrec
    cases hc
    rw [e9, e1]
    exact ⟨fGI.c, oc, vs, t, rfl, kp _ _ hoc (by decide), r⟩
  have hb : bindArgs fd ⟨[.ref ga], []⟩ = pure ([("grouping", Value.ref ga)] : List (Str × Value)) := by
    cases fd
    simp only at e2 e7 e8
    subst e2 e7 e8
    rfl
  refine wpAny_of_eq hb ?_
  refine wpAny_newFunctionEnv (by rw [e4]; decide) (fun y hy => by rw [List.mem_singleton] at hy; subst hy; rw [e4]; rfl) (fun h1 hn1 hs1 => ?_) (by rw [e4]; rfl)
  have k1 : ∀ b o, s.heap.get? b = some o → h1.get? b = some o := fun b o e => hs1.extBut b o (Nat.ne_of_lt (Heap.lt_size e)) (Heap.get?_push_of_some _ e)
  refine ⟨?_, ?_⟩
  · obtain ⟨mc, ⟨oc, es, ep, hoc, r⟩, q⟩ := g.top.nolim
    exact ⟨mc, ⟨oc, es, ep, k1 _ _ (kp _ _ hoc (by decide)), r⟩, q⟩
  have E : GEnv (newEnv fd.scope s.heap.objs.size fd.globals fd.closure (fd.qualname ++ ".<locals>.") (some fGI.a) fd.code none fd.builtins) s.heap.objs.size := ⟨e4, rfl, e5, rfl⟩
  have k2 : ∀ b o, s.heap.get? b = some o → (h1.push { cls := .type "generator", data := .fields #[.int s.gens.size 0, .str fd.name (s.toks + 1), .str fd.qualname (s.toks + 1 + 1)] }).get? b = some o := fun b o e => Heap.get?_push_of_some _ (k1 b o e)
  obtain ⟨items, hl, rv⟩ := IsLL gs.toGoodS hga
  refine q h1.objs.size s.heap.objs.size _ _ _ k2 rfl E e10 ?_ ?_
  · exact ⟨_, _, _, Heap.get?_push_size _ rfl, rfl, rfl, rfl⟩
  refine ⟨⟨_, hn1.push _, by rfl, by rfl⟩, ⟨items, let ⟨o, e, r⟩ := hl; ⟨o, k2 _ _ e, r⟩, VRs.ints rv⟩, ?_⟩
  obtain ⟨o, es, ep, e, r⟩ := Ns.base g.top.gl gs.base (show mainGlobals ∉ tbls by decide)
  exact ⟨o, es, ep, k2 _ _ e, r⟩
theorem isSubtype_ve_stop : isSubtype (.type "ValueError") (.type "StopIteration") = pure false := by rw [isSubtype_type]; kernel_rfl
/-- the next of a generator that raises -/
theorem next_raise {A : Around} {s : Shared} {a : Addr} {gi : Nat} {c : Code} {R : GenEnd} {Q : Option Value → Shared → Prop} {E : Value → Shared → Prop} (hh : A.handled = none) (hl : s.heap.NoLimit) (hroom : A.depth < recursionLimit)
    (hg : s.heap.IsGen a gi) (hgs : s.gens[gi]? = some (.fresh c)) (hgo : Seg g.M A.in1 R (fun _ _ _ _ _ => False) 0 (s.setGen gi .running) c (g.M.den c) [] (s.setGen gi .running))
    (hR : ∀ x s₁, R 0 (s.setGen gi .running) x s₁ → ∃ e, x = .error (.ref e) ∧ s₁.heap.IsGen a gi ∧ s₁.TypeIs (.ref e) "ValueError" ∧ E (.ref e) (s₁.setGen gi .finished)) :
    wpAny g.M A (pyNext (.ref a)) Q E s := by
  unfold pyNext
  refine wpAny_bind (wpAny_attempt (wpAny_callSpecial?_slot (name := Str.ofString "__next__") hg.typeIs slot_gen_next (wpAny_call_entry slot_gen_next hg.typeIs entry_gen_next ?_ (args_gen_next _))))
  show wpAny _ A.in1 (Builtin.Generator.genWake (.ref a) (.send .none)) _ _ s
  unfold Builtin.Generator.genWake
  refine wpAny_bind (wpAny_holding (wpAny_genNumber hg (wpAny_bind (wpAny_genState hgs ?_))))
  refine wpAny_bind (wpAny_roomToWake hl hroom ?_)
  show wpAny _ A.in1 (.resume gi (.send .none) [] _) _ _ s
  refine wpAny_resumeQ (n := 0) hgs ⟨rfl, hgo⟩ (fun x s₁ hx => ?_) (fun v s₁ gs' hb hv => hv.elim)
  obtain ⟨e, rfl, hg1, ht, hE⟩ := hR x s₁ hx
  show wpAny _ A.in1 (Builtin.Generator.genLeft (.ref a) (.ref e)) _ _ _
  unfold Builtin.Generator.genLeft
  obtain ⟨o, nm, qn, ho, hc, hd, hsl⟩ := hg1
  have hm : ∀ {Q' : Bool → Shared → Prop} {E' : Value → Shared → Prop}, Q' false (s₁.setGen gi .finished) → wpAny g.M A.in1 (Builtin.Generator.madeByALambda (.ref a)) Q' E' (s₁.setGen gi .finished) := fun hq => by
    unfold Builtin.Generator.madeByALambda
    refine wpAny_bind (wpAny_load (a := a) (o := o) ho ?_)
    rw [hd]
    refine wpAny_pure ?_
    simpa using hq
  refine wpAny_bind (hm ?_)
  refine wpAny_bind (wpAny_isInstance (T := "ValueError") (b := false) ht isSubtype_ve_stop ?_)
  first | refine iteF (by decide) ?_ | rw [if_neg (by decide)]
  show wpAny _ A.in1 (Builtin.Generator.genEscaped (.ref e)) _ _ _
  unfold Builtin.Generator.genEscaped
  refine wpAny_bind (wpAny_isInstance (T := "ValueError") (b := false) ht isSubtype_ve_stop ?_)
  first | refine iteT (by decide) ?_ | rw [if_pos (by decide)]
  refine wpAny_throw ?_
  refine wpAny_bind (wpAny_isInstance (T := "ValueError") (b := false) ht isSubtype_ve_stop ?_)
  first | refine iteF (by decide) ?_ | rw [if_neg (by decide)]
  exact wpAny_throw hE
end
end
section -- P76
section
variable {g : G} {C : Fm g} {st : St} {s s' : Shared}
/-- all that lay there stands; the frame's own object has other notes -/
structure Slid (L1 : Addr) (s s' : Shared) : Prop where
  keep : ∀ b o, b ≠ L1 → s.heap.get? b = some o → s'.heap.get? b = some o
  loc : ∀ o, s.heap.get? L1 = some o → (∀ vs, o.data ≠ .fields vs) → ∃ sl, s'.heap.get? L1 = some { o with slots := sl }
  bare : AllBare s'.gens
  gens : ∀ i, i < s.gens.size → s'.gens[i]? = s.gens[i]?
  gsize : s.gens.size ≤ s'.gens.size
  os : s'.os = s.os
theorem GoodF.slid (gs : GoodF g C st s) (x : Slid C.env.locals s s') : GoodF g C st s' ∧ SF g C st st s s' := by
  obtain ⟨m, hn, hm0, hl⟩ := gs.loc
  obtain ⟨oL, esL, epL, eL, hdL, rL⟩ := id hn
  obtain ⟨sl, eL'⟩ := x.loc oL eL (fun vs h => by rw [hdL] at h; cases h)
  have nf : ∀ b o, s.heap.get? b = some o → (∀ es ep, o.data ≠ .dict es ep) → s'.heap.get? b = some o := fun b o e h =>
    x.keep b o (fun hb => by subst hb; rw [eL] at e; cases e; exact h _ _ hdL) e
  have old : ∀ b o o', g.H.get? b = some o → s.heap.get? b = some o' → s'.heap.get? b = some o' := fun b o o' e e' => x.keep b o' (Nat.ne_of_lt (Nat.lt_of_lt_of_le (Heap.lt_size e) C.new)) e'
  have oldA : ∀ b, b < g.H.objs.size → ∀ o', s.heap.get? b = some o' → s'.heap.get? b = some o' := fun b hb o' e' => x.keep b o' (Nat.ne_of_lt (Nat.lt_of_lt_of_le hb C.new)) e'
  have kt : TupK s.heap s'.heap := fun b items n e => nf b _ e (by simp)
  have kn : ∀ a m, s.heap.Ns a m → s'.heap.Ns a m := fun a m n => by
    obtain ⟨o, es, ep, e, hd, r⟩ := n
    by_cases ha : a = C.env.locals
    · subst ha
      rw [eL] at e; cases e
      exact ⟨_, es, ep, eL', hd, r⟩
    · exact ⟨o, es, ep, x.keep a o ha e, hd, r⟩
  have kc : ∀ a v, s.heap.IsCell a v → s'.heap.IsCell a v := fun a v n => by
    obtain ⟨o, e, hd⟩ := n
    exact ⟨o, nf a o e (by rw [hd]; simp), hd⟩
  refine ⟨⟨⟨⟨fun d o e n => old d o o e (gs.base.keep d o e n), gs.base.last, OldK.on gs.base.old old, fun cp h => ?_⟩, fun p hp => ?_, gs.new, gs.nodup, x.os.trans gs.os, x.bare⟩, ?_, fun b hb => let ⟨v, h⟩ := gs.cellsAre b hb; ⟨v, kc _ _ h⟩⟩, ?_⟩
  · obtain ⟨ps, i, t⟩ := gs.base.tabs cp h
    obtain ⟨h1, h2⟩ := g.top.tabs cp h
    exact ⟨ps, IsCode.two i (oldA _ h1) (oldA _ h2), TableAt.two t (oldA _ h1) (oldA _ h2)⟩
  · have c := gs.cells p hp
    exact c.keep kt (fun o e => nf _ o e (cell_ne_dict c e).1) fun d y n _ => kn _ _ n
  · refine ⟨m, kn _ _ hn, hm0, fun p hp => ?_⟩
    obtain ⟨v, b, r⟩ := hl p hp
    refine ⟨v, ?_, r.mono kt⟩
    rcases b with b | ⟨b, c, h1, h2⟩
    · exact .inl b
    · exact .inr ⟨b, c, h1, kc _ _ h2⟩
  · exact ⟨fun b o e n => ⟨o, x.keep b o (fun h => n (.inr (.inl h))) e, .refl o⟩, fun b h => .inl h, x.gens, x.gsize⟩
end

section
variable {g : G}
/-- _law_refused upon a row that begins with a nought -/
theorem refused_run {A : Around} {env1 : Env} {L1 ra : Addr} {m1 : Str → Option Value} {sto : Sto} {s : Shared} {zs : List Int} (hd : A.depth + 8 < 900) (hu : A.units + 80 < 9000) (hh : A.handled = none) (gs : GoodS g sto s) (hfr : A.frames = some [env1])
    (f1 : env1.frame = some L1) (k1 : env1.scope.kind ≠ .module) (n1 : s.heap.Ns L1 m1) (hN1 : g.H.objs.size ≤ L1) (hra : (ra, .list ((0 :: zs).map V.int)) ∈ sto) :
    codeAny g.M A (.call (.ref fRefused.a) ⟨[.ref ra], []⟩) (fun r s' => r = .ok (.ret (.bool true)) ∧ Slid L1 s s') s := by
  obtain ⟨o, fd, ho, hdat, e1, e2, e3, e4, e5, e6, e7, e8, e9, e10, hrec⟩ := g.top.fn fRefused (by walk_at "in")
  have kp : ∀ b o, g.H.get? b = some o → b ∉ tbls → s.heap.get? b = some o := gs.base.keep
  have rv : VRs s.heap [V.ref ra] [Value.ref ra] := .cons (VR.ref _) .nil
  have hkind : ∀ x ∈ ([("ruler" : Str)] : List Str), fRefused.sc.names.lookup x = some .local ∨ (fRefused.sc.names.lookup x = some .cell ∧ ((cellsFrom 0 fRefused.sc.names []).lookup x).isSome = true) := by decide
  have hcn : ((cellsFrom 0 fRefused.sc.names []).map (·.1)).Nodup := by decide
  have hin : ("_initial_size" : Str) ∉ ([("ruler" : Str)] : List Str) := by decide
  have hnd : ([("ruler" : Str)] : List Str).Nodup := by decide
  have hk : fRefused.sc.kind = .function := rfl
  have hcl : fRefused.cl = [] := rfl
  have hbind : bindArgs fd ⟨[Value.ref ra], []⟩ = pure (([("ruler" : Str)] : List Str).zip [Value.ref ra]) := by
    cases fd
    simp only at e2 e7 e8
    subst e2 e7 e8
    rfl
  refine codeAny_call_cells (by show A.depth < 1000; omega) (kp _ _ ho (by decide)) hdat ?_ ?_ e3 hbind (e6.trans hcl) ?_ (fun s₁ x => ?_) (e4 ▸ rfl) (e4 ▸ rfl) (e4 ▸ rfl)
  · obtain ⟨mc, ⟨oc, es, ep, hoc, r⟩, q⟩ := g.top.nolim
    exact ⟨mc, ⟨oc, es, ep, kp _ _ hoc (by decide), r⟩, q⟩
  · obtain ⟨c, oc, vs, t, hc, hoc, r⟩ := hrec
    cases hc
    rw [e9, e1]
    exact ⟨fRefused.c, oc, vs, t, rfl, kp _ _ hoc (by decide), r⟩
  · intro y hy
    rw [e4]
    rcases hkind _ (zip_fst hy) with h | ⟨h, h'⟩
    · exact .inl h
    · exact .inr ⟨h, by rw [cellsFrom_some _ _ 0 [] [] _ rfl]; exact h'⟩
  · obtain ⟨h₁, tk, rfl, _⟩ := x.done
    have hk₁ := x.toInCall.keep
    have hL : g.H.objs.size ≤ s.heap.objs.size := gs.base.size
    obtain ⟨C, hA, hE, hn, hO⟩ := callEnvC_ok (g := g) (f := fRefused) (fd := fd) (A := A) (n := 1) (L := s.heap.objs.size) e4 e5 e10 hk (by omega) (by omega) hh hL x.apart x.above
    have hz : s.heap.objs.size ≤ h₁.objs.size := Nat.le_of_lt x.toInCall.ns.lt
    have gs1 : GoodS g sto { s with heap := h₁, toks := tk } := gs.ext hk₁ rfl rfl
    have hkk : ∀ y, C.env.kindOf y = fRefused.sc.names.lookup y := fun y => by rw [hE]; show fd.scope.names.lookup y = _; rw [e4]
    have gF : GoodF g C ⟨([("ruler" : Str)] : List Str).zip [V.ref ra], sto⟩ { s with heap := h₁, toks := tk } := by
      refine ⟨gs1, ⟨_, by rw [hE]; exact x.toInCall.ns, ?_, fun p hp => ?_⟩, fun b hb => ?_⟩
      · have : ∀ (ns : List Str) (vals : List Value) (m : Str → Option Value), ("_initial_size" : Str) ∉ ns → m "_initial_size" = none → bindL (callEnvC fd s.heap.objs.size fRefused.a).kindOf (ns.zip vals) m "_initial_size" = none := by
          intro ns
          induction ns with
          | nil => intro vals m _ hm; exact hm
          | cons a ns ih =>
            intro vals m hn hm
            cases vals with
            | nil => exact hm
            | cons b vals =>
              refine ih vals _ (fun e => hn (List.mem_cons_of_mem _ e)) ?_
              have ha : ("_initial_size" : Str) ≠ a := fun e => hn (e ▸ List.mem_cons_self)
              split
              · simp [ha, hm]
              · exact hm
        exact this _ _ _ hin rfl
      · obtain ⟨y, hy, ry⟩ := VRs.zip rv p hp
        refine ⟨y, ?_, ry.mono fun a items n e => hk₁ _ _ e⟩
        obtain ⟨hl, hc⟩ := bind_at (k := (callEnvC fd s.heap.objs.size fRefused.a).kindOf) [("ruler" : Str)] [Value.ref ra] (fun _ => none) (fun _ => none) hnd p.1 y hy
        have hkE : (callEnvC fd s.heap.objs.size fRefused.a).kindOf p.1 = fRefused.sc.names.lookup p.1 := by rw [← hE]; exact hkk _
        rcases hkind _ (zip_fst hp) with h | ⟨h, h'⟩
        · exact .inl ⟨(hkk _).trans h, hl (hkE.trans h)⟩
        · refine .inr ⟨.inl ((hkk _).trans h), ?_⟩
          have hs : ((callEnvC fd s.heap.objs.size fRefused.a).cells.lookup p.1).isSome = true := by
            show ((cellsFrom (s.heap.objs.size + 1) fd.scope.names []).lookup p.1).isSome = true
            rw [e4, cellsFrom_some _ _ 0 [] [] _ rfl]; exact h'
          obtain ⟨c, hcc⟩ := Option.isSome_iff_exists.mp hs
          refine ⟨c, by rw [hE]; exact hcc, ?_⟩
          have := x.cell _ _ hcc
          rwa [hc (by rw [hkE, h]; simp)] at this
      · rw [hO] at hb
        obtain ⟨p, hp, rfl⟩ := List.mem_map.mp hb
        have nd : ((callEnvC fd s.heap.objs.size fRefused.a).cells.map (·.1)).Nodup := by
          show ((cellsFrom (s.heap.objs.size + 1) fd.scope.names []).map (·.1)).Nodup
          rw [e4, fst_cells _ _ 0 [] [] rfl]; exact hcn
        exact ⟨_, x.cell _ _ (lookup_nodup nd hp)⟩
    have isE : IsEnv g fRefused C := ⟨by rw [hE]; exact e4, by rw [hE]; exact e9, by rw [hE]; rfl, by rw [hE]; show fd.qualname ++ _ = _; rw [e1], by rw [hE]; rfl, fun y hy h' => by
        have hs : ((callEnvC fd s.heap.objs.size fRefused.a).cells.lookup y).isSome = true := by
          show ((cellsFrom (s.heap.objs.size + 1) fd.scope.names []).lookup y).isSome = true
          rw [e4, cellsFrom_some _ _ 0 [] [] _ rfl]; exact h'
        obtain ⟨c, hcc⟩ := Option.isSome_iff_exists.mp hs
        refine ⟨c, by rw [hE]; exact hcc, ?_⟩
        rw [hO]
        exact List.mem_map.mpr ⟨_, mem_of_lookup hcc, rfl⟩, fun p hp => by rw [hcl] at hp; cases hp⟩
    rw [← hA, ← hE]
    have hfr2 : C.A.frames = some [C.env, env1] := by rw [hA, hE]; exact Around.frames_deeper hfr
    have hL2 : C.env.locals = s.heap.objs.size := by rw [hE]; rfl
    have f2 : C.env.frame = some s.heap.objs.size := by rw [isE.frame, hL2]
    have k2 : C.env.scope.kind ≠ .module := by rw [C.kind]; decide
    have hkk2 : ∀ y, C.env.kindOf y = fRefused.sc.names.lookup y := isE.kindOf
    clear hE hA hO
    have hk₁' := hk₁
    have hrel : L1 < s.heap.objs.size := n1.lt
    refine wpAny_execs_cons (wpAny_Try_except ?_)
    refine wpAny_execs_cons (wpAny_For (gen_callN (C := C) (zs := 0 :: zs) ((hkk2 _).trans rfl) gF (x := "ruler") (ga := ra) (by simp) ((hkk2 _).trans rfl) hra (fun a L env h' tk' hk' hLe EE hbi hG hGF => ?_)) (by intro _; rfl))
    refine wpAny_pyIter_gen hG ?_
    have hz2 : s.heap.objs.size < L := by rw [hLe]; exact x.toInCall.ns.lt
    have hgs : ({ ({ s with heap := h₁, toks := tk } : Shared) with heap := h', toks := tk', gens := s.gens.push (.fresh (.func fGI.body env)) } : Shared).gens[s.gens.size]? = some (.fresh (.func fGI.body env)) := Array.getElem?_push_size ..
    have hb2 : AllBare (s.gens.push (.fresh (.func fGI.body env))) := gs.bare.push (g := .fresh (.func fGI.body env)) rfl
    have nsK : ∀ a m, h₁.Ns a m → h'.Ns a m := fun a m n => n.keeps hk'
    have n1' : h'.Ns L1 m1 := nsK _ _ (n1.keeps hk₁)
    have hgl2 : h'.Ns mainGlobals g.mg := nsK _ _ (Ns.base g.top.gl gs1.base (by decide))
    have hbl2 : h'.Ns builtinsNs g.mb := nsK _ _ (Ns.base g.top.bl gs1.base (by decide))
    have hgH : ∀ b m, g.H.Ns b m → b < s.heap.objs.size := fun b m n => Nat.lt_of_lt_of_le n.lt gs.base.size
    have hlim : h'.NoLimit := by
      obtain ⟨mc, ⟨oc, es, ep, hoc, r⟩, q⟩ := g.top.nolim
      exact ⟨mc, ⟨oc, es, ep, hk' _ _ (gs1.base.keep _ _ hoc (by decide)), r⟩, q⟩
    refine codeAny_forLoop_any (fun n s' => s' = { ({ s with heap := h₁, toks := tk } : Shared) with heap := h', toks := tk', gens := s.gens.push (.fresh (.func fGI.body env)) }) ?_ 0 rfl
    rintro n s' rfl
    have hdp := C.depth
    have hgaL : ra < s.heap.objs.size := by
      obtain ⟨items, ⟨o, e, _⟩, _⟩ := IsLL gs hra
      exact Heap.lt_size e
    refine next_raise (R := gRE L s.heap.objs.size L1 [C.env, env1]) C.handled hlim (by show C.A.depth < 1000; omega) hG hgs ?_ ?_
    · refine seg_gi_raise (A := C.A.in1) (s := Shared.setGen { ({ s with heap := h₁, toks := tk } : Shared) with heap := h', toks := tk', gens := s.gens.push (.fresh (.func fGI.body env)) } s.gens.size .running) (ga := ra) (zs := zs) EE hbi C.handled hfr2 f2 f1 k2 k1 ⟨hGF.ns, hGF.ls, hGF.gl⟩ ?_ ?_ ?_ ?_ ?_ ⟨_, nsK _ _ x.toInCall.ns⟩ ⟨_, n1'⟩ hbl2
      · exact Nat.ne_of_gt (Nat.lt_trans hgaL hz2)
      · exact Nat.ne_of_gt (Nat.lt_trans (hgH _ _ g.top.gl) hz2)
      · exact Nat.ne_of_gt (Nat.lt_trans (hgH _ _ g.top.bl) hz2)
      · exact Nat.ne_of_lt hz2
      · exact Nat.ne_of_lt (Nat.lt_trans hrel hz2)
    rintro r s₁ ⟨e, base, a0, rfl, hg1, ho1, fly, kb, ks⟩
    have kall : ∀ b o, b ≠ L1 → s.heap.get? b = some o → base.get? b = some o := fun b o hb eb =>
      kb b o (Nat.ne_of_lt (Nat.lt_trans (Heap.lt_size eb) hz2)) (Nat.ne_of_lt (Heap.lt_size eb)) hb (hk' _ _ (hk₁ _ _ eb))
    have lall : ∀ o, s.heap.get? L1 = some o → (∀ vs, o.data ≠ .fields vs) → ∃ sl, s₁.heap.get? L1 = some { o with slots := sl } := fun o eb hnf =>
      ks L1 o (Nat.ne_of_lt (Nat.lt_trans hrel hz2)) (hk' _ _ (hk₁ _ _ eb)) hnf
    have noDict : ∀ b m, h'.Ns b m → ∀ og vs, h'.get? a = some og → og.data = .fields vs → a ≠ b := fun b m n og vs e hdat hab => by
      obtain ⟨o', es, ep, e', hd', _⟩ := n
      subst hab
      rw [e] at e'; cases e'; rw [hdat] at hd'; cases hd'
    obtain ⟨b1, b2, b3, b4⟩ := gen_end (x := .finished) hgs rfl hb2 hg1
    refine ⟨e, rfl, ?_, fly.there, ?_⟩
    · obtain ⟨og, nm, qn, hog, hcg, hdg, r⟩ := hG
      obtain ⟨mL, nL, _⟩ := hGF.ns
      exact ⟨og, nm, qn, fly.1 _ _ (kb a og (noDict _ _ nL og _ hog hdg) (noDict _ _ (nsK _ _ x.toInCall.ns) og _ hog hdg) (noDict _ _ n1' og _ hog hdg) hog), hcg, hdg, r⟩
    show wpAny _ _ (noteFrame (.ref e) C.env) _ _ _
    refine wpAny_looks_onW hfr2 f2 fly fun h3 held3 u3 => ?_
    show wpAny _ _ (ownFail C.env (.ref e)) _ _ _
    refine wpAny_ownFail f2 held3 fun h4 held4 u4 => ?_
    refine wpAny_noteFrame_againW f2 held4.2.2.2 ?_
    refine wpAny_landsW held4 fun h5 fly5 u5 => ?_
    have glK : ∀ bb m, g.H.Ns bb m → bb ∉ tbls → h5.Ns bb m := fun bb m n hb => by
      obtain ⟨o, es, ep, e, r⟩ := Ns.base n gs.base hb
      exact ⟨o, es, ep, fly5.1 _ _ (kall _ _ (Nat.ne_of_lt (Nat.lt_of_lt_of_le n.lt hN1)) e), r⟩
    refine wpAny_handleBy_builtin (X := "ValueError") (T := "ValueError") (b := true) (by rw [isSubtype_type]; kernel_rfl) (by rw [isSubtype_type]; kernel_rfl) (by rw [isSubtype_type]; kernel_rfl) ?_
    refine Calls.Name_function_global C.kind ((hkk2 _).trans rfl) (Calls.loadGlobal_builtin (mg := g.mg) (mb := g.mb) (by rw [C.globals]; exact glK _ _ g.top.gl (by decide)) (g.top.bn ("ValueError", .type "ValueError") (by walk_at "in")).1
      (by rw [C.builtins]; exact glK _ _ g.top.bl (by decide)) (g.top.bn ("ValueError", .type "ValueError") (by walk_at "in")).2 ⟨rfl, fly5.there, ?_⟩) (by decide)
    first | refine iteT rfl ?_ | rw [if_pos rfl]
    refine wpAny_setFlight_noneW fly5.1 fly5.2.2.1 fly5.2.2.2.at fun h6 c1 c2 c3 c4 => ?_
    refine wpAny_execs_cons (wpAny_Return_some (wpAny_Constant_bool ?_))
    refine ⟨rfl, fun b o hb eb => c1 _ _ (kall b o hb eb), fun o eb hnf => ?_, b1, fun i hi => ?_, ?_, ?_⟩
    · obtain ⟨sl, e1⟩ := lall o eb hnf
      obtain ⟨sl3, e3⟩ := u3 _ _ e1 hnf
      obtain ⟨sl4, e4⟩ := u4 _ _ e3 hnf
      obtain ⟨sl5, e5⟩ := u5 _ _ e4 hnf
      exact ⟨sl5, c4 _ _ e5 hnf⟩
    · refine (b2 i (Nat.ne_of_lt hi)).trans ?_
      show (s.gens.push _)[i]? = _
      rw [Array.getElem?_push, if_neg (Nat.ne_of_lt hi)]
    · refine Nat.le_trans ?_ (Nat.le_of_eq b3.symm)
      show s.gens.size ≤ (s.gens.push _).size
      rw [Array.size_push]; exact Nat.le_succ _
    · exact ho1
end
end
section -- P77
section
variable {g : G} {C : Fm g} {st : St} {s : Shared}
noncomputable abbrev kRf (Q : V → St → Prop) : List V → St → Prop := fun us st => ∃ ra zs, us = [.ref ra] ∧ (ra, .list (((0 : Int) :: zs).map V.int)) ∈ st.sto ∧ Q (.bool true) st
theorem TE.refused {e : Expr} {p pos : Pos} {Q : V → St → Prop} (hm : 2 ≤ C.n) (hfr : C.A.frames = some [C.env]) (hcf : C.env.frame = some C.env.locals) (hk : C.env.kindOf "_law_refused" = some .globalImplicit)
    (h : TEs g C pos [e] (kRf Q) st) (he : starEach [e] C.env = [(false, eval e C.env)] := by rfl) :
    TE g C (.Call (.Name "_law_refused" p) [e] [] pos) Q st := fun s gs => by
  have hd := C.depth
  have hu := C.units
  refine wpAny_Call_Name_kw (Calls.Name_function_global C.kind hk (Calls.loadGlobal_global (mg := g.mg) (by rw [C.globals]; exact Ns.base g.top.gl gs.base (by decide)) (g.top.gn ("_law_refused", .ref 259) (by walk_at "in")) ?_) (by decide))
  obtain ⟨o, fd, ho, hdat, _⟩ := g.top.fn fRefused (by walk_at "in")
  refine callWith_function_kw (o := o) (fd := fd) ?_
  have h' := h
  unfold TEs at h'
  rw [he] at h' ⊢
  refine Calls.evalArgs_plain (h'.on gs fun us st1 as s1 q1 rs g1 x1 => ⟨⟨g1.base.keep _ _ ho (by decide), hdat⟩, ?_⟩)
  obtain ⟨ra, zs, rfl, hra, hq⟩ := q1
  obtain ⟨x, rfl, rx⟩ := rs.one
  cases rx
  obtain ⟨m, hn, _⟩ := g1.loc
  refine wpAny_call (codeAny_mono (refused_run (zs := zs) (by omega) (by omega) C.handled g1.toGoodS hfr hcf (by rw [C.kind]; decide) hn C.new hra) fun r s' ⟨e, x⟩ => ?_)
  subst e
  obtain ⟨g2, x2⟩ := g1.slid x
  exact ⟨.bool true, st1, VR.bool _, g2, Step.trans x1 x2, hq⟩
end
end
section -- P78
section
variable {g : G} {C : Fm g} {st : St} {s : Shared}
/-- a list of ints among the things that were there -/
noncomputable def OldList (g : G) (a : Addr) (is : List Int) : Prop := ∃ items, g.H.IsList a items ∧ IntsAre items.toList is ∧ a ∉ tbls
theorem slice_endB {a : Addr} {is : List Int} {lo hi sp : Option Int} {vl vu vp : Value} {Q : V → St → Prop} (g1 : GoodF g C st s) (hm : OldList g a is) (hl : is.length ≤ 1000) (pl : IsPart vl lo) (pu : IsPart vu hi) (pp : IsPart vp sp) (h0 : sp ≠ some 0)
    (q : ∀ D, (∀ p ∈ st.sto, p.1 ≠ D) → Q (.ref D) ⟨st.loc, (D, .list (vpick (is.map V.int) lo hi sp)) :: st.sto⟩) :
    ({ s with heap := s.heap.push { cls := .type "slice", data := .fields #[vl, vu, vp] } } : Shared).TypeIs (.ref a) "list" ∧
    wpAny g.M C.A (getItem (.ref a) (.ref s.heap.objs.size)) (Po VR g C st s Q) noE { s with heap := s.heap.push { cls := .type "slice", data := .fields #[vl, vu, vp] } } := by
  obtain ⟨g2, x2⟩ := g1.newObj (s' := { s with heap := s.heap.push { cls := .type "slice", data := .fields #[vl, vu, vp] } }) rfl rfl rfl
  obtain ⟨items, ⟨o, e, r⟩, hI, hnt⟩ := hm
  have hL : Heap.IsList ({ s with heap := s.heap.push { cls := .type "slice", data := .fields #[vl, vu, vp] } } : Shared).heap a items := ⟨o, g2.base.keep _ _ e hnt, r⟩
  have rv : VRs ({ s with heap := s.heap.push { cls := .type "slice", data := .fields #[vl, vu, vp] } } : Shared).heap (is.map V.int) items.toList := VRs.ofInts hI
  refine ⟨hL.typeIs, wpAny_getItem_list_slice hL (Heap.IsSliceOf.new ..) pl pu pp h0 ?_ ?_⟩
  · obtain ⟨g3, x3⟩ := g2.newList (s' := { s with heap := (s.heap.push { cls := .type "slice", data := .fields #[vl, vu, vp] }).push { cls := .type "list", data := .seq (slicePick items lo hi sp) } }) (items := slicePick items lo hi sp) (vs := vpick (is.map V.int) lo hi sp) (rv.pick lo hi sp) rfl rfl rfl
    exact ⟨_, _, VR.ref _, g3, Step.trans x2 x3, q _ g2.toGoodS.fresh⟩
  · have := rv.length
    rw [sizeLine_eq]; simp at this; omega
section
variable (g : G) (C : Fm g)
noncomputable abbrev kOs4 (v : V) (lo hi : Option Int) (Q : V → St → Prop) : Option Int → St → Prop := fun sp st => sp ≠ some 0 ∧ ∃ a is, v = .ref a ∧ OldList g a is ∧ is.length ≤ 1000 ∧ ∀ D, (∀ p ∈ st.sto, p.1 ≠ D) → Q (.ref D) ⟨st.loc, (D, .list (vpick (is.map V.int) lo hi sp)) :: st.sto⟩
noncomputable abbrev kOs3 (sp : Expr) (v : V) (lo : Option Int) (Q : V → St → Prop) : Option Int → St → Prop := fun hi st => TP g C (some sp) (kOs4 g v lo hi Q) st
noncomputable abbrev kOs2 (upper : Option Expr) (sp : Expr) (v : V) (Q : V → St → Prop) : Option Int → St → Prop := fun lo st => TP g C upper (kOs3 g C sp v lo Q) st
noncomputable abbrev kOs1 (lower upper : Option Expr) (sp : Expr) (Q : V → St → Prop) : V → St → Prop := fun v st => TP g C lower (kOs2 g C upper sp v Q) st
end
theorem TE.sliceB {o sp : Expr} {lower upper : Option Expr} {p pos : Pos} {Q : V → St → Prop} (h : TE g C o (kOs1 g C lower upper sp Q) st) : TE g C (.Subscript o (.Slice lower upper (some sp) p) pos) Q st := fun s gs =>
  Subscript_ (h.on gs fun v st1 x s1 q r g1 x1 => wpAny_Slice (q.on g1 fun lo st2 vl s2 q2 pl g2 x2 => q2.on g2 fun hi st3 vu s3 q3 pu g3 x3 => q3.on g3 fun sp st4 vp s4 q4 pp g4 x4 => by
    obtain ⟨h0, a, is, rfl, hm, hl, q4⟩ := q4
    cases r
    obtain ⟨t, w⟩ := slice_endB (Q := Q) g4 hm hl pl pu pp h0 q4
    exact tailG t slot_list_getitem.lookup (wpAny_mono w (fun _ _ p => Po.trans x1 (Po.trans x2 (Po.trans x3 (Po.trans x4 p)))) fun _ _ e => e) (by with_unfolding_all rfl)))
end

noncomputable def pickI (is : List Int) (i : Int) : List Int := (sliceRange (sliceBounds (some i) none (some 2) is.length).1 (sliceBounds (some i) none (some 2) is.length).2.1 (sliceBounds (some i) none (some 2) is.length).2.2).filterMap (is[·]?)
theorem vpick_ints (is : List Int) (i : Int) : vpick (is.map V.int) (some i) none (some 2) = (pickI is i).map V.int := by
  unfold vpick pickI
  rw [List.length_map, List.map_filterMap]
  congr 1
  funext j
  rw [List.getElem?_map]
noncomputable abbrev msF (ds : List Bool) : List (Nat × Bool) := (runD ds ds.length).2.1
noncomputable abbrev hsF (ds : List Bool) : List Nat := (runD ds ds.length).2.2
noncomputable abbrev rmF (ds : List Bool) : List (Nat × Bool) := rowF (msF ds)
noncomputable abbrev placesF (rm : List (Nat × Bool)) (b : Bool) : List Nat := (List.range 14).filter fun i => (rm.getD i (0, false)).2 == b
noncomputable abbrev goesF (ds : List Bool) : List Nat := placesF (rmF ds) true
noncomputable abbrev comesF (ds : List Bool) : List Nat := placesF (rmF ds) false
noncomputable abbrev csF (ds : List Bool) : List Nat := (cornF (goesF ds) (comesF ds) 7).drop 1
noncomputable abbrev zsF (ds : List Bool) : List Int := szF (rmF ds) 8 0 []
/-- what is asked of a row of deeds -/
structure Fine (ds : List Bool) : Prop where
  len : ds.length = 14
  okD : OkD ds
  ms7 : ∀ m ∈ msF ds, m.1 ≤ 7
  msl : (msF ds).length = 14
  rb : rowF (msF ds) = backF (msF ds)
  rl : (rmF ds).length = 14
  r7 : ∀ m ∈ rmF ds, m.1 ≤ 7
  okA : OkA (rmF ds)
  a0 : (runA (rmF ds) (rmF ds).length).1 = 0
  hl : (hsF ds).length = 7
  h6 : ∀ h ∈ hsF ds, h ≤ 6
  area : (runA (rmF ds) (rmF ds).length).2 = pairsF (hsF ds)
  gl : (goesF ds).length = 7
  cl : (comesF ds).length = 7
  csl : (csF ds).length ≤ 7
  cs0 : 0 < (csF ds).length
  tot : ((csF ds).map fun (c : Nat) => (7 : Int) - (c : Int)).sum = ((hsF ds).map fun (h : Nat) => (h : Int)).sum
  r0 : (csF ds).getD 0 0 ≤ 7
  kinds : kindsF (hsF ds) = dueK ((csF ds).getD 0 0)
  low : (List.range (csF ds).length).map (bisL (isort (hsF ds))) = 0 :: (csF ds).dropLast
  high : (List.range (csF ds).length).map (bisR (isort (hsF ds))) = csF ds
  zok : ∀ z ∈ zsF ds, z ≠ 127 ∧ z ≠ 0
  z0 : zsF ds ≠ []
  zl : (zsF ds).length ≤ 7
  sums : (List.range (zsF ds).length).map (fun i => ((zsF ds).take (i + 1)).sum) = (csF ds).map fun (c : Nat) => (c : Int)
  named : NamedOk (goesF ds) (comesF ds)
  names : (namedF (goesF ds) (comesF ds) 7).2.map (fun n => (n.length : Int).fdiv 2 - 1) = (hsF ds).map fun (h : Nat) => (h : Int)
theorem eqvs_strs (l : List Str) : eqvs (l.map V.str) (l.map V.str) = some true := eqvs_same eqv_ss l
theorem eqvs_frV (fr : Nat → Str) : eqvs (frV fr) (frV fr) = some true := by
  have : frV fr = ((List.range 8).map fr).map V.str := by simp [frV]
  rw [this]; exact eqvs_strs _
theorem places_pick (P : Nat → Bool) : ∀ l : List Nat, (l.map fun (i : Nat) => V.int (i : Int)).filterMap (fun v => match v with | .int i => if P i.toNat then some (.int i) else none | _ => none) = (l.filter P).map iv
  | [] => rfl
  | i :: l => by
    rw [List.map_cons, List.filterMap_cons, List.filter_cons, places_pick P l]
    have : (i : Int).toNat = i := Int.toNat_natCast i
    simp only [this]
    cases P i <;> rfl
section
variable {g : G}
theorem lawBody {C : Fm g} (E : IsEnv g fLaw C) (hn : 9 ≤ C.n) (hfr : C.A.frames = some [C.env]) {is : List Int} {sa : Addr} {sto : Sto} (hm : OldList g sa is) (hl : is.length ≤ 63)
    {n t k : Nat} {w : Int} (hcell : (13540 + (pickI is 0).sum).fmod 16384 = (n : Int)) (hdt : ((8 + (pickI is 1).sum).fdiv 12).fmod 7 = (t : Int)) (ht : t < 7) (hdw : (8 + (pickI is 1).sum).fmod 4 = w) (hdk : ((8 + (pickI is 1).sum).fdiv 4).fmod 3 = (k : Int)) (hk : k < 3)
    (F : Fine (deedF n 14)) {fr : Nat → Str} (hmo : Mono fr) (hfv : frontsV (piecesF t) 7 = frV fr) (hpo : ∀ h, h ≤ 7 → POk w ((piecesF t).take h)) (hdu : ∀ h, h ≤ 7 → Due w ((piecesF t).take h) (fr h)) (hp7 : (piecesF t).length = 7) (hp4 : ∀ p ∈ piecesF t, p.1.length + p.2.length ≤ 4) :
    TXs g C fLaw.body (fun fl _ => fl = .ret (.bool true)) ⟨[("script", .ref sa)], sto⟩ := by
  have hll : is.length ≤ 1000 := by omega
  refine TXs.cons ?_
  repeat walk_at "m1"
  refine TE.callB (bid := "sum") (by walk_at "in") (by walk_at "kg") ?_
  refine TEs.cons ?_ rfl
  refine TE.sliceB ?_
  repeat walk_at "m1"
  refine kP.it ?_
  repeat walk_at "m1"
  refine ⟨_, rfl, by decide, sa, is, rfl, hm, hll, fun D1 hD1 => ?_⟩
  repeat walk_at "m1"
  rw [vpick_ints]
  refine TOL.sum List.mem_cons_self ?_
  refine TO2.addI ?_
  repeat walk_at "m1"
  refine TE.callB (bid := "sum") (by walk_at "in") (by walk_at "kg") ?_
  refine TEs.cons ?_ rfl
  refine TE.sliceB ?_
  repeat walk_at "m1"
  refine kP.it ?_
  repeat walk_at "m1"
  refine ⟨_, rfl, by decide, sa, is, rfl, hm, hll, fun D2 hD2 => ?_⟩
  repeat walk_at "m1"
  rw [vpick_ints]
  refine TOL.sum List.mem_cons_self ?_
  refine TO2.addI ?_
  generalize ((D2, Cell.list ((pickI is 1).map V.int)) :: (D1, Cell.list ((pickI is 0).map V.int)) :: sto : Sto) = s1
  clear hD1 hD2 hm hll
  generalize 13540 + (pickI is 0).sum = cell at *
  generalize 8 + (pickI is 1).sum = dress at *
  refine Tr.less (st' := ⟨[("cell", .int cell), ("dress", .int dress)], s1⟩) (show Has _ _ by walk_at "has") rfl ?_
  refine TXs.cons ?_
  repeat walk_at "m1"
  refine TE.callP (f := fPieces) (m := 1) (by walk_at "in") (by walk_at "in") (by walk_at "kg") (by decide) (Nat.le_trans (by decide) hn) ?_
  repeat walk_at "m1"
  refine TO2.divI (by decide) ?_
  repeat walk_at "m1"
  refine TO2.modI (by decide) ?_
  repeat walk_at "m1"
  rw [hdt]
  refine cPieces ht fun PA s2 hPA K2 mP => ?_
  refine TXs.cons ?_
  repeat walk_at "m1"
  refine TE.callP (f := fFronts) (m := 1) (by walk_at "in") (by walk_at "in") (by walk_at "kg") (by decide) (Nat.le_trans (by decide) hn) ?_
  repeat walk_at "m1"
  refine cFronts hp4 (by omega) mP fun FA s3 hFA K3 mF => ?_
  rw [hp7, hfv] at mF
  refine TXs.cons ?_
  repeat walk_at "m1"
  refine TE.callP (f := fDeep) (m := 8) (by walk_at "in") (by walk_at "in") (by walk_at "kg") (by decide) (Nat.le_trans (by decide) hn) ?_
  repeat walk_at "m1"
  refine TE.callP (f := fDeeds) (m := 1) (by walk_at "in") (by walk_at "in") (by walk_at "kg") (by decide) (Nat.le_trans (by decide) hn) ?_
  repeat walk_at "m1"
  refine TO2.modI (by decide) ?_
  repeat walk_at "m1"
  rw [hcell]
  refine cDeeds fun DA s4 hDA K4 mD => ?_
  repeat walk_at "m1"
  refine TO2.modI (by decide) ?_
  repeat walk_at "m1"
  rw [hdw]
  generalize deedF n 14 = ds at *
  refine cDeep hp7 (by rw [F.len]; decide) F.okD hpo hdu mD (K4 _ (K3 _ mP)) (K4 _ mF) fun RA MA HA s5 hMA hHA hMH K5 mR mM mH => ?_
  have mF5 := K5 _ (K4 _ mF)
  refine Tr.less (st' := ⟨[("dress", .int dress), ("fronts", .ref FA), ("read", .ref RA)], s5⟩) (show Has _ _ by walk_at "has") rfl ?_
  clear mP mF mD K2 K3 K4 K5 hPA hFA hDA hMA hHA
  refine TXs.cons ?_
  repeat walk_at "m1"
  refine TO2.is' (kB.it ?_)
  walk_at "no"
  refine TXs.nil ?_
  refine TXs.cons (TX.assignT ?_ rfl rfl)
  repeat walk_at "m1"
  refine TA.list2 mR (by walk_at "sto") (by walk_at "sto") ?_
  refine Tr.less (st' := ⟨[("dress", .int dress), ("fronts", .ref FA), ("marks", .ref MA), ("heights", .ref HA)], s5⟩) (show Has _ _ by walk_at "has") rfl ?_
  refine TXs.cons ?_
  repeat walk_at "m1"
  refine TE.callP (f := fRow) (m := 5) (by walk_at "in") (by walk_at "in") (by walk_at "kg") (by decide) (Nat.le_trans (by decide) hn) ?_
  repeat walk_at "m1"
  refine cRow hmo F.ms7 F.msl F.rb mM fun WA s6 hWA K6 mW => ?_
  have mF6 := K6 _ mF5
  have mH6 := K6 _ mH
  refine Tr.less (st' := ⟨[("dress", .int dress), ("fronts", .ref FA), ("heights", .ref HA), ("row", .ref WA)], s6⟩) (show Has _ _ by walk_at "has") rfl ?_
  clear hMH mR mM mH mF5 K6
  have hwl : ((rmF ds).map (mkV fr)).length = 14 := by rw [List.length_map]; exact F.rl
  refine TXs.cons ?_
  walk_at "m1"
  refine TT.or ?_
  repeat walk_at "m1"
  refine ⟨by simp, fun E1 hE1 => ?_⟩
  refine TO2.eqLn (List.mem_cons_of_mem _ mW) List.mem_cons_self (by rw [hwl]; decide) (kB.it ?_)
  walk_at "no"
  refine TT.or ?_
  repeat walk_at "m1"
  refine TE.comp1 (noFree (by decide)) ?_ rfl (by decide) (by decide) (fun _ => rfl)
  refine TSrc.list ?_
  repeat walk_at "m1"
  refine kSrcL.it (List.mem_cons_of_mem _ mF6) (Comp1.it (by simp [frV]) ([]) some nofun ?_ ?_)
  · intro C' cof v hv loc t H K
    refine TA.name (by walk_at "sto") (TTs.nil ?_)
    walk_at "yes"
    refine TE.callP (f := fXf) (m := 1) (by walk_at "in") (by walk_at "in") (by walk_at "kg") (by decide) (by rw [cof.n]; exact Nat.le_trans (by decide) hn) ?_
    repeat walk_at "m1"
    exact cXf ⟨rfl, nofun, Keeps.refl _⟩
  intro E2 s7 hE2 K7 mE2
  rw [List.filterMap_some] at mE2
  have mF7 := K7 _ (List.mem_cons_of_mem _ mF6)
  have mW7 := K7 _ (List.mem_cons_of_mem _ mW)
  have mH7 := K7 _ (List.mem_cons_of_mem _ mH6)
  repeat walk_at "m1"
  refine TO2.neL mE2 mF7 (EqSs.of (k := true) (eqvs_frV fr) (fun v hv => by obtain ⟨i, _, rfl⟩ := List.mem_map.mp hv; exact Nat.zero_le _)) (kB.it ?_)
  walk_at "no"
  refine TT.or_nil ?_
  walk_at "no"
  refine TXs.nil ?_
  clear K7 mE2 mF6 mH6 mW hE1 hE2 hWA
  have hmk : ∀ (i : Nat) (x : Nat × Bool), (rmF ds)[i]? = some x → ((rmF ds).map (mkV fr))[i]? = some (mkV fr x) := fun i x h => by rw [List.getElem?_map, h]; rfl
  refine TXs.cons ?_
  refine TX.assignComp1 (freeOf E (by decide)) (swaps_true (by walk_at "kg") rfl rfl) (by walk_at "kg") (by decide) ?_ rfl (by decide) (by decide) (fun _ => rfl)
  refine TSrc.range (by walk_at "kg") ?_
  repeat walk_at "m1"
  refine ⟨14, rfl, by decide, by simp, [("row", .ref WA)], fun v => match v with | .int i => if (fun i => ((rmF ds).getD i (0, false)).2 == true) i.toNat then some (.int i) else none | _ => none, ?_, ?_, ?_⟩
  · intro p hp
    rw [List.mem_singleton] at hp; subst hp
    exact ⟨by walk_at "mem", by rfl, cellOfE E (by rfl)⟩
  · intro C' cof v hv loc t4 H4 K4
    obtain ⟨i, hi, rfl⟩ := range_mem hv
    obtain ⟨⟨r, u⟩, hx⟩ : ∃ x, (rmF ds)[i]? = some x := ⟨_, List.getElem?_eq_getElem (by have := F.rl; omega)⟩
    have hgd : (rmF ds).getD i (0, false) = (r, u) := by rw [List.getD_eq_getElem?_getD, hx]; rfl
    have hti : (i : Int).toNat = i := Int.toNat_natCast i
    refine TA.less (st' := ⟨_, t4⟩) H4 rfl ?_
    refine TA.name (by walk_at "sto") (TTs.one ?_)
    repeat walk_at "m1"
    refine TO2.itemL i rfl (K4 _ mW7) (hmk i _ hx) (Nat.le_trans (Nat.le_of_eq hwl) (by decide)) ?_
    walk_at "m1"
    refine TO2.itemT (vs := [.str (fr r), .str (if u then "+" else "-")]) 1 rfl rfl (by simp) ?_
    repeat walk_at "m1"
    cases u with
    | true =>
      refine TO2.eqS ⟨true, by show V.bool (("+" : Str).cps.toList == ("+" : Str).cps.toList) = _; exact congrArg V.bool (by decide +kernel), ?_⟩
      walk_at "yes"
      repeat walk_at "m1"
      exact ⟨by simp only [hti, hgd]; rfl, by walk_at "has", Keeps.refl _⟩
    | false =>
      refine TO2.eqS ⟨false, by show V.bool (("-" : Str).cps.toList == ("+" : Str).cps.toList) = _; exact congrArg V.bool (by decide +kernel), ?_⟩
      walk_at "no"
      exact ⟨by simp only [hti, hgd]; rfl, by walk_at "has", Keeps.refl _⟩
  intro GA s8 hGA K8 mG
  rw [places_pick (fun i => ((rmF ds).getD i (0, false)).2 == true)] at mG
  have mG : (GA, Cell.list ((goesF ds).map iv)) ∈ s8 := mG
  have mF8 := K8 _ mF7
  have mW8 := K8 _ mW7
  have mH8 := K8 _ mH7
  clear K8 hGA mF7 mW7 mH7
  refine TXs.cons ?_
  refine TX.assignComp1 (freeOf E (by decide)) (swaps_true (by walk_at "kg") rfl rfl) (by walk_at "kg") (by decide) ?_ rfl (by decide) (by decide) (fun _ => rfl)
  refine TSrc.range (by walk_at "kg") ?_
  repeat walk_at "m1"
  refine ⟨14, rfl, by decide, by simp, [("row", .ref WA)], fun v => match v with | .int i => if (fun i => ((rmF ds).getD i (0, false)).2 == false) i.toNat then some (.int i) else none | _ => none, ?_, ?_, ?_⟩
  · intro p hp
    rw [List.mem_singleton] at hp; subst hp
    exact ⟨by walk_at "mem", by rfl, cellOfE E (by rfl)⟩
  · intro C' cof v hv loc t4 H4 K4
    obtain ⟨i, hi, rfl⟩ := range_mem hv
    obtain ⟨⟨r, u⟩, hx⟩ : ∃ x, (rmF ds)[i]? = some x := ⟨_, List.getElem?_eq_getElem (by have := F.rl; omega)⟩
    have hgd : (rmF ds).getD i (0, false) = (r, u) := by rw [List.getD_eq_getElem?_getD, hx]; rfl
    have hti : (i : Int).toNat = i := Int.toNat_natCast i
    refine TA.less (st' := ⟨_, t4⟩) H4 rfl ?_
    refine TA.name (by walk_at "sto") (TTs.one ?_)
    repeat walk_at "m1"
    refine TO2.itemL i rfl (K4 _ mW8) (hmk i _ hx) (Nat.le_trans (Nat.le_of_eq hwl) (by decide)) ?_
    walk_at "m1"
    refine TO2.itemT (vs := [.str (fr r), .str (if u then "+" else "-")]) 1 rfl rfl (by simp) ?_
    repeat walk_at "m1"
    cases u with
    | false =>
      refine TO2.eqS ⟨true, by show V.bool (("-" : Str).cps.toList == ("-" : Str).cps.toList) = _; exact congrArg V.bool (by decide +kernel), ?_⟩
      walk_at "yes"
      repeat walk_at "m1"
      exact ⟨by simp only [hti, hgd]; rfl, by walk_at "has", Keeps.refl _⟩
    | true =>
      refine TO2.eqS ⟨false, by show V.bool (("+" : Str).cps.toList == ("-" : Str).cps.toList) = _; exact congrArg V.bool (by decide +kernel), ?_⟩
      walk_at "no"
      exact ⟨by simp only [hti, hgd]; rfl, by walk_at "has", Keeps.refl _⟩
  intro CA s9 hCA K9 mC
  rw [places_pick (fun i => ((rmF ds).getD i (0, false)).2 == false)] at mC
  have mC : (CA, Cell.list ((comesF ds).map iv)) ∈ s9 := mC
  have mG9 := K9 _ mG
  have mF9 := K9 _ mF8
  have mW9 := K9 _ mW8
  have mH9 := K9 _ mH8
  clear K9 hCA mF8 mW8 mH8 mG
  refine Tr.less (st' := ⟨[("dress", .int dress), ("fronts", .ref FA), ("heights", .ref HA), ("row", .ref WA), ("goes", .ref GA), ("comes", .ref CA)], s9⟩) (show Has _ _ by walk_at "has") rfl ?_
  refine TXs.cons ?_
  repeat walk_at "m1"
  refine TE.callP (f := fArea) (m := 8) (by walk_at "in") (by walk_at "in") (by walk_at "kg") (by decide) (Nat.le_trans (by decide) hn) ?_
  repeat walk_at "m1"
  refine cArea (Nat.le_of_eq F.rl) F.okA F.a0 mW9 fun s10 K10 => ?_
  refine TE.callP (f := fPairs) (m := 2) (by walk_at "in") (by walk_at "in") (by walk_at "kg") (by decide) (Nat.le_trans (by decide) hn) ?_
  repeat walk_at "m1"
  refine cPairs hmo F.hl F.h6 (K10 _ mF9) (K10 _ mH9) fun s11 K11 => ?_
  rw [F.area]
  refine TO2.neI ⟨false, by simp, ?_⟩
  walk_at "no"
  refine TXs.nil ?_
  have mC11 := K11 _ (K10 _ mC)
  have mG11 := K11 _ (K10 _ mG9)
  have mF11 := K11 _ (K10 _ mF9)
  have mW11 := K11 _ (K10 _ mW9)
  have mH11 := K11 _ (K10 _ mH9)
  clear K10 K11 mF9 mW9 mH9 mG9 mC
  refine TXs.cons ?_
  repeat walk_at "m1"
  refine TE.callP (f := fCorners) (m := 2) (by walk_at "in") (by walk_at "in") (by walk_at "kg") (by decide) (Nat.le_trans (by decide) hn) ?_
  repeat walk_at "m1"
  refine cCorners F.gl F.cl mG11 mC11 fun OA s12 hOA K12 mO => ?_
  have mO : (OA, Cell.list ((csF ds).map iv)) ∈ s12 := mO
  have mC12 := K12 _ mC11
  have mG12 := K12 _ mG11
  have mF12 := K12 _ mF11
  have mW12 := K12 _ mW11
  have mH12 := K12 _ mH11
  clear K12 mC11 mG11 mF11 mW11 mH11 hOA
  refine TXs.cons ?_
  walk_at "m1"
  refine TT.or ?_
  repeat walk_at "m1"
  refine TE.callB (bid := "sum") (by walk_at "in") (by walk_at "kg") ?_
  walk_at "m1"
  refine TE.comp1 (noFree (by decide)) ?_ rfl (by decide) (by decide) (fun _ => rfl)
  refine TSrc.list ?_
  repeat walk_at "m1"
  refine kSrcL.it mO (Comp1.it (by rw [List.length_map]; have := F.csl; omega) ([]) (fun v => match v with | .int i => some (.int (7 - i)) | _ => none) nofun ?_ ?_)
  · intro C' cof v hv loc t H K
    obtain ⟨i, hi, rfl⟩ := List.mem_map.mp hv
    refine TA.name (by walk_at "sto") (TTs.nil ?_)
    walk_at "yes"
    repeat walk_at "m1"
    refine TO2.subI ?_
    exact ⟨rfl, nofun, Keeps.refl _⟩
  intro E3 s13 hE3 K13 mE3
  have e3 : ((csF ds).map iv).filterMap (fun v => match v with | .int i => some (.int (7 - i)) | _ => none) = ((csF ds).map fun (c : Nat) => (7 : Int) - (c : Int)).map V.int := by
    rw [List.filterMap_map, List.map_map, ← List.filterMap_eq_map]
    rfl
  rw [e3] at mE3
  repeat walk_at "m1"
  refine TOL.sum mE3 ?_
  refine TE.callB (bid := "sum") (by walk_at "in") (by walk_at "kg") ?_
  repeat walk_at "m1"
  have mH13 : (HA, Cell.list (((hsF ds).map fun (h : Nat) => (h : Int)).map V.int)) ∈ s13 := by
    have := K13 _ mH12
    rw [List.map_map]
    exact this
  refine TOL.sum mH13 ?_
  rw [F.tot]
  refine TO2.neI ⟨false, by simp, ?_⟩
  walk_at "no"
  refine TT.or (TT.not (TT.val ?_ (by intro w; rfl)))
  refine TE.callP (f := fFlat) (m := 3) (by walk_at "in") (by walk_at "in") (by walk_at "kg") (by decide) (Nat.le_trans (by decide) hn) ?_
  repeat walk_at "m1"
  refine cFlat F.hl F.csl F.cs0 F.r0 F.kinds F.low F.high (K13 _ mH12) (K13 _ mO) fun s14 K14 => ?_
  refine TO1.truthB ?_
  walk_at "no"
  refine TT.or_nil ?_
  walk_at "no"
  refine TXs.nil ?_
  have mO14 := K14 _ (K13 _ mO)
  have mC14 := K14 _ (K13 _ mC12)
  have mG14 := K14 _ (K13 _ mG12)
  have mF14 := K14 _ (K13 _ mF12)
  have mW14 := K14 _ (K13 _ mW12)
  have mH14 := K14 _ (K13 _ mH12)
  clear K14 K13 mO mC12 mG12 mF12 mW12 mH12 mE3 mH13 hE3
  refine Tr.less (st' := ⟨[("dress", .int dress), ("fronts", .ref FA), ("heights", .ref HA), ("row", .ref WA), ("goes", .ref GA), ("comes", .ref CA), ("corners", .ref OA)], s14⟩) (show Has _ _ by walk_at "has") rfl ?_
  refine TXs.cons ?_
  repeat walk_at "m1"
  refine TE.callP (f := fSizes) (m := 4) (by walk_at "in") (by walk_at "in") (by walk_at "kg") (by decide) (Nat.le_trans (by decide) hn) ?_
  repeat walk_at "m1"
  refine cSizes hmo F.r7 F.rl mW14 mF14 fun ZA s15 hZA K15 mZ => ?_
  have mZ : (ZA, Cell.list ((zsF ds).map V.int)) ∈ s15 := mZ
  have mO15 := K15 _ mO14
  have mC15 := K15 _ mC14
  have mG15 := K15 _ mG14
  have mH15 := K15 _ mH14
  clear K15 mO14 mC14 mG14 mF14 mW14 mH14 hZA
  have hz7 : (zsF ds).length ≤ 7 := F.zl
  have hzl : ((zsF ds).map V.int).length ≤ 7 := by rw [List.length_map]; exact F.zl
  have hsums : sumsV (zsF ds) = ((csF ds).map fun (c : Nat) => (c : Int)).map V.int := by
    rw [← F.sums, List.map_map]; rfl
  have mOi : (OA, Cell.list (((csF ds).map fun (c : Nat) => (c : Int)).map V.int)) ∈ s15 := by rw [List.map_map]; exact mO15
  refine TXs.cons ?_
  walk_at "m1"
  refine TT.or ?_
  repeat walk_at "m1"
  refine TE.callP (f := fMarks) (m := 3) (by walk_at "in") (by walk_at "in") (by walk_at "kg") (by decide) (Nat.le_trans (by decide) hn) ?_
  repeat walk_at "m1"
  refine TO2.divI (by decide) ?_
  repeat walk_at "m1"
  refine TO2.modI (by decide) ?_
  repeat walk_at "m1"
  rw [hdk]
  refine cMarks F.zok F.z0 F.zl hk mZ fun YA s16 K16 hYA mY => ?_
  rw [hsums] at mY
  repeat walk_at "m1"
  refine TO2.neL mY (K16 _ mOi) (eqSs_int _) (kB.it ?_)
  walk_at "no"
  refine TT.or (TT.not (TT.val ?_ (by intro w; rfl)))
  refine TE.refused (Nat.le_trans (by decide) hn) hfr E.frame (by walk_at "kg") ?_
  repeat walk_at "m1"
  refine ⟨by simp, fun D3 hD3 => ?_⟩
  repeat walk_at "m1"
  have mZ17 : (ZA, Cell.list ((zsF ds).map V.int)) ∈ (D3, Cell.list [V.int 0]) :: s16 := List.mem_cons_of_mem _ (K16 _ mZ)
  refine TO2.addL List.mem_cons_self mZ17 (by simp; omega) fun D4 hD4 => ?_
  repeat walk_at "m1"
  refine ⟨D4, zsF ds, rfl, List.mem_cons_self, ?_⟩
  refine TO1.truthB ?_
  walk_at "no"
  refine TT.or_nil ?_
  walk_at "no"
  refine TXs.nil ?_
  have KK : Keeps s15 ((D4, Cell.list ([V.int 0] ++ (zsF ds).map V.int)) :: (D3, Cell.list [V.int 0]) :: s16) := Keeps.trans K16 (Keeps.trans Keeps.cons Keeps.cons)
  generalize ((D4, Cell.list ([V.int 0] ++ (zsF ds).map V.int)) :: (D3, Cell.list [V.int 0]) :: s16 : Sto) = s17 at *
  have mZ17' := KK _ mZ
  have mC17 := KK _ mC15
  have mG17 := KK _ mG15
  have mH17 := KK _ mH15
  clear KK mZ17 mZ mC15 mG15 mH15 mO15 mOi mY K16 hD3 hD4 hYA
  refine Tr.less (st' := ⟨[("heights", .ref HA), ("goes", .ref GA), ("comes", .ref CA), ("sizes", .ref ZA)], s17⟩) (show Has _ _ by walk_at "has") rfl ?_
  refine TXs.cons ?_
  repeat walk_at "m1"
  refine TE.compGenNone (zs := 127 :: zsF ds) (by walk_at "kg") .stop (act := emitOf _) (fun env it acc => rfl) (noFree (by decide)) ?_ rfl (by decide) (by decide) rfl
  repeat walk_at "m1"
  refine ⟨by simp, fun D5 hD5 => ?_⟩
  repeat walk_at "m1"
  refine TO2.addL List.mem_cons_self (List.mem_cons_of_mem _ mZ17') (by simp; omega) fun D6 hD6 => ?_
  repeat walk_at "m1"
  refine ⟨D6, rfl, List.mem_cons_self, fun D7 hD7 => ?_⟩
  repeat walk_at "m1"
  refine ⟨by simp, fun D8 hD8 => ?_⟩
  refine TO2.neL (List.mem_cons_of_mem _ List.mem_cons_self) List.mem_cons_self EqSs.nil (kB.it ?_)
  walk_at "no"
  refine TXs.nil ?_
  have KK : Keeps s17 ((D8, Cell.list []) :: (D7, Cell.list []) :: (D6, Cell.list ([V.int 127] ++ (zsF ds).map V.int)) :: (D5, Cell.list [V.int 127]) :: s17) := fun p hp => List.mem_cons_of_mem _ (List.mem_cons_of_mem _ (List.mem_cons_of_mem _ (List.mem_cons_of_mem _ hp)))
  generalize ((D8, Cell.list []) :: (D7, Cell.list []) :: (D6, Cell.list ([V.int 127] ++ (zsF ds).map V.int)) :: (D5, Cell.list [V.int 127]) :: s17 : Sto) = s18 at *
  have mC18 := KK _ mC17
  have mG18 := KK _ mG17
  have mH18 := KK _ mH17
  clear KK hD5 hD6 hD7 hD8
  refine TXs.cons ?_
  repeat walk_at "m1"
  refine TE.callP (f := fBN) (m := 1) (by walk_at "in") (by walk_at "in") (by walk_at "kg") (by decide) (Nat.le_trans (by decide) hn) ?_
  repeat walk_at "m1"
  refine ⟨by simp, ?_⟩
  repeat walk_at "m1"
  refine cBN (l := none) (e := none) nofun nofun ?_
  repeat walk_at "m1"
  refine TE.callP (f := fBN) (m := 1) (by walk_at "in") (by walk_at "in") (by walk_at "kg") (by decide) (Nat.le_trans (by decide) hn) ?_
  repeat walk_at "m1"
  refine ⟨by simp, ?_⟩
  repeat walk_at "m1"
  refine cBN (l := some "") (e := some "") (fun x h => by cases h; decide) (fun x h => by cases h; decide) ?_
  repeat walk_at "m1"
  refine ⟨by simp, fun D9 hD9 => ?_⟩
  repeat walk_at "m1"
  refine ⟨by simp, fun D10 hD10 => ?_⟩
  refine TO2.neL (List.mem_cons_of_mem _ List.mem_cons_self) List.mem_cons_self (EqSs.of (k := true) (by decide +kernel) (by simp [deep])) (kB.it ?_)
  walk_at "no"
  refine TXs.nil ?_
  refine TXs.cons ?_
  repeat walk_at "m1"
  refine TE.callP (f := fNamed) (m := 5) (by walk_at "in") (by walk_at "in") (by walk_at "kg") (by decide) (Nat.le_trans (by decide) hn) ?_
  repeat walk_at "m1"
  refine cNamed F.gl F.cl F.named (List.mem_cons_of_mem _ (List.mem_cons_of_mem _ mG18)) (List.mem_cons_of_mem _ (List.mem_cons_of_mem _ mC18)) fun NA s19 hNA K19 mN => ?_
  have en : ((namedF (goesF ds) (comesF ds) 7).2.map fun n => V.int ((n.length : Int).fdiv 2 - 1)) = (hsF ds).map iv := by
    have := congrArg (List.map V.int) F.names
    rw [List.map_map, List.map_map] at this
    exact this
  rw [en] at mN
  repeat walk_at "m1"
  have mH19 := K19 _ (List.mem_cons_of_mem _ (List.mem_cons_of_mem _ mH18))
  have eh : (hsF ds).map iv = ((hsF ds).map fun (h : Nat) => (h : Int)).map V.int := by rw [List.map_map]; rfl
  refine TO2.eqL mN mH19 (k := true) (by rw [eh]; exact eqSs_int _) ?_
  rfl
end
end
section -- P79
/-- the rows of deeds that there are -/
noncomputable def allD : Nat → List (List Bool)
  | 0 => [[]]
  | t + 1 => (allD t).flatMap fun ds => if 2 * (ds.filter id).length = t then [ds ++ [true]] else if (ds.filter id).length < 7 then [ds ++ [true], ds ++ [false]] else [ds ++ [false]]
theorem deed_mem (n : Nat) : ∀ t, deedF n t ∈ allD t
  | 0 => List.mem_cons_self
  | t + 1 => by
    unfold allD
    refine List.mem_flatMap.mpr ⟨deedF n t, deed_mem n t, ?_⟩
    show deedF n t ++ [decide (2 * ((deedF n t).filter id).length = t) || (decide (n / 2 ^ t % 2 = 0) && decide (((deedF n t).filter id).length < 7))] ∈ _
    by_cases h1 : 2 * ((deedF n t).filter id).length = t
    · rw [if_pos h1, decide_eq_true h1]; exact List.mem_cons_self
    · rw [if_neg h1, decide_eq_false h1]
      by_cases h2 : ((deedF n t).filter id).length < 7
      · rw [if_pos h2, decide_eq_true h2]
        cases decide (n / 2 ^ t % 2 = 0)
        · exact List.mem_cons_of_mem _ List.mem_cons_self
        · exact List.mem_cons_self
      · rw [if_neg h2, decide_eq_false h2, Bool.and_false]; exact List.mem_cons_self
noncomputable def ins (x : Nat) : List Nat → List Nat
  | [] => [x]
  | y :: l => if x ≤ y then x :: y :: l else y :: ins x l
noncomputable def isrt : List Nat → List Nat
  | [] => []
  | x :: l => ins x (isrt l)
theorem ins_perm (x : Nat) : ∀ l, (ins x l).Perm (x :: l)
  | [] => .refl _
  | y :: l => by
    unfold ins
    split
    · exact .refl _
    · exact ((ins_perm x l).cons y).trans (.swap x y l)
theorem isrt_perm : ∀ l, (isrt l).Perm l
  | [] => .refl _
  | x :: l => (ins_perm x _).trans ((isrt_perm l).cons x)
theorem ins_sorted (x : Nat) : ∀ l, l.Pairwise (· ≤ ·) → (ins x l).Pairwise (· ≤ ·)
  | [], _ => by simp [ins]
  | y :: l, h => by
    unfold ins
    obtain ⟨h1, h2⟩ := List.pairwise_cons.mp h
    split
    · rename_i hxy
      refine List.pairwise_cons.mpr ⟨fun z hz => ?_, h⟩
      rcases List.mem_cons.mp hz with rfl | hz
      · exact hxy
      · exact Nat.le_trans hxy (h1 z hz)
    · rename_i hxy
      refine List.pairwise_cons.mpr ⟨fun z hz => ?_, ins_sorted x l h2⟩
      rcases List.mem_cons.mp ((ins_perm x l).mem_iff.mp hz) with rfl | hz
      · omega
      · exact h1 z hz
theorem isrt_sorted : ∀ l, (isrt l).Pairwise (· ≤ ·)
  | [] => .nil
  | x :: l => ins_sorted x _ (isrt_sorted l)
theorem isort_eq (l : List Nat) : isort l = isrt l := by
  refine List.Perm.eq_of_pairwise (le := (· ≤ ·)) (fun a b _ _ h1 h2 => Nat.le_antisymm h1 h2) ?_ (isrt_sorted l) ((List.mergeSort_perm l _).trans (isrt_perm l).symm)
  have := List.pairwise_mergeSort (le := fun a b => decide (a ≤ b)) (fun a b c h1 h2 => by simp at *; omega) (fun a b => by simp; omega) l
  exact this.imp (by simp)
noncomputable def okDB (ds : List Bool) : Bool := (List.range ds.length).all fun i => match ds[i]? with
  | some true => decide ((runD ds i).1 < 7)
  | some false => decide (0 < (runD ds i).1 ∧ (runD ds i).1 ≤ 7)
  | none => true
theorem okD_of {ds : List Bool} (h : okDB ds = true) : OkD ds := fun i b hb => by
  have hi := (List.getElem?_eq_some_iff.mp hb).1
  have := List.all_eq_true.mp h i (List.mem_range.mpr hi)
  rw [hb] at this
  cases b
  · simpa using this
  · simpa using this
noncomputable def okAB (rm : List (Nat × Bool)) : Bool := (List.range rm.length).all fun i => match rm[i]? with
  | some m => decide ((runA rm i).1 ≤ 7) && (m.2 || decide (0 < (runA rm i).1))
  | none => true
theorem okA_of {rm : List (Nat × Bool)} (h : okAB rm = true) : OkA rm := fun i m hm => by
  have hi := (List.getElem?_eq_some_iff.mp hm).1
  have := List.all_eq_true.mp h i (List.mem_range.mpr hi)
  rw [hm] at this
  simp only [Bool.and_eq_true, Bool.or_eq_true, decide_eq_true_eq] at this
  exact ⟨this.1, fun h => by rw [h] at this; simpa using this.2⟩
noncomputable def namedB (goes comes : List Nat) (nm : List Str) : Bool := ((List.range 7).all fun i => decide (bisR comes (goes.getD i 0) ≤ i)) && ((List.range 6).all fun p => match nm[p]?, nm[p + 1]? with
  | some a, some b => slt a b && !slt b a
  | _, _ => false)
theorem named_of {goes comes : List Nat} (h : namedB goes comes (namedF goes comes 7).2 = true) : NamedOk goes comes := by
  unfold namedB at h
  simp only [Bool.and_eq_true] at h
  refine ⟨fun i hi => by simpa using List.all_eq_true.mp h.1 i (List.mem_range.mpr hi), fun p hp => ?_⟩
  have := List.all_eq_true.mp h.2 p (List.mem_range.mpr hp)
  split at this
  · rename_i a b ha hb
    simp only [Bool.and_eq_true, Bool.not_eq_true'] at this
    exact ⟨a, b, ha, hb, this.1, this.2⟩
  · cases this
noncomputable def fineB1 (ds : List Bool) (ms : List (Nat × Bool)) (hs : List Nat) (rm : List (Nat × Bool)) : Bool :=
  decide (ds.length = 14) && okDB ds && decide (∀ m ∈ ms, m.1 ≤ 7) && decide (ms.length = 14) && decide (rm = backF ms) && decide (rm.length = 14) && decide (∀ m ∈ rm, m.1 ≤ 7) && okAB rm && decide ((runA rm rm.length).1 = 0) && decide (hs.length = 7) && decide (∀ h ∈ hs, h ≤ 6) && decide ((runA rm rm.length).2 = pairsF hs)
noncomputable def fineB2 (hs goes comes cs : List Nat) : Bool :=
  decide (goes.length = 7) && decide (comes.length = 7) && decide (cs.length ≤ 7) && decide (0 < cs.length) && decide ((cs.map fun (c : Nat) => (7 : Int) - (c : Int)).sum = (hs.map fun (h : Nat) => (h : Int)).sum) && decide (cs.getD 0 0 ≤ 7) && decide (kindsF hs = dueK (cs.getD 0 0)) && decide ((List.range cs.length).map (bisL (isrt hs)) = 0 :: cs.dropLast) && decide ((List.range cs.length).map (bisR (isrt hs)) = cs)
noncomputable def fineB3 (hs goes comes cs : List Nat) (zs : List Int) (nm : List Str) : Bool :=
  decide (∀ z ∈ zs, z ≠ 127 ∧ z ≠ 0) && decide (zs ≠ []) && decide (zs.length ≤ 7) && decide ((List.range zs.length).map (fun i => (zs.take (i + 1)).sum) = cs.map fun (c : Nat) => (c : Int)) && namedB goes comes nm && decide (nm.map (fun n => (n.length : Int).fdiv 2 - 1) = hs.map fun (h : Nat) => (h : Int))
noncomputable def d0 : List Bool := [true, false, true, true, false, false, true, true, true, false, true, false, false, false]

noncomputable def fN (x : Nat) (k : Nat → Bool) : Bool := match x with
  | 0 => k 0
  | n + 1 => k (n + 1)
theorem fN_eq {x : Nat} {k : Nat → Bool} : fN x k = k x := by cases x <;> rfl
noncomputable def fB (b : Bool) (k : Bool → Bool) : Bool := match b with
  | true => k true
  | false => k false
theorem fB_eq {b : Bool} {k : Bool → Bool} : fB b k = k b := by cases b <;> rfl
noncomputable def fL : List Nat → (List Nat → Bool) → Bool
  | [], k => k []
  | x :: l, k => fN x fun x' => fL l fun l' => k (x' :: l')
theorem fL_eq : ∀ {l : List Nat} {k : List Nat → Bool}, fL l k = k l
  | [], _ => rfl
  | x :: l, k => by unfold fL; rw [fN_eq, fL_eq]
noncomputable def fM : List (Nat × Bool) → (List (Nat × Bool) → Bool) → Bool
  | [], k => k []
  | (x, b) :: l, k => fN x fun x' => fB b fun b' => fM l fun l' => k ((x', b') :: l')
theorem fM_eq : ∀ {l : List (Nat × Bool)} {k : List (Nat × Bool) → Bool}, fM l k = k l
  | [], _ => rfl
  | (x, b) :: l, k => by unfold fM; rw [fN_eq, fB_eq, fM_eq]
noncomputable def fI (x : Int) (k : Int → Bool) : Bool := match x with
  | .ofNat n => fN n fun n' => k (.ofNat n')
  | .negSucc n => fN n fun n' => k (.negSucc n')
theorem fI_eq {x : Int} {k : Int → Bool} : fI x k = k x := by
  cases x with
  | ofNat n => exact fN_eq (x := n) (k := fun n' => k (.ofNat n'))
  | negSucc n => exact fN_eq (x := n) (k := fun n' => k (.negSucc n'))
noncomputable def fZ : List Int → (List Int → Bool) → Bool
  | [], k => k []
  | x :: l, k => fI x fun x' => fZ l fun l' => k (x' :: l')
theorem fZ_eq : ∀ {l : List Int} {k : List Int → Bool}, fZ l k = k l
  | [], _ => rfl
  | x :: l, k => by unfold fZ; rw [fI_eq, fZ_eq]
noncomputable def fineC (ds : List Bool) : Bool := fM (msF ds) fun ms => fL (hsF ds) fun hs => fM (rowF ms) fun rm => fineB1 ds ms hs rm && fL (placesF rm true) fun goes => fL (placesF rm false) fun comes => fL ((cornF goes comes 7).drop 1) fun cs => fineB2 hs goes comes cs && fZ (szF rm 8 0 []) fun zs => fineB3 hs goes comes cs zs (namedF goes comes 7).2
theorem fine_of {ds : List Bool} (h : fineC ds = true) : Fine ds := by
  unfold fineC at h
  rw [fM_eq, fL_eq, fM_eq, Bool.and_eq_true, fL_eq, fL_eq, fL_eq, Bool.and_eq_true, fZ_eq] at h
  obtain ⟨h1, h2, h3⟩ := h
  unfold fineB1 at h1
  unfold fineB2 at h2
  unfold fineB3 at h3
  simp only [Bool.and_eq_true, decide_eq_true_eq] at h1 h2 h3
  obtain ⟨⟨⟨⟨⟨⟨⟨⟨⟨⟨⟨a1, a2⟩, a3⟩, a4⟩, a5⟩, a6⟩, a7⟩, a8⟩, a9⟩, a10⟩, a11⟩, a12⟩ := h1
  obtain ⟨⟨⟨⟨⟨⟨⟨⟨b1, b2⟩, b3⟩, b4⟩, b5⟩, b6⟩, b7⟩, b8⟩, b9⟩ := h2
  obtain ⟨⟨⟨⟨⟨c1, c2⟩, c3⟩, c4⟩, c5⟩, c6⟩ := h3
  exact ⟨a1, okD_of a2, a3, a4, a5, a6, a7, okA_of a8, a9, a10, a11, a12, b1, b2, b3, b4, b5, b6, b7, by rw [isort_eq]; exact b8, by rw [isort_eq]; exact b9, c1, c2, c3, c4, named_of c5, c6⟩
noncomputable def decD (c : Nat) : List Bool := (List.range 14).map c.testBit
noncomputable def cod0 : List Nat := [127, 191, 319, 575, 1087, 2111, 4159, 223, 351, 607, 1119, 2143, 4191, 415, 671, 1183, 2207, 4255, 799, 1311, 2335, 4383, 1567, 2591, 4639, 3103, 5151, 239, 367, 623, 1135, 2159, 4207]
noncomputable def cod1 : List Nat := [431, 687, 1199, 2223, 4271, 815, 1327, 2351, 4399, 1583, 2607, 4655, 3119, 5167, 463, 719, 1231, 2255, 4303, 847, 1359, 2383, 4431, 1615, 2639, 4687, 3151, 5199, 911, 1423, 2447, 4495, 1679]
noncomputable def cod2 : List Nat := [2703, 4751, 3215, 5263, 1807, 2831, 4879, 3343, 5391, 247, 375, 631, 1143, 2167, 4215, 439, 695, 1207, 2231, 4279, 823, 1335, 2359, 4407, 1591, 2615, 4663, 3127, 5175, 471, 727, 1239, 2263]
noncomputable def cod3 : List Nat := [4311, 855, 1367, 2391, 4439, 1623, 2647, 4695, 3159, 5207, 919, 1431, 2455, 4503, 1687, 2711, 4759, 3223, 5271, 1815, 2839, 4887, 3351, 5399, 487, 743, 1255, 2279, 4327, 871, 1383, 2407, 4455]
noncomputable def cod4 : List Nat := [1639, 2663, 4711, 3175, 5223, 935, 1447, 2471, 4519, 1703, 2727, 4775, 3239, 5287, 1831, 2855, 4903, 3367, 5415, 967, 1479, 2503, 4551, 1735, 2759, 4807, 3271, 5319, 1863, 2887, 4935, 3399, 5447]
noncomputable def cod5 : List Nat := [251, 379, 635, 1147, 2171, 4219, 443, 699, 1211, 2235, 4283, 827, 1339, 2363, 4411, 1595, 2619, 4667, 3131, 5179, 475, 731, 1243, 2267, 4315, 859, 1371, 2395, 4443, 1627, 2651, 4699, 3163]
noncomputable def cod6 : List Nat := [5211, 923, 1435, 2459, 4507, 1691, 2715, 4763, 3227, 5275, 1819, 2843, 4891, 3355, 5403, 491, 747, 1259, 2283, 4331, 875, 1387, 2411, 4459, 1643, 2667, 4715, 3179, 5227, 939, 1451, 2475, 4523]
noncomputable def cod7 : List Nat := [1707, 2731, 4779, 3243, 5291, 1835, 2859, 4907, 3371, 5419, 971, 1483, 2507, 4555, 1739, 2763, 4811, 3275, 5323, 1867, 2891, 4939, 3403, 5451, 499, 755, 1267, 2291, 4339, 883, 1395, 2419, 4467]
noncomputable def cod8 : List Nat := [1651, 2675, 4723, 3187, 5235, 947, 1459, 2483, 4531, 1715, 2739, 4787, 3251, 5299, 1843, 2867, 4915, 3379, 5427, 979, 1491, 2515, 4563, 1747, 2771, 4819, 3283, 5331, 1875, 2899, 4947, 3411, 5459]
noncomputable def cod9 : List Nat := [253, 381, 637, 1149, 2173, 4221, 445, 701, 1213, 2237, 4285, 829, 1341, 2365, 4413, 1597, 2621, 4669, 3133, 5181, 477, 733, 1245, 2269, 4317, 861, 1373, 2397, 4445, 1629, 2653, 4701, 3165]
noncomputable def cod10 : List Nat := [5213, 925, 1437, 2461, 4509, 1693, 2717, 4765, 3229, 5277, 1821, 2845, 4893, 3357, 5405, 493, 749, 1261, 2285, 4333, 877, 1389, 2413, 4461, 1645, 2669, 4717, 3181, 5229, 941, 1453, 2477, 4525]
noncomputable def cod11 : List Nat := [1709, 2733, 4781, 3245, 5293, 1837, 2861, 4909, 3373, 5421, 973, 1485, 2509, 4557, 1741, 2765, 4813, 3277, 5325, 1869, 2893, 4941, 3405, 5453, 501, 757, 1269, 2293, 4341, 885, 1397, 2421, 4469]
noncomputable def cod12 : List Nat := [1653, 2677, 4725, 3189, 5237, 949, 1461, 2485, 4533, 1717, 2741, 4789, 3253, 5301, 1845, 2869, 4917, 3381, 5429, 981, 1493, 2517, 4565, 1749, 2773, 4821, 3285, 5333, 1877, 2901, 4949, 3413, 5461]
theorem allD_eq : allD 14 = (cod0 ++ (cod1 ++ (cod2 ++ (cod3 ++ (cod4 ++ (cod5 ++ (cod6 ++ (cod7 ++ (cod8 ++ (cod9 ++ (cod10 ++ (cod11 ++ (cod12))))))))))))).map decD := by decide +kernel
theorem fin0 : (cod0.all fun c => fineC (decD c)) = true := by decide +kernel
theorem fin1 : (cod1.all fun c => fineC (decD c)) = true := by decide +kernel
theorem fin2 : (cod2.all fun c => fineC (decD c)) = true := by decide +kernel
theorem fin3 : (cod3.all fun c => fineC (decD c)) = true := by decide +kernel
theorem fin4 : (cod4.all fun c => fineC (decD c)) = true := by decide +kernel
theorem fin5 : (cod5.all fun c => fineC (decD c)) = true := by decide +kernel
theorem fin6 : (cod6.all fun c => fineC (decD c)) = true := by decide +kernel
theorem fin7 : (cod7.all fun c => fineC (decD c)) = true := by decide +kernel
theorem fin8 : (cod8.all fun c => fineC (decD c)) = true := by decide +kernel
theorem fin9 : (cod9.all fun c => fineC (decD c)) = true := by decide +kernel
theorem fin10 : (cod10.all fun c => fineC (decD c)) = true := by decide +kernel
theorem fin11 : (cod11.all fun c => fineC (decD c)) = true := by decide +kernel
theorem fin12 : (cod12.all fun c => fineC (decD c)) = true := by decide +kernel
theorem fine_all (n : Nat) : Fine (deedF n 14) := by
  have h := deed_mem n 14
  rw [allD_eq] at h
  obtain ⟨c, hc, e⟩ := List.mem_map.mp h
  rw [← e]
  refine fine_of ?_
  simp only [List.mem_append] at hc
  rcases hc with hc | hc | hc | hc | hc | hc | hc | hc | hc | hc | hc | hc | hc
  · exact List.all_eq_true.mp fin0 c hc
  · exact List.all_eq_true.mp fin1 c hc
  · exact List.all_eq_true.mp fin2 c hc
  · exact List.all_eq_true.mp fin3 c hc
  · exact List.all_eq_true.mp fin4 c hc
  · exact List.all_eq_true.mp fin5 c hc
  · exact List.all_eq_true.mp fin6 c hc
  · exact List.all_eq_true.mp fin7 c hc
  · exact List.all_eq_true.mp fin8 c hc
  · exact List.all_eq_true.mp fin9 c hc
  · exact List.all_eq_true.mp fin10 c hc
  · exact List.all_eq_true.mp fin11 c hc
  · exact List.all_eq_true.mp fin12 c hc
end
section -- P80
noncomputable def monoB (fr : Nat → Str) : Bool := (List.range 8).all fun i => (List.range 8).all fun j => decide ((fr i).cps.toList < (fr j).cps.toList) == decide (i < j)
theorem mono_of {fr : Nat → Str} (h : monoB fr = true) : Mono fr := fun i j hi hj => by
  have := List.all_eq_true.mp (List.all_eq_true.mp h i (List.mem_range.mpr (by omega))) j (List.mem_range.mpr (by omega))
  simpa using this
noncomputable def pieceB (t : Nat) : Bool := monoB (frontAt (piecesF t)) && decide ((piecesF t).length = 7) && decide (∀ p ∈ piecesF t, p.1.length + p.2.length ≤ 4)
theorem pieces_ok : ∀ t < 7, pieceB t = true := by decide +kernel
noncomputable def dueB (t h : Nat) : Bool := decide (fullText ((piecesF t).take h) = frontAt (piecesF t) h) && decide ((((piecesF t).take h).map plen).sum = ((frontAt (piecesF t) h).length : Int)) && decide (wsF 0 ((piecesF t).take h) = (Txt.strip (frontAt (piecesF t) h) == ("" : Str))) && decide ((frontAt (piecesF t) h).length ≤ 1000)
  && JoinOk "" (((piecesF t).take h).map ptext)
theorem due_ok : ∀ t < 7, ∀ h ≤ 7, dueB t h = true := by decide +kernel
theorem pieces_short : ∀ t < 7, ∀ p ∈ piecesF t, p.1.length ≤ 1000 ∧ p.2.length ≤ 1000 := fun t ht p hp => by
  have := pieces_ok t ht
  unfold pieceB at this
  simp only [Bool.and_eq_true, decide_eq_true_eq] at this
  have := this.2 p hp
  omega
theorem due_of {t h : Nat} {w : Int} (ht : t < 7) (hh : h ≤ 7) (hw : 0 ≤ w ∧ w < 4) : Due w ((piecesF t).take h) (frontAt (piecesF t) h) ∧ POk w ((piecesF t).take h) := by
  have d := due_ok t ht h hh
  unfold dueB at d
  simp only [Bool.and_eq_true, decide_eq_true_eq] at d
  obtain ⟨⟨⟨⟨d1, d2⟩, d3⟩, d4⟩, d5⟩ := d
  refine ⟨⟨d1, by unfold fullLen; rw [d2], ?_, d4⟩, ⟨fun p hp => pieces_short t ht p (List.mem_of_mem_take hp), d5, ?_, ?_, ?_⟩⟩
  · by_cases h0 : w = 0
    · subst h0; rw [d3]; simp
    · unfold wsF
      rw [beq_eq_false_iff_ne.mpr h0]; rfl
  · have := List.length_take_le h (piecesF t)
    omega
  · unfold fullLen; rw [d2]; omega
  · unfold fullLen; rw [d2]
    have : ((frontAt (piecesF t) h).length : Int) ≤ 1000 := by omega
    have h2 : (1004 : Int) < 2 ^ 62 := by decide
    omega
theorem piece_of {t : Nat} (ht : t < 7) : Mono (frontAt (piecesF t)) ∧ (piecesF t).length = 7 ∧ ∀ p ∈ piecesF t, p.1.length + p.2.length ≤ 4 := by
  have := pieces_ok t ht
  unfold pieceB at this
  simp only [Bool.and_eq_true, decide_eq_true_eq] at this
  exact ⟨mono_of this.1.1, this.1.2, this.2⟩
end
section -- P81
section
theorem TopH.alike {w : World} {H h : Heap} {mg mb : Str → Option Value} (T : TopH w h mg mb) (k : ∀ b, H.get? b = h.get? b) : TopH w H mg mb := by
  have hk : ∀ b o, h.get? b = some o → H.get? b = some o := fun b o e => (k b).trans e
  have fnk : ∀ f, FnO h f → FnO H f := fun f hf => by
    obtain ⟨o, fd, a, b1, b2, b3, b4, b5, b6, b7, b8, b9, b10, b11, b12⟩ := hf
    exact ⟨o, fd, hk _ _ a, b1, b2, b3, b4, b5, b6, b7, b8, b9, b10, b11, b12.keeps hk⟩
  refine ⟨T.nolim.keeps hk, fun cp hc => ?_, T.gl.keeps hk, T.bl.keeps hk, T.gn, T.bn, fun f hf => fnk f (T.fn f hf), fun t ht => ?_, fun d hd => ?_, ?_, ?_, ?_, fun f hf => ?_, T.gi, T.ge, fun c hc => ?_, ?_, fun cp hc => ?_, ?_⟩
  · obtain ⟨ps, i, _⟩ := T.tb cp hc
    obtain ⟨o, vs, file, tf, flags, tg, inF, text, tt, op, h1, _, _, _, _, _, _, h2, _⟩ := i.keeps hk
    exact ⟨Heap.lt_size h1, Heap.lt_size h2⟩
  · obtain ⟨a, n, e⟩ := T.df t ht
    exact ⟨a, n, hk _ _ e⟩
  · obtain ⟨a, b, n, e⟩ := T.kd d hd
    exact ⟨a, b, n, hk _ _ e⟩
  · obtain ⟨a, n, e⟩ := T.df1
    exact ⟨a, n, hk _ _ e⟩
  · obtain ⟨_, o, e, r⟩ := T.cc
    exact ⟨Heap.lt_size (hk _ _ e), o, hk _ _ e, r⟩
  · obtain ⟨a, b, e1, e2, r⟩ := T.acc
    exact ⟨a, b, hk _ _ e1, hk _ _ e2, r⟩
  · obtain ⟨a, o, e, r⟩ := T.mfn f hf
    exact ⟨fnk f a, o, hk _ _ e, r⟩
  · obtain ⟨oc, vs, file, t, e, r⟩ := T.cf c hc
    exact ⟨oc, vs, file, t, hk _ _ e, r⟩
  · obtain ⟨bm, ob, ⟨b1, b2, b3, b4, b5, b6, b7⟩, r⟩ := T.gm
    exact ⟨bm, ob, ⟨b1.keeps hk, b2, b3, hk _ _ b4, b5, b6, b7⟩, r⟩
  · obtain ⟨ps, i, t⟩ := T.tb cp hc
    exact ⟨ps, i.keeps hk, t.keeps hk⟩
  · obtain ⟨K, a, r⟩ := T.op
    exact ⟨K, fun p hp => ⟨hk _ _ (a p hp).1, (a p hp).2⟩, r⟩
/-- the same heap, without freed ones at its end -/
theorem trunc : ∀ (n : Nat) (h : Heap), h.objs.size = n → (∃ a o, h.get? a = some o) → ∃ H : Heap, (∀ b, H.get? b = h.get? b) ∧ ∃ o, H.get? (H.objs.size - 1) = some o
  | 0, h, hn, ⟨a, o, e⟩ => absurd (Heap.lt_size e) (by rw [hn]; exact Nat.not_lt_zero _)
  | n + 1, h, hn, he => by
    cases hl : h.get? n with
    | some o => exact ⟨h, fun _ => rfl, o, by rw [hn]; exact hl⟩
    | none =>
      obtain ⟨objs, l⟩ := h
      have hs : objs.size = n + 1 := hn
      have key : ∀ b : Nat, (Heap.mk objs.pop l).get? b = (Heap.mk objs l).get? b := fun b => by
        by_cases hb : b < n
        · unfold Heap.get?
          have : objs.pop[b]? = objs[b]? := by
            rw [Array.getElem?_pop, if_pos (by omega)]
          rw [this]
        · by_cases hb' : b = n
          · subst hb'
            rw [hl]
            exact Heap.get?_none_of_le (by show objs.pop.size ≤ b; rw [Array.size_pop]; omega)
          · rw [Heap.get?_none_of_le (by show objs.pop.size ≤ b; rw [Array.size_pop]; omega), Heap.get?_none_of_le (by show objs.size ≤ b; omega)]
      obtain ⟨a, o, e⟩ := he
      obtain ⟨H, h1, h2⟩ := trunc n ⟨objs.pop, l⟩ (by show objs.pop.size = n; rw [Array.size_pop]; omega) ⟨a, o, (key a).trans e⟩
      exact ⟨H, fun b => (h1 b).trans (key b), h2⟩
theorem oldK_alike {H h h' : Heap} (K : OldK H h') (k : ∀ b, H.get? b = h.get? b) : OldK h h' := by
  refine ⟨fun b o e => ?_, fun b o e => K.there b o ((k b).trans e)⟩
  rcases K.old b o ((k b).trans e) with x | ⟨t, r⟩ | ⟨rfl, hc, x, z⟩
  · exact .inl x
  · refine .inr (.inl ⟨?_, r⟩)
    obtain ⟨c, oc, vs, a, q⟩ := t
    exact ⟨c, oc, vs, (k c).symm.trans a, q⟩
  · refine .inr (.inr ⟨rfl, hc, x, fun key => ?_⟩)
    have := z key
    rw [OldK.staticOf_congr (k _) key] at this
    exact this
theorem fLaw_le (n : Int) (m : Int) (hm : 0 < m) : ∃ k : Nat, n.fmod m = (k : Int) ∧ (k : Int) < m := by
  have h1 := Int.fmod_nonneg_of_pos n hm
  have h2 := Int.fmod_lt_of_pos n hm
  exact ⟨(n.fmod m).toNat, by omega, by omega⟩
theorem lawRun {w : World} {s₁ : Shared} {mg mb : Str → Option Value} (TH : TopH w s₁.heap mg mb) (hg : s₁.gens = #[]) {la : Addr} {is : List Int} {xs : List Value} (hL : s₁.heap.IsList la xs.toArray) (hI : IntsAre xs is) (hl : is.length ≤ 63) :
    wpAny (model pr w) callerA (call (.ref 269) [.ref la]) (fun v s' => v = .bool true ∧ OldK s₁.heap s'.heap ∧ s'.os = s₁.os ∧ AllBare s'.gens) (fun _ _ => False) s₁ := by
  obtain ⟨oL, eL, rL⟩ := id hL
  obtain ⟨H, hH, oz, hz⟩ := trunc _ s₁.heap rfl ⟨la, oL, eL⟩
  let g : G := ⟨w, H, s₁.os, mg, mb, TH.alike hH⟩
  have hk : ∀ b o, s₁.heap.get? b = some o → H.get? b = some o := fun b o e => (hH b).trans e
  have hk' : ∀ b o, H.get? b = some o → s₁.heap.get? b = some o := fun b o e => (hH b).symm.trans e
  have gs : GoodS g [] s₁ := by
    refine ⟨⟨fun b o e _ => hk' _ _ e, ⟨oz, hz, ?_⟩, .of_keep hk', TH.tb⟩, nofun, nofun, List.nodup_nil, rfl, .of_eq hg⟩
    obtain ⟨o, fd, ho, _⟩ := g.top.fn fLaw (by walk_at "in")
    have := Heap.lt_size ho
    have h2 : fLaw.a = 269 := rfl
    rw [h2] at this
    intro hm
    simp only [tbls, List.mem_cons, List.not_mem_nil, or_false] at hm
    have e3 : g.H = H := rfl
    rw [e3] at this
    rcases hm with hm | hm
    · have hm' : (H.objs.size - 1 : Nat) = 99 := hm
      have this' : (269 : Nat) < H.objs.size := this
      omega
    · have hm' : (H.objs.size - 1 : Nat) = 106 := hm
      have this' : (269 : Nat) < H.objs.size := this
      omega
  have hla : la ∉ tbls := fun hm => by
    obtain ⟨ps, i, t⟩ : ∃ ps, H.IsCode (if la = 99 then 103 else 110) la ps ∧ H.TableAt (if la = 99 then 103 else 110) la ps := by
      simp only [tbls, List.mem_cons, List.not_mem_nil, or_false] at hm
      rcases hm with rfl | rfl
      · exact g.top.tb (103, 99) (by walk_at "in")
      · exact g.top.tb (110, 106) (by walk_at "in")
    have e1 := t.2
    rw [hH la, eL] at e1
    cases e1
    cases rL.1
  have old : OldList g la is := ⟨xs.toArray, ⟨oL, hk _ _ eL, rL⟩, by simpa using hI, hla⟩
  obtain ⟨n, hn, _⟩ := fLaw_le (13540 + (pickI is 0).sum) 16384 (by decide)
  obtain ⟨t, ht, ht7⟩ := fLaw_le ((8 + (pickI is 1).sum).fdiv 12) 7 (by decide)
  obtain ⟨wN, hw, hw4⟩ := fLaw_le (8 + (pickI is 1).sum) 4 (by decide)
  obtain ⟨k, hkk, hk3⟩ := fLaw_le ((8 + (pickI is 1).sum).fdiv 4) 3 (by decide)
  have ht' : t < 7 := by omega
  obtain ⟨p1, p2, p3⟩ := piece_of ht'
  refine wpAny_call (codeAny_mono (code_def (g := g) (f := fLaw) (ns := ["script"]) (n := 9) (args := [.ref la]) (Q := fun v _ => v = .bool true) (sto := []) (A := callerA) (s := s₁) (vals := [.ref la]) (by decide +kernel) (by decide +kernel) rfl gs (.cons (VR.ref _) .nil)
    (fn_of (g := g) (by walk_at "in")) (by decide) rfl (plain_1 fun fd v => rfl) rfl (by decide) (by decide) (by decide) (by decide) rfl rfl rfl fun C E hCn hCA => ?_) fun r s' ⟨v, x, sto', e, rv, g', x', q⟩ => ?_)
  rotate_left
  · subst e
    subst q
    cases rv
    exact ⟨rfl, oldK_alike g'.base.old hH, g'.os, g'.bare⟩
  · have hb := lawBody (g := g) (C := C) E (by omega) (by rw [hCA]; exact Around.frames_deeper rfl) old hl (sto := []) hn ht ht' hw hkk (by omega) (fine_all n) p1 rfl (fun h hh => (due_of ht' hh ⟨by omega, by omega⟩).2) (fun h hh => (due_of ht' hh ⟨by omega, by omega⟩).1) p2 p3
    exact hb.mono fun fl st' h => by subst h; rfl
end
end
section -- P82
section
open PySem.W
local macro_rules | `(tactic| walk_at "fno") => `(tactic| exact ⟨_, _, (by assumption : Frag.In _ _) _ _ rfl, rfl, rfl, rfl, rfl, rfl, rfl, rfl, rfl, rfl, rfl, rfl, ⟨_, _, _, _, rfl, (by assumption : Frag.In _ _) _ _ rfl, rfl, rfl⟩⟩)
theorem postT (is : List Int) : PySem.Challenge.rw_wu0071_01.row.claim.post [ofPy (PyData.list (List.map PyData.int is))] (WData.bool true) [ofPy (PyData.list (List.map PyData.int is))] = true := by
  show (WShape.has [] (.bool true) .bool && (WTm.eq .res (.lit (.bool true))).holds [] { args := [ofPy (PyData.list (List.map PyData.int is))], res := some (.bool true), after := [ofPy (PyData.list (List.map PyData.int is))] }) = true
  simp [WShape.has, WTm.holds, WTm.value, W.same, WShape.arms]
theorem op_of {H : Heap} {o : Obj} (e : H.get? cStatics = some o) (q : W.nsIn [(cStatics, o)] cStatics "thirdparty.any" = some none) : ∃ K : W.Frag, (∀ p ∈ K, H.get? p.1 = some p.2 ∧ p.1 ∉ tbls) ∧ W.nsIn K cStatics "thirdparty.any" = some none :=
  ⟨_, fun p hp => by rw [List.mem_singleton] at hp; subst hp; exact ⟨e, by show cStatics ∉ tbls; decide⟩, q⟩
abbrev rwl : OpenLaw := PySem.Challenge.rw_wu0071_01
def vwB : List Stmt := ([0, 7, 10, 11, 12, 13, 14, 15, 16, 17, 18, 19, 20, 21, 22, 23, 24, 25, 26, 27, 28, 29, 30, 31] : List Nat).filterMap fun i => PySem.Challenge.pw_wu0071_01.main.body[i]?
def vw : Program := { PySem.Challenge.pw_wu0071_01 with main := { PySem.Challenge.pw_wu0071_01.main with body := vwB } }
def lo : List PySem.Str := ["insort_right", "bisect_right", "insort_left", "bisect_left", "_Accumulator"]
def K0 (P : Params) : W.Frag := [
  (2, { cls := Value.none, data := Data.dict #[] }),
  (3, { cls := Value.type "dict", data := Data.dict #[{ hash := PyData.keyHash P (Str.ofString "__name__"), key := Value.str (Str.ofString "__name__") 165, val := Value.str (Str.ofString "law_wu0071_01") 386 }, { hash := PyData.keyHash P (Str.ofString "__doc__"), key := Value.str (Str.ofString "__doc__") 166, val := Value.none }, { hash := PyData.keyHash P (Str.ofString "__package__"), key := Value.str (Str.ofString "__package__") 167, val := Value.none }, { hash := PyData.keyHash P (Str.ofString "__loader__"), key := Value.str (Str.ofString "__loader__") 168, val := Value.builtin "__main__.__loader__#opaque" }, { hash := PyData.keyHash P (Str.ofString "__spec__"), key := Value.str (Str.ofString "__spec__") 169, val := Value.none }, { hash := PyData.keyHash P (Str.ofString "__annotations__"), key := Value.str (Str.ofString "__annotations__") 170, val := Value.ref 6 }, { hash := PyData.keyHash P (Str.ofString "__builtins__"), key := Value.str (Str.ofString "__builtins__") 171, val := Value.ref 4 }, { hash := PyData.keyHash P (Str.ofString "__file__"), key := Value.str (Str.ofString "__file__") 173, val := Value.str (Str.ofString "/claim/cut.py") 172 }, { hash := PyData.keyHash P (Str.ofString "__cached__"), key := Value.str (Str.ofString "__cached__") 174, val := Value.none }, { hash := PyData.keyHash P (Str.ofString "_wall"), key := Value.str (Str.ofString "_wall") 193, val := Value.ref 21 }, { hash := PyData.keyHash P (Str.ofString "insort_right"), key := Value.str (Str.ofString "insort_right") 208, val := Value.ref 30 }, { hash := PyData.keyHash P (Str.ofString "bisect_right"), key := Value.str (Str.ofString "bisect_right") 222, val := Value.ref 39 }, { hash := PyData.keyHash P (Str.ofString "insort_left"), key := Value.str (Str.ofString "insort_left") 235, val := Value.ref 48 }, { hash := PyData.keyHash P (Str.ofString "bisect_left"), key := Value.str (Str.ofString "bisect_left") 249, val := Value.ref 57 }, { hash := PyData.keyHash P (Str.ofString "EMPTYSTRING"), key := Value.str (Str.ofString "EMPTYSTRING") 253, val := Value.str (Str.ofString "") 252 }, { hash := PyData.keyHash P (Str.ofString "_Accumulator"), key := Value.str (Str.ofString "_Accumulator") 348, val := Value.ref 137 }, { hash := PyData.keyHash P (Str.ofString "_strcoll"), key := Value.str (Str.ofString "_strcoll") 358, val := Value.ref 148 }, { hash := PyData.keyHash P (Str.ofString "_strxfrm"), key := Value.str (Str.ofString "_strxfrm") 365, val := Value.ref 155 }, { hash := PyData.keyHash P (Str.ofString "CHAR_MAX"), key := Value.str (Str.ofString "CHAR_MAX") 367, val := Value.int 127 366 }, { hash := PyData.keyHash P (Str.ofString "_grouping_intervals"), key := Value.str (Str.ofString "_grouping_intervals") 376, val := Value.ref 162 }, { hash := PyData.keyHash P (Str.ofString "_build_localename"), key := Value.str (Str.ofString "_build_localename") 385, val := Value.ref 169 }, { hash := PyData.keyHash P (Str.ofString "_law_deeds"), key := Value.str (Str.ofString "_law_deeds") 393, val := Value.ref 174 }, { hash := PyData.keyHash P (Str.ofString "_law_pieces"), key := Value.str (Str.ofString "_law_pieces") 401, val := Value.ref 181 }, { hash := PyData.keyHash P (Str.ofString "_law_fronts"), key := Value.str (Str.ofString "_law_fronts") 411, val := Value.ref 188 }, { hash := PyData.keyHash P (Str.ofString "_law_key"), key := Value.str (Str.ofString "_law_key") 418, val := Value.ref 195 }, { hash := PyData.keyHash P (Str.ofString "_law_as_due"), key := Value.str (Str.ofString "_law_as_due") 429, val := Value.ref 202 }, { hash := PyData.keyHash P (Str.ofString "_law_deep"), key := Value.str (Str.ofString "_law_deep") 444, val := Value.ref 209 }, { hash := PyData.keyHash P (Str.ofString "_law_row"), key := Value.str (Str.ofString "_law_row") 457, val := Value.ref 216 }, { hash := PyData.keyHash P (Str.ofString "_law_area"), key := Value.str (Str.ofString "_law_area") 468, val := Value.ref 223 }, { hash := PyData.keyHash P (Str.ofString "_law_pairs"), key := Value.str (Str.ofString "_law_pairs") 474, val := Value.ref 228 }, { hash := PyData.keyHash P (Str.ofString "_law_corners"), key := Value.str (Str.ofString "_law_corners") 484, val := Value.ref 235 }, { hash := PyData.keyHash P (Str.ofString "_law_flat"), key := Value.str (Str.ofString "_law_flat") 490, val := Value.ref 240 }, { hash := PyData.keyHash P (Str.ofString "_law_sizes"), key := Value.str (Str.ofString "_law_sizes") 502, val := Value.ref 247 }, { hash := PyData.keyHash P (Str.ofString "_law_marks"), key := Value.str (Str.ofString "_law_marks") 508, val := Value.ref 252 }, { hash := PyData.keyHash P (Str.ofString "_law_refused"), key := Value.str (Str.ofString "_law_refused") 516, val := Value.ref 259 }, { hash := PyData.keyHash P (Str.ofString "_law_named"), key := Value.str (Str.ofString "_law_named") 522, val := Value.ref 264 }, { hash := PyData.keyHash P (Str.ofString "law"), key := Value.str (Str.ofString "law") 528, val := Value.ref 269 }] 37 }),
  (22, { cls := Value.type "tuple", data := Data.seq #[Value.int 0 196, Value.none] }),
  (23, { cls := Value.type "dict", data := Data.dict #[{ hash := PyData.keyHash P (Str.ofString "key"), key := Value.str (Str.ofString "key") 197, val := Value.none }] 1 }),
  (29, { cls := Value.type "code", data := Data.fields #[Value.str (Str.ofString "insort_right") 198, Value.str (Str.ofString "insort_right") 199, Value.str (Str.ofString "/claim/cut.py") 200, Value.int 5 0, Value.int 4 0, Value.int 0 0, Value.int 1 0, Value.int 3 0, Value.ref 24, Value.bool true, Value.int 181 0, Value.ref 25, Value.none, Value.ref 26, Value.ref 27, Value.ref 28, Value.int 206 0, Value.int 5 0, Value.str (Str.ofString "/claim/cut.py") 207] }),
  (30, { cls := Value.type "function", dict := none, data := Data.func { name := Str.ofString "insort_right", qualname := Str.ofString "insort_right", params := fIR.ps, body := .stmts fIR.body, scope := fIR.sc, globals := 3, closure := [], defaults := Value.ref 22, kwdefaults := Value.ref 23, doc := Value.none, pyModule := Value.str (Str.ofString "cpy313.bisect") 194, annotations := none, code := Value.ref 29, closureTuple := Value.none, builtins := 0 }, slots := #[] }),
  (31, { cls := Value.type "tuple", data := Data.seq #[Value.int 0 209, Value.none] }),
  (32, { cls := Value.type "dict", data := Data.dict #[{ hash := PyData.keyHash P (Str.ofString "key"), key := Value.str (Str.ofString "key") 210, val := Value.none }] 1 }),
  (38, { cls := Value.type "code", data := Data.fields #[Value.str (Str.ofString "bisect_right") 211, Value.str (Str.ofString "bisect_right") 212, Value.str (Str.ofString "/claim/cut.py") 213, Value.int 11 0, Value.int 4 0, Value.int 0 0, Value.int 1 0, Value.int 3 0, Value.ref 33, Value.bool true, Value.int 181 0, Value.ref 34, Value.none, Value.ref 35, Value.ref 36, Value.ref 37, Value.int 220 0, Value.int 11 0, Value.str (Str.ofString "/claim/cut.py") 221] }),
  (39, { cls := Value.type "function", dict := none, data := Data.func { name := Str.ofString "bisect_right", qualname := Str.ofString "bisect_right", params := fBR.ps, body := .stmts fBR.body, scope := fBR.sc, globals := 3, closure := [], defaults := Value.ref 31, kwdefaults := Value.ref 32, doc := Value.none, pyModule := Value.str (Str.ofString "cpy313.bisect") 194, annotations := none, code := Value.ref 38, closureTuple := Value.none, builtins := 0 }, slots := #[] }),
  (40, { cls := Value.type "tuple", data := Data.seq #[Value.int 0 223, Value.none] }),
  (41, { cls := Value.type "dict", data := Data.dict #[{ hash := PyData.keyHash P (Str.ofString "key"), key := Value.str (Str.ofString "key") 224, val := Value.none }] 1 }),
  (47, { cls := Value.type "code", data := Data.fields #[Value.str (Str.ofString "insort_left") 225, Value.str (Str.ofString "insort_left") 226, Value.str (Str.ofString "/claim/cut.py") 227, Value.int 31 0, Value.int 4 0, Value.int 0 0, Value.int 1 0, Value.int 3 0, Value.ref 42, Value.bool true, Value.int 181 0, Value.ref 43, Value.none, Value.ref 44, Value.ref 45, Value.ref 46, Value.int 233 0, Value.int 31 0, Value.str (Str.ofString "/claim/cut.py") 234] }),
  (48, { cls := Value.type "function", dict := none, data := Data.func { name := Str.ofString "insort_left", qualname := Str.ofString "insort_left", params := fIL.ps, body := .stmts fIL.body, scope := fIL.sc, globals := 3, closure := [], defaults := Value.ref 40, kwdefaults := Value.ref 41, doc := Value.none, pyModule := Value.str (Str.ofString "cpy313.bisect") 194, annotations := none, code := Value.ref 47, closureTuple := Value.none, builtins := 0 }, slots := #[] }),
  (49, { cls := Value.type "tuple", data := Data.seq #[Value.int 0 236, Value.none] }),
  (50, { cls := Value.type "dict", data := Data.dict #[{ hash := PyData.keyHash P (Str.ofString "key"), key := Value.str (Str.ofString "key") 237, val := Value.none }] 1 }),
  (56, { cls := Value.type "code", data := Data.fields #[Value.str (Str.ofString "bisect_left") 238, Value.str (Str.ofString "bisect_left") 239, Value.str (Str.ofString "/claim/cut.py") 240, Value.int 37 0, Value.int 4 0, Value.int 0 0, Value.int 1 0, Value.int 3 0, Value.ref 51, Value.bool true, Value.int 181 0, Value.ref 52, Value.none, Value.ref 53, Value.ref 54, Value.ref 55, Value.int 247 0, Value.int 37 0, Value.str (Str.ofString "/claim/cut.py") 248] }),
  (57, { cls := Value.type "function", dict := none, data := Data.func { name := Str.ofString "bisect_left", qualname := Str.ofString "bisect_left", params := fBL.ps, body := .stmts fBL.body, scope := fBL.sc, globals := 3, closure := [], defaults := Value.ref 49, kwdefaults := Value.ref 50, doc := Value.none, pyModule := Value.str (Str.ofString "cpy313.bisect") 194, annotations := none, code := Value.ref 56, closureTuple := Value.none, builtins := 0 }, slots := #[] }),
  (61, { cls := Value.type "cell", data := Data.cell (some (Value.ref 137)) }),
  (66, { cls := Value.type "tuple", data := Data.seq #[Value.int 0 266] }),
  (73, { cls := Value.type "code", data := Data.fields #[Value.str (Str.ofString "__init__") 267, Value.str (Str.ofString "_Accumulator.__init__") 268, Value.str (Str.ofString "/claim/cut.py") 269, Value.int 61 0, Value.int 2 0, Value.int 0 0, Value.int 0 0, Value.int 3 0, Value.ref 68, Value.bool true, Value.int 181 0, Value.ref 69, Value.none, Value.ref 70, Value.ref 71, Value.ref 72, Value.int 273 0, Value.int 61 0, Value.str (Str.ofString "/claim/cut.py") 274] }),
  (74, { cls := Value.type "function", dict := none, data := Data.func { name := Str.ofString "__init__", qualname := Str.ofString "_Accumulator.__init__", params := fInit.ps, body := .stmts fInit.body, scope := fInit.sc, globals := 3, closure := [(Str.ofString "__class__", 61)], defaults := Value.ref 66, kwdefaults := Value.none, doc := Value.none, pyModule := Value.str (Str.ofString "cpy313.email.header") 250, annotations := none, code := Value.ref 73, closureTuple := Value.ref 67, builtins := 0 }, slots := #[] }),
  (80, { cls := Value.type "code", data := Data.fields #[Value.str (Str.ofString "push") 276, Value.str (Str.ofString "_Accumulator.push") 277, Value.str (Str.ofString "/claim/cut.py") 278, Value.int 65 0, Value.int 3 0, Value.int 0 0, Value.int 0 0, Value.int 3 0, Value.ref 75, Value.bool true, Value.int 181 0, Value.ref 76, Value.none, Value.ref 77, Value.ref 78, Value.ref 79, Value.int 282 0, Value.int 65 0, Value.str (Str.ofString "/claim/cut.py") 283] }),
  (81, { cls := Value.type "function", dict := none, data := Data.func { name := Str.ofString "push", qualname := Str.ofString "_Accumulator.push", params := fPush.ps, body := .stmts fPush.body, scope := fPush.sc, globals := 3, closure := [], defaults := Value.none, kwdefaults := Value.none, doc := Value.none, pyModule := Value.str (Str.ofString "cpy313.email.header") 250, annotations := none, code := Value.ref 80, closureTuple := Value.none, builtins := 0 }, slots := #[] }),
  (96, { cls := Value.type "code", data := Data.fields #[Value.str (Str.ofString "pop") 294, Value.str (Str.ofString "_Accumulator.pop") 295, Value.str (Str.ofString "/claim/cut.py") 296, Value.int 71 0, Value.int 1 0, Value.int 0 0, Value.int 0 0, Value.int 3 0, Value.ref 91, Value.bool true, Value.int 181 0, Value.ref 92, Value.none, Value.ref 93, Value.ref 94, Value.ref 95, Value.int 299 0, Value.int 71 0, Value.str (Str.ofString "/claim/cut.py") 300] }),
  (97, { cls := Value.type "function", dict := none, data := Data.func { name := Str.ofString "pop", qualname := Str.ofString "_Accumulator.pop", params := fPop.ps, body := .stmts fPop.body, scope := fPop.sc, globals := 3, closure := [(Str.ofString "__class__", 61)], defaults := Value.none, kwdefaults := Value.none, doc := Value.none, pyModule := Value.str (Str.ofString "cpy313.email.header") 250, annotations := none, code := Value.ref 96, closureTuple := Value.ref 90, builtins := 0 }, slots := #[] }),
  (99, { cls := Value.none, data := Data.fields #[] }),
  (103, { cls := Value.type "code", data := Data.fields #[Value.str (Str.ofString "__len__") 302, Value.str (Str.ofString "_Accumulator.__len__") 303, Value.str (Str.ofString "/claim/cut.py") 304, Value.int 76 0, Value.int 1 0, Value.int 0 0, Value.int 0 0, Value.int 3 0, Value.ref 98, Value.bool true, Value.int 181 0, Value.ref 99, Value.none, Value.ref 100, Value.ref 101, Value.ref 102, Value.int 306 0, Value.int 76 0, Value.str (Str.ofString "/claim/cut.py") 307] }),
  (104, { cls := Value.type "function", dict := none, data := Data.func { name := Str.ofString "__len__", qualname := Str.ofString "_Accumulator.__len__", params := fLen.ps, body := .stmts fLen.body, scope := fLen.sc, globals := 3, closure := [], defaults := Value.none, kwdefaults := Value.none, doc := Value.none, pyModule := Value.str (Str.ofString "cpy313.email.header") 250, annotations := none, code := Value.ref 103, closureTuple := Value.none, builtins := 0 }, slots := #[] }),
  (106, { cls := Value.none, data := Data.fields #[] }),
  (110, { cls := Value.type "code", data := Data.fields #[Value.str (Str.ofString "__str__") 309, Value.str (Str.ofString "_Accumulator.__str__") 310, Value.str (Str.ofString "/claim/cut.py") 311, Value.int 79 0, Value.int 1 0, Value.int 0 0, Value.int 0 0, Value.int 3 0, Value.ref 105, Value.bool true, Value.int 181 0, Value.ref 106, Value.none, Value.ref 107, Value.ref 108, Value.ref 109, Value.int 313 0, Value.int 79 0, Value.str (Str.ofString "/claim/cut.py") 314] }),
  (111, { cls := Value.type "function", dict := none, data := Data.func { name := Str.ofString "__str__", qualname := Str.ofString "_Accumulator.__str__", params := fStr.ps, body := .stmts fStr.body, scope := fStr.sc, globals := 3, closure := [], defaults := Value.none, kwdefaults := Value.none, doc := Value.none, pyModule := Value.str (Str.ofString "cpy313.email.header") 250, annotations := none, code := Value.ref 110, closureTuple := Value.none, builtins := 0 }, slots := #[] }),
  (125, { cls := Value.type "code", data := Data.fields #[Value.str (Str.ofString "is_onlyws") 324, Value.str (Str.ofString "_Accumulator.is_onlyws") 325, Value.str (Str.ofString "/claim/cut.py") 326, Value.int 85 0, Value.int 1 0, Value.int 0 0, Value.int 0 0, Value.int 3 0, Value.ref 120, Value.bool true, Value.int 181 0, Value.ref 121, Value.none, Value.ref 122, Value.ref 123, Value.ref 124, Value.int 328 0, Value.int 85 0, Value.str (Str.ofString "/claim/cut.py") 329] }),
  (126, { cls := Value.type "function", dict := none, data := Data.func { name := Str.ofString "is_onlyws", qualname := Str.ofString "_Accumulator.is_onlyws", params := fWs.ps, body := .stmts fWs.body, scope := fWs.sc, globals := 3, closure := [], defaults := Value.none, kwdefaults := Value.none, doc := Value.none, pyModule := Value.str (Str.ofString "cpy313.email.header") 250, annotations := none, code := Value.ref 125, closureTuple := Value.none, builtins := 0 }, slots := #[] }),
  (133, { cls := Value.type "code", data := Data.fields #[Value.str (Str.ofString "part_count") 331, Value.str (Str.ofString "_Accumulator.part_count") 332, Value.str (Str.ofString "/claim/cut.py") 333, Value.int 88 0, Value.int 1 0, Value.int 0 0, Value.int 0 0, Value.int 3 0, Value.ref 128, Value.bool true, Value.int 181 0, Value.ref 129, Value.none, Value.ref 130, Value.ref 131, Value.ref 132, Value.int 336 0, Value.int 88 0, Value.str (Str.ofString "/claim/cut.py") 337] }),
  (134, { cls := Value.type "function", dict := none, data := Data.func { name := Str.ofString "part_count", qualname := Str.ofString "_Accumulator.part_count", params := fCnt.ps, body := .stmts fCnt.body, scope := fCnt.sc, globals := 3, closure := [(Str.ofString "__class__", 61)], defaults := Value.none, kwdefaults := Value.none, doc := Value.none, pyModule := Value.str (Str.ofString "cpy313.email.header") 250, annotations := none, code := Value.ref 133, closureTuple := Value.ref 127, builtins := 0 }, slots := #[] }),
  (136, { cls := Value.type "dict", data := Data.dict #[{ hash := PyData.keyHash P (Str.ofString "__module__"), key := Value.str (Str.ofString "__module__") 261, val := Value.str (Str.ofString "cpy313.email.header") 250 }, { hash := PyData.keyHash P (Str.ofString "__firstlineno__"), key := Value.str (Str.ofString "__firstlineno__") 265, val := Value.int 59 264 }, { hash := PyData.keyHash P (Str.ofString "__init__"), key := Value.str (Str.ofString "__init__") 275, val := Value.ref 74 }, { hash := PyData.keyHash P (Str.ofString "push"), key := Value.str (Str.ofString "push") 284, val := Value.ref 81 }, { hash := PyData.keyHash P (Str.ofString "pop_from"), key := Value.str (Str.ofString "pop_from") 293, val := Value.ref 89 }, { hash := PyData.keyHash P (Str.ofString "pop"), key := Value.str (Str.ofString "pop") 301, val := Value.ref 97 }, { hash := PyData.keyHash P (Str.ofString "__len__"), key := Value.str (Str.ofString "__len__") 308, val := Value.ref 104 }, { hash := PyData.keyHash P (Str.ofString "__str__"), key := Value.str (Str.ofString "__str__") 315, val := Value.ref 111 }, { hash := PyData.keyHash P (Str.ofString "reset"), key := Value.str (Str.ofString "reset") 323, val := Value.ref 119 }, { hash := PyData.keyHash P (Str.ofString "is_onlyws"), key := Value.str (Str.ofString "is_onlyws") 330, val := Value.ref 126 }, { hash := PyData.keyHash P (Str.ofString "part_count"), key := Value.str (Str.ofString "part_count") 338, val := Value.ref 134 }, { hash := PyData.keyHash P (Str.ofString "__static_attributes__"), key := Value.str (Str.ofString "__static_attributes__") 340, val := Value.ref 135 }, { hash := PyData.keyHash P (Str.ofString "__dict__"), key := Value.str (Str.ofString "__dict__") 343, val := Value.ref 138 }, { hash := PyData.keyHash P (Str.ofString "__weakref__"), key := Value.str (Str.ofString "__weakref__") 345, val := Value.ref 139 }, { hash := PyData.keyHash P (Str.ofString "__doc__"), key := Value.str (Str.ofString "__doc__") 346, val := Value.none }] 5 }),
  (137, { cls := Value.type "type", data := Data.cls { name := Str.ofString "_Accumulator", bases := [Value.type "list"], mro := [Value.ref 137, Value.type "list", Value.type "object"], ns := 136, qualname := Str.ofString "_Accumulator" }, slots := #[some (Value.ref 58), none, some (Value.str (Str.ofString "_Accumulator") 254), some (Value.str (Str.ofString "_Accumulator") 262), some (Value.builtin "list.__new__"), some (Value.bool true)] }),
  (147, { cls := Value.type "code", data := Data.fields #[Value.str (Str.ofString "_strcoll") 351, Value.str (Str.ofString "_strcoll") 352, Value.str (Str.ofString "/claim/cut.py") 353, Value.int 91 0, Value.int 2 0, Value.int 0 0, Value.int 0 0, Value.int 3 0, Value.ref 142, Value.bool true, Value.int 181 0, Value.ref 143, Value.none, Value.ref 144, Value.ref 145, Value.ref 146, Value.int 356 0, Value.int 91 0, Value.str (Str.ofString "/claim/cut.py") 357] }),
  (148, { cls := Value.type "function", dict := none, data := Data.func { name := Str.ofString "_strcoll", qualname := Str.ofString "_strcoll", params := fCo.ps, body := .stmts fCo.body, scope := fCo.sc, globals := 3, closure := [], defaults := Value.none, kwdefaults := Value.none, doc := Value.none, pyModule := Value.str (Str.ofString "cpy313.locale") 349, annotations := none, code := Value.ref 147, closureTuple := Value.none, builtins := 0 }, slots := #[] }),
  (154, { cls := Value.type "code", data := Data.fields #[Value.str (Str.ofString "_strxfrm") 359, Value.str (Str.ofString "_strxfrm") 360, Value.str (Str.ofString "/claim/cut.py") 361, Value.int 93 0, Value.int 1 0, Value.int 0 0, Value.int 0 0, Value.int 3 0, Value.ref 149, Value.bool true, Value.int 181 0, Value.ref 150, Value.none, Value.ref 151, Value.ref 152, Value.ref 153, Value.int 363 0, Value.int 93 0, Value.str (Str.ofString "/claim/cut.py") 364] }),
  (155, { cls := Value.type "function", dict := none, data := Data.func { name := Str.ofString "_strxfrm", qualname := Str.ofString "_strxfrm", params := fXf.ps, body := .stmts fXf.body, scope := fXf.sc, globals := 3, closure := [], defaults := Value.none, kwdefaults := Value.none, doc := Value.none, pyModule := Value.str (Str.ofString "cpy313.locale") 349, annotations := none, code := Value.ref 154, closureTuple := Value.none, builtins := 0 }, slots := #[] }),
  (161, { cls := Value.type "code", data := Data.fields #[Value.str (Str.ofString "_grouping_intervals") 368, Value.str (Str.ofString "_grouping_intervals") 369, Value.str (Str.ofString "/claim/cut.py") 370, Value.int 96 0, Value.int 1 0, Value.int 0 0, Value.int 0 0, Value.int 35 0, Value.ref 156, Value.bool true, Value.int 181 0, Value.ref 157, Value.none, Value.ref 158, Value.ref 159, Value.ref 160, Value.int 374 0, Value.int 96 0, Value.str (Str.ofString "/claim/cut.py") 375] }),
  (162, { cls := Value.type "function", dict := none, data := Data.func { name := Str.ofString "_grouping_intervals", qualname := Str.ofString "_grouping_intervals", params := fGI.ps, body := .stmts fGI.body, scope := fGI.sc, globals := 3, closure := [], defaults := Value.none, kwdefaults := Value.none, doc := Value.none, pyModule := Value.str (Str.ofString "cpy313.locale") 349, annotations := none, code := Value.ref 161, closureTuple := Value.none, builtins := 0 }, slots := #[] }),
  (168, { cls := Value.type "code", data := Data.fields #[Value.str (Str.ofString "_build_localename") 377, Value.str (Str.ofString "_build_localename") 378, Value.str (Str.ofString "/claim/cut.py") 379, Value.int 108 0, Value.int 1 0, Value.int 0 0, Value.int 0 0, Value.int 3 0, Value.ref 163, Value.bool true, Value.int 181 0, Value.ref 164, Value.none, Value.ref 165, Value.ref 166, Value.ref 167, Value.int 383 0, Value.int 108 0, Value.str (Str.ofString "/claim/cut.py") 384] }),
  (169, { cls := Value.type "function", dict := none, data := Data.func { name := Str.ofString "_build_localename", qualname := Str.ofString "_build_localename", params := fBN.ps, body := .stmts fBN.body, scope := fBN.sc, globals := 3, closure := [], defaults := Value.none, kwdefaults := Value.none, doc := Value.none, pyModule := Value.str (Str.ofString "cpy313.locale") 349, annotations := none, code := Value.ref 168, closureTuple := Value.none, builtins := 0 }, slots := #[] }),
  (173, { cls := Value.type "code", data := Data.fields #[Value.str (Str.ofString "_law_deeds") 388, Value.str (Str.ofString "_law_deeds") 389, Value.str (Str.ofString "/claim/cut.py") 390, Value.int 120 0, Value.int 1 0, Value.int 0 0, Value.int 0 0, Value.int 3 0, Value.ref 170, Value.bool true, Value.int 181 0, Value.ref 171, Value.none, Value.none, Value.none, Value.ref 172, Value.int 391 0, Value.int 120 0, Value.str (Str.ofString "/claim/cut.py") 392] }),
  (174, { cls := Value.type "function", dict := none, data := Data.func { name := Str.ofString "_law_deeds", qualname := Str.ofString "_law_deeds", params := fDeeds.ps, body := .stmts fDeeds.body, scope := fDeeds.sc, globals := 3, closure := [], defaults := Value.none, kwdefaults := Value.none, doc := Value.none, pyModule := Value.str (Str.ofString "law_wu0071_01") 386, annotations := none, code := Value.ref 173, closureTuple := Value.none, builtins := 0 }, slots := #[] }),
  (180, { cls := Value.type "code", data := Data.fields #[Value.str (Str.ofString "_law_pieces") 394, Value.str (Str.ofString "_law_pieces") 395, Value.str (Str.ofString "/claim/cut.py") 396, Value.int 126 0, Value.int 1 0, Value.int 0 0, Value.int 0 0, Value.int 3 0, Value.ref 175, Value.bool true, Value.int 181 0, Value.ref 176, Value.none, Value.ref 177, Value.ref 178, Value.ref 179, Value.int 399 0, Value.int 126 0, Value.str (Str.ofString "/claim/cut.py") 400] }),
  (181, { cls := Value.type "function", dict := none, data := Data.func { name := Str.ofString "_law_pieces", qualname := Str.ofString "_law_pieces", params := fPieces.ps, body := .stmts fPieces.body, scope := fPieces.sc, globals := 3, closure := [], defaults := Value.none, kwdefaults := Value.none, doc := Value.none, pyModule := Value.str (Str.ofString "law_wu0071_01") 386, annotations := none, code := Value.ref 180, closureTuple := Value.none, builtins := 0 }, slots := #[] }),
  (187, { cls := Value.type "code", data := Data.fields #[Value.str (Str.ofString "_law_fronts") 402, Value.str (Str.ofString "_law_fronts") 403, Value.str (Str.ofString "/claim/cut.py") 404, Value.int 129 0, Value.int 1 0, Value.int 0 0, Value.int 0 0, Value.int 3 0, Value.ref 182, Value.bool true, Value.int 181 0, Value.ref 183, Value.none, Value.ref 184, Value.ref 185, Value.ref 186, Value.int 409 0, Value.int 129 0, Value.str (Str.ofString "/claim/cut.py") 410] }),
  (188, { cls := Value.type "function", dict := none, data := Data.func { name := Str.ofString "_law_fronts", qualname := Str.ofString "_law_fronts", params := fFronts.ps, body := .stmts fFronts.body, scope := fFronts.sc, globals := 3, closure := [], defaults := Value.none, kwdefaults := Value.none, doc := Value.none, pyModule := Value.str (Str.ofString "law_wu0071_01") 386, annotations := none, code := Value.ref 187, closureTuple := Value.none, builtins := 0 }, slots := #[] }),
  (194, { cls := Value.type "code", data := Data.fields #[Value.str (Str.ofString "_law_key") 412, Value.str (Str.ofString "_law_key") 413, Value.str (Str.ofString "/claim/cut.py") 414, Value.int 134 0, Value.int 1 0, Value.int 0 0, Value.int 0 0, Value.int 3 0, Value.ref 189, Value.bool true, Value.int 181 0, Value.ref 190, Value.none, Value.ref 191, Value.ref 192, Value.ref 193, Value.int 416 0, Value.int 134 0, Value.str (Str.ofString "/claim/cut.py") 417] }),
  (195, { cls := Value.type "function", dict := none, data := Data.func { name := Str.ofString "_law_key", qualname := Str.ofString "_law_key", params := fKey.ps, body := .stmts fKey.body, scope := fKey.sc, globals := 3, closure := [], defaults := Value.none, kwdefaults := Value.none, doc := Value.none, pyModule := Value.str (Str.ofString "law_wu0071_01") 386, annotations := none, code := Value.ref 194, closureTuple := Value.none, builtins := 0 }, slots := #[] }),
  (201, { cls := Value.type "code", data := Data.fields #[Value.str (Str.ofString "_law_as_due") 419, Value.str (Str.ofString "_law_as_due") 420, Value.str (Str.ofString "/claim/cut.py") 421, Value.int 136 0, Value.int 4 0, Value.int 0 0, Value.int 0 0, Value.int 3 0, Value.ref 196, Value.bool true, Value.int 181 0, Value.ref 197, Value.none, Value.ref 198, Value.ref 199, Value.ref 200, Value.int 427 0, Value.int 136 0, Value.str (Str.ofString "/claim/cut.py") 428] }),
  (202, { cls := Value.type "function", dict := none, data := Data.func { name := Str.ofString "_law_as_due", qualname := Str.ofString "_law_as_due", params := fDue.ps, body := .stmts fDue.body, scope := fDue.sc, globals := 3, closure := [], defaults := Value.none, kwdefaults := Value.none, doc := Value.none, pyModule := Value.str (Str.ofString "law_wu0071_01") 386, annotations := none, code := Value.ref 201, closureTuple := Value.none, builtins := 0 }, slots := #[] }),
  (208, { cls := Value.type "code", data := Data.fields #[Value.str (Str.ofString "_law_deep") 430, Value.str (Str.ofString "_law_deep") 431, Value.str (Str.ofString "/claim/cut.py") 432, Value.int 139 0, Value.int 4 0, Value.int 0 0, Value.int 0 0, Value.int 3 0, Value.ref 203, Value.bool true, Value.int 181 0, Value.ref 204, Value.none, Value.ref 205, Value.ref 206, Value.ref 207, Value.int 442 0, Value.int 139 0, Value.str (Str.ofString "/claim/cut.py") 443] }),
  (209, { cls := Value.type "function", dict := none, data := Data.func { name := Str.ofString "_law_deep", qualname := Str.ofString "_law_deep", params := fDeep.ps, body := .stmts fDeep.body, scope := fDeep.sc, globals := 3, closure := [], defaults := Value.none, kwdefaults := Value.none, doc := Value.none, pyModule := Value.str (Str.ofString "law_wu0071_01") 386, annotations := none, code := Value.ref 208, closureTuple := Value.none, builtins := 0 }, slots := #[] }),
  (215, { cls := Value.type "code", data := Data.fields #[Value.str (Str.ofString "_law_row") 445, Value.str (Str.ofString "_law_row") 446, Value.str (Str.ofString "/claim/cut.py") 447, Value.int 159 0, Value.int 1 0, Value.int 0 0, Value.int 0 0, Value.int 3 0, Value.ref 210, Value.bool true, Value.int 181 0, Value.ref 211, Value.none, Value.ref 212, Value.ref 213, Value.ref 214, Value.int 455 0, Value.int 159 0, Value.str (Str.ofString "/claim/cut.py") 456] }),
  (216, { cls := Value.type "function", dict := none, data := Data.func { name := Str.ofString "_law_row", qualname := Str.ofString "_law_row", params := fRow.ps, body := .stmts fRow.body, scope := fRow.sc, globals := 3, closure := [], defaults := Value.none, kwdefaults := Value.none, doc := Value.none, pyModule := Value.str (Str.ofString "law_wu0071_01") 386, annotations := none, code := Value.ref 215, closureTuple := Value.none, builtins := 0 }, slots := #[] }),
  (222, { cls := Value.type "code", data := Data.fields #[Value.str (Str.ofString "_law_area") 458, Value.str (Str.ofString "_law_area") 459, Value.str (Str.ofString "/claim/cut.py") 460, Value.int 172 0, Value.int 1 0, Value.int 0 0, Value.int 0 0, Value.int 3 0, Value.ref 217, Value.bool true, Value.int 181 0, Value.ref 218, Value.none, Value.ref 219, Value.ref 220, Value.ref 221, Value.int 466 0, Value.int 172 0, Value.str (Str.ofString "/claim/cut.py") 467] }),
  (223, { cls := Value.type "function", dict := none, data := Data.func { name := Str.ofString "_law_area", qualname := Str.ofString "_law_area", params := fArea.ps, body := .stmts fArea.body, scope := fArea.sc, globals := 3, closure := [], defaults := Value.none, kwdefaults := Value.none, doc := Value.none, pyModule := Value.str (Str.ofString "law_wu0071_01") 386, annotations := none, code := Value.ref 222, closureTuple := Value.none, builtins := 0 }, slots := #[] }),
  (227, { cls := Value.type "code", data := Data.fields #[Value.str (Str.ofString "_law_pairs") 469, Value.str (Str.ofString "_law_pairs") 470, Value.str (Str.ofString "/claim/cut.py") 471, Value.int 182 0, Value.int 2 0, Value.int 0 0, Value.int 0 0, Value.int 3 0, Value.ref 224, Value.bool true, Value.int 181 0, Value.ref 225, Value.none, Value.none, Value.none, Value.ref 226, Value.int 472 0, Value.int 182 0, Value.str (Str.ofString "/claim/cut.py") 473] }),
  (228, { cls := Value.type "function", dict := none, data := Data.func { name := Str.ofString "_law_pairs", qualname := Str.ofString "_law_pairs", params := fPairs.ps, body := .stmts fPairs.body, scope := fPairs.sc, globals := 3, closure := [], defaults := Value.none, kwdefaults := Value.none, doc := Value.none, pyModule := Value.str (Str.ofString "law_wu0071_01") 386, annotations := none, code := Value.ref 227, closureTuple := Value.none, builtins := 0 }, slots := #[] }),
  (234, { cls := Value.type "code", data := Data.fields #[Value.str (Str.ofString "_law_corners") 475, Value.str (Str.ofString "_law_corners") 476, Value.str (Str.ofString "/claim/cut.py") 477, Value.int 188 0, Value.int 2 0, Value.int 0 0, Value.int 0 0, Value.int 3 0, Value.ref 229, Value.bool true, Value.int 181 0, Value.ref 230, Value.none, Value.ref 231, Value.ref 232, Value.ref 233, Value.int 482 0, Value.int 188 0, Value.str (Str.ofString "/claim/cut.py") 483] }),
  (235, { cls := Value.type "function", dict := none, data := Data.func { name := Str.ofString "_law_corners", qualname := Str.ofString "_law_corners", params := fCorners.ps, body := .stmts fCorners.body, scope := fCorners.sc, globals := 3, closure := [], defaults := Value.none, kwdefaults := Value.none, doc := Value.none, pyModule := Value.str (Str.ofString "law_wu0071_01") 386, annotations := none, code := Value.ref 234, closureTuple := Value.none, builtins := 0 }, slots := #[] }),
  (239, { cls := Value.type "code", data := Data.fields #[Value.str (Str.ofString "_law_flat") 485, Value.str (Str.ofString "_law_flat") 486, Value.str (Str.ofString "/claim/cut.py") 487, Value.int 194 0, Value.int 2 0, Value.int 0 0, Value.int 0 0, Value.int 3 0, Value.ref 236, Value.bool true, Value.int 181 0, Value.ref 237, Value.none, Value.none, Value.none, Value.ref 238, Value.int 488 0, Value.int 194 0, Value.str (Str.ofString "/claim/cut.py") 489] }),
  (240, { cls := Value.type "function", dict := none, data := Data.func { name := Str.ofString "_law_flat", qualname := Str.ofString "_law_flat", params := fFlat.ps, body := .stmts fFlat.body, scope := fFlat.sc, globals := 3, closure := [], defaults := Value.none, kwdefaults := Value.none, doc := Value.none, pyModule := Value.str (Str.ofString "law_wu0071_01") 386, annotations := none, code := Value.ref 239, closureTuple := Value.none, builtins := 0 }, slots := #[] }),
  (246, { cls := Value.type "code", data := Data.fields #[Value.str (Str.ofString "_law_sizes") 491, Value.str (Str.ofString "_law_sizes") 492, Value.str (Str.ofString "/claim/cut.py") 493, Value.int 206 0, Value.int 2 0, Value.int 0 0, Value.int 0 0, Value.int 3 0, Value.ref 241, Value.bool true, Value.int 181 0, Value.ref 242, Value.none, Value.ref 243, Value.ref 244, Value.ref 245, Value.int 500 0, Value.int 206 0, Value.str (Str.ofString "/claim/cut.py") 501] }),
  (247, { cls := Value.type "function", dict := none, data := Data.func { name := Str.ofString "_law_sizes", qualname := Str.ofString "_law_sizes", params := fSizes.ps, body := .stmts fSizes.body, scope := fSizes.sc, globals := 3, closure := [], defaults := Value.none, kwdefaults := Value.none, doc := Value.none, pyModule := Value.str (Str.ofString "law_wu0071_01") 386, annotations := none, code := Value.ref 246, closureTuple := Value.none, builtins := 0 }, slots := #[] }),
  (251, { cls := Value.type "code", data := Data.fields #[Value.str (Str.ofString "_law_marks") 503, Value.str (Str.ofString "_law_marks") 504, Value.str (Str.ofString "/claim/cut.py") 505, Value.int 215 0, Value.int 2 0, Value.int 0 0, Value.int 0 0, Value.int 3 0, Value.ref 248, Value.bool true, Value.int 181 0, Value.ref 249, Value.none, Value.none, Value.none, Value.ref 250, Value.int 506 0, Value.int 215 0, Value.str (Str.ofString "/claim/cut.py") 507] }),
  (252, { cls := Value.type "function", dict := none, data := Data.func { name := Str.ofString "_law_marks", qualname := Str.ofString "_law_marks", params := fMarks.ps, body := .stmts fMarks.body, scope := fMarks.sc, globals := 3, closure := [], defaults := Value.none, kwdefaults := Value.none, doc := Value.none, pyModule := Value.str (Str.ofString "law_wu0071_01") 386, annotations := none, code := Value.ref 251, closureTuple := Value.none, builtins := 0 }, slots := #[] }),
  (258, { cls := Value.type "code", data := Data.fields #[Value.str (Str.ofString "_law_refused") 509, Value.str (Str.ofString "_law_refused") 510, Value.str (Str.ofString "/claim/cut.py") 511, Value.int 225 0, Value.int 1 0, Value.int 0 0, Value.int 0 0, Value.int 3 0, Value.ref 253, Value.bool true, Value.int 181 0, Value.ref 254, Value.none, Value.ref 255, Value.ref 256, Value.ref 257, Value.int 514 0, Value.int 225 0, Value.str (Str.ofString "/claim/cut.py") 515] }),
  (259, { cls := Value.type "function", dict := none, data := Data.func { name := Str.ofString "_law_refused", qualname := Str.ofString "_law_refused", params := fRefused.ps, body := .stmts fRefused.body, scope := fRefused.sc, globals := 3, closure := [], defaults := Value.none, kwdefaults := Value.none, doc := Value.none, pyModule := Value.str (Str.ofString "law_wu0071_01") 386, annotations := none, code := Value.ref 258, closureTuple := Value.none, builtins := 0 }, slots := #[] }),
  (263, { cls := Value.type "code", data := Data.fields #[Value.str (Str.ofString "_law_named") 517, Value.str (Str.ofString "_law_named") 518, Value.str (Str.ofString "/claim/cut.py") 519, Value.int 231 0, Value.int 2 0, Value.int 0 0, Value.int 0 0, Value.int 3 0, Value.ref 260, Value.bool true, Value.int 181 0, Value.ref 261, Value.none, Value.none, Value.none, Value.ref 262, Value.int 520 0, Value.int 231 0, Value.str (Str.ofString "/claim/cut.py") 521] }),
  (264, { cls := Value.type "function", dict := none, data := Data.func { name := Str.ofString "_law_named", qualname := Str.ofString "_law_named", params := fNamed.ps, body := .stmts fNamed.body, scope := fNamed.sc, globals := 3, closure := [], defaults := Value.none, kwdefaults := Value.none, doc := Value.none, pyModule := Value.str (Str.ofString "law_wu0071_01") 386, annotations := none, code := Value.ref 263, closureTuple := Value.none, builtins := 0 }, slots := #[] }),
  (268, { cls := Value.type "code", data := Data.fields #[Value.str (Str.ofString "law") 523, Value.str (Str.ofString "law") 524, Value.str (Str.ofString "/claim/cut.py") 525, Value.int 249 0, Value.int 1 0, Value.int 0 0, Value.int 0 0, Value.int 3 0, Value.ref 265, Value.bool true, Value.int 181 0, Value.ref 266, Value.none, Value.none, Value.none, Value.ref 267, Value.int 526 0, Value.int 249 0, Value.str (Str.ofString "/claim/cut.py") 527] }),
  (269, { cls := Value.type "function", dict := none, data := Data.func { name := Str.ofString "law", qualname := Str.ofString "law", params := fLaw.ps, body := .stmts fLaw.body, scope := fLaw.sc, globals := 3, closure := [], defaults := Value.none, kwdefaults := Value.none, doc := Value.none, pyModule := Value.str (Str.ofString "law_wu0071_01") 386, annotations := none, code := Value.ref 268, closureTuple := Value.none, builtins := 0 }, slots := #[] })]
def K0as : List Addr := [2, 3, 22, 23, 29, 30, 31, 32, 38, 39, 40, 41, 47, 48, 49, 50, 56, 57, 61, 66, 73, 74, 80, 81, 96, 97, 99, 103, 104, 106, 110, 111, 125, 126, 133, 134, 136, 137, 147, 148, 154, 155, 161, 162, 168, 169, 173, 174, 180, 181, 187, 188, 194, 195, 201, 202, 208, 209, 215, 216, 222, 223, 227, 228, 234, 235, 239, 240, 246, 247, 251, 252, 258, 259, 263, 264, 268, 269]

def hk0 : W.Hook := W.kHook K0 K0as (fun _ => by kernel_rfl)
set_option maxHeartbeats 0
theorem saidW : rwl.wellSaid = true := by
  unfold OpenLaw.wellSaid OpenRow.wellSaid OpenRow.partSaid looksOpen
  repeat' with_reducible refine look_both ?_ ?_
  all_goals decide +kernel
theorem left0 : LeftO PySem.Challenge.pw_wu0071_01 vw lo (fun s => xlAt vw [] s && recOk (RowW.records rwl.row.toRowW) s) (Hook.obs hk0) (Hook.val hk0) 2826 := by
  intro w
  kernel_rfl
theorem head1 : PySem.Challenge.rw_wu0071_01.Holds := by
  w_on
  refine holds_law saidW fun said => ?_
  refine holds_open (r := rwl.row) (q := vw) (loose := lo) (Xt := fun s => xlAt vw [] s && recOk (RowW.records rwl.row.toRowW) s) (XP := XL vw []) (Yf := Hook.obs hk0) (Ya := Hook.val hk0) (YP := Hook.says hk0) (N := 2826) left0 (Hook.of hk0) (Hook.keeps hk0) (fun s e => xl_of s (Bool.and_eq_true_iff.mp e).1) XL.keeps (by rfl) (by rfl) (by rfl) (fun s e => recFacts_of (Bool.and_eq_true_iff.mp e).2) (by rfl) (by assumption) (by decide +kernel) ⟨rfl, rfl, rfl, rfl, rfl, by decide +kernel⟩ ?hw ?hc
  case hw => w_witness2
  intro w s₀ s₁ mg mb G Y fa o pm cd doc dV kV ho hd hcd hD hmg hg args vals as hpre hlay hrd hwl hlo
  have KX : (K0 w.params).In s₁.heap := kIn_of Y
  refine Ground.open G ?_
  intro T B D TE TW
  have X1 : ∀ p ∈ gNames, mg p.1 = some p.2 := by
    intro p hp
    refine mg_of KX T.g ?_
    simp only [gNames, List.mem_cons, List.not_mem_nil, or_false] at hp
    rcases hp with rfl | rfl | rfl | rfl | rfl | rfl | rfl | rfl | rfl | rfl | rfl | rfl | rfl | rfl | rfl | rfl | rfl | rfl | rfl | rfl | rfl | rfl | rfl | rfl | rfl <;> rfl
  have X2 : ∀ p ∈ bNames, mg p.1 = none ∧ mb p.1 = some p.2 := by
    intro p hp
    simp only [bNames, List.mem_cons, List.not_mem_nil, or_false] at hp
    rcases hp with rfl | rfl | rfl | rfl | rfl | rfl | rfl | rfl | rfl | rfl | rfl | rfl <;> exact ⟨mg_none_of KX T.g rfl, (T.builtins _ (by decide)).trans (by rfl)⟩
  have X3 : ∀ f ∈ fns, FnO s₁.heap f := by
    intro f hf
    simp only [fns, List.mem_cons, List.not_mem_nil, or_false] at hf
    rcases hf with rfl | rfl | rfl | rfl | rfl | rfl | rfl | rfl | rfl | rfl | rfl | rfl | rfl | rfl | rfl | rfl | rfl | rfl | rfl | rfl | rfl | rfl | rfl | rfl <;> walk_at "fno"
  have X4 : ∀ f ∈ meths, FnO s₁.heap f ∧ ∃ o, s₁.heap.get? f.a = some o ∧ o.cls = .type "function" := by
    intro f hf
    simp only [meths, List.mem_cons, List.not_mem_nil, or_false] at hf
    rcases hf with rfl | rfl | rfl | rfl | rfl | rfl | rfl <;> exact ⟨by walk_at "fno", _, KX _ _ rfl, rfl⟩
  have X5 : ∀ cp ∈ tabCodes, ∃ ps, s₁.heap.IsCode cp.1 cp.2 ps ∧ s₁.heap.TableAt cp.1 cp.2 ps := by
    intro cp hc
    simp only [tabCodes, List.mem_cons, List.not_mem_nil, or_false] at hc
    rcases hc with rfl | rfl
    · exact ⟨#[], ⟨_, _, _, _, _, _, _, _, _, _, KX 103 _ rfl, rfl, rfl, rfl, rfl, rfl, rfl, KX 99 _ rfl, rfl, by trivial, by decide⟩, ⟨_, _, KX 103 _ rfl, rfl, rfl, rfl⟩, KX 99 _ rfl⟩
    · exact ⟨#[], ⟨_, _, _, _, _, _, _, _, _, _, KX 110 _ rfl, rfl, rfl, rfl, rfl, rfl, rfl, KX 106 _ rfl, rfl, by trivial, by decide⟩, ⟨_, _, KX 110 _ rfl, rfl, rfl, rfl⟩, KX 106 _ rfl⟩
  have X6 : ∃ bm ob, BMod s₁.heap mainGlobals mg bm ob ∧ bm ∉ tbls := by
    obtain ⟨bm, ob, M⟩ := bmod_of_top T
    refine ⟨bm, ob, M, fun hm => ?_⟩
    simp only [tbls, List.mem_cons, List.not_mem_nil, or_false] at hm
    rcases hm with rfl | rfl
    · have := M.obj.symm.trans (KX 99 _ rfl)
      cases this
      cases M.cls
    · have := M.obj.symm.trans (KX 106 _ rfl)
      cases this
      cases M.cls
  have X7 : ∃ oC oN, s₁.heap.get? 137 = some oC ∧ s₁.heap.get? 136 = some oN ∧ AccK [(137, oC), (136, oN)] := by
    refine ⟨_, _, KX 137 _ rfl, KX 136 _ rfl, ?_⟩
    refine ⟨?_, ?_, ?_, ?_, ?_, ?_, ?_, ?_⟩
    · intro p hp
      simp only [accRows, List.mem_cons, List.not_mem_nil, or_false] at hp
      rcases hp with rfl | rfl | rfl | rfl | rfl | rfl | rfl | rfl | rfl | rfl | rfl | rfl | rfl | rfl <;> kernel_rfl
    · kernel_rfl
    · kernel_rfl
    · kernel_rfl
    · kernel_rfl
    · kernel_rfl
    · kernel_rfl
    · exact ⟨_, _, _, _, rfl, rfl, rfl, rfl, rfl, rfl, rfl, rfl⟩
  have TH : TopH w s₁.heap mg mb := by
    refine ⟨T.nolimit, fun cp hc => ?_, T.g, T.b, X1, X2, X3, fun t ht => ?_, fun d hd => ?_, ⟨_, _, KX 66 _ rfl⟩, ⟨Heap.lt_size (KX 61 _ rfl), _, KX 61 _ rfl, rfl⟩, X7, X4, ⟨_, mg_of KX T.g rfl⟩, ⟨_, mg_of KX T.g rfl⟩, fun c hc => ?_, X6, X5, ?_⟩
    · obtain ⟨ps, i, _⟩ := X5 cp hc
      obtain ⟨o, vs, file, tf, flags, tg, inF, text, tt, op, h1, _, _, _, _, _, _, h2, _⟩ := i
      exact ⟨Heap.lt_size h1, Heap.lt_size h2⟩
    · simp only [List.mem_cons, List.not_mem_nil, or_false] at ht
      rcases ht with rfl | rfl | rfl | rfl <;> exact ⟨_, _, KX _ _ rfl⟩
    · simp only [List.mem_cons, List.not_mem_nil, or_false] at hd
      rcases hd with rfl | rfl | rfl | rfl <;> exact ⟨_, _, _, KX _ _ rfl⟩
    · simp only [List.mem_cons, List.not_mem_nil, or_false] at hc
      rcases hc with rfl | rfl | rfl <;> exact ⟨_, _, _, _, KX _ _ rfl, rfl, rfl, by decide +kernel⟩
    · exact op_of (KX cStatics _ rfl) (by kernel_rfl)
  have hfa : fa = 269 := by
    have := hmg.symm.trans (X1 ("law", .ref 269) (by walk_at "in"))
    cases this
    rfl
  subst hfa
  clear X1 X2 X3 X4 X5 X6 X7 KX Y B D TE TW ho hd hcd hD hmg
  wrow_args hpre hlay hrd hwl hlo
  rename_i is _ _ _ _ _ _ _ la xs _ hL _ _ _ hI _ hc _
  refine wpAny_mono (lawRun TH hg hL hI (by omega)) (fun v s' ⟨e1, e2, e3, e4⟩ => ?_) (fun _ _ h => h.elim)
  subst e1
  exact ⟨.inl ⟨.bool true, .bool true, [], rfl, fun _ => rfl, .bool true, postT is, fun _ => ⟨List.nodup_nil, nofun⟩⟩, e2, e3, e4⟩
end
end
end
end Mine
end
theorem PySem.Challenge.cw_wu0071_01_holds : PySem.Challenge.rw_wu0071_01.Holds := by
  exact Mine.head1
