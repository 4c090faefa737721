import PyProof.Rows.All
import Wide.All
import OpenK.AllK
import Wide.FinOn
import PySem.Challenge.RW_im0057_01
open PySem PySem.W PyProof.Rows
set_option Elab.async false
set_option linter.unusedVariables false
set_option maxRecDepth 100000
set_option bootstrap.genMatcherCode false
set_option compiler.extract_closed false
set_option genSizeOf false
set_option genInjectivity false
set_option backward.linearNoConfusionType false
set_option backward.match.sparseCases false
namespace Mine
inductive AV where
 | none
 | bool (b : Bool)
 | int (i : Int)
 | str (s : List Nat)
 | tup (xs : List AV)
 | ref (i : Nat)
 | val (v : Value)
 | meth (f : Addr) (i : Nat)
 | any
inductive AObj where
 | list (xs : List AV)
 | dict (es : List (List Nat × AV))
 | idict (es : List (Int × AV))
 | inst (C : Addr) (as : List (List Nat × AV))
 | strm (prev rest : List Nat)
inductive Own where
 | free
 | mine (k : Nat)
 | other
structure G where
 ρ : List Addr
 own : Addr → Own
theorem nO {α : Type} {a : α} {P : Prop} (h : none = some a) : P := by cases h
theorem some_no {α : Type} {a : α} {P : Prop} (h : some a = none) : P := by cases h
theorem tf_no {P : Prop} (h : true = false) : P := by cases h
theorem fm_no {k : Nat} {P : Prop} (h : Own.free = .mine k) : P := by cases h
theorem fo_no {P : Prop} (h : Own.free = .other) : P := by cases h
theorem mf_no {k : Nat} {P : Prop} (h : Own.mine k = .free) : P := by cases h
theorem mo_no {k : Nat} {P : Prop} (h : Own.mine k = .other) : P := by cases h
theorem of_no {P : Prop} (h : Own.other = .free) : P := by cases h
theorem om_no {k : Nat} {P : Prop} (h : Own.other = .mine k) : P := by cases h
theorem nil_no {α : Type} {a : α} {l : List α} {P : Prop} (h : [] = a :: l) : P := by cases h
theorem cons_no {α : Type} {a : α} {l : List α} {P : Prop} (h : a :: l = []) : P := by cases h
theorem mem_no {α : Type} {a : α} {P : Prop} (h : a ∈ []) : P := by cases h
noncomputable abbrev sOf (l : List Nat) : Str := ⟨l.toArray⟩
noncomputable abbrev lstObj (vs : List Value) (n : Nat) : Obj := { cls := .type "list", data := .seq vs.toArray n }
noncomputable abbrev tupObj (vs : List Value) (n : Nat) : Obj := { cls := .type "tuple", data := .seq vs.toArray n }
mutual
noncomputable def RelV (h : Heap) (g : G) : AV → Value → Prop
 | .none, v => v = .none
 | .bool b, v => v = .bool b
 | .int i, v => ∃ t, v = .int i t
 | .str s, v => ∃ t, v = .str (sOf s) t
 | .ref i, v => ∃ a, g.ρ[i]? = some a ∧ v = .ref a
 | .val w, v => v = w
 | .any, _ => True
 | .meth f i, v => ∃ a x, v = .ref a ∧ g.ρ[i]? = some x ∧ g.own a = .free ∧ h.get? a = some (methodObj (.ref f) (.ref x))
 | .tup xs, v => ∃ a vs n, v = .ref a ∧ g.own a = .free ∧ h.get? a = some (tupObj vs n) ∧ RelVs h g xs vs
noncomputable def RelVs (h : Heap) (g : G) : List AV → List Value → Prop
 | [], vs => vs = []
 | x :: xs, vs => ∃ v r, vs = v :: r ∧ RelV h g x v ∧ RelVs h g xs r
end
structure Go (L : Option Addr) (g : G) (h : Heap) (g' : G) (h' : Heap) : Prop where
 ρ : ∃ more, g'.ρ = g.ρ ++ more
 own : ∀ b, g.own b ≠ .free → g'.own b = g.own b
 free : ∀ b o, h.get? b = some o → g.own b = .free → L ≠ some b → g'.own b = .free ∧ h'.get? b = some o
 oth : ∀ b o, h.get? b = some o → g.own b = .other → L ≠ some b → h'.get? b = some o
structure Ext (L : Option Addr) (g : G) (h : Heap) (g' : G) (h' : Heap) : Prop where
 ρ : ∃ more, g'.ρ = g.ρ ++ more
 own : ∀ b, g.own b ≠ .free → g'.own b = g.own b
 free : ∀ b o, h.get? b = some o → g.own b = .free → L ≠ some b → g'.own b = .free ∧ h'.get? b = some o
theorem Go.ext {L : Option Addr} {g g' : G} {h h' : Heap} (x : Go L g h g' h') : Ext L g h g' h' := ⟨x.ρ, x.own, x.free⟩
theorem Go.keep {L : Option Addr} {g g' : G} {h h' : Heap} (x : Go L g h g' h') (b : Addr) (o : Obj) (e : h.get? b = some o) (n : ∀ k, g.own b ≠ .mine k) (l : L ≠ some b) : h'.get? b = some o := by
 cases q : g.own b with
 | free => exact (x.free b o e q l).2
 | other => exact x.oth b o e q l
 | mine k => exact absurd q (n k)
theorem Go.of {L : Option Addr} {g g' : G} {h h' : Heap} (ρ : ∃ more, g'.ρ = g.ρ ++ more) (own : ∀ b, (g.own b ≠ .free ∨ ∃ o, h.get? b = some o) → g'.own b = g.own b)
  (keep : ∀ b o, h.get? b = some o → (∀ k, g.own b ≠ .mine k) → L ≠ some b → h'.get? b = some o) : Go L g h g' h' :=
 ⟨ρ, fun b n => own b (.inl n), fun b o e f l => ⟨(own b (.inr ⟨o, e⟩)).trans f, keep b o e (fun k q => by rw [f] at q; cases q) l⟩, fun b o e f l => keep b o e (fun k q => by rw [f] at q; cases q) l⟩
theorem Go.refl (L g h) : Go L g h g h := .of ⟨[], by simp⟩ (fun _ _ => rfl) fun _ _ e _ _ => e
theorem Go.trans {L : Option Addr} {g1 g2 g3 : G} {h1 h2 h3 : Heap} (x : Go L g1 h1 g2 h2) (y : Go L g2 h2 g3 h3) : Go L g1 h1 g3 h3 := by
 obtain ⟨m1, e1⟩ := x.ρ
 obtain ⟨m2, e2⟩ := y.ρ
 refine ⟨⟨m1 ++ m2, by rw [e2, e1, List.append_assoc]⟩, fun b hb => ?_, fun b o e n l => ?_, fun b o e n l => ?_⟩
 ·have q := x.own b hb
  rw [y.own b (by rw [q]; exact hb), q]
 ·obtain ⟨q1, q2⟩ := x.free b o e n l
  exact y.free b o q2 q1 l
 ·have q := x.own b (by rw [n]; exact fun z => nomatch z)
  exact y.oth b o (x.oth b o e n l) (q.trans n) l
theorem Ext.at {L : Option Addr} {g g' : G} {h h' : Heap} (x : Ext L g h g' h') {i : Nat} {a : Addr} (e : g.ρ[i]? = some a) : g'.ρ[i]? = some a := by
 obtain ⟨m, q⟩ := x.ρ
 rw [q, List.getElem?_append_left (by
  rcases Nat.lt_or_ge i g.ρ.length with h | h
  ·exact h
  ·rw [List.getElem?_eq_none h] at e; cases e), e]
theorem Ext.freeAt {L : Option Addr} {g g' : G} {h h' : Heap} (x : Ext L g h g' h') {a : Addr} {o : Obj} (f : g.own a = .free) (e : h.get? a = some o) (n : L ≠ some a) : g'.own a = .free ∧ h'.get? a = some o := x.free a o e f n
noncomputable def LOk (L : Option Addr) (h : Heap) : Prop := ∀ l, L = some l → ∀ o, h.get? l = some o → ∃ es ep, o.data = .dict es ep
theorem LOk.none (h : Heap) : LOk .none h := fun _ e => nomatch e
theorem LOk.of_ns {L : Addr} {h : Heap} {m : Str → Option Value} (x : h.Ns L m) : LOk (some L) h := fun l e o q => by
 cases e
 obtain ⟨o', es, ep, ho, hd, _⟩ := x
 rw [ho] at q; cases q; exact ⟨es, ep, hd⟩
structure Ext0 (L : Option Addr) (g : G) (h : Heap) (g' : G) (h' : Heap) : Prop where
 ρ : ∃ more, g'.ρ = g.ρ ++ more
 free : ∀ b o, h.get? b = some o → g.own b = .free → L ≠ some b → g'.own b = .free ∧ h'.get? b = some o
theorem Ext.low {L : Option Addr} {g g' : G} {h h' : Heap} (x : Ext L g h g' h') : Ext0 L g h g' h' := ⟨x.ρ, fun b o e f n => x.freeAt f e n⟩
theorem Ext0.at {L : Option Addr} {g g' : G} {h h' : Heap} (x : Ext0 L g h g' h') {i : Nat} {a : Addr} (e : g.ρ[i]? = some a) : g'.ρ[i]? = some a := by
 obtain ⟨m, q⟩ := x.ρ
 rw [q, List.getElem?_append_left (by
  rcases Nat.lt_or_ge i g.ρ.length with h | h
  ·exact h
  ·rw [List.getElem?_eq_none h] at e; cases e), e]
theorem LOk.off {L : Option Addr} {h : Heap} {b : Addr} {o : Obj} (l : LOk L h) (e : h.get? b = some o) (n : ∀ es n, o.data ≠ .dict es n) : L ≠ some b := fun z => by
 obtain ⟨_, _, q⟩ := l _ z _ e
 exact n _ _ q
theorem RelV.go0 {L : Option Addr} {g g' : G} {h h' : Heap} (x : Ext0 L g h g' h') (l : LOk L h) {a : AV} {v : Value} (e : RelV h g a v) : RelV h' g' a v := by
 refine AV.rec (motive_1 := fun a => ∀ v, RelV h g a v → RelV h' g' a v) (motive_2 := fun as => ∀ vs, RelVs h g as vs → RelVs h' g' as vs) (fun _ e => e) (fun _ _ e => e) (fun _ _ e => e) (fun _ _ e => e) ?_ ?_ (fun _ _ e => e) ?_ (fun _ _ => trivial) (fun _ e => e) ?_ a v e
 ·intro _ ih _ e
  obtain ⟨a, vs, n, e1, e3, e4, e5⟩ := e
  have p := x.free _ _ e4 e3 (l.off e4 fun _ _ q => by cases q)
  exact ⟨a, vs, n, e1, p.1, p.2, ih _ e5⟩
 ·intro i v e
  obtain ⟨a, e1, e2⟩ := e
  exact ⟨a, x.at e1, e2⟩
 ·intro f i v e
  obtain ⟨a, y, e1, e2, e3, e4⟩ := e
  have p := x.free _ _ e4 e3 (l.off e4 fun _ _ q => by cases q)
  exact ⟨a, y, e1, x.at e2, p.1, p.2⟩
 ·intro _ _ i1 i2 _ e
  obtain ⟨v, r, e1, e2, e3⟩ := e
  exact ⟨v, r, e1, i1 _ e2, i2 _ e3⟩
theorem RelVs.go0 {L : Option Addr} {g g' : G} {h h' : Heap} (x : Ext0 L g h g' h') (l : LOk L h) {as : List AV} {vs : List Value} (e : RelVs h g as vs) : RelVs h' g' as vs := by
 induction as generalizing vs with
 | nil => exact e
 | cons _ as ih => obtain ⟨v, r, e1, e2, e3⟩ := e; exact ⟨v, r, e1, e2.go0 x l, ih e3⟩
theorem RelV.go {L : Option Addr} {g g' : G} {h h' : Heap} (x : Ext L g h g' h') (l : LOk L h) {a : AV} {v : Value} (e : RelV h g a v) : RelV h' g' a v := e.go0 x.low l
theorem RelVs.go {L : Option Addr} {g g' : G} {h h' : Heap} (x : Ext L g h g' h') (l : LOk L h) {as : List AV} {vs : List Value} (e : RelVs h g as vs) : RelVs h' g' as vs := e.go0 x.low l
structure Sys where
 prog : Program
 w : World
 K : Frag
 hb : Heap
 mg : Str → Option Value
 mb : Str → Option Value
 cS : Addr
 cT : Addr
 fE : Addr
structure Sys.Ok (Y : Sys) : Prop where
 X : Y.K.In Y.hb
 G : Y.hb.Ns mainGlobals Y.mg
 B : Y.hb.Ns builtinsNs Y.mb
 nl : Y.hb.NoLimit
 sysm : ∃ o, Y.hb.get? sysModules = some o
section
variable (h : Heap) (g : G)
noncomputable def RelAs : List (List Nat × AV) → List DictEntry → Prop
 | [], es => es = []
 | x :: as, es => ∃ e r t, es = e :: r ∧ e.key = .str (sOf x.1) t ∧ RelV h g x.2 e.val ∧ RelAs as r
noncomputable def RelKs {κ κ' : Type} (f : κ → κ') : List (κ × AV) → List (κ' × Value) → Prop
 | [], ks => ks = []
 | x :: r, ks => ∃ v s, ks = (f x.1, v) :: s ∧ RelV h g x.2 v ∧ RelKs f r s
end
noncomputable def norm : List Nat → List Nat
 | [] => []
 | [c] => [if c = 13 then 10 else c]
 | c :: d :: r => if c = 13 then (if d = 10 then 10 :: norm r else 10 :: norm (d :: r)) else c :: norm (d :: r)
noncomputable def posR : List Nat → Int × Int
 | [] => (0, 0)
 | c :: p => if c = 10 then ((posR p).1 + 1, 0) else if 1114112 ≤ c then posR p else ((posR p).1, (posR p).2 + 1)
noncomputable def clean (l : List Nat) : List Nat := l.filter (· < 1114112)
structure SD where
 chunk : List Nat
 off : Nat
 pl : Int
 pc : Int
 buf : Option Nat
 text : List Nat
 place : Nat
 deriving Inhabited
noncomputable def bufAV : Option Nat → AV
 | none => .none
 | some c => .str [c]
noncomputable def nm (s : String) : List Nat := s.toList.map Char.toNat
noncomputable abbrev nReport : List Nat := [114, 101, 112, 111, 114, 116, 67, 104, 97, 114, 97, 99, 116, 101, 114, 69, 114, 114, 111, 114, 115]
noncomputable abbrev nNewLines : List Nat := [110, 101, 119, 76, 105, 110, 101, 115]
noncomputable abbrev nDataStream : List Nat := [100, 97, 116, 97, 83, 116, 114, 101, 97, 109]
noncomputable abbrev nChunk : List Nat := [99, 104, 117, 110, 107]
noncomputable abbrev nChunkSize : List Nat := [99, 104, 117, 110, 107, 83, 105, 122, 101]
noncomputable abbrev nChunkOffset : List Nat := [99, 104, 117, 110, 107, 79, 102, 102, 115, 101, 116]
noncomputable abbrev nErrors : List Nat := [101, 114, 114, 111, 114, 115]
noncomputable abbrev nPrevLines : List Nat := [112, 114, 101, 118, 78, 117, 109, 76, 105, 110, 101, 115]
noncomputable abbrev nPrevCols : List Nat := [112, 114, 101, 118, 78, 117, 109, 67, 111, 108, 115]
noncomputable abbrev nBuffered : List Nat := [95, 98, 117, 102, 102, 101, 114, 101, 100, 67, 104, 97, 114, 97, 99, 116, 101, 114]
noncomputable abbrev nText : List Nat := [116, 101, 120, 116]
noncomputable abbrev nPlace : List Nat := [112, 108, 97, 99, 101]
noncomputable def ioO (Y : Sys) (d : SD) : List AObj :=
 [.inst Y.cS [(nReport, .meth Y.fE 0), (nNewLines, .ref 1), (nDataStream, .ref 2), (nChunk, .str d.chunk), (nChunkSize, .int d.chunk.length), (nChunkOffset, .int d.off),
   (nErrors, .ref 3), (nPrevLines, .int d.pl), (nPrevCols, .int d.pc), (nBuffered, bufAV d.buf)],
  .list [.int 0], .inst Y.cT [(nText, .str d.text), (nPlace, .int d.place)], .list []]
noncomputable def alpha : List Nat := [32, 34, 62, 112, 117, 98, 108, 105, 99, 39, 120, 83, 89, 84, 69, 77, 0, 80, 10, 115, 201, 13, 9, 12]
noncomputable def fair (c : Nat) : Bool := alpha.contains c
structure SInv0 (d : SD) (prev rest : List Nat) : Prop where
 off : d.off ≤ d.chunk.length
 prv : ∃ p0, clean prev = (d.chunk.take d.off).reverse ++ p0 ∧ posR p0 = (d.pl, d.pc)
 back : ∀ c p, prev = c :: p → c < 1114112 → 0 < d.off
 rst : rest = d.chunk.drop d.off ++ norm (d.buf.toList ++ d.text.drop d.place)
 buf : ∀ c, d.buf = some c → c = 13
 place : d.place ≤ d.text.length
 small : d.text.length ≤ 1000
 chunk : d.chunk.length ≤ 1001
 fair : ∀ c ∈ d.text, fair c = true
noncomputable def SInv (d : SD) (prev rest : List Nat) : Prop := (SInv0 d prev rest ∧ ∀ c ∈ rest, c < 1114112) ∨ ∃ r, rest = 1114112 :: r ∧ prev = [] ∧ d.chunk = [] ∧ d.buf = none ∧ SInv0 d [] r
section
variable (Y : Sys)
noncomputable def RelB (h : Heap) (g : G) (i : Nat) : AObj → Prop
 | .list xs => ∃ a vs n, g.ρ[i]? = some a ∧ g.own a = .mine i ∧ h.get? a = some (lstObj vs n) ∧ RelVs h g xs vs
 | .dict es => ∃ a kvs, g.ρ[i]? = some a ∧ g.own a = .mine i ∧ h.DictOf (strKind Y.prog Y.w) a kvs ∧ RelKs h g sOf es kvs
 | .idict es => ∃ a kvs, g.ρ[i]? = some a ∧ g.own a = .mine i ∧ h.DictOf (intKind Y.prog Y.w) a kvs ∧ RelKs h g id es kvs
 | .inst C as => ∃ a d es n, g.ρ[i]? = some a ∧ g.own a = .mine i ∧ g.own d = .mine i ∧ a ≠ d ∧ h.get? a = some (instObj C d) ∧ h.get? d = some (dictOf es n) ∧ RelAs h g as es
 | .strm _ _ => False
noncomputable def RelS (h : Heap) (g : G) (i : Nat) (prev rest : List Nat) : Prop :=
 ∃ (gc : G) (d : SD), SInv d prev rest ∧ (∃ a, g.ρ[i]? = some a ∧ gc.ρ[0]? = some a) ∧ (∀ b k, gc.own b = .mine k → g.own b = .mine i) ∧ (∀ b, gc.own b = .free ↔ g.own b = .free) ∧ gc.ρ.length = 4 ∧
  ∀ k o, (ioO Y d)[k]? = some o → RelB Y h gc k o
noncomputable def RelO (h : Heap) (g : G) (i : Nat) : AObj → Prop
 | .strm p r => RelS Y h g i p r
 | o => RelB Y h g i o
end
theorem RelAs.go0 {L : Option Addr} {g g' : G} {h h' : Heap} (x : Ext0 L g h g' h') (l : LOk L h) {as : List (List Nat × AV)} {es : List DictEntry} (e : RelAs h g as es) : RelAs h' g' as es := by
 induction as generalizing es with
 | nil => exact e
 | cons a as ih => obtain ⟨d, r, t, e1, e2, e3, e4⟩ := e; exact ⟨d, r, t, e1, e2, e3.go0 x l, ih e4⟩
theorem RelAs.go {L : Option Addr} {g g' : G} {h h' : Heap} (x : Ext L g h g' h') (l : LOk L h) {as : List (List Nat × AV)} {es : List DictEntry} (e : RelAs h g as es) : RelAs h' g' as es := e.go0 x.low l
theorem RelKs.go0 {κ κ' : Type} {f : κ → κ'} {L : Option Addr} {g g' : G} {h h' : Heap} (x : Ext0 L g h g' h') (l : LOk L h) {as : List (κ × AV)} {es : List (κ' × Value)} (e : RelKs h g f as es) : RelKs h' g' f as es := by
 induction as generalizing es with
 | nil => exact e
 | cons a as ih => obtain ⟨v, s, e1, e2, e3⟩ := e; exact ⟨v, s, e1, e2.go0 x l, ih e3⟩
theorem RelKs.go {κ κ' : Type} {f : κ → κ'} {L : Option Addr} {g g' : G} {h h' : Heap} (x : Ext L g h g' h') (l : LOk L h) {as : List (κ × AV)} {es : List (κ' × Value)} (e : RelKs h g f as es) : RelKs h' g' f as es := e.go0 x.low l
theorem dictOf_at {prog : Program} {w : World} {κ : Type} [DecidableEq κ] {knd : KeyKind prog w κ} {h h' : Heap} {a : Addr} {kvs : List (κ × Value)} (x : h.DictOf knd a kvs) (k : ∀ o, h.get? a = some o → h'.get? a = some o) : h'.DictOf knd a kvs :=
 let ⟨o, es, ep, ho, r⟩ := x; ⟨o, es, ep, k o ho, r⟩
section
variable {Y : Sys}
theorem RelB.go0 {L : Option Addr} {g g' : G} {h h' : Heap} (x : Ext0 L g h g' h') (l : LOk L h) {i : Nat} (hm : ∀ b o, h.get? b = some o → g.own b = .mine i → g'.own b = .mine i ∧ h'.get? b = some o) :
  ∀ {o : AObj}, RelB Y h g i o → RelB Y h' g' i o := fun {o} e => by
 cases o with
 | list xs => obtain ⟨a, vs, n, e1, e2, e3, e4⟩ := e; exact ⟨a, vs, n, x.at e1, (hm _ _ e3 e2).1, (hm _ _ e3 e2).2, e4.go0 x l⟩
 | dict es => obtain ⟨a, kvs, e1, e2, e3, e4⟩ := e; exact ⟨a, kvs, x.at e1, (let ⟨_, _, _, q, _⟩ := e3; (hm _ _ q e2).1), dictOf_at e3 fun o q => (hm _ _ q e2).2, e4.go0 x l⟩
 | idict es => obtain ⟨a, kvs, e1, e2, e3, e4⟩ := e; exact ⟨a, kvs, x.at e1, (let ⟨_, _, _, q, _⟩ := e3; (hm _ _ q e2).1), dictOf_at e3 fun o q => (hm _ _ q e2).2, e4.go0 x l⟩
 | inst C as => obtain ⟨a, d, es, n, e1, e2, e3, e4, e5, e6, e7⟩ := e; exact ⟨a, d, es, n, x.at e1, (hm _ _ e5 e2).1, (hm _ _ e6 e3).1, e4, (hm _ _ e5 e2).2, (hm _ _ e6 e3).2, e7.go0 x l⟩
 | strm _ _ => exact e.elim
theorem RelB.go {L : Option Addr} {g g' : G} {h h' : Heap} (x : Ext L g h g' h') (l : LOk L h) {i : Nat} (hm : ∀ b o, h.get? b = some o → g.own b = .mine i → h'.get? b = some o) {o : AObj} (e : RelB Y h g i o) : RelB Y h' g' i o :=
 e.go0 x.low l fun b o q n => ⟨(x.own b (by rw [n]; exact fun z => mf_no z)).trans n, hm b o q n⟩
theorem RelS.go {L : Option Addr} {g g' : G} {h h' : Heap} (x : Ext L g h g' h') (hL : ∀ b, L = some b → g.own b = .other) {i : Nat} (hm : ∀ b o, h.get? b = some o → g.own b = .mine i → h'.get? b = some o) {p r : List Nat}
  (e : RelS Y h g i p r) : RelS Y h' g' i p r := by
 obtain ⟨gc, d, e1, ⟨a, e2, e3⟩, e4, e5, e6, e7⟩ := e
 have nf : ∀ {b : Addr}, gc.own b ≠ .free → g.own b ≠ .free ∧ g'.own b = g.own b := fun {b} q => by
  have z : g.own b ≠ .free := fun w => q ((e5 b).mpr w)
  exact ⟨z, x.own b z⟩
 refine ⟨⟨gc.ρ, fun b => match g'.own b with | .free => .free | _ => (match gc.own b with | .free => .other | k => k)⟩, d, e1, ⟨a, x.at e2, e3⟩, fun b k q => ?_, fun b => ?_, e6, fun k o q => ?_⟩
 ·dsimp only at q
  split at q
  ·cases q
  ·split at q
   ·cases q
   ·have n : gc.own b ≠ .free := by rw [q]; exact fun z => mf_no z
    rw [(nf n).2]; exact e4 b k q
 ·dsimp only
  split
  ·rename_i z; rw [z]
  ·rename_i z
   split
   ·exact ⟨(fun w => of_no w), fun w => absurd w z⟩
   ·rename_i n
    exact ⟨fun w => absurd w n, fun w => absurd w z⟩
 ·refine RelB.go (L := .none) (g := gc) (h := h) ⟨⟨[], by simp⟩, fun b n => ?_, fun b o q f _ => ?_⟩ (LOk.none h) (fun b o q n => hm b o q (e4 b k n)) (e7 k o q)
  ·obtain ⟨n1, n2⟩ := nf n
   dsimp only
   split
   ·rename_i z; exact absurd (n2.symm.trans z) n1
   ·split
    ·rename_i z; exact absurd z n
    ·rfl
  ·have gf := (e5 b).mp f
   obtain ⟨q1, q2⟩ := x.free b o q gf fun z => by have := hL b z; rw [gf] at this; cases this
   refine ⟨?_, q2⟩
   dsimp only
   rw [q1]
theorem RelS.go0 {g g' : G} {h h' : Heap} (x : Ext0 .none g h g' h') {a : Addr} (ha : g.own a = .other) (own : ∀ b, b ≠ a → g'.own b = g.own b) (keep : ∀ b o, h.get? b = some o → b ≠ a → h'.get? b = some o) {i : Nat} {p r : List Nat}
  (e : RelS Y h g i p r) : RelS Y h' g' i p r := by
 obtain ⟨gc, d, e1, ⟨y, e2, e3⟩, e4, e5, e6, e7⟩ := e
 have hne : ∀ {b : Addr} {k : Own}, g.own b = k → k ≠ .other → b ≠ a := fun e n q => n (by rw [← e, q, ha])
 have gca : gc.own a ≠ .free := fun q => by have := (e5 a).mp q; rw [ha] at this; cases this
 refine ⟨⟨gc.ρ, fun b => if b = a then (match g'.own a with | .free => .free | _ => .other) else gc.own b⟩, d, e1, ⟨y, x.at e2, e3⟩, fun b k q => ?_, fun b => ?_, e6, fun k o q => ?_⟩
 ·dsimp only at q
  split at q
  ·split at q <;> cases q
  ·rename_i n; rw [own b n]; exact e4 b k q
 ·dsimp only
  split
  ·rename_i n
   subst n
   split
   ·rename_i z; rw [z]
   ·rename_i z; exact ⟨(fun w => of_no w), fun w => absurd w z⟩
  ·rename_i n; rw [own b n]; exact e5 b
 ·refine RelB.go0 (L := .none) (g := gc) ⟨⟨[], by simp⟩, fun b o q f _ => ?_⟩ (LOk.none _) (fun b o q n => ?_) (e7 k o q)
  ·have n := hne ((e5 b).mp f) fun q => fo_no q
   exact ⟨(if_neg n : _ = gc.own b).trans f, keep b o q n⟩
  ·have z := hne (e4 b k n) fun q => mo_no q
   exact ⟨(if_neg z : _ = gc.own b).trans n, keep b o q z⟩
theorem RelO.go {L : Option Addr} {g g' : G} {h h' : Heap} (x : Ext L g h g' h') (l : LOk L h) (hL : ∀ b, L = some b → g.own b = .other) {i : Nat} (hm : ∀ b o, h.get? b = some o → g.own b = .mine i → h'.get? b = some o) :
  ∀ {o : AObj}, RelO Y h g i o → RelO Y h' g' i o
 | .list _, e => by unfold RelO at e ⊢; exact RelB.go x l hm e
 | .dict _, e => by unfold RelO at e ⊢; exact RelB.go x l hm e
 | .idict _, e => by unfold RelO at e ⊢; exact RelB.go x l hm e
 | .inst _ _, e => by unfold RelO at e ⊢; exact RelB.go x l hm e
 | .strm _ _, e => by exact RelS.go x hL hm e
structure RO (Y : Sys) (g : G) (objs : List AObj) (s0 s : Shared) : Prop where
 keep : ∀ b o, Y.hb.get? b = some o → s.heap.get? b = some o
 base : ∀ b o, Y.hb.get? b = some o → g.own b = .free
 len : g.ρ.length = objs.length
 rel : ∀ i o, objs[i]? = some o → RelO Y s.heap g i o
 lt : ∀ b, g.own b ≠ .free → ∃ o, s.heap.get? b = some o
 gens : s.gens = s0.gens
 os : s.os = s0.os
 drawn : s.drawn = s0.drawn
 pos : 0 < s.toks
structure RS (Y : Sys) (g : G) (L : Addr) (names : List (Str × NameKind)) (loc : List (Option AV)) (objs : List AObj) (s0 s : Shared) : Prop extends RO Y g objs s0 s where
 ownL : g.own L = .other
 ns : ∃ m, s.heap.Ns L m ∧ ∀ (k : Nat) (x : Str) (a : AV), names[k]? = some (x, NameKind.local) → loc[k]? = some (some a) → ∃ v, m x = some v ∧ RelV s.heap g a v
theorem RS.lok {g : G} {L : Addr} {names : List (Str × NameKind)} {loc : List (Option AV)} {objs : List AObj} {s0 s : Shared} (R : RS Y g L names loc objs s0 s) : LOk (some L) s.heap := let ⟨_, n, _⟩ := R.ns; .of_ns n
section
variable {g : G} {L : Addr} {names : List (Str × NameKind)} {loc : List (Option AV)} {objs : List AObj} {s0 s : Shared}
theorem RO.above (R : RO Y g objs s0 s) {b : Nat} (h : s.heap.objs.size ≤ b) : g.own b = .free := by
 cases q : g.own b with
 | free => rfl
 | _ =>
  obtain ⟨o, e⟩ := R.lt b (by rw [q]; exact fun z => nomatch z)
  have : @LT.lt Nat _ b s.heap.objs.size := Heap.lt_size e
  lia
theorem RO.fresh (R : RO Y g objs s0 s) : g.own s.heap.objs.size = .free := R.above (Nat.le_refl _)
theorem live_ne {h : Heap} {b : Addr} {o : Obj} {a : Nat} (e : h.get? b = some o) (ha : h.objs.size ≤ a) : b ≠ a := fun q => by
 have : @LT.lt Nat _ b h.objs.size := Heap.lt_size e
 rw [q] at this
 exact absurd (Nat.lt_of_lt_of_le this ha) (Nat.lt_irrefl _)
theorem RO.toks (R : RO Y g objs s0 s) (t : Nat) (ht : s.toks ≤ t := by lia) : RO Y g objs s0 { s with toks := t } := ⟨R.keep, R.base, R.len, R.rel, R.lt, R.gens, R.os, R.drawn, Nat.lt_of_lt_of_le R.pos ht⟩
theorem RS.toks (R : RS Y g L names loc objs s0 s) (t : Nat) (ht : s.toks ≤ t := by lia) : RS Y g L names loc objs s0 { s with toks := t } := ⟨R.toRO.toks t ht, R.ownL, R.ns⟩
theorem Go.push {L : Option Addr} {g : G} {h : Heap} (o : Obj) : Go L g h g (h.push o) := .of ⟨[], by simp⟩ (fun _ _ => rfl) fun _ _ e _ _ => Heap.get?_push_of_some _ e
theorem RO.push (R : RO Y g objs s0 s) (o : Obj) : RO Y g objs s0 { s with heap := s.heap.push o } where
 keep := fun b o' e => Heap.get?_push_of_some _ (R.keep b o' e)
 base := R.base
 len := R.len
 rel := fun i o' e => (R.rel i o' e).go (L := .none) (Go.push o).ext (LOk.none _) (fun _ q => nO q) fun b o'' q _ => Heap.get?_push_of_some _ q
 lt := fun b q => let ⟨o', e⟩ := R.lt b q; ⟨o', Heap.get?_push_of_some _ e⟩
 gens := R.gens
 os := R.os
 drawn := R.drawn
 pos := R.pos
theorem RS.push (R : RS Y g L names loc objs s0 s) (o : Obj) : RS Y g L names loc objs s0 { s with heap := s.heap.push o } :=
 ⟨R.toRO.push o, R.ownL, let ⟨m, n, l⟩ := R.ns; ⟨m, n.push o, fun k x a e1 e2 => let ⟨v, q1, q2⟩ := l k x a e1 e2; ⟨v, q1, q2.go (L := .none) (Go.push o).ext (LOk.none _)⟩⟩⟩
noncomputable def G.add (g : G) (a : Addr) (more : List Addr) : G := ⟨g.ρ ++ [a], fun b => if b = a ∨ b ∈ more then .mine g.ρ.length else g.own b⟩
theorem G.add_at (g : G) (a : Addr) (more : List Addr) : (g.add a more).ρ[g.ρ.length]? = some a := by simp [G.add]
theorem Go.add {L : Option Addr} {g : G} {h h' : Heap} {a : Nat} {more : List Nat} (lv : ∀ b, g.own b ≠ .free → ∃ o, h.get? b = some o) (ha : h.objs.size ≤ a) (hm : ∀ b : Nat, b ∈ more → h.objs.size ≤ b) (k : ∀ b o, h.get? b = some o → h'.get? b = some o) : Go L g h (g.add a more) h' := by
 refine .of ⟨[a], rfl⟩ (fun b hb => ?_) fun b o e _ _ => k b o e
 have live : ∃ o, h.get? b = some o := hb.elim (lv b) id
 obtain ⟨o, e⟩ := live
 show (if b = a ∨ b ∈ more then _ else _) = _
 rw [if_neg]
 rintro (rfl | q)
 ·exact live_ne e ha rfl
 ·exact live_ne e (hm b q) rfl
theorem RO.add (R : RO Y g objs s0 s) {h' : Heap} {t : Nat} {a : Nat} {more : List Nat} {o : AObj} (ha : s.heap.objs.size ≤ a) (ha' : ∃ o, h'.get? a = some o) (hm : ∀ b : Nat, b ∈ more → s.heap.objs.size ≤ b ∧ ∃ o, h'.get? b = some o) (k : ∀ b o, s.heap.get? b = some o → h'.get? b = some o)
  (r : RelO Y h' (g.add a more) objs.length o) (ht : s.toks ≤ t := by lia) : RO Y (g.add a more) (objs ++ [o]) s0 { s with heap := h', toks := t } := by
 have go : Go .none g s.heap (g.add a more) h' := Go.add R.lt ha (fun b q => (hm b q).1) k
 refine ⟨fun b o' e => k b o' (R.keep b o' e), fun b o' e => ?_, ?_, fun i o' e => ?_, fun b q => ?_, R.gens, R.os, R.drawn, Nat.lt_of_lt_of_le R.pos ht⟩
 ·exact (go.free b o' (R.keep b o' e) (R.base b o' e) (fun q => nO q)).1
 ·simp [G.add, R.len]
 ·rcases Nat.lt_trichotomy i objs.length with h | h | h
  ·rw [List.getElem?_append_left h] at e
   exact (R.rel i o' e).go (L := .none) go.ext (LOk.none _) (fun _ q => nO q) fun b o'' q _ => k b o'' q
  ·subst h
   simp at e; subst e; exact r
  ·rw [List.getElem?_eq_none (by simp; exact Nat.succ_le_of_lt h)] at e; cases e
 ·show ∃ o, h'.get? b = some o
  by_cases hb : b = a ∨ b ∈ more
  ·rcases hb with rfl | hb
   ·exact ha'
   ·exact (hm b hb).2
  ·have : (g.add a more).own b = g.own b := if_neg hb
   rw [this] at q
   obtain ⟨o', e⟩ := R.lt b q
   exact ⟨o', k b o' e⟩
theorem RS.add (R : RS Y g L names loc objs s0 s) {h' : Heap} {t : Nat} {a : Nat} {more : List Nat} {o : AObj} (ha : s.heap.objs.size ≤ a) (ha' : ∃ o, h'.get? a = some o) (hm : ∀ b : Nat, b ∈ more → s.heap.objs.size ≤ b ∧ ∃ o, h'.get? b = some o) (k : ∀ b o, s.heap.get? b = some o → h'.get? b = some o)
  (r : RelO Y h' (g.add a more) objs.length o) (ht : s.toks ≤ t := by lia) : RS Y (g.add a more) L names loc (objs ++ [o]) s0 { s with heap := h', toks := t } := by
 have go : Go .none g s.heap (g.add a more) h' := Go.add R.lt ha (fun b q => (hm b q).1) k
 refine ⟨R.toRO.add ha ha' hm k r ht, ?_, ?_⟩
 ·rw [go.own L (by rw [R.ownL]; exact fun q => of_no q)]; exact R.ownL
 ·obtain ⟨m, n, l⟩ := R.ns
  exact ⟨m, n.keeps k, fun k x a e1 e2 => let ⟨v, q1, q2⟩ := l k x a e1 e2; ⟨v, q1, q2.go go.ext (LOk.none _)⟩⟩
theorem Go.upd {L : Option Addr} {g : G} {h h' : Heap} {i : Nat} (k : ∀ b o, h.get? b = some o → g.own b ≠ .mine i → h'.get? b = some o) : Go L g h g h' :=
 .of ⟨[], by simp⟩ (fun _ _ => rfl) fun b o e n _ => k b o e (n i)
theorem RO.upd (R : RO Y g objs s0 s) {h' : Heap} {t : Nat} {i : Nat} {o : AObj} (k : ∀ b o, s.heap.get? b = some o → g.own b ≠ .mine i → h'.get? b = some o) (hl : ∀ b o, s.heap.get? b = some o → ∃ o', h'.get? b = some o')
  (r : RelO Y h' g i o) (ht : s.toks ≤ t := by lia) : RO Y g (objs.set i o) s0 { s with heap := h', toks := t } := by
 have go : Go .none g s.heap g h' := Go.upd k
 refine ⟨fun b o' e => k b o' (R.keep b o' e) (by rw [R.base b o' e]; exact fun q => fm_no q), R.base, by rw [List.length_set]; exact R.len, fun j o' e => ?_, fun b q => let ⟨o', e⟩ := R.lt b q; hl b o' e, R.gens, R.os, R.drawn, Nat.lt_of_lt_of_le R.pos ht⟩
 by_cases hj : i = j
 ·subst hj
  rw [List.getElem?_set] at e
  split at e
  ·split at e
   ·cases e; exact r
   ·cases e
  ·rename_i q; exact absurd rfl q
 ·rw [List.getElem?_set_ne hj] at e
  refine (R.rel j o' e).go (L := .none) go.ext (LOk.none _) (fun _ q => nO q) fun b o'' q n => k b o'' q ?_
  rw [n]; exact fun z => hj (by cases z; rfl)
theorem RS.upd (R : RS Y g L names loc objs s0 s) {h' : Heap} {t : Nat} {i : Nat} {o : AObj} (k : ∀ b o, s.heap.get? b = some o → g.own b ≠ .mine i → h'.get? b = some o) (hl : ∀ b o, s.heap.get? b = some o → ∃ o', h'.get? b = some o')
  (r : RelO Y h' g i o) (ht : s.toks ≤ t := by lia) : RS Y g L names loc (objs.set i o) s0 { s with heap := h', toks := t } := by
 have go : Go .none g s.heap g h' := Go.upd k
 refine ⟨R.toRO.upd k hl r ht, R.ownL, ?_⟩
 obtain ⟨m, ⟨oL, es, ep, hL, r1⟩, l⟩ := R.ns
 exact ⟨m, ⟨oL, es, ep, k L oL hL (by rw [R.ownL]; exact fun q => om_no q), r1⟩, fun k x a e1 e2 => let ⟨v, q1, q2⟩ := l k x a e1 e2; ⟨v, q1, q2.go go.ext (LOk.none _)⟩⟩
theorem live_but {d : Addr} {h h' : Heap} (hs : Heap.SameBut d h h') (hd : ∃ o, h'.get? d = some o) : ∀ b o, h.get? b = some o → ∃ o', h'.get? b = some o' := fun b o e => by
 by_cases n : b = d
 ·rw [n]; exact hd
 ·exact ⟨o, (hs.2 b n).trans e⟩
noncomputable def G.res (g : G) (a : Addr) : G := ⟨g.ρ, fun b => if b = a then .other else g.own b⟩
theorem Go.res {L : Option Addr} {g : G} {h : Heap} (lv : ∀ b, g.own b ≠ .free → ∃ o, h.get? b = some o) (o : Obj) : Go L g h (g.res h.objs.size) (h.push o) :=
 .of ⟨[], by simp [G.res]⟩ (fun b hb => if_neg (let ⟨_, e⟩ := (hb.elim (lv b) id : ∃ o, h.get? b = some o); live_ne e (Nat.le_refl _))) fun _ _ e _ _ => Heap.get?_push_of_some _ e
theorem RS.res (R : RS Y g L names loc objs s0 s) {o : Obj} (hf : o.isFreed = false) : RS Y (g.res s.heap.objs.size) L names loc objs s0 { s with heap := s.heap.push o } := by
 have go : Go .none g s.heap (g.res s.heap.objs.size) (s.heap.push o) := Go.res R.lt o
 refine ⟨⟨fun b o' e => Heap.get?_push_of_some _ (R.keep b o' e), fun b o' e => ?_, R.len, fun i o' e => ?_, fun b q => ?_, R.gens, R.os, R.drawn, R.pos⟩, ?_, ?_⟩
 ·exact (go.free b o' (R.keep b o' e) (R.base b o' e) (fun q => nO q)).1
 ·exact (R.rel i o' e).go (L := .none) go.ext (LOk.none _) (fun _ q => nO q) fun b o'' q _ => Heap.get?_push_of_some _ q
 ·by_cases hb : b = s.heap.objs.size
  ·exact ⟨o, by rw [hb]; exact Heap.get?_push_size _ hf⟩
  ·have : (g.res s.heap.objs.size).own b = g.own b := if_neg hb
   rw [this] at q
   obtain ⟨o', e⟩ := R.lt b q
   exact ⟨o', Heap.get?_push_of_some _ e⟩
 ·rw [go.own L (by rw [R.ownL]; exact fun q => nomatch q)]; exact R.ownL
 ·obtain ⟨m, n, l⟩ := R.ns
  exact ⟨m, n.push o, fun k x a e1 e2 => let ⟨v, q1, q2⟩ := l k x a e1 e2; ⟨v, q1, q2.go go.ext (LOk.none _)⟩⟩
theorem RS.turn (R : RS Y g L names loc objs s0 s) {a : Addr} (ha : g.own a = .other) (hL : a ≠ L) {g' : G} (hρ : ∃ more, g'.ρ = g.ρ ++ more) (own : ∀ b, b ≠ a → g'.own b = g.own b) {h' : Heap} (keep : ∀ b o, s.heap.get? b = some o → b ≠ a → h'.get? b = some o) {t : Nat} {more : List AObj}
  (hlen : g'.ρ.length = (objs ++ more).length) (r : ∀ i o, more[i]? = some o → RelO Y h' g' (objs.length + i) o) (hlive : g'.own a ≠ .free → ∃ o, h'.get? a = some o) (ht : s.toks ≤ t := by lia) :
  RS Y g' L names loc (objs ++ more) s0 { s with heap := h', toks := t } := by
 have hne : ∀ {b : Addr} {k : Own}, g.own b = k → k ≠ .other → b ≠ a := fun e n q => n (by rw [← e, q, ha])
 have x : Ext0 .none g s.heap g' h' := ⟨hρ, fun b o e f _ => by
  have n := hne f (fun q => fo_no q)
  exact ⟨(own b n).trans f, keep b o e n⟩⟩
 refine ⟨⟨fun b o' e => ?_, fun b o' e => ?_, hlen, fun i o' e => ?_, fun b q => ?_, R.gens, R.os, R.drawn, Nat.lt_of_lt_of_le R.pos ht⟩, (own L (fun q => hL q.symm)).trans R.ownL, ?_⟩
 ·exact keep b o' (R.keep b o' e) (hne (R.base b o' e) fun q => fo_no q)
 ·rw [own b (hne (R.base b o' e) fun q => fo_no q)]; exact R.base b o' e
 ·rcases Nat.lt_or_ge i objs.length with h | h
  ·rw [List.getElem?_append_left h] at e
   have e' := R.rel i o' e
   have hm : ∀ b o, s.heap.get? b = some o → g.own b = .mine i → g'.own b = .mine i ∧ h'.get? b = some o := fun b o q n => by
    have z := hne n (fun q => mo_no q)
    exact ⟨(own b z).trans n, keep b o q z⟩
   cases o' with
   | list _ => unfold RelO at e' ⊢; exact RelB.go0 x (LOk.none _) hm e'
   | dict _ => unfold RelO at e' ⊢; exact RelB.go0 x (LOk.none _) hm e'
   | idict _ => unfold RelO at e' ⊢; exact RelB.go0 x (LOk.none _) hm e'
   | inst _ _ => unfold RelO at e' ⊢; exact RelB.go0 x (LOk.none _) hm e'
   | strm p r =>
    obtain ⟨gc, d, e1, ⟨y, e2, e3⟩, e4, e5, e6, e7⟩ := e'
    refine RelS.go0 x ha own keep ⟨gc, d, e1, ⟨y, e2, e3⟩, e4, e5, e6, e7⟩
  ·rw [List.getElem?_append_right h] at e
   have := r _ _ e
   rw [show objs.length + (i - objs.length) = i by exact Nat.add_sub_of_le h] at this
   exact this
 ·show ∃ o, h'.get? b = some o
  by_cases n : b = a
  ·subst n; exact hlive q
  ·rw [own b n] at q
   obtain ⟨o', e⟩ := R.lt b q
   exact ⟨o', keep b o' e n⟩
 ·obtain ⟨m, ⟨oL, es, ep, hL', r1⟩, l⟩ := R.ns
  exact ⟨m, ⟨oL, es, ep, keep L oL hL' (fun q => hL q.symm), r1⟩, fun k y b e1 e2 => let ⟨v, q1, q2⟩ := l k y b e1 e2; ⟨v, q1, q2.go0 x (LOk.none _)⟩⟩
theorem RS.claim (R : RS Y g L names loc objs s0 s) {a : Addr} (ha : g.own a = .other) (hL : a ≠ L) {h' : Heap} (hb : Heap.SameBut a s.heap h') (hl : ∃ o, h'.get? a = some o) {t : Nat} {o : AObj} (r : RelO Y h' (g.add a []) objs.length o) (ht : s.toks ≤ t := by lia) :
  RS Y (g.add a []) L names loc (objs ++ [o]) s0 { s with heap := h', toks := t } :=
 R.turn ha hL ⟨[a], rfl⟩ (fun b n => if_neg (by simpa using n)) (fun b o e n => (hb.2 b n).trans e) (by simp [G.add, R.len]) (fun i o' e => by
  cases i with
  | zero => cases e; exact r
  | succ i => simp at e) (fun _ => hl) ht
theorem RS.poke (R : RS Y g L names loc objs s0 s) {a : Addr} (ha : g.own a = .other) (hL : a ≠ L) {h' : Heap} (hb : ∀ b o, s.heap.get? b = some o → b ≠ a → h'.get? b = some o) (hl : ∃ o, h'.get? a = some o) {t : Nat} (ht : s.toks ≤ t := by lia) :
  RS Y g L names loc objs s0 { s with heap := h', toks := t } := by
 have := R.turn ha hL (g' := g) ⟨[], by simp⟩ (fun _ _ => rfl) hb (more := []) (by rw [List.append_nil]; exact R.len) (fun i o' e => nO e) (fun _ => hl) ht
 rw [List.append_nil] at this; exact this
noncomputable def G.rel (g : G) (a : Addr) : G := ⟨g.ρ, fun b => if b = a then .free else g.own b⟩
theorem RS.drop (R : RS Y g L names loc objs s0 s) {a : Addr} (ha : g.own a = .other) (hL : a ≠ L) {h' : Heap} (hb : ∀ b o, s.heap.get? b = some o → b ≠ a → h'.get? b = some o) {t : Nat} (ht : s.toks ≤ t := by lia) :
  RS Y (g.rel a) L names loc objs s0 { s with heap := h', toks := t } := by
 have := R.turn ha hL (g' := g.rel a) ⟨[], by simp [G.rel]⟩ (fun b n => if_neg n) hb (more := []) (by rw [List.append_nil]; exact R.len) (fun i o' e => nO e) (fun q => absurd (if_pos rfl) q) ht
 rw [List.append_nil] at this; exact this
theorem Go.turn {L : Option Addr} {g g1 g2 : G} {h h1 h2 : Heap} {a : Addr} (x : Go L g h g1 h1) (lv : ∀ b, g.own b ≠ .free → ∃ o, h.get? b = some o) (ha : h.get? a = none) (hρ : ∃ more, g2.ρ = g1.ρ ++ more) (own : ∀ b, b ≠ a → g2.own b = g1.own b) (keep : ∀ b o, h1.get? b = some o → b ≠ a → h2.get? b = some o) : Go L g h g2 h2 := by
 have ne : ∀ {b : Addr} {o : Obj}, h.get? b = some o → b ≠ a := fun e q => by rw [q, ha] at e; cases e
 refine ⟨?_, fun b n => ?_, fun b o e f l => ?_, fun b o e f l => ?_⟩
 ·obtain ⟨m, e⟩ := x.ρ
  obtain ⟨m', e'⟩ := hρ
  exact ⟨m ++ m', by rw [e', e, List.append_assoc]⟩
 ·obtain ⟨o, e⟩ := lv b n
  rw [own b (ne e)]; exact x.own b n
 ·obtain ⟨q1, q2⟩ := x.free b o e f l
  exact ⟨(own b (ne e)).trans q1, keep b o q2 (ne e)⟩
 ·exact keep b o (x.oth b o e f l) (ne e)
theorem RS.store (R : RS Y g L names loc objs s0 s) {h' : Heap} {t : Nat} {j : Nat} {x : Str} {a : AV} {v : Value} (hx : names[j]? = some (x, NameKind.local)) (hn : (names.map (·.1)).Nodup) (hs : Heap.SameBut L s.heap h')
  {m : Str → Option Value} (hm : s.heap.Ns L m) (hN : h'.Ns L (fun y => if y = x then some v else m y)) (hv : RelV s.heap g a v) (hj : j < loc.length) (ht : s.toks ≤ t := by lia) :
  RS Y g L names (loc.set j (some a)) objs s0 { s with heap := h', toks := t } ∧ Go (some L) g s.heap g h' := by
 have go : Go (some L) g s.heap g h' := .of ⟨[], by simp⟩ (fun _ _ => rfl) fun b o e _ n => (hs.2 b fun q => n (by rw [q])).trans e
 have lk := R.lok
 obtain ⟨m', hm', l⟩ := R.ns
 have em : m' = m := by
  obtain ⟨o1, es1, ep1, q1, d1, k1, f1⟩ := hm'
  obtain ⟨o2, es2, ep2, q2, d2, k2, f2⟩ := hm
  rw [q1] at q2; cases q2
  rw [d1] at d2; cases d2
  exact funext fun y => (f1 y).symm.trans (f2 y)
 subst em
 refine ⟨⟨⟨fun b o e => (hs.2 b fun q => ?_).trans (R.keep b o e), R.base, R.len, fun i o e => (R.rel i o e).go go.ext lk (fun b q => by cases q; exact R.ownL) fun b o' q n => (hs.2 b fun z => ?_).trans q, fun b q => let ⟨o, e⟩ := R.lt b q; live_but hs (let ⟨o, es, ep, q, _⟩ := hN; ⟨o, q⟩) b o e, R.gens, R.os, R.drawn, Nat.lt_of_lt_of_le R.pos ht⟩, R.ownL, _, hN, fun k y b e1 e2 => ?_⟩, go⟩
 ·have := R.base b o e; rw [q, R.ownL] at this; cases this
 ·rw [z, R.ownL] at n; cases n
 ·by_cases hk : j = k
  ·subst hk
   rw [hx] at e1; cases e1
   rw [List.getElem?_set_self hj] at e2; cases e2
   exact ⟨v, if_pos rfl, hv.go go.ext lk⟩
  ·rw [List.getElem?_set_ne hk] at e2
   obtain ⟨u, q1, q2⟩ := l k y b e1 e2
   refine ⟨u, ?_, q2.go go.ext lk⟩
   have hne : y ≠ x := by
    rintro rfl
    have hi := List.getElem?_eq_some_iff.mp hx
    have hk' := List.getElem?_eq_some_iff.mp e1
    obtain ⟨l1, q1⟩ := hi
    obtain ⟨l2, q2⟩ := hk'
    have := (List.getElem_inj (i := j) (j := k) (h₀ := by simpa using l1) (h₁ := by simpa using l2) hn).mp (by simp [q1, q2])
    exact hk this
   show (if y = x then _ else _) = _
   rw [if_neg hne]; exact q1
end
end
noncomputable abbrev Res (α : Type) := Option (α × List Nat)
noncomputable def bnd {α β : Type} (x : Res α) (f : α → Res β) : Res β := match x with
 | none => none
 | some (a, l) => match f a with
  | none => none
  | some (b, l') => some (b, l ++ l')
noncomputable def fine {α : Type} (a : α) : Res α := some (a, [])
noncomputable def lift {α : Type} (x : Option α) : Res α := match x with
 | none => none
 | some a => some (a, [])
theorem bnd_some {α β : Type} {x : Res α} {f : α → Res β} {b : β} {l : List Nat} (h : bnd x f = some (b, l)) : ∃ a l1 l2, x = some (a, l1) ∧ f a = some (b, l2) ∧ l = l1 ++ l2 := by
 unfold bnd at h
 split at h
 ·cases h
 ·rename_i a l1
  split at h
  ·cases h
  ·rename_i b' l2 e
   cases h
   exact ⟨a, l1, l2, rfl, e, rfl⟩
theorem lift_some {α : Type} {x : Option α} {a : α} {l : List Nat} (h : lift x = some (a, l)) : x = some a ∧ l = [] := by
 unfold lift at h
 split at h <;> cases h
 exact ⟨rfl, rfl⟩
theorem fine_some {α : Type} {a b : α} {l : List Nat} (h : fine a = some (b, l)) : b = a ∧ l = [] := by cases h; exact ⟨rfl, rfl⟩
noncomputable def Fits (l : List Nat) : Prop := ∀ n ∈ l, n ≤ sizeLine
theorem Fits.nil : Fits [] := fun _ h => mem_no h
theorem Fits.left {a b : List Nat} (h : Fits (a ++ b)) : Fits a := fun n m => h n (List.mem_append_left _ m)
theorem Fits.right {a b : List Nat} (h : Fits (a ++ b)) : Fits b := fun n m => h n (List.mem_append_right _ m)
theorem nt {P : Prop} (h : false = true) : P := nomatch h
theorem bndF {α β : Type} {x : Res α} {f : α → Res β} {b : β} {l : List Nat} {P : Prop} (h : bnd x f = some (b, l)) (fit : Fits l) (k : ∀ a l1 l2, x = some (a, l1) → f a = some (b, l2) → Fits l1 → Fits l2 → P) : P := by
 obtain ⟨a, l1, l2, h1, h2, rfl⟩ := bnd_some h
 exact k a l1 l2 h1 h2 fit.left fit.right
theorem bndP {α γ β : Type} {x : Res (α × γ)} {f : α × γ → Res β} {b : β} {l : List Nat} {P : Prop} (h : bnd x f = some (b, l)) (fit : Fits l) (k : ∀ a c l1 l2, x = some ((a, c), l1) → f (a, c) = some (b, l2) → Fits l1 → Fits l2 → P) : P :=
 bndF h fit fun a l1 l2 => k a.1 a.2 l1 l2
theorem bndL {α β : Type} {x : Option α} {f : α → Res β} {b : β} {l : List Nat} {P : Prop} (h : bnd (lift x) f = some (b, l)) (fit : Fits l) (k : ∀ a l2, x = some a → f a = some (b, l2) → Fits l2 → P) : P :=
 bndF h fit fun a l1 l2 h1 h2 _ f2 => k a l2 (lift_some h1).1 h2 f2
theorem fine_eq {α : Type} {a b : α} {l : List Nat} (h : fine a = some (b, l)) : b = a := (fine_some h).1
theorem and2 {a b : Bool} (h : (a && b) = true) : a = true ∧ b = true := Bool.and_eq_true_iff.mp h
theorem and3 {a b c : Bool} (h : (a && b && c) = true) : a = true ∧ b = true ∧ c = true := ⟨(and2 (and2 h).1).1, (and2 (and2 h).1).2, (and2 h).2⟩
inductive Op where
 | add | sub | mul | fdiv | mod
inductive Cop where
 | eq | ne | lt | le | gt | ge | is | isnot | isin | notin
inductive PE where
 | none
 | bool (b : Bool)
 | int (i : Int)
 | str (s : List Nat)
 | loc (k : Nat)
 | glob (j : Nat)
 | attr (o : PE) (n : List Nat)
 | call (f : PE) (as : List PE)
 | meth (o : PE) (n : List Nat) (as : List PE)
 | repl (o : PE) (a b : List Nat)
 | bin (op : Op) (a b : PE)
 | cmp (a : PE) (ops : List Cop) (bs : List PE)
 | bop (isAnd : Bool) (xs : List PE)
 | not (a : PE)
 | neg (a : PE)
 | ite (c a b : PE)
 | sub (o i : PE)
 | slc (o : PE) (lo hi : Option PE)
 | tup (xs : List PE)
 | list (xs : List PE)
 | dict (ks vs : List PE)
inductive PT where
 | loc (k : Nat)
 | attr (o : PE) (n : List Nat)
 | sub (o i : PE)
 | tup (ts : List PT)
inductive Rt where
 | loc (k : Nat)
 | attr (k : Nat) (n : List Nat)
inductive PS where
 | expr (e : PE)
 | pass
 | brk
 | ret (e : PE)
 | asg (t : PT) (e : PE)
 | aug (t : PT) (op : Op) (e : PE)
 | ife (c : PE) (a b : List PS)
 | whl (rs : Option (List Rt)) (c : PE) (a : List PS)
 | for (rs : Option (List Rt)) (t : PT) (e : PE) (a : List PS)
 | asrt (e : PE)
inductive Fl where
 | next | brk | ret (v : AV)
noncomputable abbrev Fn := List AV → List AObj → Res (AV × List AObj)
structure Tab where
 globs : List (Str × AV)
 fns : List (Addr × Fn)
 meths : List (Addr × List Nat × Addr)
 cattr : List (Addr × List Nat × AV)
 own : List (Addr × List Nat)
 bms : List Addr
 cS : Addr
 kstr : List (Addr × List (List Nat × AV))
 kint : List (Addr × List (Int × AV))
 klst : List (Addr × List AV)
noncomputable def Tab.fn (T : Tab) (f : Addr) : Fn := fun as ob => match T.fns.lookup f with
 | some p => p as ob
 | none => none
noncomputable def find2 {β : Type} (C : Addr) (n : List Nat) : List (Addr × List Nat × β) → Option β
 | [] => none
 | (c, m, b) :: r => if c = C then (if m = n then some b else find2 C n r) else find2 C n r
noncomputable def has2 (C : Addr) (n : List Nat) : List (Addr × List Nat) → Bool
 | [] => false
 | (c, m) :: r => if c = C then (if m = n then true else has2 C n r) else has2 C n r
noncomputable def handedA : AV → Bool
 | .val v => handedIn v
 | .any => false
 | _ => true
noncomputable def look1 {β : Type} (n : List Nat) : List (List Nat × β) → Option β
 | [] => none
 | (m, b) :: r => if m = n then some b else look1 n r
noncomputable def put1 {β : Type} (n : List Nat) (b : β) : List (List Nat × β) → List (List Nat × β)
 | [] => [(n, b)]
 | (m, c) :: r => if m = n then (m, b) :: r else (m, c) :: put1 n b r
noncomputable def lookI {β : Type} (n : Int) : List (Int × β) → Option β
 | [] => none
 | (m, b) :: r => if m = n then some b else lookI n r
noncomputable def asStr : AV → Option (List Nat)
 | .str s => some s
 | _ => none
noncomputable def asInt : AV → Option Int
 | .int i => some i
 | _ => none
theorem asStr_is {x : AV} {s : List Nat} (h : asStr x = some s) : x = .str s := by
 cases x with
 | str t => rw [Option.some.inj h]
 | _ => exact nO h
noncomputable def asTup : AV → Option (List AV)
 | .tup i => some i
 | _ => none
theorem asTup_is {x : AV} {s : List AV} (h : asTup x = some s) : x = .tup s := by
 cases x with
 | tup t => rw [Option.some.inj h]
 | _ => exact nO h
theorem asInt_is {x : AV} {s : Int} (h : asInt x = some s) : x = .int s := by
 cases x with
 | int t => rw [Option.some.inj h]
 | _ => exact nO h
noncomputable def onList {β : Type} (ob : List AObj) (r : Nat) (k : List AV → Option β) : Option β := match ob[r]? with
 | none => none
 | some o => match o with
  | .list xs => k xs
  | _ => none
noncomputable def onDict {β : Type} (ob : List AObj) (r : Nat) (k : List (List Nat × AV) → Option β) : Option β := match ob[r]? with
 | none => none
 | some o => match o with
  | .dict xs => k xs
  | _ => none
noncomputable def onIdict {β : Type} (ob : List AObj) (r : Nat) (k : List (Int × AV) → Option β) : Option β := match ob[r]? with
 | none => none
 | some o => match o with
  | .idict xs => k xs
  | _ => none
noncomputable def onInst {β : Type} (ob : List AObj) (r : Nat) (k : Addr → List (List Nat × AV) → Option β) : Option β := match ob[r]? with
 | none => none
 | some o => match o with
  | .inst C as => k C as
  | _ => none
section
variable {β : Type} {ob : List AObj} {r : Nat} {b : β} {P : Prop}
theorem onList_is {k : List AV → Option β} (h : onList ob r k = some b) (q : ∀ xs, ob[r]? = some (.list xs) → k xs = some b → P) : P := by
 unfold onList at h
 cases e : ob[r]? with
 | none => rw [e] at h; exact nO h
 | some o =>
  rw [e] at h
  cases o with
  | list xs => exact q xs e h
  | _ => exact nO h
theorem onDict_is {k : List (List Nat × AV) → Option β} (h : onDict ob r k = some b) (q : ∀ xs, ob[r]? = some (.dict xs) → k xs = some b → P) : P := by
 unfold onDict at h
 cases e : ob[r]? with
 | none => rw [e] at h; exact nO h
 | some o =>
  rw [e] at h
  cases o with
  | dict xs => exact q xs e h
  | _ => exact nO h
theorem onIdict_is {k : List (Int × AV) → Option β} (h : onIdict ob r k = some b) (q : ∀ xs, ob[r]? = some (.idict xs) → k xs = some b → P) : P := by
 unfold onIdict at h
 cases e : ob[r]? with
 | none => rw [e] at h; exact nO h
 | some o =>
  rw [e] at h
  cases o with
  | idict xs => exact q xs e h
  | _ => exact nO h
theorem onInst_is {k : Addr → List (List Nat × AV) → Option β} (h : onInst ob r k = some b) (q : ∀ C as, ob[r]? = some (.inst C as) → k C as = some b → P) : P := by
 unfold onInst at h
 cases e : ob[r]? with
 | none => rw [e] at h; exact nO h
 | some o =>
  rw [e] at h
  cases o with
  | inst C as => exact q C as e h
  | _ => exact nO h
theorem ite_is {c : Prop} [Decidable c] {a : Option β} (h : (if c then a else none) = some b) (q : c → a = some b → P) : P := by
 by_cases e : c
 ·exact q e ((if_pos e).symm.trans h)
 ·exact nomatch (if_neg e).symm.trans h
theorem cond_is {c : Bool} {a : Option β} (h : (match c with | true => a | false => none) = some b) (q : c = true → a = some b → P) : P := by
 cases c with
 | true => exact q rfl h
 | false => exact nO h
end
noncomputable def asRef : AV → Option Nat
 | .ref i => some i
 | _ => none
theorem asRef_is {x : AV} {s : Nat} (h : asRef x = some s) : x = .ref s := by
 cases x with
 | ref t => rw [Option.some.inj h]
 | _ => exact nO h
noncomputable def onSome {α β : Type} (x : Option α) (k : α → Option β) : Option β := match x with
 | none => none
 | some a => k a
theorem oSi {α β : Type} {x : Option α} {k : α → Option β} {b : β} {P : Prop} (h : onSome x k = some b) (q : ∀ a, x = some a → k a = some b → P) : P := by
 cases x with
 | none => exact nO h
 | some a => exact q a rfl h
noncomputable def unc {β : Type} (as : List AV) (k : AV → List AV → Option β) : Option β := match as with
 | [] => none
 | x :: r => k x r
noncomputable def nilK {β : Type} (as : List AV) (b : Option β) : Option β := match as with
 | [] => b
 | _ :: _ => none
theorem one_is {β : Type} {as : List AV} {k : AV → Option β} {b : β} {P : Prop} (h : unc as (fun x r => nilK r (k x)) = some b) (q : ∀ x, as = [x] → k x = some b → P) : P := by
 cases as with
 | nil => exact nO h
 | cons x r => cases r with
  | nil => exact q x rfl h
  | cons _ _ => exact nO h
theorem two_is' {β : Type} {as : List AV} {k : AV → AV → Option β} {b : β} {P : Prop} (h : unc as (fun x r => unc r fun y r => nilK r (k x y)) = some b) (q : ∀ x y, as = [x, y] → k x y = some b → P) : P := by
 cases as with
 | nil => exact nO h
 | cons x r => exact one_is h fun y e h => q x y (by rw [e]) h
theorem three_is {β : Type} {as : List AV} {k : AV → AV → AV → Option β} {b : β} {P : Prop} (h : unc as (fun x r => unc r fun y r => unc r fun z r => nilK r (k x y z)) = some b) (q : ∀ x y z, as = [x, y, z] → k x y z = some b → P) : P := by
 cases as with
 | nil => exact nO h
 | cons x r => exact two_is' h fun y z e h => q x y z (by rw [e]) h
noncomputable def oneC {β : Type} (x : AV) (k : Nat → Option β) : Option β := onSome (asStr x) fun s => match s with
 | [] => none
 | c :: r => match r with
  | [] => k c
  | _ :: _ => none
theorem oneC_is {β : Type} {x : AV} {k : Nat → Option β} {b : β} {P : Prop} (h : oneC x k = some b) (q : ∀ c, x = .str [c] → k c = some b → P) : P :=
 oSi h fun s e h => by
  cases s with
  | nil => exact nO h
  | cons c r => cases r with
   | nil => exact q c (asStr_is e) h
   | cons _ _ => exact nO h
noncomputable def int2 {β : Type} (x y : AV) (k : Int → Int → Option β) : Option β := onSome (asInt x) fun a => onSome (asInt y) (k a)
theorem int2_is {β : Type} {x y : AV} {k : Int → Int → Option β} {b : β} {P : Prop} (h : int2 x y k = some b) (q : ∀ i j, x = .int i → y = .int j → k i j = some b → P) : P :=
 oSi h fun i e h => oSi h fun j e' h => q i j (asInt_is e) (asInt_is e') h
noncomputable def str2 {β : Type} (x y : AV) (k : List Nat → List Nat → Option β) : Option β := onSome (asStr x) fun a => onSome (asStr y) (k a)
theorem str2_is {β : Type} {x y : AV} {k : List Nat → List Nat → Option β} {b : β} {P : Prop} (h : str2 x y k = some b) (q : ∀ i j, x = .str i → y = .str j → k i j = some b → P) : P :=
 oSi h fun i e h => oSi h fun j e' h => q i j (asStr_is e) (asStr_is e') h
noncomputable def refOf : Value → Option Addr
 | .ref a => some a
 | _ => none
noncomputable def bltOf : Value → Option String
 | .builtin a => some a
 | _ => none
theorem refOf_is {v : Value} {a : Addr} (h : refOf v = some a) : v = .ref a := by
 cases v with
 | ref b => rw [Option.some.inj h]
 | _ => exact nO h
theorem bltOf_is {v : Value} {a : String} (h : bltOf v = some a) : v = .builtin a := by
 cases v with
 | builtin b => rw [Option.some.inj h]
 | _ => exact nO h
noncomputable def noneK {α β : Type} (x : Option α) (b : Option β) : Option β := match x with
 | none => b
 | some _ => none
theorem noneK_is {α β : Type} {x : Option α} {b : Option β} {r : β} {P : Prop} (h : noneK x b = some r) (q : x = none → b = some r → P) : P := by
 cases x with
 | none => exact q rfl h
 | some a => exact nO h
noncomputable def orK {α β : Type} (x : Option α) (k : α → Option β) (b : Option β) : Option β := match x with
 | none => b
 | some a => k a
theorem orK_is {α β : Type} {x : Option α} {k : α → Option β} {b : Option β} {r : β} {P : Prop} (h : orK x k b = some r) (q1 : x = none → b = some r → P) (q2 : ∀ a, x = some a → k a = some r → P) : P := by
 cases x with
 | none => exact q1 rfl h
 | some a => exact q2 a rfl h
noncomputable def getC (T : Tab) (C : Addr) (as : List (List Nat × AV)) (i : Nat) (n : List Nat) : Option AV := match has2 C n T.own with
 | true => onSome (look1 n as) fun a => (match handedA a with | true => some a | false => none)
 | false => noneK (look1 n as) (orK (find2 C n T.cattr) some (onSome (find2 C n T.meths) fun f => some (.meth f i)))
noncomputable def getA (T : Tab) (v : AV) (n : List Nat) (ob : List AObj) : Option AV := match v with
 | .ref i => onInst ob i fun C as => getC T C as i n
 | _ => none
theorem getA_is {T : Tab} {v a : AV} {n : List Nat} {ob : List AObj} {P : Prop} (h : getA T v n ob = some a) (q1 : ∀ i C as, v = .ref i → ob[i]? = some (.inst C as) → has2 C n T.own = true → look1 n as = some a → handedA a = true → P)
  (q2 : ∀ i C as, v = .ref i → ob[i]? = some (.inst C as) → look1 n as = none → find2 C n T.cattr = some a → P) (q3 : ∀ i C as f, v = .ref i → ob[i]? = some (.inst C as) → look1 n as = none → find2 C n T.meths = some f → a = .meth f i → P) : P := by
 cases v with
 | ref i =>
  refine onInst_is h fun C as e h => ?_
  unfold getC at h
  cases ho : has2 C n T.own with
  | true =>
   rw [ho] at h
   exact oSi h fun b hl h => cond_is h fun hh h => by
    cases h
    exact q1 i C as rfl e ho hl hh
  | false =>
   rw [ho] at h
   exact noneK_is h fun hl h => orK_is h (fun _ h => oSi h fun f hm h => q3 i C as f rfl e hl hm (Option.some.inj h).symm) fun b hc h => q2 i C as rfl e hl (by rw [hc, Option.some.inj h])
 | _ => exact nO h
inductive MT where
 | fn (f : Addr) (self : AV)
 | bm (f : Addr) (i : Nat)
 | join (s : List Nat) | count (s : List Nat) | rfind (s : List Nat) | index (s : List Nat)
 | append (i : Nat) | get (i : Nat)
noncomputable abbrev nJoin : List Nat := [106, 111, 105, 110]
noncomputable abbrev nReplace : List Nat := [114, 101, 112, 108, 97, 99, 101]
noncomputable abbrev nCount : List Nat := [99, 111, 117, 110, 116]
noncomputable abbrev nRfind : List Nat := [114, 102, 105, 110, 100]
noncomputable abbrev nIndex : List Nat := [105, 110, 100, 101, 120]
noncomputable abbrev nAppend : List Nat := [97, 112, 112, 101, 110, 100]
noncomputable abbrev nGet : List Nat := [103, 101, 116]
noncomputable def strM (s n : List Nat) : Option MT := if n = nJoin then some (.join s) else if n = nCount then some (.count s) else if n = nRfind then some (.rfind s) else if n = nIndex then some (.index s) else none
noncomputable def instM (T : Tab) (C : Addr) (as : List (List Nat × AV)) (i : Nat) (n : List Nat) : Option MT := orK (look1 n as) (fun a => match has2 C n T.own with
  | true => (match a with
   | .meth f j => some (.bm f j)
   | _ => none)
  | false => none) (onSome (find2 C n T.meths) fun f => some (.fn f (.ref i)))
noncomputable def objM (T : Tab) (i : Nat) (n : List Nat) (o : AObj) : Option MT := match o with
 | .inst C as => instM T C as i n
 | .strm _ _ => onSome (find2 T.cS n T.meths) fun f => some (.fn f (.ref i))
 | .list _ => if n = nAppend then some (.append i) else none
 | .idict _ => if n = nGet then some (.get i) else none
 | .dict _ => none
noncomputable def findM (T : Tab) (v : AV) (n : List Nat) (ob : List AObj) : Option MT := match v with
 | .ref i => onSome ob[i]? (objM T i n)
 | .str s => strM s n
 | _ => none
theorem instM_is {T : Tab} {C : Addr} {as : List (List Nat × AV)} {i : Nat} {n : List Nat} {m : MT} {P : Prop} (h : instM T C as i n = some m) (q1 : ∀ f j, look1 n as = some (.meth f j) → has2 C n T.own = true → m = .bm f j → P) (q2 : ∀ f, look1 n as = none → find2 C n T.meths = some f → m = .fn f (.ref i) → P) : P :=
 orK_is h (fun hl h => oSi h fun f hm h => q2 f hl hm (Option.some.inj h).symm) fun a hl h => cond_is h fun ho h => by
  cases a with
  | meth f j => exact q1 f j hl ho (Option.some.inj h).symm
  | _ => exact nO h
theorem strM_is {s n : List Nat} {m : MT} {P : Prop} (h : strM s n = some m) (q1 : n = nJoin → m = .join s → P) (q2 : n = nCount → m = .count s → P) (q3 : n = nRfind → m = .rfind s → P) (q4 : n = nIndex → m = .index s → P) : P := by
 unfold strM at h
 by_cases h1 : n = nJoin
 ·rw [if_pos h1] at h; exact q1 h1 (Option.some.inj h).symm
 rw [if_neg h1] at h
 by_cases h2 : n = nCount
 ·rw [if_pos h2] at h; exact q2 h2 (Option.some.inj h).symm
 rw [if_neg h2] at h
 by_cases h3 : n = nRfind
 ·rw [if_pos h3] at h; exact q3 h3 (Option.some.inj h).symm
 rw [if_neg h3] at h
 exact ite_is h fun h4 h => q4 h4 (Option.some.inj h).symm
noncomputable def gath {κ : Type} (f : AV → Option κ) : List AV → Option (List κ)
 | [] => some []
 | x :: r => match f x with
  | none => none
  | some k => match gath f r with
   | none => none
   | some l => some (k :: l)
theorem gath_is {κ : Type} {f : AV → Option κ} {x : AV} {r : List AV} {l : List κ} {P : Prop} (h : gath f (x :: r) = some l) (k : ∀ y t, f x = some y → gath f r = some t → l = y :: t → P) : P := by
 unfold gath at h
 cases h1 : f x with
 | none => rw [h1] at h; exact nO h
 | some y => cases h2 : gath f r with
  | none => rw [h1, h2] at h; exact nO h
  | some t => rw [h1, h2] at h; exact k y t h1 h2 (Option.some.inj h).symm
noncomputable abbrev strsOf : List AV → Option (List (List Nat)) := gath asStr
noncomputable def replS (s a b : List Nat) : List Nat := (Txt.replace (sOf s) (sOf a) (sOf b)).cps.toList
noncomputable def seekK {β : Type} (s : List Nat) (as : List AV) (k : Nat → Int → Option β) : Option β := unc as fun x r => unc r fun y r => unc r fun z r => nilK r (oneC x fun c => onSome (asInt y) fun a => onSome (asInt z) fun b => if a = 0 then (if 0 ≤ b ∧ b ≤ s.length ∧ b < 2 ^ 62 then k c b else none) else none)
theorem seekK_is {β : Type} {s : List Nat} {as : List AV} {k : Nat → Int → Option β} {r : β} {P : Prop} (h : seekK s as k = some r) (q : ∀ c b, as = [.str [c], .int 0, .int b] → 0 ≤ b ∧ b ≤ s.length ∧ b < 2 ^ 62 → k c b = some r → P) : P :=
 three_is h fun x y z e h => oneC_is h fun c e1 h => oSi h fun a e2 h => oSi h fun b e3 h => ite_is h fun e4 h => ite_is h fun hb h => q c b (by rw [e, e1, asInt_is e2, asInt_is e3, e4]) hb h
noncomputable def joinK (as : List AV) (ob : List AObj) : Res (AV × List AObj) := unc as fun a r => nilK r (onSome (asRef a) fun i => onList ob i fun xs => onSome (strsOf xs) fun ts => some ((.str ts.flatten, ob), [ts.flatten.length, ts.length]))
noncomputable def callM (T : Tab) (m : MT) (as : List AV) (ob : List AObj) : Res (AV × List AObj) := match m with
 | .fn f self => T.fn f (self :: as) ob
 | .bm f i => match T.bms.contains f with
  | true => T.fn f (.ref i :: as) ob
  | false => none
 | .append i => unc as fun a r => nilK r (onList ob i fun xs => some ((.none, ob.set i (.list (xs ++ [a]))), [xs.length]))
 | .get i => unc as fun x r => unc r fun d r => nilK r (onSome (asInt x) fun k => onIdict ob i fun es => fine ((lookI k es).getD d, ob))
 | .join s => (match s with
  | [] => joinK as ob
  | _ :: _ => none)
 | .count s => seekK s as fun c b => fine (.int ((Builtin.Str.occurrences (sOf s) (sOf [c]) 0 b.toNat (s.length + 1)).length : Nat), ob)
 | .rfind s => seekK s as fun c b => fine (.int (match Builtin.Str.lastOccurrence (sOf s) (sOf [c]) 0 b.toNat with | some i => (i : Int) | none => -1), ob)
 | .index s => unc as fun a r => nilK r (oneC a fun c => match Builtin.Str.occurrences (sOf s) (sOf [c]) 0 s.length 1 with
  | i :: _ => fine (.int (i : Nat), ob)
  | [] => none)
noncomputable def nodupB {α : Type} [DecidableEq α] : List α → Bool
 | [] => true
 | x :: r => !(decide (x ∈ r)) && nodupB r
noncomputable def eqS (x y : AV) : Option Bool := match x with
 | .none => (match y with
  | .none => some true
  | .str _ => some false
  | _ => none)
 | .str a => (match y with
  | .none => some false
  | .str b => some (decide (a = b))
  | _ => none)
 | .int a => onSome (asInt y) fun b => some (decide (a = b))
 | .bool a => (match y with
  | .bool b => some (a == b)
  | _ => none)
 | _ => none
theorem eqS_is {x y : AV} {r : Bool} {P : Prop} (h : eqS x y = some r) (q1 : x = .none → y = .none → r = true → P) (q2 : ∀ b, x = .none → y = .str b → r = false → P) (q3 : ∀ a, x = .str a → y = .none → r = false → P)
  (q4 : ∀ a b, x = .str a → y = .str b → r = decide (a = b) → P) (q5 : ∀ a b, x = .int a → y = .int b → r = decide (a = b) → P) (q6 : ∀ a b, x = .bool a → y = .bool b → r = (a == b) → P) : P := by
 cases x with
 | none => cases y with
  | none => exact q1 rfl rfl (Option.some.inj h).symm
  | str b => exact q2 b rfl rfl (Option.some.inj h).symm
  | _ => exact nO h
 | str a => cases y with
  | none => exact q3 a rfl rfl (Option.some.inj h).symm
  | str b => exact q4 a b rfl rfl (Option.some.inj h).symm
  | _ => exact nO h
 | int a => exact oSi h fun b e h => q5 a b rfl (asInt_is e) (Option.some.inj h).symm
 | bool a => cases y with
  | bool b => exact q6 a b rfl rfl (Option.some.inj h).symm
  | _ => exact nO h
 | _ => exact nO h
noncomputable def trueO : Option Bool → Bool
 | some b => b
 | none => false
theorem tOi {x : Option Bool} (h : trueO x = true) : x = some true := by
 cases x with
 | none => exact nt h
 | some b => exact congrArg some h
noncomputable def sames {α β : Type} (f : α → β → Bool) : List α → List β → Bool
 | [], ys => ys.isEmpty
 | x :: xs, ys => match ys with
  | [] => false
  | y :: ys => f x y && sames f xs ys
theorem sames_at {α β : Type} {f : α → β → Bool} (xs : List α) : ∀ {ys : List β}, sames f xs ys = true → xs.length = ys.length ∧ ∀ (j : Nat) (x : α) (y : β), xs[j]? = some x → ys[j]? = some y → f x y = true := by
 induction xs with
 | nil =>
  intro ys h
  cases ys with
  | nil => exact ⟨rfl, fun _ _ _ e => nO e⟩
  | cons _ _ => exact nt h
 | cons x xs ih =>
  intro ys h
  cases ys with
  | nil => exact nt h
  | cons y ys =>
   have i := ih (and2 h).2
   refine ⟨congrArg Nat.succ i.1, fun j a b e1 e2 => ?_⟩
   cases j with
   | zero => rw [← Option.some.inj e1, ← Option.some.inj e2]; exact (and2 h).1
   | succ j => exact i.2 j a b e1 e2
noncomputable def samD (f : AV → AV → Bool) (ob : List AObj) (i j : Nat) : Bool := trueO (onDict ob i fun xs => onDict ob j fun ys => some (nodupB (ys.map (·.1)) && sames (fun x y => decide (x.1 = y.1) && f x.2 y.2) xs ys))
theorem samD_is' {f : AV → AV → Bool} {ob : List AObj} {i j : Nat} {P : Prop} (h : samD f ob i j = true) (q : ∀ xs ys, ob[i]? = some (.dict xs) → ob[j]? = some (.dict ys) → nodupB (ys.map (·.1)) = true → sames (fun x y => decide (x.1 = y.1) && f x.2 y.2) xs ys = true → P) : P :=
 onDict_is (tOi h) fun xs e1 h => onDict_is h fun ys e2 h => q xs ys e1 e2 (and2 (Option.some.inj h)).1 (and2 (Option.some.inj h)).2
noncomputable def samI : Nat → AV → AV → List AObj → Bool
 | 0, _, _, _ => false
 | n + 1, a, b, ob => match asRef a with
  | some i => trueO (onSome (asRef b) fun j => some (samD (fun x y => samI n x y ob) ob i j))
  | none => trueO (eqS a b)
theorem samI_is {n : Nat} {a b : AV} {ob : List AObj} {P : Prop} (h : samI (n + 1) a b ob = true) (q3 : ∀ i j, a = .ref i → b = .ref j → samD (fun x y => samI n x y ob) ob i j = true → P) (q4 : eqS a b = some true → P) : P := by
 unfold samI at h
 cases e : asRef a with
 | none => rw [e] at h; exact q4 (tOi h)
 | some i => rw [e] at h; exact oSi (tOi h) fun j e2 h => q3 i j (asRef_is e) (asRef_is e2) (Option.some.inj h)
noncomputable def sameB (n : Nat) (a b : AV) (ob : List AObj) : Bool := match asRef a with
  | some i => trueO (onSome (asRef b) fun j => some (trueO (onList ob i fun xs => onList ob j fun ys => some (sames (fun x y => samI n x y ob) xs ys)) || samD (fun x y => samI n x y ob) ob i j))
  | none => trueO (onSome (asTup a) fun xs => onSome (asTup b) fun ys => some (sames (fun x y => trueO (eqS x y)) xs ys))
noncomputable def same : Nat → AV → AV → List AObj → Bool
 | 0, _, _, _ => false
 | n + 1, a, b, ob => sameB n a b ob
theorem same_is {n : Nat} {a b : AV} {ob : List AObj} {P : Prop} (h : same (n + 1) a b ob = true) (q1 : ∀ xs ys, a = .tup xs → b = .tup ys → sames (fun x y => trueO (eqS x y)) xs ys = true → P)
  (q2 : ∀ i j xs ys, a = .ref i → b = .ref j → ob[i]? = some (.list xs) → ob[j]? = some (.list ys) → sames (fun x y => samI n x y ob) xs ys = true → P) (q3 : ∀ i j, a = .ref i → b = .ref j → samD (fun x y => samI n x y ob) ob i j = true → P) : P := by
 replace h : sameB n a b ob = true := h
 unfold sameB at h
 cases e : asRef a with
 | none => rw [e] at h; exact oSi (tOi h) fun xs e1 h => oSi h fun ys e2 h => q1 xs ys (asTup_is e1) (asTup_is e2) (Option.some.inj h)
 | some i =>
  rw [e] at h
  refine oSi (tOi h) fun j e2 h => ?_
  rcases Bool.or_eq_true_iff.mp (Option.some.inj h) with h | h
  ·exact onList_is (tOi h) fun xs e1 h => onList_is h fun ys e3 h => q2 i j xs ys (asRef_is e) (asRef_is e2) e1 e3 (Option.some.inj h)
  ·exact q3 i j (asRef_is e) (asRef_is e2) h
noncomputable def isS (x y : AV) : Option Bool := match y with
 | .none => (match x with
  | .none => some true
  | .val _ => none
  | .any => none
  | _ => some false)
 | .bool b => (match x with
  | .none => some false
  | .bool a => some (a == b)
  | _ => none)
 | _ => none
noncomputable def anyS (x : AV) : List AV → Option Bool
 | [] => some false
 | y :: r => onSome (eqS y x) fun b => onSome (anyS x r) fun c => some (b || c)
noncomputable def inS (T : Tab) (x y : AV) : Option Bool := match y with
 | .tup ys => anyS x ys
 | .str s => oneC x fun c => some (s.contains c)
 | .val v => onSome (refOf v) fun a => onSome (asInt x) fun k => onSome (T.kint.lookup a) fun es => some (lookI k es).isSome
 | _ => none
noncomputable def strLe (x y : AV) : Option Bool := oneC x fun a => oneC y fun b => some (decide (a ≤ b))
noncomputable def cmpS (T : Tab) (op : Cop) (x y : AV) (ob : List AObj) : Option Bool := match op with
 | .eq => eqS x y
 | .ne => match eqS x y with
  | some b => some (!b)
  | none => match same 6 x y ob with
   | true => some false
   | false => none
 | .lt => int2 x y fun a b => some (decide (a < b))
 | .le => match asInt x with
  | some _ => int2 x y fun a b => some (decide (a ≤ b))
  | none => strLe x y
 | .gt => int2 x y fun a b => some (decide (b < a))
 | .ge => int2 x y fun a b => some (decide (b ≤ a))
 | .is => isS x y
 | .isnot => (isS x y).map (!·)
 | .isin => inS T x y
 | .notin => (inS T x y).map (!·)
noncomputable def binS (op : Op) (x y : AV) : Res AV := match op with
 | .add => (match asInt x with
  | some _ => int2 x y fun a b => fine (.int (a + b))
  | none => str2 x y fun a b => some (.str (a ++ b), [(a ++ b).length]))
 | .sub => int2 x y fun a b => fine (.int (a - b))
 | .mul => int2 x y fun a b => if a.natAbs < 2 ^ 40 ∧ b.natAbs < 2 ^ 40 then fine (.int (a * b)) else none
 | .fdiv => int2 x y fun a b => if 0 < b ∧ b < 2 ^ 20 then fine (.int (Int.fdiv a b)) else none
 | .mod => int2 x y fun a b => if 0 < b ∧ b < 2 ^ 20 then fine (.int (Int.fmod a b)) else none
noncomputable def truth (x : AV) (ob : List AObj) : Res Bool := match x with
 | .none => fine false
 | .bool b => fine b
 | .int i => fine (decide (i ≠ 0))
 | .str s => some (!s.isEmpty, [s.length])
 | .meth _ _ => fine true
 | .ref i => onList ob i fun xs => some (!xs.isEmpty, [xs.length])
 | _ => none
noncomputable def place (k : Int) (n : Nat) : Option Nat :=
 if 0 ≤ k then (if k < n then some k.toNat else none) else (if -k ≤ n then some (k + n).toNat else none)
noncomputable def nthK {β : Type} (k : Int) (l : List β) (q : β → Option AV) : Option AV := if k < 2 ^ 62 ∧ -(2 ^ 62) < k then onSome (place k l.length) fun j => onSome l[j]? q else none
noncomputable def subS (T : Tab) (o i : AV) (ob : List AObj) : Option AV := match o with
 | .str s => onSome (asInt i) fun k => nthK k s fun c => some (.str [c])
 | .tup xs => onSome (asInt i) fun k => nthK k xs some
 | .ref r => (match i with
  | .int k => onList ob r fun xs => if 0 ≤ k ∧ k < 2 ^ 62 then xs[k.toNat]? else none
  | .str n => onDict ob r fun es => look1 n es
  | _ => none)
 | .val v => onSome (refOf v) fun a => (match i with
  | .str n => onSome (T.kstr.lookup a) fun es => look1 n es
  | .int k => orK (T.kint.lookup a) (fun es => lookI k es) (onSome (T.klst.lookup a) fun xs => if 0 ≤ k ∧ k < 2 ^ 62 then xs[k.toNat]? else none)
  | _ => none)
 | _ => none
noncomputable def clampI (k : Int) (n : Nat) : Nat := if k < 0 then (k + n).toNat else min k.toNat n
noncomputable def loA (lo : Option Int) (n : Nat) : Nat := match lo with
 | some k => clampI k n
 | none => 0
noncomputable def hiA (hi : Option Int) (n : Nat) : Nat := match hi with
 | some k => clampI k n
 | none => n
noncomputable def sliceL {α : Type} (l : List α) (lo hi : Option Int) : List α := (l.take (hiA hi l.length)).drop (loA lo l.length)
noncomputable def smallI : Option Int → Bool
 | none => true
 | some k => decide (-(2 ^ 62) < k ∧ k < 2 ^ 62)
noncomputable def slcS (o : AV) (lo hi : Option Int) (ob : List AObj) : Res (AV × List AObj) := match smallI lo && smallI hi with
 | false => none
 | true => match o with
  | .str s => some ((.str (sliceL s lo hi), ob), [s.length])
  | .ref r => onList ob r fun xs => some ((.ref ob.length, ob ++ [.list (sliceL xs lo hi)]), [xs.length])
  | _ => none
noncomputable def intOf : AV → Option (Option Int)
 | .none => some none
 | .int i => some (some i)
 | _ => none
noncomputable def slcI (x l u : AV) (ob : List AObj) : Res (AV × List AObj) := match intOf l with
 | none => none
 | some l => match intOf u with
  | none => none
  | some u => slcS x l u ob
theorem two_ints {x l u : AV} {ob : List AObj} {r : (AV × List AObj) × List Nat} {P : Prop} (h : slcI x l u ob = some r) (k : ∀ li ui, intOf l = some li → intOf u = some ui → slcS x li ui ob = some r → P) : P := by
 unfold slcI at h
 cases h1 : intOf l with
 | none => rw [h1] at h; exact nO h
 | some li => cases h2 : intOf u with
  | none => rw [h1, h2] at h; exact nO h
  | some ui => rw [h1, h2] at h; exact k li ui h1 h2 h
noncomputable def replI (v : AV) (a b : List Nat) (ob : List AObj) : Res (AV × List AObj) := match v with
 | .str s => if a ≠ b then some ((.str (replS s a b), ob), [s.length + (s.length + 1) * b.length]) else none
 | _ => none
theorem replI_is {v : AV} {a b : List Nat} {ob : List AObj} {r : (AV × List AObj) × List Nat} {P : Prop} (h : replI v a b ob = some r) (k : ∀ s, v = .str s → a ≠ b → some ((AV.str (replS s a b), ob), [s.length + (s.length + 1) * b.length]) = some r → P) : P := by
 cases v with
 | str s =>
  by_cases n : a ≠ b
  ·exact k s rfl n ((if_pos n).symm.trans h)
  ·exact nomatch (if_neg n).symm.trans h
 | _ => exact nO h
noncomputable def lenK (x : AV) (ob : List AObj) : Res (AV × List AObj) := match x with
 | .str s => some ((.int s.length, ob), [s.length])
 | .ref r => onList ob r fun xs => some ((.int xs.length, ob), [xs.length])
 | _ => none
noncomputable def callF (T : Tab) (f : AV) (as : List AV) (ob : List AObj) : Res (AV × List AObj) := match f with
 | .val v => orK (refOf v) (fun a => T.fn a as ob) (onSome (bltOf v) fun n => unc as fun x r => nilK r (if n = "len" then lenK x ob else if n = "ord" then oneC x fun c => fine (.int c, ob)
   else if n = "chr" then onSome (asInt x) fun k => if 0 ≤ k ∧ k < 1114112 then fine (.str [k.toNat], ob) else none else none))
 | _ => none
noncomputable def dictOk {κ : Type} [DecidableEq κ] (l : List κ) (vs : List AV) : Bool := decide (0 < l.length) && (nodupB l && (decide (l.length = vs.length) && decide (l.length ≤ 15)))
noncomputable def dictI (ks vs : List AV) (ob : List AObj) : Option (AV × List AObj) := match gath asInt ks with
 | none => none
 | some l => match dictOk l vs with
  | true => some (.ref ob.length, ob ++ [.idict (l.zip vs)])
  | false => none
noncomputable def dictS (ks vs : List AV) (ob : List AObj) : Option (AV × List AObj) := match gath asStr ks with
 | none => dictI ks vs ob
 | some l => match dictOk l vs with
  | true => some (.ref ob.length, ob ++ [.dict (l.zip vs)])
  | false => none
theorem dictOk_is {κ : Type} [DecidableEq κ] {l : List κ} {vs : List AV} (h : dictOk l vs = true) : 0 < l.length ∧ nodupB l = true ∧ l.length = vs.length ∧ l.length ≤ 15 :=
 have h1 := and2 h
 have h2 := and2 h1.2
 have h3 := and2 h2.2
 ⟨of_decide_eq_true h1.1, h2.1, of_decide_eq_true h3.1, of_decide_eq_true h3.2⟩
theorem dictS_is {ks vs : List AV} {ob : List AObj} {r : AV × List AObj} {P : Prop} (h : dictS ks vs ob = some r) (k1 : ∀ l, gath asStr ks = some l → dictOk l vs = true → (.ref ob.length, ob ++ [.dict (l.zip vs)]) = r → P) (k2 : ∀ l, gath asInt ks = some l → dictOk l vs = true → (.ref ob.length, ob ++ [.idict (l.zip vs)]) = r → P) : P := by
 unfold dictS dictI at h
 cases h1 : gath asStr ks with
 | none => cases h2 : gath asInt ks with
  | none => rw [h1, h2] at h; exact nO h
  | some l => cases h3 : dictOk l vs with
   | true => rw [h1, h2] at h; dsimp only at h; rw [h3] at h; exact k2 l h2 h3 (Option.some.inj h)
   | false => rw [h1, h2] at h; dsimp only at h; rw [h3] at h; exact nO h
 | some l => cases h3 : dictOk l vs with
  | true => rw [h1] at h; dsimp only at h; rw [h3] at h; exact k1 l h1 h3 (Option.some.inj h)
  | false => rw [h1] at h; dsimp only at h; rw [h3] at h; exact nO h
section
variable (T : Tab)
noncomputable abbrev Loc := List (Option AV)
noncomputable def evs (f : PE → Loc → List AObj → Res (AV × List AObj)) : List PE → Loc → List AObj → Res (List AV × List AObj)
 | [], _, ob => fine ([], ob)
 | e :: r, loc, ob => bnd (f e loc ob) fun (v, ob) => bnd (evs f r loc ob) fun (vs, ob) => fine (v :: vs, ob)
noncomputable def evd (f : PE → Loc → List AObj → Res (AV × List AObj)) : List PE → List PE → Loc → List AObj → Res ((List AV × List AV) × List AObj)
 | [], [], _, ob => fine (([], []), ob)
 | k :: ks, v :: vs, loc, ob => bnd (f k loc ob) fun (kv, ob) => bnd (f v loc ob) fun (vv, ob) => bnd (evd f ks vs loc ob) fun ((a, b), ob) => fine ((kv :: a, vv :: b), ob)
 | _, _, _, _ => none
noncomputable def evc (f : PE → Loc → List AObj → Res (AV × List AObj)) (x : AV) : List Cop → List PE → Loc → List AObj → Res (Bool × List AObj)
 | [], _, _, _ => none
 | op :: ops, ys, loc, ob => match ys with
  | [] => none
  | e :: es => bnd (f e loc ob) fun (y, ob) => bnd (lift (cmpS T op x y ob)) fun b => match ops with
   | [] => match es with
    | [] => fine (b, ob)
    | _ :: _ => none
   | _ :: _ => match b with
    | true => evc f y ops es loc ob
    | false => fine (false, ob)
noncomputable def tvs (t : PE → Loc → List AObj → Res (Bool × List AObj)) (isAnd : Bool) : List PE → Loc → List AObj → Res (Bool × List AObj)
 | [], _, ob => fine (isAnd, ob)
 | e :: r, loc, ob => bnd (t e loc ob) fun (b, ob) => match isAnd, b with
  | true, false => fine (false, ob)
  | false, true => fine (true, ob)
  | _, _ => tvs t isAnd r loc ob
noncomputable def evb (f : PE → Loc → List AObj → Res (AV × List AObj)) (isAnd : Bool) : List PE → Loc → List AObj → Res (AV × List AObj)
 | [], _, _ => none
 | [e], loc, ob => f e loc ob
 | e :: r, loc, ob => bnd (f e loc ob) fun (v, ob) => bnd (truth v ob) fun b => match isAnd, b with
  | true, false => fine (v, ob)
  | false, true => fine (v, ob)
  | _, _ => evb f isAnd r loc ob
noncomputable def evo (f : PE → Loc → List AObj → Res (AV × List AObj)) : Option PE → Loc → List AObj → Res (AV × List AObj)
 | none, _, ob => fine (.none, ob)
 | some e, loc, ob => f e loc ob
noncomputable def getLoc (loc : Loc) (k : Nat) : Option AV := match loc[k]? with
 | some a => a
 | none => none
theorem getLoc_is {loc : Loc} {k : Nat} {a : AV} (h : getLoc loc k = some a) : loc[k]? = some (some a) := by
 unfold getLoc at h
 cases e : loc[k]? with
 | none => rw [e] at h; exact nO h
 | some b => rw [e] at h; exact congrArg some h
mutual
noncomputable def ev : Nat → PE → Loc → List AObj → Res (AV × List AObj)
 | 0, _, _, _ => none
 | n + 1, e, loc, ob => match e with
  | .none => fine (.none, ob)
  | .bool b => fine (.bool b, ob)
  | .int i => fine (.int i, ob)
  | .str s => fine (.str s, ob)
  | .loc k => bnd (lift (getLoc loc k)) fun a => fine (a, ob)
  | .glob j => bnd (lift (T.globs[j]?)) fun a => fine (a.2, ob)
  | .attr o x => bnd (ev n o loc ob) fun (v, ob) => bnd (lift (getA T v x ob)) fun a => fine (a, ob)
  | .call f as => bnd (ev n f loc ob) fun (v, ob) => bnd (evs (ev n) as loc ob) fun (vs, ob) => callF T v vs ob
  | .meth o x as => bnd (ev n o loc ob) fun (v, ob) => bnd (lift (findM T v x ob)) fun m => bnd (evs (ev n) as loc ob) fun (vs, ob) => callM T m vs ob
  | .repl o a b => bnd (ev n o loc ob) fun (v, ob) => replI v a b ob
  | .bin op a b => bnd (ev n a loc ob) fun (x, ob) => bnd (ev n b loc ob) fun (y, ob) => bnd (binS op x y) fun z => fine (z, ob)
  | .cmp a ops bs => bnd (ev n a loc ob) fun (x, ob) => bnd (evc T (ev n) x ops bs loc ob) fun (b, ob) => fine (.bool b, ob)
  | .bop c xs => evb (ev n) c xs loc ob
  | .not a => bnd (ev n a loc ob) fun (x, ob) => bnd (truth x ob) fun b => fine (.bool (!b), ob)
  | .neg a => match a with
   | .int i => fine (.int (-i), ob)
   | _ => none
  | .ite c a b => bnd (tv n c loc ob) fun (t, ob) => match t with
   | true => ev n a loc ob
   | false => ev n b loc ob
  | .sub o i => bnd (ev n o loc ob) fun (x, ob) => bnd (ev n i loc ob) fun (y, ob) => bnd (lift (subS T x y ob)) fun z => fine (z, ob)
  | .slc o lo hi => bnd (ev n o loc ob) fun (x, ob) => bnd (evo (ev n) lo loc ob) fun (l, ob) => bnd (evo (ev n) hi loc ob) fun (u, ob) => slcI x l u ob
  | .tup xs => bnd (evs (ev n) xs loc ob) fun (vs, ob) => some ((.tup vs, ob), [vs.length])
  | .list xs => bnd (evs (ev n) xs loc ob) fun (vs, ob) => some ((.ref ob.length, ob ++ [.list vs]), [vs.length])
  | .dict ks vs => bnd (evd (ev n) ks vs loc ob) fun ((a, b), ob) => lift (dictS a b ob)
noncomputable def tv : Nat → PE → Loc → List AObj → Res (Bool × List AObj)
 | 0, _, _, _ => none
 | n + 1, e, loc, ob => match e with
  | .not a => bnd (tv n a loc ob) fun (b, ob) => fine (!b, ob)
  | .bop c xs => tvs (tv n) c xs loc ob
  | .ite c a b => bnd (tv n c loc ob) fun (t, ob) => match t with
   | true => tv n a loc ob
   | false => tv n b loc ob
  | .cmp a ops bs => bnd (ev n a loc ob) fun (x, ob) => evc T (ev n) x ops bs loc ob
  | e => bnd (ev n e loc ob) fun (x, ob) => bnd (truth x ob) fun b => fine (b, ob)
end
noncomputable def setA (o : AV) (n : List Nat) (v : AV) (ob : List AObj) : Option (List AObj) := match o with
 | .ref i => onInst ob i fun C as => if has2 C n T.own && decide (as.length ≤ 100) then some (ob.set i (.inst C (put1 n v as))) else none
 | _ => none
noncomputable def setI (o i v : AV) (ob : List AObj) : Option (List AObj) := match o with
 | .ref r => match i with
  | .int k => onList ob r fun xs => if 0 ≤ k ∧ k < 2 ^ 62 ∧ k < xs.length then some (ob.set r (.list (xs.set k.toNat v))) else none
  | .str n => onDict ob r fun es => if (look1 n es).isSome && nodupB (es.map (·.1)) && decide (es.length ≤ 100) then some (ob.set r (.dict (put1 n v es))) else none
  | _ => none
 | _ => none
theorem setA_is {o v : AV} {n : List Nat} {ob ob' : List AObj} {P : Prop} (h : setA T o n v ob = some ob') (q : ∀ i C as, o = .ref i → ob[i]? = some (.inst C as) → has2 C n T.own = true → as.length ≤ 100 → ob' = ob.set i (.inst C (put1 n v as)) → P) : P := by
 cases o with
 | ref i => exact onInst_is h fun C as e h => ite_is h fun c h => q i C as rfl e (and2 c).1 (of_decide_eq_true (and2 c).2) (Option.some.inj h).symm
 | _ => exact nO h
theorem setI_is {o i v : AV} {ob ob' : List AObj} {P : Prop} (h : setI o i v ob = some ob') (q1 : ∀ r k xs, o = .ref r → i = .int k → ob[r]? = some (.list xs) → 0 ≤ k ∧ k < 2 ^ 62 ∧ k < xs.length → ob' = ob.set r (.list (xs.set k.toNat v)) → P)
  (q2 : ∀ r n es, o = .ref r → i = .str n → ob[r]? = some (.dict es) → (look1 n es).isSome = true → nodupB (es.map (·.1)) = true → es.length ≤ 100 → ob' = ob.set r (.dict (put1 n v es)) → P) : P := by
 cases o with
 | ref r => cases i with
  | int k => exact onList_is h fun xs e h => ite_is h fun c h => q1 r k xs rfl rfl e c (Option.some.inj h).symm
  | str n => exact onDict_is h fun xs e h => ite_is h fun c h => q2 r n xs rfl rfl e (and3 c).1 (and3 c).2.1 (of_decide_eq_true (and3 c).2.2) (Option.some.inj h).symm
  | _ => exact nO h
 | _ => exact nO h
noncomputable def asgs (f : PT → AV → Loc → List AObj → Res (Loc × List AObj)) : List PT → List AV → Loc → List AObj → Res (Loc × List AObj)
 | [], [], loc, ob => fine (loc, ob)
 | t :: ts, v :: vs, loc, ob => bnd (f t v loc ob) fun (loc, ob) => asgs f ts vs loc ob
 | _, _, _, _ => none
noncomputable def asg : Nat → PT → AV → Loc → List AObj → Res (Loc × List AObj)
 | 0, _, _, _, _ => none
 | n + 1, t, v, loc, ob => match t with
  | .loc k => if k < loc.length then fine (loc.set k (some v), ob) else none
  | .attr o x => bnd (ev T n o loc ob) fun (ov, ob) => bnd (lift (setA T ov x v ob)) fun ob => fine (loc, ob)
  | .sub o i => bnd (ev T n o loc ob) fun (ov, ob) => bnd (ev T n i loc ob) fun (iv, ob) => bnd (lift (setI ov iv v ob)) fun ob => fine (loc, ob)
  | .tup ts => match asTup v with
   | some vs => asgs (asg n) ts vs loc ob
   | none => none
noncomputable abbrev St := Loc × List AObj
noncomputable def exs (f : PS → Loc → List AObj → Res (Fl × St)) : List PS → Loc → List AObj → Res (Fl × St)
 | [], loc, ob => fine (.next, loc, ob)
 | s :: r, loc, ob => bnd (f s loc ob) fun (fl, loc, ob) => match fl with
  | .next => exs f r loc ob
  | fl => fine (fl, loc, ob)
noncomputable abbrev BodyF := Loc → List AObj → Res (Fl × St)
noncomputable def itemAt (v : AV) (k : Nat) (ob : List AObj) : Option (Option AV) := match v with
 | .ref r => onList ob r fun xs => some xs[k]?
 | .tup xs => some xs[k]?
 | .str s => some (match s[k]? with
  | some c => some (.str [c])
  | none => none)
 | _ => none
noncomputable def forG (a : AV → Loc → List AObj → Res (Loc × List AObj)) (f : BodyF) (v : AV) : Nat → Nat → Loc → List AObj → Res (Fl × St)
 | 0, _, _, _ => none
 | n + 1, k, loc, ob => match itemAt v k ob with
  | none => none
  | some none => fine (.next, loc, ob)
  | some (some x) => bnd (a x loc ob) fun (loc, ob) => bnd (f loc ob) fun (fl, loc, ob) => match fl with
   | .next => forG a f v n (k + 1) loc ob
   | .brk => fine (.next, loc, ob)
   | .ret v => fine (.ret v, loc, ob)
theorem forG_is {a : AV → Loc → List AObj → Res (Loc × List AObj)} {f : BodyF} {v : AV} {n k : Nat} {loc : Loc} {ob : List AObj} {r : (Fl × St) × List Nat} {P : Prop} (h : forG a f v (n + 1) k loc ob = some r) (k1 : itemAt v k ob = some none → fine (Fl.next, loc, ob) = some r → P)
  (k2 : ∀ x, itemAt v k ob = some (some x) → (bnd (a x loc ob) fun p => bnd (f p.1 p.2) fun q => match q.1 with
   | .next => forG a f v n (k + 1) q.2.1 q.2.2
   | .brk => fine (Fl.next, q.2.1, q.2.2)
   | .ret v => fine (Fl.ret v, q.2.1, q.2.2)) = some r → P) : P := by
 unfold forG at h
 cases e : itemAt v k ob with
 | none => rw [e] at h; exact nO h
 | some x => rw [e] at h; cases x with
  | none => exact k1 e h
  | some x => exact k2 x e h
noncomputable def whlL (t : Loc → List AObj → Res (Bool × List AObj)) (f : Loc → List AObj → Res (Fl × St)) : Nat → Loc → List AObj → Res (Fl × St)
 | 0, _, _ => none
 | n + 1, loc, ob => bnd (t loc ob) fun (b, ob) => match b with
  | false => fine (.next, loc, ob)
  | true => bnd (f loc ob) fun (fl, loc, ob) => match fl with
   | .next => whlL t f n loc ob
   | .brk => fine (.next, loc, ob)
   | .ret v => fine (.ret v, loc, ob)
noncomputable def okTg : PT → AV → Bool
 | .loc _, _ => true
 | _, .ref _ => true
 | _, _ => false
mutual
noncomputable def renV (σ : Nat → Option Nat) : AV → AV
 | .none => .none
 | .bool b => .bool b
 | .int i => .int i
 | .str s => .str s
 | .tup xs => .tup (renVs σ xs)
 | .ref i => match σ i with
  | some k => .ref k
  | none => .any
 | .val v => .val v
 | .meth f i => match σ i with
  | some k => .meth f k
  | none => .any
 | .any => .any
noncomputable def renVs (σ : Nat → Option Nat) : List AV → List AV
 | [] => []
 | x :: r => renV σ x :: renVs σ r
end
noncomputable def renK {κ : Type} (σ : Nat → Option Nat) (l : List (κ × AV)) : List (κ × AV) := l.map fun x => (x.1, renV σ x.2)
noncomputable def renO (σ : Nat → Option Nat) : AObj → AObj
 | .list xs => .list (renVs σ xs)
 | .dict es => .dict (renK σ es)
 | .idict es => .idict (renK σ es)
 | .inst C as => .inst C (renK σ as)
 | .strm p r => .strm p r
noncomputable def renL (σ : Nat → Option Nat) (l : Loc) : Loc := l.map (Option.map (renV σ))
noncomputable def renF (σ : Nat → Option Nat) : Fl → Fl
 | .next => .next
 | .brk => .brk
 | .ret v => .ret (renV σ v)
noncomputable def renM (σ : Nat → Option Nat) (l : List AObj) : List AObj := l.map (renO σ)
noncomputable def idx : List Nat → Nat → Option Nat
 | [], _ => none
 | x :: r, i => if x = i then some 0 else onSome (idx r i) fun k => some (k + 1)
noncomputable def bck (n : Nat) : List Nat → Nat → Nat
 | [], k => n + k
 | x :: _, 0 => x
 | _ :: r, k + 1 => bck n r k
noncomputable def bckO (n : Nat) (sel : List Nat) (k : Nat) : Option Nat := some (bck n sel k)
noncomputable def selObjs (sel0 : List Nat) (ob : List AObj) : List Nat → Option (List AObj)
 | [] => some []
 | i :: r => onSome ob[i]? fun o => onSome (selObjs sel0 ob r) fun l => some (renO (idx sel0) o :: l)
noncomputable def pick (n : Nat) (sel : List Nat) (ob' : List AObj) (i : Nat) (o : AObj) : AObj := (onSome (idx sel i) fun k => ob'[k]?).elim o (renO (bckO n sel))
noncomputable def merge (n : Nat) (sel : List Nat) (ob' : List AObj) : Nat → List AObj → List AObj
 | _, [] => renM (bckO n sel) (ob'.drop sel.length)
 | i, o :: r => pick n sel ob' i o :: merge n sel ob' (i + 1) r
noncomputable def rtOf (loc : Loc) (ob : List AObj) : Rt → Option Nat
 | .loc k => match getLoc loc k with
  | some (.ref i) => some i
  | _ => none
 | .attr k n => match getLoc loc k with
  | some (.ref i) => match ob[i]? with
   | some (.inst _ as) => match look1 n as with
    | some (.ref j) => some j
    | _ => none
   | _ => none
  | _ => none
noncomputable def selOf (loc : Loc) (ob : List AObj) : List Rt → Option (List Nat)
 | [] => some []
 | r :: rs => onSome (rtOf loc ob r) fun i => onSome (selOf loc ob rs) fun l => some (i :: l)
noncomputable def viaS {β : Type} (rs : List Rt) (loc : Loc) (ob : List AObj) (k : List Nat → List AObj → Option β) : Option β := onSome (selOf loc ob rs) fun sel => if nodupB sel = true then onSome (selObjs sel ob sel) (k sel) else none
theorem viaS_is {β : Type} {rs : List Rt} {loc : Loc} {ob : List AObj} {k : List Nat → List AObj → Option β} {r : β} {P : Prop} (h : viaS rs loc ob k = some r) (q : ∀ sel ob1, selObjs sel ob sel = some ob1 → nodupB sel = true → k sel ob1 = some r → P) : P :=
 oSi h fun sel _ h => ite_is h fun hn h => oSi h fun ob1 h1 h => q sel ob1 h1 hn h
theorem onSome_of {α β : Type} {x : Option α} {k : α → Option β} {a : α} (h : x = some a) : onSome x k = k a := by rw [h]; rfl
theorem viaS_of {β : Type} {rs : List Rt} {loc : Loc} {ob ob1 : List AObj} {sel : List Nat} {k : List Nat → List AObj → Option β} (h1 : selOf loc ob rs = some sel) (h2 : nodupB sel = true) (h3 : selObjs sel ob sel = some ob1) : viaS rs loc ob k = k sel ob1 :=
 (onSome_of h1).trans ((if_pos h2).trans (onSome_of h3))
noncomputable def viaB (rs : List Rt) (f : BodyF) : BodyF := fun loc ob => viaS rs loc ob fun sel ob1 => onSome (f (renL (idx sel) loc) ob1) fun r => some ((renF (bckO ob.length sel) r.1.1, renL (bckO ob.length sel) r.1.2.1, merge ob.length sel r.1.2.2 0 ob), r.2)
noncomputable def bodyV (rs : Option (List Rt)) (f : BodyF) : BodyF := match rs with
 | none => f
 | some rs => viaB rs f
noncomputable def viaF (rs : List Rt) (p : Fn) : Fn := fun args ob => viaS rs (args.map some) ob fun sel ob1 => onSome (p (renVs (idx sel) args) ob1) fun r => some ((renV (bckO ob.length sel) r.1.1, merge ob.length sel r.1.2 0 ob), r.2)
noncomputable def ex (N : Nat) : Nat → PS → Loc → List AObj → Res (Fl × St)
 | 0, _, _, _ => none
 | n + 1, s, loc, ob => match s with
  | .expr e => bnd (ev T 20 e loc ob) fun (_, ob) => fine (.next, loc, ob)
  | .pass => fine (.next, loc, ob)
  | .brk => fine (.brk, loc, ob)
  | .ret e => bnd (ev T 20 e loc ob) fun (v, ob) => fine (.ret v, loc, ob)
  | .asg t e => bnd (ev T 20 e loc ob) fun (v, ob) => bnd (asg T 20 t v loc ob) fun (loc, ob) => fine (.next, loc, ob)
  | .aug t op e => match t with
   | .loc k => bnd (lift (getLoc loc k)) fun a => bnd (ev T 20 e loc ob) fun (v, ob) => bnd (binS op a v) fun z => if k < loc.length then fine (.next, loc.set k (some z), ob) else none
   | .attr o x => bnd (ev T 20 o loc ob) fun (ov, ob) => bnd (lift (getA T ov x ob)) fun a => bnd (ev T 20 e loc ob) fun (v, ob) => bnd (binS op a v) fun z => bnd (lift (setA T ov x z ob)) fun ob => fine (.next, loc, ob)
   | .sub o i => bnd (ev T 20 o loc ob) fun (ov, ob) => bnd (ev T 20 i loc ob) fun (iv, ob) => bnd (lift (subS T ov iv ob)) fun a => bnd (ev T 20 e loc ob) fun (v, ob) => bnd (binS op a v) fun z => bnd (lift (setI ov iv z ob)) fun ob => fine (.next, loc, ob)
   | .tup _ => none
  | .ife c a b => bnd (tv T 20 c loc ob) fun (t, ob) => match t with
   | true => exs (ex N n) a loc ob
   | false => exs (ex N n) b loc ob
  | .whl rs c a => whlL (tv T 20 c) (bodyV rs (exs (ex N n) a)) N loc ob
  | .for rs t e a => bnd (ev T 20 e loc ob) fun (v, ob) => match okTg t v with
   | true => forG (asg T 20 t) (bodyV rs (exs (ex N n) a)) v N 0 loc ob
   | false => none
  | .asrt e => bnd (tv T 20 e loc ob) fun (b, ob) => match b with
   | true => fine (.next, loc, ob)
   | false => none
end
section
variable {T : Tab} {n : Nat} {loc : Loc} {ob : List AObj}
theorem ev_0 {e : PE} : ev T 0 e loc ob = none := rfl
theorem ev_none : ev T (n + 1) .none loc ob = fine (.none, ob) := rfl
theorem ev_bool {b : Bool} : ev T (n + 1) (.bool b) loc ob = fine (.bool b, ob) := rfl
theorem ev_int {i : Int} : ev T (n + 1) (.int i) loc ob = fine (.int i, ob) := rfl
theorem ev_str {s : List Nat} : ev T (n + 1) (.str s) loc ob = fine (.str s, ob) := rfl
theorem ev_loc {k : Nat} : ev T (n + 1) (.loc k) loc ob = bnd (lift (getLoc loc k)) fun a => fine (a, ob) := rfl
theorem ev_glob {j : Nat} : ev T (n + 1) (.glob j) loc ob = bnd (lift (T.globs[j]?)) fun a => fine (a.2, ob) := rfl
theorem ev_attr {o : PE} {x : List Nat} : ev T (n + 1) (.attr o x) loc ob = bnd (ev T n o loc ob) fun (v, ob) => bnd (lift (getA T v x ob)) fun a => fine (a, ob) := rfl
theorem ev_call {f : PE} {as : List PE} : ev T (n + 1) (.call f as) loc ob = bnd (ev T n f loc ob) fun (v, ob) => bnd (evs (ev T n) as loc ob) fun (vs, ob) => callF T v vs ob := rfl
theorem ev_meth {o : PE} {x : List Nat} {as : List PE} : ev T (n + 1) (.meth o x as) loc ob = bnd (ev T n o loc ob) fun (v, ob) => bnd (lift (findM T v x ob)) fun m => bnd (evs (ev T n) as loc ob) fun (vs, ob) => callM T m vs ob := rfl
theorem ev_bin {op : Op} {a b : PE} : ev T (n + 1) (.bin op a b) loc ob = bnd (ev T n a loc ob) fun (x, ob) => bnd (ev T n b loc ob) fun (y, ob) => bnd (binS op x y) fun z => fine (z, ob) := rfl
theorem ev_cmp {a : PE} {ops : List Cop} {bs : List PE} : ev T (n + 1) (.cmp a ops bs) loc ob = bnd (ev T n a loc ob) fun (x, ob) => bnd (evc T (ev T n) x ops bs loc ob) fun (b, ob) => fine (.bool b, ob) := rfl
theorem ev_bop {c : Bool} {xs : List PE} : ev T (n + 1) (.bop c xs) loc ob = evb (ev T n) c xs loc ob := rfl
theorem ev_not {a : PE} : ev T (n + 1) (.not a) loc ob = bnd (ev T n a loc ob) fun (x, ob) => bnd (truth x ob) fun b => fine (.bool (!b), ob) := rfl
theorem tv_not {a : PE} : tv T (n + 1) (.not a) loc ob = bnd (tv T n a loc ob) fun (b, ob) => fine (!b, ob) := rfl
theorem ev_sub {o i : PE} : ev T (n + 1) (.sub o i) loc ob = bnd (ev T n o loc ob) fun (x, ob) => bnd (ev T n i loc ob) fun (y, ob) => bnd (lift (subS T x y ob)) fun z => fine (z, ob) := rfl
theorem ev_tup {xs : List PE} : ev T (n + 1) (.tup xs) loc ob = bnd (evs (ev T n) xs loc ob) fun (vs, ob) => some ((.tup vs, ob), [vs.length]) := rfl
theorem ev_list {xs : List PE} : ev T (n + 1) (.list xs) loc ob = bnd (evs (ev T n) xs loc ob) fun (vs, ob) => some ((.ref ob.length, ob ++ [.list vs]), [vs.length]) := rfl
theorem ev_dict {ks vs : List PE} : ev T (n + 1) (.dict ks vs) loc ob = bnd (evd (ev T n) ks vs loc ob) fun ((a, b), ob) => lift (dictS a b ob) := rfl
end
noncomputable def all2 {α β : Type} (f : α → β → Bool) : List α → List β → Bool
 | [], [] => true
 | a :: r, b :: t => f a b && all2 f r t
 | _, _ => false
noncomputable def okOp : Op → Operator → Bool
 | .add, .Add => true | .sub, .Sub => true | .mul, .Mult => true | .fdiv, .FloorDiv => true | .mod, .Mod => true
 | _, _ => false
noncomputable def okCop : Cop → CmpOp → Bool
 | .eq, .Eq => true | .ne, .NotEq => true | .lt, .Lt => true | .le, .LtE => true | .gt, .Gt => true | .ge, .GtE => true | .is, .Is => true | .isnot, .IsNot => true | .isin, .In => true | .notin, .NotIn => true
 | _, _ => false
noncomputable def notSuper : PySem.Expr → Bool
 | .Call (.Name id _) [] [] _ => id != ("super" : Str)
 | _ => true
structure ByE where
 fc : Const → Bool := fun _ => false
 fn : Str → Bool := fun _ => false
 fa : PySem.Expr → Str → Pos → Bool := fun _ _ _ => false
 ff : PySem.Expr → List PySem.Expr → List Keyword → Pos → Bool := fun _ _ _ _ => false
 fb : PySem.Expr → Operator → PySem.Expr → Bool := fun _ _ _ => false
 fm : PySem.Expr → List CmpOp → List PySem.Expr → Bool := fun _ _ _ => false
 fl : BoolOp → List PySem.Expr → Bool := fun _ _ => false
 fu : UnaryOp → PySem.Expr → Bool := fun _ _ => false
 fi : PySem.Expr → PySem.Expr → PySem.Expr → Bool := fun _ _ _ => false
 fs : PySem.Expr → PySem.Expr → Bool := fun _ _ => false
 fz : Option PySem.Expr → Option PySem.Expr → Option PySem.Expr → Bool := fun _ _ _ => false
 ft : List PySem.Expr → Bool := fun _ => false
 fe : List PySem.Expr → Bool := fun _ => false
 fd : List (Option PySem.Expr) → List PySem.Expr → Bool := fun _ _ => false
 fk : PySem.Expr → List Comprehension → Scope → Pos → Bool := fun _ _ _ _ => false
 fo : Bool := false
noncomputable def ByE.is (y : ByE) : PySem.Expr → Bool
 | .Constant c _ _ => y.fc c
 | .Name x _ => y.fn x
 | .Attribute v a p => y.fa v a p
 | .Call g xs ks p => y.ff g xs ks p
 | .BinOp a o b _ => y.fb a o b
 | .Compare a os bs _ => y.fm a os bs
 | .BoolOp o xs _ => y.fl o xs
 | .UnaryOp o a _ => y.fu o a
 | .IfExp t a b _ => y.fi t a b
 | .Subscript v s _ => y.fs v s
 | .Slice l u st _ => y.fz l u st
 | .Tuple es _ _ => y.ft es
 | .List es _ => y.fe es
 | .Dict ks vs _ => y.fd ks vs
 | .ListComp e gs sc p => y.fk e gs sc p
 | .SetComp .. | .DictComp .. => y.fo
 | _ => false
noncomputable def isAttrE (e : PySem.Expr) : Bool := ({ fa := fun _ _ _ => true } : ByE).is e
noncomputable def isSliceE (e : PySem.Expr) : Bool := ({ fz := fun _ _ _ => true } : ByE).is e
noncomputable def isCompE (e : PySem.Expr) : Bool := ({ fk := fun _ _ _ _ => true, fo := true } : ByE).is e
noncomputable def okOpt (f : PE → PySem.Expr → Bool) : Option PE → Option PySem.Expr → Bool
 | none, none => true
 | some a, some b => f a b
 | _, _ => false
noncomputable def okKeys (f : PE → PySem.Expr → Bool) : List PE → List (Option PySem.Expr) → Bool
 | [], [] => true
 | a :: r, some b :: t => f a b && okKeys f r t
 | _, _ => false
noncomputable def cstE (q : Const → Bool) (e : PySem.Expr) : Bool := ({ fc := q } : ByE).is e
noncomputable def nameE (f : Str → Bool) (e : PySem.Expr) : Bool := ({ fn := fun x => x != ("__debug__" : Str) && f x } : ByE).is e
noncomputable def attrE (f : PySem.Expr → Bool) (n : List Nat) (e : PySem.Expr) : Bool := ({ fa := fun v a _ => decide (a = sOf n) && notSuper v && f v } : ByE).is e
noncomputable def callE (f : PySem.Expr → List PySem.Expr → Pos → Bool) (e : PySem.Expr) : Bool := ({ ff := fun g xs ks p => ks.isEmpty && f g xs p } : ByE).is e
noncomputable def lineE (n : Nat) (e : PySem.Expr) : Bool := ({ fa := fun _ _ p => decide (p.endLine = n) } : ByE).is e
noncomputable def strE (s : List Nat) : Const → Bool
 | .str x => decide (x = sOf s)
 | _ => false
noncomputable def twoE (p q : List Nat) : List PySem.Expr → Bool
 | [a, b] => cstE (strE p) a && cstE (strE q) b
 | _ => false
noncomputable def binE (f g : PySem.Expr → Bool) (p : Op) (e : PySem.Expr) : Bool := ({ fb := fun a o b => okOp p o && f a && g b } : ByE).is e
noncomputable def cmpE (f : PySem.Expr → Bool) (g : List PySem.Expr → Bool) (ps : List Cop) (e : PySem.Expr) : Bool := ({ fm := fun a os bs => all2 okCop ps os && f a && g bs } : ByE).is e
noncomputable def bopE (g : List PySem.Expr → Bool) (c : Bool) (e : PySem.Expr) : Bool := ({ fl := fun o xs => (c == (o == .And)) && g xs } : ByE).is e
noncomputable def unE (u : UnaryOp) (f : PySem.Expr → Bool) (e : PySem.Expr) : Bool := ({ fu := fun o a => decide (o = u) && f a } : ByE).is e
noncomputable def iteE (f g h : PySem.Expr → Bool) (e : PySem.Expr) : Bool := ({ fi := fun t a b => f t && g a && h b } : ByE).is e
noncomputable def subE (f g : PySem.Expr → Bool) (e : PySem.Expr) : Bool := ({ fs := fun v s => f v && g s } : ByE).is e
noncomputable def sliceE (g h : Option PySem.Expr → Bool) (e : PySem.Expr) : Bool := ({ fz := fun l u st => st.isNone && g l && h u } : ByE).is e
noncomputable def tupE (g : List PySem.Expr → Bool) (e : PySem.Expr) : Bool := ({ ft := g } : ByE).is e
noncomputable def listE (g : List PySem.Expr → Bool) (e : PySem.Expr) : Bool := ({ fe := g } : ByE).is e
noncomputable def dictE (g : List (Option PySem.Expr) → Bool) (h : List PySem.Expr → Bool) (e : PySem.Expr) : Bool := ({ fd := fun ks vs => g ks && h vs } : ByE).is e
noncomputable def globE (globs : List (Str × AV)) (j : Nat) (x : Str) : Bool := match globs[j]? with
 | some y => decide (y.1 = x)
 | none => false
noncomputable def okE (names : List (Str × NameKind)) (globs : List (Str × AV)) : Nat → PE → PySem.Expr → Bool
 | 0, _, _ => false
 | m + 1, pe, e => match pe with
  | .none => cstE (fun c => decide (c = .none)) e
  | .bool b => cstE (fun c => decide (c = .bool b)) e
  | .int i => cstE (fun c => decide (c = .int i)) e
  | .str s => cstE (strE s) e
  | .loc k => nameE (fun x => decide (names[k]? = some (x, NameKind.local))) e
  | .glob j => nameE (fun x => decide (names.lookup x = some NameKind.globalImplicit) && globE globs j x) e
  | .attr o n => attrE (okE names globs m o) n e
  | .meth o n as => callE (fun f xs l => attrE (okE names globs m o) n f && (lineE l.line f && (all2 (okE names globs m) as xs && decide (as.length < 29)))) e
  | .repl o p q => callE (fun f xs l => attrE (okE names globs m o) nReplace f && (lineE l.line f && twoE p q xs)) e
  | .call g as => callE (fun f xs _ => !isAttrE f && (okE names globs m g f && all2 (okE names globs m) as xs)) e
  | .bin p x y => binE (okE names globs m x) (okE names globs m y) p e
  | .cmp x ps ys => cmpE (okE names globs m x) (all2 (okE names globs m) ys) ps e
  | .bop c ys => bopE (all2 (okE names globs m) ys) c e
  | .not x => unE .Not (okE names globs m x) e
  | .neg x => (match x with
   | .int i => unE .USub (cstE (fun c => decide (c = .int i))) e
   | _ => false)
  | .ite c x y => iteE (okE names globs m c) (okE names globs m x) (okE names globs m y) e
  | .sub o i => subE (okE names globs m o) (fun s => !isSliceE s && okE names globs m i s) e
  | .slc o lo hi => subE (okE names globs m o) (sliceE (okOpt (okE names globs m) lo) (okOpt (okE names globs m) hi)) e
  | .tup xs => tupE (all2 (okE names globs m) xs) e
  | .list xs => listE (all2 (okE names globs m) xs) e
  | .dict as bs => dictE (okKeys (okE names globs m) as) (all2 (okE names globs m) bs) e
inductive OkE (names : List (Str × NameKind)) (globs : List (Str × AV)) (f : PE → PySem.Expr → Bool) : PE → PySem.Expr → Prop
 | none {k p} : OkE names globs f .none (.Constant .none k p)
 | bool {b k p} : OkE names globs f (.bool b) (.Constant (.bool b) k p)
 | int {i k p} : OkE names globs f (.int i) (.Constant (.int i) k p)
 | str {s k p} : OkE names globs f (.str s) (.Constant (.str (sOf s)) k p)
 | loc {k x p} (hx : (x == ("__debug__" : Str)) = false) (h : names[k]? = some (x, NameKind.local)) : OkE names globs f (.loc k) (.Name x p)
 | glob {j x a p} (hx : (x == ("__debug__" : Str)) = false) (h : names.lookup x = some NameKind.globalImplicit) (h' : globs[j]? = some (x, a)) : OkE names globs f (.glob j) (.Name x p)
 | attr {o n v p} (h1 : notSuper v = true) (h2 : f o v = true) : OkE names globs f (.attr o n) (.Attribute v (sOf n) p)
 | meth {o n as v ap xs p} (h1 : notSuper v = true) (h2 : f o v = true) (h3 : ap.endLine = p.line) (h4 : all2 f as xs = true) (h5 : as.length < 29) : OkE names globs f (.meth o n as) (.Call (.Attribute v (sOf n) ap) xs [] p)
 | repl {o a b v ap k1 p1 k2 p2 p} (h1 : notSuper v = true) (h2 : f o v = true) (h3 : ap.endLine = p.line) : OkE names globs f (.repl o a b) (.Call (.Attribute v (sOf nReplace) ap) [.Constant (.str (sOf a)) k1 p1, .Constant (.str (sOf b)) k2 p2] [] p)
 | call {g as v xs p} (h1 : isAttrE v = false) (h2 : f g v = true) (h3 : all2 f as xs = true) : OkE names globs f (.call g as) (.Call v xs [] p)
 | bin {q o x y a b p} (h : okOp q o = true) (h1 : f x a = true) (h2 : f y b = true) : OkE names globs f (.bin q x y) (.BinOp a o b p)
 | cmp {ps os x ys a bs p} (h : all2 okCop ps os = true) (h1 : f x a = true) (h2 : all2 f ys bs = true) : OkE names globs f (.cmp x ps ys) (.Compare a os bs p)
 | bop {c o ys xs p} (h : (c == (o == .And)) = true) (h1 : all2 f ys xs = true) : OkE names globs f (.bop c ys) (.BoolOp o xs p)
 | not {x a p} (h : f x a = true) : OkE names globs f (.not x) (.UnaryOp .Not a p)
 | neg {i k q p} : OkE names globs f (.neg (.int i)) (.UnaryOp .USub (.Constant (.int i) k q) p)
 | ite {c x y t a b p} (h : f c t = true) (h1 : f x a = true) (h2 : f y b = true) : OkE names globs f (.ite c x y) (.IfExp t a b p)
 | sub {o i v s p} (h : isSliceE s = false) (h1 : f o v = true) (h2 : f i s = true) : OkE names globs f (.sub o i) (.Subscript v s p)
 | slc {o lo hi v l u q p} (h : f o v = true) (h1 : okOpt f lo l = true) (h2 : okOpt f hi u = true) : OkE names globs f (.slc o lo hi) (.Subscript v (.Slice l u none q) p)
 | tup {xs es c p} (h : all2 f xs es = true) : OkE names globs f (.tup xs) (.Tuple es c p)
 | list {xs es p} (h : all2 f xs es = true) : OkE names globs f (.list xs) (.List es p)
 | dict {as bs ks vs p} (h : okKeys f as ks = true) (h1 : all2 f bs vs = true) : OkE names globs f (.dict as bs) (.Dict ks vs p)
section
variable {P : PySem.Expr → Prop} {e : PySem.Expr}
theorem ByE.inv {y : ByE} (ok : y.is e = true) (hc : ∀ c k p, y.fc c = true → P (.Constant c k p)) (hn : ∀ x p, y.fn x = true → P (.Name x p))
  (ha : ∀ v a p, y.fa v a p = true → P (.Attribute v a p)) (hf : ∀ g xs ks p, y.ff g xs ks p = true → P (.Call g xs ks p))
  (hb : ∀ a o b p, y.fb a o b = true → P (.BinOp a o b p)) (hm : ∀ a o b p, y.fm a o b = true → P (.Compare a o b p))
  (hl : ∀ o xs p, y.fl o xs = true → P (.BoolOp o xs p)) (hu : ∀ o a p, y.fu o a = true → P (.UnaryOp o a p))
  (hi : ∀ t a b p, y.fi t a b = true → P (.IfExp t a b p)) (hs : ∀ v s p, y.fs v s = true → P (.Subscript v s p))
  (hz : ∀ l u s p, y.fz l u s = true → P (.Slice l u s p)) (ht : ∀ es c p, y.ft es = true → P (.Tuple es c p))
  (he : ∀ es p, y.fe es = true → P (.List es p)) (hd : ∀ k v p, y.fd k v = true → P (.Dict k v p))
  (hk : ∀ e gs sc p, y.fk e gs sc p = true → P (.ListComp e gs sc p)) (ho : y.fo = false) : P e := by
 cases e with
 | Constant c k p => exact hc c k p ok
 | Name x p => exact hn x p ok
 | Attribute v a p => exact ha v a p ok
 | Call g xs ks p => exact hf g xs ks p ok
 | BinOp a o b p => exact hb a o b p ok
 | Compare a o b p => exact hm a o b p ok
 | BoolOp o xs p => exact hl o xs p ok
 | UnaryOp o a p => exact hu o a p ok
 | IfExp t a b p => exact hi t a b p ok
 | Subscript v s p => exact hs v s p ok
 | Slice l u s p => exact hz l u s p ok
 | Tuple es c p => exact ht es c p ok
 | List es p => exact he es p ok
 | Dict k v p => exact hd k v p ok
 | ListComp e gs sc p => exact hk e gs sc p ok
 | SetComp _ _ _ _ => exact nt (ho.symm.trans ok)
 | DictComp _ _ _ _ _ => exact nt (ho.symm.trans ok)
 | _ => exact nt ok
theorem cstE_is {q : Const → Bool} (ok : cstE q e = true) (h : ∀ c k p, q c = true → P (.Constant c k p)) : P e := ByE.inv ok (h) (fun _ _ h => nt h) (fun _ _ _ h => nt h) (fun _ _ _ _ h => nt h) (fun _ _ _ _ h => nt h) (fun _ _ _ _ h => nt h) (fun _ _ _ h => nt h) (fun _ _ _ h => nt h) (fun _ _ _ _ h => nt h) (fun _ _ _ h => nt h) (fun _ _ _ _ h => nt h) (fun _ _ _ h => nt h) (fun _ _ h => nt h) (fun _ _ _ h => nt h) (fun _ _ _ _ h => nt h) rfl
theorem strE_is {s : List Nat} {c : Const} (ok : strE s c = true) : c = .str (sOf s) := by
 cases c with
 | str x => rw [of_decide_eq_true ok]
 | _ => exact nt ok
theorem nameE_is {f : Str → Bool} (ok : nameE f e = true) (h : ∀ x p, (x == ("__debug__" : Str)) = false → f x = true → P (.Name x p)) : P e := ByE.inv ok (fun _ _ _ h => nt h) (fun x p ok => h x p (by simpa using (and2 ok).1) (and2 ok).2) (fun _ _ _ h => nt h) (fun _ _ _ _ h => nt h) (fun _ _ _ _ h => nt h) (fun _ _ _ _ h => nt h) (fun _ _ _ h => nt h) (fun _ _ _ h => nt h) (fun _ _ _ _ h => nt h) (fun _ _ _ h => nt h) (fun _ _ _ _ h => nt h) (fun _ _ _ h => nt h) (fun _ _ h => nt h) (fun _ _ _ h => nt h) (fun _ _ _ _ h => nt h) rfl
theorem attrE_is {f : PySem.Expr → Bool} {n : List Nat} (ok : attrE f n e = true) (h : ∀ v p, notSuper v = true → f v = true → P (.Attribute v (sOf n) p)) : P e := ByE.inv ok (fun _ _ _ h => nt h) (fun _ _ h => nt h) (fun v a p ok => by rw [of_decide_eq_true (and3 ok).1]; exact h v p (and3 ok).2.1 (and3 ok).2.2) (fun _ _ _ _ h => nt h) (fun _ _ _ _ h => nt h) (fun _ _ _ _ h => nt h) (fun _ _ _ h => nt h) (fun _ _ _ h => nt h) (fun _ _ _ _ h => nt h) (fun _ _ _ h => nt h) (fun _ _ _ _ h => nt h) (fun _ _ _ h => nt h) (fun _ _ h => nt h) (fun _ _ _ h => nt h) (fun _ _ _ _ h => nt h) rfl
theorem callE_is {f : PySem.Expr → List PySem.Expr → Pos → Bool} (ok : callE f e = true) (h : ∀ g xs p, f g xs p = true → P (.Call g xs [] p)) : P e := ByE.inv ok (fun _ _ _ h => nt h) (fun _ _ h => nt h) (fun _ _ _ h => nt h) (fun g xs ks p ok => by rw [List.isEmpty_iff.mp (and2 ok).1]; exact h g xs p (and2 ok).2) (fun _ _ _ _ h => nt h) (fun _ _ _ _ h => nt h) (fun _ _ _ h => nt h) (fun _ _ _ h => nt h) (fun _ _ _ _ h => nt h) (fun _ _ _ h => nt h) (fun _ _ _ _ h => nt h) (fun _ _ _ h => nt h) (fun _ _ h => nt h) (fun _ _ _ h => nt h) (fun _ _ _ _ h => nt h) rfl
theorem binE_is {f g : PySem.Expr → Bool} {q : Op} (ok : binE f g q e = true) (h : ∀ a o b p, okOp q o = true → f a = true → g b = true → P (.BinOp a o b p)) : P e := ByE.inv ok (fun _ _ _ h => nt h) (fun _ _ h => nt h) (fun _ _ _ h => nt h) (fun _ _ _ _ h => nt h) (fun a o b p ok => h a o b p (and3 ok).1 (and3 ok).2.1 (and3 ok).2.2) (fun _ _ _ _ h => nt h) (fun _ _ _ h => nt h) (fun _ _ _ h => nt h) (fun _ _ _ _ h => nt h) (fun _ _ _ h => nt h) (fun _ _ _ _ h => nt h) (fun _ _ _ h => nt h) (fun _ _ h => nt h) (fun _ _ _ h => nt h) (fun _ _ _ _ h => nt h) rfl
theorem cmpE_is {f : PySem.Expr → Bool} {g : List PySem.Expr → Bool} {ps : List Cop} (ok : cmpE f g ps e = true) (h : ∀ a os bs p, all2 okCop ps os = true → f a = true → g bs = true → P (.Compare a os bs p)) : P e := ByE.inv ok (fun _ _ _ h => nt h) (fun _ _ h => nt h) (fun _ _ _ h => nt h) (fun _ _ _ _ h => nt h) (fun _ _ _ _ h => nt h) (fun a o b p ok => h a o b p (and3 ok).1 (and3 ok).2.1 (and3 ok).2.2) (fun _ _ _ h => nt h) (fun _ _ _ h => nt h) (fun _ _ _ _ h => nt h) (fun _ _ _ h => nt h) (fun _ _ _ _ h => nt h) (fun _ _ _ h => nt h) (fun _ _ h => nt h) (fun _ _ _ h => nt h) (fun _ _ _ _ h => nt h) rfl
theorem bopE_is {g : List PySem.Expr → Bool} {c : Bool} (ok : bopE g c e = true) (h : ∀ o xs p, (c == (o == .And)) = true → g xs = true → P (.BoolOp o xs p)) : P e := ByE.inv ok (fun _ _ _ h => nt h) (fun _ _ h => nt h) (fun _ _ _ h => nt h) (fun _ _ _ _ h => nt h) (fun _ _ _ _ h => nt h) (fun _ _ _ _ h => nt h) (fun o xs p ok => h o xs p (and2 ok).1 (and2 ok).2) (fun _ _ _ h => nt h) (fun _ _ _ _ h => nt h) (fun _ _ _ h => nt h) (fun _ _ _ _ h => nt h) (fun _ _ _ h => nt h) (fun _ _ h => nt h) (fun _ _ _ h => nt h) (fun _ _ _ _ h => nt h) rfl
theorem unE_is {u : UnaryOp} {f : PySem.Expr → Bool} (ok : unE u f e = true) (h : ∀ a p, f a = true → P (.UnaryOp u a p)) : P e := ByE.inv ok (fun _ _ _ h => nt h) (fun _ _ h => nt h) (fun _ _ _ h => nt h) (fun _ _ _ _ h => nt h) (fun _ _ _ _ h => nt h) (fun _ _ _ _ h => nt h) (fun _ _ _ h => nt h) (fun o a p ok => by rw [of_decide_eq_true (and2 ok).1]; exact h a p (and2 ok).2) (fun _ _ _ _ h => nt h) (fun _ _ _ h => nt h) (fun _ _ _ _ h => nt h) (fun _ _ _ h => nt h) (fun _ _ h => nt h) (fun _ _ _ h => nt h) (fun _ _ _ _ h => nt h) rfl
theorem iteE_is {f g k : PySem.Expr → Bool} (ok : iteE f g k e = true) (h : ∀ t a b p, f t = true → g a = true → k b = true → P (.IfExp t a b p)) : P e := ByE.inv ok (fun _ _ _ h => nt h) (fun _ _ h => nt h) (fun _ _ _ h => nt h) (fun _ _ _ _ h => nt h) (fun _ _ _ _ h => nt h) (fun _ _ _ _ h => nt h) (fun _ _ _ h => nt h) (fun _ _ _ h => nt h) (fun t a b p ok => h t a b p (and3 ok).1 (and3 ok).2.1 (and3 ok).2.2) (fun _ _ _ h => nt h) (fun _ _ _ _ h => nt h) (fun _ _ _ h => nt h) (fun _ _ h => nt h) (fun _ _ _ h => nt h) (fun _ _ _ _ h => nt h) rfl
theorem subE_is {f g : PySem.Expr → Bool} (ok : subE f g e = true) (h : ∀ v s p, f v = true → g s = true → P (.Subscript v s p)) : P e := ByE.inv ok (fun _ _ _ h => nt h) (fun _ _ h => nt h) (fun _ _ _ h => nt h) (fun _ _ _ _ h => nt h) (fun _ _ _ _ h => nt h) (fun _ _ _ _ h => nt h) (fun _ _ _ h => nt h) (fun _ _ _ h => nt h) (fun _ _ _ _ h => nt h) (fun v s p ok => h v s p (and2 ok).1 (and2 ok).2) (fun _ _ _ _ h => nt h) (fun _ _ _ h => nt h) (fun _ _ h => nt h) (fun _ _ _ h => nt h) (fun _ _ _ _ h => nt h) rfl
theorem sliceE_is {g k : Option PySem.Expr → Bool} (ok : sliceE g k e = true) (h : ∀ l u p, g l = true → k u = true → P (.Slice l u none p)) : P e := ByE.inv ok (fun _ _ _ h => nt h) (fun _ _ h => nt h) (fun _ _ _ h => nt h) (fun _ _ _ _ h => nt h) (fun _ _ _ _ h => nt h) (fun _ _ _ _ h => nt h) (fun _ _ _ h => nt h) (fun _ _ _ h => nt h) (fun _ _ _ _ h => nt h) (fun _ _ _ h => nt h) (fun l u s p ok => by
 cases s with
 | none => exact h l u p (and3 ok).2.1 (and3 ok).2.2
 | some _ => exact nt ok) (fun _ _ _ h => nt h) (fun _ _ h => nt h) (fun _ _ _ h => nt h) (fun _ _ _ _ h => nt h) rfl
theorem tupE_is {g : List PySem.Expr → Bool} (ok : tupE g e = true) (h : ∀ es c p, g es = true → P (.Tuple es c p)) : P e := ByE.inv ok (fun _ _ _ h => nt h) (fun _ _ h => nt h) (fun _ _ _ h => nt h) (fun _ _ _ _ h => nt h) (fun _ _ _ _ h => nt h) (fun _ _ _ _ h => nt h) (fun _ _ _ h => nt h) (fun _ _ _ h => nt h) (fun _ _ _ _ h => nt h) (fun _ _ _ h => nt h) (fun _ _ _ _ h => nt h) (h) (fun _ _ h => nt h) (fun _ _ _ h => nt h) (fun _ _ _ _ h => nt h) rfl
theorem listE_is {g : List PySem.Expr → Bool} (ok : listE g e = true) (h : ∀ es p, g es = true → P (.List es p)) : P e := ByE.inv ok (fun _ _ _ h => nt h) (fun _ _ h => nt h) (fun _ _ _ h => nt h) (fun _ _ _ _ h => nt h) (fun _ _ _ _ h => nt h) (fun _ _ _ _ h => nt h) (fun _ _ _ h => nt h) (fun _ _ _ h => nt h) (fun _ _ _ _ h => nt h) (fun _ _ _ h => nt h) (fun _ _ _ _ h => nt h) (fun _ _ _ h => nt h) (h) (fun _ _ _ h => nt h) (fun _ _ _ _ h => nt h) rfl
theorem dictE_is {g : List (Option PySem.Expr) → Bool} {k : List PySem.Expr → Bool} (ok : dictE g k e = true) (h : ∀ ks vs p, g ks = true → k vs = true → P (.Dict ks vs p)) : P e := ByE.inv ok (fun _ _ _ h => nt h) (fun _ _ h => nt h) (fun _ _ _ h => nt h) (fun _ _ _ _ h => nt h) (fun _ _ _ _ h => nt h) (fun _ _ _ _ h => nt h) (fun _ _ _ h => nt h) (fun _ _ _ h => nt h) (fun _ _ _ _ h => nt h) (fun _ _ _ h => nt h) (fun _ _ _ _ h => nt h) (fun _ _ _ h => nt h) (fun _ _ h => nt h) (fun ks vs p ok => h ks vs p (and2 ok).1 (and2 ok).2) (fun _ _ _ _ h => nt h) rfl
end
section
variable {names : List (Str × NameKind)} {globs : List (Str × AV)} {m : Nat} {pe : PE} {e : PySem.Expr}
theorem glob_at {j : Nat} {x : Str} (ok : globE globs j x = true) : ∃ a, globs[j]? = some (x, a) := by
 unfold globE at ok
 cases hj : globs[j]? with
 | none => rw [hj] at ok; exact nt ok
 | some y => rw [hj] at ok; exact ⟨y.2, by rw [← of_decide_eq_true ok]⟩
theorem two_is {p q : List Nat} {xs : List PySem.Expr} (ok : twoE p q xs = true) : ∃ k1 p1 k2 p2, xs = [.Constant (.str (sOf p)) k1 p1, .Constant (.str (sOf q)) k2 p2] := by
 cases xs with
 | nil => exact nt ok
 | cons a xs => cases xs with
  | nil => exact nt ok
  | cons b xs => cases xs with
   | nil =>
    refine cstE_is (P := fun a => ∃ k1 p1 k2 p2, [a, b] = [PySem.Expr.Constant (.str (sOf p)) k1 p1, .Constant (.str (sOf q)) k2 p2]) (and2 ok).1 fun c k1 p1 h1 => ?_
    refine cstE_is (P := fun b => ∃ k1 p1 k2 p2, [_, b] = [PySem.Expr.Constant (.str (sOf p)) k1 p1, .Constant (.str (sOf q)) k2 p2]) (and2 ok).2 fun c' k2 p2 h2 => ?_
    exact ⟨k1, p1, k2, p2, by rw [strE_is h1, strE_is h2]⟩
   | cons _ _ => exact nt ok
theorem line_is {n : Nat} {v : PySem.Expr} {a : Str} {p : Pos} (ok : lineE n (.Attribute v a p) = true) : p.endLine = n := of_decide_eq_true ok
theorem okE_is (ok : okE names globs (m + 1) pe e = true) : OkE names globs (okE names globs m) pe e := by
 cases pe with
 | none => exact cstE_is ok fun c k p h => by rw [of_decide_eq_true h]; exact .none
 | bool b => exact cstE_is ok fun c k p h => by rw [of_decide_eq_true h]; exact .bool
 | int i => exact cstE_is ok fun c k p h => by rw [of_decide_eq_true h]; exact .int
 | str s => exact cstE_is ok fun c k p h => by rw [strE_is h]; exact .str
 | loc k => exact nameE_is ok fun x p h1 h2 => .loc h1 (of_decide_eq_true h2)
 | glob j => exact nameE_is ok fun x p h1 h2 => let ⟨_, h⟩ := glob_at (and2 h2).2; .glob h1 (of_decide_eq_true (and2 h2).1) h
 | attr o n => exact attrE_is ok fun v p h1 h2 => .attr h1 h2
 | meth o n as =>
  refine callE_is ok fun g xs p h => ?_
  have h1 := and2 h
  have h2 := and2 h1.2
  have h3 := and2 h2.2
  exact attrE_is (P := fun g => lineE p.line g = true → OkE _ _ _ _ (.Call g xs [] p)) h1.1 (fun v ap k1 k2 k3 => .meth k1 k2 (line_is k3) h3.1 (of_decide_eq_true h3.2)) h2.1
 | repl o a b =>
  refine callE_is ok fun g xs p h => ?_
  have h1 := and2 h
  have h2 := and2 h1.2
  obtain ⟨k1, p1, k2, p2, rfl⟩ := two_is h2.2
  exact attrE_is (P := fun g => lineE p.line g = true → OkE _ _ _ _ (.Call g _ [] p)) h1.1 (fun v ap k1 k2 k3 => .repl k1 k2 (line_is k3)) h2.1
 | call g as =>
  refine callE_is ok fun g xs p h => ?_
  have h1 := and2 h
  have h2 := and2 h1.2
  exact .call (by simpa using h1.1) h2.1 h2.2
 | bin q x y => exact binE_is ok fun a o b p h h1 h2 => .bin h h1 h2
 | cmp x ps ys => exact cmpE_is ok fun a o b p h h1 h2 => .cmp h h1 h2
 | bop c ys => exact bopE_is ok fun o xs p h h1 => .bop h h1
 | not x => exact unE_is ok fun a p h => .not h
 | neg x => cases x with
  | int i => exact unE_is ok fun a p h => cstE_is (P := fun a => OkE _ _ _ _ (.UnaryOp _ a p)) h fun c k q h => by rw [of_decide_eq_true h]; exact .neg
  | _ => exact nt ok
 | ite c x y => exact iteE_is ok fun t a b p h h1 h2 => .ite h h1 h2
 | sub o i => exact subE_is ok fun v s p h h1 => .sub (by simpa using (and2 h1).1) h (and2 h1).2
 | slc o lo hi => exact subE_is ok fun v s p h h1 => sliceE_is (P := fun s => OkE _ _ _ _ (.Subscript v s p)) h1 fun l u q h1 h2 => .slc h h1 h2
 | tup xs => exact tupE_is ok fun es c p h => .tup h
 | list xs => exact listE_is ok fun es p h => .list h
 | dict as bs => exact dictE_is ok fun ks vs p h h1 => .dict h h1
end
structure Fr1 (env : Env) (L : Addr) (names : List (Str × NameKind)) : Prop where
 kind : env.scope.kind = .function
 nms : env.scope.names = names
 nodup : (names.map (·.1)).Nodup
 loc : env.locals = L
 glob : env.globals = mainGlobals
 blt : env.builtins = builtinsNs
noncomputable def Deep (d : Nat) (A : Around) : Prop := A.depth + 3 * d < 990 ∧ A.units + 100 + 10 * d < 9000 ∧ A.handled = none
section
variable (Y : Sys)
noncomputable def StatV (a : AV) (v : Value) : Prop := ∀ (h : Heap) (g : G), (∀ b o, Y.hb.get? b = some o → h.get? b = some o) → (∀ b o, Y.hb.get? b = some o → g.own b = .free) → RelV h g a v
noncomputable def FnOk (d : Nat) (f : Addr) (p : Fn) : Prop :=
 ∀ args ob v ob' obs, p args ob = some ((v, ob'), obs) → Fits obs → ∀ A g s0 s vals, RO Y g ob s0 s → RelVs s.heap g args vals → Deep d A →
  codeAny (model Y.prog Y.w) A (.call (.ref f) ⟨vals, []⟩) (fun r s' => ∃ g' val, r = .ok (.ret val) ∧ RO Y g' ob' s0 s' ∧ Go .none g s.heap g' s'.heap ∧ RelV s'.heap g' v val) s
structure ClsOk (C : Addr) : Prop where
 ga : findIn Y.K (.ref C) "__getattribute__" = some (some (.builtin "object.__getattribute__"))
 gx : findIn Y.K (.ref C) "__getattr__" = some none
 sa : findIn Y.K (.ref C) "__setattr__" = some (some (.builtin "object.__setattr__"))
 plain : plainOver Y.K C = true
 dict : ∃ cd, clsIn Y.K C = some cd ∧ cd.hasDict = true
structure MethOk (f : Addr) : Prop where
 type : typeIn Y.K (.ref f) = some (.type "function")
 get : specialIn Y.K (.ref f) "__get__" = some (some (.builtin "function.__get__"))
 takes : takesIn Y.K (.ref f) = some false
 keep : keepIn Y.K (.ref f) = true
noncomputable def strmNames : List (List Nat) := [nReport, nNewLines, nDataStream, nChunk, nChunkSize, nChunkOffset, nErrors, nPrevLines, nPrevCols, nBuffered]
structure TabOk (T : Tab) (d : Nat) : Prop where
 globs : ∀ p ∈ T.globs, ∃ v, (Y.mg p.1 = some v ∨ (Y.mg p.1 = none ∧ Y.mb p.1 = some v)) ∧ StatV Y p.2 v
 fns : ∀ f p, T.fns.lookup f = some p → FnOk Y d f p ∧ keepIn Y.K (.ref f) = true
 meths : ∀ C n f, find2 C n T.meths = some f → ClsOk Y C ∧ findIn Y.K (.ref C) (sOf n) = some (some (.ref f)) ∧ copiedNames.contains (sOf n) = false ∧ MethOk Y f
 bms : ∀ f, T.bms.contains f = true → fnIn Y.K f = true
 strm : ∀ n f, find2 T.cS n T.meths = some f → strmNames.contains n = false
 cattr : ∀ C n a, find2 C n T.cattr = some a → ClsOk Y C ∧ ∃ v, findIn Y.K (.ref C) (sOf n) = some (some v) ∧ specialIn Y.K v "__get__" = some none ∧ handedIn v = true ∧ copiedNames.contains (sOf n) = false ∧ StatV Y a v
 own : ∀ C n, has2 C n T.own = true → ClsOk Y C ∧ findIn Y.K (.ref C) (sOf n) = some none
 cS : T.cS = Y.cS
 clsS : ClsOk Y Y.cS
 kstr : ∀ a es, T.kstr.lookup a = some es → ∃ kvs, Y.hb.DictOf (strKind Y.prog Y.w) a kvs ∧ ∀ h g, (∀ b o, Y.hb.get? b = some o → h.get? b = some o) → (∀ b o, Y.hb.get? b = some o → g.own b = .free) → RelKs h g sOf es kvs
 kint : ∀ a es, T.kint.lookup a = some es → (a == sysModules) = false ∧ ∃ kvs, Y.hb.DictOf (intKind Y.prog Y.w) a kvs ∧ ∀ h g, (∀ b o, Y.hb.get? b = some o → h.get? b = some o) → (∀ b o, Y.hb.get? b = some o → g.own b = .free) → RelKs h g id es kvs
 klst : ∀ a xs, T.klst.lookup a = some xs → T.kint.lookup a = none ∧ ∃ vs n, Y.hb.get? a = some (lstObj vs n) ∧ ∀ h g, (∀ b o, Y.hb.get? b = some o → h.get? b = some o) → (∀ b o, Y.hb.get? b = some o → g.own b = .free) → RelVs h g xs vs
end
section
variable {Y : Sys} {T : Tab} {d : Nat} {names : List (Str × NameKind)}
noncomputable abbrev Then (Y : Sys) (names : List (Str × NameKind)) (L : Addr) (loc : Loc) (s0 : Shared) (g : G) (s : Shared) (v : AV) (ob' : List AObj) (Q : Value → Shared → Prop) : Prop :=
 ∀ g' s' val, RS Y g' L names loc ob' s0 s' → Go (some L) g s.heap g' s'.heap → RelV s'.heap g' v val → Q val s'
noncomputable abbrev Thens (Y : Sys) (names : List (Str × NameKind)) (L : Addr) (loc : Loc) (s0 : Shared) (g : G) (s : Shared) (v : List AV) (ob' : List AObj) (Q : List Value → Shared → Prop) : Prop :=
 ∀ g' s' val, RS Y g' L names loc ob' s0 s' → Go (some L) g s.heap g' s'.heap → RelVs s'.heap g' v val → Q val s'
noncomputable abbrev ThenB (Y : Sys) (names : List (Str × NameKind)) (L : Addr) (loc : Loc) (s0 : Shared) (g : G) (s : Shared) (b : Bool) (ob' : List AObj) (Q : Bool → Shared → Prop) : Prop :=
 ∀ g' s', RS Y g' L names loc ob' s0 s' → Go (some L) g s.heap g' s'.heap → Q b s'
noncomputable def SndE (Y : Sys) (T : Tab) (d : Nat) (names : List (Str × NameKind)) (f : PE → Loc → List AObj → Res (AV × List AObj)) : Prop :=
 ∀ m pe e loc ob v ob' obs, f pe loc ob = some ((v, ob'), obs) → okE names T.globs m pe e = true → Fits obs →
  ∀ A env L g s0 s Q E, Fr1 env L names → Deep d A → RS Y g L names loc ob s0 s → Then Y names L loc s0 g s v ob' Q → wpAny (model Y.prog Y.w) A (eval e env) Q E s
noncomputable def SndT (Y : Sys) (T : Tab) (d : Nat) (names : List (Str × NameKind)) (f : PE → Loc → List AObj → Res (Bool × List AObj)) : Prop :=
 ∀ m pe e loc ob v ob' obs, f pe loc ob = some ((v, ob'), obs) → okE names T.globs m pe e = true → Fits obs →
  ∀ A env L g s0 s Q E, Fr1 env L names → Deep d A → RS Y g L names loc ob s0 s → ThenB Y names L loc s0 g s v ob' Q → wpAny (model Y.prog Y.w) A (isTrue e env (eval e env)) Q E s
theorem RelV.step {L : Addr} {loc : Loc} {ob : List AObj} {s0 s s' : Shared} {g g' : G} {a : AV} {v : Value} (R : RS Y g L names loc ob s0 s) (x : Go (some L) g s.heap g' s'.heap) (h : RelV s.heap g a v) : RelV s'.heap g' a v := h.go x.ext R.lok
theorem RelVs.step {L : Addr} {loc : Loc} {ob : List AObj} {s0 s s' : Shared} {g g' : G} {a : List AV} {v : List Value} (R : RS Y g L names loc ob s0 s) (x : Go (some L) g s.heap g' s'.heap) (h : RelVs s.heap g a v) : RelVs s'.heap g' a v := h.go x.ext R.lok
theorem fT {L : Addr} {loc : Loc} {s0 s : Shared} {g : G} {v w : AV} {ob1 ob' : List AObj} {l : List Nat} {Q : Value → Shared → Prop} (e : fine (w, ob1) = some ((v, ob'), l)) (K : Then Y names L loc s0 g s v ob' Q) : Then Y names L loc s0 g s w ob1 Q := by cases e; exact K
theorem fine_thens {L : Addr} {loc : Loc} {s0 s : Shared} {g : G} {v w : List AV} {ob1 ob' : List AObj} {l : List Nat} {Q : List Value → Shared → Prop} (e : fine (w, ob1) = some ((v, ob'), l)) (K : Thens Y names L loc s0 g s v ob' Q) : Thens Y names L loc s0 g s w ob1 Q := by cases e; exact K
theorem fine_thenB {L : Addr} {loc : Loc} {s0 s : Shared} {g : G} {v w : Bool} {ob1 ob' : List AObj} {l : List Nat} {Q : Bool → Shared → Prop} (e : fine (w, ob1) = some ((v, ob'), l)) (K : ThenB Y names L loc s0 g s v ob' Q) : ThenB Y names L loc s0 g s w ob1 Q := by cases e; exact K
noncomputable def isStarE : PySem.Expr → Bool
 | .Starred .. => true
 | _ => false
theorem star_none {e : PySem.Expr} (h : isStarE e = false) (r : List PySem.Expr) (env : Env) : starEach (e :: r) env = (false, eval e env) :: starEach r env := by
 cases e with
 | Starred _ _ => exact nt h.symm
 | _ => rfl
theorem no_star {m : Nat} {globs : List (Str × AV)} {pe : PE} {e : PySem.Expr} (h : okE names globs (m + 1) pe e = true) : isStarE e = false := by
 replace h := okE_is h
 induction h <;> rfl
theorem starEach_ok {m : Nat} {globs : List (Str × AV)} {pe : PE} {e : PySem.Expr} (h : okE names globs m pe e = true) (r : List PySem.Expr) (env : Env) : starEach (e :: r) env = (false, eval e env) :: starEach r env := by
 cases m with
 | zero => exact nt h
 | succ m => exact star_none (no_star h) r env
theorem evs_sound {f : PE → Loc → List AObj → Res (AV × List AObj)} (H : SndE Y T d names f) {m : Nat} {loc : Loc} {A : Around} {env : Env} {L : Addr} {s0 : Shared} {E : Value → Shared → Prop} (hF : Fr1 env L names) (hD : Deep d A) (p : Pos) :
  ∀ {as : List PE} {es : List PySem.Expr} {ob : List AObj} {vs : List AV} {ob' : List AObj} {obs : List Nat}, evs f as loc ob = some ((vs, ob'), obs) → all2 (okE names T.globs m) as es = true → Fits obs →
  ∀ {g : G} {s : Shared} {Q : List Value → Shared → Prop}, RS Y g L names loc ob s0 s → Thens Y names L loc s0 g s vs ob' Q → wpAny (model Y.prog Y.w) A (spliced (backTo p (starEach es env))) Q E s
 | [], [], ob, vs, ob', obs, e, ok, fit, g, s, Q, R, K => by
  cases e
  exact Calls.spliced_nil (K g s [] R (Go.refl _ _ _) rfl)
 | a :: as, x :: es, ob, vs, ob', obs, e, ok, fit, g, s, Q, R, K => by
  have ok1 := (and2 ok).1
  have ok2 := (and2 ok).2
  refine bndP e fit fun v ob1 l1 l2 e1 e2 fit1 fit => ?_
  refine bndP e2 fit fun ws ob2 l3 l4 e3 e4 fit3 fit4 => ?_
  have K := fine_thens e4 K
  rw [starEach_ok ok1]
  refine Calls.spliced_cons ?_
  refine H m a x loc ob v ob1 l1 e1 ok1 fit1 A env L g s0 s _ E hF hD R fun g1 s1 val R1 go1 r1 => ?_
  refine evs_sound H hF hD p e3 ok2 fit3 R1 fun g2 s2 vals R2 go2 r2 => ?_
  exact K g2 s2 (val :: vals) R2 (go1.trans go2) ⟨val, vals, rfl, r1.step R1 go2, r2⟩
 | [], _ :: _, _, _, _, _, _, ok, _, _, _, _, _, _ => nt ok
 | _ :: _, [], _, _, _, _, _, ok, _, _, _, _, _, _ => nt ok
end
theorem sOf_inj {a b : List Nat} : sOf a = sOf b ↔ a = b := ⟨fun h => by
 have := congrArg (fun s => s.cps.toList) h
 simpa [sOf] using this, fun h => by rw [h]⟩
theorem isStr_sOf {a b : List Nat} {t : Tok} : (Value.str (sOf a) t).isStr (sOf b) = decide (a = b) := by
 show (sOf a == sOf b) = _
 by_cases h : a = b
 ·subst h; simp
 ·rw [decide_eq_false h]
  rw [beq_eq_false_iff_ne]
  exact fun e => h (sOf_inj.mp e)
section
variable {Y : Sys} {T : Tab} {d : Nat} {names : List (Str × NameKind)} {L : Addr} {loc : Loc} {ob : List AObj} {s0 s : Shared} {g : G} {A : Around} {E : Value → Shared → Prop}
theorem RO.KIn (O : Y.Ok) (R : RO Y g ob s0 s) : Y.K.In s.heap := O.X.keeps R.keep
theorem RS.KIn (O : Y.Ok) (R : RS Y g L names loc ob s0 s) : Y.K.In s.heap := R.toRO.KIn O
theorem StatV.here {a : AV} {v : Value} (S : StatV Y a v) (R : RO Y g ob s0 s) : RelV s.heap g a v := S _ _ R.keep R.base
theorem find_some {h : Heap} {n : List Nat} {a : AV} : ∀ {as : List (List Nat × AV)} {es : List DictEntry}, RelAs h g as es → look1 n as = some a → ∃ en, es.find? (·.key.isStr (sOf n)) = some en ∧ RelV h g a en.val := by
 intro as
 induction as with
 | nil => intro es _ e; exact nO e
 | cons x as ih =>
  intro es r e
  obtain ⟨en, rest, t, rfl, hk, hv, hr⟩ := r
  unfold look1 at e
  rw [List.find?_cons, hk, isStr_sOf]
  by_cases q : x.1 = n
  ·rw [if_pos q] at e
   rw [decide_eq_true q]
   exact ⟨en, rfl, Option.some.inj e ▸ hv⟩
  ·rw [if_neg q] at e
   rw [decide_eq_false q]
   exact ih hr e
theorem getL_some {h : Heap} {n : List Nat} {a : AV} {as : List (List Nat × AV)} {es : List DictEntry} (r : RelAs h g as es) (e : look1 n as = some a) : ∃ v, getL (sOf n) es = some (some v) ∧ RelV h g a v := by
 obtain ⟨en, h1, h2⟩ := find_some r e
 exact ⟨en.val, by unfold getL; rw [h1], h2⟩
theorem relAs_noref {h : Heap} {as : List (List Nat × AV)} {es : List DictEntry} (r : RelAs h g as es) : es.any (·.refKey) = false := by
 induction as generalizing es with
 | nil => cases r; rfl
 | cons x as ih =>
  obtain ⟨en, rest, t, rfl, hk, hv, hr⟩ := r
  rw [List.any_cons, ih hr, Bool.or_false]
  unfold DictEntry.refKey
  rw [hk]
theorem getL_none {h : Heap} {n : List Nat} : ∀ {as : List (List Nat × AV)} {es : List DictEntry}, RelAs h g as es → look1 n as = none → getL (sOf n) es = some none := by
 intro as es r e
 have nf : ∀ {as : List (List Nat × AV)} {es : List DictEntry}, RelAs h g as es → look1 n as = none → es.find? (·.key.isStr (sOf n)) = none := by
  intro as
  induction as with
  | nil => intro es r _; cases r; rfl
  | cons x as ih =>
   intro es r e
   obtain ⟨m, b⟩ := x
   obtain ⟨en, rest, t, rfl, hk, hv, hr⟩ := r
   unfold look1 at e
   by_cases q : m = n
   ·rw [if_pos q] at e; exact some_no e
   ·rw [if_neg q] at e
    rw [List.find?_cons, hk, isStr_sOf, decide_eq_false q]
    exact ih hr e
 unfold getL
 rw [nf r e, relAs_noref r]
 rfl
theorem list_mine {h : Heap} {i : Nat} {a : Addr} {xs : List AV} {P : Prop} (r : RelO Y h g i (.list xs)) (e : g.ρ[i]? = some a) (k : ∀ vs n, g.own a = .mine i → h.get? a = some (lstObj vs n) → RelVs h g xs vs → P) : P := by
 obtain ⟨b, vs, n, q, h2, h3, h4⟩ := r
 rw [e] at q
 cases q
 exact k vs n h2 h3 h4
theorem dict_mine {h : Heap} {i : Nat} {a : Addr} {es : List (List Nat × AV)} {P : Prop} (r : RelO Y h g i (.dict es)) (e : g.ρ[i]? = some a) (k : ∀ kvs, g.own a = .mine i → h.DictOf (strKind Y.prog Y.w) a kvs → RelKs h g sOf es kvs → P) : P := by
 obtain ⟨b, kvs, q, h2, h3, h4⟩ := r
 rw [e] at q
 cases q
 exact k kvs h2 h3 h4
theorem idict_mine {h : Heap} {i : Nat} {a : Addr} {es : List (Int × AV)} {P : Prop} (r : RelO Y h g i (.idict es)) (e : g.ρ[i]? = some a) (k : ∀ kvs, g.own a = .mine i → h.DictOf (intKind Y.prog Y.w) a kvs → RelKs h g id es kvs → P) : P := by
 obtain ⟨b, kvs, q, h2, h3, h4⟩ := r
 rw [e] at q
 cases q
 exact k kvs h2 h3 h4
theorem inst_mine {i : Nat} {C ax : Addr} {as : List (List Nat × AV)} {P : Prop} (R : RO Y g ob s0 s) (e : ob[i]? = some (.inst C as)) (h : g.ρ[i]? = some ax) (k : ∀ dd es n, g.own ax = .mine i → g.own dd = .mine i → ax ≠ dd → s.heap.get? ax = some (instObj C dd) → s.heap.get? dd = some (dictOf es n) → RelAs s.heap g as es →
  InstAt s.heap ax (instObj C dd) C (some (dictOf es n)) → P) : P := by
 have r := R.rel i _ e
 obtain ⟨a, dd, es, n, e1, e2, e3, e4, e5, e6, e7⟩ := r
 rw [h] at e1
 cases e1
 exact k dd es n e2 e3 e4 e5 e6 e7 ⟨e5, rfl, rfl, e6⟩
theorem rvR {h : Heap} {i : Nat} {v : Value} (r : RelV h g (.ref i) v) : ∃ a, g.ρ[i]? = some a ∧ v = .ref a := by exact r
theorem handed_rel {h : Heap} {a : AV} {v : Value} (r : RelV h g a v) (e : handedA a = true) : handedIn v = true := by
 cases a with
 | none => rw [r]; rfl
 | bool b => rw [r]; rfl
 | int i => obtain ⟨_, rfl⟩ := r; rfl
 | str i => obtain ⟨_, rfl⟩ := r; rfl
 | tup xs => obtain ⟨_, _, _, rfl, _⟩ := r; rfl
 | ref i => obtain ⟨_, _, rfl⟩ := r; rfl
 | val w => rw [r]; exact e
 | meth f i => obtain ⟨_, _, rfl, _⟩ := r; rfl
 | any => cases e
theorem getA_sound {expr : Bool} (O : Y.Ok) (TO : TabOk Y T d) {v a : AV} {val : Value} {x : List Nat} (e : getA T v x ob = some a) (r : RelV s.heap g v val) (R : RS Y g L names loc ob s0 s) {Q : Value → Shared → Prop} (K : Then Y names L loc s0 g s a ob Q) :
  wpAny (model Y.prog Y.w) A (getAttr val (sOf x) expr) Q E s := by
 have X := R.KIn O
 refine getA_is e (fun i C as hv ho hown hl hh => ?_) (fun i C as hv ho hl hc' => ?_) (fun i C as f hv ho hl hm ha => ?_)
 ·subst hv
  obtain ⟨ax, h1, rfl⟩ := rvR r
  refine inst_mine R.toRO ho h1 fun dd es n _ _ _ _ _ h7 I => ?_
  have own := TO.own _ _ hown
  obtain ⟨w, g1, g2⟩ := getL_some h7 hl
  obtain ⟨cd, hc, hd⟩ := own.1.dict
  refine get_value X I own.1.ga (v := w) ?_ (handed_rel g2 hh) (K g _ w (R.toks _) (Go.refl _ _ _) g2)
  unfold findObj
  rw [hc, Option.bind_some, own.2, Option.bind_some]
  dsimp only
  rw [Option.bind_some, Option.bind_some]
  dsimp only
  unfold PySem.W.ownOf
  rw [hd, if_pos rfl]
  dsimp only
  rw [lookIn_dict, g1]
  rfl
 ·subst hv
  obtain ⟨ax, h1, rfl⟩ := rvR r
  refine inst_mine R.toRO ho h1 fun dd es n _ _ _ _ _ h7 I => ?_
  have g1 := getL_none h7 hl
  obtain ⟨c, w, hf, hg, hh, hcn, st⟩ := TO.cattr _ _ _ hc'
  obtain ⟨cd, hc, hd⟩ := c.dict
  refine get_value X I c.ga (v := w) ?_ hh (K g _ w (R.toks _) (Go.refl _ _ _) (st.here (R.toks _).toRO))
  unfold findObj
  rw [hc, Option.bind_some, hf, Option.bind_some]
  dsimp only
  rw [hg, Option.bind_some]
  dsimp only
  rw [Option.bind_some]
  dsimp only
  unfold PySem.W.ownOf
  rw [hd, if_pos rfl]
  dsimp only
  rw [lookIn_dict, g1, Option.bind_some]
  dsimp only
  rw [hcn, Bool.false_and, if_neg Bool.false_ne_true, if_pos hh]
 ·subst hv
  obtain ⟨ax, h1, rfl⟩ := rvR r
  refine inst_mine R.toRO ho h1 fun dd es n _ _ _ _ _ h7 I => ?_
  subst ha
  have g1 := getL_none h7 hl
  obtain ⟨c, hf, hcn, mo⟩ := TO.meths _ _ _ hm
  obtain ⟨cd, hc, hd⟩ := c.dict
  refine get_bind X I c.ga (g := .builtin "function.__get__") (a := .ref f) ?_ c.gx ?_
  ·clear K R I
   unfold findObj
   rw [hc, Option.bind_some, hf, Option.bind_some]
   dsimp only
   rw [mo.get, Option.bind_some]
   dsimp only
   rw [mo.takes, Option.bind_some]
   dsimp only
   unfold PySem.W.ownOf
   rw [hd, if_pos rfl]
   dsimp only
   rw [lookIn_dict, g1, Option.bind_some]
   dsimp only
   rw [hcn, Bool.false_and, if_neg Bool.false_ne_true]
  ·refine wpAny_call (fn_get (s := { s with toks := s.toks + 1 }) X mo.type ?_)
   refine handed_on rfl ?_
   refine K g _ _ ((R.toks _).push _) (Go.push _) ?_
   exact ⟨_, ax, rfl, h1, R.toRO.fresh, Heap.get?_push_size _ rfl⟩
end
section
variable {Y : Sys} {T : Tab} {d : Nat} {names : List (Str × NameKind)} {L : Addr} {loc : Loc} {ob : List AObj} {s0 s : Shared} {g : G} {A : Around} {E : Value → Shared → Prop}
theorem relAs_put {h : Heap} {n : List Nat} {a : AV} {v : Value} {hs : Int} {t : Tok} (hv : RelV h g a v) {as : List (List Nat × AV)} {es : List DictEntry} (r : RelAs h g as es) : RelAs h g (put1 n a as) (putL (sOf n) hs (.str (sOf n) t) v es) := by
 induction as generalizing es with
 | nil => cases r; exact ⟨_, _, t, rfl, rfl, hv, rfl⟩
 | cons x as ih =>
  obtain ⟨en, rest, t', rfl, hk, hb, hr⟩ := r
  unfold putL
  rw [hk, isStr_sOf]
  by_cases q : x.1 = n
  ·have e : put1 n a (x :: as) = (x.1, a) :: as := if_pos q
   rw [e, decide_eq_true q, if_pos rfl]
   exact ⟨_, _, t', rfl, rfl, hv, hr⟩
  ·have e : put1 n a (x :: as) = x :: put1 n a as := if_neg q
   rw [e, decide_eq_false q, if_neg Bool.false_ne_true]
   exact ⟨_, _, t', rfl, hk, hb, ih hr⟩
theorem relAs_length {h : Heap} {as : List (List Nat × AV)} {es : List DictEntry} (r : RelAs h g as es) : es.length = as.length := by
 induction as generalizing es with
 | nil => cases r; rfl
 | cons _ as ih => obtain ⟨_, _, _, rfl, _, _, hr⟩ := r; exact congrArg Nat.succ (ih hr)
theorem putL_le (n : Str) (hs : Int) (k v : Value) (es : List DictEntry) : (putL n hs k v es).length ≤ es.length + 1 := by
 induction es with
 | nil => exact Nat.le_refl _
 | cons e r ih =>
  unfold putL
  split
  ·exact Nat.le_succ _
  ·exact Nat.succ_le_succ ih
theorem setA_sound (O : Y.Ok) (TO : TabOk Y T d) {o v : AV} {oval val : Value} {x : List Nat} {ob' : List AObj} (e : setA T o x v ob = some ob') (ro : RelV s.heap g o oval) (rv : RelV s.heap g v val) (R : RS Y g L names loc ob s0 s) {Q : Unit → Shared → Prop}
  (K : ∀ g' s', RS Y g' L names loc ob' s0 s' → Go (some L) g s.heap g' s'.heap → Q () s') :
  wpAny (model Y.prog Y.w) A (setAttr oval (sOf x) val) Q E s := by
 have X := R.KIn O
 refine setA_is T e fun i C as ho' ho hown hlen hob => ?_
 subst ho' hob
 clear e
 obtain ⟨ax, h1, rfl⟩ := rvR ro
 refine inst_mine R.toRO ho h1 fun dd es n h2 h3 h4 h5 h6 h7 I => ?_
 obtain ⟨c, hf⟩ := TO.own _ _ hown
 obtain ⟨cd, hcd, hdict⟩ := c.dict
 refine set_plain X I c.sa ?_
 refine osa_open (s := { s with toks := s.toks + 1 }) X I c.plain (r := none) (by unfold takerIn; rw [hf, Option.bind_some]) fun b => ?_
 refine wpAny_bind (wpAny_pure (wpAny_bind (wpAny_bind (wpAny_loadPart h5 (wpAny_bind (Looks.here (s := { s with toks := s.toks + 1 }) (looks_clsIn X hcd) ?_))))))
 rw [hdict]
 refine wpAny_pure (a := some dd) (wpAny_bind (wpAny_pure (wpAny_bind ?_)))
 refine wpAny_bind (wpAny_bind (wpAny_askSetting (wpAny_pure (wpAny_bind (wpAny_mkText (wpAny_bind (wpAny_loadPart h6 ?_)))))))
 dsimp only
 have cc : (!es.toArray.any (·.key.isStr (sOf x)) && es.toArray.any (·.refKey)) = false := by
  have := relAs_noref h7
  rw [← Array.any_toList, ← Array.any_toList, List.toList_toArray, this, Bool.and_false]
 rw [aRefKeyMayBeTheName_at, cc]
 have hup := putName_dict (sOf x) (PyData.keyHash Y.w.params (sOf x)) (.str (sOf x) (s.toks + 1)) val es n
 refine wpAny_updatePart h6 ?_
 have hg : (s.heap.update dd (Obj.putName (sOf x) (PyData.keyHash Y.w.params (sOf x)) (.str (sOf x) (s.toks + 1)) val)).get? dd = some (dictOf (putL (sOf x) (PyData.keyHash Y.w.params (sOf x)) (.str (sOf x) (s.toks + 1)) val es) (putN (sOf x) es n)) := by
  have := Heap.get?_update_self (h := s.heap) (a := dd) (Obj.putName (sOf x) (PyData.keyHash Y.w.params (sOf x)) (.str (sOf x) (s.toks + 1)) val) h6 (by rw [hup]; rfl)
  rw [this, hup]
 refine wpAny_bind (wpAny_lookBehind hg ?_ ?_)
 ·refine pastItsLine_dict ?_
  have h1 := putL_le (sOf x) (PyData.keyHash Y.w.params (sOf x)) (.str (sOf x) (s.toks + 1)) val es
  rw [relAs_length h7] at h1
  rw [List.size_toArray, sizeLine_eq]; lia
 have kk : ∀ b o, s.heap.get? b = some o → g.own b ≠ .mine i → (s.heap.update dd (Obj.putName (sOf x) (PyData.keyHash Y.w.params (sOf x)) (.str (sOf x) (s.toks + 1)) val)).get? b = some o := fun b o q nm =>
  (Heap.get?_update_other s.heap _ (fun z => nm (by rw [← z]; exact h3))).trans q
 have go : Go (some L) g s.heap g (s.heap.update dd (Obj.putName (sOf x) (PyData.keyHash Y.w.params (sOf x)) (.str (sOf x) (s.toks + 1)) val)) := Go.upd kk
 refine wpAny_pure (K g _ (R.upd (t := s.toks + 1 + 1) kk (fun b o q => by
  by_cases z : dd = b
  ·exact ⟨_, by rw [← z]; exact hg⟩
  ·exact ⟨o, (Heap.get?_update_other s.heap _ z).trans q⟩) ?_) go)
 show RelO _ _ _ _ _
 refine ⟨ax, dd, _, _, h1, h2, h3, h4, (Heap.get?_update_other s.heap _ (fun z => h4 z.symm)).trans h5, hg, ?_⟩
 exact relAs_put (rv.go go.ext R.lok) (h7.go go.ext R.lok)
end
section
variable {Y : Sys} {T : Tab} {d : Nat} {names : List (Str × NameKind)} {L : Addr} {loc : Loc} {ob : List AObj} {s0 s : Shared} {g : G} {A : Around} {E : Value → Shared → Prop}
theorem RS.liveL (R : RS Y g L names loc ob s0 s) : ∃ o, s.heap.get? L = some o := R.lt L (by rw [R.ownL]; exact fun q => of_no q)
theorem RS.of_call {ob' : List AObj} {g' : G} {s' : Shared} (R : RS Y g L names loc ob s0 s) (R' : RO Y g' ob' s0 s') (go : Go .none g s.heap g' s'.heap) : RS Y g' L names loc ob' s0 s' := by
 refine ⟨R', (go.own L (by rw [R.ownL]; exact fun q => of_no q)).trans R.ownL, ?_⟩
 obtain ⟨m, ⟨oL, es, ep, hL, r1⟩, l⟩ := R.ns
 exact ⟨m, ⟨oL, es, ep, go.keep L oL hL (fun k => by rw [R.ownL]; exact fun q => om_no q) (fun q => nO q), r1⟩, fun k x a e1 e2 => let ⟨v, q1, q2⟩ := l k x a e1 e2; ⟨v, q1, q2.go go.ext (LOk.none _)⟩⟩
theorem Go.some {L : Option Addr} {g g' : G} {h h' : Heap} (go : Go .none g h g' h') : Go L g h g' h' := ⟨go.ρ, go.own, fun b o e n _ => go.free b o e n (fun q => nO q), fun b o e n _ => go.oth b o e n (fun q => nO q)⟩
noncomputable def MRel (h : Heap) (g : G) (m : MT) (fv : Value) (first : List Value) : Prop := match m with
 | .fn f self => fv = .ref f ∧ ∃ sv, first = [sv] ∧ RelV h g self sv
 | .bm f i => ∃ q x, fv = .ref q ∧ first = [] ∧ g.ρ[i]? = some x ∧ g.own q = .free ∧ h.get? q = some (methodObj (.ref f) (.ref x))
 | .join s => fv = .builtin "str.join" ∧ ∃ t, first = [.str (sOf s) t]
 | .count s => fv = .builtin "str.count" ∧ ∃ t, first = [.str (sOf s) t]
 | .rfind s => fv = .builtin "str.rfind" ∧ ∃ t, first = [.str (sOf s) t]
 | .index s => fv = .builtin "str.index" ∧ ∃ t, first = [.str (sOf s) t]
 | .append i => fv = .builtin "list.append" ∧ ∃ a, first = [.ref a] ∧ g.ρ[i]? = some a
 | .get i => fv = .builtin "dict.get" ∧ ∃ a, first = [.ref a] ∧ g.ρ[i]? = some a
theorem MRel.step {s' : Shared} {g' : G} {m : MT} {fv : Value} {first : List Value} (R : RS Y g L names loc ob s0 s) (go : Go (some L) g s.heap g' s'.heap) (r : MRel s.heap g m fv first) : MRel s'.heap g' m fv first := by
 cases m with
 | fn f self => obtain ⟨h1, sv, h2, h3⟩ := r; exact ⟨h1, sv, h2, h3.step R go⟩
 | bm f i =>
  obtain ⟨q, x, h1, h2, h3, h4, h5⟩ := r
  obtain ⟨p, q'⟩ := go.ext.freeAt h4 h5 fun z => by
   obtain ⟨_, _, q⟩ := R.lok _ z _ h5; cases q
  exact ⟨q, x, h1, h2, go.ext.at h3, p, q'⟩
 | append i => obtain ⟨h1, a, h2, h3⟩ := r; exact ⟨h1, a, h2, go.ext.at h3⟩
 | get i => obtain ⟨h1, a, h2, h3⟩ := r; exact ⟨h1, a, h2, go.ext.at h3⟩
 | join _ => exact r
 | count _ => exact r
 | rfind _ => exact r
 | index _ => exact r
noncomputable def KeepH (fv : Value) (h : Heap) : Prop := ∀ M : Model, ∃ k, (k = Keeper.frame ∨ k = Keeper.machine ∨ k = Keeper.boundFrame) ∧ Looks M h (keeperOf fv) k
theorem KeepH.builtin (id : String) (h : Heap) : KeepH (.builtin id) h := fun M => ⟨.machine, .inr (.inl rfl), Looks.of_pure rfl⟩
theorem noStar {m : Nat} {globs : List (Str × AV)} (env : Env) (p : Pos) {as : List PE} {es : List PySem.Expr} (h : all2 (okE names globs m) as es = true) : (backTo p (starEach es env)).any (·.1) = false := by
 induction as generalizing es with
 | nil => cases es with
  | nil => rfl
  | cons _ _ => exact nt h
 | cons a as ih => cases es with
  | nil => exact nt h
  | cons e es => rw [starEach_ok (and2 h).1]; exact ih (and2 h).2
theorem callWith_sound {f : PE → Loc → List AObj → Res (AV × List AObj)} (H : SndE Y T d names f) {m : Nat} {env : Env} (hF : Fr1 env L names) (hD : Deep d A) (p : Pos) {as : List PE} {es : List PySem.Expr} {vs : List AV} {ob' : List AObj} {obs : List Nat}
  (e : evs f as loc ob = some ((vs, ob'), obs)) (ok : all2 (okE names T.globs m) as es = true) (fit : Fits obs) {fv : Value} {first : List Value} (R : RS Y g L names loc ob s0 s) {Q : Value → Shared → Prop}
  (K : ∀ g' s' vals, RS Y g' L names loc ob' s0 s' → Go (some L) g s.heap g' s'.heap → RelVs s'.heap g' vs vals → KeepH fv s'.heap ∧ wpAny (model Y.prog Y.w) A (call fv (first ++ vals)) Q E s') :
  wpAny (model Y.prog Y.w) A (callWith p fv first (backTo p (starEach es env)) []) Q E s := by
 refine callWith_of (P := KeepH fv) (by rw [noStar env p ok]; rfl) (fun h x => x _) ?_
 have key : wpAny (model Y.prog Y.w) A (spliced (backTo p (starEach es env))) (fun vs s' => KeepH fv s'.heap ∧ wpAny (model Y.prog Y.w) A (call fv (first ++ vs)) Q E s') E s :=
  evs_sound H hF hD p e ok fit R fun g' s' vals R' go rv => K g' s' vals R' go rv
 cases es with
 | nil =>
  cases as with
  | cons _ _ => exact nt ok
  | nil =>
   cases e
   obtain ⟨k1, k2⟩ := K g s [] R (Go.refl _ _ _) rfl
   exact evalArgs_nil3 ⟨k1, k2⟩
 | cons x es =>
  cases as with
  | nil => exact nt ok
  | cons a as =>
   rw [starEach_ok (and2 ok).1] at key ⊢
   exact Calls.evalArgs_plain key
theorem strm_inst {i : Nat} {p r : List Nat} (R : RO Y g ob s0 s) (e : ob[i]? = some (.strm p r)) : ∃ (a dd : Addr) (es : List DictEntry) (n : Nat) (gc : G) (d : SD), g.ρ[i]? = some a ∧ s.heap.get? a = some (instObj Y.cS dd) ∧ RelAs s.heap gc [(nReport, .meth Y.fE 0), (nNewLines, .ref 1), (nDataStream, .ref 2), (nChunk, .str d.chunk), (nChunkSize, .int d.chunk.length), (nChunkOffset, .int d.off),
   (nErrors, .ref 3), (nPrevLines, .int d.pl), (nPrevCols, .int d.pc), (nBuffered, bufAV d.buf)] es ∧ InstAt s.heap a (instObj Y.cS dd) Y.cS (some (dictOf es n)) := by
 have h := R.rel i _ e
 obtain ⟨gc, d, h1, ⟨a, h2, h3⟩, h4, h5, h6, h7⟩ := h
 have h8 := h7 0 _ rfl
 obtain ⟨a', dd, es, n, e1, e2, e3, e4, e5, e6, e7⟩ := h8
 rw [h3] at e1; cases e1
 exact ⟨a, dd, es, n, gc, d, h2, e5, e7, ⟨e5, rfl, rfl, e6⟩⟩
theorem look1_none {β : Type} {n : List Nat} {as : List (List Nat × β)} (h : (as.map (·.1)).contains n = false) : look1 n as = none := by
 induction as with
 | nil => rfl
 | cons x as ih =>
  rw [List.map_cons, List.contains_cons] at h
  have h := Bool.or_eq_false_iff.mp h
  exact (if_neg fun q : x.1 = n => beq_eq_false_iff_ne.mp h.1 q.symm).trans (ih h.2)
theorem getA_meth {i j : Nat} {C f : Addr} {as : List (List Nat × AV)} {x : List Nat} (ho : ob[i]? = some (.inst C as)) (hown : has2 C x T.own = true) (hl : look1 x as = some (.meth f j)) : getA T (.ref i) x ob = some (.meth f j) := by
 show onInst ob i (fun C as => getC T C as i x) = _
 unfold onInst
 rw [ho]
 show getC T C as i x = _
 unfold getC
 rw [hown, hl]
 rfl
theorem findM_obj (O : Y.Ok) (TO : TabOk Y T d) {i : Nat} {ax : Addr} {o : AObj} {x : List Nat} {m : MT} {pl : Sem Bool} (e : objM T i x o = some m) (ho : ob[i]? = some o) (h1 : g.ρ[i]? = some ax) (R : RS Y g L names loc ob s0 s) {Q : Value × List Value → Shared → Prop}
  (K : ∀ g' s' fv first, RS Y g' L names loc ob s0 s' → Go (some L) g s.heap g' s'.heap → MRel s'.heap g' m fv first → Q (fv, first) s') :
  wpAny (model Y.prog Y.w) A (getMethod (.ref ax) (sOf x) pl) Q E s := by
 have X := R.KIn O
 have r : RelV s.heap g (.ref i) (.ref ax) := by exact ⟨ax, h1, rfl⟩
 cases o with
 | inst C as =>
  refine inst_mine R.toRO ho h1 fun dd es n _ _ _ _ _ h7 I => ?_
  refine instM_is e (fun f j hl hown hm => ?_) (fun f hl hm hmm => ?_)
  ·subst hm
   have c := TO.own _ _ hown
   refine method_usual X I c.1.ga c.1.gx c.2 rfl ?_
   refine getA_sound (names := names) (loc := loc) (L := L) (T := T) (v := .ref i) (a := .meth f j) O TO (getA_meth ho hown hl) r R fun g' s' w R' go rw' => ?_
   obtain ⟨q, y, rfl, w2, w3, w4⟩ := rw'
   exact K g' s' _ _ R' go ⟨q, y, rfl, rfl, w2, w3, w4⟩
  ·subst hmm
   obtain ⟨c, hf, hcn, mo⟩ := TO.meths _ _ _ hm
   refine method_fn X I c.ga c.gx hf mo.type ?_ (K g s _ _ R (Go.refl _ _ _) ⟨rfl, _, rfl, r⟩)
   show (lookIn _ (dictOf es n)).map _ = _
   rw [lookIn_dict, getL_none h7 hl]; rfl
 | strm p q =>
  refine oSi e fun f hm e => ?_
  cases e
  obtain ⟨a, dd, es, n, gc, sd, q1, h5, h7, I⟩ := strm_inst R.toRO ho
  rw [h1] at q1; cases q1
  have hs := TO.strm _ _ hm
  obtain ⟨c, hf, hcn, mo⟩ := TO.meths Y.cS x f (by rw [← TO.cS]; exact hm)
  refine method_fn X I c.ga c.gx hf mo.type ?_ (K g s _ _ R (Go.refl _ _ _) ⟨rfl, _, rfl, r⟩)
  show (lookIn _ (dictOf es n)).map _ = _
  rw [lookIn_dict, getL_none h7 (look1_none hs)]; rfl
 | list xs =>
  refine ite_is e fun hx e => ?_
  cases e
  subst hx
  refine list_mine (R.rel i _ ho) h1 fun vs n h2 h3 h4 => ?_
  rw [show sOf nAppend = ("append" : Str) by decide +kernel]
  exact Calls.getMethod_list_append h3 rfl rfl (K g s _ _ R (Go.refl _ _ _) ⟨rfl, _, rfl, h1⟩)
 | idict es =>
  refine ite_is e fun hx e => ?_
  cases e
  subst hx
  refine idict_mine (R.rel i _ ho) h1 fun kvs h2 h3 h4 => ?_
  rw [show sOf nGet = ("get" : Str) by decide +kernel]
  exact getMethod_builtin h3.typeIs PySem.F.plainAttrs_dict PySem.F.slot_dict_get PySem.F.type_dict_get h3.mapOf.noDict (K g s _ _ R (Go.refl _ _ _) ⟨rfl, _, rfl, h1⟩)
 | dict es => exact nO e
set_option maxHeartbeats 2000000 in
theorem findM_sound (O : Y.Ok) (TO : TabOk Y T d) {v : AV} {val : Value} {x : List Nat} {m : MT} {pl : Sem Bool} (e : findM T v x ob = some m) (r : RelV s.heap g v val) (R : RS Y g L names loc ob s0 s) {Q : Value × List Value → Shared → Prop}
  (K : ∀ g' s' fv first, RS Y g' L names loc ob s0 s' → Go (some L) g s.heap g' s'.heap → MRel s'.heap g' m fv first → Q (fv, first) s') :
  wpAny (model Y.prog Y.w) A (getMethod val (sOf x) pl) Q E s := by
 cases v with
 | ref i =>
  obtain ⟨ax, h1, rfl⟩ := rvR r
  exact oSi e fun o ho e => findM_obj O TO e ho h1 R K
 | str t =>
  obtain ⟨tk, rfl⟩ := r
  replace K := K g s
  refine strM_is e (fun hx hm => ?_) (fun hx hm => ?_) (fun hx hm => ?_) (fun hx hm => ?_)
  ·subst hx hm
   rw [show sOf nJoin = ("join" : Str) by decide +kernel]
   exact GM.join (K _ _ R (Go.refl _ _ _) ⟨rfl, _, rfl⟩)
  ·subst hx hm
   rw [show sOf nCount = ("count" : Str) by decide +kernel]
   exact GM.count (K _ _ R (Go.refl _ _ _) ⟨rfl, _, rfl⟩)
  ·subst hx hm
   rw [show sOf nRfind = ("rfind" : Str) by decide +kernel]
   exact GM.rfind (K _ _ R (Go.refl _ _ _) ⟨rfl, _, rfl⟩)
  ·subst hx hm
   rw [show sOf nIndex = ("index" : Str) by decide +kernel]
   exact GM.index (K _ _ R (Go.refl _ _ _) ⟨rfl, _, rfl⟩)
 | _ => exact nO e
end
section
variable {Y : Sys} {T : Tab} {d : Nat} {names : List (Str × NameKind)} {L : Addr} {loc : Loc} {ob : List AObj} {s0 s : Shared} {g : G} {A : Around} {E : Value → Shared → Prop}
theorem relVs_one {h : Heap} {a : AV} {vals : List Value} (r : RelVs h g [a] vals) : ∃ v, vals = [v] ∧ RelV h g a v := by
 obtain ⟨v, r', rfl, h1, h2⟩ := r
 subst h2
 exact ⟨v, rfl, h1⟩
theorem relVs_two {h : Heap} {a b : AV} {vals : List Value} (r : RelVs h g [a, b] vals) : ∃ v u, vals = [v, u] ∧ RelV h g a v ∧ RelV h g b u := by
 obtain ⟨v, r', rfl, h1, h2⟩ := r
 obtain ⟨u, rfl, h3⟩ := relVs_one h2
 exact ⟨v, u, rfl, h1, h3⟩
theorem relVs_three {h : Heap} {a b c : AV} {vals : List Value} (r : RelVs h g [a, b, c] vals) : ∃ v u w, vals = [v, u, w] ∧ RelV h g a v ∧ RelV h g b u ∧ RelV h g c w := by
 obtain ⟨v, r', rfl, h1, h2⟩ := r
 obtain ⟨u, w, rfl, h3, h4⟩ := relVs_two h2
 exact ⟨v, u, w, rfl, h1, h3, h4⟩
theorem relVs_append {h : Heap} {xs ys : List AV} {vs us : List Value} (r : RelVs h g xs vs) (q : RelVs h g ys us) : RelVs h g (xs ++ ys) (vs ++ us) := by
 induction xs generalizing vs with
 | nil => cases (show vs = [] from r); exact q
 | cons x xs ih => obtain ⟨v, r', rfl, h1, h2⟩ := r; exact ⟨v, _, rfl, h1, ih h2⟩
theorem rvL {h : Heap} {xs : List AV} {vs : List Value} (r : RelVs h g xs vs) : vs.length = xs.length := by
 induction xs generalizing vs with
 | nil => cases (show vs = [] from r); rfl
 | cons x xs ih => obtain ⟨v, r', rfl, h1, h2⟩ := r; exact congrArg Nat.succ (ih h2)
theorem relVs_get {h : Heap} {xs : List AV} {vs : List Value} {i : Nat} {x : AV} (r : RelVs h g xs vs) (e : xs[i]? = some x) : ∃ v, vs[i]? = some v ∧ RelV h g x v := by
 induction xs generalizing vs i with
 | nil => exact nO e
 | cons y xs ih =>
  obtain ⟨v, r', rfl, h1, h2⟩ := r
  cases i with
  | zero => exact ⟨v, rfl, Option.some.inj e ▸ h1⟩
  | succ i => exact ih (i := i) h2 e
theorem fn_is {f : Addr} {as : List AV} {r : (AV × List AObj) × List Nat} {P : Prop} (e : T.fn f as ob = some r) (k : ∀ p, T.fns.lookup f = some p → p as ob = some r → P) : P := by
 unfold Tab.fn at e
 cases h : T.fns.lookup f with
 | none => rw [h] at e; exact nO e
 | some p => rw [h] at e; exact k p h e
theorem fn_sound (TO : TabOk Y T d) {f : Addr} {as : List AV} {v : AV} {ob' : List AObj} {obs : List Nat} (e : T.fn f as ob = some ((v, ob'), obs)) (fit : Fits obs) (hD : Deep d A) (R : RS Y g L names loc ob s0 s) {vals : List Value} (rv : RelVs s.heap g as vals)
  {P : Result → Shared → Prop} (K : ∀ g' s' val, RS Y g' L names loc ob' s0 s' → Go (some L) g s.heap g' s'.heap → RelV s'.heap g' v val → P (.ok (.ret val)) s') :
  codeAny (model Y.prog Y.w) A (.call (.ref f) ⟨vals, []⟩) P s := by
 refine fn_is e fun p hp e => ?_
 refine codeAny_mono ((TO.fns f p hp).1 as ob v ob' obs e fit A g s0 s vals R.toRO rv hD) fun r s' h => ?_
 obtain ⟨g', val, rfl, R', go, r'⟩ := h
 exact K g' s' val (R.of_call R' go) go.some r'
theorem fn_keep (TO : TabOk Y T d) (O : Y.Ok) {f : Addr} {as : List AV} {v : AV} {ob' : List AObj} {obs : List Nat} (e : T.fn f as ob = some ((v, ob'), obs)) {h : Heap} (k : ∀ b o, Y.hb.get? b = some o → h.get? b = some o) : KeepH (.ref f) h := by
 refine fn_is e fun p hp e => ?_
 exact fun M => keeps_K (TO.fns f p hp).2 h (O.X.keeps k)
theorem RO.noSys (O : Y.Ok) (R : RO Y g ob s0 s) {a : Addr} {i : Nat} (h : g.own a = .mine i) : (a == sysModules) = false := by
 obtain ⟨o, e⟩ := O.sysm
 rw [beq_eq_false_iff_ne]
 intro q
 have := R.base sysModules o e
 rw [← q, h] at this; cases this
theorem valueAt_cons {κ : Type} [DecidableEq κ] {a k : κ} {v : Value} {r : List (κ × Value)} : valueAt ((a, v) :: r) k = if a = k then some v else valueAt r k := by
 unfold valueAt
 rw [List.find?_cons]
 by_cases q : a = k
 ·rw [decide_eq_true q, if_pos q]; rfl
 ·rw [decide_eq_false q, if_neg q]
theorem relKs_val {κ κ' : Type} [DecidableEq κ] [DecidableEq κ'] {f : κ → κ'} (inj : ∀ {a b}, f a = f b → a = b) {h : Heap} {k : κ} {lk : List (κ × AV) → Option AV} (l0 : lk [] = none) (l1 : ∀ x r, lk (x :: r) = if x.1 = k then some x.2 else lk r) {es : List (κ × AV)} {kvs : List (κ' × Value)} (r : RelKs h g f es kvs) :
  (∀ a, lk es = some a → ∃ v, valueAt kvs (f k) = some v ∧ RelV h g a v) ∧ (lk es = none → valueAt kvs (f k) = none) := by
 induction es generalizing kvs with
 | nil => cases (show kvs = [] from r); exact ⟨fun _ e => (nomatch l0.symm.trans e), fun _ => rfl⟩
 | cons x es ih =>
  obtain ⟨v, r', rfl, h1, h2⟩ := r
  rw [valueAt_cons, l1]
  by_cases q : x.1 = k
  ·rw [if_pos q, if_pos (congrArg f q)]
   exact ⟨fun a e => ⟨v, rfl, Option.some.inj e ▸ h1⟩, fun e => some_no e⟩
  ·rw [if_neg q, if_neg fun z => q (inj z)]
   exact ih h2
theorem relKs_int {h : Heap} {k : Int} {es : List (Int × AV)} {kvs : List (Int × Value)} : RelKs h g id es kvs → (∀ a, lookI k es = some a → ∃ v, valueAt kvs k = some v ∧ RelV h g a v) ∧ (lookI k es = none → valueAt kvs k = none) := relKs_val id rfl fun _ _ => rfl
theorem relKs_str {h : Heap} {k : List Nat} {es : List (List Nat × AV)} {kvs : List (Str × Value)} : RelKs h g sOf es kvs → (∀ a, look1 k es = some a → ∃ v, valueAt kvs (sOf k) = some v ∧ RelV h g a v) ∧ (look1 k es = none → valueAt kvs (sOf k) = none) := relKs_val sOf_inj.mp rfl fun _ _ => rfl
theorem strsOf_rel {h : Heap} : ∀ {xs : List AV} {vs : List Value} {ts : List (List Nat)}, strsOf xs = some ts → RelVs h g xs vs → ∃ l : List (Str × Tok), vs = strValues l ∧ l.map (·.1) = ts.map sOf := by
 intro xs
 induction xs with
 | nil => intro vs ts e r; cases e; subst r; exact ⟨[], rfl, rfl⟩
 | cons x xs ih =>
  intro vs ts e r
  refine gath_is e fun s t h1 h2 q => ?_
  subst q
  rw [asStr_is h1] at r
  obtain ⟨v, r', rfl, h3, h4⟩ := r
  obtain ⟨tk, rfl⟩ := h3
  obtain ⟨l, rfl, hl⟩ := ih h2 h4
  exact ⟨(sOf s, tk) :: l, rfl, by rw [List.map_cons, hl, List.map_cons]⟩
theorem ends_at {b : Int} {n : Nat} (h0 : 0 ≤ b) (h1 : b ≤ n) : min (max 0 (if b < 0 then b + n else b)).toNat n = b.toNat := by
 rw [if_neg (Int.not_lt.mpr h0), Int.max_eq_right h0]
 exact Nat.min_eq_left (Int.toNat_le.mpr h1)
theorem gives_count4 (x y : Str) (b : Int) (t u v w : Tok) (h0 : 0 ≤ b) (h1 : b ≤ x.length) : Gives (Builtin.«str.count» ⟨[.str x t, .str y u, .int 0 v, .int b w], []⟩) (.int (Builtin.Str.occurrences x y 0 b.toNat (x.length + 1)).length) := by
 show Gives (PySem.retInt (Builtin.Str.occurrences x y (max 0 (0 : Int)).toNat (min (max 0 (if b < 0 then b + x.length else b)).toNat x.length) (x.length + 1)).length) _
 rw [ends_at h0 h1]
 exact .of_eq rfl
theorem gives_rfind4 (x y : Str) (b : Int) (t u v w : Tok) (h0 : 0 ≤ b) (h1 : b ≤ x.length) : Gives (Builtin.«str.rfind» ⟨[.str x t, .str y u, .int 0 v, .int b w], []⟩) (.int (match Builtin.Str.lastOccurrence x y 0 b.toNat with | some i => (i : Int) | none => -1)) := by
 show Gives (match Builtin.Str.lastOccurrence x y (max 0 (0 : Int)).toNat (min (max 0 (if b < 0 then b + x.length else b)).toNat x.length) with | some i => PySem.retInt i | none => (do rule "str.rfind.not-found"; PySem.retInt (-1))) _
 rw [ends_at h0 h1]
 show Gives (match Builtin.Str.lastOccurrence x y 0 b.toNat with | some i => PySem.retInt i | none => (do rule "str.rfind.not-found"; PySem.retInt (-1))) _
 cases Builtin.Str.lastOccurrence x y 0 b.toNat with
 | none => exact .rule (.of_eq rfl)
 | some i => exact .of_eq rfl
theorem glued_flat (ts : List (List Nat)) : Builtin.Str.glued (sOf []) (ts.map sOf) = sOf ts.flatten := by
 have key : ∀ (l : List (List Nat)) (acc : Array Nat), (l.map sOf).foldl (fun acc p => acc ++ (sOf []).cps ++ p.cps) acc = acc ++ l.flatten.toArray := by
  intro l
  induction l with
  | nil => intro acc; simp
  | cons a r ih =>
   intro acc
   rw [List.map_cons, List.foldl_cons, ih, List.flatten_cons]
   simp
 cases ts with
 | nil => rfl
 | cons a r =>
  show Str.mk (((r.map sOf)).foldl _ (sOf a).cps) = _
  rw [key, List.flatten_cons]
  simp
theorem sum_flat (ts : List (List Nat)) : (ts.map sOf).toArray.foldl (fun a (p : Str) => a + p.length + (sOf []).length) 0 = ts.flatten.length := by
 have key : ∀ (l : List (List Nat)) (n : Nat), (l.map sOf).foldl (fun a (p : Str) => a + p.length + (sOf []).length) n = n + l.flatten.length := by
  intro l
  induction l with
  | nil => intro n; simp
  | cons a r ih =>
   intro n
   rw [List.map_cons, List.foldl_cons, ih, List.flatten_cons, List.length_append]
   simp [Str.length]; exact Nat.add_assoc n a.length (List.map List.length r).sum
 rw [List.foldl_toArray, key, Nat.zero_add]
theorem int_here {i : Int} (R : RS Y g L names loc ob s0 s) {Q : Value → Shared → Prop} (K : Then Y names L loc s0 g s (.int i) ob Q) : Q (.int i s.toks) { s with toks := s.toks + 1 } :=
 K g _ _ (R.toks _) (Go.refl _ _ _) (by exact ⟨_, rfl⟩)
theorem m_append {i : Nat} {a : AV} {ax : Addr} {xs : List AV} {w : Value} (ho : ob[i]? = some (.list xs)) (h1 : g.ρ[i]? = some ax) (hfit : xs.length ≤ sizeLine) (rw' : RelV s.heap g a w) (R : RS Y g L names loc ob s0 s) {Q : Value → Shared → Prop} (K : Then Y names L loc s0 g s .none (ob.set i (.list (xs ++ [a]))) Q) :
  wpAny (model Y.prog Y.w) A (call (.builtin "list.append") [.ref ax, w]) Q E s := by
 refine list_mine (R.rel i _ ho) h1 fun vs n h2 h3 h4 => ?_
 refine append_at (n := n) h3 (fun h' hs hg => ?_) (by rw [List.size_toArray, rvL h4]; exact hfit)
 have kk : ∀ b o, s.heap.get? b = some o → g.own b ≠ .mine i → h'.get? b = some o := fun b o q nm => (hs.2 b fun z => nm (by rw [z]; exact h2)).trans q
 have go : Go (some L) g s.heap g h' := Go.upd kk
 refine K g { s with heap := h' } .none (R.upd (t := s.toks) kk (live_but hs ⟨_, hg⟩) ?_) go (by rfl)
 refine ⟨ax, vs ++ [w], n + 1, h1, h2, by rw [hg]; simp [lstObj], relVs_append (h4.go go.ext R.lok) ?_⟩
 exact ⟨w, [], rfl, rw'.go go.ext R.lok, by rfl⟩
theorem m_get (O : Y.Ok) {i : Nat} {k : Int} {tk : Tok} {dv : AV} {ax : Addr} {es : List (Int × AV)} {u : Value} (ho : ob[i]? = some (.idict es)) (h1 : g.ρ[i]? = some ax) (r2 : RelV s.heap g dv u) (R : RS Y g L names loc ob s0 s) {Q : Value → Shared → Prop} (K : Then Y names L loc s0 g s ((lookI k es).getD dv) ob Q) :
  wpAny (model Y.prog Y.w) A (call (.builtin "dict.get") [.ref ax, .int k tk, u]) Q E s := by
 refine idict_mine (R.rel i _ ho) h1 fun kvs h2 h3 h4 => ?_
 have q := relKs_int (k := k) h4
 refine call_meetsIn PySem.F.slot_dict_get h3.typeIs PySem.F.entry_dict_get (PySem.F.args_dict_get_3 _ _ _) (meets_dict_get_default (intKind Y.prog Y.w) ax (intKind_is Y.prog Y.w k tk) (R.noSys O h2) u) ⟨_, h3.mapOf, ?_⟩
 refine K g _ _ (R.toks _) (Go.refl _ _ _) ?_
 cases hl : lookI k es with
 | some a =>
  obtain ⟨w, w1, w2⟩ := q.1 a hl
  rw [w1]; exact w2
 | none => rw [q.2 hl]; exact r2
theorem m_join {i : Nat} {t : Tok} {ax : Addr} {xs : List AV} {ts : List (List Nat)} (ho : ob[i]? = some (.list xs)) (h1 : g.ρ[i]? = some ax) (hts : strsOf xs = some ts) (hfit : ts.flatten.length ≤ sizeLine) (R : RS Y g L names loc ob s0 s) {Q : Value → Shared → Prop} (K : Then Y names L loc s0 g s (.str ts.flatten) ob Q) :
  wpAny (model Y.prog Y.w) A (call (.builtin "str.join") [.str (sOf []) t, .ref ax]) Q E s := by
 refine list_mine (R.rel i _ ho) h1 fun vs n h2 h3 h4 => ?_
 obtain ⟨l, rfl, hl⟩ := strsOf_rel hts h4
 refine call_meets PySem.F.slot_str_join (typeIs_str _ _ _) PySem.F.entry_str_join (PySem.F.args_str_join_2 _ _) (meets_str_join_list (sOf []) t ax l ?_) ⟨⟨_, h3, rfl, n, rfl⟩, ?_⟩
 ·rw [hl]
  have := sum_flat ts
  simp only [this]
  exact decide_eq_false (Nat.not_lt.mpr hfit)
 ·have hg := glued_flat ts
  rw [← hl] at hg
  have big : (Made.str (sOf ts.flatten)).post (fun v s' => Q v s') s := ⟨by simpa [Str.length] using hfit, K g _ _ (R.toks _) (Go.refl _ _ _) (by exact ⟨_, rfl⟩)⟩
  unfold joinMade
  split
  ·rename_i p
   have e1 : p.1 = sOf ts.flatten := by
    rw [← hg]; simp [Builtin.Str.glued]
   show Q (.str p.1 p.2) s
   rw [e1]
   exact K g _ _ R (Go.refl _ _ _) (by exact ⟨_, rfl⟩)
  ·rw [hg]; exact big
theorem callM_sound (O : Y.Ok) (TO : TabOk Y T d) {m : MT} {as : List AV} {v : AV} {ob' : List AObj} {obs : List Nat} (e : callM T m as ob = some ((v, ob'), obs)) (fit : Fits obs) (hD : Deep d A) {fv : Value} {first vals : List Value}
  (R : RS Y g L names loc ob s0 s) (mr : MRel s.heap g m fv first) (rv : RelVs s.heap g as vals) {Q : Value → Shared → Prop} (K : Then Y names L loc s0 g s v ob' Q) :
  KeepH fv s.heap ∧ wpAny (model Y.prog Y.w) A (call fv (first ++ vals)) Q E s := by
 cases m with
 | fn f self =>
  obtain ⟨rfl, sv, rfl, h1⟩ := mr
  exact ⟨fn_keep TO O e R.keep, wpAny_call (fn_sound TO e fit hD R (vals := sv :: vals) (by exact ⟨sv, vals, rfl, h1, rv⟩) K)⟩
 | bm f i =>
  obtain ⟨q, x, rfl, rfl, h1, h2, h3⟩ := mr
  exact cond_is e fun hb e => ⟨fun M => keeps_M (TO.bms f hb) _ ⟨h3, R.KIn O⟩, wpAny_call (method_call h3 (fn_sound TO e fit hD R (vals := .ref x :: vals) (by exact ⟨_, vals, rfl, by exact ⟨x, h1, rfl⟩, rv⟩) K))⟩
 | append i =>
  obtain ⟨rfl, ax, rfl, h1⟩ := mr
  refine ⟨.builtin _ _, one_is e fun a ha e => onList_is e fun xs ho e' => ?_⟩
  subst ha
  cases e'
  obtain ⟨w, rfl, rw'⟩ := relVs_one rv
  exact m_append ho h1 (fit _ (List.mem_cons_self ..)) rw' R K
 | get i =>
  obtain ⟨rfl, ax, rfl, h1⟩ := mr
  refine ⟨.builtin _ _, two_is' e fun x dv ha e => oSi e fun k hk e => onIdict_is e fun es ho e' => ?_⟩
  subst ha
  replace hk := asInt_is hk
  subst hk
  replace K := fT e' K
  obtain ⟨w, u, rfl, r1, r2⟩ := relVs_two rv
  obtain ⟨tk, rfl⟩ := r1
  exact m_get O ho h1 r2 R K
 | join s' =>
  obtain ⟨rfl, t, rfl⟩ := mr
  refine ⟨.builtin _ _, ?_⟩
  cases s' with
  | cons _ _ => exact nO e
  | nil =>
  refine one_is e fun a ha e => oSi e fun i hi e => onList_is e fun xs ho e => oSi e fun ts hts e' => ?_
  subst ha
  replace hi := asRef_is hi
  subst hi
  cases e'
  obtain ⟨w, rfl, rw'⟩ := relVs_one rv
  obtain ⟨ax, h1, rfl⟩ := rvR rw'
  exact m_join ho h1 hts (fit _ (List.mem_cons_self ..)) R K
 | count s' =>
  obtain ⟨rfl, t, rfl⟩ := mr
  refine ⟨.builtin _ _, seekK_is e fun c b ha hb e' => ?_⟩
  subst ha
  replace K := fT e' K
  obtain ⟨w, u, z, rfl, r1, r2, r3⟩ := relVs_three rv
  obtain ⟨t1, rfl⟩ := r1
  obtain ⟨t2, rfl⟩ := r2
  obtain ⟨t3, rfl⟩ := r3
  exact call_gives PySem.F.slot_str_count (typeIs_str _ _ _) PySem.F.entry_str_count (PySem.F.args_str_count_4 _ _ _ _) (gives_count4 _ _ b t t1 t2 t3 hb.1 (by show b ≤ ((s'.toArray).size : Int); simpa using hb.2.1)) (by
   have := int_here R K
   simpa [Made.post, Str.length] using this)
 | rfind s' =>
  obtain ⟨rfl, t, rfl⟩ := mr
  refine ⟨.builtin _ _, seekK_is e fun c b ha hb e' => ?_⟩
  subst ha
  replace K := fT e' K
  obtain ⟨w, u, z, rfl, r1, r2, r3⟩ := relVs_three rv
  obtain ⟨t1, rfl⟩ := r1
  obtain ⟨t2, rfl⟩ := r2
  obtain ⟨t3, rfl⟩ := r3
  exact call_gives PySem.F.slot_str_rfind (typeIs_str _ _ _) PySem.F.entry_str_rfind (PySem.F.args_str_rfind_4 _ _ _ _) (gives_rfind4 _ _ b t t1 t2 t3 hb.1 (by show b ≤ ((s'.toArray).size : Int); simpa using hb.2.1)) (int_here R K)
 | index s' =>
  obtain ⟨rfl, t, rfl⟩ := mr
  refine ⟨.builtin _ _, one_is e fun a ha e => oneC_is e fun c hc e' => ?_⟩
  subst ha hc
  cases hoc : Builtin.Str.occurrences (sOf s') (sOf [c]) 0 s'.length 1 with
  | nil => rw [hoc] at e'; exact nO e'
  | cons i rest =>
  rw [hoc] at e'
  replace K := fT (w := .int (i : Nat)) e' K
  obtain ⟨w, rfl, r1⟩ := relVs_one rv
  obtain ⟨t1, rfl⟩ := r1
  exact SC.index (i := i) (rest := rest) (by rw [← hoc]; simp [Str.length]) (int_here R K)
end
section
variable {Y : Sys} {T : Tab} {d : Nat} {names : List (Str × NameKind)} {L : Addr} {loc : Loc} {ob : List AObj} {s0 s : Shared} {g : G} {A : Around} {E : Value → Shared → Prop}
theorem relV_none {h : Heap} {v : Value} (r : RelV h g .none v) : v = .none := by exact r
theorem relV_bool {h : Heap} {v : Value} {b : Bool} (r : RelV h g (.bool b) v) : v = .bool b := by exact r
theorem rvI {h : Heap} {v : Value} {i : Int} (r : RelV h g (.int i) v) : ∃ t, v = .int i t := by exact r
theorem rvS {h : Heap} {v : Value} {x : List Nat} (r : RelV h g (.str x) v) : ∃ t, v = .str (sOf x) t := by exact r
theorem relV_val {h : Heap} {v w : Value} (r : RelV h g (.val w) v) : v = w := by exact r
theorem sOf_len (x : List Nat) : (sOf x).length = x.length := by simp [Str.length]
theorem sOf_app (x y : List Nat) : sOf x ++ sOf y = sOf (x ++ y) := by
 show Str.mk _ = _
 simp [sOf]
theorem str_here {x : List Nat} {t : Tok} (R : RS Y g L names loc ob s0 s) {Q : Value → Shared → Prop} (K : Then Y names L loc s0 g s (.str x) ob Q) : Q (.str (sOf x) t) s :=
 K g _ _ R (Go.refl _ _ _) (by exact ⟨_, rfl⟩)
theorem str_next {x : List Nat} (R : RS Y g L names loc ob s0 s) {Q : Value → Shared → Prop} (K : Then Y names L loc s0 g s (.str x) ob Q) : Q (.str (sOf x) s.toks) { s with toks := s.toks + 1 } :=
 K g _ _ (R.toks _) (Go.refl _ _ _) (by exact ⟨_, rfl⟩)
theorem bool_here {b : Bool} (R : RS Y g L names loc ob s0 s) {Q : Value → Shared → Prop} (K : Then Y names L loc s0 g s (.bool b) ob Q) : Q (.bool b) s :=
 K g _ _ R (Go.refl _ _ _) (by rfl)
theorem noMeth_bool : typeLookup (.type "method") "__bool__" = pure none := by rw [typeLookup_type, builtinLookup_eq_fast]; kernel_rfl
theorem noMeth_len : typeLookup (.type "method") "__len__" = pure none := by rw [typeLookup_type, builtinLookup_eq_fast]; kernel_rfl
theorem line63 {n : Nat} (h : n ≤ sizeLine) : (n : Int) < 2 ^ 63 := by rw [sizeLine_eq] at h; omega
theorem truth_sound {v : AV} {val : Value} {b : Bool} {obs : List Nat} (e : truth v ob = some (b, obs)) (fit : Fits obs) (r : RelV s.heap g v val) (R : RS Y g L names loc ob s0 s) {Q : Bool → Shared → Prop} (K : ThenB Y names L loc s0 g s b ob Q) :
  wpAny (model Y.prog Y.w) A (truthy val) Q E s := by
 cases v with
 | none => cases e; rw [relV_none r]; exact wpAny_pure (K g s R (Go.refl _ _ _))
 | bool _ => cases e; rw [relV_bool r]; exact wpAny_pure (K g s R (Go.refl _ _ _))
 | int i =>
  cases e
  obtain ⟨t, rfl⟩ := rvI r
  refine P.truthy_int ?_
  have : (i != 0) = decide (i ≠ 0) := by
   by_cases h : i = 0 <;> simp [h]
  rw [this]
  exact K g s R (Go.refl _ _ _)
 | str x =>
  cases e
  obtain ⟨t, rfl⟩ := rvS r
  have h := fit _ (List.mem_cons_self ..)
  refine P.truthy_str (by rw [sOf_len]; have := line63 h; exact Int.not_le.mpr this) ?_
  have : (((sOf x).length : Int) != 0) = !x.isEmpty := by
   rw [sOf_len]
   cases x with
   | nil => rfl
   | cons a r => simp; exact bi_ine.mp rfl
  rw [this]
  exact K g _ (R.toks _) (Go.refl _ _ _)
 | meth f i =>
  cases e
  obtain ⟨a, y, rfl, h1, h2, h3⟩ := r
  have hT : s.TypeIs (.ref a) "method" := ⟨_, h3, rfl⟩
  refine wpAny_bind ?_
  unfold callSpecial?
  refine wpAny_bind (wpAny_specialOf hT noMeth_bool ?_)
  refine wpAny_pure ?_
  refine wpAny_bind (wpAny_specialOf hT noMeth_len ?_)
  exact wpAny_pure (K g s R (Go.refl _ _ _))
 | ref i =>
  refine onList_is e fun xs ho e' => ?_
  clear e
  cases e'
  obtain ⟨ax, h1, rfl⟩ := rvR r
  refine list_mine (R.rel i _ ho) h1 fun vs n h2 h3 h4 => ?_
  have h := fit _ (List.mem_cons_self ..)
  refine wpAny_truthy_list (items := vs.toArray) ⟨_, h3, rfl, n, rfl⟩ (by rw [List.size_toArray, rvL h4]; exact line63 h) ?_
  have : (!vs.toArray.isEmpty) = !xs.isEmpty := by
   have := rvL h4
   cases xs with
   | nil => rw [List.length_eq_zero_iff.mp this]; rfl
   | cons a r =>
    cases vs with
    | nil => cases this
    | cons b t => rfl
  rw [this]
  exact K g _ (R.toks _) (Go.refl _ _ _)
 | _ => exact nO e
theorem mulOk {a b : Int} (h : a.natAbs < 2 ^ 40) : IntMulOk a b := .of_left (intBits_le_64 (by omega) (by omega))
theorem add_post {x y : List Nat} {t u : Tok} (h : (x ++ y).length ≤ sizeLine) (R : RS Y g L names loc ob s0 s) {Q : Value → Shared → Prop} (K : Then Y names L loc s0 g s (.str (x ++ y)) ob Q) :
  (if (sOf x).length == 0 then Made.val (.str (sOf y) u) else if (sOf y).length == 0 then Made.val (.str (sOf x) t) else Made.str (sOf x ++ sOf y)).post Q s := by
 rw [sOf_len, sOf_len]
 split
 ·rename_i q
  have : x = [] := by simpa using q
  subst this
  exact str_here R K
 split
 ·rename_i q
  have : y = [] := by simpa using q
  subst this
  rw [List.append_nil] at K
  exact str_here R K
 ·rw [sOf_app]
  exact ⟨by rw [sOf_len]; exact h, str_next R K⟩
theorem fineV {z w : AV} {l : List Nat} {Q : Value → Shared → Prop} (e : fine w = some (z, l)) (K : Then Y names L loc s0 g s z ob Q) : Then Y names L loc s0 g s w ob Q := by cases e; exact K
theorem nz {b : Int} (h : 0 < b ∧ b < 2 ^ 20) : b ≠ 0 := fun q => by rw [q] at h; exact absurd h.1 (Int.lt_irrefl 0)
theorem binS_sound {op : Op} {o : Operator} (ok : okOp op o = true) {x y z : AV} {u v : Value} {obs : List Nat} (e : binS op x y = some (z, obs)) (fit : Fits obs) (rx : RelV s.heap g x u) (ry : RelV s.heap g y v) (R : RS Y g L names loc ob s0 s) {Q : Value → Shared → Prop} (K : Then Y names L loc s0 g s z ob Q) :
  wpAny (model Y.prog Y.w) A (binaryOp o u v) Q E s ∧ wpAny (model Y.prog Y.w) A (inplaceOp o u v) Q E s := by
 cases op with
 | add =>
  cases o with
  | Add =>
   cases hx : asInt x with
   | some _ =>
    replace e : int2 x y (fun a b => fine (.int (a + b))) = some (z, obs) := (show binS .add x y = _ by unfold binS; dsimp only; rw [hx]).symm.trans e
    refine int2_is e fun a b h1 h2 e' => ?_
    clear e hx
    subst h1 h2
    replace K := fineV e' K
    obtain ⟨t, rfl⟩ := rvI rx
    obtain ⟨t', rfl⟩ := rvI ry
    exact ⟨P.add_int (int_here R K), P.iadd_int (int_here R K)⟩
   | none =>
    replace e : str2 x y (fun a b => some (.str (a ++ b), [(a ++ b).length])) = some (z, obs) := (show binS .add x y = _ by unfold binS; dsimp only; rw [hx]).symm.trans e
    refine str2_is e fun a b h1 h2 e' => ?_
    clear e hx
    subst h1 h2
    cases e'
    obtain ⟨t, rfl⟩ := rvS rx
    obtain ⟨t', rfl⟩ := rvS ry
    have h := fit _ (List.mem_cons_self ..)
    exact ⟨P.add_str (add_post h R K), P.iadd_str (add_post h R K)⟩
  | _ => exact nt ok
 | sub =>
  cases o with
  | Sub =>
   refine int2_is e fun a b h1 h2 e' => ?_
   clear e
   subst h1 h2
   replace K := fineV e' K
   obtain ⟨t, rfl⟩ := rvI rx
   obtain ⟨t', rfl⟩ := rvI ry
   exact ⟨P.sub_int (int_here R K), P.isub_int (int_here R K)⟩
  | _ => exact nt ok
 | mul =>
  cases o with
  | Mult =>
   refine int2_is e fun a b h1 h2 e' => ite_is e' fun h e' => ?_
   clear e
   subst h1 h2
   replace K := fineV e' K
   obtain ⟨t, rfl⟩ := rvI rx
   obtain ⟨t', rfl⟩ := rvI ry
   exact ⟨P.mul_int (int_here R K) (mulOk h.1), P.imul_int (int_here R K) (mulOk h.1)⟩
  | _ => exact nt ok
 | fdiv =>
  cases o with
  | FloorDiv =>
   refine int2_is e fun a b h1 h2 e' => ite_is e' fun h e' => ?_
   clear e
   subst h1 h2
   replace K := fineV e' K
   obtain ⟨t, rfl⟩ := rvI rx
   obtain ⟨t', rfl⟩ := rvI ry
   exact ⟨floordiv_int (nz h) (int_here R K) (.inl (PyProof.noPylong_small (by omega))), ifloordiv_int (nz h) (int_here R K) (.inl (PyProof.noPylong_small (by omega)))⟩
  | _ => exact nt ok
 | mod =>
  cases o with
  | Mod =>
   refine int2_is e fun a b h1 h2 e' => ite_is e' fun h e' => ?_
   clear e
   subst h1 h2
   replace K := fineV e' K
   obtain ⟨t, rfl⟩ := rvI rx
   obtain ⟨t', rfl⟩ := rvI ry
   exact ⟨mod_int' (nz h) (int_here R K), imod_int (nz h) (int_here R K)⟩
  | _ => exact nt ok
theorem len_sound {x : AV} {w : Value} {v : AV} {ob' : List AObj} {obs : List Nat} (e : lenK x ob = some ((v, ob'), obs)) (fit : Fits obs) (rw' : RelV s.heap g x w) (R : RS Y g L names loc ob s0 s) {Q : Value → Shared → Prop} (K : Then Y names L loc s0 g s v ob' Q) :
  wpAny (model Y.prog Y.w) A (call (.builtin "len") [w] []) Q E s := by
 cases x with
 | str x =>
  cases e
  obtain ⟨t, rfl⟩ := rvS rw'
  have h := fit _ (List.mem_cons_self ..)
  refine P.len_str (by rw [sOf_len]; have := line63 h; exact Int.not_le.mpr this) ?_
  rw [sOf_len]
  exact K g _ _ (R.toks _) (Go.refl _ _ _) (by exact ⟨_, rfl⟩)
 | ref i =>
  refine onList_is e fun xs ho e' => ?_
  clear e
  cases e'
  obtain ⟨ax, h1, rfl⟩ := rvR rw'
  refine list_mine (R.rel i _ ho) h1 fun vs n h2 h3 h4 => ?_
  have h := fit _ (List.mem_cons_self ..)
  refine Calls.call_len_list (items := vs.toArray) ⟨_, h3, rfl, n, rfl⟩ (by rw [List.size_toArray, rvL h4]; exact line63 h) ?_
  rw [List.size_toArray, rvL h4]
  exact K g _ _ (R.toks _) (Go.refl _ _ _) (by exact ⟨_, rfl⟩)
 | _ => exact nO e
theorem blt_sound {n : String} {x : AV} {w : Value} {v : AV} {ob' : List AObj} {obs : List Nat} (e : (if n = "len" then lenK x ob else if n = "ord" then oneC x fun c => fine (.int c, ob) else if n = "chr" then onSome (asInt x) fun k => if 0 ≤ k ∧ k < 1114112 then fine (.str [k.toNat], ob) else none else none) = some ((v, ob'), obs))
  (fit : Fits obs) (rw' : RelV s.heap g x w) (R : RS Y g L names loc ob s0 s) {Q : Value → Shared → Prop} (K : Then Y names L loc s0 g s v ob' Q) :
  wpAny (model Y.prog Y.w) A (call (.builtin n) [w] []) Q E s := by
 by_cases h1 : n = "len"
 ·rw [if_pos h1] at e
  subst h1
  exact len_sound e fit rw' R K
 rw [if_neg h1] at e
 by_cases h2 : n = "ord"
 ·rw [if_pos h2] at e
  subst h2
  refine oneC_is e fun c hc e' => ?_
  clear e
  subst hc
  replace K := fT e' K
  obtain ⟨t, rfl⟩ := rvS rw'
  exact P.ord_of_char (int_here R K)
 rw [if_neg h2] at e
 refine ite_is e fun h3 e' => oSi e' fun k hk e' => ite_is e' fun hk' e2 => ?_
 clear e h1 h2
 subst h3
 replace hk := asInt_is hk
 subst hk
 replace K := fT e2 K
 obtain ⟨t, rfl⟩ := rvI rw'
 exact chr_of_range hk'.1 (by omega) (str_next R K)
theorem callF_sound (O : Y.Ok) (TO : TabOk Y T d) {f : AV} {as : List AV} {v : AV} {ob' : List AObj} {obs : List Nat} (e : callF T f as ob = some ((v, ob'), obs)) (fit : Fits obs) (hD : Deep d A) {fv : Value} {vals : List Value}
  (R : RS Y g L names loc ob s0 s) (rf : RelV s.heap g f fv) (rv : RelVs s.heap g as vals) {Q : Value → Shared → Prop} (K : Then Y names L loc s0 g s v ob' Q) :
  KeepH fv s.heap ∧ wpAny (model Y.prog Y.w) A (call fv ([] ++ vals)) Q E s := by
 cases f with
 | val f =>
  rw [relV_val rf]
  refine orK_is e (fun _ e' => oSi e' fun n hn e' => one_is e' fun x hx e' => ?_) (fun a ha e' => ?_)
  ·rw [bltOf_is hn]
   subst hx
   obtain ⟨w, rfl, rw'⟩ := relVs_one rv
   exact ⟨.builtin _ _, blt_sound e' fit rw' R K⟩
  ·rw [refOf_is ha]
   exact ⟨fn_keep TO O e' R.keep, wpAny_call (fn_sound TO e' fit hD R rv K)⟩
 | _ => exact nO e
end
theorem place_seq {k : Int} {n j : Nat} (h : place k n = some j) : seqIndex? k n = some j ∧ j < n := by
 unfold place at h
 unfold seqIndex?
 by_cases h0 : 0 ≤ k
 ·rw [if_pos h0] at h
  refine ite_is h fun h1 h => ?_
  rw [← Option.some.inj h]
  have h2 : ¬ k < 0 := Int.not_lt.mpr h0
  simp only [h2, if_false]
  exact ⟨by rw [if_pos (by simp; exact And.symm ⟨h1, h0⟩)], by exact (Int.toNat_lt h0).mpr h1⟩
 ·rw [if_neg h0] at h
  refine ite_is h fun h1 h => ?_
  rw [← Option.some.inj h]
  have h2 : k < 0 := Int.not_le.mp h0
  simp only [h2, if_true]
  exact ⟨by rw [if_pos (by simp; lia)], by lia⟩
theorem sliceBounds_eq (lo hi : Option Int) (n : Nat) : sliceBounds lo hi none n = ((loA lo n : Int), (hiA hi n : Int), 1) := by
 have c : ∀ k : Int, max 0 (min (if k < 0 then k + n else k) n) = ((clampI k n : Nat) : Int) := by
  intro k
  unfold clampI
  by_cases h : k < 0
  ·rw [if_pos h, if_pos h, Int.min_eq_left (Int.le_trans (Int.add_le_add_right (Int.le_of_lt h) _) (Int.le_of_eq (Int.zero_add _))), Int.ofNat_toNat, Int.max_comm]
  ·rw [if_neg h, if_neg h]
   obtain ⟨m, rfl⟩ := Int.eq_ofNat_of_zero_le (Int.not_lt.mp h)
   rcases Nat.le_total m n with q | q
   ·rw [Int.toNat_natCast, Nat.min_eq_left q, Int.min_eq_left (Int.ofNat_le.mpr q), Int.max_eq_right (Int.natCast_nonneg m)]
   ·rw [Int.toNat_natCast, Nat.min_eq_right q, Int.min_eq_right (Int.ofNat_le.mpr q), Int.max_eq_right (Int.natCast_nonneg n)]
 unfold sliceBounds loA hiA
 simp only [Option.getD_none, show (1 : Int) > 0 by decide, if_true]
 cases lo <;> cases hi <;> simp [c]
theorem hiA_le (hi : Option Int) (n : Nat) : hiA hi n ≤ n := by
 unfold hiA
 cases hi with
 | none => exact Nat.le_refl _
 | some k =>
  show clampI k n ≤ _; unfold clampI; split
  ·rename_i h; exact Int.toNat_le.mpr (Int.le_trans (Int.add_le_add_right (Int.le_of_lt h) _) (Int.le_of_eq (Int.zero_add _)))
  ·exact Nat.min_le_right ..
theorem slicePick_eq (l : List Value) (lo hi : Option Int) : slicePick l.toArray lo hi none = (sliceL l lo hi).toArray := by
 unfold slicePick
 rw [List.size_toArray, sliceBounds_eq]
 simp only [sliceRange_one, pick_run]
 unfold sliceL
 congr 1
 simp only [List.drop_take]
theorem slicePicked_bounds (x : List Nat) (l u : Option (Int × Tok)) : slicePicked (sOf x) l u none = (List.range (hiA (u.map (·.1)) x.length - loA (l.map (·.1)) x.length)).map (loA (l.map (·.1)) x.length + ·) := by
 have e : slicePicked (sOf x) l u none = sliceRange (sliceBounds (l.map (·.1)) (u.map (·.1)) none x.length).1 (sliceBounds (l.map (·.1)) (u.map (·.1)) none x.length).2.1 (sliceBounds (l.map (·.1)) (u.map (·.1)) none x.length).2.2 := by
  unfold slicePicked Builtin.Str.strSliceIndices sliceBounds
  cases l <;> cases u <;> simp [Str.length]
 rw [e, sliceBounds_eq]
 exact sliceRange_one _ _
theorem slicePicked_eq (x : List Nat) (l u : Option (Int × Tok)) : (slicePicked (sOf x) l u none).filterMap ((sOf x).cps[·]?) = sliceL x (l.map (·.1)) (u.map (·.1)) := by
 rw [slicePicked_bounds]
 rw [pick_run]
 unfold sliceL
 simp only [List.drop_take]
theorem filterMap_len {x : Array Nat} {l : List Nat} (h : ∀ i ∈ l, i < x.size) : (l.filterMap (x[·]?)).length = l.length := by
 induction l with
 | nil => rfl
 | cons a r ih =>
  rw [List.filterMap_cons_some (Array.getElem?_eq_getElem (h a (List.mem_cons_self ..)))]
  exact congrArg Nat.succ (ih fun i q => h i (List.mem_cons_of_mem _ q))
theorem sliceL_sub {α : Type} (x : List α) (lo hi : Option Int) : (sliceL x lo hi).length ≤ x.length := by
 unfold sliceL
 simp only [List.length_drop, List.length_take]
 lia
theorem sliceL_all {α : Type} (x : List α) (lo hi : Option Int) (h : (sliceL x lo hi).length = x.length) : sliceL x lo hi = x := by
 unfold sliceL at h ⊢
 simp only [List.length_drop, List.length_take] at h
 generalize loA lo x.length = a at h ⊢
 generalize hiA hi x.length = b at h ⊢
 cases x with
 | nil => simp
 | cons c r =>
  have ha : a = 0 := by simp only [List.length_cons] at h; lia
  subst ha
  rw [List.drop_zero, List.take_of_length_le (by lia)]
section
variable {Y : Sys} {T : Tab} {d : Nat} {names : List (Str × NameKind)} {L : Addr} {loc : Loc} {ob : List AObj} {s0 s : Shared} {g : G} {A : Around} {E : Value → Shared → Prop}
theorem relV_tup {h : Heap} {xs : List AV} {v : Value} (r : RelV h g (.tup xs) v) : ∃ a vs n, v = .ref a ∧ g.own a = .free ∧ h.get? a = some (tupObj vs n) ∧ RelVs h g xs vs := by unfold RelV at r; exact r
theorem sub_plain {slice : PySem.Expr} (h : isSliceE slice = false) (o i : Value) : subscripted slice false o i = operate [o, i] (getItem o i) := by
 cases slice with
 | Slice _ _ _ _ => exact nt h.symm
 | _ => rfl
theorem valueAt_map {prog : Program} {w : World} {κ : Type} [DecidableEq κ] {knd : KeyKind prog w κ} {h : Heap} {a : Addr} {kvs : List (κ × Value)} (x : h.DictOf knd a kvs) : h.MapOf knd a (valueAt kvs) := x.mapOf
theorem nthK_is {β : Type} {k : Int} {l : List β} {q : β → Option AV} {z : AV} {P : Prop} (h : nthK k l q = some z) (p : ∀ j a, place k l.length = some j → k < 2 ^ 62 ∧ -(2 ^ 62) < k → l[j]? = some a → q a = some z → P) : P :=
 ite_is h fun hk h => oSi h fun j hj h => oSi h fun a ha h => p j a hj hk ha h
noncomputable abbrev GetI (Y : Sys) (A : Around) (u v : Value) (Q : Value → Shared → Prop) (E : Value → Shared → Prop) (s : Shared) : Prop :=
 (∃ (TN id : String), s.TypeIs u TN ∧ typeLookup (.type TN) "__getitem__" = pure (some (.builtin id))) ∧ wpAny (model Y.prog Y.w) A (getItem u v) Q E s
theorem get_list {xs : List AV} {vs : List Value} {n : Nat} {k : Int} {t : Tok} {z : AV} {ax : Addr} (h3 : s.heap.get? ax = some (lstObj vs n)) (h4 : RelVs s.heap g xs vs) (hk : 0 ≤ k ∧ k < 2 ^ 62) (e : xs[k.toNat]? = some z) (R : RS Y g L names loc ob s0 s) {Q : Value → Shared → Prop} (K : Then Y names L loc s0 g s z ob Q) : GetI Y A (.ref ax) (.int k t) Q E s := by
 obtain ⟨w, h6, h7⟩ := relVs_get h4 e
 have hl : s.heap.IsList ax vs.toArray := ⟨_, h3, rfl, n, rfl⟩
 exact ⟨⟨_, _, hl.typeIs, slot_list_getitem.lookup⟩, wpAny_getItem_list hl hk.1 (by lia) (by simpa using h6) (K g _ _ R (Go.refl _ _ _) h7)⟩
theorem get_str {es : List (List Nat × AV)} {kvs : List (Str × Value)} {n : List Nat} {t : Tok} {z : AV} {ax : Addr} (h3 : s.heap.DictOf (strKind Y.prog Y.w) ax kvs) (h4 : RelKs s.heap g sOf es kvs) (e : look1 n es = some z) (R : RS Y g L names loc ob s0 s) {Q : Value → Shared → Prop} (K : Then Y names L loc s0 g s z ob Q) : GetI Y A (.ref ax) (.str (sOf n) t) Q E s := by
 obtain ⟨w, h5, h6⟩ := (relKs_str (k := n) h4).1 _ e
 exact ⟨⟨_, _, h3.typeIs, slot_dict_getitem.lookup⟩, wpAny_getItem_of (strKind_is Y.prog Y.w (sOf n) t) h3.mapOf h5 (K g _ _ (R.toks _) (Go.refl _ _ _) h6)⟩
theorem get_top (TO : TabOk Y T d) {a : Addr} {y z : AV} {v : Value} (e : (match y with
  | .str n => onSome (T.kstr.lookup a) fun es => look1 n es
  | .int k => orK (T.kint.lookup a) (fun es => lookI k es) (onSome (T.klst.lookup a) fun xs => if 0 ≤ k ∧ k < 2 ^ 62 then xs[k.toNat]? else none)
  | _ => none) = some z) (ry : RelV s.heap g y v) (R : RS Y g L names loc ob s0 s) {Q : Value → Shared → Prop} (K : Then Y names L loc s0 g s z ob Q) : GetI Y A (.ref a) v Q E s := by
 cases y with
 | str n =>
  refine oSi e fun es ho e' => ?_
  obtain ⟨t', rfl⟩ := rvS ry
  obtain ⟨kvs, h1, h2⟩ := TO.kstr _ _ ho
  exact get_str (h1.keep R.keep) (h2 _ _ R.keep R.base) e' R K
 | int k =>
  obtain ⟨t', rfl⟩ := rvI ry
  refine orK_is e (fun _ e' => oSi e' fun xs ho e' => ite_is e' fun hk e' => ?_) (fun es ho e' => ?_)
  ·obtain ⟨_, vs, n, h3, h4⟩ := TO.klst _ _ ho
   exact get_list (R.keep _ _ h3) (h4 _ _ R.keep R.base) hk e' R K
  ·obtain ⟨_, kvs, h1, h2⟩ := TO.kint _ _ ho
   have h3 := h1.keep R.keep
   obtain ⟨w, h5, h6⟩ := (relKs_int (k := k) (h2 _ _ R.keep R.base)).1 _ e'
   exact ⟨⟨_, _, h3.typeIs, slot_dict_getitem.lookup⟩, wpAny_getItem_of (intKind_is Y.prog Y.w k t') h3.mapOf h5 (K g _ _ (R.toks _) (Go.refl _ _ _) h6)⟩
 | _ => exact nO e
theorem getI_sound (O : Y.Ok) (TO : TabOk Y T d) {x y z : AV} {u v : Value} (e : subS T x y ob = some z) (rx : RelV s.heap g x u) (ry : RelV s.heap g y v) (R : RS Y g L names loc ob s0 s) {Q : Value → Shared → Prop} (K : Then Y names L loc s0 g s z ob Q) : GetI Y A u v Q E s := by
 cases x with
 | str x =>
  refine oSi e fun k hy e' => nthK_is e' fun j c hj hk hc e' => ?_
  replace hy := asInt_is hy
  subst hy
  cases e'
  obtain ⟨t, rfl⟩ := rvS rx
  obtain ⟨t', rfl⟩ := rvI ry
  obtain ⟨h1, h2⟩ := place_seq hj
  exact ⟨⟨_, _, typeIs_str _ _ _, F.slot_str_getitem.lookup⟩, P.getItem_str (c := c) (by simp; lia) (by rw [sOf_len, h1]; simpa using hc) (str_next R K)⟩
 | tup xs =>
  refine oSi e fun k hy e' => nthK_is e' fun j c hj hk hc e' => ?_
  replace hy := asInt_is hy
  subst hy
  cases e'
  obtain ⟨a, vs, n, rfl, h3, h4, h5⟩ := relV_tup rx
  obtain ⟨t', rfl⟩ := rvI ry
  obtain ⟨h1, h2⟩ := place_seq hj
  obtain ⟨w, h6, h7⟩ := relVs_get h5 hc
  have ht : IsTup s.heap a vs.toArray := ⟨_, h4, rfl, n, rfl⟩
  exact ⟨⟨_, _, ht.typeIs, slot_tuple_getitem.lookup⟩, PyProof.Rows.getItem_tuple ht (by lia) (by lia) (by rw [List.size_toArray, rvL h5]; exact h1) (by simpa using h6) (K g _ _ R (Go.refl _ _ _) h7)⟩
 | ref r =>
  obtain ⟨ax, h1, rfl⟩ := rvR rx
  cases y with
  | int k =>
   obtain ⟨t', rfl⟩ := rvI ry
   exact onList_is e fun xs ho e' => ite_is e' fun hk e' => list_mine (R.rel r _ ho) h1 fun vs n h2 h3 h4 => get_list h3 h4 hk e' R K
  | str n =>
   obtain ⟨t', rfl⟩ := rvS ry
   exact onDict_is e fun es ho e' => dict_mine (R.rel r _ ho) h1 fun kvs h2 h3 h4 => get_str h3 h4 e' R K
  | _ => exact nO e
 | val w =>
  rw [relV_val rx]
  refine oSi e fun a ha e' => ?_
  rw [refOf_is ha]
  exact get_top TO e' ry R K
 | _ => exact nO e
theorem subS_sound (O : Y.Ok) (TO : TabOk Y T d) {value slice : PySem.Expr} (hs : isSliceE slice = false) {x y z : AV} {u v : Value} (e : subS T x y ob = some z) (rx : RelV s.heap g x u) (ry : RelV s.heap g y v) (R : RS Y g L names loc ob s0 s) {Q : Value → Shared → Prop} (K : Then Y names L loc s0 g s z ob Q) :
  wpAny (model Y.prog Y.w) A (subscriptTail value slice u v) Q E s := by
 obtain ⟨⟨TN, id, h1, h2⟩, h3⟩ := getI_sound (E := E) (A := A) O TO e rx ry R K
 exact tail_any h1 h2 h3 (sub_plain hs u v)
theorem part_of {h : Heap} {x : AV} {v : Value} {l : Option Int} (e : intOf x = some l) (r : RelV h g x v) : ∃ p : Option (Int × Tok), v = partValue p ∧ p.map (·.1) = l ∧ IsPart v l := by
 cases x with
 | none => cases e; rw [relV_none r]; exact ⟨none, rfl, rfl, .none⟩
 | int i => cases e; obtain ⟨t, rfl⟩ := rvI r; exact ⟨some (i, t), rfl, rfl, .int i t⟩
 | _ => cases e
theorem relVs_take {h : Heap} : ∀ (n : Nat) {xs : List AV} {vs : List Value}, RelVs h g xs vs → RelVs h g (xs.take n) (vs.take n) := by
 intro n xs
 induction xs generalizing n with
 | nil => intro vs r; unfold RelVs at r; subst r; rw [List.take_nil, List.take_nil]; unfold RelVs; rfl
 | cons x xs ih =>
  intro vs r
  unfold RelVs at r
  obtain ⟨v, r', rfl, a, b⟩ := r
  cases n with
  | zero => unfold RelVs; rfl
  | succ n =>
   rw [List.take_succ_cons, List.take_succ_cons]
   unfold RelVs
   exact ⟨v, _, rfl, a, ih n b⟩
theorem relVs_drop {h : Heap} : ∀ (n : Nat) {xs : List AV} {vs : List Value}, RelVs h g xs vs → RelVs h g (xs.drop n) (vs.drop n) := by
 intro n
 induction n with
 | zero => intro xs vs r; exact r
 | succ n ih =>
  intro xs vs r
  cases xs with
  | nil => unfold RelVs at r; subst r; unfold RelVs; rfl
  | cons x xs =>
   unfold RelVs at r
   obtain ⟨v, r', rfl, a, b⟩ := r
   exact ih b
theorem slcStr {x : List Nat} {u : Value} {l h : Option Int} {vl vh : Value} (hfit : x.length ≤ sizeLine) (rx : RelV s.heap g (.str x) u) {p q : Option (Int × Tok)} (hl : vl = partValue p) (hh : vh = partValue q) (el : p.map (·.1) = l) (eh : q.map (·.1) = h)
  (R : RS Y g L names loc ob s0 s) {Q : Value → Shared → Prop} (K : Then Y names L loc s0 g s (.str (sliceL x l h)) ob Q) :
  (∃ (TN id : String), s.TypeIs u TN ∧ typeLookup (.type TN) "__getitem__" = pure (some (.builtin id))) ∧ wpAny (model Y.prog Y.w) A (getItem u (.ref s.heap.objs.size)) Q E { s with heap := s.heap.push { cls := .type "slice", data := .fields #[vl, vh, .none] } } := by
 obtain ⟨t, rfl⟩ := rvS rx
 refine ⟨⟨_, _, typeIs_str _ _ _, F.slot_str_getitem.lookup⟩, ?_⟩
 refine wpAny_getItem_str_slice (l := p) (u := q) (st := none) ⟨_, Heap.get?_push_size _ rfl, by rfl, by rw [hl, hh]; rfl⟩ rfl ?_
 unfold sliceMade
 have R' := R.push { cls := .type "slice", data := .fields #[vl, vh, .none] }
 have key := slicePicked_eq x p q
 rw [el, eh] at key
 split
 ·rename_i hc
  have hlen : (slicePicked (sOf x) p q none).length = x.length := by
   have := (Bool.and_eq_true_iff.mp hc).2
   rw [sOf_len] at this
   simpa using this
  have hall : sliceL x l h = x := by
   apply sliceL_all
   rw [← key, filterMap_len, hlen]
   intro i hi
   rw [slicePicked_bounds] at hi
   obtain ⟨k, hk, rfl⟩ := List.mem_map.mp hi
   have hk := List.mem_range.mp hk
   have hb := hiA_le (q.map (·.1)) x.length
   rw [List.size_toArray]
   lia
  rw [hall] at K
  exact K g _ _ R' (Go.push _) (by unfold RelV; exact ⟨t, rfl⟩)
 ·rw [key]
  refine ⟨?_, K g _ _ (R'.toks _) (Go.push _) (by unfold RelV; exact ⟨_, rfl⟩)⟩
  have := sliceL_sub x l h
  show ((sliceL x l h).toArray).size ≤ _
  rw [List.size_toArray]; exact Nat.le_trans this hfit
theorem slcList {r n : Nat} {ax : Addr} {vs : List Value} {xs : List AV} {l h : Option Int} {vl vh : Value} (hfit : xs.length ≤ sizeLine) (h1 : g.ρ[r]? = some ax) (h3 : s.heap.get? ax = some (lstObj vs n)) (h4 : RelVs s.heap g xs vs) (pl : IsPart vl l) (ph : IsPart vh h)
  (R : RS Y g L names loc ob s0 s) {Q : Value → Shared → Prop} (K : Then Y names L loc s0 g s (.ref ob.length) (ob ++ [.list (sliceL xs l h)]) Q) :
  (∃ (TN id : String), s.TypeIs (.ref ax) TN ∧ typeLookup (.type TN) "__getitem__" = pure (some (.builtin id))) ∧ wpAny (model Y.prog Y.w) A (getItem (.ref ax) (.ref s.heap.objs.size)) Q E { s with heap := s.heap.push { cls := .type "slice", data := .fields #[vl, vh, .none] } } := by
 have hl' : s.heap.IsList ax vs.toArray := ⟨_, h3, rfl, n, rfl⟩
 refine ⟨⟨_, _, hl'.typeIs, slot_list_getitem.lookup⟩, ?_⟩
 have hle := rvL h4
 refine wpAny_getItem_list_slice (lo := l) (hi := h) (st := none) (hl'.push _) ⟨_, Heap.get?_push_size _ rfl, rfl, rfl⟩ pl ph .none (by simp) ?_ (by rw [List.size_toArray, hle]; exact hfit)
 rw [slicePick_eq]
 have R' := R.push { cls := .type "slice", data := .fields #[vl, vh, .none] }
 have rs : RelVs (s.heap.push { cls := .type "slice", data := .fields #[vl, vh, .none] }) g (sliceL xs l h) (sliceL vs l h) := by
  have h5 := h4.go (Go.push (L := none) { cls := .type "slice", data := .fields #[vl, vh, .none] }).ext (LOk.none _)
  unfold sliceL
  rw [hle]
  exact relVs_drop _ (relVs_take _ h5)
 have ha : s.heap.objs.size ≤ s.heap.objs.size + 1 := Nat.le_succ _
 have kk : ∀ b o, s.heap.get? b = some o → ((s.heap.push { cls := .type "slice", data := .fields #[vl, vh, .none] }).push (lstObj (sliceL vs l h) 0)).get? b = some o := fun b o q => Heap.get?_push_of_some _ (Heap.get?_push_of_some _ q)
 have R2 := R.add (h' := (s.heap.push { cls := .type "slice", data := .fields #[vl, vh, .none] }).push (lstObj (sliceL vs l h) 0)) (t := s.toks) (a := s.heap.objs.size + 1) (more := []) (o := .list (sliceL xs l h)) ha ⟨_, by rw [← Heap.size_push (h := s.heap) (o := { cls := .type "slice", data := .fields #[vl, vh, .none] })]; exact Heap.get?_push_size _ rfl⟩ (fun b q => mem_no q) kk ?_
 ·refine K _ _ _ R2 (Go.add R.lt ha (fun b q => mem_no q) kk) ?_
  unfold RelV
  refine ⟨s.heap.objs.size + 1, ?_, ?_⟩
  ·rw [← R.len]; exact G.add_at g _ _
  ·rw [Heap.size_push]
 ·unfold RelO RelB
  refine ⟨s.heap.objs.size + 1, sliceL vs l h, 0, ?_, ?_, ?_, ?_⟩
  ·rw [← R.len]; exact G.add_at g _ _
  ·show (if _ ∨ _ then _ else _) = _
   rw [if_pos (.inl rfl), R.len]
  ·have := Heap.get?_push_size (s.heap.push { cls := .type "slice", data := .fields #[vl, vh, .none] }) (o := lstObj (sliceL vs l h) 0) rfl
   rw [Heap.size_push] at this
   exact this
  ·exact rs.go (Go.add (L := none) (g := g) (h := s.heap.push { cls := .type "slice", data := .fields #[vl, vh, .none] }) (a := s.heap.objs.size + 1) (more := []) (fun b q => let ⟨o, e⟩ := R.lt b q; ⟨o, Heap.get?_push_of_some _ e⟩) (by rw [Heap.size_push]; exact Nat.le_refl _) (fun b q => mem_no q) (fun b o q => Heap.get?_push_of_some _ q)).ext (LOk.none _)
theorem slcS_sound {x : AV} {u : Value} {l h : Option Int} {vl vh : Value} {z : AV} {ob' : List AObj} {obs : List Nat} (e : slcS x l h ob = some ((z, ob'), obs)) (fit : Fits obs) (rx : RelV s.heap g x u) {p q : Option (Int × Tok)} (hl : vl = partValue p) (hh : vh = partValue q) (el : p.map (·.1) = l) (eh : q.map (·.1) = h) (pl : IsPart vl l) (ph : IsPart vh h)
  (R : RS Y g L names loc ob s0 s) {Q : Value → Shared → Prop} (K : Then Y names L loc s0 g s z ob' Q) :
  (∃ (TN id : String), s.TypeIs u TN ∧ typeLookup (.type TN) "__getitem__" = pure (some (.builtin id))) ∧ wpAny (model Y.prog Y.w) A (getItem u (.ref s.heap.objs.size)) Q E { s with heap := s.heap.push { cls := .type "slice", data := .fields #[vl, vh, .none] } } := by
 unfold slcS at e
 cases hs : (smallI l && smallI h) with
 | false => rw [hs] at e; exact nO e
 | true =>
 rw [hs] at e
 cases x with
 | str x => cases e; exact slcStr (fit _ (List.mem_cons_self ..)) rx hl hh el eh R K
 | ref r =>
  refine onList_is e fun xs ho e' => ?_
  cases e'
  obtain ⟨ax, h1, rfl⟩ := rvR rx
  exact list_mine (R.rel r _ ho) h1 fun vs n h2 h3 h4 => slcList (fit _ (List.mem_cons_self ..)) h1 h3 h4 pl ph R K
 | _ => exact nO e
end
section
set_option backward.match.sparseCases true
section
variable {prog : Program} {w : World}
noncomputable def EqW (prog : Program) (w : World) (A : Around) (s : Shared) (u v : Value) : Prop := ∀ (E : Value → Shared → Prop) (Q : Bool → Shared → Prop), Q true s → wpAny (model prog w) A (eqBool u v) Q E s
theorem EqW.of_at {A : Around} {s : Shared} {u v : Value} (h : SeqAt.EqAt A s u v true) : EqW prog w A s u v := fun E Q q => h prog w E Q q
theorem EqW.self {A : Around} {s : Shared} (v : Value) : EqW prog w A s v v := .of_at (SeqAt.EqAt.same v)
theorem EqW.refs {A : Around} {s : Shared} {a b : Addr} (h : ∀ (E : Value → Shared → Prop) (Q : Value → Shared → Prop), Q (.bool true) s → wpAny (model prog w) A (richCompare .Eq (.ref a) (.ref b)) Q E s) : EqW prog w A s (.ref a) (.ref b) := by
 by_cases e : a = b
 ·subst e; exact .self _
 ·intro E Q q
  refine wpAny_holding ?_
  refine wpAny_ite_split (fun hab => absurd (by have := eq_of_beq hab; injection this) e) (fun _ => ?_)
  exact wpAny_bind (h E _ (wpAny_truthy_bool q))
noncomputable abbrev Ends (prog : Program) (w : World) (A : Around) (R : Result → Shared → Prop) : Fin → Shared → Prop := fun fin s' => match fin with
 | .done f => R (.ok f) s'
 | .again c' => c'.quiet = true ∧ codeAny (model prog w) A c' R s'
theorem arr_none {xs : List Value} {i : Nat} (h : xs.length ≤ i) : xs.toArray[((i : Nat) : Int).toNat]? = none := (List.getElem?_toArray ..).trans (List.getElem?_eq_none_iff.mpr h)
theorem arr_some {xs : List Value} {i : Nat} (h : i < xs.length) : xs.toArray[((i : Nat) : Int).toNat]? = some xs[i] := (List.getElem?_toArray ..).trans (List.getElem?_eq_getElem h)
open AutoSeq1 MeetsSeq3 in
theorem list_loop {l b : Addr} {xs ys : List Value} {n m : Nat} {R : Result → Shared → Prop} {s : Shared} (hl : s.heap.get? l = some (lstObj xs n)) (hb : s.heap.get? b = some (lstObj ys m)) (hsz : xs.length = ys.length) (hR : R (.ok (.ret (.bool false))) s) (A : Around)
  (he : ∀ (j : Nat) (x y : Value), xs[j]? = some x → ys[j]? = some y → EqW prog w A.in1 s x y) (k i : Nat) (hk : xs.length - i = k) : wpAny (model prog w) A.in1 (Builtin.«list.__eq__.loop» ⟨[.ref l, .ref b, rawInt i, rawInt 3], []⟩) (Ends prog w A R) (fun e s' => R (.error e) s') s := by
 obtain ⟨hp, g, d, tk, os⟩ := s
 induction k generalizing i with
 | zero =>
  have h1 := Nat.le_of_sub_eq_zero hk
  wp_walk using wpAny_loadPart' hl, wpAny_loadPart' hb
  rw [arr_none h1, arr_none (hsz ▸ h1)]
  wp_walk using wpAny_loadPart' hl, wpAny_loadPart' hb
  show R (.ok (.ret (.bool (xs.toArray.size != ys.toArray.size)))) _
  rw [List.size_toArray, List.size_toArray, hsz, bne_self_eq_false]; exact hR
 | succ k ih =>
  have hlt : i < xs.length := Nat.lt_of_sub_eq_succ hk
  have hlt2 : i < ys.length := hsz ▸ hlt
  have hx := he i xs[i] ys[i] (List.getElem?_eq_getElem hlt) (List.getElem?_eq_getElem hlt2)
  replace ih := ih (i + 1) (by rw [Nat.sub_succ, hk]; rfl)
  wp_walk using wpAny_loadPart' hl, wpAny_loadPart' hb
  rw [arr_some hlt, arr_some hlt2]
  refine wpAny_bind (hx _ _ ?_)
  wp_walk
  exact ⟨plainId_quiet plain_eq_loop _, codeAny_builtin entry_eq_loop (by
   rw [Around.under_plainId plain_eq_loop _]
   exact ih)⟩
open AutoSeq1 MeetsSeq3 in
theorem list_neW {l b : Addr} {xs ys : List Value} {n m : Nat} {s : Shared} {A : Around} {E : Value → Shared → Prop} (hl : s.heap.get? l = some (lstObj xs n)) (hb : s.heap.get? b = some (lstObj ys m)) (hsz : xs.length = ys.length) (hu : A.units < cLine)
  (he : ∀ (j : Nat) (x y : Value), xs[j]? = some x → ys[j]? = some y → EqW prog w A.in1 s x y) {Q : Value → Shared → Prop} (q : Q (.bool false) s) : wpAny (model prog w) A (richCompare .NotEq (.ref l) (.ref b)) Q E s := by
 have hT : s.TypeIs (.ref l) "list" := ⟨_, hl, rfl⟩
 have hT' : s.TypeIs (.ref b) "list" := ⟨_, hb, rfl⟩
 have f3 := AutoSeq1.sub_list_list
 have hne : ¬ (xs.toArray.size != ys.toArray.size) = true := by rw [List.size_toArray, List.size_toArray, hsz, bne_self_eq_false]; exact Bool.false_ne_true
 refine wpAny_richCompare_same_room (op := .NotEq) hT hT' PySem.F.slot_list_ne (wpAny_call (codeAny_call_builtin PySem.F.slot_list_ne.plain PySem.F.entry_list_ne (PySem.F.slot_list_ne.check _ _ _ _ _ _ _ _ hT (PySem.F.args_list_ne_2 _ _) ?_))) hu
 obtain ⟨hp, g, d, tk, os⟩ := s
 wp_walk using wpAny_loadPart' hl, wpAny_loadPart' hb
 exact ⟨plainId_quiet plain_eq_loop _, codeAny_builtin entry_eq_loop (by
  rw [Around.under_plainId plain_eq_loop _]
  exact list_loop (R := fun r s' => match r with | .ok (.ret v) => v ≠ .notImplemented ∧ Q v s' | .ok _ => False | .error e => E e s') hl hb hsz ⟨(fun x => nomatch x), q⟩ A he _ 0 rfl)⟩
end
end
section
variable {prog : Program} {w : World} {κ : Type} [DecidableEq κ] {knd : KeyKind prog w κ}
theorem pairs_at {es : List DictEntry} {kvs : List (κ × Value)} (h : Pairs knd es kvs) {i : Nat} {e : DictEntry} (he : es[i]? = some e) : ∃ kv, kvs[i]? = some kv ∧ knd.is kv.1 e.key = true ∧ e.val = kv.2 := by
 induction h generalizing i with
 | nil => cases he
 | @cons e' kv es kvs h1 h2 _ ih =>
  cases i with
  | zero => cases he; exact ⟨kv, rfl, h1, h2⟩
  | succ i => exact ih he
theorem same_pairs {id : String} {a b : Addr} {ka kb : List (κ × Value)} {A : Around} {E : Value → Shared → Prop} {s : Shared} {Q : Bool → Shared → Prop} (na : (a == sysModules) = false) (nb : (b == sysModules) = false)
  (da : s.heap.DictOf knd a ka) (db : s.heap.DictOf knd b kb) (hl : ka.length = kb.length) (he : ∀ kv ∈ ka, ∃ y, valueAt kb kv.1 = some y ∧ EqW prog w A s kv.2 y) (q : Q true s) :
  wpAny (model prog w) A (Builtin.Dict.samePairs id a b) Q E s := by
 obtain ⟨oa, ea, na1, hoa, _, hda, hka, hpa, _⟩ := da
 have db' := db
 obtain ⟨ob, eb, nb1, hob, _, hdb, hkb, hpb, _⟩ := db
 have hsz : ea.size = eb.size := by
  have h1 := hpa.length
  have h2 := hpb.length
  simp only [Array.length_toList] at h1 h2
  lia
 unfold Builtin.Dict.samePairs Builtin.Dict.showsAll
 rw [na, nb]
 refine wpAny_bind (wpAny_pure (wpAny_bind (wpAny_pure (wpAny_bind (wpAny_dictEntries hoa hda ?_)))))
 refine wpAny_bind (wpAny_dictEntries hob hdb ?_)
 rw [if_neg (by rw [hsz]; simp)]
 refine wpAny_bind (wpAny_dictEpoch hoa hda (wpAny_bind ?_))
 rw [Std.Legacy.Range.forIn_eq_forIn_range']
 refine wpAny_forIn_list _ (fun rest r s' => s' = s ∧ r = (none, ()) ∧ ∀ i ∈ rest, i < ea.size) _ ?_ ?_ _ _ ⟨rfl, rfl, ?_⟩
 ·rintro i rest r s' ⟨rfl, rfl, hi⟩
  have hlt : i < ea.size := hi i (List.mem_cons_self ..)
  obtain ⟨kv, h1, h2, h3⟩ := pairs_at hpa (i := i) (e := ea[i]) (by simp [hlt])
  obtain ⟨y, h4, h5⟩ := he kv (List.mem_of_getElem? h1)
  obtain ⟨k', h6, h7⟩ := hka ea[i] (Array.getElem_mem hlt)
  have hk : k' = kv.1 := knd.inj _ _ _ h6 h2
  subst hk
  have hf : (eb.findIdx? fun e => knd.is kv.1 e.key).isSome = true := by
   rw [← hpb.find kv.1] at h4
   obtain ⟨e, h8, _⟩ := Option.map_eq_some_iff.mp h4
   rw [Array.findIdx?_isSome]
   have := List.find?_some h8
   exact Array.any_eq_true'.mpr ⟨e, by simpa using List.mem_of_find?_eq_some h8, this⟩
  refine wpAny_bind (wpAny_dictEntries hoa hda ?_)
  rw [Array.getElem?_eq_getElem hlt]
  refine wpAny_bind (wpAny_holding ?_)
  rw [h7]
  refine wpAny_bind (wpAny_dictFind_of h2 hob hdb hkb ?_)
  obtain ⟨j, hj⟩ := Option.isSome_iff_exists.mp hf
  rw [hj]
  obtain ⟨hjl, hjk, hjm⟩ := Array.findIdx?_eq_some_iff_getElem.mp hj
  refine wpAny_bind (wpAny_dictEntries hob hdb ?_)
  rw [Array.getElem?_eq_getElem hjl]
  have hv : eb[j].val = y := by
   have h8 : valueAt kb kv.1 = some eb[j].val := by
    rw [← hpb.find kv.1, Array.find?_toList]
    have : eb.find? (fun e => knd.is kv.1 e.key) = some eb[j] := by
     rw [Array.find?_eq_some_iff_getElem]
     exact ⟨hjk, j, hjl, rfl, fun k hk => by simpa using hjm k hk⟩
    rw [this]; rfl
   rw [h8] at h4; exact Option.some.inj h4
  refine wpAny_holding ?_
  rw [hv, h3]
  refine h5 _ _ ?_
  refine wpAny_bind (wpAny_dictEpoch hoa hda ?_)
  rw [if_neg (by simp)]
  exact wpAny_pure ⟨rfl, rfl, fun i hi' => hi i (List.mem_cons_of_mem _ hi')⟩
 ·rintro r s' ⟨rfl, rfl, _⟩
  exact wpAny_pure q
 ·intro i hi
  have := List.mem_range'_1.mp hi
  simp at this
  lia
theorem dict_eqW {a b : Addr} {ka kb : List (κ × Value)} {A : Around} {E : Value → Shared → Prop} {s : Shared} {Q : Value → Shared → Prop} (na : (a == sysModules) = false) (nb : (b == sysModules) = false)
  (da : s.heap.DictOf knd a ka) (db : s.heap.DictOf knd b kb) (hl : ka.length = kb.length) (hu : A.units < cLine) (he : ∀ kv ∈ ka, ∃ y, valueAt kb kv.1 = some y ∧ EqW prog w A.in1 s kv.2 y) :
  (Q (.bool true) s → wpAny (model prog w) A (richCompare .Eq (.ref a) (.ref b)) Q E s) ∧ (Q (.bool false) s → wpAny (model prog w) A (richCompare .NotEq (.ref a) (.ref b)) Q E s) := by
 constructor
 ·intro q
  refine wpAny_richCompare_same_room (op := .Eq) da.typeIs db.typeIs PySem.F.slot_dict_eq (wpAny_call_entry PySem.F.slot_dict_eq da.typeIs PySem.F.entry_dict_eq ?_ (PySem.F.args_dict_eq_2 _ _)) hu
  refine wpAny_bind (wpAny_bind (wpAny_notOrdered_dict da.typeIs (wpAny_pure (wpAny_bind (wpAny_isInstance (T := "dict") db.typeIs PySem.F.sub_dict_dict ?_)))))
  simp only [Bool.not_true, Bool.false_eq_true, if_false]
  refine wpAny_bind (wpAny_pure (wpAny_bind (wpAny_pure (wpAny_bind (same_pairs na nb da db hl he ?_)))))
  exact wpAny_pure ⟨_, rfl, (by intro x; cases x), q⟩
 ·intro q
  refine wpAny_richCompare_same_room (op := .NotEq) da.typeIs db.typeIs PySem.F.slot_dict_ne (wpAny_call_entry PySem.F.slot_dict_ne da.typeIs PySem.F.entry_dict_ne ?_ (PySem.F.args_dict_ne_2 _ _)) hu
  refine wpAny_bind (wpAny_bind (wpAny_notOrdered_dict da.typeIs (wpAny_pure (wpAny_bind (wpAny_isInstance (T := "dict") db.typeIs PySem.F.sub_dict_dict ?_)))))
  simp only [Bool.not_true, Bool.false_eq_true, if_false]
  refine wpAny_bind (wpAny_pure (wpAny_bind (wpAny_pure (wpAny_bind (same_pairs na nb da db hl he ?_)))))
  exact wpAny_pure ⟨_, rfl, (by intro x; cases x), q⟩
end
section
variable {Y : Sys} {T : Tab} {d : Nat} {names : List (Str × NameKind)} {L : Addr} {loc : Loc} {ob : List AObj} {s0 s : Shared} {g : G} {A : Around} {E : Value → Shared → Prop}
theorem beq_sOf {a b : List Nat} : (sOf a == sOf b) = decide (a = b) := by
 by_cases h : a = b
 ·subst h; simp
 ·rw [decide_eq_false h, beq_eq_false_iff_ne]; exact fun e => h (sOf_inj.mp e)
theorem beq_dec {α : Type} [DecidableEq α] (a b : α) : (a == b) = decide (a = b) := by by_cases h : a = b <;> simp [h]
theorem eqS_at {x y : AV} {u v : Value} {b : Bool} (e : eqS x y = some b) (rx : RelV s.heap g x u) (ry : RelV s.heap g y v) : SeqAt.EqAt A s u v b ∧ SeqAt.RcAt A s u v b ∧ SeqAt.RcNeAt A s u v (!b) := by
 refine eqS_is e (fun h1 h2 hb => ?_) (fun z h1 h2 hb => ?_) (fun z h1 h2 hb => ?_) (fun z w h1 h2 hb => ?_) (fun z w h1 h2 hb => ?_) (fun z w h1 h2 hb => ?_)
 ·subst h1 h2 hb; rw [relV_none rx, relV_none ry]; exact ⟨SeqAt.EqAt.same _, SeqAt.RcAt.none_none, SeqAt.RcNeAt.none_none⟩
 ·subst h1 h2 hb; rw [relV_none rx]; obtain ⟨t, rfl⟩ := rvS ry; exact ⟨SeqAt.EqAt.none_str _ _, SeqAt.RcAt.none_str _ _, SeqAt.RcNeAt.none_str _ _⟩
 ·subst h1 h2 hb; rw [relV_none ry]; obtain ⟨t, rfl⟩ := rvS rx; exact ⟨SeqAt.EqAt.str_none _ _, SeqAt.RcAt.str_none _ _, SeqAt.RcNeAt.str_none _ _⟩
 ·subst h1 h2 hb; obtain ⟨t, rfl⟩ := rvS rx; obtain ⟨u, rfl⟩ := rvS ry
  rw [← beq_sOf]; exact ⟨SeqAt.EqAt.str_str _ _ _ _, SeqAt.RcAt.str_str _ _ _ _, SeqAt.RcNeAt.str_str _ _ _ _⟩
 ·subst h1 h2 hb; obtain ⟨t, rfl⟩ := rvI rx; obtain ⟨u, rfl⟩ := rvI ry
  rw [← beq_dec]; exact ⟨SeqAt.EqAt.int_int _ _ _ _, SeqAt.RcAt.int_int _ _ _ _, SeqAt.RcNeAt.int_int _ _ _ _⟩
 ·subst h1 h2 hb; rw [relV_bool rx, relV_bool ry]; exact ⟨SeqAt.EqAt.bool_bool _ _, SeqAt.RcAt.bool_bool _ _, SeqAt.RcNeAt.bool_bool _ _⟩
theorem relKs_at {h : Heap} {es : List (List Nat × AV)} {kvs : List (Str × Value)} {j : Nat} {kv : Str × Value} (r : RelKs h g sOf es kvs) (e : kvs[j]? = some kv) : ∃ x, es[j]? = some x ∧ kv.1 = sOf x.1 ∧ RelV h g x.2 kv.2 := by
 induction es generalizing kvs j with
 | nil => cases (show kvs = [] from r); exact nO e
 | cons x es ih =>
  obtain ⟨v, t, rfl, h1, h2⟩ := r
  cases j with
  | zero => cases e; exact ⟨x, rfl, rfl, h1⟩
  | succ j => exact ih (j := j) h2 e
theorem relKs_len {h : Heap} {κ κ' : Type} {f : κ → κ'} {es : List (κ × AV)} {kvs : List (κ' × Value)} (r : RelKs h g f es kvs) : kvs.length = es.length := by
 induction es generalizing kvs with
 | nil => cases (show kvs = [] from r); rfl
 | cons _ es ih => obtain ⟨v, t, rfl, h1, h2⟩ := r; exact congrArg Nat.succ (ih h2)
theorem nbN {α : Type} [DecidableEq α] {l : List α} (h : nodupB l = true) : l.Nodup := by
 induction l with
 | nil => exact List.nodup_nil
 | cons x r ih => exact List.nodup_cons.mpr ⟨of_decide_eq_false ((Bool.not_eq_true' _).mp (and2 h).1), ih (and2 h).2⟩
theorem look1_nodup {es : List (List Nat × AV)} {j : Nat} {x : List Nat × AV} (h : (es.map (·.1)).Nodup) (e : es[j]? = some x) : look1 x.1 es = some x.2 := by
 induction es generalizing j with
 | nil => exact nO e
 | cons y es ih => cases j with
  | zero => cases e; exact if_pos rfl
  | succ j =>
   have hn := List.nodup_cons.mp h
   have e : es[j]? = some x := e
   exact (if_neg fun q : y.1 = x.1 => hn.1 (List.mem_map.mpr ⟨_, List.mem_of_getElem? e, q.symm⟩)).trans (ih hn.2 e)
noncomputable abbrev RcW (prog : Program) (w : World) (A : Around) (s : Shared) (u v : Value) : Prop :=
 ∀ (E Q : Value → Shared → Prop), Q (.bool false) s → wpAny (model prog w) A (richCompare .NotEq u v) Q E s
theorem same_tup (O : Y.Ok) (R : RO Y g ob s0 s) {xs ys : List AV} {u v : Value} (e : sames (fun x y => trueO (eqS x y)) xs ys = true) (hu : A.units + 1 < cLine) (rx : RelV s.heap g (.tup xs) u) (ry : RelV s.heap g (.tup ys) v) : RcW Y.prog Y.w A s u v := by
 obtain ⟨a, vs, na, rfl, _, hta, ra⟩ := rx
 obtain ⟨b, us, nb, rfl, _, htb, rb⟩ := ry
 have hl := (sames_at xs e).1
 have la := rvL ra
 have lb := rvL rb
 have ia : s.heap.IsTuple a vs.toArray := ⟨_, hta, rfl, na, rfl⟩
 have ib : s.heap.IsTuple b us.toArray := ⟨_, htb, rfl, nb, rfl⟩
 have he : ∀ j (h1 : j < vs.toArray.size) (h2 : j < us.toArray.size), SeqAt.EqAt A.in1 s vs.toArray[j] us.toArray[j] true := by
  intro j h1 h2
  have h1' : j < xs.length := by rw [← la]; simpa using h1
  have h2' : j < ys.length := by rw [← lb]; simpa using h2
  obtain ⟨v1, q1, r1⟩ := relVs_get ra (List.getElem?_eq_getElem h1')
  obtain ⟨v2, q2, r2⟩ := relVs_get rb (List.getElem?_eq_getElem h2')
  have := (eqS_at (A := A.in1) (tOi ((sames_at xs e).2 _ _ _ (List.getElem?_eq_getElem h1') (List.getElem?_eq_getElem h2'))) r1 r2).1
  have e1 : vs.toArray[j] = v1 := by
   obtain ⟨_, z⟩ := List.getElem?_eq_some_iff.mp q1
   simpa using z
  have e2 : us.toArray[j] = v2 := by
   obtain ⟨_, z⟩ := List.getElem?_eq_some_iff.mp q2
   simpa using z
  rw [e1, e2]; exact this
 have hb : ((List.range (min vs.toArray.size us.toArray.size)).all (fun _ => true) && vs.toArray.size == us.toArray.size) = true := by
  rw [List.size_toArray, List.size_toArray, la, lb, hl, beq_self_eq_true, Bool.and_true]; exact List.all_eq_true.mpr fun _ _ => rfl
 exact fun E Q q => SeqAt.RcNeAt.tuples ia ib (by exact Nat.lt_of_succ_lt hu) (e := fun _ => true) he _ _ E Q (by rw [hb]; exact q)
theorem same_lists {n na nb : Nat} {xs ys : List AV} {vs us : List Value} {ax ay : Addr} (e : sames (fun x y => samI n x y ob) xs ys = true) (hu : A.units + 1 < cLine) (ih : ∀ {x y : AV} {u v : Value}, samI n x y ob = true → RelV s.heap g x u → RelV s.heap g y v → EqW Y.prog Y.w A.in1 s u v) (h3 : s.heap.get? ax = some (lstObj vs na)) (h4 : RelVs s.heap g xs vs) (h5 : s.heap.get? ay = some (lstObj us nb)) (h6 : RelVs s.heap g ys us) : RcW Y.prog Y.w A s (.ref ax) (.ref ay) := by
 obtain ⟨hl, hs⟩ := sames_at xs e
 have la := rvL h4
 have lb := rvL h6
 have he : ∀ (j : Nat) (x y : Value), vs[j]? = some x → us[j]? = some y → EqW Y.prog Y.w A.in1 s x y := by
  intro j x y e1 e2
  obtain ⟨l1, _⟩ := List.getElem?_eq_some_iff.mp e1
  obtain ⟨l2, _⟩ := List.getElem?_eq_some_iff.mp e2
  have h1' : j < xs.length := by exact Nat.lt_of_lt_of_eq l1 la
  have h2' : j < ys.length := by exact Nat.lt_of_lt_of_eq l2 lb
  obtain ⟨v1, q1, r1⟩ := relVs_get h4 (List.getElem?_eq_getElem h1')
  obtain ⟨v2, q2, r2⟩ := relVs_get h6 (List.getElem?_eq_getElem h2')
  rw [q1] at e1; cases e1
  rw [q2] at e2; cases e2
  exact ih (hs j _ _ (List.getElem?_eq_getElem h1') (List.getElem?_eq_getElem h2')) r1 r2
 exact fun E Q => list_neW h3 h5 (la.trans (hl.trans lb.symm)) (Nat.lt_of_succ_lt hu) he
theorem same_dicts {n : Nat} {xs ys : List (List Nat × AV)} {kvs kus : List (Str × Value)} {ax ay : Addr} (e : sames (fun x y => decide (x.1 = y.1) && samI n x.2 y.2 ob) xs ys = true) (hnd : nodupB (ys.map (·.1)) = true) (hu : A.units + 1 < cLine) (o1 : (ax == sysModules) = false) (o2 : (ay == sysModules) = false) (ih : ∀ {x y : AV} {u v : Value}, samI n x y ob = true → RelV s.heap g x u → RelV s.heap g y v → EqW Y.prog Y.w A.in1 s u v)
  (h3 : s.heap.DictOf (strKind Y.prog Y.w) ax kvs) (h4 : RelKs s.heap g sOf xs kvs) (h5 : s.heap.DictOf (strKind Y.prog Y.w) ay kus) (h6 : RelKs s.heap g sOf ys kus) : EqW Y.prog Y.w A s (.ref ax) (.ref ay) ∧ RcW Y.prog Y.w A s (.ref ax) (.ref ay) := by
 obtain ⟨hl, hs⟩ := sames_at xs e
 have la := relKs_len h4
 have lb := relKs_len h6
 have he : ∀ kv ∈ kvs, ∃ y, valueAt kus kv.1 = some y ∧ EqW Y.prog Y.w A.in1 s kv.2 y := by
  intro kv hm
  obtain ⟨j, hj⟩ := List.mem_iff_getElem?.mp hm
  obtain ⟨x, x1, x2, x3⟩ := relKs_at h4 hj
  obtain ⟨l1, _⟩ := List.getElem?_eq_some_iff.mp x1
  have h2' : j < ys.length := by exact Nat.lt_of_lt_of_eq l1 hl
  have y1 := List.getElem?_eq_getElem h2'
  have z := and2 (hs j _ _ x1 y1)
  obtain ⟨v, v1, v2⟩ := (relKs_str (k := x.1) h6).1 _ (by rw [of_decide_eq_true z.1]; exact look1_nodup (nbN hnd) y1)
  exact ⟨v, by rw [x2]; exact v1, ih z.2 x3 v2⟩
 exact ⟨.refs fun E Q => (dict_eqW o1 o2 h3 h5 (la.trans (hl.trans lb.symm)) (Nat.lt_of_succ_lt hu) he).1, fun E Q => (dict_eqW o1 o2 h3 h5 (la.trans (hl.trans lb.symm)) (Nat.lt_of_succ_lt hu) he).2⟩
theorem samD_sound (O : Y.Ok) (R : RO Y g ob s0 s) {n i j : Nat} {u v : Value} (hu : A.units + 1 < cLine) (ih : ∀ {x y : AV} {u v : Value}, samI n x y ob = true → RelV s.heap g x u → RelV s.heap g y v → EqW Y.prog Y.w A.in1 s u v) (rx : RelV s.heap g (.ref i) u) (ry : RelV s.heap g (.ref j) v) (h : samD (fun x y => samI n x y ob) ob i j = true) : EqW Y.prog Y.w A s u v ∧ RcW Y.prog Y.w A s u v := by
 obtain ⟨ax, p1, rfl⟩ := rvR rx
 obtain ⟨ay, p2, rfl⟩ := rvR ry
 exact samD_is' h fun xs ys hx hy hnd h => dict_mine (R.rel i _ hx) p1 fun kvs o1 h3 h4 => dict_mine (R.rel j _ hy) p2 fun kus o2 h5 h6 => same_dicts h hnd hu (R.noSys O o1) (R.noSys O o2) ih h3 h4 h5 h6
theorem samI_sound (O : Y.Ok) (R : RO Y g ob s0 s) (n : Nat) {A : Around} {x y : AV} {u v : Value} (e : samI n x y ob = true) (hu : A.units + n < cLine) (rx : RelV s.heap g x u) (ry : RelV s.heap g y v) : EqW Y.prog Y.w A s u v := by
 induction n generalizing A x y u v with
 | zero => exact nt e
 | succ n ih =>
  refine samI_is e (fun i j h1 h2 h => ?_) (fun h => .of_at (eqS_at (A := A) h rx ry).1)
  subst h1 h2
  exact (samD_sound O R (Nat.lt_of_le_of_lt (Nat.add_le_add_left (Nat.le_add_left 1 n) _) hu) (fun h r1 r2 => ih h (by rw [Nat.add_right_comm]; exact hu) r1 r2) rx ry h).1
theorem same_sound (O : Y.Ok) (R : RO Y g ob s0 s) {n : Nat} {A : Around} {x y : AV} {u v : Value} (e : same (n + 1) x y ob = true) (hu : A.units + (n + 1) < cLine) (rx : RelV s.heap g x u) (ry : RelV s.heap g y v) : RcW Y.prog Y.w A s u v := by
 have ih : ∀ {x y : AV} {u v : Value}, samI n x y ob = true → RelV s.heap g x u → RelV s.heap g y v → EqW Y.prog Y.w A.in1 s u v := fun h r1 r2 => samI_sound O R n h (by show A.units + 1 + n < cLine; rw [Nat.add_right_comm]; exact hu) r1 r2
 have hu : A.units + 1 < cLine := Nat.lt_of_le_of_lt (Nat.add_le_add_left (Nat.le_add_left 1 n) _) hu
 refine same_is e (fun xs ys h1 h2 h => ?_) (fun i j xs ys h1 h2 hx hy h => ?_) (fun i j h1 h2 h => ?_)
 ·subst h1 h2
  exact same_tup O R h hu rx ry
 ·subst h1 h2
  obtain ⟨ax, p1, rfl⟩ := rvR rx
  obtain ⟨ay, p2, rfl⟩ := rvR ry
  exact list_mine (R.rel i _ hx) p1 fun vs na _ h3 h4 => list_mine (R.rel j _ hy) p2 fun us nb _ h5 h6 => same_lists h hu ih h3 h4 h5 h6
 ·subst h1 h2
  exact (samD_sound O R hu ih rx ry h).2
theorem isS_key {x y : AV} {u v : Value} {b : Bool} (e : isS x y = some b) (rx : RelV s.heap g x u) (ry : RelV s.heap g y v) : plainIs u v = true ∧ (u == v) = b := by
 cases y with
 | none =>
  rw [relV_none ry]
  cases x with
  | none => cases e; rw [relV_none rx]; exact ⟨rfl, rfl⟩
  | bool _ => cases e; rw [relV_bool rx]; exact ⟨rfl, rfl⟩
  | str _ => cases e; obtain ⟨t, rfl⟩ := rvS rx; exact ⟨rfl, rfl⟩
  | int _ => cases e; obtain ⟨t, rfl⟩ := rvI rx; exact ⟨rfl, rfl⟩
  | meth _ _ => cases e; obtain ⟨_, _, rfl, _⟩ := rx; exact ⟨rfl, rfl⟩
  | tup _ => cases e; obtain ⟨_, _, _, rfl, _⟩ := rx; exact ⟨rfl, rfl⟩
  | ref _ => cases e; obtain ⟨_, _, rfl⟩ := rvR rx; exact ⟨rfl, rfl⟩
  | val _ => exact nO e
  | any => exact nO e
 | bool c =>
  rw [relV_bool ry]
  cases x with
  | none => cases e; rw [relV_none rx]; exact ⟨rfl, rfl⟩
  | bool a => cases e; rw [relV_bool rx]; exact ⟨rfl, by cases a <;> cases c <;> rfl⟩
  | _ => exact nO e
 | _ => exact nO e
theorem isS_sound {x y : AV} {u v : Value} {b : Bool} (e : isS x y = some b) (rx : RelV s.heap g x u) (ry : RelV s.heap g y v) {Q : Value → Shared → Prop} : (Q (.bool b) s → wpAny (model Y.prog Y.w) A (compareOp .Is u v) Q E s) ∧ (Q (.bool (!b)) s → wpAny (model Y.prog Y.w) A (compareOp .IsNot u v) Q E s) :=
 have key := isS_key e rx ry
 ⟨fun q => wpAny_is_plain key.1 (by rw [key.2]; exact q), fun q => wpAny_isNot_plain key.1 (by rw [key.2]; exact q)⟩
noncomputable def eqV : Value → Value → Bool
 | .none, .none => true
 | .bool a, .bool b => a == b
 | .int a _, .int b _ => a == b
 | .str a _, .str b _ => a == b
 | _, _ => false
theorem eqS_V {x y : AV} {u v : Value} {b : Bool} (e : eqS x y = some b) (rx : RelV s.heap g x u) (ry : RelV s.heap g y v) : eqV u v = b := by
 refine eqS_is e (fun h1 h2 hb => ?_) (fun z h1 h2 hb => ?_) (fun z h1 h2 hb => ?_) (fun z w h1 h2 hb => ?_) (fun z w h1 h2 hb => ?_) (fun z w h1 h2 hb => ?_)
 ·subst h1 h2 hb; rw [relV_none rx, relV_none ry]; rfl
 ·subst h1 h2 hb; rw [relV_none rx]; obtain ⟨t, rfl⟩ := rvS ry; rfl
 ·subst h1 h2 hb; rw [relV_none ry]; obtain ⟨t, rfl⟩ := rvS rx; rfl
 ·subst h1 h2 hb; obtain ⟨t, rfl⟩ := rvS rx; obtain ⟨u, rfl⟩ := rvS ry
  rw [← beq_sOf]; rfl
 ·subst h1 h2 hb; obtain ⟨t, rfl⟩ := rvI rx; obtain ⟨u, rfl⟩ := rvI ry
  rw [← beq_dec]; rfl
 ·subst h1 h2 hb; rw [relV_bool rx, relV_bool ry]; rfl
theorem anyS_at {x : AV} {u : Value} (rx : RelV s.heap g x u) : ∀ {ys : List AV} {vs : List Value} {b : Bool}, anyS x ys = some b → RelVs s.heap g ys vs → (∀ v ∈ vs, SeqAt.EqAt A s v u (eqV v u)) ∧ vs.any (fun v => eqV v u) = b := by
 intro ys
 induction ys with
 | nil =>
  intro vs b e r
  cases e
  subst r
  exact ⟨fun _ q => (mem_no q), rfl⟩
 | cons y ys ih =>
  intro vs b e r
  refine oSi e fun b1 e1 e' => oSi e' fun b2 e2 e' => ?_
  clear e
  cases e'
  obtain ⟨v, vs, rfl, h1, h2⟩ := r
  obtain ⟨i1, i2⟩ := ih e2 h2
  have hv := eqS_V e1 h1 rx
  refine ⟨fun w hw => ?_, by rw [List.any_cons, i2, hv]⟩
  rcases List.mem_cons.mp hw with rfl | hw
  ·rw [hv]; exact (eqS_at e1 h1 rx).1
  ·exact i1 w hw
theorem lookI_some {κ : Type} {k : Int} : ∀ {es : List (Int × AV)} {kvs : List (Int × Value)} {h : Heap}, RelKs h g id es kvs → (valueAt kvs k).isSome = (lookI k es).isSome := by
 intro es kvs h r
 obtain ⟨h1, h2⟩ := relKs_int (k := k) r
 cases e : lookI k es with
 | none => rw [h2 e]; rfl
 | some a => obtain ⟨v, q, _⟩ := h1 a e; rw [q]; rfl
theorem inS_sound (O : Y.Ok) (TO : TabOk Y T d) {x y : AV} {u v : Value} {b : Bool} (e : inS T x y = some b) (rx : RelV s.heap g x u) (ry : RelV s.heap g y v) (R : RS Y g L names loc ob s0 s) {Q : Value → Shared → Prop} :
  (Then Y names L loc s0 g s (.bool b) ob Q → wpAny (model Y.prog Y.w) A (compareOp .In u v) Q E s) ∧ (Then Y names L loc s0 g s (.bool (!b)) ob Q → wpAny (model Y.prog Y.w) A (compareOp .NotIn u v) Q E s) := by
 cases y with
 | tup ys =>
  obtain ⟨a, vs, n, rfl, _, hta, ra⟩ := ry
  obtain ⟨h1, h2⟩ := anyS_at (A := A.in1) rx e ra
  have ia : s.heap.IsTuple a vs.toArray := ⟨_, hta, rfl, n, rfl⟩
  have h3 : vs.toArray.any (fun v => eqV v u) = b := by rw [← h2]; simp
  exact ⟨fun K => SeqAt.in_tupleAt (fun v => eqV v u) ia (fun y hy => h1 y (by simpa using hy)) (by rw [h3]; exact bool_here R K), fun K => SeqAt.notIn_tupleAt (fun v => eqV v u) ia (fun y hy => h1 y (by simpa using hy)) (by rw [h3]; exact bool_here R K)⟩
 | str z =>
  refine oneC_is e fun c hc e' => ?_
  clear e
  subst hc
  cases e'
  obtain ⟨t, rfl⟩ := rvS rx
  obtain ⟨t', rfl⟩ := rvS ry
  have hf : (!(Builtin.Str.occurrences (sOf z) (sOf [c]) 0 (sOf z).length 1).isEmpty) = z.contains c := by
   have := StrLaws.found_one (sOf z) c
   rw [show (⟨#[c]⟩ : Str) = sOf [c] from rfl] at this
   rw [this]
   rw [Bool.eq_iff_iff, decide_eq_true_eq, List.contains_iff_mem]
  exact ⟨fun K => P.in_str (by rw [hf]; exact bool_here R K), fun K => P.notIn_str (by rw [hf]; exact bool_here R K)⟩
 | val w =>
  refine oSi e fun a ha e' => oSi e' fun k hk e' => oSi e' fun es hes e3 => ?_
  clear e
  replace hk := asInt_is hk
  subst hk
  cases e3
  obtain ⟨t, rfl⟩ := rvI rx
  rw [relV_val ry, refOf_is ha]
  obtain ⟨hs, kvs, hd, hr⟩ := TO.kint a es hes
  have rk := hr s.heap g R.keep R.base
  have hd' : s.heap.DictOf (intKind Y.prog Y.w) a kvs := dictOf_at hd fun o q => R.keep _ _ q
  have hm := Heap.DictOf.mapOf hd'
  have hsome := lookI_some (κ := Int) (k := k) rk
  exact ⟨fun K => wpAny_in_of (knd := intKind Y.prog Y.w) (k := k) (by simp [intKind, Value.isInt]) hs hm (by rw [hsome]; exact K g _ _ (R.toks _) (Go.refl _ _ _) (by rfl)), fun K => wpAny_notIn_of (knd := intKind Y.prog Y.w) (k := k) (by simp [intKind, Value.isInt]) hs hm (by rw [hsome]; exact K g _ _ (R.toks _) (Go.refl _ _ _) (by rfl))⟩
 | _ => exact nO e
theorem cmp_eq {x y : AV} {b : Bool} (h : eqS x y = some b) : cmpS T .eq x y ob = some b := h
theorem cmp_ne {x y : AV} {b : Bool} (h : eqS x y = some b) : cmpS T .ne x y ob = some (!b) := by
 unfold cmpS
 dsimp only
 rw [h]
theorem cmp_same {x y : AV} {c : Bool} (h : eqS x y = none) (hs : same 6 x y ob = c) : cmpS T .ne x y ob = cond c (some false) none := by
 unfold cmpS
 dsimp only
 rw [h]
 dsimp only
 rw [hs]
 cases c <;> rfl
theorem le_sound {x y : AV} {u v : Value} {b : Bool} (e : cmpS T .le x y ob = some b) (rx : RelV s.heap g x u) (ry : RelV s.heap g y v) {Q : Value → Shared → Prop} (hq : Q (.bool b) s) : wpAny (model Y.prog Y.w) A (compareOp .LtE u v) Q E s := by
 cases hx : asInt x with
 | some _ =>
  replace e : int2 x y (fun a b => some (decide (a ≤ b))) = some b := (show cmpS T .le x y ob = _ by unfold cmpS; dsimp only; rw [hx]).symm.trans e
  refine int2_is e fun a c h1 h2 e' => ?_
  clear e hx
  subst h1 h2
  cases e'
  obtain ⟨t, rfl⟩ := rvI rx
  obtain ⟨t', rfl⟩ := rvI ry
  exact P.le_int hq
 | none =>
  replace e : strLe x y = some b := (show cmpS T .le x y ob = _ by unfold cmpS; dsimp only; rw [hx]).symm.trans e
  refine oneC_is e fun a h1 e' => oneC_is e' fun c h2 e' => ?_
  clear e hx
  subst h1 h2
  cases e'
  obtain ⟨t, rfl⟩ := rvS rx
  obtain ⟨t', rfl⟩ := rvS ry
  refine P.le_str ?_
  have : (!decide ((sOf [c]).cps.toList < (sOf [a]).cps.toList)) = decide (a ≤ c) := by
   have q : ([c] < [a]) ↔ c < a := by simp [List.cons_lt_cons_iff]
   by_cases h : a ≤ c
   ·rw [decide_eq_true h, decide_eq_false (fun z => Nat.not_lt.mpr h (q.mp z))]; rfl
   ·rw [decide_eq_false h, decide_eq_true (q.mpr (Nat.lt_of_not_le h))]; rfl
  rw [this]
  exact hq
theorem cmpS_sound (O : Y.Ok) (TO : TabOk Y T d) (hD : Deep d A) {p : Cop} {o : CmpOp} (ok : okCop p o = true) {x y : AV} {u v : Value} {b : Bool} (e : cmpS T p x y ob = some b) (rx : RelV s.heap g x u) (ry : RelV s.heap g y v) (R : RS Y g L names loc ob s0 s) {Q : Value → Shared → Prop}
  (K : Then Y names L loc s0 g s (.bool b) ob Q) : wpAny (model Y.prog Y.w) A (compareOp o u v) Q E s := by
 have hq := bool_here R K
 have hu : A.units + 6 < cLine := by have := hD.2.1; show A.units + 6 < 9900; lia
 cases p with
 | eq =>
  cases o with
  | Eq => exact (eqS_at e rx ry).2.1 _ _ E Q hq
  | _ => exact nt ok
 | ne =>
  cases o with
  | NotEq =>
   cases hb : eqS x y with
   | some b' =>
    replace e : some (!b') = some b := (cmp_ne hb).symm.trans e
    cases e
    exact (eqS_at hb rx ry).2.2 _ _ E Q hq
   | none =>
    cases hs : same 6 x y ob with
    | true =>
     replace e : some false = some b := (cmp_same hb hs).symm.trans e
     cases e
     exact same_sound O R.toRO hs hu rx ry E Q hq
    | false => exact nO ((cmp_same hb hs).symm.trans e)
  | _ => exact nt ok
 | lt =>
  cases o with
  | Lt =>
   clear K R
   refine int2_is e fun a c h1 h2 e' => ?_
   clear e
   subst h1 h2
   cases e'
   obtain ⟨t, rfl⟩ := rvI rx
   obtain ⟨t', rfl⟩ := rvI ry
   exact P.lt_int hq
  | _ => exact nt ok
 | le =>
  cases o with
  | LtE =>
   clear K R
   exact le_sound e rx ry hq
  | _ => exact nt ok
 | gt =>
  cases o with
  | Gt =>
   clear K R
   refine int2_is e fun a c h1 h2 e' => ?_
   clear e
   subst h1 h2
   cases e'
   obtain ⟨t, rfl⟩ := rvI rx
   obtain ⟨t', rfl⟩ := rvI ry
   exact P.gt_int hq
  | _ => exact nt ok
 | ge =>
  cases o with
  | GtE =>
   clear K R
   refine int2_is e fun a c h1 h2 e' => ?_
   clear e
   subst h1 h2
   cases e'
   obtain ⟨t, rfl⟩ := rvI rx
   obtain ⟨t', rfl⟩ := rvI ry
   exact P.ge_int hq
  | _ => exact nt ok
 | is =>
  cases o with
  | Is => exact (isS_sound e rx ry).1 hq
  | _ => exact nt ok
 | isnot =>
  cases o with
  | IsNot =>
   obtain ⟨b', hb, rfl⟩ := Option.map_eq_some_iff.mp e
   exact (isS_sound hb rx ry).2 hq
  | _ => exact nt ok
 | isin =>
  cases o with
  | In => exact (inS_sound O TO e rx ry R).1 K
  | _ => exact nt ok
 | notin =>
  cases o with
  | NotIn =>
   obtain ⟨b', hb, rfl⟩ := Option.map_eq_some_iff.mp e
   exact (inS_sound O TO hb rx ry R).2 K
  | _ => exact nt ok
end
theorem sOf_back (x : Str) : sOf x.cps.toList = x := by
 cases x; rfl
theorem lookup_at {names : List (Str × NameKind)} {k : Nat} {x : Str} {kd : NameKind} (h : (names.map (·.1)).Nodup) (e : names[k]? = some (x, kd)) : names.lookup x = some kd := by
 induction names generalizing k with
 | nil => exact nO e
 | cons y r ih =>
  have hn := List.nodup_cons.mp h
  rw [List.lookup_cons]
  cases k with
  | zero => rw [Option.some.inj e, beq_self_eq_true]
  | succ k =>
   have e : r[k]? = some (x, kd) := e
   rw [beq_eq_false_iff_ne.mpr fun z : x = y.1 => hn.1 (List.mem_map.mpr ⟨_, List.mem_of_getElem? e, z⟩)]
   exact ih hn.2 e
theorem base_whole {o : PySem.Expr} (h : notSuper o = true) (attr : Str) (env : Env) (whole : Sem Value) : attributeBase o attr env whole = whole := by
 cases o with
 | Call f xs ks p => cases f with
  | Name id q => cases xs with
   | nil => cases ks with
    | nil =>
     have h : (id != ("super" : Str)) = true := h
     unfold attributeBase
     simp only [h, Bool.true_or, if_true]
    | cons _ _ => rfl
   | cons _ _ => rfl
  | _ => rfl
 | _ => rfl
section
variable {Y : Sys} {T : Tab} {d : Nat} {names : List (Str × NameKind)} {L : Addr} {loc : Loc} {ob : List AObj} {s0 s : Shared} {g : G} {A : Around} {E : Value → Shared → Prop} {env : Env} {n m : Nat} {v : AV} {ob' : List AObj} {obs : List Nat} {Q : Value → Shared → Prop} {pos : Pos}
theorem a_loc {k : Nat} {x : Str} (hx : (x == ("__debug__" : Str)) = false) (hk : names[k]? = some (x, NameKind.local)) (e : ev T (n + 1) (.loc k) loc ob = some ((v, ob'), obs)) (fit : Fits obs) (hF : Fr1 env L names) (R : RS Y g L names loc ob s0 s) (K : Then Y names L loc s0 g s v ob' Q) :
  wpAny (model Y.prog Y.w) A (eval (.Name x pos) env) Q E s := by
 refine bndL (ev_loc.symm.trans e) fit fun a l2 e1 e2 _ => ?_
 have K := fT e2 K
 have hl := getLoc_is e1
 obtain ⟨mm, hn, hv⟩ := R.ns
 obtain ⟨v, q1, q2⟩ := hv k x _ hk hl
 exact wpAny_Name (wpAny_loadName_local hF.kind (by unfold Env.kindOf; rw [hF.nms]; exact lookup_at hF.nodup hk) (by rw [hF.loc]; exact hn) q1 (K g s v R (Go.refl _ _ _) q2)) hx
theorem a_glob (O : Y.Ok) (TO : TabOk Y T d) {j : Nat} {x : Str} {a : AV} (hx : (x == ("__debug__" : Str)) = false) (h1 : names.lookup x = some NameKind.globalImplicit) (hj : T.globs[j]? = some (x, a)) (e : ev T (n + 1) (.glob j) loc ob = some ((v, ob'), obs)) (fit : Fits obs) (hF : Fr1 env L names) (R : RS Y g L names loc ob s0 s) (K : Then Y names L loc s0 g s v ob' Q) :
  wpAny (model Y.prog Y.w) A (eval (.Name x pos) env) Q E s := by
 refine bndL (ev_glob.symm.trans e) fit fun a' l2 e1 e2 _ => ?_
 have K := fT e2 K
 have ha : (x, a) = a' := by rw [hj] at e1; exact Option.some.inj e1
 obtain ⟨v, hv, st⟩ := TO.globs _ (List.mem_of_getElem? hj)
 have fin : Q v s := K g s v R (Go.refl _ _ _) (ha ▸ st.here R.toRO)
 have hG : s.heap.Ns env.globals Y.mg := by rw [hF.glob]; exact O.G.keeps R.keep
 have hB : s.heap.Ns env.builtins Y.mb := by rw [hF.blt]; exact O.B.keeps R.keep
 refine Calls.Name_function_global hF.kind (by unfold Env.kindOf; rw [hF.nms]; exact h1) ?_ hx
 rcases hv with hv | ⟨hv1, hv2⟩
 ·exact Calls.loadGlobal_global hG hv fin
 ·exact Calls.loadGlobal_builtin hG hv1 hB hv2 fin
theorem a_attr (O : Y.Ok) (TO : TabOk Y T d) (H : SndE Y T d names (ev T n)) {x : PySem.Expr} {o : PE} {nn : List Nat} (ok1 : notSuper x = true) (ok2 : okE names T.globs m o x = true) (e : ev T (n + 1) (.attr o nn) loc ob = some ((v, ob'), obs)) (fit : Fits obs) (hF : Fr1 env L names) (hD : Deep d A) (R : RS Y g L names loc ob s0 s) (K : Then Y names L loc s0 g s v ob' Q) :
  wpAny (model Y.prog Y.w) A (eval (.Attribute x (sOf nn) pos) env) Q E s := by
 refine bndP e fit fun o1 ob1 l1 l2 e1 e2 fit1 fit => ?_
 refine bndL e2 fit fun b l3 e3 e4 _ => ?_
 have K := fT e4 K
 rw [arm_eval_Attribute, base_whole ok1]
 refine wpAny_bind (H m o x _ _ _ _ _ e1 ok2 fit1 A env L g s0 s _ E hF hD R fun g1 s1 val R1 go1 r1 => ?_)
 refine wpAny_bind (wpAny_standAt (wpAny_bind (wpAny_holding ?_)))
 refine getA_sound O TO e3 r1 R1 fun g2 s2 w R2 go2 r2 => ?_
 exact wpAny_bind (wpAny_letTemporaryGo (wpAny_pure (K g2 s2 w R2 (go1.trans go2) r2)))
theorem a_bin (H : SndE Y T d names (ev T n)) {x y : PySem.Expr} {o : Operator} {p : Op} {a b : PE} (ok0 : okOp p o = true) (ok1 : okE names T.globs m a x = true) (ok2 : okE names T.globs m b y = true) (e : ev T (n + 1) (.bin p a b) loc ob = some ((v, ob'), obs)) (fit : Fits obs) (hF : Fr1 env L names) (hD : Deep d A) (R : RS Y g L names loc ob s0 s) (K : Then Y names L loc s0 g s v ob' Q) :
  wpAny (model Y.prog Y.w) A (eval (.BinOp x o y pos) env) Q E s := by
 refine bndP e fit fun o1 ob1 l1 l2 e1 e2 fit1 fit => ?_
 refine bndP e2 fit fun o2 ob2 l3 l4 e3 e4 fit3 fit => ?_
 refine bndF e4 fit fun z l5 l6 e5 e6 fit5 _ => ?_
 have K := fT e6 K
 rw [arm_eval_BinOp]
 refine wpAny_bind (H m _ x _ _ _ _ _ e1 ok1 fit1 A env L g s0 s _ E hF hD R fun g1 s1 val R1 go1 r1 => ?_)
 refine wpAny_bind (wpAny_holding (H m _ y _ _ _ _ _ e3 ok2 fit3 A env L g1 s0 s1 _ E hF hD R1 fun g2 s2 val2 R2 go2 r2 => ?_))
 refine wpAny_bind (wpAny_standAt (wpAny_operate' ?_))
 exact (binS_sound ok0 e5 fit5 (r1.step R1 go2) r2 R2 fun g3 s3 w R3 go3 r3 => K g3 s3 w R3 ((go1.trans go2).trans go3) r3).1
theorem no_marks {op : CmpOp} {y : PE} {e : PySem.Expr} (h : okE names T.globs m y e = true) : behindInMarks op e = false := by
 cases m with
 | zero => exact nt h
 | succ m =>
  replace h := okE_is h
  induction h <;> rfl
theorem marked_same {ops : List CmpOp} : ∀ {ys : List PE} {es : List PySem.Expr}, all2 (okE names T.globs m) ys es = true → lastMarks ops es = false := by
 intro ys es
 have set : ∀ (ops : List CmpOp) (ys : List PE) (es : List PySem.Expr), all2 (okE names T.globs m) ys es = true → lastMarks ops es = false := by
  intro ops
  induction ops with
  | nil => intros; rfl
  | cons op ops ih =>
   intro ys es h
   cases es with
   | nil => cases ops <;> rfl
   | cons e es =>
    cases ys with
    | nil => cases h
    | cons y ys =>
     obtain ⟨h1, h2⟩ := Bool.and_eq_true_iff.mp h
     have hb : behindInMarks op e = false := no_marks h1
     cases ops with
     | nil => cases es <;> first | exact hb | rfl
     | cons o2 ops => cases es <;> exact ih ys _ h2
 exact set ops ys es
theorem chain_sound (O : Y.Ok) (TO : TabOk Y T d) (H : SndE Y T d names (ev T n)) (hF : Fr1 env L names) (hD : Deep d A) (ps : List Cop) : ∀ {ops : List CmpOp} {ys : List PE} {es : List PySem.Expr} {ob : List AObj} {x : AV} {b : Bool} {ob' : List AObj} {obs : List Nat}, evc T (ev T n) x ps ys loc ob = some ((b, ob'), obs) → all2 okCop ps ops = true → all2 (okE names T.globs m) ys es = true → Fits obs →
  ∀ {g : G} {s : Shared} {left : Value}, RS Y g L names loc ob s0 s → RelV s.heap g x left →
   (∀ {Q : Value → Shared → Prop}, (∀ g' s', RS Y g' L names loc ob' s0 s' → Go (some L) g s.heap g' s'.heap → Q (.bool b) s') → wpAny (model Y.prog Y.w) A (compareChain pos left ops (evalEach es env)) Q E s) ∧
   (∀ {Q : Bool → Shared → Prop}, ThenB Y names L loc s0 g s b ob' Q → wpAny (model Y.prog Y.w) A (testChain pos left ops (evalEach es env)) Q E s) := by
 induction ps with
 | nil => intro _ _ _ _ _ _ _ _ e; exact nO e
 | cons p ps ih =>
  intro ops ys es ob x b ob' obs e oko oke fit g s left R rx
  cases ys with
  | nil => exact nO e
  | cons y ys =>
  cases es with
  | nil => exact nt oke
  | cons ex es =>
  cases ops with
  | nil => exact nt oko
  | cons op ops =>
  have oo1 := (and2 oko).1
  have oe1 := (and2 oke).1
  replace oko := (and2 oko).2
  replace oke := (and2 oke).2
  refine bndP e fit fun o1 ob1 l1 l2 e1 e2 fit1 fit => ?_
  clear e
  refine bndL e2 fit fun b1 l3 e3 e4 fit3 => ?_
  clear e2
  cases ps with
  | nil =>
   cases ops with
   | cons _ _ => exact nt oko
   | nil =>
   cases ys with
   | cons _ _ => exact nO e4
   | nil =>
   cases es with
   | cons _ _ => exact nt oke
   | nil =>
   clear ih
   refine ⟨fun {Q} K => ?_, fun {Q} K => ?_⟩
   ·replace K := fine_thenB (Q := fun b => Q (.bool b)) e4 K
    show wpAny _ _ (do let rv ← holding [left] (eval ex env); standAt pos; operate [left, rv] (compareOp op left rv)) _ _ _
    refine wpAny_bind (wpAny_holding (H m _ ex _ _ _ _ _ e1 oe1 fit1 A env L g s0 s _ E hF hD R fun g1 s1 val R1 go1 r1 => ?_))
    refine wpAny_bind (wpAny_standAt (wpAny_operate' ?_))
    refine cmpS_sound O TO hD oo1 e3 (rx.step R go1) r1 R1 fun g2 s2 w R2 go2 r2 => ?_
    rw [relV_bool r2]
    exact K g2 s2 R2 (go1.trans go2)
   ·replace K := fine_thenB e4 K
    show wpAny _ _ (do let rv ← holding [left] (eval ex env); standAt pos; let c ← operate [left, rv] (compareOp op left rv); holding [c] (truthy c)) _ _ _
    refine wpAny_bind (wpAny_holding (H m _ ex _ _ _ _ _ e1 oe1 fit1 A env L g s0 s _ E hF hD R fun g1 s1 val R1 go1 r1 => ?_))
    refine wpAny_bind (wpAny_standAt (wpAny_bind (wpAny_operate' ?_)))
    refine cmpS_sound O TO hD oo1 e3 (rx.step R go1) r1 R1 fun g2 s2 w R2 go2 r2 => ?_
    rw [relV_bool r2]
    exact wpAny_holding (wpAny_truthy_bool (K g2 s2 R2 (go1.trans go2)))
  | cons p2 ps =>
   cases ops with
   | nil => exact nt oko
   | cons op2 ops =>
   refine ⟨fun {Q} K => ?_, fun {Q} K => ?_⟩
   ·show wpAny _ _ (do
     let rv ← holding [left] (eval ex env)
     standAt pos
     let c ← holding [left, rv] (compareOp op left rv)
     release [left, rv] [c]
     if ← holding [c, rv] (truthy c) then compareChain pos rv (op2 :: ops) (evalEach es env) else pure c) _ _ _
    refine wpAny_bind (wpAny_holding (H m _ ex _ _ _ _ _ e1 oe1 fit1 A env L g s0 s _ E hF hD R fun g1 s1 val R1 go1 r1 => ?_))
    refine wpAny_bind (wpAny_standAt (wpAny_bind (wpAny_holding ?_)))
    refine cmpS_sound O TO hD oo1 e3 (rx.step R go1) r1 R1 fun g2 s2 w R2 go2 r2 => ?_
    rw [relV_bool r2]
    refine wpAny_bind (wpAny_release' (wpAny_bind (wpAny_holding (wpAny_truthy_bool ?_))))
    cases b1 with
    | true => exact (ih e4 oko oke fit3 R2 (r1.step R1 go2)).1 fun g3 s3 R3 go3 => K g3 s3 R3 ((go1.trans go2).trans go3)
    | false => exact wpAny_pure (fine_thenB (Q := fun b => Q (.bool b)) e4 K g2 s2 R2 (go1.trans go2))
   ·show wpAny _ _ (do
     let rv ← holding [left] (eval ex env)
     standAt pos
     let c ← holding [left, rv] (compareOp op left rv)
     release [left, rv] [c]
     if ← holding [c, rv] (truthy c) then testChain pos rv (op2 :: ops) (evalEach es env) else pure false) _ _ _
    refine wpAny_bind (wpAny_holding (H m _ ex _ _ _ _ _ e1 oe1 fit1 A env L g s0 s _ E hF hD R fun g1 s1 val R1 go1 r1 => ?_))
    refine wpAny_bind (wpAny_standAt (wpAny_bind (wpAny_holding ?_)))
    refine cmpS_sound O TO hD oo1 e3 (rx.step R go1) r1 R1 fun g2 s2 w R2 go2 r2 => ?_
    rw [relV_bool r2]
    refine wpAny_bind (wpAny_release' (wpAny_bind (wpAny_holding (wpAny_truthy_bool ?_))))
    cases b1 with
    | true => exact (ih e4 oko oke fit3 R2 (r1.step R1 go2)).2 fun g3 s3 R3 go3 => K g3 s3 R3 ((go1.trans go2).trans go3)
    | false => exact wpAny_pure (fine_thenB e4 K g2 s2 R2 (go1.trans go2))
end
section
set_option backward.match.sparseCases true
section
variable {Y : Sys} {T : Tab} {d : Nat} {names : List (Str × NameKind)} {L : Addr} {loc : Loc} {ob : List AObj} {s0 s : Shared} {g : G} {A : Around} {E : Value → Shared → Prop} {env : Env} {n m : Nat} {v : AV} {ob' : List AObj} {obs : List Nat} {Q : Value → Shared → Prop} {pos : Pos}
theorem typeIs_push {u : Value} {TN : String} {o : Obj} (h : s.TypeIs u TN) : ({ s with heap := s.heap.push o } : Shared).TypeIs u TN := by
 cases u with
 | ref a => obtain ⟨o', h1, h2⟩ := h; exact ⟨o', Heap.get?_push_of_some _ h1, h2⟩
 | _ => exact h
theorem a_cmp (O : Y.Ok) (TO : TabOk Y T d) (H : SndE Y T d names (ev T n)) {x : PySem.Expr} {ops : List CmpOp} {es : List PySem.Expr} {a : PE} {ps : List Cop} {ys : List PE} (ok0 : all2 okCop ps ops = true) (ok1 : okE names T.globs m a x = true) (ok2 : all2 (okE names T.globs m) ys es = true) (e : ev T (n + 1) (.cmp a ps ys) loc ob = some ((v, ob'), obs)) (fit : Fits obs) (hF : Fr1 env L names) (hD : Deep d A) (R : RS Y g L names loc ob s0 s) (K : Then Y names L loc s0 g s v ob' Q) :
  wpAny (model Y.prog Y.w) A (eval (.Compare x ops es pos) env) Q E s := by
 refine bndP e fit fun o1 ob1 l1 l2 e1 e2 fit1 fit => ?_
 refine bndP e2 fit fun b ob2 l3 l4 e3 e4 fit3 _ => ?_
 have K := fT e4 K
 rw [arm_eval_Compare, markedEach_of_false _ _ _ (marked_same ok2)]
 refine wpAny_bind (H m _ x _ _ _ _ _ e1 ok1 fit1 A env L g s0 s _ E hF hD R fun g1 s1 val R1 go1 r1 => ?_)
 exact (chain_sound O TO H hF hD ps e3 ok0 ok2 fit3 R1 r1).1 fun g2 s2 R2 go2 => K g2 s2 _ R2 (go1.trans go2) (by rfl)
theorem t_cmp (O : Y.Ok) (TO : TabOk Y T d) (H : SndE Y T d names (ev T n)) {x : PySem.Expr} {ops : List CmpOp} {es : List PySem.Expr} {a : PE} {ps : List Cop} {ys : List PE} {b : Bool} (ok0 : all2 okCop ps ops = true) (ok1 : okE names T.globs m a x = true) (ok2 : all2 (okE names T.globs m) ys es = true) (e : tv T (n + 1) (.cmp a ps ys) loc ob = some ((b, ob'), obs)) (fit : Fits obs) (hF : Fr1 env L names) (hD : Deep d A) (R : RS Y g L names loc ob s0 s) {Q : Bool → Shared → Prop} (K : ThenB Y names L loc s0 g s b ob' Q) (w : Sem Value) :
  wpAny (model Y.prog Y.w) A (isTrue (.Compare x ops es pos) env w) Q E s := by
 refine bndP e fit fun o1 ob1 l1 l2 e1 e2 fit1 fit => ?_
 rw [arm_isTrue_Compare, markedEach_of_false _ _ _ (marked_same ok2)]
 refine wpAny_bind (H m _ x _ _ _ _ _ e1 ok1 fit1 A env L g s0 s _ E hF hD R fun g1 s1 val R1 go1 r1 => ?_)
 exact (chain_sound O TO H hF hD ps e2 ok0 ok2 fit R1 r1).2 fun g2 s2 R2 go2 => K g2 s2 R2 (go1.trans go2)
theorem bool_sound (H : SndE Y T d names (ev T n)) (hF : Fr1 env L names) (hD : Deep d A) (c : Bool) (o : BoolOp) (hc : (c == (o == .And)) = true) (ys : List PE) : ∀ {es : List PySem.Expr} {ob : List AObj} {v : AV} {ob' : List AObj} {obs : List Nat}, evb (ev T n) c ys loc ob = some ((v, ob'), obs) → all2 (okE names T.globs m) ys es = true → Fits obs →
  ∀ {g : G} {s : Shared} {Q : Value → Shared → Prop}, RS Y g L names loc ob s0 s → Then Y names L loc s0 g s v ob' Q → wpAny (model Y.prog Y.w) A (boolOp pos o (evalEach es env)) Q E s := by
 induction ys with
 | nil => intro _ _ _ _ _ e; exact nO e
 | cons y ys ih =>
  intro es ob v ob' obs e ok fit g s Q R K
  cases es with
  | nil => exact nt ok
  | cons ex es =>
  have ok1 := (and2 ok).1
  replace ok := (and2 ok).2
  cases ys with
  | nil =>
   cases es with
   | cons _ _ => exact nt ok
   | nil => exact H m _ ex _ _ _ _ _ e ok1 fit A env L g s0 s _ E hF hD R K
  | cons y2 ys =>
  cases es with
  | nil => exact nt ok
  | cons ex2 es =>
  refine bndP e fit fun o1 ob1 l1 l2 e1 e2 fit1 fit => ?_
  clear e
  refine bndF e2 fit fun b l3 l4 e3 e4 fit3 fit4 => ?_
  clear e2
  show wpAny _ _ (do
   let v ← eval ex env
   standAt pos
   let t ← holding [v] (truthy v)
   match o, t with
   | .And, false | .Or, true => pure v
   | _, _ => boolOp pos o (evalEach (ex2 :: es) env)) _ _ _
  refine wpAny_bind (H m _ ex _ _ _ _ _ e1 ok1 fit1 A env L g s0 s _ E hF hD R fun g1 s1 val R1 go1 r1 => ?_)
  refine wpAny_bind (wpAny_standAt (wpAny_bind (wpAny_holding (truth_sound e3 fit3 r1 R1 fun g2 s2 R2 go2 => ?_))))
  have stop : fine (o1, ob1) = some ((v, ob'), l4) → Q val s2 := fun z => fT z K g2 s2 val R2 (go1.trans go2) (r1.step R1 go2)
  have go : evb (ev T n) c (y2 :: ys) loc ob1 = some ((v, ob'), l4) → wpAny (model Y.prog Y.w) A (boolOp pos o (evalEach (ex2 :: es) env)) Q E s2 := fun z =>
   ih z ok fit4 R2 fun g3 s3 w R3 go3 r3 => K g3 s3 w R3 ((go1.trans go2).trans go3) r3
  clear ih K R H
  cases o <;> cases c <;> cases b <;> first | exact nt hc | exact wpAny_pure (stop e4) | exact go e4
theorem all_sound (HT : SndT Y T d names (tv T n)) (hF : Fr1 env L names) (hD : Deep d A) (c : Bool) (o : BoolOp) (hc : (c == (o == .And)) = true) (ys : List PE) : ∀ {es : List PySem.Expr} {ob : List AObj} {b : Bool} {ob' : List AObj} {obs : List Nat}, tvs (tv T n) c ys loc ob = some ((b, ob'), obs) → all2 (okE names T.globs m) ys es = true → Fits obs →
  ∀ {g : G} {s : Shared} {Q : Bool → Shared → Prop}, RS Y g L names loc ob s0 s → ThenB Y names L loc s0 g s b ob' Q → wpAny (model Y.prog Y.w) A (allTrue o es env) Q E s := by
 induction ys with
 | nil =>
  intro es ob b ob' obs e ok fit g s Q R K
  cases es with
  | cons _ _ => exact nt ok
  | nil =>
  have K := fine_thenB e K
  rw [arm_allTrue_nil]
  refine wpAny_pure ?_
  rw [← eq_of_beq hc]
  exact K g s R (Go.refl _ _ _)
 | cons y ys ih =>
  intro es ob b ob' obs e ok fit g s Q R K
  cases es with
  | nil => exact nt ok
  | cons ex es =>
  have ok1 := (and2 ok).1
  replace ok := (and2 ok).2
  refine bndP e fit fun b1 ob1 l1 l2 e1 e2 fit1 fit2 => ?_
  clear e
  rw [arm_allTrue_cons]
  refine wpAny_bind (HT m _ ex _ _ _ _ _ e1 ok1 fit1 A env L g s0 s _ E hF hD R fun g1 s1 R1 go1 => ?_)
  have stop : ∀ {z : Bool}, fine (z, ob1) = some ((b, ob'), l2) → Q z s1 := fun z => fine_thenB z K g1 s1 R1 go1
  have go : tvs (tv T n) c ys loc ob1 = some ((b, ob'), l2) → wpAny (model Y.prog Y.w) A (allTrue o es env) Q E s1 := fun z =>
   ih z ok fit2 R1 fun g3 s3 R3 go3 => K g3 s3 R3 (go1.trans go3)
  clear ih K R HT e1
  cases o <;> cases c <;> cases b1 <;> first | exact nt hc | exact wpAny_pure (stop e2) | exact go e2
theorem a_not (H : SndE Y T d names (ev T n)) {x : PySem.Expr} {a : PE} (ok : okE names T.globs m a x = true) (e : ev T (n + 1) (.not a) loc ob = some ((v, ob'), obs)) (fit : Fits obs) (hF : Fr1 env L names) (hD : Deep d A) (R : RS Y g L names loc ob s0 s) (K : Then Y names L loc s0 g s v ob' Q) :
  wpAny (model Y.prog Y.w) A (eval (.UnaryOp .Not x pos) env) Q E s := by
 refine bndP e fit fun o1 ob1 l1 l2 e1 e2 fit1 fit => ?_
 refine bndF e2 fit fun b l3 l4 e3 e4 fit3 _ => ?_
 have K := fT e4 K
 rw [arm_eval_UnaryOp]
 refine wpAny_bind (H m _ x _ _ _ _ _ e1 ok fit1 A env L g s0 s _ E hF hD R fun g1 s1 val R1 go1 r1 => ?_)
 refine wpAny_bind (wpAny_standAt (wpAny_holding (not_of ?_)))
 exact truth_sound e3 fit3 r1 R1 fun g2 s2 R2 go2 => K g2 s2 _ R2 (go1.trans go2) (by rfl)
theorem a_neg {i : Int} {k : Nat} {q : Pos} (e : ev T (n + 1) (.neg (.int i)) loc ob = some ((v, ob'), obs)) (R : RS Y g L names loc ob s0 s) (K : Then Y names L loc s0 g s v ob' Q) :
  wpAny (model Y.prog Y.w) A (eval (.UnaryOp .USub (.Constant (.int i) k q) pos) env) Q E s := by
 have K := fT (w := .int (-i)) e K
 rw [arm_eval_UnaryOp]
 refine wpAny_bind (wpAny_Constant_int (wpAny_bind (wpAny_standAt (wpAny_holding (P.neg_int ?_)))))
 exact K g _ _ ((R.toks (s.toks + 1)).toks _) (Go.refl _ _ _) (by exact ⟨_, rfl⟩)
theorem a_ite (H : SndE Y T d names (ev T n)) (HT : SndT Y T d names (tv T n)) {x y z : PySem.Expr} {c a b : PE} (ok0 : okE names T.globs m c x = true) (ok1 : okE names T.globs m a y = true) (ok2 : okE names T.globs m b z = true) (e : ev T (n + 1) (.ite c a b) loc ob = some ((v, ob'), obs)) (fit : Fits obs) (hF : Fr1 env L names) (hD : Deep d A) (R : RS Y g L names loc ob s0 s) (K : Then Y names L loc s0 g s v ob' Q) :
  wpAny (model Y.prog Y.w) A (eval (.IfExp x y z pos) env) Q E s := by
 refine bndP e fit fun t ob1 l1 l2 e1 e2 fit1 fit2 => ?_
 clear e
 rw [arm_eval_IfExp]
 refine wpAny_bind (HT m _ x _ _ _ _ _ e1 ok0 fit1 A env L g s0 s _ E hF hD R fun g1 s1 R1 go1 => ?_)
 clear e1
 cases t with
 | true =>
  rw [if_pos rfl]
  exact H m _ y _ _ _ _ _ e2 ok1 fit2 A env L g1 s0 s1 _ E hF hD R1 fun g2 s2 w R2 go2 r2 => K g2 s2 w R2 (go1.trans go2) r2
 | false =>
  rw [if_neg Bool.false_ne_true]
  exact H m _ z _ _ _ _ _ e2 ok2 fit2 A env L g1 s0 s1 _ E hF hD R1 fun g2 s2 w R2 go2 r2 => K g2 s2 w R2 (go1.trans go2) r2
theorem t_ite (HT : SndT Y T d names (tv T n)) {x y z : PySem.Expr} {c a b : PE} {r : Bool} (ok0 : okE names T.globs m c x = true) (ok1 : okE names T.globs m a y = true) (ok2 : okE names T.globs m b z = true) (e : tv T (n + 1) (.ite c a b) loc ob = some ((r, ob'), obs)) (fit : Fits obs) (hF : Fr1 env L names) (hD : Deep d A) (R : RS Y g L names loc ob s0 s) {Q : Bool → Shared → Prop} (K : ThenB Y names L loc s0 g s r ob' Q) (w : Sem Value) :
  wpAny (model Y.prog Y.w) A (isTrue (.IfExp x y z pos) env w) Q E s := by
 refine bndP e fit fun t ob1 l1 l2 e1 e2 fit1 fit2 => ?_
 clear e
 rw [arm_isTrue_IfExp]
 refine wpAny_bind (HT m _ x _ _ _ _ _ e1 ok0 fit1 A env L g s0 s _ E hF hD R fun g1 s1 R1 go1 => ?_)
 clear e1
 cases t with
 | true =>
  rw [if_pos rfl]
  exact HT m _ y _ _ _ _ _ e2 ok1 fit2 A env L g1 s0 s1 _ E hF hD R1 fun g2 s2 R2 go2 => K g2 s2 R2 (go1.trans go2)
 | false =>
  rw [if_neg Bool.false_ne_true]
  exact HT m _ z _ _ _ _ _ e2 ok2 fit2 A env L g1 s0 s1 _ E hF hD R1 fun g2 s2 R2 go2 => K g2 s2 R2 (go1.trans go2)
theorem part_sound (H : SndE Y T d names (ev T n)) {o : Option PE} {x : Option PySem.Expr} (ok : okOpt (okE names T.globs m) o x = true) (e : evo (ev T n) o loc ob = some ((v, ob'), obs)) (fit : Fits obs) (hF : Fr1 env L names) (hD : Deep d A) (R : RS Y g L names loc ob s0 s) (K : Then Y names L loc s0 g s v ob' Q) :
  wpAny (model Y.prog Y.w) A (evalPart x env) Q E s := by
 cases o with
 | none =>
  cases x with
  | some _ => exact nt ok
  | none => exact wpAny_pure (fT (w := .none) e K g s _ R (Go.refl _ _ _) (by rfl))
 | some o =>
  cases x with
  | none => exact nt ok
  | some x => exact H m _ x _ _ _ _ _ e ok fit A env L g s0 s _ E hF hD R K
theorem a_sub (O : Y.Ok) (TO : TabOk Y T d) (H : SndE Y T d names (ev T n)) {x y : PySem.Expr} {o i : PE} (hs : isSliceE y = false) (ok1 : okE names T.globs m o x = true) (ok2 : okE names T.globs m i y = true) (e : ev T (n + 1) (.sub o i) loc ob = some ((v, ob'), obs)) (fit : Fits obs) (hF : Fr1 env L names) (hD : Deep d A) (R : RS Y g L names loc ob s0 s) (K : Then Y names L loc s0 g s v ob' Q) :
  wpAny (model Y.prog Y.w) A (eval (.Subscript x y pos) env) Q E s := by
 refine bndP e fit fun o1 ob1 l1 l2 e1 e2 fit1 fit => ?_
 refine bndP e2 fit fun o2 ob2 l3 l4 e3 e4 fit3 fit => ?_
 refine bndL e4 fit fun z l5 e5 e6 _ => ?_
 have K := fT e6 K
 rw [eval_Subscript]
 refine wpAny_bind (H m _ x _ _ _ _ _ e1 ok1 fit1 A env L g s0 s _ E hF hD R fun g1 s1 val R1 go1 r1 => ?_)
 refine wpAny_bind (wpAny_holding (H m _ y _ _ _ _ _ e3 ok2 fit3 A env L g1 s0 s1 _ E hF hD R1 fun g2 s2 val2 R2 go2 r2 => ?_))
 refine wpAny_bind (wpAny_standAt ?_)
 exact subS_sound O TO hs e5 (r1.step R1 go2) r2 R2 fun g3 s3 w R3 go3 r3 => K g3 s3 w R3 ((go1.trans go2).trans go3) r3
theorem a_slc (O : Y.Ok) (TO : TabOk Y T d) (H : SndE Y T d names (ev T n)) {x : PySem.Expr} {l u : Option PySem.Expr} {p : Pos} {o : PE} {lo hi : Option PE} (ok0 : okE names T.globs m o x = true) (ok1 : okOpt (okE names T.globs m) lo l = true) (ok2 : okOpt (okE names T.globs m) hi u = true) (e : ev T (n + 1) (.slc o lo hi) loc ob = some ((v, ob'), obs)) (fit : Fits obs) (hF : Fr1 env L names) (hD : Deep d A) (R : RS Y g L names loc ob s0 s) (K : Then Y names L loc s0 g s v ob' Q) :
  wpAny (model Y.prog Y.w) A (eval (.Subscript x (.Slice l u none p) pos) env) Q E s := by
 refine bndP e fit fun o1 ob1 l1 l2 e1 e2 fit1 fit => ?_
 clear e
 refine bndP e2 fit fun o2 ob2 l3 l4 e3 e4 fit3 fit => ?_
 clear e2
 refine bndP e4 fit fun o3 ob3 l5 l6 e5 e6 fit5 fit6 => ?_
 clear e4
 refine two_ints e6 fun li ui hl hu e6 => ?_
 rw [eval_Subscript]
 refine wpAny_bind (H m _ x _ _ _ _ _ e1 ok0 fit1 A env L g s0 s _ E hF hD R fun g1 s1 val R1 go1 r1 => ?_)
 refine wpAny_bind (wpAny_holding (wpAny_Slice ?_))
 refine part_sound H ok1 e3 fit3 hF hD R1 fun g2 s2 vl R2 go2 r2 => ?_
 refine part_sound H ok2 e5 fit5 hF hD R2 fun g3 s3 vu R3 go3 r3 => ?_
 refine wpAny_pure (wpAny_bind (wpAny_standAt ?_))
 obtain ⟨p1, hp1, hp2, hp3⟩ := part_of hl (r2.step R2 go3)
 obtain ⟨p2, hq1, hq2, hq3⟩ := part_of hu r3
 obtain ⟨⟨TN, id, h1, h2⟩, h3⟩ := slcS_sound (E := E) (A := A) e6 fit6 ((r1.step R1 go2).step R2 go3) hp1 hq1 hp2 hq2 hp3 hq3 R3 (Q := Q) fun g4 s4 w R4 go4 r4 => K g4 s4 w R4 (((go1.trans go2).trans go3).trans go4) r4
 exact tail_any (ops := [.ref s3.heap.objs.size, val]) (slice := .Slice l u none p) (typeIs_push h1) h2 h3 rfl
end
end
section
set_option maxHeartbeats 1000000
section
variable {Y : Sys} {T : Tab} {d : Nat} {names : List (Str × NameKind)} {L : Addr} {loc : Loc} {ob : List AObj} {s0 s : Shared} {g : G} {A : Around} {E : Value → Shared → Prop} {env : Env} {n m : Nat} {v : AV} {ob' : List AObj} {obs : List Nat} {Q : Value → Shared → Prop} {pos : Pos}
theorem a_tup (H : SndE Y T d names (ev T n)) {es : List PySem.Expr} {c : Nat} {xs : List PE} (ok : all2 (okE names T.globs m) xs es = true) (e : ev T (n + 1) (.tup xs) loc ob = some ((v, ob'), obs)) (fit : Fits obs) (hF : Fr1 env L names) (hD : Deep d A) (R : RS Y g L names loc ob s0 s) (K : Then Y names L loc s0 g s v ob' Q) :
  wpAny (model Y.prog Y.w) A (eval (.Tuple es c pos) env) Q E s := by
 refine bndP (ev_tup.symm.trans e) fit fun vs ob1 l1 l2 e1 e2 fit1 fit2 => ?_
 clear e
 cases e2
 rw [arm_eval_Tuple]
 refine wpAny_bind (wpAny_standAt (wpAny_bind (evs_sound H hF hD pos e1 ok fit1 R fun g1 s1 vals R1 go1 r1 => ?_)))
 have hl : vals.length ≤ sizeLine := by rw [rvL r1]; exact fit2 _ (List.mem_cons_self ..)
 refine wpAny_newTuple ?_ hl
 refine K g1 _ _ (R1.push _) (go1.trans (Go.push _)) ?_
 exact ⟨_, vals, 0, rfl, R1.toRO.fresh, Heap.get?_push_size _ rfl, r1.go (L := .none) (Go.push _).ext (LOk.none _)⟩
theorem a_list (H : SndE Y T d names (ev T n)) {es : List PySem.Expr} {xs : List PE} (ok : all2 (okE names T.globs m) xs es = true) (e : ev T (n + 1) (.list xs) loc ob = some ((v, ob'), obs)) (fit : Fits obs) (hF : Fr1 env L names) (hD : Deep d A) (R : RS Y g L names loc ob s0 s) (K : Then Y names L loc s0 g s v ob' Q) :
  wpAny (model Y.prog Y.w) A (eval (.List es pos) env) Q E s := by
 refine bndP (ev_list.symm.trans e) fit fun vs ob1 l1 l2 e1 e2 fit1 fit2 => ?_
 clear e
 cases e2
 rw [arm_eval_List]
 refine wpAny_bind (wpAny_standAt (wpAny_bind (evs_sound H hF hD pos e1 ok fit1 R fun g1 s1 vals R1 go1 r1 => ?_)))
 have hl : vals.length ≤ sizeLine := by rw [rvL r1]; exact fit2 _ (List.mem_cons_self ..)
 refine wpAny_newList ?_ hl
 have go2 : Go (some L) g1 s1.heap (g1.add s1.heap.objs.size []) (s1.heap.push (lstObj vals 0)) := Go.add R1.lt (Nat.le_refl _) (fun _ q => mem_no q) (fun b o q => Heap.get?_push_of_some _ q)
 refine K (g1.add s1.heap.objs.size []) _ _ (RS.add R1 (t := s1.toks) (Nat.le_refl _) ⟨_, Heap.get?_push_size _ rfl⟩ (fun _ q => mem_no q) (fun b o q => Heap.get?_push_of_some _ q) ?_ (Nat.le_refl _)) (go1.trans go2) ?_
 ·exact ⟨_, vals, 0, by rw [← R1.len]; exact G.add_at _ _ _, by rw [← R1.len]; exact if_pos (.inl rfl), Heap.get?_push_size _ rfl, r1.go go2.ext R1.lok⟩
 ·exact ⟨_, by rw [← R1.len]; exact G.add_at _ _ _, rfl⟩
theorem all2_len {α β : Type} {f : α → β → Bool} {a : List α} {b : List β} (h : all2 f a b = true) : a.length = b.length := by
 induction a generalizing b with
 | nil => cases b with
  | nil => rfl
  | cons _ _ => exact nt h
 | cons x a ih => cases b with
  | nil => exact nt h
  | cons y b => exact congrArg Nat.succ (ih (and2 h).2)
theorem form_ok {as : List PE} {es : List PySem.Expr} (ok : all2 (okE names T.globs m) as es = true) (hl : as.length < 29) (p : Pos) (env : Env) : methodCallForm (es.length + 0) (backTo p (starEach es env)) [] = true := by
 have h1 := all2_len ok
 have h2 : (backTo p (starEach es env)).all (fun x => !x.1) = true := by
  have h := noStar (m := m) env p ok
  rw [List.all_eq_not_any_not]
  simp only [Bool.not_not]
  rw [h]; rfl
 unfold methodCallForm
 rw [h2]
 simp
 omega
theorem mcall {o : PySem.Expr} {name : Str} {apos : Pos} {ov : Value} {k : Nat} {args : List (Bool × Sem Value)} (hf : methodCallForm k args [] = true) (hp : apos.endLine = pos.line)
  (h : ∀ pl, wpAny (model Y.prog Y.w) A (getMethod ov name pl) (fun r s' => wpAny (model Y.prog Y.w) A (callWith pos r.1 r.2 args []) Q E s') E s) : wpAny (model Y.prog Y.w) A (methodCall o name apos pos env ov k args []) Q E s := by
 refine wpAny_bind (wpAny_holding ?_)
 unfold calleeOf
 rw [hf, if_pos rfl]
 refine wpAny_mono (h _) (fun r s' q => ?_) fun _ _ x => x
 obtain ⟨f, first⟩ := r
 have hb : (apos.endLine == pos.line) = true := by simp [hp]
 refine wpAny_bind ?_
 unfold methodCallPos
 rw [hb, Bool.or_true, if_pos rfl]
 exact wpAny_pure q
theorem call_plain {f : PySem.Expr} {xs : List PySem.Expr} (ok1 : isAttrE f = false) : eval (.Call f xs [] pos) env = (do callWith pos (← eval f env) [] (backTo pos (starEach xs env)) []) := by
 cases f with
 | Attribute _ _ _ => exact nt ok1.symm
 | _ => rfl
theorem a_meth (O : Y.Ok) (TO : TabOk Y T d) (H : SndE Y T d names (ev T n)) {x : PySem.Expr} {xs : List PySem.Expr} {apos : Pos} {o : PE} {nn : List Nat} {as : List PE} (ok1 : notSuper x = true) (ok2 : okE names T.globs m o x = true) (hpos : apos.endLine = pos.line) (ok3 : all2 (okE names T.globs m) as xs = true) (hlen : as.length < 29) (e : ev T (n + 1) (.meth o nn as) loc ob = some ((v, ob'), obs)) (fit : Fits obs) (hF : Fr1 env L names) (hD : Deep d A) (R : RS Y g L names loc ob s0 s) (K : Then Y names L loc s0 g s v ob' Q) :
  wpAny (model Y.prog Y.w) A (eval (.Call (.Attribute x (sOf nn) apos) xs [] pos) env) Q E s := by
 refine bndP e fit fun o1 ob1 l1 l2 e1 e2 fit1 fit => ?_
 clear e
 refine bndL e2 fit fun mt l3 e3 e4 fit => ?_
 clear e2
 refine bndP e4 fit fun vs ob2 l5 l6 e5 e6 fit5 fit6 => ?_
 clear e4
 rw [arm_eval_Call, base_whole ok1]
 refine wpAny_bind (H m o x _ _ _ _ _ e1 ok2 fit1 A env L g s0 s _ E hF hD R fun g1 s1 val R1 go1 r1 => ?_)
 refine wpAny_bind (wpAny_standAt ?_)
 refine mcall (form_ok ok3 hlen pos env) hpos fun pl => ?_
 refine findM_sound O TO e3 r1 R1 fun g2 s2 fv first R2 go2 mr => ?_
 refine callWith_sound H hF hD pos e5 ok3 fit5 R2 fun g3 s3 vals R3 go3 rv => ?_
 exact callM_sound O TO e6 fit6 hD R3 (mr.step R2 go3) rv fun g4 s4 w R4 go4 r4 => K g4 s4 w R4 (((go1.trans go2).trans go3).trans go4) r4
theorem a_repl (H : SndE Y T d names (ev T n)) {x : PySem.Expr} {apos : Pos} {o : PE} {p q : List Nat} {k1 k2 : Nat} {p1 p2 : Pos} (ok1 : notSuper x = true) (ok2 : okE names T.globs m o x = true) (hpos : apos.endLine = pos.line) (e : ev T (n + 1) (.repl o p q) loc ob = some ((v, ob'), obs)) (fit : Fits obs) (hF : Fr1 env L names) (hD : Deep d A) (R : RS Y g L names loc ob s0 s) (K : Then Y names L loc s0 g s v ob' Q) :
  wpAny (model Y.prog Y.w) A (eval (.Call (.Attribute x (sOf nReplace) apos) [.Constant (.str (sOf p)) k1 p1, .Constant (.str (sOf q)) k2 p2] [] pos) env) Q E s := by
 refine bndP e fit fun o1 ob1 l1 l2 e1 e2 fit1 fit => ?_
 clear e
 refine replI_is e2 fun z hz hne he => ?_
 clear e2
 cases he
 rw [arm_eval_Call, base_whole ok1]
 refine wpAny_bind (H m o x _ _ _ _ _ e1 ok2 fit1 A env L g s0 s _ E hF hD R fun g1 s1 val R1 go1 r1 => ?_)
 clear H e1 ok2
 subst hz
 obtain ⟨t, rfl⟩ := rvS r1
 clear r1
 refine wpAny_bind (wpAny_standAt ?_)
 have hform : methodCallForm 2 (backTo pos (starEach [PySem.Expr.Constant (.str (sOf p)) k1 p1, PySem.Expr.Constant (.str (sOf q)) k2 p2] env)) [] = true := by rfl
 refine mcall hform hpos fun pl => ?_
 rw [show sOf nReplace = ("replace" : Str) by decide +kernel]
 refine GM.replace ?_
 refine callWith_of (P := KeepH (.builtin "str.replace")) rfl (fun h x => x _) ?_
 refine Calls.evalArgs_plain ?_
 refine Calls.spliced_cons (Calls.Constant_str (k := k1) (pos := p1) ?_)
 refine Calls.spliced_cons (Calls.Constant_str (k := k2) (pos := p2) ?_)
 refine Calls.spliced_nil ⟨KeepH.builtin _ _, ?_⟩
 have hp := R1.pos
 have hb : z.length + (z.length + 1) * q.length ≤ 16777216 := by
  have := fit _ (List.mem_cons_self ..)
  rw [sizeLine_eq] at this; exact this
 have e24 : (2 : Nat) ^ 24 = 16777216 := by decide
 have hb' : (sOf z).length + ((sOf z).length + 1) * (sOf q).length ≤ 16777216 := by rw [sOf_len, sOf_len]; exact hb
 have hl : Builtin.Str.tooLong ((sOf z).length + (Builtin.Str.occurrences (sOf z) (sOf p) 0 (sOf z).length ((sOf z).length + 1)).length * (sOf q).length) = false := by
  have h1 := StrLaws.occ_length_le (sOf z) (sOf p) 0 (sOf z).length ((sOf z).length + 1)
  have h2 : (Builtin.Str.occurrences (sOf z) (sOf p) 0 (sOf z).length ((sOf z).length + 1)).length * (sOf q).length ≤ ((sOf z).length + 1) * (sOf q).length := Nat.mul_le_mul_right _ h1
  unfold Builtin.Str.tooLong sizeLine
  exact decide_eq_false (by omega)
 have hz0 : ((s1.toks : Nat) == 0 || (s1.toks + 1 : Nat) == 0) = false := by
  rw [beq_eq_false_iff_ne.mpr (Nat.pos_iff_ne_zero.mp hp), Bool.false_or, beq_eq_false_iff_ne]
  exact Nat.succ_ne_zero _
 have hz1 : ((s1.toks : Nat) == (s1.toks + 1 : Nat)) = false := by
  rw [beq_eq_false_iff_ne]; exact Nat.ne_of_lt (Nat.lt_succ_self _)
 have hpq : (sOf p == sOf q) = false := by rw [beq_sOf]; exact decide_eq_false hne
 have K' : ∀ t', Q (.str (Txt.replace (sOf z) (sOf p) (sOf q)) t') { s1 with toks := s1.toks + 1 + 1 } := fun t' =>
  K g1 _ _ (R1.toks (s1.toks + 1 + 1)) go1 (by unfold RelV; exact ⟨t', by unfold replS; rw [sOf_back]⟩)
 have K2 : ∀ t', Q (.str (Txt.replace (sOf z) (sOf p) (sOf q)) t') { s1 with toks := s1.toks + 1 + 1 + 1 } := fun t' =>
  K g1 _ _ (R1.toks (s1.toks + 1 + 1 + 1)) go1 (by unfold RelV; exact ⟨t', by unfold replS; rw [sOf_back]⟩)
 refine call_gives PySem.F.slot_str_replace (typeIs_str _ _ _) PySem.F.entry_str_replace (PySem.F.args_str_replace_3 _ _ _)
  (gives_str_replace (sOf z) (sOf p) (sOf q) t s1.toks (s1.toks + 1) fun _ => ⟨hz0, hz1, hpq, hl⟩) ?_
 unfold Txt.replace at K' K2
 cases hc : ((Builtin.Str.occurrences (sOf z) (sOf p) 0 (sOf z).length ((sOf z).length + 1)).isEmpty || ((sOf p).length == 0 && (sOf q).length == 0))
 ·rw [hc] at K' K2
  simp only [Bool.false_eq_true, if_false] at K' K2 ⊢
  exact ⟨fits_replaced (sOf p) hb', K2 _⟩
 ·rw [hc] at K' K2
  simp only [if_true] at K' K2 ⊢
  exact K' t
theorem a_callf (O : Y.Ok) (TO : TabOk Y T d) (H : SndE Y T d names (ev T n)) {f : PySem.Expr} {xs : List PySem.Expr} {gq : PE} {as : List PE} (ok1 : isAttrE f = false) (ok2 : okE names T.globs m gq f = true) (ok3 : all2 (okE names T.globs m) as xs = true) (e : ev T (n + 1) (.call gq as) loc ob = some ((v, ob'), obs)) (fit : Fits obs) (hF : Fr1 env L names) (hD : Deep d A) (R : RS Y g L names loc ob s0 s) (K : Then Y names L loc s0 g s v ob' Q) :
  wpAny (model Y.prog Y.w) A (eval (.Call f xs [] pos) env) Q E s := by
 refine bndP e fit fun o1 ob1 l1 l2 e1 e2 fit1 fit => ?_
 clear e
 refine bndP e2 fit fun vs ob2 l5 l6 e5 e6 fit5 fit6 => ?_
 clear e2
 rw [call_plain ok1]
 refine wpAny_bind (H m _ f _ _ _ _ _ e1 ok2 fit1 A env L g s0 s _ E hF hD R fun g1 s1 val R1 go1 r1 => ?_)
 refine callWith_sound H hF hD pos e5 ok3 fit5 R1 fun g2 s2 vals R2 go2 rv => ?_
 exact callF_sound O TO e6 fit6 hD R2 (r1.step R1 go2) rv fun g4 s4 w R4 go4 r4 => K g4 s4 w R4 ((go1.trans go2).trans go4) r4
end
end
section
variable {Y : Sys} {T : Tab} {d : Nat} {names : List (Str × NameKind)} {L : Addr} {loc : Loc} {ob : List AObj} {s0 s : Shared} {g : G} {A : Around} {E : Value → Shared → Prop} {env : Env} {n m : Nat} {v : AV} {ob' : List AObj} {obs : List Nat} {Q : Value → Shared → Prop} {pos : Pos}
theorem pairs_sound {f : PE → Loc → List AObj → Res (AV × List AObj)} (H : SndE Y T d names f) (hF : Fr1 env L names) (hD : Deep d A) (ks : List PE) : ∀ {vs : List PE} {xs : List (Option PySem.Expr)} {ys : List PySem.Expr} {ob : List AObj} {a b : List AV} {ob' : List AObj} {obs : List Nat}, evd f ks vs loc ob = some (((a, b), ob'), obs) → okKeys (okE names T.globs m) ks xs = true → all2 (okE names T.globs m) vs ys = true → Fits obs →
  ∀ {g : G} {s : Shared} {Q : List (Value × Value) → Shared → Prop}, RS Y g L names loc ob s0 s →
   (∀ g' s' ka va, RS Y g' L names loc ob' s0 s' → Go (some L) g s.heap g' s'.heap → RelVs s'.heap g' a ka → RelVs s'.heap g' b va → Q (ka.zip va) s') →
   wpAny (model Y.prog Y.w) A (evalPairs (pairTrees xs ys env pos)) Q E s := by
 induction ks with
 | nil =>
  intro vs xs ys ob a b ob' obs e ok1 ok2 fit g s Q R K
  cases vs with
  | cons _ _ => exact nO e
  | nil =>
  cases xs with
  | cons _ _ => exact nt ok1
  | nil =>
  cases ys with
  | cons _ _ => exact nt ok2
  | nil =>
  clear ok1 ok2
  have q := fine_eq e
  clear e
  cases q
  exact pairTrees_nil_walk (K g s [] [] R (Go.refl _ _ _) (by rfl) (by rfl))
 | cons k ks ih =>
  intro vs xs ys ob a b ob' obs e ok1 ok2 fit g s Q R K
  cases vs with
  | nil => exact nO e
  | cons v vs =>
  cases xs with
  | nil => exact nt ok1
  | cons x xs =>
  cases x with
  | none => exact nt ok1
  | some x =>
  cases ys with
  | nil => exact nt ok2
  | cons y ys =>
  replace ok1 := and2 ok1
  replace ok2 := and2 ok2
  refine bndP e fit fun kv ob1 l1 l2 e1 e2 fit1 fit => ?_
  clear e
  refine bndP e2 fit fun vv ob2 l3 l4 e3 e4 fit3 fit => ?_
  clear e2
  refine bndP e4 fit fun ab ob3 l5 l6 e5 e6 fit5 _ => ?_
  clear e4
  have q := fine_eq e6
  clear e6
  cases q
  refine pairTrees_cons_walk ?_
  refine H m _ x _ _ _ _ _ e1 ok1.1 fit1 A env L g s0 s _ E hF hD R fun g1 s1 val R1 go1 r1 => ?_
  refine H m _ y _ _ _ _ _ e3 ok2.1 fit3 A env L g1 s0 s1 _ E hF hD R1 fun g2 s2 val2 R2 go2 r2 => ?_
  refine ih e5 ok1.2 ok2.2 fit5 R2 fun g3 s3 ka va R3 go3 ra rb => ?_
  refine K g3 s3 (val :: ka) (val2 :: va) R3 ((go1.trans go2).trans go3) ?_ ?_
  ·exact ⟨val, ka, rfl, (r1.step R1 go2).step R2 go3, ra⟩
  ·exact ⟨val2, va, rfl, r2.step R2 go3, rb⟩
theorem keys_at {κ κ' : Type} [DecidableEq κ'] {knd : KeyKind Y.prog Y.w κ'} {f : AV → Option κ} {c : κ → κ'} {h : Heap} (hf : ∀ x k v, f x = some k → RelV h g x v → knd.is (c k) v = true) :
  ∀ {a : List AV} {l : List κ} {ka va : List Value}, gath f a = some l → RelVs h g a ka → l.length = va.length → Carries knd (ka.zip va) ((l.map c).zip va) ∧ ka.length = l.length := by
 intro a
 induction a with
 | nil =>
  intro l ka va e r hl
  subst r
  cases e
  exact ⟨trivial, rfl⟩
 | cons x a ih =>
  intro l ka va e r hl
  refine gath_is e fun y t e1 e2 q => ?_
  clear e
  subst q
  obtain ⟨w, ka', rfl, rw', r'⟩ := r
  cases va with
  | nil => exact nomatch hl
  | cons u va =>
   obtain ⟨i1, i2⟩ := ih (va := va) e2 r' (Nat.succ.inj hl)
   exact ⟨⟨hf _ _ _ e1 rw', rfl, i1⟩, congrArg Nat.succ i2⟩
theorem str_key {h : Heap} {x : AV} {k : List Nat} {v : Value} (e : asStr x = some k) (r : RelV h g x v) : (strKind Y.prog Y.w).is (sOf k) v = true := by
 rw [asStr_is e] at r
 obtain ⟨t, rfl⟩ := rvS r
 exact strKind_is Y.prog Y.w _ t
theorem int_key {h : Heap} {x : AV} {k : Int} {v : Value} (e : asInt x = some k) (r : RelV h g x v) : (intKind Y.prog Y.w).is (id k) v = true := by
 rw [asInt_is e] at r
 obtain ⟨t, rfl⟩ := rvI r
 simp [intKind, Value.isInt]
theorem gath_len {κ : Type} {f : AV → Option κ} : ∀ {a : List AV} {l : List κ}, gath f a = some l → l.length = a.length := by
 intro a
 induction a with
 | nil => intro l e; cases e; rfl
 | cons x a ih => intro l e; exact gath_is e fun y t e1 e2 q => by rw [q, List.length_cons, List.length_cons, ih e2]
theorem relKs_zip {κ κ' : Type} {f : κ → κ'} {h : Heap} {l : List κ} {b : List AV} {va : List Value} (hl : l.length = b.length) (r : RelVs h g b va) : RelKs h g f (l.zip b) ((l.map f).zip va) := by
 induction l generalizing b va with
 | nil => rfl
 | cons k l ih => cases b with
  | nil => exact absurd hl (Nat.succ_ne_zero _)
  | cons x b =>
   obtain ⟨w, va', rfl, rw', r'⟩ := r
   exact ⟨w, _, rfl, rw', ih (Nat.succ.inj hl) r'⟩
theorem okKeys_some {f : PE → PySem.Expr → Bool} {ks : List PE} {xs : List (Option PySem.Expr)} (h : okKeys f ks xs = true) : xs.all (·.isSome) = true ∧ xs.length = ks.length := by
 induction ks generalizing xs with
 | nil => cases xs with
  | nil => exact ⟨rfl, rfl⟩
  | cons _ _ => exact nt h
 | cons k ks ih => cases xs with
  | nil => exact nt h
  | cons x xs => cases x with
   | none => exact nt h
   | some x => exact ⟨(ih (and2 h).2).1, congrArg Nat.succ (ih (and2 h).2).2⟩
theorem evd_len {f : PE → Loc → List AObj → Res (AV × List AObj)} (ks : List PE) : ∀ {vs : List PE} {ob : List AObj} {ab : List AV × List AV} {ob' : List AObj} {obs : List Nat}, evd f ks vs loc ob = some ((ab, ob'), obs) → Fits obs → ks.length = vs.length ∧ ab.1.length = ks.length ∧ ab.2.length = ks.length := by
 induction ks with
 | nil =>
  intro vs ob ab ob' obs e _
  cases vs with
  | cons _ _ => exact nO e
  | nil => cases e; exact ⟨rfl, rfl, rfl⟩
 | cons k ks ih =>
  intro vs ob ab ob' obs e fit
  cases vs with
  | nil => exact nO e
  | cons v vs =>
  refine bndP e fit fun kv ob1 l1 l2 e1 e2 fit1 fit => ?_
  refine bndP e2 fit fun vv ob2 l3 l4 e3 e4 fit3 fit => ?_
  refine bndP e4 fit fun ab' ob3 l5 l6 e5 e6 fit5 _ => ?_
  have q := fine_eq e6
  clear e e2 e4 e6
  cases q
  have h := ih e5 fit5
  exact ⟨congrArg Nat.succ h.1, congrArg Nat.succ h.2.1, congrArg Nat.succ h.2.2⟩
theorem zip_keys {κ : Type} {l : List κ} {va : List Value} (h : l.length = va.length) : (l.zip va).map (·.1) = l := by
 induction l generalizing va with
 | nil => rfl
 | cons k l ih => cases va with
  | nil => exact absurd h (Nat.succ_ne_zero _)
  | cons v va => exact congrArg (k :: ·) (ih (Nat.succ.inj h))
theorem nodup_map {α β : Type} {f : α → β} (inj : ∀ x y, f x = f y → x = y) {l : List α} (h : l.Nodup) : (l.map f).Nodup := by
 induction l with
 | nil => exact List.nodup_nil
 | cons x r ih =>
  have hn := List.nodup_cons.mp h
  refine List.nodup_cons.mpr ⟨fun q => ?_, ih hn.2⟩
  obtain ⟨y, q1, q2⟩ := List.mem_map.mp q
  exact hn.1 (inj _ _ q2 ▸ q1)
theorem dict_main (H : SndE Y T d names (ev T n)) (hF : Fr1 env L names) (hD : Deep d A) (R : RS Y g L names loc ob s0 s) {ks vs : List PE} {xs : List (Option PySem.Expr)} {ys : List PySem.Expr} {ob1 : List AObj} {ab : List AV × List AV} (e1 : evd (ev T n) ks vs loc ob = some ((ab, ob1), obs)) (fit : Fits obs) (ok1 : okKeys (okE names T.globs m) ks xs = true) (ok2 : all2 (okE names T.globs m) vs ys = true)
  {κ κ' : Type} [DecidableEq κ'] (knd : KeyKind Y.prog Y.w κ') (f : κ → κ') (l : List κ) (o : AObj) (hla : l.length = ab.1.length) (hlb : l.length = ab.2.length) (hl15 : l.length ≤ 15) (hl0 : 0 < l.length) (hnd : (l.map f).Nodup)
  (hc : ∀ {h : Heap} {g : G} {ka va : List Value}, RelVs h g ab.1 ka → l.length = va.length → Carries knd (ka.zip va) ((l.map f).zip va) ∧ ka.length = l.length)
  (hr : ∀ {h : Heap} {g : G} {i : Nat} {x : Addr} {kvs : List (κ' × Value)}, g.ρ[i]? = some x → g.own x = .mine i → h.DictOf knd x kvs → RelKs h g f (l.zip ab.2) kvs → RelO Y h g i o) (K : Then Y names L loc s0 g s (.ref ob1.length) (ob1 ++ [o]) Q) :
  wpAny (model Y.prog Y.w) A (eval (.Dict xs ys pos) env) Q E s := by
 have hl := evd_len ks e1 fit
 have hk := okKeys_some ok1
 have hy := all2_len ok2
 refine wpAny_Dict_walk (knd := knd) hk.1 (by lia) (fun q => by have := hk.2; rw [q] at this; simp at this; lia) (by lia) ?_
 have R0 := R.res (o := { cls := .type "dict", data := .dict #[] }) rfl
 refine pairs_sound H hF hD ks e1 ok1 ok2 fit R0 fun g1 s1 ka va R1 go1 ra rb => ?_
 have hva := rvL rb
 obtain ⟨c1, c2⟩ := hc ra (va := va) (by lia)
 have ha : g1.own s.heap.objs.size = .other := by
  have z : (g.res s.heap.objs.size).own s.heap.objs.size = .other := if_pos rfl
  exact (go1.own _ (by rw [z]; exact fun q => of_no q)).trans z
 have hLa : s.heap.objs.size ≠ L := fun q => by obtain ⟨o, e⟩ := R.liveL; exact live_ne e (Nat.le_refl _) q.symm
 refine ⟨(l.map f).zip va, c1, dictOf_at (Heap.DictOf.new s.heap) fun o' q => go1.keep _ o' q (fun k z => ?_) (fun z => ?_), fun h' hd hs => ?_⟩
 ·have : (g.res s.heap.objs.size).own s.heap.objs.size = .other := if_pos rfl
  rw [this] at z; cases z
 ·exact hLa (Option.some.inj z).symm
 ·rw [merged_nil_of_nodup _ (by rw [zip_keys (by simp; lia)]; exact hnd)] at hd
  have hlv : ∃ o, h'.get? s.heap.objs.size = some o := by obtain ⟨o', _, _, q, _⟩ := hd; exact ⟨o', q⟩
  have own' : (g1.add s.heap.objs.size []).own s.heap.objs.size = .mine ob1.length := by rw [← R1.len]; exact if_pos (.inl rfl)
  have at' : (g1.add s.heap.objs.size []).ρ[ob1.length]? = some s.heap.objs.size := by rw [← R1.len]; exact G.add_at _ _ _
  have x0 : Ext0 .none g1 s1.heap (g1.add s.heap.objs.size []) h' := ⟨⟨[s.heap.objs.size], rfl⟩, fun b o q z _ => by
   have hne : b ≠ s.heap.objs.size := fun w => by rw [w, ha] at z; cases z
   exact ⟨(if_neg (by simpa using hne) : (g1.add s.heap.objs.size []).own b = g1.own b).trans z, (hs.2 b hne).trans q⟩⟩
  have R2 := R1.claim ha hLa hs hlv (t := s1.toks + (ka.zip va).length) (o := o) (hr at' own' hd (relKs_zip (by exact Eq.symm (Nat.add_right_cancel (congrFun (congrArg HAdd.hAdd (id (Eq.symm hlb))) d))) (rb.go0 x0 (LOk.none _))))
  refine K _ _ _ R2 (((Go.res R.lt _).trans go1).turn R.lt (by cases q : s.heap.get? s.heap.objs.size with | none => rfl | some o => exact absurd rfl (live_ne q (Nat.le_refl _))) ⟨_, rfl⟩ (fun b n => if_neg (by simpa using n)) (fun b o e n => (hs.2 b n).trans e)) ?_
  exact ⟨_, at', rfl⟩
theorem a_dict (H : SndE Y T d names (ev T n)) {ks vs : List PE} {xs : List (Option PySem.Expr)} {ys : List PySem.Expr} (ok1 : okKeys (okE names T.globs m) ks xs = true) (ok2 : all2 (okE names T.globs m) vs ys = true) (e : ev T (n + 1) (.dict ks vs) loc ob = some ((v, ob'), obs)) (fit : Fits obs) (hF : Fr1 env L names) (hD : Deep d A) (R : RS Y g L names loc ob s0 s) (K : Then Y names L loc s0 g s v ob' Q) :
  wpAny (model Y.prog Y.w) A (eval (.Dict xs ys pos) env) Q E s := by
 refine bndP (ev_dict.symm.trans e) fit fun ab ob1 l1 l2 e1 e2 fit1 _ => ?_
 clear e fit
 have e2 := (lift_some e2).1
 refine dictS_is e2 (fun l hk hc q => ?_) (fun l hk hc q => ?_)
 ·cases q
  have h := dictOk_is hc
  exact dict_main H hF hD R e1 fit1 ok1 ok2 (strKind Y.prog Y.w) sOf l _ (gath_len hk) h.2.2.1 h.2.2.2 h.1 (nodup_map (fun x y q => sOf_inj.mp q) (nbN h.2.1)) (fun r hl => keys_at (fun x k v => str_key) hk r hl) (fun q1 q2 q3 q4 => by exact ⟨_, _, q1, q2, q3, q4⟩) K
 ·cases q
  have h := dictOk_is hc
  exact dict_main H hF hD R e1 fit1 ok1 ok2 (intKind Y.prog Y.w) id l _ (gath_len hk) h.2.2.1 h.2.2.2 h.1 (by rw [List.map_id]; exact nbN h.2.1) (fun r hl => keys_at (fun x k v => int_key) hk r hl) (fun q1 q2 q3 q4 => by exact ⟨_, _, q1, q2, q3, q4⟩) K
theorem isTrue_plain {e : PySem.Expr} (h : ∀ w, isTrue e env w = (do let v ← w; standAt e.pos; holding [v] (truthy v))) (H : SndE Y T d names (ev T n)) {pe : PE} {b : Bool} (ok : okE names T.globs m pe e = true)
  (he : (bnd (ev T n pe loc ob) fun (x, ob) => bnd (truth x ob) fun b => fine (b, ob)) = some ((b, ob'), obs)) (fit : Fits obs) (hF : Fr1 env L names) (hD : Deep d A) (R : RS Y g L names loc ob s0 s) {Q : Bool → Shared → Prop} (K : ThenB Y names L loc s0 g s b ob' Q) :
  wpAny (model Y.prog Y.w) A (isTrue e env (eval e env)) Q E s := by
 refine bndP he fit fun o1 ob1 l1 l2 e1 e2 fit1 fit => ?_
 refine bndF e2 fit fun b1 l3 l4 e3 e4 fit3 _ => ?_
 have K := fine_thenB e4 K
 rw [h]
 refine wpAny_bind (H m _ e _ _ _ _ _ e1 ok fit1 A env L g s0 s _ E hF hD R fun g1 s1 val R1 go1 r1 => ?_)
 refine wpAny_bind (wpAny_standAt (wpAny_holding ?_))
 exact truth_sound e3 fit3 r1 R1 fun g2 s2 R2 go2 => K g2 s2 R2 (go1.trans go2)
theorem t_not (HT : SndT Y T d names (tv T n)) {x : PySem.Expr} {a : PE} {b : Bool} (ok : okE names T.globs m a x = true) (he : tv T (n + 1) (.not a) loc ob = some ((b, ob'), obs)) (fit : Fits obs) (hF : Fr1 env L names) (hD : Deep d A) (R : RS Y g L names loc ob s0 s) {Q : Bool → Shared → Prop} (K : ThenB Y names L loc s0 g s b ob' Q) :
  wpAny (model Y.prog Y.w) A (isTrue (.UnaryOp .Not x pos) env (eval (.UnaryOp .Not x pos) env)) Q E s := by
 refine bndP (tv_not.symm.trans he) fit fun b1 ob1 l1 l2 e1 e2 fit1 _ => ?_
 have K := fine_thenB e2 K
 rw [arm_isTrue_UnaryOp]
 exact wpAny_bind (HT m _ x _ _ _ _ _ e1 ok fit1 A env L g s0 s _ E hF hD R fun g1 s1 R1 go1 => wpAny_pure (K g1 s1 R1 go1))
theorem ev_step (O : Y.Ok) (TO : TabOk Y T d) (H : SndE Y T d names (ev T n)) (HT : SndT Y T d names (tv T n)) : SndE Y T d names (ev T (n + 1)) := by
 intro m pe e loc ob v ob' obs he ok fit A env L g s0 s Q E hF hD R K
 cases m with
 | zero => exact nt ok
 | succ m =>
 replace ok := okE_is ok
 induction ok with
 | none => exact wpAny_Constant_none (fT (w := .none) he K g s _ R (Go.refl _ _ _) (by rfl))
 | bool => exact wpAny_Constant_bool (bool_here R (fT he K))
 | int => exact wpAny_Constant_int (int_here R (fT he K))
 | str => exact wpAny_Constant_str (str_next R (fT he K))
 | loc hx h => exact a_loc hx h he fit hF R K
 | glob hx h h' => exact a_glob O TO hx h h' he fit hF R K
 | attr h1 h2 => exact a_attr O TO H h1 h2 he fit hF hD R K
 | meth h1 h2 h3 h4 h5 => exact a_meth O TO H h1 h2 h3 h4 h5 he fit hF hD R K
 | repl h1 h2 h3 => exact a_repl H h1 h2 h3 he fit hF hD R K
 | call h1 h2 h3 => exact a_callf O TO H h1 h2 h3 he fit hF hD R K
 | bin h h1 h2 => exact a_bin H h h1 h2 he fit hF hD R K
 | cmp h h1 h2 => exact a_cmp O TO H h h1 h2 he fit hF hD R K
 | bop h h1 => exact bool_sound H hF hD _ _ h _ he h1 fit R K
 | not h => exact a_not H h he fit hF hD R K
 | neg => exact a_neg he R K
 | ite h h1 h2 => exact a_ite H HT h h1 h2 he fit hF hD R K
 | sub h h1 h2 => exact a_sub O TO H h h1 h2 he fit hF hD R K
 | slc h h1 h2 => exact a_slc O TO H h h1 h2 he fit hF hD R K
 | tup h => exact a_tup H h he fit hF hD R K
 | list h => exact a_list H h he fit hF hD R K
 | dict h h1 => exact a_dict H h h1 he fit hF hD R K
theorem tv_step (O : Y.Ok) (TO : TabOk Y T d) (H : SndE Y T d names (ev T n)) (HT : SndT Y T d names (tv T n)) : SndT Y T d names (tv T (n + 1)) := by
 intro m pe e loc ob v ob' obs he ok fit A env L g s0 s Q E hF hD R K
 cases m with
 | zero => exact nt ok
 | succ m =>
 have plain := fun h he => isTrue_plain (e := e) (pe := pe) (E := E) (A := A) h H ok he fit hF hD R K
 replace ok := okE_is ok
 induction ok with
 | cmp h h1 h2 => exact t_cmp O TO H h h1 h2 he fit hF hD R K _
 | ite h h1 h2 => exact t_ite HT h h1 h2 he fit hF hD R K _
 | bop h h1 => exact all_sound HT hF hD _ _ h _ he h1 fit R K
 | not h => exact t_not HT h he fit hF hD R K
 | call h1 h2 h3 => exact plain (fun _ => rfl) he
 | _ => exact plain (fun _ => rfl) he
theorem ev_tv_sound (O : Y.Ok) (TO : TabOk Y T d) (n : Nat) : SndE Y T d names (ev T n) ∧ SndT Y T d names (tv T n) := by
 induction n with
 | zero => exact ⟨(fun _ _ _ _ _ _ _ _ e => nO e), fun _ _ _ _ _ _ _ _ e => nO e⟩
 | succ n ih => exact ⟨ev_step O TO ih.1 ih.2, tv_step O TO ih.1 ih.2⟩
end
noncomputable def okT (names : List (Str × NameKind)) (globs : List (Str × AV)) : Nat → PT → PySem.Expr → Bool
 | 0, _, _ => false
 | m + 1, pt, e => match pt with
  | .loc k => ({ fn := fun x => decide (names[k]? = some (x, NameKind.local)) } : ByE).is e
  | .attr o n => ({ fa := fun v a _ => decide (a = sOf n) && okE names globs 20 o v } : ByE).is e
  | .sub o i => subE (okE names globs 20 o) (fun s => !isSliceE s && okE names globs 20 i s) e
  | .tup ts => tupE (all2 (okT names globs m) ts) e
inductive OkT (names : List (Str × NameKind)) (f : PE → PySem.Expr → Bool) (t : PT → PySem.Expr → Bool) : PT → PySem.Expr → Prop
 | loc {k x p} (h : names[k]? = some (x, NameKind.local)) : OkT names f t (.loc k) (.Name x p)
 | attr {o n v p} (h : f o v = true) : OkT names f t (.attr o n) (.Attribute v (sOf n) p)
 | sub {o i v s p} (h : isSliceE s = false) (h1 : f o v = true) (h2 : f i s = true) : OkT names f t (.sub o i) (.Subscript v s p)
 | tup {ts es c p} (h : all2 t ts es = true) : OkT names f t (.tup ts) (.Tuple es c p)
theorem okT_is {names : List (Str × NameKind)} {globs : List (Str × AV)} {m : Nat} {pt : PT} {e : PySem.Expr} (ok : okT names globs (m + 1) pt e = true) : OkT names (okE names globs 20) (okT names globs m) pt e := by
 cases pt with
 | loc k => exact ByE.inv ok (fun _ _ _ h => nt h) (fun x p h => .loc (of_decide_eq_true h)) (fun _ _ _ h => nt h) (fun _ _ _ _ h => nt h) (fun _ _ _ _ h => nt h) (fun _ _ _ _ h => nt h) (fun _ _ _ h => nt h) (fun _ _ _ h => nt h) (fun _ _ _ _ h => nt h) (fun _ _ _ h => nt h) (fun _ _ _ _ h => nt h) (fun _ _ _ h => nt h) (fun _ _ h => nt h) (fun _ _ _ h => nt h) (fun _ _ _ _ h => nt h) rfl
 | attr o n => exact ByE.inv ok (fun _ _ _ h => nt h) (fun _ _ h => nt h) (fun v a p h => by rw [of_decide_eq_true (and2 h).1]; exact .attr (and2 h).2) (fun _ _ _ _ h => nt h) (fun _ _ _ _ h => nt h) (fun _ _ _ _ h => nt h) (fun _ _ _ h => nt h) (fun _ _ _ h => nt h) (fun _ _ _ _ h => nt h) (fun _ _ _ h => nt h) (fun _ _ _ _ h => nt h) (fun _ _ _ h => nt h) (fun _ _ h => nt h) (fun _ _ _ h => nt h) (fun _ _ _ _ h => nt h) rfl
 | sub o i => exact subE_is ok fun v s p h h1 => .sub (by simpa using (and2 h1).1) h (and2 h1).2
 | tup xs => exact tupE_is ok fun es c p h => .tup h
section
variable {Y : Sys} {T : Tab} {d : Nat} {names : List (Str × NameKind)} {L : Addr} {loc loc' : Loc} {ob : List AObj} {s0 s : Shared} {g : G} {A : Around} {E : Value → Shared → Prop} {env : Env} {n m : Nat} {v : AV} {ob' : List AObj} {obs : List Nat} {pos : Pos}
theorem setItem_at {prog : Program} {w : World} {l : Addr} {vs : List Value} {n : Nat} {k : Int} {t : Tok} {v : Value} {Q : Unit → Shared → Prop} (ho : s.heap.get? l = some (lstObj vs n)) (h0 : 0 ≤ k) (hk : k < 2 ^ 62) (hn : k < vs.length)
  (hQ : ∀ h', h'.get? l = some (lstObj (vs.set k.toNat v) n) → Heap.SameBut l s.heap h' → Q () { s with heap := h' }) : wpAny (model prog w) A (setItem (.ref l) (.int k t) v) Q E s := by
 have hT : s.TypeIs (.ref l) "list" := ⟨_, ho, rfl⟩
 refine wpAny_holding (wpAny_bind (wpAny_sequenceKey hT (by decide) ?_))
 refine wpAny_bind (wpAny_callSpecial?_slot (name := Str.ofString "__setitem__") hT slot_list_setitem (wpAny_call_entry slot_list_setitem hT entry_list_setitem ?_ (args_list_setitem _ _ _)))
 show wpAny _ _ (Builtin.List.listSubscript? (.int k t) >>= _) _ _ s
 refine wpAny_bind (wpAny_listSubscript_int (fitsIndex_of h0 (by lia)) ?_)
 obtain ⟨j, rfl⟩ := Int.eq_ofNat_of_zero_le h0
 have hj : j < vs.length := by lia
 have hx : vs.toArray[j]? = some vs[j] := by simp [hj]
 refine wpAny_bind (wpAny_bind (wpAny_seqItemAt ho rfl (wpAny_pure ?_)))
 rw [hx]
 refine wpAny_bind (wpAny_setSeqItemAt ho rfl ?_)
 have hm : Obj.mapSeq (·.setIfInBounds j v) (lstObj vs n) = lstObj (vs.set j v) n := by
  simp [Obj.mapSeq, lstObj]
 have hg : (s.heap.update l (Obj.mapSeq (·.setIfInBounds j v))).get? l = some (lstObj (vs.set j v) n) := by
  rw [Heap.get?_update_self _ ho (by rw [hm]; rfl), hm]
 exact wpAny_pure ⟨.none, rfl, wpAny_pure (hQ _ hg (Heap.SameBut.update ..))⟩
theorem relVs_set {h : Heap} {v : AV} {w : Value} (rw' : RelV h g v w) {xs : List AV} {vs : List Value} {k : Nat} (r : RelVs h g xs vs) : RelVs h g (xs.set k v) (vs.set k w) := by
 induction xs generalizing vs k with
 | nil => cases (show vs = [] from r); rfl
 | cons x xs ih =>
  obtain ⟨a, r', rfl, h1, h2⟩ := r
  cases k with
  | zero => exact ⟨w, r', rfl, rw', h2⟩
  | succ k => exact ⟨a, _, rfl, h1, ih h2⟩
theorem relKs_put {h : Heap} {v : AV} {w : Value} {n : List Nat} (rw' : RelV h g v w) {es : List (List Nat × AV)} {kvs : List (Str × Value)} (hnd : (es.map (·.1)).Nodup) (e : (look1 n es).isSome = true) (r : RelKs h g sOf es kvs) : RelKs h g sOf (put1 n v es) (stored kvs (sOf n) w) := by
 induction es generalizing kvs with
 | nil => exact nt e
 | cons x es ih =>
  obtain ⟨u, kvs, rfl, h1, h2⟩ := r
  rw [List.map_cons] at hnd
  have nd := List.nodup_cons.mp hnd
  clear hnd
  by_cases q : x.1 = n
  ·have e1 : put1 n v (x :: es) = (x.1, v) :: es := if_pos q
   have tail : (kvs.map fun kv => if kv.1 = sOf n then (kv.1, w) else kv) = kvs := by
    refine (List.map_congr_left fun kv hm => if_neg fun z => ?_).trans (List.map_id _)
    obtain ⟨j, hj⟩ := List.mem_iff_getElem?.mp hm
    obtain ⟨y, y1, y2, _⟩ := relKs_at h2 hj
    exact nd.1 (List.mem_map.mpr ⟨y, List.mem_of_getElem? y1, (sOf_inj.mp (y2.symm.trans z)).trans q.symm⟩)
   have e2 : stored ((sOf x.1, u) :: kvs) (sOf n) w = (sOf x.1, w) :: kvs := by
    unfold stored
    rw [if_pos (by rw [List.any_cons, decide_eq_true (congrArg sOf q), Bool.true_or]), List.map_cons, if_pos (congrArg sOf q), tail]
   rw [e1, e2]
   exact ⟨w, kvs, rfl, rw', h2⟩
  ·have e1 : put1 n v (x :: es) = x :: put1 n v es := if_neg q
   have e3 : look1 n (x :: es) = look1 n es := if_neg q
   rw [e3] at e
   have hany : kvs.any (fun kv => decide (kv.1 = sOf n)) = true := by
    obtain ⟨a, ha⟩ := Option.isSome_iff_exists.mp e
    obtain ⟨y, hy, _⟩ := (relKs_str (k := n) h2).1 a ha
    obtain ⟨kv, k1, _⟩ := Option.map_eq_some_iff.mp hy
    have k2 := List.find?_some k1
    exact List.any_eq_true.mpr ⟨kv, List.mem_of_find?_eq_some k1, k2⟩
   have e2 : stored ((sOf x.1, u) :: kvs) (sOf n) w = (sOf x.1, u) :: stored kvs (sOf n) w := by
    unfold stored
    rw [if_pos hany, if_pos (by rw [List.any_cons, hany, Bool.or_true]), List.map_cons, if_neg fun z => q (sOf_inj.mp z)]
   rw [e1, e2]
   exact ⟨u, _, rfl, h1, ih nd.2 e h2⟩
theorem setI_sound (O : Y.Ok) {x y : AV} {u w val : Value} (e : setI x y v ob = some ob') (rx : RelV s.heap g x u) (ry : RelV s.heap g y w) (rv : RelV s.heap g v val) (R : RS Y g L names loc ob s0 s) {Q : Unit → Shared → Prop}
  (K : ∀ g' s', RS Y g' L names loc ob' s0 s' → Go (some L) g s.heap g' s'.heap → Q () s') : wpAny (model Y.prog Y.w) A (setItem u w val) Q E s := by
 refine setI_is e (fun i k xs hx hy ho hk hob => ?_) (fun i n es hx hy ho hsome hnd hlen hob => ?_)
 ·subst hx hy hob
  clear e
  obtain ⟨ax, h1, rfl⟩ := rvR rx
  obtain ⟨t, rfl⟩ := rvI ry
  clear rx ry
  refine list_mine (R.rel i _ ho) h1 fun vs n h2 h3 h4 => ?_
  refine setItem_at h3 hk.1 hk.2.1 (by rw [rvL h4]; exact hk.2.2) fun h' hg hs => ?_
  have kk : ∀ b o, s.heap.get? b = some o → g.own b ≠ .mine i → h'.get? b = some o := fun b o q nm => (hs.2 b fun z => nm (by rw [z]; exact h2)).trans q
  have go : Go (some L) g s.heap g h' := Go.upd kk
  refine K g { s with heap := h' } (R.upd (t := s.toks) kk (live_but hs ⟨_, hg⟩) ?_) go
  exact ⟨ax, _, n, h1, h2, hg, relVs_set (rv.go go.ext R.lok) (h4.go go.ext R.lok)⟩
 ·subst hx hy hob
  clear e
  obtain ⟨ax, h1, rfl⟩ := rvR rx
  obtain ⟨t, rfl⟩ := rvS ry
  clear rx ry
  refine dict_mine (R.rel i _ ho) h1 fun kvs h2 h3 h4 => ?_
  refine wpAny_setItem_pairs (knd := strKind Y.prog Y.w) (strKind_is Y.prog Y.w _ t) h3 (fun h' hd hs => ?_) (by rw [relKs_len h4, sizeLine_eq]; lia)
  have kk : ∀ b o, s.heap.get? b = some o → g.own b ≠ .mine i → h'.get? b = some o := fun b o q nm => (hs.2 b fun z => nm (by rw [z]; exact h2)).trans q
  have go : Go (some L) g s.heap g h' := Go.upd kk
  refine K g { s with heap := h', toks := s.toks + 1 } (R.upd (t := s.toks + 1) kk (live_but hs (let ⟨o, _, _, q, _⟩ := hd; ⟨o, q⟩)) ?_) go
  exact ⟨ax, _, h1, h2, hd, relKs_put (rv.go go.ext R.lok) (nbN hnd) hsome (h4.go go.ext R.lok)⟩
theorem RS.heap {h' : Heap} (R : RS Y g L names loc ob s0 s) (x : ∀ b o, s.heap.get? b = some o → h'.get? b = some o) : RS Y g L names loc ob s0 { s with heap := h' } :=
 have go : Go .none g s.heap g h' := .of ⟨[], by simp⟩ (fun _ _ => rfl) fun b o q _ _ => x b o q
 RS.of_call R ⟨fun b o q => x b o (R.keep b o q), R.base, R.len, fun i o q => (R.rel i o q).go go.ext (LOk.none _) (fun _ q => nO q) fun b o q _ => x b o q, fun b q => let ⟨o, e⟩ := R.lt b q; ⟨o, x b o e⟩, R.gens, R.os, R.drawn, R.pos⟩ go
theorem store_sound (hF : Fr1 env L names) {k : Nat} {x : Str} {val : Value} (hx : names[k]? = some (x, NameKind.local)) (hk : k < loc.length) (rv : RelV s.heap g v val) (R : RS Y g L names loc ob s0 s) {Q : Unit → Shared → Prop}
  (K : ∀ s', RS Y g L names (loc.set k (some v)) ob s0 s' → Go (some L) g s.heap g s'.heap → Q () s') : wpAny (model Y.prog Y.w) A (bindName env x val) Q E s := by
 obtain ⟨mm, hn, hl⟩ := R.ns
 refine wpAny_bindName (wpAny_storeName_local (m := mm) (by unfold Env.kindOf; rw [hF.nms]; exact lookup_at hF.nodup hx) (by rw [hF.loc]; exact hn) (fun h' hN hs => ?_) (by rw [hF.kind]; rfl))
 rw [hF.loc] at hN hs
 obtain ⟨R', go⟩ := R.store (t := s.toks + 1) hx hF.nodup hs hn hN rv hk
 exact K _ R' go
noncomputable abbrev ThenA (Y : Sys) (names : List (Str × NameKind)) (L : Addr) (loc' : Loc) (s0 : Shared) (g : G) (s : Shared) (ob' : List AObj) (Q : Unit → Shared → Prop) : Prop :=
 ∀ g' s', RS Y g' L names loc' ob' s0 s' → Go (some L) g s.heap g' s'.heap → Q () s'
theorem fine_thenA {loc1 : Loc} {ob1 : List AObj} {l : List Nat} {Q : Unit → Shared → Prop} (e : fine (loc1, ob1) = some ((loc', ob'), l)) (K : ThenA Y names L loc' s0 g s ob' Q) : ThenA Y names L loc1 s0 g s ob1 Q := by cases e; exact K
noncomputable def SndA (Y : Sys) (names : List (Str × NameKind)) (L : Addr) (s0 : Shared) (A : Around) (E : Value → Shared → Prop) (env : Env) (f : PT → AV → Loc → List AObj → Res (Loc × List AObj)) (ok : PT → PySem.Expr → Bool) : Prop :=
 ∀ {pt : PT} {e : PySem.Expr} {loc : Loc} {ob : List AObj} {v : AV} {loc' : Loc} {ob' : List AObj} {obs : List Nat}, f pt v loc ob = some ((loc', ob'), obs) → ok pt e = true → Fits obs →
  ∀ {g : G} {s : Shared} {val : Value} {Q : Unit → Shared → Prop}, RelV s.heap g v val → RS Y g L names loc ob s0 s → ThenA Y names L loc' s0 g s ob' Q → wpAny (model Y.prog Y.w) A (assign e env val) Q E s
theorem okT_star {globs : List (Str × AV)} {pt : PT} {e : PySem.Expr} (h : okT names globs m pt e = true) : isStarE e = false := by
 cases m with
 | zero => exact nt h
 | succ m =>
  replace h := okT_is h
  induction h <;> rfl
theorem each_step {ex : PySem.Expr} (h : isStarE ex = false) (es : List PySem.Expr) : assignEach (ex :: es) env = (false, assign ex env) :: assignEach es env := by
 cases ex with
 | Starred _ _ => exact nt h.symm
 | _ => rfl
theorem each_len {globs : List (Str × AV)} (ts : List PT) : ∀ {es : List PySem.Expr}, all2 (okT names globs m) ts es = true → (assignEach es env).length = ts.length ∧ (assignEach es env).findIdx? (·.1) = none := by
 induction ts with
 | nil =>
  intro es h
  cases es with
  | nil => exact ⟨rfl, rfl⟩
  | cons _ _ => exact nt h
 | cons t ts ih =>
  intro es h
  cases es with
  | nil => exact nt h
  | cons e es =>
   have i := ih (and2 h).2
   rw [each_step (okT_star (and2 h).1)]
   exact ⟨congrArg Nat.succ i.1, by rw [List.findIdx?_cons]; simp [i.2]⟩
theorem asgs_len {f : PT → AV → Loc → List AObj → Res (Loc × List AObj)} (ts : List PT) : ∀ {vs : List AV} {loc : Loc} {ob : List AObj} {r : Loc × List AObj} {l : List Nat}, asgs f ts vs loc ob = some (r, l) → Fits l → ts.length = vs.length := by
 induction ts with
 | nil =>
  intro vs _ _ _ _ h _
  cases vs with
  | nil => rfl
  | cons _ _ => exact nO h
 | cons t ts ih =>
  intro vs _ _ _ _ h fit
  cases vs with
  | nil => exact nO h
  | cons v vs => exact bndP h fit fun _ _ _ _ _ h2 _ f2 => congrArg Nat.succ (ih h2 f2)
theorem each_sound {globs : List (Str × AV)} {f : PT → AV → Loc → List AObj → Res (Loc × List AObj)} (ih : SndA Y names L s0 A E env f (okT names globs m)) (ts : List PT) : ∀ {es : List PySem.Expr} {vs : List AV} {us : List Value} {loc : Loc} {ob : List AObj} {loc' : Loc} {ob' : List AObj} {obs : List Nat}, asgs f ts vs loc ob = some ((loc', ob'), obs) → all2 (okT names globs m) ts es = true → Fits obs →
  ∀ {g : G} {s : Shared} {Q : Unit → Shared → Prop}, RelVs s.heap g vs us → RS Y g L names loc ob s0 s → ThenA Y names L loc' s0 g s ob' Q → wpAny (model Y.prog Y.w) A (assignInOrder ((assignEach es env).map (·.2)) us) Q E s := by
 induction ts with
 | nil =>
  intro es vs us loc ob loc' ob' obs e ok fit g s Q r R K
  cases vs with
  | cons _ _ => exact nO e
  | nil =>
  cases es with
  | cons _ _ => exact nt ok
  | nil =>
  subst r
  exact wpAny_pure (fine_thenA e K g s R (Go.refl _ _ _))
 | cons t ts iht =>
  intro es vs us loc ob loc' ob' obs e ok fit g s Q r R K
  cases vs with
  | nil => exact nO e
  | cons v vs =>
  cases es with
  | nil => exact nt ok
  | cons ex es =>
  replace ok := and2 ok
  refine bndP e fit fun loc1 ob1 l1 l2 e1 e2 fit1 fit2 => ?_
  clear e fit
  obtain ⟨u, us, rfl, ru, rus⟩ := r
  rw [each_step (okT_star ok.1)]
  show wpAny _ _ (do holding us (assign ex env u); assignInOrder ((assignEach es env).map (·.2)) us) _ _ _
  refine wpAny_bind (wpAny_holding (ih e1 ok.1 fit1 ru R fun g1 s1 R1 go1 => ?_))
  exact iht e2 ok.2 fit2 (rus.step R go1) R1 fun g2 s2 R2 go2 => K g2 s2 R2 (go1.trans go2)
theorem asg_step (O : Y.Ok) (TO : TabOk Y T d) (hF : Fr1 env L names) (hD : Deep d A) (ih : SndA Y names L s0 A E env (asg T n) (okT names T.globs m)) : SndA Y names L s0 A E env (asg T (n + 1)) (okT names T.globs (m + 1)) := by
 intro pt e loc ob v loc' ob' obs he ok fit g s val Q rv R K
 have H : SndE Y T d names (ev T n) := (ev_tv_sound O TO n).1
 replace ok := okT_is ok
 induction ok with
 | @loc k x p hx =>
  refine ite_is (c := k < loc.length) he fun hk he => ?_
  replace K := fine_thenA he K
  rw [arm_assign_Name]
  exact wpAny_bind (wpAny_standAt (store_sound hF hx hk rv R fun s' R' go => K g s' R' go))
 | @attr po nn o p ok1 =>
  refine bndP he fit fun o1 ob1 l1 l2 e1 e2 fit1 fit => ?_
  refine bndL e2 fit fun ob2 l3 e3 e4 _ => ?_
  replace K := fine_thenA e4 K
  rw [arm_assign_Attribute]
  refine wpAny_bind (wpAny_holding (H _ _ o _ _ _ _ _ e1 ok1 fit1 A env L g s0 s _ E hF hD R fun g1 s1 w R1 go1 r1 => ?_))
  refine wpAny_bind (wpAny_standAt (wpAny_bind (wpAny_holding ?_)))
  refine setA_sound O TO e3 r1 (rv.step R go1) R1 fun g2 s2 R2 go2 => ?_
  exact wpAny_release' (K g2 s2 R2 (go1.trans go2))
 | @sub po pi o i p hs ok1 ok2 =>
  refine bndP he fit fun o1 ob1 l1 l2 e1 e2 fit1 fit => ?_
  refine bndP e2 fit fun o2 ob2 l3 l4 e3 e4 fit3 fit => ?_
  refine bndL e4 fit fun ob3 l5 e5 e6 _ => ?_
  replace K := fine_thenA e6 K
  rw [arm_assign_Subscript]
  refine wpAny_bind (wpAny_holding (H _ _ o _ _ _ _ _ e1 ok1 fit1 A env L g s0 s _ E hF hD R fun g1 s1 w R1 go1 r1 => ?_))
  refine wpAny_bind (wpAny_holding (H _ _ i _ _ _ _ _ e3 ok2 fit3 A env L g1 s0 s1 _ E hF hD R1 fun g2 s2 w2 R2 go2 r2 => ?_))
  refine wpAny_bind (wpAny_standAt (wpAny_bind (wpAny_holding ?_)))
  refine setI_sound O e5 (r1.step R1 go2) r2 ((rv.step R go1).step R1 go2) R2 fun g3 s3 R3 go3 => ?_
  exact wpAny_release' (K g3 s3 R3 ((go1.trans go2).trans go3))
 | @tup ts es c p ok =>
  have hv : ∃ vs, asTup v = some vs ∧ asgs (asg T n) ts vs loc ob = some ((loc', ob'), obs) := by
   cases q : asTup v with
   | none =>
    have : asg T (n + 1) (.tup ts) v loc ob = none := by show (match asTup v with | some vs => _ | none => none) = none; rw [q]
    rw [this] at he; exact nO he
   | some vs =>
    refine ⟨vs, rfl, ?_⟩
    have : asg T (n + 1) (.tup ts) v loc ob = asgs (asg T n) ts vs loc ob := by show (match asTup v with | some vs => _ | none => none) = _; rw [q]
    rw [← this]; exact he
  obtain ⟨vs, q, he⟩ := hv
  have q := asTup_is q
  subst q
  obtain ⟨ta, us, tn, rfl, tf, th, tr⟩ := relV_tup rv
  have ht : s.heap.IsTuple ta us.toArray := ⟨_, th, rfl, tn, rfl⟩
  have hlv := R.liveL
  have w2 := each_len (env := env) ts ok
  refine wpAny_assign_Tuple hD.2.2 ht (by rw [w2.1, asgs_len ts he fit, ← rvL tr]; simp) w2.2 fun h' hx => ?_
  have x : ∀ b o, s.heap.get? b = some o → h'.get? b = some o := fun b o q => hx b o (live_ne q (Nat.le_refl _)) q
  have go : Go (some L) g s.heap g h' := .of ⟨[], by simp⟩ (fun _ _ => rfl) fun b o q _ _ => x b o q
  exact each_sound ih ts he ok fit (tr.step R go) (RS.heap R x) fun g2 s2 R2 go2 => K g2 s2 R2 (go.trans go2)
theorem asg_sound (O : Y.Ok) (TO : TabOk Y T d) (hF : Fr1 env L names) (hD : Deep d A) (n : Nat) : ∀ {m : Nat}, SndA Y names L s0 A E env (asg T n) (okT names T.globs m) := by
 induction n with
 | zero => intro m _ _ _ _ _ _ _ _ e; exact nO e
 | succ n ih =>
  intro m
  cases m with
  | zero => exact fun _ ok => nt ok
  | succ m => exact asg_step O TO hF hD ih
end
noncomputable def tupOf : PySem.Expr → Option (List PySem.Expr)
 | .Tuple ts _ _ => some ts
 | _ => none
noncomputable def nameOf : PySem.Expr → Option (Str × Pos)
 | .Name x p => some (x, p)
 | _ => none
noncomputable def onT {α : Type} : Option α → (α → Bool) → Bool
 | some a, k => k a
 | none, _ => false
theorem onT_is {α : Type} {x : Option α} {k : α → Bool} (h : onT x k = true) : ∃ a, x = some a ∧ k a = true := by
 cases x with
 | some a => exact ⟨a, rfl, h⟩
 | none => exact nt h
noncomputable def okPair (vs : List PySem.Expr) : List PySem.Expr → Bool
 | [a, b] => onT (nameOf a) fun x => onT (nameOf b) fun y => decide (x.2.line = y.2.line) && (decide (x.1 ≠ y.1) && (decide (vs.length = 2) && (!(vs.any isStarE) && !(vs.all (constantsAlone 8)))))
 | _ => false
theorem nameOf_is {e : PySem.Expr} {r : Str × Pos} (h : nameOf e = some r) : e = .Name r.1 r.2 := by
 cases e with
 | Name x p => exact Option.some.inj h ▸ rfl
 | _ => exact nO h
theorem tupOf_none {e : PySem.Expr} {ts : List PySem.Expr} {c : Nat} {p : Pos} (h : tupOf e = none) : e ≠ .Tuple ts c p := fun q => by rw [q] at h; exact some_no h
theorem tupOf_is {e : PySem.Expr} {ts : List PySem.Expr} (h : tupOf e = some ts) : ∃ c p, e = .Tuple ts c p := by
 cases e with
 | Tuple es c p => exact ⟨c, p, congrArg (PySem.Expr.Tuple · c p) (Option.some.inj h)⟩
 | _ => exact nO h
noncomputable def okSwap (t v : PySem.Expr) : Bool := match tupOf t with
 | none => true
 | some ts => match tupOf v with
  | none => true
  | some vs => vs.all (foldedForSure 8) || okPair vs ts
noncomputable def isNT (e : PySem.Expr) : Bool := ({ fn := fun _ => true, ft := fun _ => true } : ByE).is e
structure ByS where
 fx : PySem.Expr → Bool := fun _ => false
 fp : Bool := false
 fb : Bool := false
 fr : PySem.Expr → Bool := fun _ => false
 fa : PySem.Expr → PySem.Expr → Bool := fun _ _ => false
 fu : PySem.Expr → Operator → PySem.Expr → Bool := fun _ _ _ => false
 fi : PySem.Expr → List PySem.Stmt → List PySem.Stmt → Bool := fun _ _ _ => false
 fw : PySem.Expr → List PySem.Stmt → Bool := fun _ _ => false
 ff : PySem.Expr → PySem.Expr → List PySem.Stmt → Bool := fun _ _ _ => false
 fs : PySem.Expr → Bool := fun _ => false
noncomputable def soleE (f : PySem.Expr → Bool) : List PySem.Expr → Bool
 | [t] => f t
 | _ => false
noncomputable def ByS.is (y : ByS) : PySem.Stmt → Bool
 | .Expr v _ => y.fx v
 | .Pass _ => y.fp
 | .Break _ => y.fb
 | .Return v _ => (match v with
  | some v => y.fr v
  | none => false)
 | .Assign ts v _ => soleE (fun t => y.fa t v) ts
 | .AugAssign t o v _ => y.fu t o v
 | .If t a b _ => y.fi t a b
 | .While t a b _ => b.isEmpty && y.fw t a
 | .For t i a b _ => b.isEmpty && y.ff t i a
 | .Assert t _ _ => y.fs t
 | _ => false
noncomputable def okS (names : List (Str × NameKind)) (globs : List (Str × AV)) : Nat → PS → PySem.Stmt → Bool
 | 0, _, _ => false
 | m + 1, ps, st => match ps with
  | .expr e => ({ fx := fun v => !isCompE v && okE names globs 20 e v } : ByS).is st
  | .pass => ({ fp := true } : ByS).is st
  | .brk => ({ fb := true } : ByS).is st
  | .ret e => ({ fr := okE names globs 20 e } : ByS).is st
  | .asg pt e => ({ fa := fun t v => (!isCompE v && okSwap t v) && okE names globs 20 e v && okT names globs 20 pt t } : ByS).is st
  | .aug pt op e => ({ fu := fun t o v => okOp op o && okE names globs 20 e v && okT names globs 20 pt t } : ByS).is st
  | .ife c x y => ({ fi := fun t a b => okE names globs 20 c t && all2 (okS names globs m) x a && all2 (okS names globs m) y b } : ByS).is st
  | .whl _ c x => ({ fw := fun t a => okE names globs 20 c t && all2 (okS names globs m) x a } : ByS).is st
  | .for _ pt e x => ({ ff := fun t i a => (isNT t && okT names globs 20 pt t) && okE names globs 20 e i && all2 (okS names globs m) x a } : ByS).is st
  | .asrt e => ({ fs := okE names globs 20 e } : ByS).is st
inductive OkS (f : PE → PySem.Expr → Bool) (t : PT → PySem.Expr → Bool) (b : PS → PySem.Stmt → Bool) : PS → PySem.Stmt → Prop
 | expr {e v p} (hc : (!isCompE v) = true) (h : f e v = true) : OkS f t b (.expr e) (.Expr v p)
 | pass {p} : OkS f t b .pass (.Pass p)
 | brk {p} : OkS f t b .brk (.Break p)
 | ret {e v p} (h : f e v = true) : OkS f t b (.ret e) (.Return (some v) p)
 | asg {pt e x v p} (hc : (!isCompE v) = true) (hs : okSwap x v = true) (h : f e v = true) (h1 : t pt x = true) : OkS f t b (.asg pt e) (.Assign [x] v p)
 | aug {pt op e x o v p} (h : okOp op o = true) (h1 : f e v = true) (h2 : t pt x = true) : OkS f t b (.aug pt op e) (.AugAssign x o v p)
 | ife {c x y v a a' p} (h : f c v = true) (h1 : all2 b x a = true) (h2 : all2 b y a' = true) : OkS f t b (.ife c x y) (.If v a a' p)
 | whl {rs c x v a p} (h : f c v = true) (h1 : all2 b x a = true) : OkS f t b (.whl rs c x) (.While v a [] p)
 | for {rs pt e x v i a p} (hn : isNT v = true) (ht : t pt v = true) (h : f e i = true) (h1 : all2 b x a = true) : OkS f t b (.for rs pt e x) (.For v i a [] p)
 | asrt {e v q p} (h : f e v = true) : OkS f t b (.asrt e) (.Assert v q p)
theorem sole_is {f : PySem.Expr → Bool} {ts : List PySem.Expr} {P : Prop} (h : soleE f ts = true) (k : ∀ t, f t = true → [t] = ts → P) : P := by
 cases ts with
 | nil => exact nt h
 | cons t r => cases r with
  | nil => exact k t h rfl
  | cons _ _ => exact nt h
theorem ByS.inv {y : ByS} {P : PySem.Stmt → Prop} {st : PySem.Stmt} (ok : y.is st = true) (hx : ∀ v p, y.fx v = true → P (.Expr v p)) (hp : ∀ p, y.fp = true → P (.Pass p)) (hb : ∀ p, y.fb = true → P (.Break p))
  (hr : ∀ v p, y.fr v = true → P (.Return (some v) p)) (ha : ∀ t v p, y.fa t v = true → P (.Assign [t] v p)) (hu : ∀ t o v p, y.fu t o v = true → P (.AugAssign t o v p))
  (hi : ∀ t a b p, y.fi t a b = true → P (.If t a b p)) (hw : ∀ t a p, y.fw t a = true → P (.While t a [] p)) (hf : ∀ t i a p, y.ff t i a = true → P (.For t i a [] p))
  (hs : ∀ t q p, y.fs t = true → P (.Assert t q p)) : P st := by
 cases st with
 | Expr v p => exact hx v p ok
 | Pass p => exact hp p ok
 | Break p => exact hb p ok
 | Return v p => cases v with
  | none => exact nt ok
  | some v => exact hr v p ok
 | Assign ts v p => exact sole_is ok fun t h q => q ▸ ha t v p h
 | AugAssign t o v p => exact hu t o v p ok
 | If t a b p => exact hi t a b p ok
 | While t a b p => rw [List.isEmpty_iff.mp (and2 ok).1]; exact hw t a p (and2 ok).2
 | For t i a b p => rw [List.isEmpty_iff.mp (and2 ok).1]; exact hf t i a p (and2 ok).2
 | Assert t q p => exact hs t q p ok
 | _ => exact nt ok
theorem okS_is {names : List (Str × NameKind)} {globs : List (Str × AV)} {m : Nat} {ps : PS} {st : PySem.Stmt} (ok : okS names globs (m + 1) ps st = true) : OkS (okE names globs 20) (okT names globs 20) (okS names globs m) ps st := by
 cases ps with
 | expr e => exact ByS.inv ok (fun v p h => .expr (and2 h).1 (and2 h).2) (fun _ h => nt h) (fun _ h => nt h) (fun _ _ h => nt h) (fun _ _ _ h => nt h) (fun _ _ _ _ h => nt h) (fun _ _ _ _ h => nt h) (fun _ _ _ h => nt h) (fun _ _ _ _ h => nt h) (fun _ _ _ h => nt h)
 | pass => exact ByS.inv ok (fun _ _ h => nt h) (fun p h => .pass) (fun _ h => nt h) (fun _ _ h => nt h) (fun _ _ _ h => nt h) (fun _ _ _ _ h => nt h) (fun _ _ _ _ h => nt h) (fun _ _ _ h => nt h) (fun _ _ _ _ h => nt h) (fun _ _ _ h => nt h)
 | brk => exact ByS.inv ok (fun _ _ h => nt h) (fun _ h => nt h) (fun p h => .brk) (fun _ _ h => nt h) (fun _ _ _ h => nt h) (fun _ _ _ _ h => nt h) (fun _ _ _ _ h => nt h) (fun _ _ _ h => nt h) (fun _ _ _ _ h => nt h) (fun _ _ _ h => nt h)
 | ret e => exact ByS.inv ok (fun _ _ h => nt h) (fun _ h => nt h) (fun _ h => nt h) (fun v p h => .ret h) (fun _ _ _ h => nt h) (fun _ _ _ _ h => nt h) (fun _ _ _ _ h => nt h) (fun _ _ _ h => nt h) (fun _ _ _ _ h => nt h) (fun _ _ _ h => nt h)
 | asg pt e => exact ByS.inv ok (fun _ _ h => nt h) (fun _ h => nt h) (fun _ h => nt h) (fun _ _ h => nt h) (fun t v p h => .asg (and2 (and3 h).1).1 (and2 (and3 h).1).2 (and3 h).2.1 (and3 h).2.2) (fun _ _ _ _ h => nt h) (fun _ _ _ _ h => nt h) (fun _ _ _ h => nt h) (fun _ _ _ _ h => nt h) (fun _ _ _ h => nt h)
 | aug pt op e => exact ByS.inv ok (fun _ _ h => nt h) (fun _ h => nt h) (fun _ h => nt h) (fun _ _ h => nt h) (fun _ _ _ h => nt h) (fun t o v p h => .aug (and3 h).1 (and3 h).2.1 (and3 h).2.2) (fun _ _ _ _ h => nt h) (fun _ _ _ h => nt h) (fun _ _ _ _ h => nt h) (fun _ _ _ h => nt h)
 | ife c x y => exact ByS.inv ok (fun _ _ h => nt h) (fun _ h => nt h) (fun _ h => nt h) (fun _ _ h => nt h) (fun _ _ _ h => nt h) (fun _ _ _ _ h => nt h) (fun t a b p h => .ife (and3 h).1 (and3 h).2.1 (and3 h).2.2) (fun _ _ _ h => nt h) (fun _ _ _ _ h => nt h) (fun _ _ _ h => nt h)
 | whl rs c x => exact ByS.inv ok (fun _ _ h => nt h) (fun _ h => nt h) (fun _ h => nt h) (fun _ _ h => nt h) (fun _ _ _ h => nt h) (fun _ _ _ _ h => nt h) (fun _ _ _ _ h => nt h) (fun t a p h => .whl (and2 h).1 (and2 h).2) (fun _ _ _ _ h => nt h) (fun _ _ _ h => nt h)
 | «for» rs pt e x => exact ByS.inv ok (fun _ _ h => nt h) (fun _ h => nt h) (fun _ h => nt h) (fun _ _ h => nt h) (fun _ _ _ h => nt h) (fun _ _ _ _ h => nt h) (fun _ _ _ _ h => nt h) (fun _ _ _ h => nt h) (fun t i a p h => .for (and2 (and3 h).1).1 (and2 (and3 h).1).2 (and3 h).2.1 (and3 h).2.2) (fun _ _ _ h => nt h)
 | asrt e => exact ByS.inv ok (fun _ _ h => nt h) (fun _ h => nt h) (fun _ h => nt h) (fun _ _ h => nt h) (fun _ _ _ h => nt h) (fun _ _ _ _ h => nt h) (fun _ _ _ _ h => nt h) (fun _ _ _ h => nt h) (fun _ _ _ _ h => nt h) (fun t q p h => .asrt h)
noncomputable def FlR (h : Heap) (g : G) : Fl → Flow → Prop
 | .next, f => f = .next
 | .brk, f => f = .brk
 | .ret v, f => ∃ val, f = .ret val ∧ RelV h g v val
section
variable {Y : Sys} {T : Tab} {d : Nat} {names : List (Str × NameKind)} {L : Addr} {loc loc' : Loc} {ob : List AObj} {s0 s : Shared} {g : G} {A : Around} {E : Value → Shared → Prop} {env : Env} {n m : Nat} {v : AV} {fl : Fl} {ob' : List AObj} {obs : List Nat} {Q : Flow → Shared → Prop} {pos : Pos}
noncomputable abbrev ThenF (Y : Sys) (names : List (Str × NameKind)) (L : Addr) (loc' : Loc) (s0 : Shared) (g : G) (s : Shared) (fl : Fl) (ob' : List AObj) (Q : Flow → Shared → Prop) : Prop :=
 ∀ g' s' f, RS Y g' L names loc' ob' s0 s' → Go (some L) g s.heap g' s'.heap → FlR s'.heap g' fl f → Q f s'
noncomputable def SndS (Y : Sys) (T : Tab) (d : Nat) (names : List (Str × NameKind)) (f : PS → Loc → List AObj → Res (Fl × St)) : Prop :=
 ∀ m ps st loc ob fl loc' ob' obs, f ps loc ob = some ((fl, loc', ob'), obs) → okS names T.globs m ps st = true → Fits obs →
  ∀ A env L g s0 s Q E, Fr1 env L names → Deep d A → RS Y g L names loc ob s0 s → ThenF Y names L loc' s0 g s fl ob' Q → wpAny (model Y.prog Y.w) A (exec st env) Q E s
theorem ftF {loc1 : Loc} {ob1 : List AObj} {fl1 : Fl} {l : List Nat} (e : fine (fl1, loc1, ob1) = some ((fl, loc', ob'), l)) (K : ThenF Y names L loc' s0 g s fl ob' Q) : ThenF Y names L loc1 s0 g s fl1 ob1 Q := by cases e; exact K
theorem exs_sound {f : PS → Loc → List AObj → Res (Fl × St)} (H : SndS Y T d names f) (hF : Fr1 env L names) (hD : Deep d A) (ps : List PS) : ∀ {sts : List PySem.Stmt} {loc : Loc} {ob : List AObj} {fl : Fl} {loc' : Loc} {ob' : List AObj} {obs : List Nat}, exs f ps loc ob = some ((fl, loc', ob'), obs) → all2 (okS names T.globs m) ps sts = true → Fits obs →
  ∀ {g : G} {s : Shared} {Q : Flow → Shared → Prop} {E : Value → Shared → Prop}, RS Y g L names loc ob s0 s → ThenF Y names L loc' s0 g s fl ob' Q → wpAny (model Y.prog Y.w) A (execs sts env) Q E s := by
 induction ps with
 | nil =>
  intro sts loc ob fl loc' ob' obs e ok fit g s Q E R K
  cases sts with
  | cons _ _ => exact nt ok
  | nil => exact wpAny_execs_nil (ftF e K g s _ R (Go.refl _ _ _) rfl)
 | cons p ps ih =>
  intro sts loc ob fl loc' ob' obs e ok fit g s Q E R K
  cases sts with
  | nil => exact nt ok
  | cons st sts =>
  replace ok := and2 ok
  refine bndF e fit fun r l1 l2 e1 e2 fit1 fit2 => ?_
  clear e fit
  obtain ⟨fl1, loc1, ob1⟩ := r
  refine wpAny_execs_cons ?_
  refine H m p st loc ob fl1 loc1 ob1 l1 e1 ok.1 fit1 A env L g s0 s _ E hF hD R fun g1 s1 f R1 go1 hf => ?_
  clear e1 R
  cases fl1 with
  | next =>
   cases hf
   exact ih e2 ok.2 fit2 R1 fun g2 s2 f2 R2 go2 hf2 => K g2 s2 f2 R2 (go1.trans go2) hf2
  | brk =>
   cases hf
   exact ftF e2 K g1 s1 _ R1 go1 rfl
  | ret v =>
   replace K := ftF e2 K g1 s1 _ R1 go1 hf
   clear e2 ih
   obtain ⟨val, rfl, _⟩ := hf
   exact K
noncomputable def SndB (Y : Sys) (d : Nat) (names : List (Str × NameKind)) (f : BodyF) (body : List PySem.Stmt) : Prop :=
 ∀ loc ob fl loc' ob' obs, f loc ob = some ((fl, loc', ob'), obs) → Fits obs →
  ∀ A env L g s0 s Q E, Fr1 env L names → Deep d A → RS Y g L names loc ob s0 s → ThenF Y names L loc' s0 g s fl ob' Q → wpAny (model Y.prog Y.w) A (execs body env) Q E s
theorem exs_body {f : PS → Loc → List AObj → Res (Fl × St)} (H : SndS Y T d names f) {ps : List PS} {sts : List PySem.Stmt} (ok : all2 (okS names T.globs m) ps sts = true) : SndB Y d names (exs f ps) sts :=
 fun _ _ _ _ _ _ e fit _ _ _ _ _ _ _ _ hF hD R K => exs_sound H hF hD ps e ok fit R K
theorem noComp {v : PySem.Expr} (h : (!isCompE v) = true) (t : Option PySem.Expr) (line : Nat) (env : Env) : swapsWith v t line env = pure false := by
 cases v <;> first | rfl | exact nt h
noncomputable def swF (c : Bool) (c1 : Bool) (ns : List Str) (n : Nat) (c2 c3 : Bool) : Sem (Option (List Str)) :=
 if c = true then pure none else if c1 = true then pure none else if (ns.length != n || ns.eraseDups.length != ns.length) = true then pure none else if c2 = true then pure none else
  if c3 = true then (unsupported "assign.tuple-of-constant-expressions:order-of-the-stores" : Sem PUnit) >>= fun _ => pure (some ns) else pure (some ns)
set_option backward.match.sparseCases true in
noncomputable def swN (l : Option PySem.Expr) (env : Env) (ts : List PySem.Expr) : List Str := ts.filterMap fun | .Name id pos => if env.kindOf id == some .local && pos.line == (l.map (·.pos.line)).getD 0 then some id else none | _ => none
set_option backward.match.sparseCases true in
theorem swF_is (ts vs : List PySem.Expr) (c c' : Nat) (p p' : Pos) (env : Env) : swappedStores [.Tuple ts c p] (.Tuple vs c' p') env = swF (!(ts.length == 2 || ts.length == 3) || vs.length != ts.length || env.blockKind != .function) (vs.any fun | .Starred .. => true | _ => false) (swN ts.head? env ts) ts.length (vs.all (foldedForSure 8)) (vs.all (constantsAlone 8)) := rfl
theorem swF_fold {c c1 c3 : Bool} {ns : List Str} {n : Nat} : swF c c1 ns n true c3 = pure none := by
 unfold swF
 cases c with
 | true => rfl
 | false => cases c1 with
  | true => rfl
  | false => exact ite_self _
theorem swapV {ts : List PySem.Expr} {c : Nat} {p : Pos} {v : PySem.Expr} {env : Env} (h : tupOf v = none) : swappedStores [.Tuple ts c p] v env = pure none := by
 cases v with
 | Tuple vs c' p' => exact some_no h
 | _ => rfl
theorem swapNone {t v : PySem.Expr} (hn : ∀ ts vs, tupOf t = some ts → tupOf v = some vs → vs.all (foldedForSure 8) = true) (hl : ∀ ts p, t ≠ .List ts p) (env : Env) : swappedStores [t] v env = pure none := by
 cases t with
 | Tuple ts c p => cases q : tupOf v with
  | none => exact swapV q
  | some vs =>
   obtain ⟨c', p', rfl⟩ := tupOf_is q
   rw [swF_is, hn _ _ rfl rfl, swF_fold]
 | List ts p => exact absurd rfl (hl _ _)
 | _ => rfl
theorem s_expr (H : SndE Y T d names (ev T 20)) {e : PE} {x : PySem.Expr} (hc : (!isCompE x) = true) (ok : okE names T.globs 20 e x = true) (he : (bnd (ev T 20 e loc ob) fun (_, ob) => fine (.next, loc, ob)) = some ((fl, loc', ob'), obs)) (fit : Fits obs) (hF : Fr1 env L names) (hD : Deep d A) (R : RS Y g L names loc ob s0 s) (K : ThenF Y names L loc' s0 g s fl ob' Q) :
  wpAny (model Y.prog Y.w) A (exec (.Expr x pos) env) Q E s := by
 refine bndP he fit fun o1 ob1 l1 l2 e1 e2 fit1 _ => ?_
 replace K := ftF e2 K
 rw [exec_Expr _ _ _ (by unfold interactive; rw [hF.kind]; rfl) (noComp hc _ _ _)]
 refine wpAny_bind (wpAny_standAt (wpAny_bind (H _ _ x _ _ _ _ _ e1 ok fit1 A env L g s0 s _ E hF hD R fun g1 s1 val R1 go1 r1 => ?_)))
 exact wpAny_dropValue (K g1 s1 _ R1 go1 rfl)
theorem okT_name {globs : List (Str × AV)} {pt : PT} {x : Str} {p : Pos} (ok : okT names globs (m + 1) pt (.Name x p) = true) : ∃ k, pt = .loc k ∧ names[k]? = some (x, NameKind.local) := by
 cases pt with
 | loc k => exact ⟨k, rfl, of_decide_eq_true ok⟩
 | _ => exact nt ok
theorem okT_tup {globs : List (Str × AV)} {pt : PT} {ts : List PySem.Expr} {c : Nat} {p : Pos} (ok : okT names globs (m + 1) pt (.Tuple ts c p) = true) : ∃ l, pt = .tup l ∧ all2 (okT names globs m) l ts = true := by
 cases pt with
 | tup l => exact ⟨l, rfl, ok⟩
 | _ => exact nt ok
theorem all2_two {α β : Type} {f : α → β → Bool} {l : List α} {a b : β} (h : all2 f l [a, b] = true) : ∃ x y, l = [x, y] ∧ f x a = true ∧ f y b = true := by
 match l, h with
 | [x, y], h => exact ⟨x, y, rfl, (Bool.and_eq_true_iff.mp h).1, (Bool.and_eq_true_iff.mp (Bool.and_eq_true_iff.mp h).2).1⟩
 | [x], h => exact nt ((Bool.and_eq_true_iff.mp h).2)
 | _ :: _ :: _ :: _, h => exact nt (Bool.and_eq_true_iff.mp (Bool.and_eq_true_iff.mp h).2).2
theorem asg_loc {k : Nat} (e : asg T (n + 1) (.loc k) v loc ob = some ((loc', ob'), obs)) : k < loc.length ∧ loc' = loc.set k (some v) ∧ ob' = ob := by
 rcases Nat.lt_or_ge k loc.length with h | h
 ·have : asg T (n + 1) (.loc k) v loc ob = fine (loc.set k (some v), ob) := if_pos h
  rw [this] at e
  cases e
  exact ⟨h, rfl, rfl⟩
 ·have : asg T (n + 1) (.loc k) v loc ob = none := if_neg (Nat.not_lt.mpr h)
  rw [this] at e
  cases e
theorem asg_tup {ts : List PT} {r : (Loc × List AObj) × List Nat} (e : asg T (n + 1) (.tup ts) v loc ob = some r) : ∃ vs, v = .tup vs ∧ asgs (asg T n) ts vs loc ob = some r := by
 cases v with
 | tup vs => exact ⟨vs, rfl, e⟩
 | _ => exact nO e
theorem asg_two {i j : Nat} (e : asg T (n + 2) (.tup [.loc i, .loc j]) v loc ob = some ((loc', ob'), obs)) (fit : Fits obs) : ∃ a b, v = .tup [a, b] ∧ i < loc.length ∧ j < loc.length ∧ loc' = (loc.set i (some a)).set j (some b) ∧ ob' = ob := by
 replace e := asg_tup e
 obtain ⟨vs, q, e⟩ := e
 subst q
 cases vs with
 | nil => exact nO e
 | cons a vs =>
 refine bndP e fit fun l1 o1 _ _ h1 h2 _ fit => ?_
 clear e
 cases vs with
 | nil => exact nO h2
 | cons b vs =>
 refine bndP h2 fit fun l2 o2 _ _ h3 h4 _ fit => ?_
 clear h2
 cases vs with
 | cons _ _ => exact nO h4
 | nil =>
 obtain ⟨q1, q2, q3⟩ := asg_loc h1
 obtain ⟨q4, q5, q6⟩ := asg_loc h3
 clear h1 h3
 cases h4
 subst q2 q3 q5 q6
 exact ⟨a, b, rfl, q1, by rwa [List.length_set] at q4, rfl, rfl⟩
structure Swp (ts vs : List PySem.Expr) (x1 x2 : Str) (p1 p2 : Pos) : Prop where
 ts : ts = [.Name x1 p1, .Name x2 p2]
 line : p1.line = p2.line
 ne : x1 ≠ x2
 len : vs.length = 2
 star : vs.any isStarE = false
 fold : vs.all (foldedForSure 8) = false
 cons : vs.all (constantsAlone 8) = false
theorem okSwap_inv {ts vs : List PySem.Expr} (h : okPair vs ts = true) (hf : vs.all (foldedForSure 8) = false) : ∃ x1 x2 p1 p2, Swp ts vs x1 x2 p1 p2 := by
 cases ts with
 | nil => exact nt h
 | cons a ts => cases ts with
  | nil => exact nt h
  | cons b ts => cases ts with
   | cons _ _ => exact nt h
   | nil =>
    obtain ⟨x, hx, h⟩ := onT_is h
    obtain ⟨y, hy, h⟩ := onT_is h
    exact ⟨_, _, _, _, by rw [nameOf_is hx, nameOf_is hy], of_decide_eq_true (and2 h).1, of_decide_eq_true (and2 (and2 h).2).1, of_decide_eq_true (and2 (and2 (and2 h).2).2).1, (Bool.not_eq_true' _).mp (and2 (and2 (and2 (and2 h).2).2).2).1, hf, (Bool.not_eq_true' _).mp (and2 (and2 (and2 (and2 h).2).2).2).2⟩
set_option backward.match.sparseCases true in
theorem star_any {vs : List PySem.Expr} (h : vs.any isStarE = false) : (vs.any fun | .Starred .. => true | _ => false) = false := (congrArg vs.any (funext fun e => by cases e <;> rfl)).trans h
theorem swN_two {env : Env} {x1 x2 : Str} {p1 p2 : Pos} (hl : p1.line = p2.line) (kd1 : env.kindOf x1 = some .local) (kd2 : env.kindOf x2 = some .local) : swN (some (.Name x1 p1)) env [.Name x1 p1, .Name x2 p2] = [x1, x2] := by
 have k : ∀ {x : Str} {p : Pos}, env.kindOf x = some .local → p.line = p1.line → (if env.kindOf x == some .local && p.line == p1.line then some x else none) = some x := fun h q => by
  rw [h, q, beq_self_eq_true, beq_self_eq_true]; rfl
 exact (List.filterMap_cons_some (by exact k kd1 rfl)).trans (congrArg (x1 :: ·) (List.filterMap_cons_some (by exact k kd2 hl.symm)))
theorem dups_two {x1 x2 : Str} (h : x1 ≠ x2) : [x1, x2].eraseDups.length = 2 := by
 rw [List.eraseDups_cons, List.filter_cons_of_pos (by rw [beq_eq_false_iff_ne.mpr h.symm]; rfl)]; rfl
theorem swap_eq (hF : Fr1 env L names) {ts vs : List PySem.Expr} {x1 x2 : Str} {p1 p2 : Pos} (W : Swp ts vs x1 x2 p1 p2) (kd1 : env.kindOf x1 = some .local) (kd2 : env.kindOf x2 = some .local) {c c' : Nat} {p p' : Pos} : swappedStores [.Tuple ts c p] (.Tuple vs c' p') env = pure (some [x1, x2]) := by
 have hbk : env.blockKind = .function := by unfold Env.blockKind; rw [hF.kind]; rfl
 rw [swF_is, W.ts, star_any W.star, W.fold, W.cons, W.len, hbk]
 refine (congrArg (fun l => swF false false l 2 false false) (swN_two W.line kd1 kd2)).trans ?_
 refine (if_neg Bool.false_ne_true).trans ((if_neg Bool.false_ne_true).trans ((if_neg ?_).trans ((if_neg Bool.false_ne_true).trans (if_neg Bool.false_ne_true))))
 rw [dups_two W.ne]; exact Bool.false_ne_true
theorem no_list {globs : List (Str × AV)} {pt : PT} {ts : List PySem.Expr} {p : Pos} {P : Prop} (ok : okT names globs (m + 1) pt (.List ts p) = true) : P := by
 cases pt <;> exact nt ok
theorem s_plain (O : Y.Ok) (TO : TabOk Y T d) {pt : PT} {t x : PySem.Expr} (okt : okT names T.globs 20 pt t = true) (hsw : swappedStores [t] x env = pure none) {val : Value} (e : asg T 20 pt v loc ob = some ((loc', ob'), obs)) (fit : Fits obs) (hF : Fr1 env L names) (hD : Deep d A) (r : RelV s.heap g v val) (R : RS Y g L names loc ob s0 s) (K : ThenF Y names L loc' s0 g s .next ob' Q) :
  wpAny (model Y.prog Y.w) A (do assignStores env val (← swappedStores [t] x env) ((assignEach [t] env).map (·.2))) Q E s := by
 have hte : assignEach [t] env = [(false, assign t env)] := by
  exact each_step (okT_star okt) []
 rw [hsw, hte]
 refine wpAny_bind (wpAny_pure ?_)
 exact wpAny_bind (asg_sound O TO hF hD 20 e okt fit r R fun g2 s2 R2 go2 => wpAny_pure (K g2 s2 _ R2 go2 rfl))
theorem s_swap (hF : Fr1 env L names) (hD : Deep d A) {ts vs : List PySem.Expr} {x1 x2 : Str} {p1 p2 : Pos} {c c' : Nat} {p p' : Pos} (W : Swp ts vs x1 x2 p1 p2) {pt : PT} {globs : List (Str × AV)} (okt : okT names globs 20 pt (.Tuple ts c p) = true)
  (e : asg T 20 pt v loc ob = some ((loc', ob'), obs)) (fit : Fits obs) {val : Value} (r : RelV s.heap g v val) (R : RS Y g L names loc ob s0 s) (K : ThenF Y names L loc' s0 g s .next ob' Q) :
  wpAny (model Y.prog Y.w) A (do assignStores env val (← swappedStores [.Tuple ts c p] (.Tuple vs c' p') env) ((assignEach [.Tuple ts c p] env).map (·.2))) Q E s := by
 replace okt := okT_tup okt
 obtain ⟨pts, rfl, okt⟩ := okt
 rw [W.ts] at okt
 replace okt := all2_two okt
 obtain ⟨t1, t2, rfl, o1, o2⟩ := okt
 replace o1 := okT_name o1
 obtain ⟨i, rfl, hi⟩ := o1
 replace o2 := okT_name o2
 obtain ⟨j, rfl, hj⟩ := o2
 have kd1 : env.kindOf x1 = some .local := by unfold Env.kindOf; rw [hF.nms]; exact lookup_at hF.nodup hi
 have kd2 : env.kindOf x2 = some .local := by unfold Env.kindOf; rw [hF.nms]; exact lookup_at hF.nodup hj
 have hij : i ≠ j := fun q => by rw [q, hj] at hi; cases hi; exact W.ne rfl
 replace fit := asg_two e fit
 obtain ⟨a, b, rfl, hi1, hj1, rfl, rfl⟩ := fit
 replace r := relV_tup r
 obtain ⟨ta, us, tn, rfl, tf, th, tr⟩ := r
 replace tr := relVs_two tr
 obtain ⟨va, vb, rfl, ra, rb⟩ := tr
 rw [swap_eq hF W kd1 kd2]
 refine wpAny_bind (wpAny_pure ?_)
 show wpAny _ _ (do rule "assign.swapped-stores"; let items ← unpackItems (.ref ta) 2 none; assignInOrder [bindName env x2, bindName env x1] items.reverse; pure Flow.next) _ _ _
 refine wpAny_bind (wpAny_rule ?_)
 have ht : s.heap.IsTuple ta #[va, vb] := ⟨_, th, rfl, tn, rfl⟩
 refine wpAny_bind ?_
 have hun := wpAny_unpackItems_tuple (prog := Y.prog) (w := Y.w) (E := E) (Q := fun items s' => wpAny (model Y.prog Y.w) A (assignInOrder [bindName env x2, bindName env x1] items.reverse >>= fun _ => pure Flow.next) Q E s') hD.2.2 ht
 refine hun fun h' hx => ?_
 have x : ∀ b o, s.heap.get? b = some o → h'.get? b = some o := fun b o q => hx b o (live_ne q (Nat.le_refl _)) q
 have go : Go .none g s.heap g h' := .of ⟨[], by simp⟩ (fun _ _ => rfl) fun b o q _ _ => x b o q
 have R2 : RS Y g L names loc ob' s0 { s with heap := h' } := RS.of_call R ⟨fun b o q => x b o (R.keep b o q), R.base, R.len, fun i o q => (R.rel i o q).go go.ext (LOk.none _) (fun _ q => nO q) fun b o q _ => x b o q, fun b q => let ⟨o, e⟩ := R.lt b q; ⟨o, x b o e⟩, R.gens, R.os, R.drawn, R.pos⟩ go
 show wpAny _ _ ((do holding [va] (bindName env x2 vb); holding [] (bindName env x1 va); pure ()) >>= fun _ => pure Flow.next) _ _ _
 refine wpAny_bind (wpAny_bind (wpAny_holding ?_))
 refine store_sound hF hj hj1 (rb.go go.ext (LOk.none _)) R2 fun s3 R3 go3 => ?_
 refine wpAny_bind (wpAny_holding ?_)
 refine store_sound hF hi (by rwa [List.length_set]) ((ra.go go.ext (LOk.none _)).step R2 go3) R3 fun s4 R4 go4 => ?_
 refine wpAny_pure (wpAny_pure ?_)
 rw [List.set_comm _ _ (fun q => hij q.symm)] at R4
 exact K g s4 _ R4 ((go.some.trans go3).trans go4) rfl
theorem s_asg (O : Y.Ok) (TO : TabOk Y T d) (H : SndE Y T d names (ev T 20)) {N : Nat} {e : PE} {pt : PT} {t x : PySem.Expr} (hc : (!isCompE x) = true) (oks : okSwap t x = true) (ok : okE names T.globs 20 e x = true) (okt : okT names T.globs 20 pt t = true)
  (he : ex T N (n + 1) (.asg pt e) loc ob = some ((fl, loc', ob'), obs)) (fit : Fits obs) (hF : Fr1 env L names) (hD : Deep d A) (R : RS Y g L names loc ob s0 s) (K : ThenF Y names L loc' s0 g s fl ob' Q) :
  wpAny (model Y.prog Y.w) A (exec (.Assign [t] x pos) env) Q E s := by
 refine bndP (x := ev T 20 e loc ob) he fit fun o1 ob1 l1 l2 e1 e2 fit1 fit => ?_
 clear he
 refine bndP (x := asg T 20 pt o1 loc ob1) e2 fit fun loc2 ob2 l3 l4 e3 e4 fit3 _ => ?_
 clear e2
 replace K := ftF e4 K
 clear e4
 rw [arm_exec_Assign]
 refine wpAny_bind (wpAny_standAt ?_)
 have hsw : swapsWithSole [t] x pos.line env = pure false := noComp hc _ _ _
 rw [hsw]
 refine wpAny_bind (wpAny_pure ?_)
 rw [if_neg Bool.false_ne_true]
 refine wpAny_bind (H _ _ x _ _ _ _ _ e1 ok fit1 A env L g s0 s _ E hF hD R fun g1 s1 val R1 go1 r1 => ?_)
 clear H e1 R
 have K' : ThenF Y names L loc2 s0 g1 s1 .next ob2 Q := fun g2 s2 f R2 go2 hf => K g2 s2 f R2 (go1.trans go2) hf
 clear K
 have hl : ∀ ts p, t ≠ .List ts p := fun ts p q => by subst q; exact no_list okt
 have hsw : ∀ ts vs, tupOf t = some ts → tupOf x = some vs → (vs.all (foldedForSure 8) || okPair vs ts) = true := fun ts vs q1 q2 => by
  have : okSwap t x = (vs.all (foldedForSure 8) || okPair vs ts) := by unfold okSwap; rw [q1, q2]
  exact this.symm.trans oks
 by_cases hs : ∀ ts vs, tupOf t = some ts → tupOf x = some vs → vs.all (foldedForSure 8) = true
 ·exact s_plain O TO okt (swapNone hs hl env) e3 fit3 hF hD r1 R1 K'
 ·obtain ⟨ts, hs⟩ := Classical.not_forall.mp hs
  obtain ⟨vs, hs⟩ := Classical.not_forall.mp hs
  obtain ⟨q1, hs⟩ := Classical.not_imp.mp hs
  obtain ⟨q2, hs⟩ := Classical.not_imp.mp hs
  replace hsw := hsw ts vs q1 q2
  rw [eq_false_of_ne_true hs, Bool.false_or] at hsw
  obtain ⟨x1, x2, p1, p2, W⟩ := okSwap_inv hsw (eq_false_of_ne_true hs)
  obtain ⟨c, p, rfl⟩ := tupOf_is q1
  obtain ⟨c', p', rfl⟩ := tupOf_is q2
  exact s_swap hF hD W okt e3 fit3 r1 R1 K'
end
section
variable {Y : Sys} {T : Tab} {d : Nat} {names : List (Str × NameKind)} {L : Addr} {loc loc' : Loc} {ob : List AObj} {s0 s : Shared} {g : G} {A : Around} {E : Value → Shared → Prop} {env : Env} {n m : Nat} {v : AV} {fl : Fl} {ob' : List AObj} {obs : List Nat} {Q : Flow → Shared → Prop} {pos : Pos}
theorem aug_slice {i : PySem.Expr} (h : isSliceE i = false) (ov iv new : Value) : augStore i ov iv new = (do holding [new, ov, iv] (setItem ov iv new); release [new, ov, iv] []; pure .next) := by
 cases i with
 | Slice _ _ _ _ => exact nt h.symm
 | _ => rfl
theorem aug_loc (H : SndE Y T d names (ev T 20)) {op : Op} {o : Operator} {e : PE} {y : Str} {p : Pos} {x : PySem.Expr} {N j : Nat} (ok0 : okOp op o = true) (ok1 : okE names T.globs 20 e x = true) (hx : names[j]? = some (y, NameKind.local))
  (he : (bnd (lift (getLoc loc j)) fun a => bnd (ev T 20 e loc ob) fun (v, ob) => bnd (binS op a v) fun z => if j < loc.length then fine (Fl.next, loc.set j (some z), ob) else none) = some ((fl, loc', ob'), obs)) (fit : Fits obs) (hF : Fr1 env L names) (hD : Deep d A) (R : RS Y g L names loc ob s0 s) (K : ThenF Y names L loc' s0 g s fl ob' Q) :
  wpAny (model Y.prog Y.w) A (exec (.AugAssign (.Name y p) o x pos) env) Q E s := by
 refine bndL he fit fun a l2 e1 e2 fit => ?_
 clear he
 refine bndP e2 fit fun o1 ob1 l3 l4 e3 e4 fit3 fit => ?_
 clear e2
 refine bndF e4 fit fun z l5 l6 e5 e6 fit5 _ => ?_
 clear e4
 refine ite_is e6 fun hj e6 => ?_
 replace K := ftF e6 K
 clear e6
 obtain ⟨mm, hn, hv⟩ := R.ns
 obtain ⟨old, q1, q2⟩ := hv j y _ hx (getLoc_is e1)
 clear hv e1
 rw [arm_exec_AugAssign]
 refine wpAny_bind (wpAny_standAt (wpAny_bind (wpAny_loadName_local hF.kind (by unfold Env.kindOf; rw [hF.nms]; exact lookup_at hF.nodup hx) (by rw [hF.loc]; exact hn) q1 ?_)))
 refine wpAny_bind (wpAny_holding (H _ _ x _ _ _ _ _ e3 ok1 fit3 A env L g s0 s _ E hF hD R fun g1 s1 w R1 go1 r1 => ?_))
 refine wpAny_bind (wpAny_standAt (wpAny_bind (wpAny_operate' ?_)))
 refine (binS_sound ok0 e5 fit5 (q2.step R go1) r1 R1 fun g2 s2 w2 R2 go2 r2 => ?_).2
 refine wpAny_bind (wpAny_standAt (wpAny_bind (store_sound hF hx hj r2 R2 fun s3 R3 go3 => ?_)))
 exact wpAny_pure (K g2 s3 _ R3 ((go1.trans go2).trans go3) rfl)
theorem aug_attr (O : Y.Ok) (TO : TabOk Y T d) (H : SndE Y T d names (ev T 20)) {op : Op} {o : Operator} {e po : PE} {nn : List Nat} {b x : PySem.Expr} {p : Pos} (ok0 : okOp op o = true) (ok1 : okE names T.globs 20 e x = true) (k1 : okE names T.globs 20 po b = true)
  (he : (bnd (ev T 20 po loc ob) fun (ov, ob) => bnd (lift (getA T ov nn ob)) fun a => bnd (ev T 20 e loc ob) fun (v, ob) => bnd (binS op a v) fun z => bnd (lift (setA T ov nn z ob)) fun ob => fine (Fl.next, loc, ob)) = some ((fl, loc', ob'), obs)) (fit : Fits obs) (hF : Fr1 env L names) (hD : Deep d A) (R : RS Y g L names loc ob s0 s) (K : ThenF Y names L loc' s0 g s fl ob' Q) :
  wpAny (model Y.prog Y.w) A (exec (.AugAssign (.Attribute b (sOf nn) p) o x pos) env) Q E s := by
 refine bndP he fit fun oo ob0 l1 l2 e1 e2 fit1 fit => ?_
 clear he
 refine bndL e2 fit fun av l4 e3 e4 fit => ?_
 clear e2
 refine bndP e4 fit fun o1 ob1 l5 l6 e5 e6 fit5 fit => ?_
 clear e4
 refine bndF e6 fit fun z l7 l8 e7 e8 fit7 fit => ?_
 clear e6
 refine bndL e8 fit fun ob3 l10 e9 e10 _ => ?_
 clear e8
 replace K := ftF e10 K
 clear e10
 rw [arm_exec_AugAssign_2]
 refine wpAny_bind (wpAny_standAt (wpAny_bind (H _ _ b _ _ _ _ _ e1 k1 fit1 A env L g s0 s _ E hF hD R fun g1 s1 w R1 go1 r1 => ?_)))
 refine wpAny_bind (wpAny_holding (wpAny_bind (wpAny_standAt (wpAny_bind ?_))))
 refine getA_sound O TO e3 r1 R1 fun g2 s2 w2 R2 go2 r2 => ?_
 refine wpAny_bind (wpAny_holding (H _ _ x _ _ _ _ _ e5 ok1 fit5 A env L g2 s0 s2 _ E hF hD R2 fun g3 s3 w3 R3 go3 r3 => ?_))
 refine wpAny_bind (wpAny_standAt (wpAny_operate' ?_))
 refine (binS_sound ok0 e7 fit7 (r2.step R2 go3) r3 R3 fun g4 s4 w4 R4 go4 r4 => ?_).2
 refine wpAny_bind (wpAny_standAt (wpAny_bind (wpAny_holding ?_)))
 refine setA_sound O TO e9 (((r1.step R1 go2).step R2 go3).step R3 go4) r4 R4 fun g5 s5 R5 go5 => ?_
 exact wpAny_bind (wpAny_release' (wpAny_pure (K g5 s5 _ R5 ((((go1.trans go2).trans go3).trans go4).trans go5) rfl)))
theorem aug_sub (O : Y.Ok) (TO : TabOk Y T d) (H : SndE Y T d names (ev T 20)) {op : Op} {o : Operator} {e po pi : PE} {b i x : PySem.Expr} {p : Pos} (ok0 : okOp op o = true) (ok1 : okE names T.globs 20 e x = true) (hs : isSliceE i = false) (k1 : okE names T.globs 20 po b = true) (k2 : okE names T.globs 20 pi i = true)
  (he : (bnd (ev T 20 po loc ob) fun (ov, ob) => bnd (ev T 20 pi loc ob) fun (iv, ob) => bnd (lift (subS T ov iv ob)) fun a => bnd (ev T 20 e loc ob) fun (v, ob) => bnd (binS op a v) fun z => bnd (lift (setI ov iv z ob)) fun ob => fine (Fl.next, loc, ob)) = some ((fl, loc', ob'), obs)) (fit : Fits obs) (hF : Fr1 env L names) (hD : Deep d A) (R : RS Y g L names loc ob s0 s) (K : ThenF Y names L loc' s0 g s fl ob' Q) :
  wpAny (model Y.prog Y.w) A (exec (.AugAssign (.Subscript b i p) o x pos) env) Q E s := by
 refine bndP he fit fun oo ob0 l1 l2 e1 e2 fit1 fit => ?_
 clear he
 refine bndP e2 fit fun oi obi l3 l4 e3 e4 fit3 fit => ?_
 clear e2
 refine bndL e4 fit fun av l6 e5 e6 fit => ?_
 clear e4
 refine bndP e6 fit fun o1 ob1 l7 l8 e7 e8 fit7 fit => ?_
 clear e6
 refine bndF e8 fit fun z l9 l10 e9 e10 fit9 fit => ?_
 clear e8
 refine bndL e10 fit fun ob3 l12 e11 e12 _ => ?_
 clear e10
 replace K := ftF e12 K
 clear e12
 rw [arm_exec_AugAssign_3]
 refine wpAny_bind (wpAny_standAt (wpAny_bind (H _ _ b _ _ _ _ _ e1 k1 fit1 A env L g s0 s _ E hF hD R fun g1 s1 w R1 go1 r1 => ?_)))
 refine wpAny_bind (wpAny_holding (H _ _ i _ _ _ _ _ e3 k2 fit3 A env L g1 s0 s1 _ E hF hD R1 fun g2 s2 w2 R2 go2 r2 => ?_))
 refine wpAny_bind (wpAny_holding (wpAny_bind (wpAny_standAt (wpAny_bind ?_))))
 refine (getI_sound (E := E) (A := A) O TO e5 (r1.step R1 go2) r2 R2 fun g3 s3 w3 R3 go3 r3 => ?_).2
 refine wpAny_bind (wpAny_holding (H _ _ x _ _ _ _ _ e7 ok1 fit7 A env L g3 s0 s3 _ E hF hD R3 fun g4 s4 w4 R4 go4 r4 => ?_))
 refine wpAny_bind (wpAny_standAt (wpAny_operate' ?_))
 refine (binS_sound ok0 e9 fit9 (r3.step R3 go4) r4 R4 fun g5 s5 w5 R5 go5 r5 => ?_).2
 refine wpAny_bind (wpAny_standAt ?_)
 rw [aug_slice hs]
 refine wpAny_bind (wpAny_holding ?_)
 have ro := (((r1.step R1 go2).step R2 go3).step R3 go4).step R4 go5
 have ri := ((r2.step R2 go3).step R3 go4).step R4 go5
 refine setI_sound O e11 ro ri r5 R5 fun g6 s6 R6 go6 => ?_
 exact wpAny_bind (wpAny_release' (wpAny_pure (K g6 s6 _ R6 (((((go1.trans go2).trans go3).trans go4).trans go5).trans go6) rfl)))
theorem s_aug (O : Y.Ok) (TO : TabOk Y T d) (H : SndE Y T d names (ev T 20)) {op : Op} {o : Operator} {e : PE} {pt : PT} {t x : PySem.Expr} {N : Nat} (ok0 : okOp op o = true) (ok1 : okE names T.globs 20 e x = true) (okt : okT names T.globs 20 pt t = true)
  (he : ex T N (n + 1) (.aug pt op e) loc ob = some ((fl, loc', ob'), obs)) (fit : Fits obs) (hF : Fr1 env L names) (hD : Deep d A) (R : RS Y g L names loc ob s0 s) (K : ThenF Y names L loc' s0 g s fl ob' Q) :
  wpAny (model Y.prog Y.w) A (exec (.AugAssign t o x pos) env) Q E s := by
 replace okt := okT_is okt
 induction okt with
 | loc h => exact aug_loc (N := 0) H ok0 ok1 h he fit hF hD R K
 | attr h => exact aug_attr O TO H ok0 ok1 h he fit hF hD R K
 | sub h h1 h2 => exact aug_sub O TO H ok0 ok1 h h1 h2 he fit hF hD R K
 | tup _ => exact nO he
theorem s_while {f : BodyF} (HT : SndT Y T d names (tv T 20)) {a : List PySem.Stmt} (HB : SndB Y d names f a) (hF : Fr1 env L names) (hD : Deep d A) {c : PE} {t : PySem.Expr} {N mm : Nat} (ok1 : okE names T.globs mm c t = true)
  (he : whlL (tv T 20 c) f N loc ob = some ((fl, loc', ob'), obs)) (fit : Fits obs) (R : RS Y g L names loc ob s0 s) (K : ThenF Y names L loc' s0 g s fl ob' Q) :
  wpAny (model Y.prog Y.w) A (exec (.While t a [] pos) env) Q E s := by
 refine wpAny_While ?_
 refine codeAny_whileLoop (fun n s' => ∃ g1 loc1 ob1 obs1, whlL (tv T 20 c) f n loc1 ob1 = some ((fl, loc', ob'), obs1) ∧ Fits obs1 ∧ RS Y g1 L names loc1 ob1 s0 s' ∧ Go (some L) g s.heap g1 s'.heap) (fun n s' hI => ?_) N ⟨g, loc, ob, obs, he, fit, R, Go.refl _ _ _⟩
 obtain ⟨g1, loc1, ob1, obs1, e, fit1, R1, go1⟩ := hI
 cases n with
 | zero => cases e
 | succ n =>
 refine bndP (x := tv T 20 c loc1 ob1) e fit1 fun b ob2 l1 l2 e1 e2 fit2 fit3 => ?_
 clear e fit1 he
 refine HT _ c t _ _ _ _ _ e1 ok1 fit2 A env L g1 s0 s' _ _ hF hD R1 fun g2 s2 R2 go2 => ?_
 clear e1 R1
 cases b with
 | false => exact wpAny_execs_nil (ftF e2 K g2 s2 _ R2 (go1.trans go2) rfl)
 | true =>
  refine bndF (x := f loc1 ob2) e2 fit3 fun r l3 l4 e3 e4 fit4 fit5 => ?_
  clear e2
  obtain ⟨fl2, loc2, ob3⟩ := r
  refine HB _ _ _ _ _ _ e3 fit4 A env L g2 s0 s2 _ _ hF hD R2 fun g3 s3 fw R3 go3 hf => ?_
  have go := (go1.trans go2).trans go3
  clear go1 go2 go3 e3 R2
  cases fl2 with
  | next => cases hf; exact ⟨n, Nat.lt_succ_self n, g3, loc2, ob3, l4, e4, fit5, R3, go⟩
  | brk => cases hf; exact ftF e4 K g3 s3 _ R3 go rfl
  | ret v =>
   have K := ftF e4 K g3 s3 _ R3 go hf
   obtain ⟨val, rfl, hv⟩ := hf
   exact K
theorem none_at (h : Heap) : h.get? h.objs.size = none := by
 cases q : h.get? h.objs.size with
 | none => rfl
 | some o => exact absurd rfl (live_ne q (Nat.le_refl _))
theorem go_poke {L : Option Addr} {g g1 : G} {h h1 h' : Heap} {a : Addr} (x : Go L g h g1 h1) (lv : ∀ b, g.own b ≠ .free → ∃ o, h.get? b = some o) (ha : h.get? a = none) (keep : ∀ b o, h1.get? b = some o → b ≠ a → h'.get? b = some o) : Go L g h g1 h' :=
 x.turn lv ha ⟨[], by simp⟩ (fun _ _ => rfl) keep
end
structure Ren (σ : Nat → Option Nat) (g g' : G) : Prop where
 ρ : ∀ i k a, σ i = some k → g.ρ[i]? = some a → g'.ρ[k]? = some a
 free : ∀ b, g.own b = .free ↔ g'.own b = .free
 mine : ∀ b i k, g.own b = .mine i → σ i = some k → g'.own b = .mine k
section
variable {σ : Nat → Option Nat} {g g' : G} {h : Heap}
theorem opt_map {β : Type} {f : Nat → AV} {i : Nat} {v : β} {R : AV → β → Prop} (h0 : R .any v) (h : ∀ k, σ i = some k → R (f k) v) : R (match σ i with | some k => f k | none => .any) v := by
 cases q : σ i with
 | none => exact h0
 | some k => exact h k q
theorem RelV.ren (x : Ren σ g g') {a : AV} {v : Value} (e : RelV h g a v) : RelV h g' (renV σ a) v := by
 refine AV.rec (motive_1 := fun a => ∀ v, RelV h g a v → RelV h g' (renV σ a) v) (motive_2 := fun as => ∀ vs, RelVs h g as vs → RelVs h g' (renVs σ as) vs) (fun _ e => e) (fun _ _ e => e) (fun _ _ e => e) (fun _ _ e => e) ?_ ?_ (fun _ _ e => e) ?_ (fun _ e => e) (fun _ e => e) ?_ a v e
 ·intro _ ih _ e
  obtain ⟨a, vs, n, e1, e3, e4, e5⟩ := e
  exact ⟨a, vs, n, e1, (x.free a).mp e3, e4, ih _ e5⟩
 ·intro i v e
  refine opt_map (f := .ref) (R := RelV h g') trivial fun k q => ?_
  obtain ⟨a, e1, e2⟩ := e
  exact ⟨a, x.ρ i k a q e1, e2⟩
 ·intro f i v e
  refine opt_map (f := .meth f) (R := RelV h g') trivial fun k q => ?_
  obtain ⟨a, y, e1, e2, e3, e4⟩ := e
  exact ⟨a, y, e1, x.ρ i k y q e2, (x.free a).mp e3, e4⟩
 ·intro _ _ i1 i2 _ e
  obtain ⟨v, r, e1, e2, e3⟩ := e
  exact ⟨v, r, e1, i1 _ e2, i2 _ e3⟩
theorem RelVs.ren (x : Ren σ g g') {as : List AV} {vs : List Value} (e : RelVs h g as vs) : RelVs h g' (renVs σ as) vs := by
 induction as generalizing vs with
 | nil => exact e
 | cons a as ih => obtain ⟨v, r, e1, e2, e3⟩ := e; exact ⟨v, r, e1, e2.ren x, ih e3⟩
theorem RelAs.ren (x : Ren σ g g') {as : List (List Nat × AV)} {es : List DictEntry} (e : RelAs h g as es) : RelAs h g' (renK σ as) es := by
 induction as generalizing es with
 | nil => exact e
 | cons a as ih => obtain ⟨d, r, t, e1, e2, e3, e4⟩ := e; exact ⟨d, r, t, e1, e2, e3.ren x, ih e4⟩
theorem RelKs.ren {κ κ' : Type} {f : κ → κ'} (x : Ren σ g g') {as : List (κ × AV)} {es : List (κ' × Value)} (e : RelKs h g f as es) : RelKs h g' f (renK σ as) es := by
 induction as generalizing es with
 | nil => exact e
 | cons a as ih => obtain ⟨v, s, e1, e2, e3⟩ := e; exact ⟨v, s, e1, e2.ren x, ih e3⟩
theorem RelB.ren {Y : Sys} (x : Ren σ g g') {i k : Nat} (hk : σ i = some k) : ∀ {o : AObj}, RelB Y h g i o → RelB Y h g' k (renO σ o) := fun {o} e => by
 cases o with
 | list xs => obtain ⟨a, vs, n, e1, e2, e3, e4⟩ := e; exact ⟨a, vs, n, x.ρ _ _ _ hk e1, x.mine _ _ _ e2 hk, e3, e4.ren x⟩
 | dict es => obtain ⟨a, kvs, e1, e2, e3, e4⟩ := e; exact ⟨a, kvs, x.ρ _ _ _ hk e1, x.mine _ _ _ e2 hk, e3, e4.ren x⟩
 | idict es => obtain ⟨a, kvs, e1, e2, e3, e4⟩ := e; exact ⟨a, kvs, x.ρ _ _ _ hk e1, x.mine _ _ _ e2 hk, e3, e4.ren x⟩
 | inst C as => obtain ⟨a, d, es, n, e1, e2, e3, e4, e5, e6, e7⟩ := e; exact ⟨a, d, es, n, x.ρ _ _ _ hk e1, x.mine _ _ _ e2 hk, x.mine _ _ _ e3 hk, e4, e5, e6, e7.ren x⟩
 | strm _ _ => exact e.elim
theorem RelO.ren {Y : Sys} (x : Ren σ g g') {i k : Nat} (hk : σ i = some k) : ∀ {o : AObj}, RelO Y h g i o → RelO Y h g' k (renO σ o) := fun {o} e => by
 cases o with
 | list xs => exact RelB.ren (Y := Y) (o := .list xs) x hk e
 | dict xs => exact RelB.ren (Y := Y) (o := .dict xs) x hk e
 | idict xs => exact RelB.ren (Y := Y) (o := .idict xs) x hk e
 | inst C xs => exact RelB.ren (Y := Y) (o := .inst C xs) x hk e
 | strm p r => obtain ⟨gc, d, e1, ⟨a, e2, e3⟩, e4, e5, e6, e7⟩ := e; exact ⟨gc, d, e1, ⟨a, x.ρ _ _ _ hk e2, e3⟩, fun b j q => x.mine _ _ _ (e4 b j q) hk, fun b => (e5 b).trans (x.free b), e6, e7⟩
end
noncomputable def ownI (sel : List Nat) : Own → Own
 | .free => .free
 | .mine i => (idx sel i).elim .other .mine
 | .other => .other
noncomputable def inG (sel : List Nat) (g : G) : G := ⟨sel.map fun i => g.ρ[i]?.getD 0, fun b => ownI sel (g.own b)⟩
noncomputable def ownT : Own → Own
 | .free => .other
 | o => o
noncomputable def ownO (n : Nat) (sel : List Nat) : Own → Own → Own
 | .free, _ => .free
 | .mine k, _ => .mine (bck n sel k)
 | .other, o => ownT o
noncomputable def outG (n : Nat) (sel : List Nat) (g g' : G) : G := ⟨g.ρ ++ g'.ρ.drop sel.length, fun b => ownO n sel (g'.own b) (g.own b)⟩
theorem idx_at {sel : List Nat} {i k : Nat} (e : idx sel i = some k) : sel[k]? = some i := by
 induction sel generalizing k with
 | nil => exact nO e
 | cons x r ih =>
  by_cases q : x = i
  ·cases (if_pos q).symm.trans e; rw [q]; rfl
  ·exact oSi ((if_neg q).symm.trans e) fun j h1 h2 => Option.some.inj h2 ▸ ih h1
theorem idx_of {sel : List Nat} {i k : Nat} (hn : sel.Nodup) (e : sel[k]? = some i) : idx sel i = some k := by
 induction sel generalizing k with
 | nil => exact nO e
 | cons x r ih =>
  cases k with
  | zero => exact if_pos (Option.some.inj e)
  | succ k =>
   rw [List.getElem?_cons_succ] at e
   have hn := List.nodup_cons.mp hn
   refine (if_neg fun q : x = i => hn.1 (q.symm ▸ List.mem_of_getElem? e)).trans ?_
   rw [ih hn.2 e]; rfl
theorem bck_lt {n : Nat} {sel : List Nat} {k i : Nat} (e : sel[k]? = some i) : bck n sel k = i := by
 induction sel generalizing k with
 | nil => exact nO e
 | cons x r ih => cases k with
  | zero => exact Option.some.inj e
  | succ k => exact ih e
theorem bck_ge {n : Nat} {sel : List Nat} {k : Nat} : bck n sel (sel.length + k) = n + k := by
 induction sel with
 | nil => show n + (0 + k) = n + k; rw [Nat.zero_add]
 | cons x r ih => rw [List.length_cons, Nat.succ_add]; exact ih
theorem drop_at {α : Type} {l : List α} {n k : Nat} : (l.drop n)[k]? = l[n + k]? := List.getElem?_drop
section
variable {Y : Sys} {g g' : G} {ob ob' ob1 : List AObj} {s0 s s' : Shared} {sel : List Nat}
theorem ownI_free {o : Own} : o = .free ↔ ownI sel o = .free := by
 cases o with
 | free => exact ⟨fun _ => rfl, fun _ => rfl⟩
 | other => exact ⟨fun z => (of_no z), fun z => of_no z⟩
 | mine i => exact ⟨fun z => (mf_no z), fun z => by cases q : idx sel i <;> exact nomatch (congrArg (Option.elim · Own.other Own.mine) q).symm.trans z⟩
theorem ownI_mine {o : Own} {k : Nat} (e : ownI sel o = .mine k) : ∃ i, o = .mine i ∧ idx sel i = some k := by
 cases o with
 | free => exact fm_no e
 | other => exact om_no e
 | mine i =>
  refine ⟨i, rfl, ?_⟩
  cases q : idx sel i with
  | none => exact nomatch (congrArg (Option.elim · Own.other Own.mine) q).symm.trans e
  | some j => cases (congrArg (Option.elim · Own.other Own.mine) q).symm.trans e; rfl
theorem ownO_free {n : Nat} {o o' : Own} : o = .free ↔ ownO n sel o o' = .free := by
 cases o with
 | free => exact ⟨fun _ => rfl, fun _ => rfl⟩
 | other => exact ⟨fun z => (of_no z), fun z => by cases o' <;> exact nomatch z⟩
 | mine i => exact ⟨fun z => (mf_no z), fun z => mf_no z⟩
theorem inG_ren (h : ∀ i ∈ sel, i < g.ρ.length) : Ren (idx sel) g (inG sel g) := by
 refine ⟨fun i k a e q => ?_, fun b => ownI_free, fun b i k e q => (congrArg (ownI sel) e).trans (congrArg (Option.elim · Own.other Own.mine) q)⟩
 show (sel.map _)[k]? = _
 rw [List.getElem?_map, idx_at e, Option.map_some, q]; rfl
theorem inG_len : (inG sel g).ρ.length = sel.length := List.length_map ..
theorem selObjs_at {sel0 : List Nat} {sel : List Nat} {l : List AObj} {k : Nat} {o1 : AObj} (e : selObjs sel0 ob sel = some l) (q : l[k]? = some o1) : ∃ i o, sel[k]? = some i ∧ ob[i]? = some o ∧ o1 = renO (idx sel0) o := by
 induction sel generalizing l k with
 | nil => cases e; exact nO q
 | cons i r ih =>
  refine oSi e fun o h1 e => oSi e fun l' h2 e => ?_
  cases e
  cases k with
  | zero => exact ⟨i, o, rfl, h1, (Option.some.inj q).symm⟩
  | succ k => exact ih h2 q
theorem selObjs_len {sel0 : List Nat} {sel : List Nat} {l : List AObj} (e : selObjs sel0 ob sel = some l) : l.length = sel.length ∧ ∀ i ∈ sel, i < ob.length := by
 induction sel generalizing l with
 | nil => cases e; exact ⟨rfl, fun _ h => mem_no h⟩
 | cons i r ih =>
  refine oSi e fun o h1 e => oSi e fun l' h2 e => ?_
  cases e
  exact ⟨congrArg Nat.succ (ih h2).1, fun j hj => (List.mem_cons.mp hj).elim (fun q => q.symm ▸ (List.getElem?_eq_some_iff.mp h1).1) ((ih h2).2 j)⟩
theorem via_in (R : RO Y g ob s0 s) (hn : sel.Nodup) (hs : selObjs sel ob sel = some ob1) : RO Y (inG sel g) ob1 s0 s := by
 obtain ⟨hl, hlt⟩ := selObjs_len hs
 have x : Ren (idx sel) g (inG sel g) := inG_ren (by rw [R.len]; exact hlt)
 refine ⟨R.keep, fun b o e => (x.free b).mp (R.base b o e), inG_len.trans hl.symm, fun k o1 e => ?_, fun b q => R.lt b fun z => q ((x.free b).mp z), R.gens, R.os, R.drawn, R.pos⟩
 obtain ⟨i, o, q1, q2, rfl⟩ := selObjs_at hs e
 exact (R.rel i o q2).ren x (idx_of hn q1)
theorem outG_ren (R : RO Y g ob s0 s) (hlt : ∀ i ∈ sel, i < ob.length) {L : Option Addr} (go : Go L (inG sel g) s.heap g' s'.heap) : Ren (bckO ob.length sel) g' (outG ob.length sel g g') := by
 refine ⟨fun i k a e q => ?_, fun b => ownO_free, fun b i k e q => by cases q; exact congrArg (ownO _ sel · (g.own b)) e⟩
 cases e
 show (g.ρ ++ g'.ρ.drop sel.length)[bck ob.length sel i]? = some a
 rcases Nat.lt_or_ge i sel.length with h | h
 ·have h1 := List.getElem?_eq_getElem h
  have hm := hlt _ (List.getElem_mem h)
  rw [← R.len] at hm
  rw [bck_lt h1, List.getElem?_append_left hm]
  obtain ⟨more, hm'⟩ := go.ρ
  rw [hm', List.getElem?_append_left (inG_len.symm ▸ h)] at q
  refine Eq.trans ?_ q
  show _ = (sel.map fun i => g.ρ[i]?.getD 0)[i]?
  rw [List.getElem?_map, h1, Option.map_some, List.getElem?_eq_getElem hm]; rfl
 ·obtain ⟨j, rfl⟩ := Nat.exists_eq_add_of_le h
  rw [bck_ge, ← R.len, List.getElem?_append_right (Nat.le_add_right ..), drop_at, Nat.add_sub_cancel_left]; exact q
theorem via_go (R : RO Y g ob s0 s) (hlt : ∀ i ∈ sel, i < ob.length) (hn : sel.Nodup) {L : Option Addr} (go : Go L (inG sel g) s.heap g' s'.heap) : Go L g s.heap (outG ob.length sel g g') s'.heap := by
 refine ⟨⟨_, rfl⟩, fun b hb => ?_, fun b o e f l => ?_, fun b o e f l => go.oth b o e (congrArg (ownI sel) f) l⟩
 ·have hb' : (inG sel g).own b ≠ .free := fun z => hb (ownI_free.mpr z)
  show ownO _ sel (g'.own b) (g.own b) = _
  rw [go.own b hb']
  cases z : (inG sel g).own b with
  | free => exact absurd z hb'
  | mine k =>
   obtain ⟨i, h1, h2⟩ := ownI_mine z
   rw [h1]
   exact congrArg Own.mine (bck_lt (idx_at h2))
  | other =>
   cases w : g.own b with
   | free => exact absurd w hb
   | mine _ => rfl
   | other => rfl
 ·have q := go.free b o e (ownI_free.mp f) l
  exact ⟨congrArg (ownO _ sel · (g.own b)) q.1, q.2⟩
theorem pick_none {n : Nat} {o : AObj} {i : Nat} (h : idx sel i = none) : pick n sel ob' i o = o := by unfold pick; rw [h]; rfl
theorem pick_some {n : Nat} {o o' : AObj} {i k : Nat} (h : idx sel i = some k) (h' : ob'[k]? = some o') : pick n sel ob' i o = renO (bckO n sel) o' := by unfold pick; rw [h]; exact congrArg (Option.elim · o _) h'
theorem merge_len {n : Nat} {ob' : List AObj} {ob : List AObj} {j : Nat} : (merge n sel ob' j ob).length = ob.length + (ob'.length - sel.length) := by
 induction ob generalizing j with
 | nil => exact (List.length_map ..).trans (List.length_drop.trans (Nat.zero_add _).symm)
 | cons o r ih => exact (congrArg Nat.succ ih).trans (Nat.succ_add ..).symm
theorem merge_get {n : Nat} {ob' : List AObj} {ob : List AObj} {j i : Nat} {o : AObj} (h : ob[i]? = some o) : (merge n sel ob' j ob)[i]? = some (pick n sel ob' (j + i) o) := by
 induction ob generalizing j i with
 | nil => exact nO h
 | cons x r ih => cases i with
  | zero => cases h; rfl
  | succ i => exact (ih h).trans (by rw [Nat.succ_add]; rfl)
theorem merge_tail {n : Nat} {ob' : List AObj} {ob : List AObj} {j q : Nat} {o : AObj} (e : (merge n sel ob' j ob)[ob.length + q]? = some o) : ∃ o2, ob'[sel.length + q]? = some o2 ∧ o = renO (bckO n sel) o2 := by
 induction ob generalizing j with
 | nil =>
  have e : ((ob'.drop sel.length).map (renO (bckO n sel)))[0 + q]? = some o := e
  rw [Nat.zero_add, List.getElem?_map, drop_at] at e
  obtain ⟨o2, h, e⟩ := Option.map_eq_some_iff.mp e
  exact ⟨o2, h, e.symm⟩
 | cons x r ih =>
  rw [List.length_cons, Nat.succ_add] at e
  exact ih e
theorem via_out (R : RO Y g ob s0 s) (hn : sel.Nodup) (hlt : ∀ i ∈ sel, i < ob.length) {L : Option Addr} (lk : LOk L s.heap) (hL : ∀ b, L = some b → g.own b = .other) (go : Go L (inG sel g) s.heap g' s'.heap) (R' : RO Y g' ob' s0 s') :
  RO Y (outG ob.length sel g g') (merge ob.length sel ob' 0 ob) s0 s' := by
 have x := outG_ren R hlt go
 have gg := via_go R hlt hn go
 have hl' : sel.length ≤ g'.ρ.length := by
  obtain ⟨more, e⟩ := go.ρ
  rw [e, List.length_append, inG_len]; exact Nat.le_add_right sel.length more.length
 refine ⟨R'.keep, fun b o e => (x.free b).mp (R'.base b o e), ?_, fun i o e => ?_, fun b q => R'.lt b fun z => q ((x.free b).mp z), R'.gens, R'.os, R'.drawn, R'.pos⟩
 ·rw [merge_len]
  show (g.ρ ++ g'.ρ.drop sel.length).length = _
  rw [List.length_append, List.length_drop, R.len, R'.len]
 ·rcases Nat.lt_or_ge i ob.length with h | h
  ·have h1 := List.getElem?_eq_getElem h
   rw [merge_get h1, Nat.zero_add] at e
   cases e
   cases hi : idx sel i with
   | none =>
    rw [pick_none hi]
    refine (R.rel i _ h1).go gg.ext lk hL fun b o' q z => ?_
    refine go.oth b o' q ((congrArg (ownI sel) z).trans (congrArg (Option.elim · Own.other Own.mine) hi)) fun w => ?_
    exact nomatch z.symm.trans (hL b w)
   | some k =>
    have hk : k < ob'.length := Nat.lt_of_lt_of_le (List.getElem?_eq_some_iff.mp (idx_at hi)).1 (R'.len ▸ hl')
    have h3 := List.getElem?_eq_getElem hk
    rw [pick_some hi h3]
    exact (R'.rel k _ h3).ren x (congrArg some (bck_lt (idx_at hi)))
  ·obtain ⟨q, rfl⟩ := Nat.exists_eq_add_of_le h
   obtain ⟨o2, h3, rfl⟩ := merge_tail e
   exact (R'.rel _ o2 h3).ren x (congrArg some bck_ge)
theorem viaF_ok {d : Nat} {f : Addr} {p : Fn} {rs : List Rt} (hp : FnOk Y d f p) : FnOk Y d f (viaF rs p) := by
 intro args ob v ob' obs e fit A g s0 s vals R rv hD
 refine viaS_is e fun sel ob1 hob hnd e => oSi e fun r e1 e => ?_
 have hn := nbN hnd
 have hlt := (selObjs_len hob).2
 have x : Ren (idx sel) g (inG sel g) := inG_ren (by rw [R.len]; exact hlt)
 obtain ⟨⟨v1, ob2⟩, obs1⟩ := r
 cases e
 refine codeAny_mono (hp _ _ _ _ _ e1 fit A _ s0 s vals (via_in R hn hob) (rv.ren x) hD) fun r s' h => ?_
 obtain ⟨g', val, rfl, R', go, r'⟩ := h
 exact ⟨outG ob.length sel g g', val, rfl, via_out R hn hlt (LOk.none _) (fun _ q => nO q) go R', via_go R hlt hn go, r'.ren (outG_ren R hlt go)⟩
variable {d : Nat} {names : List (Str × NameKind)} {L : Addr} {loc : Loc}
theorem renL_at {σ : Nat → Option Nat} {loc : Loc} {k : Nat} {a : AV} (e : (renL σ loc)[k]? = some (some a)) : ∃ b, loc[k]? = some (some b) ∧ a = renV σ b := by
 unfold renL at e
 rw [List.getElem?_map] at e
 obtain ⟨o, h, e⟩ := Option.map_eq_some_iff.mp e
 cases o with
 | none => exact nO e
 | some b => exact ⟨b, h, (Option.some.inj e).symm⟩
theorem via_sound {f : BodyF} {a : List PySem.Stmt} (HB : SndB Y d names f a) (rs : List Rt) : SndB Y d names (viaB rs f) a := by
 intro loc ob fl loc' ob' obs e fit A env L g s0 s Q E hF hD R K
 refine viaS_is e fun sel ob1 hob hnd e => oSi e fun r e1 e => ?_
 have hn := nbN hnd
 have hlt := (selObjs_len hob).2
 have x : Ren (idx sel) g (inG sel g) := inG_ren (by rw [R.len]; exact hlt)
 obtain ⟨⟨fl1, loc1, ob2⟩, obs1⟩ := r
 cases e
 have Rin : RS Y (inG sel g) L names (renL (idx sel) loc) ob1 s0 s := by
  refine ⟨via_in R.toRO hn hob, ?_, ?_⟩
  ·exact congrArg (ownI sel) R.ownL
  ·obtain ⟨m, hm, hv⟩ := R.ns
   refine ⟨m, hm, fun k y a q1 q2 => ?_⟩
   obtain ⟨b, q3, rfl⟩ := renL_at q2
   obtain ⟨v, q4, q5⟩ := hv k y b q1 q3
   exact ⟨v, q4, q5.ren x⟩
 have hL : ∀ b, some L = some b → g.own b = .other := fun b q => by cases q; exact R.ownL
 refine HB _ _ _ _ _ _ e1 fit A env L (inG sel g) s0 s Q E hF hD Rin fun g' s' w R' go hf => ?_
 have x' := outG_ren R.toRO hlt go
 have gg := via_go R.toRO hlt hn go
 refine K (outG ob.length sel g g') s' w ⟨via_out R.toRO hn hlt R.lok hL go R'.toRO, ?_, ?_⟩ gg ?_
 ·exact (gg.own L (by rw [R.ownL]; exact fun q => of_no q)).trans R.ownL
 ·obtain ⟨m, hm, hv⟩ := R'.ns
  refine ⟨m, hm, fun k y a q1 q2 => ?_⟩
  obtain ⟨b, q3, rfl⟩ := renL_at q2
  obtain ⟨v, q4, q5⟩ := hv k y b q1 q3
  exact ⟨v, q4, q5.ren x'⟩
 ·cases fl1 with
  | next => exact hf
  | brk => exact hf
  | ret v =>
   obtain ⟨val, q1, q2⟩ := hf
   exact ⟨val, q1, q2.ren x'⟩
end
section
variable {Y : Sys} {T : Tab} {d : Nat} {names : List (Str × NameKind)} {L : Addr} {loc loc' : Loc} {ob : List AObj} {s0 s : Shared} {g : G} {A : Around} {E : Value → Shared → Prop} {env : Env} {n m : Nat} {v : AV} {fl : Fl} {ob' : List AObj} {obs : List Nat} {Q : Flow → Shared → Prop} {pos : Pos}
theorem str_iter (prog : Program) (w : World) (x : Str) (t : Tok) : ∃ ty : String,
  (∀ (A : Around) (s : Shared) (Q E : Value → Shared → Prop), Q (.ref s.heap.objs.size) { s with heap := s.heap.push { cls := .type ty, data := .fields #[.str x t, .int 0 0] } } → wpAny (model prog w) A (pyIter (.str x t)) Q E s) ∧
  (∀ (A : Around) (s : Shared) (it : Addr) (i c : Nat) (Q : Option Value → Shared → Prop) (E : Value → Shared → Prop), s.heap.IsStrIter it ty x t i → x.cps[i]? = some c → (∀ h', h'.IsStrIter it ty x t (i + 1) → Heap.SameBut it s.heap h' → Q (some (.str ⟨#[c]⟩ s.toks)) { s with heap := h', toks := s.toks + 1 }) → wpAny (model prog w) A (pyNext (.ref it)) Q E s) ∧
  (∀ (A : Around) (s : Shared) (it : Addr) (i : Nat) (Q : Option Value → Shared → Prop) (E : Value → Shared → Prop), A.handled = none → s.heap.IsStrIter it ty x t i → x.cps[i]? = none → (∀ h', Heap.ExtBut it s.heap h' → Q none { s with heap := h' }) → wpAny (model prog w) A (pyNext (.ref it)) Q E s) := by
 cases ha : x.cps.all (· < 128) with
 | true => exact ⟨"str_ascii_iterator", fun A s Q E h => wpAny_pyIter_ascii ha h, fun A s it i c Q E h1 h2 h3 => wpAny_pyNext_ascii_item h1 h2 h3, fun A s it i Q E h0 h1 h2 h3 => wpAny_pyNext_ascii_end h0 h1 h2 h3⟩
 | false => exact ⟨"str_iterator", fun A s Q E h => wpAny_pyIter_wide ha h, fun A s it i c Q E h1 h2 h3 => wpAny_pyNext_wide_item h1 h2 h3, fun A s it i Q E h0 h1 h2 h3 => wpAny_pyNext_wide_end h0 h1 h2 h3⟩
theorem list_at {i k : Nat} {r : Option AV} {ax : Addr} (R : RO Y g ob s0 s) (rr : RelV s.heap g (.ref i) (.ref ax)) (e : itemAt (.ref i) k ob = some r) : ∃ vs n xs, s.heap.get? ax = some (lstObj vs n) ∧ RelVs s.heap g xs vs ∧ some xs[k]? = some r := by
 refine onList_is e fun xs ho e => ?_
 obtain ⟨_, h, q⟩ := rvR rr
 cases q
 exact list_mine (R.rel i _ ho) h fun vs n h2 h3 h4 => ⟨vs, n, xs, h3, h4, e⟩
structure Iter (Y : Sys) (v : AV) (vv : Value) (ia : Addr) (P : Nat → Heap → Prop) : Prop where
 stay : ∀ i h h', (∀ o, h.get? ia = some o → h'.get? ia = some o) → P i h → P i h'
 live : ∀ i h, P i h → ∃ o, h.get? ia = some o
 stop : ∀ (A : Around) (g : G) (ob : List AObj) (s0 s : Shared) (k : Nat) (Q : Option Value → Shared → Prop) (E : Value → Shared → Prop), A.handled = none → RO Y g ob s0 s → RelV s.heap g v vv → P k s.heap → itemAt v k ob = some none →
  (∀ h', (∀ b o, s.heap.get? b = some o → b ≠ ia → h'.get? b = some o) → Q none { s with heap := h' }) → wpAny (model Y.prog Y.w) A (pyNext (.ref ia)) Q E s
 item : ∀ (A : Around) (g : G) (ob : List AObj) (s0 s : Shared) (k : Nat) (x : AV) (Q : Option Value → Shared → Prop) (E : Value → Shared → Prop), RO Y g ob s0 s → RelV s.heap g v vv → P k s.heap → itemAt v k ob = some (some x) →
  (∀ h' u t, P (k + 1) h' → (∀ b o, s.heap.get? b = some o → b ≠ ia → h'.get? b = some o) → s.toks ≤ t → (RelV s.heap g x u ∨ ∃ c tk, x = .str [c] ∧ u = .str (sOf [c]) tk) → Q (some u) { s with heap := h', toks := t }) → wpAny (model Y.prog Y.w) A (pyNext (.ref ia)) Q E s
theorem Iter.list {i : Nat} {ax ia : Addr} : Iter Y (.ref i) (.ref ax) ia (fun k h => h.IsListIter ia ax k) where
 stay := fun _ _ _ k ⟨o, q1, q2⟩ => ⟨o, k _ q1, q2⟩
 live := fun _ _ ⟨o, q, _⟩ => ⟨o, q⟩
 stop := fun A g ob s0 s k Q E hA R r hP e K => by
  obtain ⟨vs, n, xs, hl, rx, e⟩ := list_at R r e
  refine wpAny_pyNext_list_end hA hP (items := vs.toArray) ⟨_, hl, rfl, n, rfl⟩ ?_ fun h' hb => K h' fun b o q n => hb b o n q
  have := rvL rx
  have : xs.length ≤ k := List.getElem?_eq_none_iff.mp (Option.some.inj e)
  simp; lia
 item := fun A g ob s0 s k x Q E R r hP e K => by
  obtain ⟨vs, n, xs, hl, rx, e⟩ := list_at R r e
  obtain ⟨u, hu, ru⟩ := relVs_get rx (Option.some.inj e)
  exact wpAny_pyNext_list_item hP (items := vs.toArray) ⟨_, hl, rfl, n, rfl⟩ (x := u) (by simpa using hu) fun h' hit hb => K h' u s.toks hit (fun b o q n => (hb.2 b n).trans q) (Nat.le_refl _) (.inl ru)
theorem Iter.tup {xs : List AV} {vv : Value} {ia ta : Addr} (hv : vv = .ref ta) : Iter Y (.tup xs) vv ia (fun k h => h.IsTupleIter ia ta k) where
 stay := fun _ _ _ k ⟨o, q1, q2⟩ => ⟨o, k _ q1, q2⟩
 live := fun _ _ ⟨o, q, _⟩ => ⟨o, q⟩
 stop := fun A g ob s0 s k Q E hA R r hP e K => by
  obtain ⟨ta', us, n, q, _, hl, rx⟩ := relV_tup r
  rw [hv] at q; cases q
  refine wpAny_pyNext_tuple_end hA hP (items := us.toArray) ⟨_, hl, rfl, n, rfl⟩ ?_ fun h' hb => K h' fun b o q n => hb b o n q
  have := rvL rx
  have : xs.length ≤ k := List.getElem?_eq_none_iff.mp (Option.some.inj e)
  simp; lia
 item := fun A g ob s0 s k x Q E R r hP e K => by
  obtain ⟨ta', us, n, q, _, hl, rx⟩ := relV_tup r
  rw [hv] at q; cases q
  obtain ⟨u, hu, ru⟩ := relVs_get rx (Option.some.inj e)
  exact wpAny_pyNext_tuple_item hP (items := us.toArray) ⟨_, hl, rfl, n, rfl⟩ (x := u) (by simpa using hu) fun h' hit hb => K h' u s.toks hit (fun b o q n => (hb.2 b n).trans q) (Nat.le_refl _) (.inl ru)
theorem str_item {cs : List Nat} {k : Nat} {r : Option AV} {ob : List AObj} (e : itemAt (.str cs) k ob = some r) : (r = none ∧ cs[k]? = none) ∨ ∃ c, r = some (.str [c]) ∧ cs[k]? = some c := by
 replace e : some (match cs[k]? with | some c => some (AV.str [c]) | none => none) = some r := e
 cases h : cs[k]? with
 | none => rw [h] at e; exact .inl ⟨(Option.some.inj e).symm, rfl⟩
 | some c => rw [h] at e; exact .inr ⟨c, (Option.some.inj e).symm, rfl⟩
theorem sOf_at {cs : List Nat} {k : Nat} : (sOf cs).cps[k]? = cs[k]? := by simp
theorem Iter.str {cs : List Nat} {vv : Value} {ia : Addr} {tk : Tok} (ty : String)
  (hItem : ∀ (A : Around) (s : Shared) (it : Addr) (i c : Nat) (Q : Option Value → Shared → Prop) (E : Value → Shared → Prop), s.heap.IsStrIter it ty (sOf cs) tk i → (sOf cs).cps[i]? = some c → (∀ h', h'.IsStrIter it ty (sOf cs) tk (i + 1) → Heap.SameBut it s.heap h' → Q (some (.str ⟨#[c]⟩ s.toks)) { s with heap := h', toks := s.toks + 1 }) → wpAny (model Y.prog Y.w) A (pyNext (.ref it)) Q E s)
  (hEnd : ∀ (A : Around) (s : Shared) (it : Addr) (i : Nat) (Q : Option Value → Shared → Prop) (E : Value → Shared → Prop), A.handled = none → s.heap.IsStrIter it ty (sOf cs) tk i → (sOf cs).cps[i]? = none → (∀ h', Heap.ExtBut it s.heap h' → Q none { s with heap := h' }) → wpAny (model Y.prog Y.w) A (pyNext (.ref it)) Q E s) :
  Iter Y (.str cs) vv ia (fun k h => h.IsStrIter ia ty (sOf cs) tk k) where
 stay := fun _ _ _ k ⟨o, q1, q2⟩ => ⟨o, k _ q1, q2⟩
 live := fun _ _ ⟨o, q, _⟩ => ⟨o, q⟩
 stop := fun A g ob s0 s k Q E hA R r hP e K => by
  rcases str_item e with ⟨_, h⟩ | ⟨c, h, _⟩
  ·exact hEnd A s ia k Q E hA hP (sOf_at.trans h) fun h' hb => K h' fun b o q n => hb b o n q
  ·cases h
 item := fun A g ob s0 s k x Q E R r hP e K => by
  rcases str_item e with ⟨h, _⟩ | ⟨c, h, h2⟩
  ·cases h
  ·cases h
   exact hItem A s ia k c Q E hP (sOf_at.trans h2) fun h' hit hb => K h' _ _ hit (fun b o q n => (hb.2 b n).trans q) (Nat.le_succ _) (.inr ⟨c, _, rfl, rfl⟩)
theorem s_loop {f : BodyF} (O : Y.Ok) (TO : TabOk Y T d) {a : List PySem.Stmt} (HB : SndB Y d names f a) (hF : Fr1 env L names) (hD : Deep d A) {pt : PT} {t : PySem.Expr} {mm N : Nat} (ok1 : okT names T.globs mm pt t = true) {P : Nat → Heap → Prop} {vv : Value} (I : Iter Y v vv s.heap.objs.size P)
  (hlet : ∀ (A : Around) (s1 : Shared) (g1 : G) (u : Value) (x : AV) (k : Nat) (loc1 : Loc) (ob1 : List AObj) r (Q : Unit → Shared → Prop) (E : Value → Shared → Prop), P k s1.heap → asg T 20 pt x loc1 ob1 = some r → RelV s1.heap g1 x u → Q () s1 → wpAny (model Y.prog Y.w) A (letOwnedTupleGo t (.ref s.heap.objs.size) u) Q E s1)
  {o0 : Obj} (hfr : o0.isFreed = false) (hP : P 0 (s.heap.push o0))
  (he : forG (asg T 20 pt) f v N 0 loc ob = some ((fl, loc', ob'), obs)) (fit : Fits obs) (R : RS Y g L names loc ob s0 s) (rv : RelV s.heap g v vv) {R' : Result → Shared → Prop} (K : ThenF Y names L loc' s0 g s fl ob' (fun f s' => R' (.ok f) s')) :
  codeAny (model Y.prog Y.w) A (.forLoop t (.ref s.heap.objs.size) a [] env) R' { s with heap := s.heap.push o0 } := by
 have hn := none_at s.heap
 have hLs : s.heap.objs.size ≠ L := fun q => by obtain ⟨o, e⟩ := R.liveL; exact live_ne e (Nat.le_refl _) q.symm
 have R0 := R.res hfr
 have go0 : Go (some L) g s.heap (g.res s.heap.objs.size) (s.heap.push o0) := Go.res R.lt _
 refine codeAny_forLoop_any (fun n s' => ∃ i g1 loc1 ob1 obs1, forG (asg T 20 pt) f v n i loc1 ob1 = some ((fl, loc', ob'), obs1) ∧ Fits obs1 ∧ RS Y g1 L names loc1 ob1 s0 s' ∧ Go (some L) g s.heap g1 s'.heap ∧ g1.own s.heap.objs.size = .other ∧ P i s'.heap)
  (fun n s' hI => ?_) N ⟨0, _, loc, ob, obs, he, fit, R0, go0, if_pos rfl, hP⟩
 obtain ⟨i, g1, loc1, ob1, obs1, e, fit1, R1, go1, how, hit⟩ := hI
 have rv1 : RelV s'.heap g1 v vv := rv.go go1.ext R.lok
 cases n with
 | zero => exact nO e
 | succ n =>
 clear he fit R0 go0 rv
 refine forG_is e (fun hx e => ?_) (fun y hx e => ?_)
 ·replace K := ftF e K
  clear e
  refine I.stop _ g1 ob1 s0 _ i _ _ hD.2.2 R1.toRO rv1 hit hx fun h' kp => ?_
  have R2 := R1.drop how hLs (h' := h') kp (t := s'.toks)
  have go2 : Go (some L) g s.heap (g1.rel s.heap.objs.size) h' := go1.turn R.lt hn ⟨[], by simp [G.rel]⟩ (fun b n => if_neg n) kp
  exact wpAny_execs_nil (K _ _ _ R2 go2 rfl)
 ·refine bndP e fit1 fun loc2 ob2 l1 l2 e1 e2 fit2 fit3 => ?_
  clear e fit1
  refine bndF (x := f loc2 ob2) e2 fit3 fun r l3 l4 e3 e4 fit4 fit5 => ?_
  clear e2 fit3
  obtain ⟨fl2, loc3, ob3⟩ := r
  refine I.item _ g1 ob1 s0 _ i y _ _ R1.toRO rv1 hit hx fun h' u tk hit' kp htk ru => ?_
  have R2 := R1.poke how hLs (h' := h') kp (I.live _ _ hit') htk
  have go2 : Go (some L) g s.heap g1 h' := go_poke go1 R.lt hn kp
  have ru2 : RelV h' g1 y u := by
   rcases ru with ru | ⟨c, tk, rfl, rfl⟩
   ·have x0 : Ext0 .none g1 s'.heap g1 h' := ⟨⟨[], by simp⟩, fun b o q z _ => ⟨z, kp b o q fun w => by rw [w, how] at z; cases z⟩⟩
    exact ru.go0 x0 (LOk.none _)
   ·exact ⟨_, rfl⟩
  clear ru kp htk hit rv1 R1 go1
  refine hlet _ _ g1 u y (i + 1) loc1 ob1 _ _ _ hit' e1 ru2 ?_
  refine asg_sound O TO hF hD 20 e1 ok1 fit2 ru2 R2 fun g3 s3 R3 go3 => ?_
  clear e1 ru2 hlet
  have how3 : g3.own s.heap.objs.size = .other := (go3.own _ (by rw [how]; exact fun q => of_no q)).trans how
  have hit3 : P (i + 1) s3.heap := I.stay _ _ _ (fun o q => go3.oth _ _ q how (fun q => hLs (Option.some.inj q).symm)) hit'
  refine HB _ _ _ _ _ _ e3 fit4 _ _ _ _ _ _ _ _ hF hD R3 fun g4 s4 fw R4 go4 hf => ?_
  have go5 := (go2.trans go3).trans go4
  have how4 : g4.own s.heap.objs.size = .other := (go4.own _ (by rw [how3]; exact fun q => of_no q)).trans how3
  have hit4 : P (i + 1) s4.heap := I.stay _ _ _ (fun o q => go4.oth _ _ q how3 (fun q => hLs (Option.some.inj q).symm)) hit3
  clear e3 R2 R3 hit' hit3 how how3 go2 go3 go4
  cases fl2 with
  | next => cases hf; exact ⟨n, Nat.lt_succ_self n, i + 1, g4, loc3, ob3, l4, e4, fit5, R4, go5, how4, hit4⟩
  | brk => cases hf; exact ftF e4 K g4 s4 _ R4 go5 rfl
  | ret v =>
   have K := ftF e4 K g4 s4 _ R4 go5 hf
   obtain ⟨val, rfl, hv⟩ := hf
   exact K
theorem let_loc {t : PySem.Expr} {k : Nat} (ok : okT names T.globs m (.loc k) t = true) (it v : Value) : letOwnedTupleGo t it v = pure () := by
 cases m with
 | zero => exact nt ok
 | succ m => exact ByE.inv (P := fun t => letOwnedTupleGo t it v = pure ()) ok (fun _ _ _ h => nt h) (fun _ _ _ => rfl) (fun _ _ _ h => nt h) (fun _ _ _ _ h => nt h) (fun _ _ _ _ h => nt h) (fun _ _ _ _ h => nt h) (fun _ _ _ h => nt h) (fun _ _ _ h => nt h) (fun _ _ _ _ h => nt h) (fun _ _ _ h => nt h) (fun _ _ _ _ h => nt h) (fun _ _ _ h => nt h) (fun _ _ h => nt h) (fun _ _ _ h => nt h) (fun _ _ _ _ h => nt h) rfl
theorem let_list {t : PySem.Expr} {pt : PT} {ia ax : Addr} {k : Nat} {u : Value} {x : AV} {s1 : Shared} {r : (Loc × List AObj) × List Nat} (ok : okT names T.globs m pt t = true) (hnt : isNT t = true) (hit : s1.heap.IsListIter ia ax k) (e : asg T 20 pt x loc ob = some r) (ru : RelV s1.heap g x u) {Q : Unit → Shared → Prop} (h : Q () s1) :
  wpAny (model Y.prog Y.w) A (letOwnedTupleGo t (.ref ia) u) Q E s1 := by
 cases m with
 | zero => exact nt ok
 | succ m =>
 replace ok := okT_is ok
 induction ok with
 | loc _ => exact wpAny_pure h
 | attr _ => exact nt hnt
 | sub _ _ _ => exact nt hnt
 | tup _ =>
  obtain ⟨vs, q, _⟩ := asg_tup e
  subst q
  clear e
  obtain ⟨ta, _, _, rfl, _⟩ := relV_tup ru
  exact wpAny_letOwnedTupleGo_listiter hit h
theorem s_for {f : BodyF} (O : Y.Ok) (TO : TabOk Y T d) {a : List PySem.Stmt} (HB : SndB Y d names f a) (hF : Fr1 env L names) (hD : Deep d A) {pt : PT} {t : PySem.Expr} {mm N : Nat} (ok1 : okT names T.globs mm pt t = true) (hnt : isNT t = true) (htg : okTg pt v = true)
  (he : forG (asg T 20 pt) f v N 0 loc ob = some ((fl, loc', ob'), obs)) (fit : Fits obs) (R : RS Y g L names loc ob s0 s) {vv : Value} (rv : RelV s.heap g v vv) {R' : Result → Shared → Prop} (K : ThenF Y names L loc' s0 g s fl ob' (fun f s' => R' (.ok f) s')) :
  wpAny (model Y.prog Y.w) A (pyIter vv) (fun it s2 => codeAny (model Y.prog Y.w) A (.forLoop t it a [] env) R' s2) E s := by
 have hit : ∃ r, itemAt v 0 ob = some r := by
  cases N with
  | zero => exact nO he
  | succ N => exact forG_is he (fun h _ => ⟨_, h⟩) (fun _ h _ => ⟨_, h⟩)
 obtain ⟨r0, hit⟩ := hit
 have locs : okTg pt v = true → (∀ i, v ≠ .ref i) → ∃ k, pt = .loc k := by
  intro h hn
  cases pt with
  | loc k => exact ⟨k, rfl⟩
  | _ => cases v <;> first | exact nt h | exact (hn _ rfl).elim
 cases v with
 | ref i =>
  obtain ⟨ax, hax, rfl⟩ := rvR rv
  obtain ⟨vs, n, xs, hl, rx, _⟩ := list_at R.toRO rv hit
  refine wpAny_pyIter_list (items := vs.toArray) ⟨_, hl, rfl, n, rfl⟩ ?_
  exact s_loop O TO HB hF hD ok1 Iter.list (fun A s1 g1 u x k loc1 ob1 r Q E hit e ru h => let_list ok1 hnt hit e ru h) rfl ⟨_, Heap.get?_push_size _ rfl, rfl, rfl⟩ he fit R rv K
 | tup xs =>
  obtain ⟨k, rfl⟩ := locs htg fun i q => nomatch q
  have rv' := rv
  obtain ⟨ta, us, n, rfl, tf, th, tr⟩ := relV_tup rv
  refine wpAny_pyIter_tuple (items := us.toArray) ⟨_, th, rfl, n, rfl⟩ ?_
  exact s_loop O TO HB hF hD ok1 (Iter.tup rfl) (fun A s1 g1 u x k loc1 ob1 r Q E hit e ru h => by rw [let_loc ok1]; exact wpAny_pure h) rfl ⟨_, Heap.get?_push_size _ rfl, rfl, rfl⟩ he fit R rv' K
 | str cs =>
  obtain ⟨k, rfl⟩ := locs htg fun i q => nomatch q
  have rv' := rv
  obtain ⟨tk, rfl⟩ := rvS rv
  obtain ⟨ty, hI, hItem, hEnd⟩ := str_iter Y.prog Y.w (sOf cs) tk
  refine hI _ _ _ _ ?_
  exact s_loop O TO HB hF hD ok1 (Iter.str ty hItem hEnd) (fun A s1 g1 u x k loc1 ob1 r Q E hit e ru h => by rw [let_loc ok1]; exact wpAny_pure h) rfl ⟨_, Heap.get?_push_size _ rfl, rfl, rfl⟩ he fit R rv' K
 | _ => cases hit
theorem bodyV_sound {f : BodyF} {a : List PySem.Stmt} (HB : SndB Y d names f a) (rs : Option (List Rt)) : SndB Y d names (bodyV rs f) a := by
 cases rs with
 | none => exact HB
 | some rs => exact via_sound HB rs
theorem s_ret (H : SndE Y T d names (ev T 20)) {e : PE} {v : PySem.Expr} (ok : okE names T.globs 20 e v = true) (he : (bnd (ev T 20 e loc ob) fun (v, ob) => fine (Fl.ret v, loc, ob)) = some ((fl, loc', ob'), obs)) (fit : Fits obs) (hF : Fr1 env L names) (hD : Deep d A) (R : RS Y g L names loc ob s0 s) (K : ThenF Y names L loc' s0 g s fl ob' Q) :
  wpAny (model Y.prog Y.w) A (exec (.Return (some v) pos) env) Q E s := by
 refine bndP he fit fun o1 ob1 l1 l2 e1 e2 fit1 _ => ?_
 replace K := ftF e2 K
 exact wpAny_Return_some (H _ _ v _ _ _ _ _ e1 ok fit1 A env L g s0 s _ E hF hD R fun g1 s1 w R1 go1 r1 => K g1 s1 _ R1 go1 ⟨w, rfl, r1⟩)
theorem s_if (HT : SndT Y T d names (tv T 20)) {N : Nat} (HS : SndS Y T d names (ex T N n)) {c : PE} {x y : List PS} {t : PySem.Expr} {a b : List PySem.Stmt} (k0 : okE names T.globs 20 c t = true) (k1 : all2 (okS names T.globs m) x a = true) (k2 : all2 (okS names T.globs m) y b = true)
  (he : ex T N (n + 1) (.ife c x y) loc ob = some ((fl, loc', ob'), obs)) (fit : Fits obs) (hF : Fr1 env L names) (hD : Deep d A) (R : RS Y g L names loc ob s0 s) (K : ThenF Y names L loc' s0 g s fl ob' Q) :
  wpAny (model Y.prog Y.w) A (exec (.If t a b pos) env) Q E s := by
 refine bndP (x := tv T 20 c loc ob) he fit fun tb ob1 l1 l2 e1 e2 fit1 fit2 => ?_
 clear he
 rw [arm_exec_If]
 refine wpAny_bind (wpAny_standAt (wpAny_bind (HT _ _ t _ _ _ _ _ e1 k0 fit1 A env L g s0 s _ E hF hD R fun g1 s1 R1 go1 => ?_)))
 clear e1 R HT
 cases tb with
 | true =>
  rw [if_pos rfl]
  exact exs_sound HS hF hD _ e2 k1 fit2 R1 fun g2 s2 f R2 go2 hf => K g2 s2 f R2 (go1.trans go2) hf
 | false =>
  rw [if_neg Bool.false_ne_true]
  exact exs_sound HS hF hD _ e2 k2 fit2 R1 fun g2 s2 f R2 go2 hf => K g2 s2 f R2 (go1.trans go2) hf
theorem no_set {pe : PE} {i : PySem.Expr} (k : okE names T.globs 20 pe i = true) (z : Value) : foldedSetIterable i env z = pure z := by
 replace k := okE_is k
 induction k <;> rfl
theorem s_forS {f : BodyF} (O : Y.Ok) (TO : TabOk Y T d) (H : SndE Y T d names (ev T 20)) {a : List PySem.Stmt} (HB : SndB Y d names f a) (hF : Fr1 env L names) (hD : Deep d A) {pt : PT} {e : PE} {t i : PySem.Expr} {N : Nat} (k1 : isNT t = true) (k2 : okT names T.globs 20 pt t = true) (k3 : okE names T.globs 20 e i = true)
  (he : (bnd (ev T 20 e loc ob) fun (v, ob) => match okTg pt v with
   | true => forG (asg T 20 pt) f v N 0 loc ob
   | false => none) = some ((fl, loc', ob'), obs)) (fit : Fits obs) (R : RS Y g L names loc ob s0 s) (K : ThenF Y names L loc' s0 g s fl ob' Q) :
  wpAny (model Y.prog Y.w) A (exec (.For t i a [] pos) env) Q E s := by
 refine bndP he fit fun o1 ob1 l1 l2 e1 e2 fit1 fit2 => ?_
 clear he
 refine wpAny_For (H _ _ i _ _ _ _ _ e1 k3 fit1 A env L g s0 s _ E hF hD R fun g1 s1 w R1 go1 r1 => ?_) (no_set k3)
 exact cond_is (c := okTg pt o1) e2 fun htg e2 => s_for O TO HB hF hD k2 k1 htg e2 fit2 R1 r1 fun g2 s2 f R2 go2 hf => K g2 s2 f R2 (go1.trans go2) hf
theorem s_asrt (HT : SndT Y T d names (tv T 20)) {N : Nat} {e : PE} {t : PySem.Expr} {q : Option PySem.Expr} (ok : okE names T.globs 20 e t = true) (he : ex T N (n + 1) (.asrt e) loc ob = some ((fl, loc', ob'), obs)) (fit : Fits obs) (hF : Fr1 env L names) (hD : Deep d A) (R : RS Y g L names loc ob s0 s) (K : ThenF Y names L loc' s0 g s fl ob' Q) :
  wpAny (model Y.prog Y.w) A (exec (.Assert t q pos) env) Q E s := by
 refine bndP (x := tv T 20 e loc ob) he fit fun tb ob1 l1 l2 e1 e2 fit1 _ => ?_
 clear he
 cases tb with
 | false => exact nO e2
 | true =>
 replace K := ftF e2 K
 exact wpAny_Assert_holds (HT _ _ t _ _ _ _ _ e1 ok fit1 A env L g s0 s _ E hF hD R fun g1 s1 R1 go1 => ⟨rfl, K g1 s1 _ R1 go1 rfl⟩)
theorem ex_step (O : Y.Ok) (TO : TabOk Y T d) (N : Nat) (HS : SndS Y T d names (ex T N n)) : SndS Y T d names (ex T N (n + 1)) := by
 have H : SndE Y T d names (ev T 20) := (ev_tv_sound O TO 20).1
 have HT : SndT Y T d names (tv T 20) := (ev_tv_sound O TO 20).2
 intro m ps st loc ob fl loc' ob' obs he ok fit A env L g s0 s Q E hF hD R K
 cases m with
 | zero => exact nt ok
 | succ m =>
 replace ok := okS_is ok
 induction ok with
 | expr hc h => exact s_expr H hc h he fit hF hD R K
 | pass =>
  rw [arm_exec_Pass]
  exact wpAny_bind (wpAny_standAt (wpAny_pure (ftF (fl1 := .next) he K g s _ R (Go.refl _ _ _) rfl)))
 | brk =>
  rw [arm_exec_Break]
  exact wpAny_bind (wpAny_standAt (wpAny_pure (ftF (fl1 := .brk) he K g s _ R (Go.refl _ _ _) rfl)))
 | ret h => exact s_ret H h he fit hF hD R K
 | asg hc hs h h1 => exact s_asg O TO H hc hs h h1 he fit hF hD R K
 | aug h h1 h2 => exact s_aug O TO H h h1 h2 he fit hF hD R K
 | ife h h1 h2 => exact s_if HT HS h h1 h2 he fit hF hD R K
 | whl h h1 => exact s_while HT (bodyV_sound (exs_body HS h1) _) hF hD h he fit R K
 | «for» hn ht h h1 => exact s_forS O TO H (bodyV_sound (exs_body HS h1) _) hF hD hn ht h he fit R K
 | asrt h => exact s_asrt HT h he fit hF hD R K
theorem ex_sound (O : Y.Ok) (TO : TabOk Y T d) (N n : Nat) : SndS Y T d names (ex T N n) := by
 induction n with
 | zero => exact fun _ _ _ _ _ _ _ _ _ e => nO e
 | succ n ih => exact ex_step O TO N ih
end
noncomputable def startLoc (k nl : Nat) (args : List AV) : Loc := (args ++ List.replicate (k - args.length) AV.none).map some ++ List.replicate nl none
noncomputable def bFn (T : Tab) (N k nl : Nat) (ar : List Nat) (ps : List PS) : Fn := fun args ob => match ar.contains args.length with
 | true => bnd (exs (ex T N 20) ps (startLoc k nl args) ob) fun (fl, _, ob) => match fl with
  | .ret v => fine (v, ob)
  | .next => fine (.none, ob)
  | .brk => none
 | false => none
section
variable {Y : Sys} {T : Tab} {d : Nat} {names : List (Str × NameKind)} {L : Addr} {loc loc' : Loc} {ob : List AObj} {s0 s : Shared} {g : G} {A : Around} {E : Value → Shared → Prop} {env : Env} {n m : Nat} {v : AV} {fl : Fl} {ob' : List AObj} {obs : List Nat} {Q : Flow → Shared → Prop} {pos : Pos}
theorem nodup_rev {α : Type} {l : List α} (h : l.Nodup) : l.reverse.Nodup := by
 unfold List.Nodup
 rw [List.pairwise_reverse]
 exact List.Pairwise.imp (fun h q => h q.symm) h
theorem lookup_mem {κ β : Type} [BEq κ] [LawfulBEq κ] {x : κ} {v : β} {l : List (κ × β)} (hn : (l.map (·.1)).Nodup) (h : (x, v) ∈ l) : l.lookup x = some v := by
 induction l with
 | nil => exact mem_no h
 | cons y r ih =>
  have hn := List.nodup_cons.mp hn
  rw [List.lookup_cons]
  cases List.mem_cons.mp h with
  | inl q => rw [← q, beq_self_eq_true]
  | inr q =>
   rw [beq_eq_false_iff_ne.mpr fun z : x = y.1 => hn.1 (List.mem_map.mpr ⟨_, q, z⟩)]
   exact ih hn.2 q
theorem RO.ext (R : RO Y g ob s0 s) {h' : Heap} (k : ∀ b o, s.heap.get? b = some o → h'.get? b = some o) {t : Nat} (ht : s.toks ≤ t) : RO Y g ob s0 { s with heap := h', toks := t } := by
 have go : Go .none g s.heap g h' := .of ⟨[], by simp⟩ (fun _ _ => rfl) fun b o e _ _ => k b o e
 exact ⟨fun b o e => k b o (R.keep b o e), R.base, R.len, fun i o e => (R.rel i o e).go go.ext (LOk.none _) (fun _ q => nO q) fun b o' q _ => k b o' q, fun b q => let ⟨o, e⟩ := R.lt b q; ⟨o, k b o e⟩, R.gens, R.os, R.drawn, Nat.lt_of_lt_of_le R.pos ht⟩
theorem RO.res (R : RO Y g ob s0 s) {h' : Heap} (k : ∀ b o, s.heap.get? b = some o → h'.get? b = some o) (hl : ∃ o, h'.get? s.heap.objs.size = some o) {t : Nat} (ht : s.toks ≤ t) : RO Y (g.res s.heap.objs.size) ob s0 { s with heap := h', toks := t } ∧ Go .none g s.heap (g.res s.heap.objs.size) h' := by
 have go : Go .none g s.heap (g.res s.heap.objs.size) h' :=
  .of ⟨[], by simp [G.res]⟩ (fun b hb => if_neg (let ⟨_, e⟩ := (hb.elim (R.lt b) id : ∃ o, s.heap.get? b = some o); live_ne e (Nat.le_refl _))) fun b o e _ _ => k b o e
 refine ⟨⟨fun b o' e => k b o' (R.keep b o' e), fun b o' e => ?_, R.len, fun i o' e => ?_, fun b q => ?_, R.gens, R.os, R.drawn, Nat.lt_of_lt_of_le R.pos ht⟩, go⟩
 ·exact (go.free b o' (R.keep b o' e) (R.base b o' e) (fun q => nO q)).1
 ·exact (R.rel i o' e).go (L := .none) go.ext (LOk.none _) (fun _ q => nO q) fun b o'' q _ => k b o'' q
 ·by_cases hb : b = s.heap.objs.size
  ·rw [hb]; exact hl
  ·have : (g.res s.heap.objs.size).own b = g.own b := if_neg hb
   rw [this] at q
   replace q := R.lt b q
   obtain ⟨o', e⟩ := q
   exact ⟨o', k b o' e⟩
theorem Go.leave {g g1 g2 : G} {h h1 h2 : Heap} {L : Addr} (x : Go .none g h g1 h1) (y : Go (Option.some L) g1 h1 g2 h2) (hL : h.get? L = none) : Go .none g h g2 h2 := by
 have ne : ∀ {b : Addr} {o : Obj}, h.get? b = Option.some o → Option.some L ≠ Option.some b := fun e q => by cases q; rw [hL] at e; cases e
 obtain ⟨m1, e1⟩ := x.ρ
 obtain ⟨m2, e2⟩ := y.ρ
 refine ⟨⟨m1 ++ m2, by rw [e2, e1, List.append_assoc]⟩, fun b hb => ?_, fun b o e n l => ?_, fun b o e n l => ?_⟩
 ·have q := x.own b hb
  rw [y.own b (by rw [q]; exact hb), q]
 ·replace l := x.free b o e n l
  obtain ⟨q1, q2⟩ := l
  exact y.free b o q2 q1 (ne e)
 ·have q := x.own b (by rw [n]; exact fun z => of_no z)
  exact y.oth b o (x.oth b o e n l) (q.trans n) (ne e)
theorem relVs_nones {h : Heap} (n : Nat) : RelVs h g (List.replicate n AV.none) (List.replicate n Value.none) := by
 induction n with
 | zero => rfl
 | succ n ih => exact ⟨_, _, rfl, rfl, ih⟩
structure FnData (Y : Sys) (f : Addr) (fd : FuncData) (body : List PySem.Stmt) (params : List Str) (nl : Nat) (ar : List Nat) : Prop where
 at' : ∃ o, Y.K.lookup f = some o ∧ o.data = .func fd
 code : codeIn Y.K fd.code fd.qualname = true
 body : fd.body = .stmts body
 bind : ∀ vals : List Value, vals.length ∈ ar → (vals ++ List.replicate (params.length - vals.length) Value.none).length = params.length ∧ ∀ s : Shared, Y.K.In s.heap → BindsTo s fd ⟨vals, []⟩ (params.zip (vals ++ List.replicate (params.length - vals.length) .none))
 cell : fd.scope.names.all (fun x => x.2 != .cell) = true
 nd : (fd.scope.names.map (·.1)).Nodup
 pnd : params.Nodup
 bl : fd.scope.names.map (fun p => params.idxOf? p.1) = (List.range params.length).map some ++ List.replicate nl none
 loc : params.all (fun p => fd.scope.names.lookup p == some .local) = true
 glob : fd.globals = mainGlobals
 blt : fd.builtins = builtinsNs
 kind : fd.scope.kind = .function
 co : fd.scope.isCoroutine = false
 gen : fd.scope.isGenerator = false
theorem fn_of_body (O : Y.Ok) (TO : TabOk Y T d) {f : Addr} {fd : FuncData} {body : List PySem.Stmt} {params : List Str} {nl : Nat} {ar : List Nat} (F : FnData Y f fd body params nl ar) {ps : List PS} {N : Nat} (ok : all2 (okS fd.scope.names T.globs 20) ps body = true) :
  FnOk Y (d + 1) f (bFn T N params.length nl ar ps) := by
 intro args ob v ob' obs e fit A g s0 s vals R rv hD
 have X : Y.K.In s.heap := R.KIn O
 unfold bFn at e
 split at e
 case h_2 => cases e
 rename_i har
 replace e := bnd_some e
 obtain ⟨⟨fl, loc', ob1⟩, l1, l2, e1, e2, rfl⟩ := e
 have hlen := rvL rv
 have har' : vals.length ∈ ar := by rw [hlen]; simpa using har
 replace har' := F.bind vals har'
 obtain ⟨hb1, hb2⟩ := har'
 obtain ⟨o, ho, hd⟩ := F.at'
 refine codeAny_call_def (fd := fd) (body := body) (binds := params.zip (vals ++ List.replicate (params.length - vals.length) .none)) (by have := hD.1; show A.depth < 1000; lia) (X _ _ ho) hd (O.nl.keeps R.keep) (codeRec_of X F.code) F.body (hb2 s X)
  (fun x hx => by have := List.all_eq_true.mp F.cell x hx; simpa using this) (fun x hx => ?_) (fun h₀ hns hk => ?_) F.co F.gen F.kind
 ·have hm : x.1 ∈ params := by
   have := List.mem_map_of_mem (f := Prod.fst) hx
   rw [List.map_fst_zip (by exact Nat.le_of_eq (id (Eq.symm hb1)))] at this
   exact this
  have := List.all_eq_true.mp F.loc _ hm
  exact eq_of_beq this
 ·have hl : ∃ o, h₀.get? s.heap.objs.size = some o := by obtain ⟨o, _, _, q, _⟩ := hns; exact ⟨o, q⟩
  obtain ⟨R1, go1⟩ := R.res hk hl (t := s.toks + (params.zip (vals ++ List.replicate (params.length - vals.length) .none)).length) (Nat.le_add_right _ _)
  have rv1 : RelVs h₀ (g.res s.heap.objs.size) (args ++ List.replicate (params.length - args.length) .none) (vals ++ List.replicate (params.length - vals.length) .none) := by
   rw [hlen]
   exact relVs_append (rv.go go1.ext (LOk.none _)) (relVs_nones _)
  have RS1 : RS Y (g.res s.heap.objs.size) s.heap.objs.size fd.scope.names (startLoc params.length nl args) ob s0 { s with heap := h₀, toks := s.toks + (params.zip (vals ++ List.replicate (params.length - vals.length) .none)).length } := by
   refine ⟨R1, if_pos rfl, _, hns, fun k x a q1 q2 => ?_⟩
   have ha1 : (args ++ List.replicate (params.length - args.length) AV.none).length = params.length := by rw [← hlen, ← hb1]; simp [hlen]
   have q3 : (fd.scope.names.map fun p => params.idxOf? p.1)[k]? = some (params.idxOf? x) := by rw [List.getElem?_map, q1]; rfl
   rw [F.bl] at q3
   have hk : k < params.length := by
    rcases Nat.lt_or_ge k params.length with h | h
    ·exact h
    ·unfold startLoc at q2
     rw [List.getElem?_append_right (by rw [List.length_map, ha1]; exact h), List.getElem?_replicate] at q2
     split at q2 <;> cases q2
   rw [List.getElem?_append_left (by simpa using hk), List.getElem?_map, List.getElem?_range hk] at q3
   have hi : params.idxOf? x = some k := (Option.some.inj q3).symm
   unfold startLoc at q2
   rw [List.getElem?_append_left (by rw [List.length_map, ha1]; exact hk), List.getElem?_map] at q2
   replace q2 := Option.map_eq_some_iff.mp q2
   obtain ⟨a', q4, q5⟩ := q2
   cases q5
   replace q4 := relVs_get rv1 q4
   obtain ⟨u, u1, u2⟩ := q4
   refine ⟨u, ?_, u2⟩
   obtain ⟨hi1, hi2, _⟩ := List.idxOf?_eq_some_iff.mp hi
   have hz : (x, u) ∈ params.zip (vals ++ List.replicate (params.length - vals.length) .none) := by
    refine List.mem_iff_getElem?.mpr ⟨k, ?_⟩
    rw [List.getElem?_zip_eq_some]
    refine ⟨?_, u1⟩
    rw [List.getElem?_eq_getElem hi1]
    simpa using hi2
   refine lookup_mem ?_ (List.mem_reverse.mpr hz)
   rw [List.map_reverse, List.map_fst_zip (by exact Nat.le_of_eq (id (Eq.symm hb1)))]
   exact nodup_rev F.pnd
  have hF : Fr1 (callEnv fd s.heap.objs.size f) s.heap.objs.size fd.scope.names := ⟨F.kind, rfl, F.nd, rfl, F.glob, F.blt⟩
  have hD' : Deep d (A.deeper (callEnv fd s.heap.objs.size f)) := by
   obtain ⟨h1, h2, h3⟩ := hD
   refine ⟨?_, ?_, h3⟩
   ·show A.depth + 1 + 3 * d < 990; lia
   ·show A.units + 3 + 100 + 10 * d < 9000; lia
  refine exs_sound (ex_sound O TO N 20) hF hD' ps e1 ok fit.left RS1 fun g' s' fw R2 go2 hf => ?_
  have go3 := go1.leave go2 (none_at _)
  cases fl with
  | next =>
   subst hf
   replace e2 := fine_some e2
   obtain ⟨q, rfl⟩ := e2
   cases q
   exact ⟨g', .none, rfl, R2.toRO, go3, by rfl⟩
  | brk => cases e2
  | ret v =>
   obtain ⟨val, rfl, hv⟩ := hf
   replace e2 := fine_some e2
   obtain ⟨q, rfl⟩ := e2
   cases q
   exact ⟨g', val, rfl, R2.toRO, go3, hv⟩
end
noncomputable def initFn (p : Fn) (C : Addr) : Fn := fun args ob => bnd (p (.ref ob.length :: args) (ob ++ [.inst C []])) fun (v, ob') => match v with
 | .none => fine (.ref ob.length, ob')
 | _ => none
section
variable {Y : Sys} {T : Tab} {d : Nat}
theorem under_deep {A : Around} {C : Addr} {vals : List Value} (h : Deep (d + 1) A) : Deep d (A.under (.builtin "type.__call__" ⟨.ref C :: vals, []⟩)) := by
 obtain ⟨h1, h2, h3⟩ := h
 refine ⟨?_, ?_, h3⟩
 ·rw [depth_under_make]; lia
 ·rw [units_under_make]; lia
theorem class_ok (O : Y.Ok) {C fI : Addr} {p : Fn} (hI : FnOk Y d fI p) (mk : makesIn Y.K C = true) (hi : findIn Y.K (.ref C) "__init__" = some (some (.ref fI))) (ht : typeIn Y.K (.ref fI) = some (.type "function")) : FnOk Y (d + 1) C (initFn p C) := by
 intro args ob v ob' obs e fit A g s0 s vals R rv hD
 have X : Y.K.In s.heap := R.KIn O
 replace e := bnd_some e
 obtain ⟨⟨v1, ob1⟩, l1, l2, e1, e2, rfl⟩ := e
 dsimp only at e2
 split at e2
 case h_2 => cases e2
 replace e2 := fine_some e2
 obtain ⟨q, rfl⟩ := e2
 cases q
 obtain ⟨hp, gs, dr, tk, os⟩ := s
 refine make_core (rest := vals) (kw := []) (makes_of X mk) (looks_findIn X hi) (fun self => bind_fn X self ht) (.inl rfl) ?_
 have kk : ∀ b o, hp.get? b = some o → ((hp.push emptyDict).push (instObj C hp.objs.size)).get? b = some o := fun b o q => Heap.get?_push_of_some _ (Heap.get?_push_of_some _ q)
 have gd : ((hp.push emptyDict).push (instObj C hp.objs.size)).get? hp.objs.size = some (dictOf [] 0) := Heap.get?_push_of_some _ (Heap.get?_push_size _ rfl)
 have gi : ((hp.push emptyDict).push (instObj C hp.objs.size)).get? (hp.objs.size + 1) = some (instObj C hp.objs.size) := by
  have := Heap.get?_push_size (hp.push emptyDict) (o := instObj C hp.objs.size) rfl
  rw [Heap.size_push] at this; exact this
 have go1 : Go .none g hp (g.add (hp.objs.size + 1) [hp.objs.size]) ((hp.push emptyDict).push (instObj C hp.objs.size)) := Go.add R.lt (Nat.le_succ _) (fun b q => by rw [List.mem_singleton.mp q]; exact Nat.le_refl _) kk
 have R1 := R.add (h' := (hp.push emptyDict).push (instObj C hp.objs.size)) (t := tk) (a := hp.objs.size + 1) (more := [hp.objs.size]) (o := .inst C []) (Nat.le_succ _) ⟨_, gi⟩ (fun b q => by rw [List.mem_singleton.mp q]; exact ⟨Nat.le_refl _, _, gd⟩) kk (by
  refine ⟨hp.objs.size + 1, hp.objs.size, [], 0, by rw [← R.len]; exact G.add_at _ _ _, ?_, ?_, Nat.succ_ne_self _, gi, gd, rfl⟩
  ·rw [← R.len]; exact if_pos (.inl rfl)
  ·rw [← R.len]; exact if_pos (.inr (List.mem_singleton.mpr rfl))) (Nat.le_refl _)
 have self1 : RelV ((hp.push emptyDict).push (instObj C hp.objs.size)) (g.add (hp.objs.size + 1) [hp.objs.size]) (.ref ob.length) (.ref (hp.objs.size + 1)) := by
  exact ⟨_, by rw [← R.len]; exact G.add_at _ _ _, rfl⟩
 refine codeAny_mono (hI _ _ _ _ _ e1 fit.left _ _ s0 _ (.ref (hp.objs.size + 1) :: vals) R1 (by exact ⟨_, _, rfl, self1, rv.go go1.ext (LOk.none _)⟩) (under_deep hD)) fun r s' h => ?_
 obtain ⟨g', val, rfl, R', go, r'⟩ := h
 refine ⟨relV_none r', g', .ref (hp.objs.size + 1), rfl, R', go1.trans go, ?_⟩
 exact self1.go go.ext (LOk.none _)
end
mutual
noncomputable def plainA : AV → Bool
 | .none => true
 | .bool _ => true
 | .int _ => true
 | .str _ => true
 | .tup xs => plainAs xs
 | .ref _ => false
 | .val _ => true
 | .meth _ _ => false
 | .any => true
noncomputable def plainAs : List AV → Bool
 | [] => true
 | x :: r => plainA x && plainAs r
end
theorem RelV.over {g gc : G} {h : Heap} (x : ∀ b, g.own b = .free → gc.own b = .free) {a : AV} {v : Value} (p : plainA a = true) (e : RelV h g a v) : RelV h gc a v := by
 refine AV.rec (motive_1 := fun a => ∀ v, plainA a = true → RelV h g a v → RelV h gc a v) (motive_2 := fun as => ∀ vs, plainAs as = true → RelVs h g as vs → RelVs h gc as vs) (fun _ _ e => e) (fun _ _ _ e => e) (fun _ _ _ e => e) (fun _ _ _ e => e) ?_ (fun _ _ p _ => nt p) (fun _ _ _ e => e) (fun _ _ _ p _ => nt p) (fun _ _ _ => trivial) (fun _ _ e => e) ?_ a v p e
 ·intro _ ih _ p e
  obtain ⟨a, vs, n, e1, e3, e4, e5⟩ := e
  exact ⟨a, vs, n, e1, x a e3, e4, ih _ p e5⟩
 ·intro _ _ i1 i2 _ p e
  obtain ⟨v, r, e1, e2, e3⟩ := e
  exact ⟨v, r, e1, i1 _ (and2 p).1 e2, i2 _ (and2 p).2 e3⟩
theorem RelVs.over {g gc : G} {h : Heap} (x : ∀ b, g.own b = .free → gc.own b = .free) {as : List AV} {vs : List Value} (p : plainAs as = true) (e : RelVs h g as vs) : RelVs h gc as vs := by
 induction as generalizing vs with
 | nil => exact e
 | cons _ as ih => obtain ⟨v, r, e1, e2, e3⟩ := e; exact ⟨v, r, e1, e2.over x (and2 p).1, ih (and2 p).2 e3⟩
noncomputable def outOwn (g gc' : G) (i : Nat) : Addr → Own := fun b => match gc'.own b with
 | .free => .free
 | .mine _ => (match g.own b with
  | .free => .mine i
  | k => k)
 | .other => (match g.own b with
  | .free => .other
  | k => k)
section
variable {Y : Sys} {d : Nat} {ob : List AObj} {s0 s s' : Shared} {g gc gc' : G} {i : Nat}
structure Inn (g gc : G) (i : Nat) : Prop where
 free : ∀ b, gc.own b = .free ↔ g.own b = .free
 mine : ∀ b k, gc.own b = .mine k → g.own b = .mine i
theorem out_old (I : Inn g gc i) {h h' : Heap} (go : Go .none gc h gc' h') {b : Addr} (n : g.own b ≠ .free) : outOwn g gc' i b = g.own b := by
 have n1 : gc.own b ≠ .free := fun q => n ((I.free b).mp q)
 have n2 := go.own b n1
 unfold outOwn
 split
 ·rename_i q; exact absurd (n2.symm.trans q) n1
 ·split
  ·rename_i q; exact absurd q n
  ·rfl
 ·split
  ·rename_i q; exact absurd q n
  ·rfl
theorem out_mine (I : Inn g gc i) {h h' : Heap} (go : Go .none gc h gc' h') {b : Addr} {k : Nat} (q : gc'.own b = .mine k) : outOwn g gc' i b = .mine i := by
 cases z : g.own b with
 | free => unfold outOwn; rw [q]; dsimp only; rw [z]
 | _ =>
  have n : g.own b ≠ .free := by rw [z]; exact fun w => nomatch w
  have n1 : gc.own b ≠ .free := fun q => n ((I.free b).mp q)
  rw [out_old I go n]
  exact I.mine b k ((go.own b n1).symm.trans q)
theorem out_free {b : Addr} : gc'.own b = .free ↔ outOwn g gc' i b = .free := by
 unfold outOwn
 split
 ·rename_i q; rw [q]
 ·rename_i q
  rw [q]
  split
  ·exact ⟨(fun w => mf_no w), fun w => mf_no w⟩
  ·rename_i z; exact ⟨(fun w => mf_no w), fun w => absurd w z⟩
 ·rename_i q
  rw [q]
  split
  ·exact ⟨(fun w => of_no w), fun w => of_no w⟩
  ·rename_i z; exact ⟨(fun w => of_no w), fun w => absurd w z⟩
theorem in_other (I : Inn g gc i) {b : Addr} (n : g.own b ≠ .free) (m : g.own b ≠ .mine i) : gc.own b = .other := by
 cases q : gc.own b with
 | free => exact absurd ((I.free b).mp q) n
 | mine k => exact absurd (I.mine b k q) m
 | other => rfl
theorem out_go (I : Inn g gc i) {h h' : Heap} (go : Go .none gc h gc' h') {ρ : List Addr} (hρ : ∃ more, ρ = g.ρ ++ more) : Go .none g h ⟨ρ, outOwn g gc' i⟩ h' := by
 refine ⟨hρ, fun b n => out_old I go n, fun b o e f _ => ?_, fun b o e f _ => ?_⟩
 ·obtain ⟨q1, q2⟩ := go.free b o e ((I.free b).mpr f) (fun q => nO q)
  exact ⟨out_free.mp q1, q2⟩
 ·exact go.oth b o e (in_other I (by rw [f]; exact fun q => nomatch q) (by rw [f]; exact fun q => om_no q)) (fun q => nO q)
theorem innerObjs_len (Y : Sys) (x : SD) : (ioO Y x).length = 4 := rfl
theorem out_rel (I : Inn g gc i) (go : Go .none gc s.heap gc' s'.heap) {x : SD} (R' : RO Y gc' (ioO Y x) s0 s') {p r : List Nat} (S : SInv x p r) {ρ : List Addr} {a : Addr} (ha : ρ[i]? = some a) (ha' : gc'.ρ[0]? = some a) : RelO Y s'.heap ⟨ρ, outOwn g gc' i⟩ i (.strm p r) := by
 refine ⟨gc', x, S, ⟨a, ha, ha'⟩, fun b k q => out_mine I go q, fun b => out_free, R'.len, fun k o q => ?_⟩
 have := R'.rel k o q
 unfold RelO at this
 split at this
 ·rename_i p' r'
  exfalso
  have hm := List.mem_of_getElem? q
  simp [ioO] at hm
 ·exact this
theorem out_keep (I : Inn g gc i) (go : Go .none gc s.heap gc' s'.heap) (R : RO Y g ob s0 s) {ρ : List Addr} (hρ : ∃ more, ρ = g.ρ ++ more) {j : Nat} {o : AObj} (hj : j ≠ i) (e : ob[j]? = some o) : RelO Y s'.heap ⟨ρ, outOwn g gc' i⟩ j o :=
 (R.rel j o e).go (L := .none) (out_go I go hρ).ext (LOk.none _) (fun _ q => nO q) fun b o' q n =>
  go.oth b o' q (in_other I (by rw [n]; exact fun q => mf_no q) (by rw [n]; exact fun z => hj (by cases z; rfl))) (fun q => nO q)
noncomputable def PrimOk (Y : Sys) (pin pout : Fn) : Prop := ∀ args ob v ob' obs, pout args ob = some ((v, ob'), obs) → Fits obs → ∃ i as p r p' r', args = .ref i :: as ∧ plainAs as = true ∧ plainA v = true ∧ ob[i]? = some (.strm p r) ∧ ob' = ob.set i (.strm p' r') ∧
 ∀ x, SInv x p r → ∃ x' obsi, pin (.ref 0 :: as) (ioO Y x) = some ((v, ioO Y x'), obsi) ∧ Fits obsi ∧ SInv x' p' r'
theorem prim_ok {f : Addr} {pin pout : Fn} (hin : FnOk Y d f pin) (hp : PrimOk Y pin pout) : FnOk Y d f pout := by
 intro args ob v ob' obs e fit A g s0 s vals R rv hD
 obtain ⟨i, as, p, r, p', r', rfl, pa, pv, hob, rfl, hx⟩ := hp args ob v ob' obs e fit
 have rl := R.rel i _ hob
 obtain ⟨gc, x, S, ⟨a, h1, h2⟩, h3, h4, h5, h6⟩ := rl
 obtain ⟨x', obsi, e1, fit1, S'⟩ := hx x S
 have I : Inn g gc i := ⟨h4, h3⟩
 have Rin : RO Y gc (ioO Y x) s0 s := ⟨R.keep, fun b o q => (h4 b).mpr (R.base b o q), h5, fun k o q => by
  have hb := h6 k o q
  have hm := List.mem_of_getElem? q
  cases o with
  | strm _ _ => exfalso; simp [ioO] at hm
  | list _ => exact hb
  | dict _ => exact hb
  | idict _ => exact hb
  | inst _ _ => exact hb, fun b q => R.lt b (fun z => q ((h4 b).mpr z)), R.gens, R.os, R.drawn, R.pos⟩
 obtain ⟨v0, vs, rfl, rv0, rvs⟩ := rv
 obtain ⟨a', h1', rfl⟩ := rvR rv0
 rw [h1] at h1'; cases h1'
 refine codeAny_mono (hin _ _ _ _ _ e1 fit1 A gc s0 s (.ref a :: vs) Rin (by exact ⟨_, _, rfl, by exact ⟨a, h2, rfl⟩, rvs.over (fun b q => (h4 b).mpr q) pa⟩) hD) fun r0 s' h => ?_
 obtain ⟨gc', val, rfl, R', go, r'⟩ := h
 have ha' : gc'.ρ[0]? = some a := go.ext.at h2
 refine ⟨⟨g.ρ, outOwn g gc' i⟩, val, rfl, ⟨R'.keep, fun b o q => out_free.mp (R'.base b o q), by rw [List.length_set]; exact R.len, fun j o q => ?_, fun b q => R'.lt b (fun z => q (out_free.mp z)), R'.gens, R'.os, R'.drawn, R'.pos⟩, out_go I go ⟨[], by simp⟩, r'.over (fun b q => out_free.mp q) pv⟩
 by_cases hj : i = j
 ·subst hj
  have hlt : i < ob.length := by
   rcases Nat.lt_or_ge i ob.length with h | h
   ·exact h
   ·rw [List.getElem?_eq_none h] at hob; cases hob
  rw [List.getElem?_set_self hlt] at q
  cases q
  exact out_rel I go R' S' h1 ha'
 ·rw [List.getElem?_set_ne hj] at q
  exact out_keep I go R ⟨[], by simp⟩ (fun z => hj z.symm) q
noncomputable def MakeOk (Y : Sys) (pin pout : Fn) : Prop := ∀ args ob v ob' obs, pout args ob = some ((v, ob'), obs) → Fits obs → ∃ p r, plainAs args = true ∧ v = .ref ob.length ∧ ob' = ob ++ [.strm p r] ∧
 ∃ x' obsi, pin args [] = some ((.ref 0, ioO Y x'), obsi) ∧ Fits obsi ∧ SInv x' p r
theorem make_ok {f : Addr} {pin pout : Fn} (hin : FnOk Y d f pin) (hp : MakeOk Y pin pout) : FnOk Y d f pout := by
 intro args ob v ob' obs e fit A g s0 s vals R rv hD
 obtain ⟨p, r, pa, rfl, rfl, x', obsi, e1, fit1, S'⟩ := hp args ob v ob' obs e fit
 have I : Inn g ⟨[], fun b => match g.own b with | .free => .free | _ => .other⟩ ob.length := ⟨fun b => by
  dsimp only
  split
  ·rename_i q; rw [q]
  ·rename_i q; exact ⟨(fun w => of_no w), fun w => absurd w q⟩, fun b k q => by
  dsimp only at q
  split at q <;> cases q⟩
 have Rin : RO Y ⟨[], fun b => match g.own b with | .free => .free | _ => .other⟩ [] s0 s := ⟨R.keep, fun b o q => (I.free b).mpr (R.base b o q), rfl, (fun k o q => nO q), fun b q => R.lt b (fun z => q ((I.free b).mpr z)), R.gens, R.os, R.drawn, R.pos⟩
 refine codeAny_mono (hin _ _ _ _ _ e1 fit1 A _ s0 s vals Rin (rv.over (fun b q => (I.free b).mpr q) pa) hD) fun r0 s' h => ?_
 obtain ⟨gc', val, rfl, R', go, r'⟩ := h
 obtain ⟨a, ha', rfl⟩ := rvR r'
 have hat : (g.ρ ++ [a])[ob.length]? = some a := by rw [← R.len]; simp
 refine ⟨⟨g.ρ ++ [a], outOwn g gc' ob.length⟩, .ref a, rfl, ⟨R'.keep, fun b o q => out_free.mp (R'.base b o q), by simp [R.len], fun j o q => ?_, fun b q => R'.lt b (fun z => q (out_free.mp z)), R'.gens, R'.os, R'.drawn, R'.pos⟩, out_go I go ⟨[a], rfl⟩, by exact ⟨a, hat, rfl⟩⟩
 rcases Nat.lt_trichotomy j ob.length with h | h | h
 ·rw [List.getElem?_append_left h] at q
  exact out_keep I go R ⟨[a], rfl⟩ (Nat.ne_of_lt h) q
 ·subst h
  simp at q; subst q
  exact out_rel I go R' S' hat ha'
 ·rw [List.getElem?_eq_none (by simp; exact Nat.succ_le_of_lt h)] at q; cases q
end
noncomputable abbrev w0 : List Nat := [112, 39, 80]
noncomputable abbrev w1 : List Nat := [101, 120, 112, 101, 99, 116, 101, 100, 45, 100, 111, 99, 116, 121, 112, 101, 45, 110, 97, 109, 101, 45, 98, 117, 116, 45, 103, 111, 116, 45, 114, 105, 103, 104, 116, 45, 98, 114, 97, 99, 107, 101, 116]
noncomputable abbrev w2 : List Nat := [117, 110, 101, 120, 112, 101, 99, 116, 101, 100, 45, 101, 110, 100, 45, 111, 102, 45, 100, 111, 99, 116, 121, 112, 101]
noncomputable abbrev w3 : List Nat := [117, 110, 101, 120, 112, 101, 99, 116, 101, 100, 45, 99, 104, 97, 114, 45, 105, 110, 45, 100, 111, 99, 116, 121, 112, 101]
noncomputable abbrev w4 : List Nat := [101, 120, 112, 101, 99, 116, 101, 100, 45, 100, 111, 99, 116, 121, 112, 101, 45, 110, 97, 109, 101, 45, 98, 117, 116, 45, 103, 111, 116, 45, 101, 111, 102]
noncomputable abbrev w5 : List Nat := [101, 111, 102, 45, 105, 110, 45, 100, 111, 99, 116, 121, 112, 101, 45, 110, 97, 109, 101]
noncomputable abbrev w6 : List Nat := [97, 112, 112, 101, 110, 100]
noncomputable abbrev w7 : List Nat := [103, 101, 116]
noncomputable abbrev w8 : List Nat := [101, 111, 102, 45, 105, 110, 45, 100, 111, 99, 116, 121, 112, 101]
noncomputable abbrev w9 : List Nat := [110, 101, 101, 100, 45, 115, 112, 97, 99, 101, 45, 97, 102, 116, 101, 114, 45, 100, 111, 99, 116, 121, 112, 101]
noncomputable abbrev w10 : List Nat := [105, 110, 118, 97, 108, 105, 100, 45, 99, 111, 100, 101, 112, 111, 105, 110, 116]
noncomputable abbrev w11 : List Nat := [112, 117, 98, 108, 105, 99]
noncomputable abbrev w12 : List Nat := [115, 121, 115, 116, 101, 109]
noncomputable abbrev w13 : List Nat := [105, 110, 100, 101, 120]
noncomputable abbrev w14 : List Nat := [100, 111, 99, 116, 121, 112, 101, 83, 116, 97, 116, 101]
noncomputable abbrev w15 : List Nat := [98, 101, 102, 111, 114, 101, 68, 111, 99, 116, 121, 112, 101, 78, 97, 109, 101, 83, 116, 97, 116, 101]
noncomputable abbrev w16 : List Nat := [100, 111, 99, 116, 121, 112, 101, 78, 97, 109, 101, 83, 116, 97, 116, 101]
noncomputable abbrev w17 : List Nat := [97, 102, 116, 101, 114, 68, 111, 99, 116, 121, 112, 101, 78, 97, 109, 101, 83, 116, 97, 116, 101]
noncomputable abbrev w18 : List Nat := [97, 102, 116, 101, 114, 68, 111, 99, 116, 121, 112, 101, 80, 117, 98, 108, 105, 99, 75, 101, 121, 119, 111, 114, 100, 83, 116, 97, 116, 101]
noncomputable abbrev w19 : List Nat := [98, 101, 102, 111, 114, 101, 68, 111, 99, 116, 121, 112, 101, 80, 117, 98, 108, 105, 99, 73, 100, 101, 110, 116, 105, 102, 105, 101, 114, 83, 116, 97, 116, 101]
noncomputable abbrev w20 : List Nat := [100, 111, 99, 116, 121, 112, 101, 80, 117, 98, 108, 105, 99, 73, 100, 101, 110, 116, 105, 102, 105, 101, 114, 68, 111, 117, 98, 108, 101, 81, 117, 111, 116, 101, 100, 83, 116, 97, 116, 101]
noncomputable abbrev w21 : List Nat := [100, 111, 99, 116, 121, 112, 101, 80, 117, 98, 108, 105, 99, 73, 100, 101, 110, 116, 105, 102, 105, 101, 114, 83, 105, 110, 103, 108, 101, 81, 117, 111, 116, 101, 100, 83, 116, 97, 116, 101]
noncomputable abbrev w22 : List Nat := [97, 102, 116, 101, 114, 68, 111, 99, 116, 121, 112, 101, 80, 117, 98, 108, 105, 99, 73, 100, 101, 110, 116, 105, 102, 105, 101, 114, 83, 116, 97, 116, 101]
noncomputable abbrev w23 : List Nat := [98, 101, 116, 119, 101, 101, 110, 68, 111, 99, 116, 121, 112, 101, 80, 117, 98, 108, 105, 99, 65, 110, 100, 83, 121, 115, 116, 101, 109, 73, 100, 101, 110, 116, 105, 102, 105, 101, 114, 115, 83, 116, 97, 116, 101]
noncomputable abbrev w24 : List Nat := [97, 102, 116, 101, 114, 68, 111, 99, 116, 121, 112, 101, 83, 121, 115, 116, 101, 109, 75, 101, 121, 119, 111, 114, 100, 83, 116, 97, 116, 101]
noncomputable abbrev w25 : List Nat := [98, 101, 102, 111, 114, 101, 68, 111, 99, 116, 121, 112, 101, 83, 121, 115, 116, 101, 109, 73, 100, 101, 110, 116, 105, 102, 105, 101, 114, 83, 116, 97, 116, 101]
noncomputable abbrev w26 : List Nat := [100, 111, 99, 116, 121, 112, 101, 83, 121, 115, 116, 101, 109, 73, 100, 101, 110, 116, 105, 102, 105, 101, 114, 68, 111, 117, 98, 108, 101, 81, 117, 111, 116, 101, 100, 83, 116, 97, 116, 101]
noncomputable abbrev w27 : List Nat := [100, 111, 99, 116, 121, 112, 101, 83, 121, 115, 116, 101, 109, 73, 100, 101, 110, 116, 105, 102, 105, 101, 114, 83, 105, 110, 103, 108, 101, 81, 117, 111, 116, 101, 100, 83, 116, 97, 116, 101]
noncomputable abbrev w28 : List Nat := [97, 102, 116, 101, 114, 68, 111, 99, 116, 121, 112, 101, 83, 121, 115, 116, 101, 109, 73, 100, 101, 110, 116, 105, 102, 105, 101, 114, 83, 116, 97, 116, 101]
noncomputable abbrev w29 : List Nat := [98, 111, 103, 117, 115, 68, 111, 99, 116, 121, 112, 101, 83, 116, 97, 116, 101]
noncomputable abbrev w30 : List Nat := [116, 121, 112, 101]
noncomputable abbrev w31 : List Nat := [110, 97, 109, 101]
noncomputable abbrev w32 : List Nat := [112, 117, 98, 108, 105, 99, 73, 100]
noncomputable abbrev w33 : List Nat := [115, 121, 115, 116, 101, 109, 73, 100]
noncomputable abbrev w34 : List Nat := [99, 111, 114, 114, 101, 99, 116]
noncomputable abbrev w35 : List Nat := [68, 111, 99, 116, 121, 112, 101]
noncomputable abbrev w36 : List Nat := [99, 117, 114, 114, 101, 110, 116, 84, 111, 107, 101, 110]
noncomputable abbrev w37 : List Nat := [116, 111, 107, 101, 110, 81, 117, 101, 117, 101]
noncomputable abbrev w38 : List Nat := [115, 116, 97, 116, 101]
noncomputable abbrev w39 : List Nat := [100, 97, 116, 97]
noncomputable abbrev w40 : List Nat := [80, 97, 114, 115, 101, 69, 114, 114, 111, 114]
noncomputable abbrev w41 : List Nat := [100, 97, 116, 97, 118, 97, 114, 115]
noncomputable abbrev w42 : List Nat := [115, 116, 114, 101, 97, 109]
noncomputable abbrev w43 : List Nat := [112, 111, 115, 105, 116, 105, 111, 110]
noncomputable abbrev w44 : List Nat := [106, 111, 105, 110]
noncomputable abbrev w45 : List Nat := [114, 101, 97, 100, 67, 104, 117, 110, 107]
noncomputable abbrev w46 : List Nat := [116, 101, 120, 116]
noncomputable abbrev w47 : List Nat := [112, 108, 97, 99, 101]
noncomputable abbrev w48 : List Nat := [114, 101, 112, 111, 114, 116, 67, 104, 97, 114, 97, 99, 116, 101, 114, 69, 114, 114, 111, 114, 115]
noncomputable abbrev w49 : List Nat := [99, 104, 97, 114, 97, 99, 116, 101, 114, 69, 114, 114, 111, 114, 115, 85, 67, 83, 52]
noncomputable abbrev w50 : List Nat := [110, 101, 119, 76, 105, 110, 101, 115]
noncomputable abbrev w51 : List Nat := [100, 97, 116, 97, 83, 116, 114, 101, 97, 109]
noncomputable abbrev w52 : List Nat := [111, 112, 101, 110, 83, 116, 114, 101, 97, 109]
noncomputable abbrev w53 : List Nat := [114, 101, 115, 101, 116]
noncomputable abbrev w54 : List Nat := [99, 104, 117, 110, 107]
noncomputable abbrev w55 : List Nat := [99, 104, 117, 110, 107, 83, 105, 122, 101]
noncomputable abbrev w56 : List Nat := [99, 104, 117, 110, 107, 79, 102, 102, 115, 101, 116]
noncomputable abbrev w57 : List Nat := [101, 114, 114, 111, 114, 115]
noncomputable abbrev w58 : List Nat := [112, 114, 101, 118, 78, 117, 109, 76, 105, 110, 101, 115]
noncomputable abbrev w59 : List Nat := [112, 114, 101, 118, 78, 117, 109, 67, 111, 108, 115]
noncomputable abbrev w60 : List Nat := [95, 98, 117, 102, 102, 101, 114, 101, 100, 67, 104, 97, 114, 97, 99, 116, 101, 114]
noncomputable abbrev w61 : List Nat := [99, 111, 117, 110, 116]
noncomputable abbrev w62 : List Nat := [114, 102, 105, 110, 100]
noncomputable abbrev w63 : List Nat := [95, 112, 111, 115, 105, 116, 105, 111, 110]
noncomputable abbrev w64 : List Nat := [95, 100, 101, 102, 97, 117, 108, 116, 67, 104, 117, 110, 107, 83, 105, 122, 101]
noncomputable abbrev w65 : List Nat := [114, 101, 97, 100]
noncomputable abbrev w66 : List Nat := [112, 97, 114, 115, 101, 114]
noncomputable abbrev w67 : List Nat := [101, 115, 99, 97, 112, 101, 70, 108, 97, 103]
noncomputable abbrev w68 : List Nat := [108, 97, 115, 116, 70, 111, 117, 114, 67, 104, 97, 114, 115]
noncomputable abbrev w69 : List Nat := [100, 97, 116, 97, 83, 116, 97, 116, 101]
noncomputable abbrev w70 : List Nat := [101, 115, 99, 97, 112, 101]
noncomputable abbrev w71 : List Nat := [99, 104, 97, 114]
noncomputable abbrev w72 : List Nat := [117, 110, 103, 101, 116]
noncomputable abbrev w73 : List Nat := [101, 120, 112, 101, 99, 116, 101, 100, 45, 115, 112, 97, 99, 101, 45, 111, 114, 45, 114, 105, 103, 104, 116, 45, 98, 114, 97, 99, 107, 101, 116, 45, 105, 110, 45, 100, 111, 99, 116, 121, 112, 101]
noncomputable def b__is_invalid : List PS := [(.ret (.bop false [(.cmp (.int 1) [.le, .le] [(.loc 0), (.int 8)]), (.cmp (.loc 0) [.eq] [(.int 11)]), (.cmp (.int 14) [.le, .le] [(.loc 0), (.int 31)]), (.cmp (.int 127) [.le, .le] [(.loc 0), (.int 159)]), (.cmp (.int 64976) [.le, .le] [(.loc 0), (.int 65007)]), (.cmp (.bin .mod (.loc 0) (.int 65536)) [.isin] [(.tup [(.int 65534), (.int 65535)])]), (.cmp (.int 55296) [.le, .le] [(.loc 0), (.int 57343)])]))]
noncomputable def b_law_NAMES : List PS := [(.ret (.list [(.str []), (.str [65, 98]), (.str [81, 201])]))]
noncomputable def b_law_PUBLICS : List PS := [(.ret (.list [.none, (.str w0), (.str [])]))]
noncomputable def b_law_SYSTEMS : List PS := [(.ret (.list [(.str [115, 34]), .none, (.str [])]))]
noncomputable def b_law_KEEPS : List PS := [(.ret (.list [(.tup [(.str []), (.bool true)]), (.tup [(.glob 0), (.bool true)]), (.tup [(.bin .add (.glob 0) (.str [62])), (.bool false)]), (.tup [(.glob 0), (.bool true)]), (.tup [(.str []), (.bool true)]), (.tup [(.glob 0), (.bool true)]), (.tup [(.str [34, 62]), (.bool false)]), (.tup [(.str [39, 62]), (.bool false)]), (.tup [(.str []), (.bool true)]), (.tup [(.glob 0), (.bool true)]), (.tup [(.str []), (.bool true)]), (.tup [(.glob 0), (.bool true)]), (.tup [(.str [34, 62]), (.bool false)]), (.tup [(.str [39, 62]), (.bool false)]), (.tup [(.glob 0), (.bool true)]), (.tup [(.str [62]), (.bool false)])]))]
noncomputable def b_law_SHUT : List PS := [(.ret (.dict [(.int 1), (.int 5), (.int 6), (.int 7), (.int 11), (.int 12), (.int 13)] [(.str w1), (.str w2), (.str w2), (.str w2), (.str w3), (.str w2), (.str w2)]))]
noncomputable def b_law_LOST : List PS := [(.ret (.dict [(.int 0), (.int 1), (.int 2), (.int 15)] [(.str w4), (.str w4), (.str w5), (.str [])]))]
noncomputable def b_law_marks : List PS := [(.asg (.tup [(.loc 1), (.loc 2)]) (.tup [(.int 1), (.int 0)])),
 (.asg (.loc 3) (.list [(.tup [(.int 1), (.int 0)])])),
 (.for none (.loc 4) (.loc 0) [(.asg (.tup [(.loc 1), (.loc 2)]) (.ite (.cmp (.loc 4) [.eq] [(.str [10])]) (.tup [(.bin .add (.loc 1) (.int 1)), (.int 0)]) (.tup [(.loc 1), (.bin .add (.loc 2) (.int 1))]))), (.expr (.meth (.loc 3) w6 [(.tup [(.loc 1), (.loc 2)])]))]),
 (.ret (.loc 3))]
noncomputable def b_law_leave : List PS := [(.asg (.loc 3) (.slc (.loc 0) (some (.loc 1)) (some (.bin .add (.loc 1) (.int 1))))),
 (.asg (.loc 4) (.cmp (.loc 3) [.isin] [(.tup [(.str [34]), (.str [39])])])),
 (.ife (.cmp (.loc 3) [.eq] [(.str [])]) [(.ret (.tup [(.loc 1), (.meth (.call (.glob 1) []) w7 [(.loc 2), (.str w8)]), (.int 16)]))] []),
 (.ife (.bop true [(.cmp (.loc 3) [.eq] [(.str [62])]), (.cmp (.loc 2) [.notin] [(.tup [(.int 0), (.int 4), (.int 10)])])]) [(.ret (.tup [(.bin .add (.loc 1) (.int 1)), (.meth (.call (.glob 2) []) w7 [(.loc 2), (.str [])]), (.int 16)]))] []),
 (.ife (.bop true [(.cmp (.loc 2) [.isin] [(.tup [(.int 0), (.int 4), (.int 8), (.int 10)])]), (.cmp (.loc 3) [.isin] [(.glob 0)])]) [(.ret (.tup [(.bin .add (.loc 1) (.int 1)), (.str []), (.bin .add (.loc 2) (.int 1))]))] []),
 (.ife (.cmp (.loc 2) [.eq] [(.int 0)]) [(.ret (.tup [(.loc 1), (.str w9), (.int 1)]))] []),
 (.ife (.cmp (.loc 2) [.isin] [(.tup [(.int 4), (.int 10)])]) [(.ret (.tup [(.loc 1), (.ite (.loc 4) (.str w3) (.str [])), (.bin .add (.loc 2) (.int 1))]))] []),
 (.ife (.cmp (.loc 2) [.eq] [(.int 1)]) [(.ret (.tup [(.bin .add (.loc 1) (.int 1)), (.ite (.cmp (.loc 3) [.eq] [(.str [0])]) (.str w10) (.str [])), (.int 2)]))] []),
 (.ife (.cmp (.loc 2) [.eq] [(.int 2)]) [(.ret (.tup [(.bin .add (.loc 1) (.int 1)), (.str []), (.int 3)]))] []),
 (.ife (.cmp (.loc 2) [.eq] [(.int 3)]) [(.asg (.loc 5) (.ite (.cmp (.loc 3) [.isin] [(.tup [(.str [112]), (.str [80])])]) (.str w11) (.str w12))), (.asg (.loc 6) (.int 0)), (.whl none (.bop true [(.cmp (.loc 6) [.lt] [(.int 6)]), (.cmp (.call (.glob 3) [(.slc (.loc 0) (some (.bin .add (.loc 1) (.loc 6))) (some (.bin .add (.bin .add (.loc 1) (.loc 6)) (.int 1))))]) [.eq] [(.sub (.loc 5) (.loc 6))])]) [(.aug (.loc 6) .add (.int 1))]), (.ife (.cmp (.loc 6) [.lt] [(.int 6)]) [(.ret (.tup [(.bin .add (.loc 1) (.loc 6)), (.glob 4), (.int 15)]))] []), (.ret (.tup [(.bin .add (.loc 1) (.int 6)), (.str []), (.ite (.cmp (.loc 5) [.eq] [(.str w11)]) (.int 4) (.int 10))]))] []),
 (.ife (.cmp (.loc 2) [.isin] [(.glob 5)]) [(.ret (.tup [(.bin .add (.loc 1) (.int 1)), (.str []), (.ite (.cmp (.loc 2) [.lt] [(.int 8)]) (.int 8) (.int 14))]))] []),
 (.ife (.bop true [(.loc 4), (.cmp (.loc 2) [.ne] [(.int 14)])]) [(.ret (.tup [(.bin .add (.loc 1) (.int 1)), (.ite (.cmp (.loc 2) [.eq] [(.int 8)]) (.str w3) (.str [])), (.bin .add (.ite (.cmp (.loc 2) [.eq] [(.int 5)]) (.int 6) (.int 12)) (.meth (.str [34, 39]) w13 [(.loc 3)]))]))] []),
 (.ret (.tup [(.bin .add (.loc 1) (.int 1)), (.str w3), (.int 15)]))]
noncomputable def b_law_plan : List PS := [(.asg (.loc 4) (.list [])),
 (.whl none (.cmp (.loc 2) [.lt] [(.int 16)]) [(.asg (.tup [(.loc 5), (.loc 6)]) (.sub (.call (.glob 6) []) (.loc 2))), (.whl none (.bop true [(.cmp (.loc 1) [.lt] [(.call (.glob 7) [(.loc 0)])]), (.cmp (.cmp (.sub (.loc 0) (.loc 1)) [.isin] [(.loc 5)]) [.eq] [(.loc 6)])]) [(.asg (.loc 7) (.str [])), (.ife (.cmp (.loc 2) [.isin] [(.glob 5)]) [(.asg (.loc 7) (.ite (.cmp (.sub (.loc 0) (.loc 1)) [.eq] [(.str [0])]) (.str w10) (.str []))), (.aug (.sub (.loc 3) (.sub (.glob 5) (.loc 2))) .add (.ite (.loc 7) (.str [65533]) (.sub (.loc 0) (.loc 1))))] []), (.aug (.loc 1) .add (.int 1)), (.expr (.meth (.loc 4) w6 [(.tup [(.loc 2), (.loc 1), (.loc 7), (.slc (.loc 3) none none), (.loc 2)])]))]), (.asg (.tup [(.loc 8), (.loc 7), (.loc 9)]) (.call (.glob 8) [(.loc 0), (.loc 1), (.loc 2)])), (.ife (.bop true [(.cmp (.loc 2) [.eq] [(.int 1)]), (.cmp (.loc 9) [.eq] [(.int 2)])]) [(.asg (.sub (.loc 3) (.int 0)) (.ite (.loc 7) (.str [65533]) (.sub (.loc 0) (.loc 1))))] []), (.ife (.cmp (.loc 2) [.eq] [(.int 2)]) [(.asg (.sub (.loc 3) (.int 0)) (.call (.glob 3) [(.sub (.loc 3) (.int 0))]))] []), (.ife (.cmp (.loc 9) [.isin] [(.tup [(.int 6), (.int 7)])]) [(.asg (.sub (.loc 3) (.int 1)) (.str []))] []), (.ife (.cmp (.loc 9) [.isin] [(.tup [(.int 12), (.int 13)])]) [(.asg (.sub (.loc 3) (.int 2)) (.str []))] []), (.ife (.bop false [(.bop true [(.cmp (.loc 9) [.eq] [(.int 16)]), (.cmp (.loc 7) [.ne] [(.str [])])]), (.bop true [(.cmp (.loc 9) [.eq] [(.int 15)]), (.cmp (.loc 2) [.ne] [(.int 14)])])]) [(.asg (.sub (.loc 3) (.int 3)) (.bool false))] []), (.asg (.loc 1) (.loc 8)), (.expr (.meth (.loc 4) w6 [(.tup [(.loc 2), (.loc 1), (.loc 7), (.slc (.loc 3) none none), (.loc 9)])])), (.asg (.loc 2) (.loc 9))]),
 (.ret (.loc 4))]
noncomputable def b_law_call : List PS := [(.ife (.cmp (.loc 1) [.eq] [(.int 0)]) [(.ret (.meth (.loc 0) w14 []))] []),
 (.ife (.cmp (.loc 1) [.eq] [(.int 1)]) [(.ret (.meth (.loc 0) w15 []))] []),
 (.ife (.cmp (.loc 1) [.eq] [(.int 2)]) [(.ret (.meth (.loc 0) w16 []))] []),
 (.ife (.cmp (.loc 1) [.eq] [(.int 3)]) [(.ret (.meth (.loc 0) w17 []))] []),
 (.ife (.cmp (.loc 1) [.eq] [(.int 4)]) [(.ret (.meth (.loc 0) w18 []))] []),
 (.ife (.cmp (.loc 1) [.eq] [(.int 5)]) [(.ret (.meth (.loc 0) w19 []))] []),
 (.ife (.cmp (.loc 1) [.eq] [(.int 6)]) [(.ret (.meth (.loc 0) w20 []))] []),
 (.ife (.cmp (.loc 1) [.eq] [(.int 7)]) [(.ret (.meth (.loc 0) w21 []))] []),
 (.ife (.cmp (.loc 1) [.eq] [(.int 8)]) [(.ret (.meth (.loc 0) w22 []))] []),
 (.ife (.cmp (.loc 1) [.eq] [(.int 9)]) [(.ret (.meth (.loc 0) w23 []))] []),
 (.ife (.cmp (.loc 1) [.eq] [(.int 10)]) [(.ret (.meth (.loc 0) w24 []))] []),
 (.ife (.cmp (.loc 1) [.eq] [(.int 11)]) [(.ret (.meth (.loc 0) w25 []))] []),
 (.ife (.cmp (.loc 1) [.eq] [(.int 12)]) [(.ret (.meth (.loc 0) w26 []))] []),
 (.ife (.cmp (.loc 1) [.eq] [(.int 13)]) [(.ret (.meth (.loc 0) w27 []))] []),
 (.ife (.cmp (.loc 1) [.eq] [(.int 14)]) [(.ret (.meth (.loc 0) w28 []))] []),
 (.ret (.meth (.loc 0) w29 []))]
noncomputable def b_law_token : List PS := [(.ret (.dict [(.str w30), (.str w31), (.str w32), (.str w33), (.str w34)] [(.sub (.glob 9) (.str w35)), (.sub (.loc 0) (.int 0)), (.sub (.loc 0) (.int 1)), (.sub (.loc 0) (.int 2)), (.sub (.loc 0) (.int 3))]))]
noncomputable def b_law_run : List PS := [(.asg (.attr (.loc 0) w36) (.call (.glob 10) [(.loc 5)])),
 (.for (some [.loc 0, .attr 0 w42, .loc 2, .loc 9, .attr 0 w36]) (.tup [(.loc 6), (.loc 7), (.loc 8), (.loc 9), (.loc 10)]) (.call (.glob 11) [(.loc 1), (.loc 3), (.loc 4), (.loc 5)]) [(.asg (.attr (.loc 0) w37) (.list [])), (.asg (.attr (.loc 0) w38) .none), (.asg (.loc 11) (.call (.glob 12) [(.loc 0), (.loc 6)])), (.asg (.loc 12) (.ite (.loc 8) (.list [(.dict [(.str w30), (.str w39)] [(.sub (.glob 9) (.str w40)), (.loc 8)])]) (.list []))), (.ife (.cmp (.loc 8) [.eq] [(.glob 4)]) [(.asg (.loc 12) (.list [(.dict [(.str w30), (.str w39), (.str w41)] [(.sub (.glob 9) (.str w40)), (.loc 8), (.dict [(.str w39)] [(.ite (.cmp (.loc 7) [.lt] [(.call (.glob 7) [(.loc 1)])]) (.sub (.loc 1) (.loc 7)) .none)])])]))] []), (.ife (.cmp (.loc 10) [.eq] [(.int 16)]) [(.expr (.meth (.loc 12) w6 [(.call (.glob 10) [(.loc 9)])]))] []), (.ife (.bop false [(.cmp (.loc 11) [.isnot] [(.bool true)]), (.cmp (.meth (.attr (.loc 0) w42) w43 []) [.ne] [(.sub (.loc 2) (.loc 7))])]) [(.ret (.neg (.int 1)))] []), (.ife (.bop false [(.cmp (.attr (.loc 0) w37) [.ne] [(.loc 12)]), (.cmp (.attr (.loc 0) w36) [.ne] [(.call (.glob 10) [(.loc 9)])]), (.cmp (.cmp (.sub (.attr (.loc 0) w36) (.str w34)) [.is] [(.bool true)]) [.ne] [(.sub (.loc 9) (.int 3))])]) [(.ret (.neg (.int 1)))] []), (.ife (.bop true [(.cmp (.cmp (.attr (.loc 0) w38) [.is] [.none]) [.ne] [(.cmp (.loc 10) [.eq] [(.loc 6)])]), (.not (.bop true [(.cmp (.loc 6) [.eq] [(.int 2)]), (.cmp (.loc 10) [.eq] [(.int 2)]), (.cmp (.loc 8) [.ne] [(.str [])])]))]) [(.ret (.neg (.int 1)))] []), (.ife (.cmp (.loc 10) [.eq] [(.int 16)]) [(.ret (.ite (.cmp (.loc 3) [.eq] [(.call (.glob 7) [(.loc 1)])]) (.bin .add (.loc 7) (.int 1)) (.loc 7)))] []), (.asg (.loc 3) (.loc 7))])]
noncomputable def b_law : List PS := [(.asg (.loc 1) (.ite (.loc 0) (.sub (.loc 0) (.int 0)) (.int 0))),
 (.asg (.loc 2) (.meth (.str []) w44 [(.list [])])),
 (.asg (.loc 3) (.repl (.repl (.loc 2) [13, 10] [10]) [13] [10])),
 (.asg (.loc 4) (.call (.glob 13) [(.loc 3)])),
 (.asg (.loc 5) (.call (.glob 14) [(.loc 2)])),
 (.expr (.meth (.attr (.loc 5) w42) w45 [(.bin .add (.int 2) (.bin .mod (.bin .fdiv (.loc 1) (.int 64)) (.int 13)))])),
 (.asg (.tup [(.loc 6), (.loc 7)]) (.tup [(.int 0), (.int 0)])),
 (.whl (some [.loc 4, .loc 5, .attr 5 w42]) (.cmp (.int 0) [.le, .le] [(.loc 6), (.call (.glob 7) [(.loc 3)])]) [(.asg (.tup [(.loc 8), (.loc 9)]) (.tup [(.bin .mod (.bin .add (.loc 1) (.bin .mul (.int 7) (.loc 7))) (.int 16)), (.bin .add (.bin .fdiv (.loc 1) (.int 16)) (.loc 7))])), (.asg (.loc 10) (.list [(.sub (.call (.glob 15) []) (.bin .mod (.loc 9) (.int 3))), (.sub (.call (.glob 16) []) (.bin .mod (.bin .fdiv (.loc 9) (.int 2)) (.int 3))), (.sub (.call (.glob 17) []) (.bin .mod (.bin .fdiv (.bin .add (.loc 9) (.int 1)) (.int 2)) (.int 3))), (.cmp (.bin .mod (.loc 9) (.int 4)) [.ne] [(.int 3)])])), (.ife (.bop true [(.cmp (.loc 8) [.isin] [(.tup [(.int 6), (.int 7)])]), (.cmp (.sub (.loc 10) (.int 1)) [.is] [.none])]) [(.asg (.sub (.loc 10) (.int 1)) (.str []))] []), (.ife (.bop true [(.cmp (.loc 8) [.isin] [(.tup [(.int 12), (.int 13)])]), (.cmp (.sub (.loc 10) (.int 2)) [.is] [.none])]) [(.asg (.sub (.loc 10) (.int 2)) (.str []))] []), (.asg (.loc 6) (.call (.glob 18) [(.loc 5), (.loc 3), (.loc 4), (.loc 6), (.loc 8), (.loc 10)])), (.aug (.loc 7) .add (.int 1))]),
 (.ret (.cmp (.loc 6) [.eq] [(.bin .add (.call (.glob 7) [(.loc 3)]) (.int 1))]))]
noncomputable def b_Text___init__ : List PS := [(.asg (.attr (.loc 0) w46) (.loc 1)),
 (.asg (.attr (.loc 0) w47) (.int 0))]
noncomputable def b_Text_read : List PS := [(.asg (.loc 2) (.slc (.attr (.loc 0) w46) (some (.attr (.loc 0) w47)) (some (.bin .add (.attr (.loc 0) w47) (.loc 1))))),
 (.aug (.attr (.loc 0) w47) .add (.call (.glob 7) [(.loc 2)])),
 (.ret (.loc 2))]
noncomputable def b_Us : List PS := [(.asg (.attr (.loc 0) w48) (.attr (.loc 0) w49)),
 (.asg (.attr (.loc 0) w50) (.list [(.int 0)])),
 (.asg (.attr (.loc 0) w51) (.meth (.loc 0) w52 [(.loc 1)])),
 (.expr (.meth (.loc 0) w53 []))]
noncomputable def b_Uv : List PS := [(.asg (.attr (.loc 0) w54) (.str [])),
 (.asg (.attr (.loc 0) w55) (.int 0)),
 (.asg (.attr (.loc 0) w56) (.int 0)),
 (.asg (.attr (.loc 0) w57) (.list [])),
 (.asg (.attr (.loc 0) w58) (.int 0)),
 (.asg (.attr (.loc 0) w59) (.int 0)),
 (.asg (.attr (.loc 0) w60) .none)]
noncomputable def b_Uo : List PS := [(.asg (.loc 2) (.call (.glob 19) [(.loc 1)])),
 (.ret (.loc 2))]
noncomputable def b_Up : List PS := [(.asg (.loc 2) (.attr (.loc 0) w54)),
 (.asg (.loc 3) (.meth (.loc 2) w61 [(.str [10]), (.int 0), (.loc 1)])),
 (.asg (.loc 4) (.bin .add (.attr (.loc 0) w58) (.loc 3))),
 (.asg (.loc 5) (.meth (.loc 2) w62 [(.str [10]), (.int 0), (.loc 1)])),
 (.ife (.cmp (.loc 5) [.eq] [(.neg (.int 1))]) [(.asg (.loc 6) (.bin .add (.attr (.loc 0) w59) (.loc 1)))] [(.asg (.loc 6) (.bin .sub (.loc 1) (.bin .add (.loc 5) (.int 1))))]),
 (.ret (.tup [(.loc 4), (.loc 6)]))]
noncomputable def b_Ut : List PS := [(.asg (.tup [(.loc 1), (.loc 2)]) (.meth (.loc 0) w63 [(.attr (.loc 0) w56)])),
 (.ret (.tup [(.bin .add (.loc 1) (.int 1)), (.loc 2)]))]
noncomputable def b_Ux : List PS := [(.ife (.cmp (.attr (.loc 0) w56) [.ge] [(.attr (.loc 0) w55)]) [(.ife (.not (.meth (.loc 0) w45 [])) [(.ret (.glob 20))] [])] []),
 (.asg (.loc 1) (.attr (.loc 0) w56)),
 (.asg (.loc 2) (.sub (.attr (.loc 0) w54) (.loc 1))),
 (.asg (.attr (.loc 0) w56) (.bin .add (.loc 1) (.int 1))),
 (.ret (.loc 2))]
noncomputable def b_Uq : List PS := [(.ife (.cmp (.loc 1) [.is] [.none]) [(.asg (.loc 1) (.attr (.loc 0) w64))] []),
 (.asg (.tup [(.attr (.loc 0) w58), (.attr (.loc 0) w59)]) (.meth (.loc 0) w63 [(.attr (.loc 0) w55)])),
 (.asg (.attr (.loc 0) w54) (.str [])),
 (.asg (.attr (.loc 0) w55) (.int 0)),
 (.asg (.attr (.loc 0) w56) (.int 0)),
 (.asg (.loc 2) (.meth (.attr (.loc 0) w51) w65 [(.loc 1)])),
 (.ife (.attr (.loc 0) w60) [(.asg (.loc 2) (.bin .add (.attr (.loc 0) w60) (.loc 2))), (.asg (.attr (.loc 0) w60) .none)] [(.ife (.not (.loc 2)) [(.ret (.bool false))] [])]),
 (.ife (.cmp (.call (.glob 7) [(.loc 2)]) [.gt] [(.int 1)]) [(.asg (.loc 3) (.call (.glob 21) [(.sub (.loc 2) (.neg (.int 1)))])), (.ife (.bop false [(.cmp (.loc 3) [.eq] [(.int 13)]), (.cmp (.int 55296) [.le, .le] [(.loc 3), (.int 56319)])]) [(.asg (.attr (.loc 0) w60) (.sub (.loc 2) (.neg (.int 1)))), (.asg (.loc 2) (.slc (.loc 2) none (some (.neg (.int 1)))))] [])] []),
 (.ife (.attr (.loc 0) w48) [(.expr (.meth (.loc 0) w48 [(.loc 2)]))] []),
 (.asg (.loc 2) (.repl (.loc 2) [13, 10] [10])),
 (.asg (.loc 2) (.repl (.loc 2) [13] [10])),
 (.asg (.attr (.loc 0) w54) (.loc 2)),
 (.asg (.attr (.loc 0) w55) (.call (.glob 7) [(.loc 2)])),
 (.ret (.bool true))]
noncomputable def b_Ul : List PS := [(.for none (.loc 2) (.loc 1) [(.ife (.call (.glob 22) [(.call (.glob 21) [(.loc 2)])]) [(.expr (.meth (.attr (.loc 0) w57) w6 [(.str w10)]))] [])])]
noncomputable def b_Uw : List PS := [(.ife (.cmp (.loc 1) [.isnot] [(.glob 20)]) [(.ife (.cmp (.attr (.loc 0) w56) [.eq] [(.int 0)]) [(.asg (.attr (.loc 0) w54) (.bin .add (.loc 1) (.attr (.loc 0) w54))), (.aug (.attr (.loc 0) w55) .add (.int 1))] [(.aug (.attr (.loc 0) w56) .sub (.int 1)), (.asrt (.cmp (.sub (.attr (.loc 0) w54) (.attr (.loc 0) w56)) [.eq] [(.loc 1)]))])] [])]
noncomputable def b_Tz : List PS := [(.asg (.attr (.loc 0) w42) (.call (.glob 23) [(.loc 1)])),
 (.asg (.attr (.loc 0) w66) (.loc 2)),
 (.asg (.attr (.loc 0) w67) (.bool false)),
 (.asg (.attr (.loc 0) w68) (.list [])),
 (.asg (.attr (.loc 0) w38) (.attr (.loc 0) w69)),
 (.asg (.attr (.loc 0) w70) (.bool false)),
 (.asg (.attr (.loc 0) w36) .none)]
noncomputable def b_Ty : List PS := [(.asg (.loc 1) (.meth (.attr (.loc 0) w42) w71 [])),
 (.ife (.cmp (.loc 1) [.isin] [(.glob 24)]) [(.asg (.attr (.loc 0) w38) (.attr (.loc 0) w15))] [(.ife (.cmp (.loc 1) [.is] [(.glob 20)]) [(.expr (.meth (.attr (.loc 0) w37) w6 [(.dict [(.str w30), (.str w39)] [(.sub (.glob 9) (.str w40)), (.str w4)])])), (.asg (.sub (.attr (.loc 0) w36) (.str w34)) (.bool false)), (.expr (.meth (.attr (.loc 0) w37) w6 [(.attr (.loc 0) w36)])), (.asg (.attr (.loc 0) w38) (.attr (.loc 0) w69))] [(.expr (.meth (.attr (.loc 0) w37) w6 [(.dict [(.str w30), (.str w39)] [(.sub (.glob 9) (.str w40)), (.str w9)])])), (.expr (.meth (.attr (.loc 0) w42) w72 [(.loc 1)])), (.asg (.attr (.loc 0) w38) (.attr (.loc 0) w15))])]),
 (.ret (.bool true))]
noncomputable def b_Tm : List PS := [(.asg (.loc 1) (.meth (.attr (.loc 0) w42) w71 [])),
 (.ife (.cmp (.loc 1) [.isin] [(.glob 24)]) [.pass] [(.ife (.cmp (.loc 1) [.eq] [(.str [62])]) [(.expr (.meth (.attr (.loc 0) w37) w6 [(.dict [(.str w30), (.str w39)] [(.sub (.glob 9) (.str w40)), (.str w1)])])), (.asg (.sub (.attr (.loc 0) w36) (.str w34)) (.bool false)), (.expr (.meth (.attr (.loc 0) w37) w6 [(.attr (.loc 0) w36)])), (.asg (.attr (.loc 0) w38) (.attr (.loc 0) w69))] [(.ife (.cmp (.loc 1) [.eq] [(.str [0])]) [(.expr (.meth (.attr (.loc 0) w37) w6 [(.dict [(.str w30), (.str w39)] [(.sub (.glob 9) (.str w40)), (.str w10)])])), (.asg (.sub (.attr (.loc 0) w36) (.str w31)) (.str [65533])), (.asg (.attr (.loc 0) w38) (.attr (.loc 0) w16))] [(.ife (.cmp (.loc 1) [.is] [(.glob 20)]) [(.expr (.meth (.attr (.loc 0) w37) w6 [(.dict [(.str w30), (.str w39)] [(.sub (.glob 9) (.str w40)), (.str w4)])])), (.asg (.sub (.attr (.loc 0) w36) (.str w34)) (.bool false)), (.expr (.meth (.attr (.loc 0) w37) w6 [(.attr (.loc 0) w36)])), (.asg (.attr (.loc 0) w38) (.attr (.loc 0) w69))] [(.asg (.sub (.attr (.loc 0) w36) (.str w31)) (.loc 1)), (.asg (.attr (.loc 0) w38) (.attr (.loc 0) w16))])])])]),
 (.ret (.bool true))]
noncomputable def b_Tu : List PS := [(.asg (.loc 1) (.meth (.attr (.loc 0) w42) w71 [])),
 (.ife (.cmp (.loc 1) [.isin] [(.glob 24)]) [(.asg (.sub (.attr (.loc 0) w36) (.str w31)) (.call (.glob 25) [(.sub (.attr (.loc 0) w36) (.str w31))])), (.asg (.attr (.loc 0) w38) (.attr (.loc 0) w17))] [(.ife (.cmp (.loc 1) [.eq] [(.str [62])]) [(.asg (.sub (.attr (.loc 0) w36) (.str w31)) (.call (.glob 25) [(.sub (.attr (.loc 0) w36) (.str w31))])), (.expr (.meth (.attr (.loc 0) w37) w6 [(.attr (.loc 0) w36)])), (.asg (.attr (.loc 0) w38) (.attr (.loc 0) w69))] [(.ife (.cmp (.loc 1) [.eq] [(.str [0])]) [(.expr (.meth (.attr (.loc 0) w37) w6 [(.dict [(.str w30), (.str w39)] [(.sub (.glob 9) (.str w40)), (.str w10)])])), (.aug (.sub (.attr (.loc 0) w36) (.str w31)) .add (.str [65533])), (.asg (.attr (.loc 0) w38) (.attr (.loc 0) w16))] [(.ife (.cmp (.loc 1) [.is] [(.glob 20)]) [(.expr (.meth (.attr (.loc 0) w37) w6 [(.dict [(.str w30), (.str w39)] [(.sub (.glob 9) (.str w40)), (.str w5)])])), (.asg (.sub (.attr (.loc 0) w36) (.str w34)) (.bool false)), (.asg (.sub (.attr (.loc 0) w36) (.str w31)) (.call (.glob 25) [(.sub (.attr (.loc 0) w36) (.str w31))])), (.expr (.meth (.attr (.loc 0) w37) w6 [(.attr (.loc 0) w36)])), (.asg (.attr (.loc 0) w38) (.attr (.loc 0) w69))] [(.aug (.sub (.attr (.loc 0) w36) (.str w31)) .add (.loc 1))])])])]),
 (.ret (.bool true))]
noncomputable def b_Tn : List PS := [(.asg (.loc 1) (.meth (.attr (.loc 0) w42) w71 [])),
 (.ife (.cmp (.loc 1) [.isin] [(.glob 24)]) [.pass] [(.ife (.cmp (.loc 1) [.eq] [(.str [62])]) [(.expr (.meth (.attr (.loc 0) w37) w6 [(.attr (.loc 0) w36)])), (.asg (.attr (.loc 0) w38) (.attr (.loc 0) w69))] [(.ife (.cmp (.loc 1) [.is] [(.glob 20)]) [(.asg (.sub (.attr (.loc 0) w36) (.str w34)) (.bool false)), (.expr (.meth (.attr (.loc 0) w42) w72 [(.loc 1)])), (.expr (.meth (.attr (.loc 0) w37) w6 [(.dict [(.str w30), (.str w39)] [(.sub (.glob 9) (.str w40)), (.str w8)])])), (.expr (.meth (.attr (.loc 0) w37) w6 [(.attr (.loc 0) w36)])), (.asg (.attr (.loc 0) w38) (.attr (.loc 0) w69))] [(.ife (.cmp (.loc 1) [.isin] [(.tup [(.str [112]), (.str [80])])]) [(.asg (.loc 2) (.bool true)), (.for none (.loc 3) (.tup [(.tup [(.str [117]), (.str [85])]), (.tup [(.str [98]), (.str [66])]), (.tup [(.str [108]), (.str [76])]), (.tup [(.str [105]), (.str [73])]), (.tup [(.str [99]), (.str [67])])]) [(.asg (.loc 1) (.meth (.attr (.loc 0) w42) w71 [])), (.ife (.cmp (.loc 1) [.notin] [(.loc 3)]) [(.asg (.loc 2) (.bool false)), .brk] [])]), (.ife (.loc 2) [(.asg (.attr (.loc 0) w38) (.attr (.loc 0) w18)), (.ret (.bool true))] [])] [(.ife (.cmp (.loc 1) [.isin] [(.tup [(.str [115]), (.str [83])])]) [(.asg (.loc 2) (.bool true)), (.for none (.loc 3) (.tup [(.tup [(.str [121]), (.str [89])]), (.tup [(.str [115]), (.str [83])]), (.tup [(.str [116]), (.str [84])]), (.tup [(.str [101]), (.str [69])]), (.tup [(.str [109]), (.str [77])])]) [(.asg (.loc 1) (.meth (.attr (.loc 0) w42) w71 [])), (.ife (.cmp (.loc 1) [.notin] [(.loc 3)]) [(.asg (.loc 2) (.bool false)), .brk] [])]), (.ife (.loc 2) [(.asg (.attr (.loc 0) w38) (.attr (.loc 0) w24)), (.ret (.bool true))] [])] [])]), (.expr (.meth (.attr (.loc 0) w42) w72 [(.loc 1)])), (.expr (.meth (.attr (.loc 0) w37) w6 [(.dict [(.str w30), (.str w39), (.str w41)] [(.sub (.glob 9) (.str w40)), (.str w73), (.dict [(.str w39)] [(.loc 1)])])])), (.asg (.sub (.attr (.loc 0) w36) (.str w34)) (.bool false)), (.asg (.attr (.loc 0) w38) (.attr (.loc 0) w29))])])]),
 (.ret (.bool true))]
noncomputable def b_Tj : List PS := [(.asg (.loc 1) (.meth (.attr (.loc 0) w42) w71 [])),
 (.ife (.cmp (.loc 1) [.isin] [(.glob 24)]) [(.asg (.attr (.loc 0) w38) (.attr (.loc 0) w19))] [(.ife (.cmp (.loc 1) [.isin] [(.tup [(.str [39]), (.str [34])])]) [(.expr (.meth (.attr (.loc 0) w37) w6 [(.dict [(.str w30), (.str w39)] [(.sub (.glob 9) (.str w40)), (.str w3)])])), (.expr (.meth (.attr (.loc 0) w42) w72 [(.loc 1)])), (.asg (.attr (.loc 0) w38) (.attr (.loc 0) w19))] [(.ife (.cmp (.loc 1) [.is] [(.glob 20)]) [(.expr (.meth (.attr (.loc 0) w37) w6 [(.dict [(.str w30), (.str w39)] [(.sub (.glob 9) (.str w40)), (.str w8)])])), (.asg (.sub (.attr (.loc 0) w36) (.str w34)) (.bool false)), (.expr (.meth (.attr (.loc 0) w37) w6 [(.attr (.loc 0) w36)])), (.asg (.attr (.loc 0) w38) (.attr (.loc 0) w69))] [(.expr (.meth (.attr (.loc 0) w42) w72 [(.loc 1)])), (.asg (.attr (.loc 0) w38) (.attr (.loc 0) w19))])])]),
 (.ret (.bool true))]
noncomputable def b_Tf : List PS := [(.asg (.loc 1) (.meth (.attr (.loc 0) w42) w71 [])),
 (.ife (.cmp (.loc 1) [.isin] [(.glob 24)]) [.pass] [(.ife (.cmp (.loc 1) [.eq] [(.str [34])]) [(.asg (.sub (.attr (.loc 0) w36) (.str w32)) (.str [])), (.asg (.attr (.loc 0) w38) (.attr (.loc 0) w20))] [(.ife (.cmp (.loc 1) [.eq] [(.str [39])]) [(.asg (.sub (.attr (.loc 0) w36) (.str w32)) (.str [])), (.asg (.attr (.loc 0) w38) (.attr (.loc 0) w21))] [(.ife (.cmp (.loc 1) [.eq] [(.str [62])]) [(.expr (.meth (.attr (.loc 0) w37) w6 [(.dict [(.str w30), (.str w39)] [(.sub (.glob 9) (.str w40)), (.str w2)])])), (.asg (.sub (.attr (.loc 0) w36) (.str w34)) (.bool false)), (.expr (.meth (.attr (.loc 0) w37) w6 [(.attr (.loc 0) w36)])), (.asg (.attr (.loc 0) w38) (.attr (.loc 0) w69))] [(.ife (.cmp (.loc 1) [.is] [(.glob 20)]) [(.expr (.meth (.attr (.loc 0) w37) w6 [(.dict [(.str w30), (.str w39)] [(.sub (.glob 9) (.str w40)), (.str w8)])])), (.asg (.sub (.attr (.loc 0) w36) (.str w34)) (.bool false)), (.expr (.meth (.attr (.loc 0) w37) w6 [(.attr (.loc 0) w36)])), (.asg (.attr (.loc 0) w38) (.attr (.loc 0) w69))] [(.expr (.meth (.attr (.loc 0) w37) w6 [(.dict [(.str w30), (.str w39)] [(.sub (.glob 9) (.str w40)), (.str w3)])])), (.asg (.sub (.attr (.loc 0) w36) (.str w34)) (.bool false)), (.asg (.attr (.loc 0) w38) (.attr (.loc 0) w29))])])])])]),
 (.ret (.bool true))]
noncomputable def b_Tb : List PS := [(.asg (.loc 1) (.meth (.attr (.loc 0) w42) w71 [])),
 (.ife (.cmp (.loc 1) [.eq] [(.str [34])]) [(.asg (.attr (.loc 0) w38) (.attr (.loc 0) w22))] [(.ife (.cmp (.loc 1) [.eq] [(.str [0])]) [(.expr (.meth (.attr (.loc 0) w37) w6 [(.dict [(.str w30), (.str w39)] [(.sub (.glob 9) (.str w40)), (.str w10)])])), (.aug (.sub (.attr (.loc 0) w36) (.str w32)) .add (.str [65533]))] [(.ife (.cmp (.loc 1) [.eq] [(.str [62])]) [(.expr (.meth (.attr (.loc 0) w37) w6 [(.dict [(.str w30), (.str w39)] [(.sub (.glob 9) (.str w40)), (.str w2)])])), (.asg (.sub (.attr (.loc 0) w36) (.str w34)) (.bool false)), (.expr (.meth (.attr (.loc 0) w37) w6 [(.attr (.loc 0) w36)])), (.asg (.attr (.loc 0) w38) (.attr (.loc 0) w69))] [(.ife (.cmp (.loc 1) [.is] [(.glob 20)]) [(.expr (.meth (.attr (.loc 0) w37) w6 [(.dict [(.str w30), (.str w39)] [(.sub (.glob 9) (.str w40)), (.str w8)])])), (.asg (.sub (.attr (.loc 0) w36) (.str w34)) (.bool false)), (.expr (.meth (.attr (.loc 0) w37) w6 [(.attr (.loc 0) w36)])), (.asg (.attr (.loc 0) w38) (.attr (.loc 0) w69))] [(.aug (.sub (.attr (.loc 0) w36) (.str w32)) .add (.loc 1))])])])]),
 (.ret (.bool true))]
noncomputable def b_Tc : List PS := [(.asg (.loc 1) (.meth (.attr (.loc 0) w42) w71 [])),
 (.ife (.cmp (.loc 1) [.eq] [(.str [39])]) [(.asg (.attr (.loc 0) w38) (.attr (.loc 0) w22))] [(.ife (.cmp (.loc 1) [.eq] [(.str [0])]) [(.expr (.meth (.attr (.loc 0) w37) w6 [(.dict [(.str w30), (.str w39)] [(.sub (.glob 9) (.str w40)), (.str w10)])])), (.aug (.sub (.attr (.loc 0) w36) (.str w32)) .add (.str [65533]))] [(.ife (.cmp (.loc 1) [.eq] [(.str [62])]) [(.expr (.meth (.attr (.loc 0) w37) w6 [(.dict [(.str w30), (.str w39)] [(.sub (.glob 9) (.str w40)), (.str w2)])])), (.asg (.sub (.attr (.loc 0) w36) (.str w34)) (.bool false)), (.expr (.meth (.attr (.loc 0) w37) w6 [(.attr (.loc 0) w36)])), (.asg (.attr (.loc 0) w38) (.attr (.loc 0) w69))] [(.ife (.cmp (.loc 1) [.is] [(.glob 20)]) [(.expr (.meth (.attr (.loc 0) w37) w6 [(.dict [(.str w30), (.str w39)] [(.sub (.glob 9) (.str w40)), (.str w8)])])), (.asg (.sub (.attr (.loc 0) w36) (.str w34)) (.bool false)), (.expr (.meth (.attr (.loc 0) w37) w6 [(.attr (.loc 0) w36)])), (.asg (.attr (.loc 0) w38) (.attr (.loc 0) w69))] [(.aug (.sub (.attr (.loc 0) w36) (.str w32)) .add (.loc 1))])])])]),
 (.ret (.bool true))]
noncomputable def b_Th : List PS := [(.asg (.loc 1) (.meth (.attr (.loc 0) w42) w71 [])),
 (.ife (.cmp (.loc 1) [.isin] [(.glob 24)]) [(.asg (.attr (.loc 0) w38) (.attr (.loc 0) w23))] [(.ife (.cmp (.loc 1) [.eq] [(.str [62])]) [(.expr (.meth (.attr (.loc 0) w37) w6 [(.attr (.loc 0) w36)])), (.asg (.attr (.loc 0) w38) (.attr (.loc 0) w69))] [(.ife (.cmp (.loc 1) [.eq] [(.str [34])]) [(.expr (.meth (.attr (.loc 0) w37) w6 [(.dict [(.str w30), (.str w39)] [(.sub (.glob 9) (.str w40)), (.str w3)])])), (.asg (.sub (.attr (.loc 0) w36) (.str w33)) (.str [])), (.asg (.attr (.loc 0) w38) (.attr (.loc 0) w26))] [(.ife (.cmp (.loc 1) [.eq] [(.str [39])]) [(.expr (.meth (.attr (.loc 0) w37) w6 [(.dict [(.str w30), (.str w39)] [(.sub (.glob 9) (.str w40)), (.str w3)])])), (.asg (.sub (.attr (.loc 0) w36) (.str w33)) (.str [])), (.asg (.attr (.loc 0) w38) (.attr (.loc 0) w27))] [(.ife (.cmp (.loc 1) [.is] [(.glob 20)]) [(.expr (.meth (.attr (.loc 0) w37) w6 [(.dict [(.str w30), (.str w39)] [(.sub (.glob 9) (.str w40)), (.str w8)])])), (.asg (.sub (.attr (.loc 0) w36) (.str w34)) (.bool false)), (.expr (.meth (.attr (.loc 0) w37) w6 [(.attr (.loc 0) w36)])), (.asg (.attr (.loc 0) w38) (.attr (.loc 0) w69))] [(.expr (.meth (.attr (.loc 0) w37) w6 [(.dict [(.str w30), (.str w39)] [(.sub (.glob 9) (.str w40)), (.str w3)])])), (.asg (.sub (.attr (.loc 0) w36) (.str w34)) (.bool false)), (.asg (.attr (.loc 0) w38) (.attr (.loc 0) w29))])])])])]),
 (.ret (.bool true))]
noncomputable def b_Ta : List PS := [(.asg (.loc 1) (.meth (.attr (.loc 0) w42) w71 [])),
 (.ife (.cmp (.loc 1) [.isin] [(.glob 24)]) [.pass] [(.ife (.cmp (.loc 1) [.eq] [(.str [62])]) [(.expr (.meth (.attr (.loc 0) w37) w6 [(.attr (.loc 0) w36)])), (.asg (.attr (.loc 0) w38) (.attr (.loc 0) w69))] [(.ife (.cmp (.loc 1) [.eq] [(.str [34])]) [(.asg (.sub (.attr (.loc 0) w36) (.str w33)) (.str [])), (.asg (.attr (.loc 0) w38) (.attr (.loc 0) w26))] [(.ife (.cmp (.loc 1) [.eq] [(.str [39])]) [(.asg (.sub (.attr (.loc 0) w36) (.str w33)) (.str [])), (.asg (.attr (.loc 0) w38) (.attr (.loc 0) w27))] [(.ife (.cmp (.loc 1) [.eq] [(.glob 20)]) [(.expr (.meth (.attr (.loc 0) w37) w6 [(.dict [(.str w30), (.str w39)] [(.sub (.glob 9) (.str w40)), (.str w8)])])), (.asg (.sub (.attr (.loc 0) w36) (.str w34)) (.bool false)), (.expr (.meth (.attr (.loc 0) w37) w6 [(.attr (.loc 0) w36)])), (.asg (.attr (.loc 0) w38) (.attr (.loc 0) w69))] [(.expr (.meth (.attr (.loc 0) w37) w6 [(.dict [(.str w30), (.str w39)] [(.sub (.glob 9) (.str w40)), (.str w3)])])), (.asg (.sub (.attr (.loc 0) w36) (.str w34)) (.bool false)), (.asg (.attr (.loc 0) w38) (.attr (.loc 0) w29))])])])])]),
 (.ret (.bool true))]
noncomputable def b_Tk : List PS := [(.asg (.loc 1) (.meth (.attr (.loc 0) w42) w71 [])),
 (.ife (.cmp (.loc 1) [.isin] [(.glob 24)]) [(.asg (.attr (.loc 0) w38) (.attr (.loc 0) w25))] [(.ife (.cmp (.loc 1) [.isin] [(.tup [(.str [39]), (.str [34])])]) [(.expr (.meth (.attr (.loc 0) w37) w6 [(.dict [(.str w30), (.str w39)] [(.sub (.glob 9) (.str w40)), (.str w3)])])), (.expr (.meth (.attr (.loc 0) w42) w72 [(.loc 1)])), (.asg (.attr (.loc 0) w38) (.attr (.loc 0) w25))] [(.ife (.cmp (.loc 1) [.is] [(.glob 20)]) [(.expr (.meth (.attr (.loc 0) w37) w6 [(.dict [(.str w30), (.str w39)] [(.sub (.glob 9) (.str w40)), (.str w8)])])), (.asg (.sub (.attr (.loc 0) w36) (.str w34)) (.bool false)), (.expr (.meth (.attr (.loc 0) w37) w6 [(.attr (.loc 0) w36)])), (.asg (.attr (.loc 0) w38) (.attr (.loc 0) w69))] [(.expr (.meth (.attr (.loc 0) w42) w72 [(.loc 1)])), (.asg (.attr (.loc 0) w38) (.attr (.loc 0) w25))])])]),
 (.ret (.bool true))]
noncomputable def b_Tg : List PS := [(.asg (.loc 1) (.meth (.attr (.loc 0) w42) w71 [])),
 (.ife (.cmp (.loc 1) [.isin] [(.glob 24)]) [.pass] [(.ife (.cmp (.loc 1) [.eq] [(.str [34])]) [(.asg (.sub (.attr (.loc 0) w36) (.str w33)) (.str [])), (.asg (.attr (.loc 0) w38) (.attr (.loc 0) w26))] [(.ife (.cmp (.loc 1) [.eq] [(.str [39])]) [(.asg (.sub (.attr (.loc 0) w36) (.str w33)) (.str [])), (.asg (.attr (.loc 0) w38) (.attr (.loc 0) w27))] [(.ife (.cmp (.loc 1) [.eq] [(.str [62])]) [(.expr (.meth (.attr (.loc 0) w37) w6 [(.dict [(.str w30), (.str w39)] [(.sub (.glob 9) (.str w40)), (.str w3)])])), (.asg (.sub (.attr (.loc 0) w36) (.str w34)) (.bool false)), (.expr (.meth (.attr (.loc 0) w37) w6 [(.attr (.loc 0) w36)])), (.asg (.attr (.loc 0) w38) (.attr (.loc 0) w69))] [(.ife (.cmp (.loc 1) [.is] [(.glob 20)]) [(.expr (.meth (.attr (.loc 0) w37) w6 [(.dict [(.str w30), (.str w39)] [(.sub (.glob 9) (.str w40)), (.str w8)])])), (.asg (.sub (.attr (.loc 0) w36) (.str w34)) (.bool false)), (.expr (.meth (.attr (.loc 0) w37) w6 [(.attr (.loc 0) w36)])), (.asg (.attr (.loc 0) w38) (.attr (.loc 0) w69))] [(.expr (.meth (.attr (.loc 0) w37) w6 [(.dict [(.str w30), (.str w39)] [(.sub (.glob 9) (.str w40)), (.str w3)])])), (.asg (.sub (.attr (.loc 0) w36) (.str w34)) (.bool false)), (.asg (.attr (.loc 0) w38) (.attr (.loc 0) w29))])])])])]),
 (.ret (.bool true))]
noncomputable def b_Td : List PS := [(.asg (.loc 1) (.meth (.attr (.loc 0) w42) w71 [])),
 (.ife (.cmp (.loc 1) [.eq] [(.str [34])]) [(.asg (.attr (.loc 0) w38) (.attr (.loc 0) w28))] [(.ife (.cmp (.loc 1) [.eq] [(.str [0])]) [(.expr (.meth (.attr (.loc 0) w37) w6 [(.dict [(.str w30), (.str w39)] [(.sub (.glob 9) (.str w40)), (.str w10)])])), (.aug (.sub (.attr (.loc 0) w36) (.str w33)) .add (.str [65533]))] [(.ife (.cmp (.loc 1) [.eq] [(.str [62])]) [(.expr (.meth (.attr (.loc 0) w37) w6 [(.dict [(.str w30), (.str w39)] [(.sub (.glob 9) (.str w40)), (.str w2)])])), (.asg (.sub (.attr (.loc 0) w36) (.str w34)) (.bool false)), (.expr (.meth (.attr (.loc 0) w37) w6 [(.attr (.loc 0) w36)])), (.asg (.attr (.loc 0) w38) (.attr (.loc 0) w69))] [(.ife (.cmp (.loc 1) [.is] [(.glob 20)]) [(.expr (.meth (.attr (.loc 0) w37) w6 [(.dict [(.str w30), (.str w39)] [(.sub (.glob 9) (.str w40)), (.str w8)])])), (.asg (.sub (.attr (.loc 0) w36) (.str w34)) (.bool false)), (.expr (.meth (.attr (.loc 0) w37) w6 [(.attr (.loc 0) w36)])), (.asg (.attr (.loc 0) w38) (.attr (.loc 0) w69))] [(.aug (.sub (.attr (.loc 0) w36) (.str w33)) .add (.loc 1))])])])]),
 (.ret (.bool true))]
noncomputable def b_Te : List PS := [(.asg (.loc 1) (.meth (.attr (.loc 0) w42) w71 [])),
 (.ife (.cmp (.loc 1) [.eq] [(.str [39])]) [(.asg (.attr (.loc 0) w38) (.attr (.loc 0) w28))] [(.ife (.cmp (.loc 1) [.eq] [(.str [0])]) [(.expr (.meth (.attr (.loc 0) w37) w6 [(.dict [(.str w30), (.str w39)] [(.sub (.glob 9) (.str w40)), (.str w10)])])), (.aug (.sub (.attr (.loc 0) w36) (.str w33)) .add (.str [65533]))] [(.ife (.cmp (.loc 1) [.eq] [(.str [62])]) [(.expr (.meth (.attr (.loc 0) w37) w6 [(.dict [(.str w30), (.str w39)] [(.sub (.glob 9) (.str w40)), (.str w2)])])), (.asg (.sub (.attr (.loc 0) w36) (.str w34)) (.bool false)), (.expr (.meth (.attr (.loc 0) w37) w6 [(.attr (.loc 0) w36)])), (.asg (.attr (.loc 0) w38) (.attr (.loc 0) w69))] [(.ife (.cmp (.loc 1) [.is] [(.glob 20)]) [(.expr (.meth (.attr (.loc 0) w37) w6 [(.dict [(.str w30), (.str w39)] [(.sub (.glob 9) (.str w40)), (.str w8)])])), (.asg (.sub (.attr (.loc 0) w36) (.str w34)) (.bool false)), (.expr (.meth (.attr (.loc 0) w37) w6 [(.attr (.loc 0) w36)])), (.asg (.attr (.loc 0) w38) (.attr (.loc 0) w69))] [(.aug (.sub (.attr (.loc 0) w36) (.str w33)) .add (.loc 1))])])])]),
 (.ret (.bool true))]
noncomputable def b_Ti : List PS := [(.asg (.loc 1) (.meth (.attr (.loc 0) w42) w71 [])),
 (.ife (.cmp (.loc 1) [.isin] [(.glob 24)]) [.pass] [(.ife (.cmp (.loc 1) [.eq] [(.str [62])]) [(.expr (.meth (.attr (.loc 0) w37) w6 [(.attr (.loc 0) w36)])), (.asg (.attr (.loc 0) w38) (.attr (.loc 0) w69))] [(.ife (.cmp (.loc 1) [.is] [(.glob 20)]) [(.expr (.meth (.attr (.loc 0) w37) w6 [(.dict [(.str w30), (.str w39)] [(.sub (.glob 9) (.str w40)), (.str w8)])])), (.asg (.sub (.attr (.loc 0) w36) (.str w34)) (.bool false)), (.expr (.meth (.attr (.loc 0) w37) w6 [(.attr (.loc 0) w36)])), (.asg (.attr (.loc 0) w38) (.attr (.loc 0) w69))] [(.expr (.meth (.attr (.loc 0) w37) w6 [(.dict [(.str w30), (.str w39)] [(.sub (.glob 9) (.str w40)), (.str w3)])])), (.asg (.attr (.loc 0) w38) (.attr (.loc 0) w29))])])]),
 (.ret (.bool true))]
noncomputable def b_Tr : List PS := [(.asg (.loc 1) (.meth (.attr (.loc 0) w42) w71 [])),
 (.ife (.cmp (.loc 1) [.eq] [(.str [62])]) [(.expr (.meth (.attr (.loc 0) w37) w6 [(.attr (.loc 0) w36)])), (.asg (.attr (.loc 0) w38) (.attr (.loc 0) w69))] [(.ife (.cmp (.loc 1) [.is] [(.glob 20)]) [(.expr (.meth (.attr (.loc 0) w42) w72 [(.loc 1)])), (.expr (.meth (.attr (.loc 0) w37) w6 [(.attr (.loc 0) w36)])), (.asg (.attr (.loc 0) w38) (.attr (.loc 0) w69))] [.pass])]),
 (.ret (.bool true))]
noncomputable abbrev nBroken : List Nat := [101, 120, 112, 101, 99, 116, 101, 100, 45, 115, 112, 97, 99, 101, 45, 111, 114, 45, 114, 105, 103, 104, 116, 45, 98, 114, 97, 99, 107, 101, 116, 45, 105, 110, 45, 100, 111, 99, 116, 121, 112, 101]
noncomputable def glVals : List AV := [.str [32, 10, 9, 12], .val (.ref 810), .val (.ref 803), .val (.ref 822), .str nBroken, .val (.ref 796), .val (.ref 795), .val (.builtin "len"), .val (.ref 829), .val (.ref 48), .val (.ref 850), .val (.ref 836), .val (.ref 843), .val (.ref 817), .val (.ref 762), .val (.ref 774), .val (.ref 781), .val (.ref 788), .val (.ref 857), .val (.ref 73), .none, .val (.builtin "ord"), .val (.ref 84), .val (.ref 166), .tup [.str [9], .str [10], .str [12], .str [32], .str [13]], .val (.ref 42)]
noncomputable def glNames : List (List Nat) := [[95, 108, 97, 119, 95, 66, 76, 65, 78, 75, 83], [95, 108, 97, 119, 95, 76, 79, 83, 84], [95, 108, 97, 119, 95, 83, 72, 85, 84], [95, 108, 97, 119, 95, 115, 109, 97, 108, 108], [95, 108, 97, 119, 95, 66, 82, 79, 75, 69, 78], [95, 108, 97, 119, 95, 80, 65, 82, 84], [95, 108, 97, 119, 95, 75, 69, 69, 80, 83], [108, 101, 110], [95, 108, 97, 119, 95, 108, 101, 97, 118, 101], [116, 111, 107, 101, 110, 84, 121, 112, 101, 115], [95, 108, 97, 119, 95, 116, 111, 107, 101, 110], [95, 108, 97, 119, 95, 112, 108, 97, 110], [95, 108, 97, 119, 95, 99, 97, 108, 108], [95, 108, 97, 119, 95, 109, 97, 114, 107, 115], [72, 84, 77, 76, 84, 111, 107, 101, 110, 105, 122, 101, 114], [95, 108, 97, 119, 95, 78, 65, 77, 69, 83], [95, 108, 97, 119, 95, 80, 85, 66, 76, 73, 67, 83], [95, 108, 97, 119, 95, 83, 89, 83, 84, 69, 77, 83], [95, 108, 97, 119, 95, 114, 117, 110], [84, 101, 120, 116], [69, 79, 70], [111, 114, 100], [95, 105, 115, 95, 105, 110, 118, 97, 108, 105, 100], [72, 84, 77, 76, 85, 110, 105, 99, 111, 100, 101, 73, 110, 112, 117, 116, 83, 116, 114, 101, 97, 109], [115, 112, 97, 99, 101, 67, 104, 97, 114, 97, 99, 116, 101, 114, 115], [97, 115, 99, 105, 105, 76, 111, 119, 101, 114]]
noncomputable def globs0 : List (Str × AV) := (glNames.map sOf).zip glVals
noncomputable def meths0 : List (Addr × List Nat × Addr) := [(73, [95, 95, 105, 110, 105, 116, 95, 95], 63),
 (73, [114, 101, 97, 100], 70),
 (166, [95, 95, 105, 110, 105, 116, 95, 95], 98),
 (166, [114, 101, 115, 101, 116], 105),
 (166, [111, 112, 101, 110, 83, 116, 114, 101, 97, 109], 112),
 (166, [95, 112, 111, 115, 105, 116, 105, 111, 110], 119),
 (166, [112, 111, 115, 105, 116, 105, 111, 110], 126),
 (166, [99, 104, 97, 114], 133),
 (166, [114, 101, 97, 100, 67, 104, 117, 110, 107], 141),
 (166, [99, 104, 97, 114, 97, 99, 116, 101, 114, 69, 114, 114, 111, 114, 115, 85, 67, 83, 52], 148),
 (166, [117, 110, 103, 101, 116], 163),
 (762, [95, 95, 105, 110, 105, 116, 95, 95], 261),
 (762, [100, 97, 116, 97, 83, 116, 97, 116, 101], 304),
 (762, [100, 111, 99, 116, 121, 112, 101, 83, 116, 97, 116, 101], 654),
 (762, [98, 101, 102, 111, 114, 101, 68, 111, 99, 116, 121, 112, 101, 78, 97, 109, 101, 83, 116, 97, 116, 101], 661),
 (762, [100, 111, 99, 116, 121, 112, 101, 78, 97, 109, 101, 83, 116, 97, 116, 101], 668),
 (762, [97, 102, 116, 101, 114, 68, 111, 99, 116, 121, 112, 101, 78, 97, 109, 101, 83, 116, 97, 116, 101], 675),
 (762, [97, 102, 116, 101, 114, 68, 111, 99, 116, 121, 112, 101, 80, 117, 98, 108, 105, 99, 75, 101, 121, 119, 111, 114, 100, 83, 116, 97, 116, 101], 682),
 (762, [98, 101, 102, 111, 114, 101, 68, 111, 99, 116, 121, 112, 101, 80, 117, 98, 108, 105, 99, 73, 100, 101, 110, 116, 105, 102, 105, 101, 114, 83, 116, 97, 116, 101], 689),
 (762, [100, 111, 99, 116, 121, 112, 101, 80, 117, 98, 108, 105, 99, 73, 100, 101, 110, 116, 105, 102, 105, 101, 114, 68, 111, 117, 98, 108, 101, 81, 117, 111, 116, 101, 100, 83, 116, 97, 116, 101], 696),
 (762, [100, 111, 99, 116, 121, 112, 101, 80, 117, 98, 108, 105, 99, 73, 100, 101, 110, 116, 105, 102, 105, 101, 114, 83, 105, 110, 103, 108, 101, 81, 117, 111, 116, 101, 100, 83, 116, 97, 116, 101], 703),
 (762, [97, 102, 116, 101, 114, 68, 111, 99, 116, 121, 112, 101, 80, 117, 98, 108, 105, 99, 73, 100, 101, 110, 116, 105, 102, 105, 101, 114, 83, 116, 97, 116, 101], 710),
 (762, [98, 101, 116, 119, 101, 101, 110, 68, 111, 99, 116, 121, 112, 101, 80, 117, 98, 108, 105, 99, 65, 110, 100, 83, 121, 115, 116, 101, 109, 73, 100, 101, 110, 116, 105, 102, 105, 101, 114, 115, 83, 116, 97, 116, 101], 717),
 (762, [97, 102, 116, 101, 114, 68, 111, 99, 116, 121, 112, 101, 83, 121, 115, 116, 101, 109, 75, 101, 121, 119, 111, 114, 100, 83, 116, 97, 116, 101], 724),
 (762, [98, 101, 102, 111, 114, 101, 68, 111, 99, 116, 121, 112, 101, 83, 121, 115, 116, 101, 109, 73, 100, 101, 110, 116, 105, 102, 105, 101, 114, 83, 116, 97, 116, 101], 731),
 (762, [100, 111, 99, 116, 121, 112, 101, 83, 121, 115, 116, 101, 109, 73, 100, 101, 110, 116, 105, 102, 105, 101, 114, 68, 111, 117, 98, 108, 101, 81, 117, 111, 116, 101, 100, 83, 116, 97, 116, 101], 738),
 (762, [100, 111, 99, 116, 121, 112, 101, 83, 121, 115, 116, 101, 109, 73, 100, 101, 110, 116, 105, 102, 105, 101, 114, 83, 105, 110, 103, 108, 101, 81, 117, 111, 116, 101, 100, 83, 116, 97, 116, 101], 745),
 (762, [97, 102, 116, 101, 114, 68, 111, 99, 116, 121, 112, 101, 83, 121, 115, 116, 101, 109, 73, 100, 101, 110, 116, 105, 102, 105, 101, 114, 83, 116, 97, 116, 101], 752),
 (762, [98, 111, 103, 117, 115, 68, 111, 99, 116, 121, 112, 101, 83, 116, 97, 116, 101], 759)]
noncomputable def own0 : List (Addr × List Nat) := [(762, [115, 116, 114, 101, 97, 109]),
 (762, [112, 97, 114, 115, 101, 114]),
 (762, [101, 115, 99, 97, 112, 101, 70, 108, 97, 103]),
 (762, [108, 97, 115, 116, 70, 111, 117, 114, 67, 104, 97, 114, 115]),
 (762, [115, 116, 97, 116, 101]),
 (762, [101, 115, 99, 97, 112, 101]),
 (762, [99, 117, 114, 114, 101, 110, 116, 84, 111, 107, 101, 110]),
 (762, [116, 111, 107, 101, 110, 81, 117, 101, 117, 101]),
 (166, [114, 101, 112, 111, 114, 116, 67, 104, 97, 114, 97, 99, 116, 101, 114, 69, 114, 114, 111, 114, 115]),
 (166, [110, 101, 119, 76, 105, 110, 101, 115]),
 (166, [100, 97, 116, 97, 83, 116, 114, 101, 97, 109]),
 (166, [99, 104, 117, 110, 107]),
 (166, [99, 104, 117, 110, 107, 83, 105, 122, 101]),
 (166, [99, 104, 117, 110, 107, 79, 102, 102, 115, 101, 116]),
 (166, [101, 114, 114, 111, 114, 115]),
 (166, [112, 114, 101, 118, 78, 117, 109, 76, 105, 110, 101, 115]),
 (166, [112, 114, 101, 118, 78, 117, 109, 67, 111, 108, 115]),
 (166, [95, 98, 117, 102, 102, 101, 114, 101, 100, 67, 104, 97, 114, 97, 99, 116, 101, 114]),
 (73, [116, 101, 120, 116]),
 (73, [112, 108, 97, 99, 101])]
noncomputable def signs0 : List (List Nat) := [[32], [34], [62], [112, 117, 98, 108, 105, 99], [39], [120], [83, 89, 83, 84, 69, 77], [0], [80, 117, 98, 108, 105], [10], [115, 89, 115], [201], [13], [80], [9], [34, 62], [12], [39, 32], [13, 10], [83]]
noncomputable def tabOf (fns : List (Addr × Fn)) : Tab where
 globs := globs0
 fns := fns
 meths := meths0
 cattr := [(166, [95, 100, 101, 102, 97, 117, 108, 116, 67, 104, 117, 110, 107, 83, 105, 122, 101], .int 10240)]
 own := own0
 bms := [148]
 cS := 166
 kstr := [(48, [([68, 111, 99, 116, 121, 112, 101], .int 0), ([67, 104, 97, 114, 97, 99, 116, 101, 114, 115], .int 1), ([83, 112, 97, 99, 101, 67, 104, 97, 114, 97, 99, 116, 101, 114, 115], .int 2), ([83, 116, 97, 114, 116, 84, 97, 103], .int 3), ([69, 110, 100, 84, 97, 103], .int 4), ([69, 109, 112, 116, 121, 84, 97, 103], .int 5), ([67, 111, 109, 109, 101, 110, 116], .int 6), ([80, 97, 114, 115, 101, 69, 114, 114, 111, 114], .int 7)])]
 kint := [(796, [(2, .int 0), (6, .int 1), (7, .int 1), (12, .int 2), (13, .int 2)])]
 klst := [(767, signs0.map .str)]
noncomputable def NN : Nat := 4000
noncomputable def TI0 : Tab := tabOf ([])
noncomputable def f_Text___init__ : Fn := bFn TI0 NN 2 0 [2] b_Text___init__
noncomputable def f_Text_read : Fn := bFn TI0 NN 2 2 [2] b_Text_read
noncomputable def f__is_invalid : Fn := bFn TI0 NN 1 0 [1] b__is_invalid
noncomputable def f_Uv : Fn := bFn TI0 NN 1 0 [1] b_Uv
noncomputable def f_Up : Fn := bFn TI0 NN 2 5 [2] b_Up
noncomputable def TI1 : Tab := tabOf ([(63, f_Text___init__), (70, f_Text_read), (84, f__is_invalid), (105, f_Uv), (119, f_Up)])
noncomputable def f_Ul : Fn := bFn TI1 NN 2 3 [2] b_Ul
noncomputable def c_Text : Fn := initFn f_Text___init__ 73
noncomputable def TI2 : Tab := tabOf ([(148, f_Ul), (73, c_Text)] ++ TI1.fns)
noncomputable def f_Uo : Fn := bFn TI2 NN 2 2 [2] b_Uo
noncomputable def f_Uq : Fn := bFn TI2 NN 2 4 [1, 2] b_Uq
noncomputable def TI3 : Tab := tabOf ([(112, f_Uo), (141, f_Uq)] ++ TI2.fns)
noncomputable def f_Us : Fn := bFn TI3 NN 2 0 [2] b_Us
noncomputable def f_Ux : Fn := bFn TI3 NN 1 3 [1] b_Ux
noncomputable def f_Uw : Fn := bFn TI3 NN 2 1 [2] b_Uw
noncomputable def f_Ut : Fn := bFn TI3 NN 1 2 [1] b_Ut
noncomputable def c_Strm : Fn := initFn f_Us 166
noncomputable def low1 (c : Nat) : Nat := if 65 ≤ c ∧ c ≤ 90 then c + 32 else c
noncomputable def onStrm {β : Type} (ob : List AObj) (r : Nat) (k : List Nat → List Nat → Option β) : Option β := match ob[r]? with
 | none => none
 | some o => match o with
  | .strm p q => k p q
  | _ => none
theorem onStrm_is {β : Type} {ob : List AObj} {r : Nat} {k : List Nat → List Nat → Option β} {b : β} {P : Prop} (h : onStrm ob r k = some b) (q : ∀ p s, ob[r]? = some (.strm p s) → k p s = some b → P) : P := by
 unfold onStrm at h
 cases e : ob[r]? with
 | none => rw [e] at h; exact nO h
 | some o =>
  rw [e] at h
  cases o with
  | strm p s => exact q p s e h
  | _ => exact nO h
noncomputable def consK {β : Type} (l : List Nat) (a : Option β) (k : Nat → List Nat → Option β) : Option β := match l with
 | [] => a
 | c :: r => k c r
theorem consK_is {β : Type} {l : List Nat} {a : Option β} {k : Nat → List Nat → Option β} {b : β} {P : Prop} (h : consK l a k = some b) (q1 : l = [] → a = some b → P) (q2 : ∀ c r, l = c :: r → k c r = some b → P) : P := by
 cases l with
 | nil => exact q1 rfl h
 | cons c r => exact q2 c r rfl h
noncomputable def noneStr {β : Type} (y : AV) (a : Option β) (k : List Nat → Option β) : Option β := match y with
 | .none => a
 | y => onSome (asStr y) k
theorem noneStr_is {β : Type} {y : AV} {a : Option β} {k : List Nat → Option β} {b : β} {P : Prop} (h : noneStr y a k = some b) (q1 : y = .none → a = some b → P) (q2 : ∀ s, y = .str s → k s = some b → P) : P := by
 cases y with
 | none => exact q1 rfl h
 | str s => exact q2 s rfl h
 | _ => exact nO h
noncomputable def lowFn : Fn := fun args ob => unc args fun x r => nilK r (onSome (asStr x) fun s => some ((.str (s.map low1), ob), [s.length]))
noncomputable def sMake : Fn := fun args ob => unc args fun x r => nilK r (onSome (asStr x) fun s => if s.length ≤ 1000 ∧ s.all fair = true then fine (.ref ob.length, ob ++ [.strm [] (1114112 :: norm s)]) else none)
noncomputable def sChar : Fn := fun args ob => unc args fun x r => nilK r (onSome (asRef x) fun i => onStrm ob i fun p r => consK r (fine (.none, ob.set i (.strm (1114113 :: p) []))) fun c r => if c = 1114112 then none else fine (.str [c], ob.set i (.strm (c :: p) r)))
noncomputable def sUnget : Fn := fun args ob => unc args fun x r => unc r fun y r => nilK r (onSome (asRef x) fun i => onStrm ob i fun p r => noneStr y (fine (.none, ob.set i (.strm p r))) fun s => consK s none fun d t => consK t (consK p none fun c p => if d = c ∧ c < 1114112 then fine (.none, ob.set i (.strm (1114113 :: p) (c :: r))) else none) fun _ _ => none)
noncomputable def sPos : Fn := fun args ob => unc args fun x r => nilK r (onSome (asRef x) fun i => onStrm ob i fun p r => fine (.tup [.int ((posR p).1 + 1), .int (posR p).2], ob.set i (.strm p r)))
noncomputable def sRead : Fn := fun args ob => unc args fun x r => unc r fun y r => nilK r (onSome (asRef x) fun i => onSome (asInt y) fun k => if 2 ≤ k ∧ k ≤ 1000 then onStrm ob i fun p r => consK p (consK r none fun m r => if m = 1114112 then fine (.bool (!r.isEmpty), ob.set i (.strm [] r)) else none) fun _ _ => none else none)
noncomputable def f_law_NAMES : Fn := bFn TI0 NN 0 0 [0] b_law_NAMES
noncomputable def f_law_PUBLICS : Fn := bFn TI0 NN 0 0 [0] b_law_PUBLICS
noncomputable def f_law_SYSTEMS : Fn := bFn TI0 NN 0 0 [0] b_law_SYSTEMS
noncomputable def f_law_KEEPS : Fn := bFn TI0 NN 0 1 [0] b_law_KEEPS
noncomputable def f_law_SHUT : Fn := bFn TI0 NN 0 0 [0] b_law_SHUT
noncomputable def f_law_LOST : Fn := bFn TI0 NN 0 0 [0] b_law_LOST
noncomputable def f_law_marks : Fn := bFn TI0 NN 1 4 [1] b_law_marks
noncomputable def f_law_token : Fn := bFn TI0 NN 1 1 [1] b_law_token
noncomputable def TO0 : Tab := tabOf ([(166, sMake), (133, sChar), (163, sUnget), (126, sPos), (141, sRead), (42, lowFn), (822, lowFn), (774, f_law_NAMES), (781, f_law_PUBLICS), (788, f_law_SYSTEMS), (795, f_law_KEEPS), (803, f_law_SHUT), (810, f_law_LOST), (817, f_law_marks), (850, f_law_token)])
noncomputable def f_Ty : Fn := bFn TO0 NN 1 4 [1] b_Ty
noncomputable def f_Tm : Fn := bFn TO0 NN 1 4 [1] b_Tm
noncomputable def f_Tu : Fn := bFn TO0 NN 1 5 [1] b_Tu
noncomputable def f_Tn : Fn := bFn TO0 NN 1 6 [1] b_Tn
noncomputable def f_Tj : Fn := bFn TO0 NN 1 4 [1] b_Tj
noncomputable def f_Tf : Fn := bFn TO0 NN 1 4 [1] b_Tf
noncomputable def f_Tb : Fn := bFn TO0 NN 1 3 [1] b_Tb
noncomputable def f_Tc : Fn := bFn TO0 NN 1 3 [1] b_Tc
noncomputable def f_Th : Fn := bFn TO0 NN 1 4 [1] b_Th
noncomputable def f_Ta : Fn := bFn TO0 NN 1 4 [1] b_Ta
noncomputable def f_Tk : Fn := bFn TO0 NN 1 4 [1] b_Tk
noncomputable def f_Tg : Fn := bFn TO0 NN 1 4 [1] b_Tg
noncomputable def f_Td : Fn := bFn TO0 NN 1 3 [1] b_Td
noncomputable def f_Te : Fn := bFn TO0 NN 1 3 [1] b_Te
noncomputable def f_Ti : Fn := bFn TO0 NN 1 4 [1] b_Ti
noncomputable def f_Tr : Fn := bFn TO0 NN 1 2 [1] b_Tr
noncomputable def f_law_leave : Fn := bFn TO0 NN 3 10 [3] b_law_leave
noncomputable def v_leave : Fn := viaF [] f_law_leave
noncomputable def f_Tz : Fn := bFn TO0 NN 3 1 [2] b_Tz
noncomputable def TO1 : Tab := tabOf ([(654, f_Ty), (661, f_Tm), (668, f_Tu), (675, f_Tn), (682, f_Tj), (689, f_Tf), (696, f_Tb), (703, f_Tc), (710, f_Th), (717, f_Ta), (724, f_Tk), (731, f_Tg), (738, f_Td), (745, f_Te), (752, f_Ti), (759, f_Tr), (829, v_leave)] ++ TO0.fns)
noncomputable def f_law_plan : Fn := bFn TO1 NN 4 11 [4] b_law_plan
noncomputable def f_law_call : Fn := bFn TO1 NN 2 0 [2] b_law_call
noncomputable def v_plan : Fn := viaF [.loc 3] f_law_plan
noncomputable def v_call : Fn := viaF [.loc 0, .attr 0 [115, 116, 114, 101, 97, 109], .attr 0 [116, 111, 107, 101, 110, 81, 117, 101, 117, 101], .attr 0 [99, 117, 114, 114, 101, 110, 116, 84, 111, 107, 101, 110]] f_law_call
noncomputable def TO2 : Tab := tabOf ([(836, v_plan), (843, v_call)] ++ TO1.fns)
noncomputable def f_law_run : Fn := bFn TO2 NN 6 13 [6] b_law_run
noncomputable def v_run : Fn := viaF [.loc 0, .attr 0 [115, 116, 114, 101, 97, 109], .loc 2, .loc 5] f_law_run
noncomputable def c_Tok : Fn := initFn f_Tz 762
noncomputable def TO3 : Tab := tabOf ([(857, v_run), (762, c_Tok)] ++ TO2.fns)
section
open Builtin.Str
theorem norm_o {c : Nat} {r : List Nat} (h : c ≠ 13) : norm (c :: r) = c :: norm r := by
 cases r with
 | nil => exact congrArg (· :: []) (if_neg h)
 | cons d r => exact if_neg h
theorem two_rec {P : List Nat → Prop} (h0 : P []) (h1 : ∀ c, P [c]) (h2 : ∀ c d r, P r → P (d :: r) → P (c :: d :: r)) (l : List Nat) : P l := by
 have h : P l ∧ ∀ c, P (c :: l) := by
  induction l with
  | nil => exact ⟨h0, h1⟩
  | cons d r ih => exact ⟨ih.2 d, fun c => h2 c d r ih.1 (ih.2 d)⟩
 exact h.1
theorem drop_is {α : Type} {l r : List α} {i : Nat} {c : α} (hm : l.drop i = c :: r) : l.drop (i + 1) = r ∧ l[i]? = some c :=
 ⟨by rw [← List.drop_drop, hm]; rfl, (List.getElem?_drop (i := i) (j := 0)).symm.trans (by rw [hm]; rfl)⟩
theorem take_drop1 {l : List Nat} {i st c : Nat} (hi : l[i]? = some c) (h : st ≤ i) : (l.take (i + 1)).drop st = (l.take i).drop st ++ [c] := by
 rw [List.take_add_one, hi]
 exact List.drop_append_of_le_length (by rw [List.length_take]; exact Nat.le_min.mpr ⟨h, Nat.le_of_lt (Nat.lt_of_le_of_lt h (List.getElem?_eq_some_iff.mp hi).1)⟩)
theorem take_nil {l : List Nat} {n : Nat} : (l.take n).drop n = [] := List.drop_eq_nil_of_le (List.length_take_le ..)
theorem norm_13 {d : Nat} {r : List Nat} (h : d ≠ 10) : norm (13 :: d :: r) = 10 :: norm (d :: r) := (if_pos rfl).trans (if_neg h)
theorem subAt_iff {l sub : List Nat} {hi i : Nat} (h : hi ≤ l.length) (hs : 0 < sub.length) : (i + (sOf sub).length ≤ hi ∧ subAt (sOf l) (sOf sub) i = true) ↔ sub <+: (l.take hi).drop i := by
 have hl : (sOf sub).length = sub.length := by simp [Str.length]
 have he : subAt (sOf l) (sOf sub) i = decide ((l.drop i).take sub.length = sub) := by
  unfold subAt
  rw [hl]
  show ((l.toArray.extract i (i + sub.length)) == sub.toArray) = _
  rw [List.extract_toArray]
  simp only [List.extract_eq_take_drop, Nat.add_sub_cancel_left]
  exact Bool.eq_iff_iff.mpr (by simp)
 rw [hl, he, decide_eq_true_iff, List.prefix_iff_eq_take, List.drop_take, List.take_take]
 constructor
 ·rintro ⟨h1, h2⟩
  rw [Nat.min_eq_left (Nat.le_sub_of_add_le' h1)]; exact h2.symm
 ·intro h2
  have h3 : sub.length ≤ hi - i := by
   have := congrArg List.length h2
   rw [List.length_take] at this
   exact Nat.le_trans (Nat.le_of_eq this) (Nat.le_trans (Nat.min_le_left ..) (Nat.min_le_right ..))
  rw [Nat.min_eq_left h3] at h2
  exact ⟨Nat.add_le_of_le_sub' (Nat.le_of_lt (Nat.lt_of_sub_pos (Nat.lt_of_lt_of_le hs h3))) h3, h2.symm⟩
noncomputable def occF (sub : List Nat) (free i : Nat) : List Nat → List Nat
 | [] => []
 | c :: r => if free ≤ i ∧ sub <+: c :: r then i :: occF sub (i + sub.length) (i + 1) r else occF sub free (i + 1) r
theorem run_nil {l : List Nat} {hi i : Nat} (h : hi ≤ l.length) (hm : (l.take hi).drop i = []) (hi' : i ≤ hi) : List.range' i (hi + 1 - i) = [i] := by
 have hlen := congrArg List.length hm
 rw [List.length_drop, List.length_take, Nat.min_eq_left h, List.length_nil] at hlen
 have e : i = hi := Nat.le_antisymm hi' (Nat.sub_eq_zero_iff_le.mp hlen)
 rw [e, Nat.add_sub_cancel_left]
 rfl
theorem run_cons {l : List Nat} {hi i c : Nat} {r : List Nat} (h : hi ≤ l.length) (hm : (l.take hi).drop i = c :: r) : i + 1 ≤ hi ∧ (l.take hi).drop (i + 1) = r ∧ List.range' i (hi + 1 - i) = i :: List.range' (i + 1) (hi + 1 - (i + 1)) := by
 have hd := drop_is hm
 have e1 : i + 1 ≤ hi := Nat.lt_of_lt_of_le (List.getElem?_eq_some_iff.mp hd.2).1 (List.length_take_le ..)
 exact ⟨e1, hd.1, by rw [Nat.succ_sub (Nat.le_of_succ_le e1), List.range'_succ, Nat.add_sub_add_right]⟩
theorem occ_run {l sub : List Nat} {hi limit : Nat} (h : hi ≤ l.length) (hs : 0 < sub.length) (hlim : hi < limit) (m : List Nat) : ∀ (i : Nat) (acc : Array Nat) (free : Nat), (l.take hi).drop i = m → i ≤ hi → acc.size ≤ i →
  (forIn (List.range' i (hi + 1 - i)) (acc, free) (StrLaws.occBody (sOf l) (sOf sub) hi limit)).run.fst.toList = acc.toList ++ occF sub free i m := by
 induction m with
 | nil =>
  intro i acc free hm hi' ha
  rw [run_nil h hm hi', List.forIn_cons]
  rw [show StrLaws.occBody (sOf l) (sOf sub) hi limit i (acc, free) = pure (ForInStep.yield (acc, free)) from if_neg fun q => by
   have := (subAt_iff (l := l) (sub := sub) h hs).mp ⟨q.1.2, q.2⟩
   rw [hm] at this
   exact absurd (List.IsPrefix.length_le this) (Nat.not_le.mpr hs)]
  simp [occF]
 | cons c r ih =>
  intro i acc free hm hi' ha
  obtain ⟨e1, hr, e⟩ := run_cons h hm
  rw [e, List.forIn_cons]
  have hiff : (((acc.size < limit ∧ free ≤ i) ∧ i + (sOf sub).length ≤ hi) ∧ subAt (sOf l) (sOf sub) i = true) ↔ (free ≤ i ∧ sub <+: c :: r) := by
   rw [← hm, ← subAt_iff h hs]
   exact ⟨fun q => ⟨q.1.1.2, q.1.2, q.2⟩, fun q => ⟨⟨⟨Nat.lt_of_le_of_lt (Nat.le_trans ha hi') hlim, q.1⟩, q.2.1⟩, q.2.2⟩⟩
  clear hm e
  unfold occF
  by_cases q : free ≤ i ∧ sub <+: c :: r
  ·rw [show StrLaws.occBody (sOf l) (sOf sub) hi limit i (acc, free) = pure (ForInStep.yield (acc.push i, i + (sOf sub).length)) from if_pos (hiff.mpr q), if_pos q, pure_bind]
   rw [ih (i + 1) (acc.push i) (i + (sOf sub).length) hr e1 (by rw [Array.size_push]; exact Nat.succ_le_succ ha)]
   simp [Str.length]
  ·rw [show StrLaws.occBody (sOf l) (sOf sub) hi limit i (acc, free) = pure (ForInStep.yield (acc, free)) from if_neg (fun z => q (hiff.mp z)), if_neg q, pure_bind]
   exact ih (i + 1) acc free hr e1 (Nat.le_succ_of_le ha)
theorem occ_is {l sub : List Nat} {hi limit : Nat} (h : hi ≤ l.length) (hs : 0 < sub.length) (hlim : hi < limit) : occurrences (sOf l) (sOf sub) 0 hi limit = occF sub 0 0 (l.take hi) := by
 rw [StrLaws.occ_eq]
 have := occ_run (limit := limit) h hs hlim (l.take hi) 0 #[] 0 rfl (Nat.zero_le _) (Nat.le_refl _)
 simpa using this
theorem prefix_one {c d : Nat} {r : List Nat} : [c] <+: d :: r ↔ c = d := by
 rw [List.cons_prefix_cons]; simp
theorem occF_count {c : Nat} (m : List Nat) (free i : Nat) (h : free ≤ i) : (occF [c] free i m).length = m.count c := by
 induction m generalizing free i with
 | nil => rfl
 | cons d r ih =>
  by_cases q : c = d
  ·cases q
   have e : occF [c] free i (c :: r) = i :: occF [c] (i + 1) (i + 1) r := if_pos ⟨h, prefix_one.mpr rfl⟩
   rw [e, List.length_cons, ih _ _ (Nat.le_refl _), List.count_cons_self]
  ·have e : occF [c] free i (d :: r) = occF [c] free (i + 1) r := if_neg fun z => q (prefix_one.mp z.2)
   rw [e, ih _ _ (Nat.le_succ_of_le h), List.count_cons_of_ne (fun z => q z.symm)]
theorem count_is {l : List Nat} {c b : Nat} (h : b ≤ l.length) : (occurrences (sOf l) (sOf [c]) 0 b (l.length + 1)).length = (l.take b).count c := by
 rw [occ_is h (by simp) (by exact Nat.lt_succ_of_le h), occF_count _ _ _ (Nat.le_refl _)]
noncomputable def lastF (c : Nat) (last : Option Nat) (i : Nat) : List Nat → Option Nat
 | [] => last
 | d :: r => lastF c (if c = d then some i else last) (i + 1) r
theorem last_run {l : List Nat} {c hi : Nat} (h : hi ≤ l.length) (m : List Nat) : ∀ (i : Nat) (last : Option Nat), (l.take hi).drop i = m → i ≤ hi →
  (forIn (List.range' i (hi + 1 - i)) last (StrLaws.lastBody (sOf l) (sOf [c]) hi)).run = lastF c last i m := by
 induction m with
 | nil =>
  intro i last hm hi'
  rw [run_nil h hm hi', List.forIn_cons]
  rw [show StrLaws.lastBody (sOf l) (sOf [c]) hi i last = pure (ForInStep.yield last) from if_neg fun q => by
   have := (subAt_iff (l := l) (sub := [c]) h (Nat.succ_pos _)).mp q
   rw [hm] at this
   exact absurd (List.IsPrefix.length_le this) (Nat.not_succ_le_zero _)]
  simp [lastF]
 | cons d r ih =>
  intro i last hm hi'
  obtain ⟨e1, hr, e⟩ := run_cons h hm
  rw [e, List.forIn_cons]
  have hiff : (i + (sOf [c]).length ≤ hi ∧ subAt (sOf l) (sOf [c]) i = true) ↔ c = d := by
   rw [subAt_iff (sub := [c]) h (Nat.succ_pos _), hm, prefix_one]
  clear hm e
  unfold lastF
  by_cases q : c = d
  ·rw [show StrLaws.lastBody (sOf l) (sOf [c]) hi i last = pure (ForInStep.yield (some i)) from if_pos (hiff.mpr q), if_pos q, pure_bind]
   exact ih (i + 1) _ hr e1
  ·rw [show StrLaws.lastBody (sOf l) (sOf [c]) hi i last = pure (ForInStep.yield last) from if_neg (fun z => q (hiff.mp z)), if_neg q, pure_bind]
   exact ih (i + 1) _ hr e1
theorem last_is {l : List Nat} {c b : Nat} (h : b ≤ l.length) : lastOccurrence (sOf l) (sOf [c]) 0 b = lastF c none 0 (l.take b) := by
 rw [StrLaws.last_eq]
 exact last_run h _ 0 none rfl (Nat.zero_le _)
theorem lastF_snoc {c d : Nat} (m : List Nat) (i : Nat) (last : Option Nat) : lastF c last i (m ++ [d]) = if c = d then some (i + m.length) else lastF c last i m := by
 induction m generalizing i last with
 | nil => rfl
 | cons e r ih => exact (ih _ _).trans (by rw [Nat.succ_add]; rfl)
noncomputable def rep2 (a b : Nat) (z : List Nat) : List Nat → List Nat
 | [] => []
 | [c] => [c]
 | c :: d :: r => if c = a ∧ d = b then z ++ rep2 a b z r else c :: rep2 a b z (d :: r)
noncomputable def rep1 (a : Nat) (z : List Nat) : List Nat → List Nat
 | [] => []
 | c :: r => if c = a then z ++ rep1 a z r else c :: rep1 a z r
noncomputable def glueF (l z : List Nat) (w : Nat) : Nat → List Nat → List Nat
 | st, [] => l.drop st
 | st, c :: r => (l.take c).drop st ++ z ++ glueF l z w (c + w) r
theorem glue_parts {l z : List Nat} {w : Nat} : ∀ (cuts : List Nat) (st : Nat), (Str.join (sOf z) (StrLaws.partsFrom (sOf l) w st cuts)).cps.toList = glueF l z w st cuts
 | [], st => by
  show (strSub (sOf l) st (sOf l).length).cps.toList = _
  unfold strSub glueF
  simp [Str.length, List.extract_eq_take_drop]
  exact List.take_of_length_le (by simp)
 | c :: r, st => by
  obtain ⟨p, q, e⟩ := StrLaws.partsFrom_ne (sOf l) w (c + w) r
  have ih := glue_parts (l := l) (z := z) (w := w) r (c + w)
  show (Str.join (sOf z) (strSub (sOf l) st c :: StrLaws.partsFrom (sOf l) w (c + w) r)).cps.toList = _
  rw [e] at ih ⊢
  show (strSub (sOf l) st c ++ sOf z ++ Str.join (sOf z) (p :: q)).cps.toList = _
  rw [Str.cps_append, Str.cps_append, Array.toList_append, Array.toList_append, ih]
  show _ = (l.take c).drop st ++ z ++ glueF l z w (c + w) r
  unfold strSub
  simp [List.extract_eq_take_drop, List.drop_take]
theorem repl_is {l sub z : List Nat} (hs : 0 < sub.length) : replS l sub z = glueF l z sub.length 0 (occF sub 0 0 l) := by
 have hl : (sOf l).length = l.length := by simp [Str.length]
 have hs' : (sOf sub).length = sub.length := by simp [Str.length]
 have ho : occurrences (sOf l) (sOf sub) 0 (sOf l).length ((sOf l).length + 1) = occF sub 0 0 l := by
  rw [hl, occ_is (limit := l.length + 1) (Nat.le_refl _) hs (Nat.lt_succ_self _), List.take_length]
 unfold replS Txt.replace
 rw [ho, StrLaws.glued_eq_join, StrLaws.partsBetween_eq, hs']
 have h0 : (sub.length == 0) = false := by rw [beq_eq_false_iff_ne]; exact Nat.ne_zero_of_lt hs
 rw [h0, Bool.false_and, Bool.or_false]
 cases hc : occF sub 0 0 l with
 | nil => simp [glueF]
 | cons a r => rw [if_neg (by simp)]; exact glue_parts _ _
theorem glue1 {l z : List Nat} {a : Nat} (m : List Nat) (i st free : Nat) (hm : l.drop i = m) (h1 : st ≤ i) (h2 : free ≤ i) : glueF l z 1 st (occF [a] free i m) = (l.take i).drop st ++ rep1 a z m := by
 induction m generalizing i st free with
 | nil =>
  show l.drop st = (l.take i).drop st ++ []
  rw [List.append_nil, List.take_of_length_le (List.drop_eq_nil_iff.mp hm)]
 | cons c r ih =>
  have hd := drop_is hm
  by_cases q : a = c
  ·have e1 : occF [a] free i (c :: r) = i :: occF [a] (i + 1) (i + 1) r := if_pos ⟨h2, prefix_one.mpr q⟩
   have e2 : rep1 a z (c :: r) = z ++ rep1 a z r := if_pos q.symm
   rw [e1, e2]
   show (l.take i).drop st ++ z ++ glueF l z 1 (i + 1) (occF [a] (i + 1) (i + 1) r) = _
   rw [ih (i + 1) (i + 1) (i + 1) hd.1 (Nat.le_refl _) (Nat.le_refl _), take_nil, List.nil_append, List.append_assoc]
  ·have e1 : occF [a] free i (c :: r) = occF [a] free (i + 1) r := if_neg fun z => q (prefix_one.mp z.2)
   have e2 : rep1 a z (c :: r) = c :: rep1 a z r := if_neg fun z => q z.symm
   rw [e1, e2, ih (i + 1) st free hd.1 (Nat.le_succ_of_le h1) (Nat.le_succ_of_le h2), take_drop1 hd.2 h1, List.append_assoc]; rfl
theorem prefix_two {a b c d : Nat} {r : List Nat} : [a, b] <+: c :: d :: r ↔ a = c ∧ b = d := by
 rw [List.cons_prefix_cons, List.cons_prefix_cons]; simp
theorem glue2 {l z : List Nat} {a b : Nat} (m : List Nat) (i st free : Nat) (hm : l.drop i = m) (h1 : st ≤ i) (h2 : free ≤ i) : glueF l z 2 st (occF [a, b] free i m) = (l.take i).drop st ++ rep2 a b z m := by
 induction m using two_rec generalizing i st free with
 | h0 =>
  show l.drop st = (l.take i).drop st ++ []
  rw [List.append_nil, List.take_of_length_le (List.drop_eq_nil_iff.mp hm)]
 | h1 c =>
  have hd := drop_is hm
  have e1 : occF [a, b] free i [c] = [] := if_neg fun z => absurd z.2.length_le (Nat.not_succ_le_self 1)
  rw [e1]
  show l.drop st = (l.take i).drop st ++ [c]
  rw [← take_drop1 hd.2 h1, List.take_of_length_le (List.drop_eq_nil_iff.mp hd.1)]
 | h2 c d r ih1 ih2 =>
  have hd := drop_is hm
  by_cases q : a = c ∧ b = d
  ·have e0 : occF [a, b] (i + 2) (i + 1) (d :: r) = occF [a, b] (i + 2) (i + 2) r := if_neg fun z => Nat.not_succ_le_self _ z.1
   have e1 : occF [a, b] free i (c :: d :: r) = i :: occF [a, b] (i + 2) (i + 2) r := (if_pos ⟨h2, prefix_two.mpr q⟩).trans (congrArg (i :: ·) e0)
   have e2 : rep2 a b z (c :: d :: r) = z ++ rep2 a b z r := if_pos ⟨q.1.symm, q.2.symm⟩
   rw [e1, e2]
   show (l.take i).drop st ++ z ++ glueF l z 2 (i + 2) (occF [a, b] (i + 2) (i + 2) r) = _
   rw [ih1 (i + 2) (i + 2) (i + 2) (drop_is hd.1).1 (Nat.le_refl _) (Nat.le_refl _), take_nil, List.nil_append, List.append_assoc]
  ·have e1 : occF [a, b] free i (c :: d :: r) = occF [a, b] free (i + 1) (d :: r) := if_neg fun z => q (prefix_two.mp z.2)
   have e2 : rep2 a b z (c :: d :: r) = c :: rep2 a b z (d :: r) := if_neg fun z => q ⟨z.1.symm, z.2.symm⟩
   rw [e1, e2, ih2 (i + 1) st free hd.1 (Nat.le_succ_of_le h1) (Nat.le_succ_of_le h2), take_drop1 hd.2 h1, List.append_assoc]; rfl
theorem repl_one {l z : List Nat} {a : Nat} : replS l [a] z = rep1 a z l := by
 rw [repl_is (by simp)]
 have := glue1 (l := l) (z := z) (a := a) l 0 0 0 rfl (Nat.le_refl _) (Nat.le_refl _)
 simpa using this
theorem repl_two {l z : List Nat} {a b : Nat} : replS l [a, b] z = rep2 a b z l := by
 rw [repl_is (by simp)]
 have := glue2 (l := l) (z := z) (a := a) (b := b) l 0 0 0 rfl (Nat.le_refl _) (Nat.le_refl _)
 simpa using this
theorem norm_is (l : List Nat) : rep1 13 [10] (rep2 13 10 [10] l) = norm l := by
 induction l using two_rec with
 | h0 => rfl
 | h1 c =>
  by_cases h : c = 13
  ·cases h; rfl
  ·exact (if_neg h).trans (norm_o (r := []) h).symm
 | h2 c d r ih1 ih2 =>
  by_cases h1 : c = 13
  ·cases h1
   by_cases h : d = 10
   ·cases h
    exact congrArg (10 :: ·) ih1
   ·have e : rep2 13 10 [10] (13 :: d :: r) = 13 :: rep2 13 10 [10] (d :: r) := if_neg fun z => h z.2
    rw [e, norm_13 h, ← ih2]; rfl
  ·have e : rep2 13 10 [10] (c :: d :: r) = c :: rep2 13 10 [10] (d :: r) := if_neg fun z => h1 z.1
   rw [e, norm_o h1, ← ih2]; exact if_neg h1
theorem repl_norm (l : List Nat) : replS (replS l [13, 10] [10]) [13] [10] = norm l := by
 rw [repl_two, repl_one, norm_is]
end
noncomputable def resO {α : Type} : Res α → Option α
 | some (a, _) => some a
 | none => none
noncomputable def obsO {α : Type} : Res α → List Nat
 | some (_, l) => l
 | none => []
noncomputable def Ok {α : Type} (r : Res α) (a : α) : Prop := ∃ l, r = some (a, l) ∧ ∀ k ∈ l, k ≤ 5000
theorem Ok.fits {α : Type} {r : Res α} {a : α} (h : Ok r a) : ∃ l, r = some (a, l) ∧ Fits l :=
 let ⟨l, h1, h2⟩ := h
 ⟨l, h1, fun k hk => by have := h2 k hk; rw [sizeLine_eq]; lia⟩
theorem Ok.of {α : Type} {r : Res α} {a : α} (h1 : resO r = some a) (h2 : ((obsO r).all fun k => Nat.ble k 5000) = true) : Ok r a := by
 cases r with
 | none => cases h1
 | some x =>
  obtain ⟨b, l⟩ := x
  cases h1
  exact ⟨l, rfl, fun k hk => Nat.le_of_ble_eq_true (List.all_eq_true.mp h2 k hk)⟩
theorem Ok.k {α : Type} {r : Res α} {a : α} (h1 : resO r = some a := by kernel_rfl) (h2 : ((obsO r).all fun k => Nat.ble k 5000) = true := by kernel_rfl) : Ok r a := Ok.of h1 h2
theorem Ok.mk' {α : Type} {r : Res α} {a : α} {l : List Nat} (h1 : r = some (a, l)) (h2 : ∀ k ∈ l, k ≤ 5000) : Ok r a := ⟨l, h1, h2⟩
theorem Ok.bnd {α β : Type} {x : Res α} {f : α → Res β} {a : α} {b : β} (h1 : Ok x a) (h2 : Ok (f a) b) : Ok (Mine.bnd x f) b := by
 obtain ⟨l, rfl, q⟩ := h1
 obtain ⟨l', q1, q'⟩ := h2
 refine ⟨l ++ l', ?_, fun k hk => ?_⟩
 ·show (match f a with | none => none | some (b, l') => some (b, l ++ l')) = _
  rw [q1]
 ·rcases List.mem_append.mp hk with h | h
  ·exact q k h
  ·exact q' k h
theorem Ok.fine {α : Type} {a : α} : Ok (Mine.fine a) a := ⟨[], rfl, fun _ h => mem_no h⟩
theorem Ok.lift {α : Type} {x : Option α} {a : α} (h : x = some a) : Ok (Mine.lift x) a := by rw [h]; exact ⟨[], rfl, fun _ h => mem_no h⟩
noncomputable def mapR {α β : Type} (g : α → β) : List α → List β
 | [] => []
 | a :: r => g a :: mapR g r
theorem mapR_at {α β : Type} {f g : α → β} {l : List α} (e : l.map f = mapR g l) (x : α) (h : x ∈ l) : f x = g x := by
 induction l with
 | nil => exact mem_no h
 | cons y l ih =>
  have e := List.cons.inj e
  exact (List.mem_cons.mp h).elim (fun q => q ▸ e.1) (ih e.2)
section
variable {α β : Type} {p : α → Bool} {l : List α}
theorem all_rf {E : α → Res β} {F : α → β} (h1 : (l.filter p).map (fun x => resO (E x)) = mapR (fun x => some (F x)) (l.filter p)) (h2 : ((l.filter p).all fun x => (obsO (E x)).all fun k => Nat.ble k 5000) = true) : ∀ x ∈ l, p x = true → Ok (E x) (F x) := fun x hx hp =>
 have h := List.mem_filter.mpr ⟨hx, hp⟩
 Ok.of (mapR_at h1 x h) (List.all_eq_true.mp h2 x h)
noncomputable def obsL (s : List Nat) : Nat × Nat → Nat
 | (0, 0) => 0
 | (0, 1) => 1
 | (0, _) => 2
 | (1, _) => s.length
 | (_, c) => (s ++ [c]).length
theorem all_sy {E : α → Res β} {F : α → β} {M : α → List (Nat × Nat)} {s : α → List Nat} (h1 : (l.filter p).map E = mapR (fun x => some (F x, (M x).map (obsL (s x)))) (l.filter p)) : ∀ x ∈ l, p x = true → (s x).length ≤ 4000 → Ok (E x) (F x) := fun x hx hp hs =>
 ⟨_, mapR_at h1 x (List.mem_filter.mpr ⟨hx, hp⟩), fun k hk => by
  obtain ⟨⟨i, c⟩, _, rfl⟩ := List.mem_map.mp hk
  match i, c with
  | 0, 0 => exact Nat.zero_le _
  | 0, 1 => exact Nat.le_of_ble_eq_true rfl
  | 0, _ + 2 => exact Nat.le_of_ble_eq_true rfl
  | 1, _ => exact Nat.le_trans hs (Nat.le_of_ble_eq_true rfl)
  | _ + 2, c =>
   show (s x ++ [c]).length ≤ 5000
   rw [List.length_append]
   exact Nat.le_trans (Nat.succ_le_succ hs) (Nat.le_of_ble_eq_true rfl)⟩
noncomputable def retO : Res (Fl × St) → Option AV
 | some ((.ret v, _, _), _) => some v
 | _ => none
theorem all_ret {E : α → Res (Fl × St)} {F : α → AV} (h1 : (l.filter p).map (fun x => retO (E x)) = mapR (fun x => some (F x)) (l.filter p)) (h2 : ((l.filter p).all fun x => (obsO (E x)).all fun k => Nat.ble k 5000) = true) : ∀ x ∈ l, p x = true → ∃ loc' ob', Ok (E x) (.ret (F x), loc', ob') := fun x hx hp => by
 have h := List.mem_filter.mpr ⟨hx, hp⟩
 have e1 := mapR_at h1 x h
 have e2 := List.all_eq_true.mp h2 x h
 revert e1 e2
 match E x with
 | none => exact fun h => nO h
 | some ((.next, _, _), _) => exact fun h => nO h
 | some ((.brk, _, _), _) => exact fun h => nO h
 | some ((.ret v, loc', ob'), l) =>
  intro e1 e2
  cases e1
  exact ⟨loc', ob', l, rfl, fun k hk => Nat.le_of_ble_eq_true (List.all_eq_true.mp e2 k hk)⟩
end
section
variable {T : Tab} {N n : Nat} {loc loc1 loc2 : Loc} {ob ob1 ob2 ob3 : List AObj} {fl : Fl} {v w x y z : AV}
theorem Ok.step {f : PS → Loc → List AObj → Res (Fl × St)} {s : PS} {r : List PS} {q : Fl × St} (h1 : Ok (f s loc ob) (.next, loc1, ob1)) (h2 : Ok (exs f r loc1 ob1) q) : Ok (exs f (s :: r) loc ob) q := Ok.bnd h1 h2
theorem Ok.ret {f : PS → Loc → List AObj → Res (Fl × St)} {s : PS} {r : List PS} (h1 : Ok (f s loc ob) (.ret v, loc1, ob1)) : Ok (exs f (s :: r) loc ob) (.ret v, loc1, ob1) := Ok.bnd h1 Ok.fine
theorem Ok.brk {f : PS → Loc → List AObj → Res (Fl × St)} {s : PS} {r : List PS} (h1 : Ok (f s loc ob) (.brk, loc1, ob1)) : Ok (exs f (s :: r) loc ob) (.brk, loc1, ob1) := Ok.bnd h1 Ok.fine
theorem Ok.nil {f : PS → Loc → List AObj → Res (Fl × St)} : Ok (exs f [] loc ob) (.next, loc, ob) := Ok.fine
theorem Ok.blk {f : PS → Loc → List AObj → Res (Fl × St)} {a b : List PS} {loc : Loc} {ob : List AObj} {q : Fl × St} (h1 : Ok (exs f a loc ob) (.next, loc1, ob1)) (h2 : Ok (exs f b loc1 ob1) q) : Ok (exs f (a ++ b) loc ob) q := by
 induction a generalizing loc ob with
 | nil =>
  obtain ⟨l, e, _⟩ := h1
  cases e
  exact h2
 | cons s a ih =>
  obtain ⟨l, e, hb⟩ := h1
  obtain ⟨⟨f1, l1, o1⟩, k1, k2, e1, e2, rfl⟩ := bnd_some (x := f s loc ob) e
  cases f1 with
  | next => exact Ok.step ⟨k1, e1, fun k hk => hb k (List.mem_append_left _ hk)⟩ (ih ⟨k2, e2, fun k hk => hb k (List.mem_append_right _ hk)⟩)
  | brk => exact nomatch e2
  | ret v => exact nomatch e2
theorem Ok.fn {k nl : Nat} {ar : List Nat} {ps : List PS} {args : List AV} (ha : ar.contains args.length = true) (h : Ok (exs (ex T N 20) ps (startLoc k nl args) ob) (.ret v, loc1, ob1)) : Ok (bFn T N k nl ar ps args ob) (v, ob1) := by
 show Ok (match ar.contains args.length with | true => _ | false => _) _
 rw [ha]
 exact Ok.bnd h Ok.fine
theorem Ok.proc {k nl : Nat} {ar : List Nat} {ps : List PS} {args : List AV} (ha : ar.contains args.length = true) (h : Ok (exs (ex T N 20) ps (startLoc k nl args) ob) (.next, loc1, ob1)) : Ok (bFn T N k nl ar ps args ob) (.none, ob1) := by
 show Ok (match ar.contains args.length with | true => _ | false => _) _
 rw [ha]
 exact Ok.bnd h Ok.fine
theorem Ok.asg {t : PT} {e : PE} (h1 : Ok (ev T 20 e loc ob) (v, ob1)) (h2 : Ok (Mine.asg T 20 t v loc ob1) (loc2, ob2)) : Ok (ex T N (n + 1) (.asg t e) loc ob) (.next, loc2, ob2) := Ok.bnd h1 (Ok.bnd h2 Ok.fine)
theorem Ok.asgL {k : Nat} {e : PE} (h1 : Ok (ev T 20 e loc ob) (v, ob1)) (hk : k < loc.length) : Ok (ex T N (n + 1) (.asg (.loc k) e) loc ob) (.next, loc.set k (some v), ob1) := Ok.asg h1 ⟨[], if_pos hk, fun _ h => mem_no h⟩
theorem Ok.rt {e : PE} (h1 : Ok (ev T 20 e loc ob) (v, ob1)) : Ok (ex T N (n + 1) (.ret e) loc ob) (.ret v, loc, ob1) := Ok.bnd (f := fun (p : AV × List AObj) => Mine.fine (Fl.ret p.1, loc, p.2)) h1 Ok.fine
theorem Ok.expr {e : PE} (h1 : Ok (ev T 20 e loc ob) (v, ob1)) : Ok (ex T N (n + 1) (.expr e) loc ob) (.next, loc, ob1) := Ok.bnd (f := fun (p : AV × List AObj) => Mine.fine (Fl.next, loc, p.2)) h1 Ok.fine
theorem Ok.asrt {e : PE} (h1 : Ok (tv T 20 e loc ob) (true, ob1)) : Ok (ex T N (n + 1) (.asrt e) loc ob) (.next, loc, ob1) := Ok.bnd h1 Ok.fine
theorem Ok.ifT {c : PE} {a b : List PS} {q : Fl × St} (h1 : Ok (tv T 20 c loc ob) (true, ob1)) (h2 : Ok (exs (ex T N n) a loc ob1) q) : Ok (ex T N (n + 1) (.ife c a b) loc ob) q := Ok.bnd h1 h2
theorem Ok.ifF {c : PE} {a b : List PS} {q : Fl × St} (h1 : Ok (tv T 20 c loc ob) (false, ob1)) (h2 : Ok (exs (ex T N n) b loc ob1) q) : Ok (ex T N (n + 1) (.ife c a b) loc ob) q := Ok.bnd h1 h2
theorem Ok.meth {o : PE} {nm : List Nat} {as : List PE} {m : MT} {vs : List AV} {q : AV × List AObj} (h1 : Ok (ev T n o loc ob) (v, ob1)) (h2 : findM T v nm ob1 = some m) (h3 : Ok (evs (ev T n) as loc ob1) (vs, ob2)) (h4 : Ok (callM T m vs ob2) q) : Ok (ev T (n + 1) (.meth o nm as) loc ob) q := Ok.bnd h1 (Ok.bnd (Ok.lift h2) (Ok.bnd h3 h4))
theorem Ok.call {f : PE} {as : List PE} {vs : List AV} {q : AV × List AObj} (h1 : Ok (ev T n f loc ob) (v, ob1)) (h3 : Ok (evs (ev T n) as loc ob1) (vs, ob2)) (h4 : Ok (callF T v vs ob2) q) : Ok (ev T (n + 1) (.call f as) loc ob) q := Ok.bnd h1 (Ok.bnd h3 h4)
theorem Ok.bin {op : Op} {a b : PE} (h1 : Ok (ev T n a loc ob) (x, ob1)) (h2 : Ok (ev T n b loc ob1) (y, ob2)) (h3 : Ok (binS op x y) z) : Ok (ev T (n + 1) (.bin op a b) loc ob) (z, ob2) := Ok.bnd h1 (Ok.bnd h2 (Ok.bnd h3 Ok.fine))
theorem Ok.tcmp {a b : PE} {op : Cop} {t : Bool} (h1 : Ok (ev T n a loc ob) (x, ob1)) (h2 : Ok (ev T n b loc ob1) (y, ob2)) (h3 : cmpS T op x y ob2 = some t) : Ok (tv T (n + 1) (.cmp a [op] [b]) loc ob) (t, ob2) := Ok.bnd h1 (Ok.bnd h2 (Ok.bnd (Ok.lift h3) Ok.fine))
theorem Ok.vcmp {a b : PE} {op : Cop} {t : Bool} (h1 : Ok (ev T n a loc ob) (x, ob1)) (h2 : Ok (ev T n b loc ob1) (y, ob2)) (h3 : cmpS T op x y ob2 = some t) : Ok (ev T (n + 1) (.cmp a [op] [b]) loc ob) (.bool t, ob2) := Ok.bnd h1 (Ok.bnd (Ok.bnd h2 (Ok.bnd (Ok.lift h3) Ok.fine)) Ok.fine)
noncomputable def plainP : PE → Bool
 | .not _ | .bop _ _ | .ite _ _ _ | .cmp _ _ _ => false
 | _ => true
theorem tv_plain {pe : PE} (h : plainP pe = true) : tv T (n + 1) pe loc ob = (bnd (ev T n pe loc ob) fun (x, ob) => bnd (truth x ob) fun b => fine (b, ob)) := by
 cases pe <;> first | rfl | exact nt h
theorem Ok.ttru {e : PE} {t : Bool} (hp : plainP e = true) (h1 : Ok (ev T n e loc ob) (v, ob1)) (h2 : Ok (truth v ob1) t) : Ok (tv T (n + 1) e loc ob) (t, ob1) := by
 rw [tv_plain hp]
 exact Ok.bnd h1 (Ok.bnd h2 Ok.fine)
theorem Ok.tnot {e : PE} {t : Bool} (h1 : Ok (tv T n e loc ob) (t, ob1)) : Ok (tv T (n + 1) (.not e) loc ob) (!t, ob1) := Ok.bnd (f := fun (p : Bool × List AObj) => Mine.fine (!p.1, p.2)) h1 Ok.fine
theorem Ok.sub {o i : PE} (h1 : Ok (ev T n o loc ob) (x, ob1)) (h2 : Ok (ev T n i loc ob1) (y, ob2)) (h3 : subS T x y ob2 = some z) : Ok (ev T (n + 1) (.sub o i) loc ob) (z, ob2) := Ok.bnd h1 (Ok.bnd h2 (Ok.bnd (Ok.lift h3) Ok.fine))
theorem Ok.slc {o : PE} {lo hi : Option PE} {l u : Option Int} {q : AV × List AObj} (h1 : Ok (ev T n o loc ob) (x, ob1)) (h2 : Ok (evo (ev T n) lo loc ob1) (y, ob2)) (h3 : Ok (evo (ev T n) hi loc ob2) (z, ob3)) (hl : intOf y = some l) (hu : intOf z = some u) (h4 : Ok (slcS x l u ob3) q) : Ok (ev T (n + 1) (.slc o lo hi) loc ob) q := by
 refine Ok.bnd h1 (Ok.bnd h2 (Ok.bnd h3 ?_))
 show Ok (slcI x y z ob3) q
 unfold slcI
 rw [hl]
 rw [hu]
 exact h4
theorem Ok.repl {o : PE} {a b s : List Nat} (h1 : Ok (ev T n o loc ob) (.str s, ob1)) (hab : a ≠ b) (hl : s.length + (s.length + 1) * b.length ≤ 5000) : Ok (ev T (n + 1) (.repl o a b) loc ob) (.str (replS s a b), ob1) := by
 refine Ok.bnd h1 ?_
 show Ok (if a ≠ b then _ else _) _
 rw [if_pos hab]
 exact ⟨_, rfl, fun k hk => by rw [List.mem_singleton.mp hk]; exact hl⟩
theorem Ok.iteT {c a b : PE} {q : AV × List AObj} (h1 : Ok (tv T n c loc ob) (true, ob1)) (h2 : Ok (ev T n a loc ob1) q) : Ok (ev T (n + 1) (.ite c a b) loc ob) q := Ok.bnd h1 h2
theorem Ok.iteF {c a b : PE} {q : AV × List AObj} (h1 : Ok (tv T n c loc ob) (false, ob1)) (h2 : Ok (ev T n b loc ob1) q) : Ok (ev T (n + 1) (.ite c a b) loc ob) q := Ok.bnd h1 h2
theorem Ok.evs1 {f : PE → Loc → List AObj → Res (AV × List AObj)} {e : PE} (h : Ok (f e loc ob) (v, ob1)) : Ok (evs f [e] loc ob) ([v], ob1) := Ok.bnd h (Ok.bnd Ok.fine Ok.fine)
theorem Ok.evsC {f : PE → Loc → List AObj → Res (AV × List AObj)} {e : PE} {r : List PE} {vs : List AV} (h : Ok (f e loc ob) (v, ob1)) (h2 : Ok (evs f r loc ob1) (vs, ob2)) : Ok (evs f (e :: r) loc ob) (v :: vs, ob2) := Ok.bnd h (Ok.bnd h2 Ok.fine)
theorem Ok.evs0 {f : PE → Loc → List AObj → Res (AV × List AObj)} : Ok (evs f [] loc ob) ([], ob) := Ok.fine
theorem Ok.tup {xs : List PE} {vs : List AV} (h : Ok (evs (ev T n) xs loc ob) (vs, ob1)) (hl : vs.length ≤ 5000) : Ok (ev T (n + 1) (.tup xs) loc ob) (.tup vs, ob1) := Ok.bnd (f := fun (p : List AV × List AObj) => some ((AV.tup p.1, p.2), [p.1.length])) h ⟨_, rfl, fun k hk => by rw [List.mem_singleton.mp hk]; exact hl⟩
theorem Ok.lst {xs : List PE} {vs : List AV} (h : Ok (evs (ev T n) xs loc ob) (vs, ob1)) (hl : vs.length ≤ 5000) : Ok (ev T (n + 1) (.list xs) loc ob) (.ref ob1.length, ob1 ++ [.list vs]) := Ok.bnd (f := fun (p : List AV × List AObj) => some ((AV.ref p.2.length, p.2 ++ [AObj.list p.1]), [p.1.length])) h ⟨_, rfl, fun k hk => by rw [List.mem_singleton.mp hk]; exact hl⟩
theorem Ok.len {s : List Nat} (hl : s.length ≤ 5000) : Ok (callF T (.val (.builtin "len")) [.str s] ob) (.int s.length, ob) := ⟨[s.length], rfl, fun k hk => by rw [List.mem_singleton.mp hk]; exact hl⟩
theorem Ok.addS {a b : List Nat} (hl : (a ++ b).length ≤ 5000) : Ok (binS .add (.str a) (.str b)) (.str (a ++ b)) := ⟨_, rfl, fun k hk => by rw [List.mem_singleton.mp hk]; exact hl⟩
theorem Ok.trS {s : List Nat} (hl : s.length ≤ 5000) : Ok (truth (.str s) ob) (!s.isEmpty) := ⟨_, rfl, fun k hk => by rw [List.mem_singleton.mp hk]; exact hl⟩
theorem Ok.for' {rs : Option (List Rt)} {t : PT} {e : PE} {a : List PS} {q : Fl × St} (h1 : Ok (ev T 20 e loc ob) (v, ob1)) (htg : okTg t v = true) (h2 : Ok (forG (Mine.asg T 20 t) (bodyV rs (exs (ex T N n) a)) v N 0 loc ob1) q) : Ok (ex T N (n + 1) (.for rs t e a) loc ob) q := by
 refine Ok.bnd h1 ?_
 show Ok (match okTg t v with | true => _ | false => _) q
 rw [htg]
 exact h2
theorem Ok.whl {rs : Option (List Rt)} {c : PE} {a : List PS} {q : Fl × St} (h : Ok (whlL (tv T 20 c) (bodyV rs (exs (ex T N n) a)) N loc ob) q) : Ok (ex T N (n + 1) (.whl rs c a) loc ob) q := h
theorem Ok.whlT {t : Loc → List AObj → Res (Bool × List AObj)} {f : BodyF} {q : Fl × St} (h1 : Ok (t loc ob) (true, ob1)) (h2 : Ok (f loc ob1) (.next, loc2, ob2)) (h3 : Ok (whlL t f n loc2 ob2) q) : Ok (whlL t f (n + 1) loc ob) q := Ok.bnd h1 (Ok.bnd h2 h3)
theorem Ok.whlF {t : Loc → List AObj → Res (Bool × List AObj)} {f : BodyF} (h1 : Ok (t loc ob) (false, ob1)) : Ok (whlL t f (n + 1) loc ob) (.next, loc, ob1) := Ok.bnd h1 Ok.fine
end
noncomputable abbrev inn (ch : List Nat) (sz off pl pc : Int) (bf : AV) (tx : List Nat) (plc : Int) : List AObj :=
 [.inst 166 [(nReport, .meth 148 0), (nNewLines, .ref 1), (nDataStream, .ref 2), (nChunk, .str ch), (nChunkSize, .int sz), (nChunkOffset, .int off), (nErrors, .ref 3), (nPrevLines, .int pl), (nPrevCols, .int pc), (nBuffered, bf)],
  .list [.int 0], .inst 73 [(nText, .str tx), (nPlace, .int plc)], .list []]
section
variable {ch tx : List Nat} {sz off pl pc plc : Int} {bf : AV}
noncomputable def lastCol (ch : List Nat) (pc : Int) (k : Nat) : Int := match lastF 10 none 0 (ch.take k) with
 | none => pc + k
 | some i => (k : Int) - ((i : Int) + 1)
theorem ok_count {T : Tab} {ob : List AObj} {k : Nat} (hk : k ≤ ch.length) (hc : ch.length ≤ 5000) : Ok (callM T (.count ch) [.str [10], .int 0, .int k] ob) (.int ((ch.take k).count 10 : Nat), ob) := by
 have h : (0 : Int) ≤ (k : Int) ∧ (k : Int) ≤ (ch.length : Int) ∧ (k : Int) < 2 ^ 62 := ⟨by exact Int.natCast_nonneg k, by exact Int.ofNat_le.mpr hk, by lia⟩
 refine ⟨[], ?_, fun _ h => mem_no h⟩
 rw [← count_is hk]
 exact if_pos h
theorem ok_rfind {T : Tab} {ob : List AObj} {k : Nat} (hk : k ≤ ch.length) (hc : ch.length ≤ 5000) : Ok (callM T (.rfind ch) [.str [10], .int 0, .int k] ob) (.int (match lastF 10 none 0 (ch.take k) with | some i => (i : Int) | none => -1), ob) := by
 have h : (0 : Int) ≤ (k : Int) ∧ (k : Int) ≤ (ch.length : Int) ∧ (k : Int) < 2 ^ 62 := ⟨by exact Int.natCast_nonneg k, by exact Int.ofNat_le.mpr hk, by lia⟩
 refine ⟨[], ?_, fun _ h => mem_no h⟩
 rw [← last_is hk]
 exact if_pos h
theorem pos_fn {k : Nat} (hk : k ≤ ch.length) (hc : ch.length ≤ 5000) : Ok (f_Up [.ref 0, .int k] (inn ch sz off pl pc bf tx plc)) (.tup [.int (pl + ((ch.take k).count 10 : Nat)), .int (lastCol ch pc k)], inn ch sz off pl pc bf tx plc) := by
 refine Ok.fn (loc1 := [some (.ref 0), some (.int k), some (.str ch), some (.int ((ch.take k).count 10 : Nat)), some (.int (pl + ((ch.take k).count 10 : Nat))), some (.int (match lastF 10 none 0 (ch.take k) with | some i => (i : Int) | none => -1)), some (.int (lastCol ch pc k))]) rfl ?_
 refine Ok.step (loc1 := [some (.ref 0), some (.int k), some (.str ch), none, none, none, none]) (ob1 := inn ch sz off pl pc bf tx plc) (Ok.k) ?_
 refine Ok.step (loc1 := [some (.ref 0), some (.int k), some (.str ch), some (.int ((ch.take k).count 10 : Nat)), none, none, none]) (ob1 := inn ch sz off pl pc bf tx plc) (Ok.asgL (Ok.meth (v := .str ch) (ob1 := inn ch sz off pl pc bf tx plc) (m := .count ch) (vs := [.str [10], .int 0, .int k]) (ob2 := inn ch sz off pl pc bf tx plc) (Ok.k) (by kernel_rfl) (Ok.k) (ok_count hk hc)) (Nat.le_of_ble_eq_true rfl)) ?_
 refine Ok.step (loc1 := [some (.ref 0), some (.int k), some (.str ch), some (.int ((ch.take k).count 10 : Nat)), some (.int (pl + ((ch.take k).count 10 : Nat))), none, none]) (ob1 := inn ch sz off pl pc bf tx plc) (Ok.k) ?_
 refine Ok.step (loc1 := [some (.ref 0), some (.int k), some (.str ch), some (.int ((ch.take k).count 10 : Nat)), some (.int (pl + ((ch.take k).count 10 : Nat))), some (.int (match lastF 10 none 0 (ch.take k) with | some i => (i : Int) | none => -1)), none]) (ob1 := inn ch sz off pl pc bf tx plc) (Ok.asgL (Ok.meth (v := .str ch) (ob1 := inn ch sz off pl pc bf tx plc) (m := .rfind ch) (vs := [.str [10], .int 0, .int k]) (ob2 := inn ch sz off pl pc bf tx plc) (Ok.k) (by kernel_rfl) (Ok.k) (ok_rfind hk hc)) (Nat.le_of_ble_eq_true rfl)) ?_
 unfold lastCol
 cases lastF 10 none 0 (ch.take k) with
 | none => exact Ok.k
 | some i => exact Ok.k
theorem posR_run {p0 : List Nat} (q : List Nat) (h : ∀ c ∈ q, c < 1114112) : posR (q ++ p0) = ((posR p0).1 + (q.reverse.count 10 : Nat), match lastF 10 none 0 q.reverse with | none => (posR p0).2 + (q.length : Nat) | some i => ((q.length : Nat) : Int) - ((i : Int) + 1)) := by
 induction q with
 | nil => simp [lastF]
 | cons d q ih =>
  have hd := h d (List.mem_cons_self ..)
  replace ih := ih fun c hc => h c (List.mem_cons_of_mem _ hc)
  rw [List.reverse_cons, List.count_append, lastF_snoc]
  by_cases hd10 : d = 10
  ·have e : posR (d :: q ++ p0) = ((posR (q ++ p0)).1 + 1, 0) := if_pos hd10
   rw [e, ih, hd10, if_pos rfl]
   simp
   exact Int.add_assoc (posR p0).fst (↑(List.count 10 q)) 1
  ·have e : posR (d :: q ++ p0) = ((posR (q ++ p0)).1, (posR (q ++ p0)).2 + 1) := (if_neg hd10).trans (if_neg (Nat.not_le.mpr hd))
   rw [e, if_neg (fun q => hd10 q.symm), ih, List.count_eq_zero.mpr fun z => hd10 (List.mem_singleton.mp z).symm]
   cases lastF 10 none 0 q.reverse with
   | none => simp; exact Int.add_assoc (posR p0).snd (↑q.length) 1
   | some i => simp; lia
theorem pos_is {p0 : List Nat} {k : Nat} (hk : k ≤ ch.length) (hc : ∀ c ∈ ch.take k, c < 1114112) (hp : posR p0 = (pl, pc)) : posR ((ch.take k).reverse ++ p0) = (pl + ((ch.take k).count 10 : Nat), lastCol ch pc k) := by
 rw [posR_run _ (fun c h => hc c (List.mem_reverse.mp h)), hp, List.reverse_reverse]
 unfold lastCol
 have : (ch.take k).reverse.length = k := by rw [List.length_reverse, List.length_take]; exact Nat.min_eq_left hk
 rw [this]
theorem posR_clean (p : List Nat) : posR p = posR (clean p) := by
 induction p with
 | nil => rfl
 | cons c p ih =>
  by_cases h : c < 1114112
  ·have e : clean (c :: p) = c :: clean p := List.filter_cons_of_pos (decide_eq_true h)
   rw [e]
   show (if c = 10 then _ else _) = if c = 10 then _ else _
   rw [ih]
  ·have e : clean (c :: p) = clean p := List.filter_cons_of_neg (by rw [decide_eq_false h]; exact Bool.false_ne_true)
   rw [e, ← ih]
   exact (if_neg fun q : c = 10 => h (by rw [q]; decide)).trans (if_pos (Nat.not_lt.mp h))
end
theorem alpha_cases {P : Nat → Prop} (h32 : P 32) (h34 : P 34) (h62 : P 62) (h112 : P 112) (h117 : P 117) (h98 : P 98) (h108 : P 108) (h105 : P 105) (h99 : P 99) (h39 : P 39) (h120 : P 120) (h83 : P 83) (h89 : P 89) (h84 : P 84) (h69 : P 69) (h77 : P 77) (h0 : P 0) (h80 : P 80) (h10 : P 10) (h115 : P 115) (h201 : P 201) (h13 : P 13) (h9 : P 9) (h12 : P 12) : ∀ c ∈ alpha, P c :=
 List.forall_mem_cons.mpr ⟨h32, List.forall_mem_cons.mpr ⟨h34, List.forall_mem_cons.mpr ⟨h62, List.forall_mem_cons.mpr ⟨h112, List.forall_mem_cons.mpr ⟨h117, List.forall_mem_cons.mpr ⟨h98, List.forall_mem_cons.mpr ⟨h108, List.forall_mem_cons.mpr ⟨h105, List.forall_mem_cons.mpr ⟨h99, List.forall_mem_cons.mpr ⟨h39, List.forall_mem_cons.mpr ⟨h120, List.forall_mem_cons.mpr ⟨h83, List.forall_mem_cons.mpr ⟨h89, List.forall_mem_cons.mpr ⟨h84, List.forall_mem_cons.mpr ⟨h69, List.forall_mem_cons.mpr ⟨h77, List.forall_mem_cons.mpr ⟨h0, List.forall_mem_cons.mpr ⟨h80, List.forall_mem_cons.mpr ⟨h10, List.forall_mem_cons.mpr ⟨h115, List.forall_mem_cons.mpr ⟨h201, List.forall_mem_cons.mpr ⟨h13, List.forall_mem_cons.mpr ⟨h9, List.forall_mem_cons.mpr ⟨h12, fun _ h => mem_no h⟩⟩⟩⟩⟩⟩⟩⟩⟩⟩⟩⟩⟩⟩⟩⟩⟩⟩⟩⟩⟩⟩⟩⟩
theorem Ok.cv {α : Type} {r r' : Res α} {a : α} (h : r = r') (x : Ok r' a) : Ok r a := by rw [h]; exact x
theorem Ok.forItem {a : AV → Loc → List AObj → Res (Loc × List AObj)} {f : BodyF} {v x : AV} {n k : Nat} {loc loc1 loc2 : Loc} {ob ob1 ob2 : List AObj} {q : Fl × St} (h0 : itemAt v k ob = some (some x)) (h1 : Ok (a x loc ob) (loc1, ob1)) (h2 : Ok (f loc1 ob1) (.next, loc2, ob2)) (h3 : Ok (forG a f v n (k + 1) loc2 ob2) q) : Ok (forG a f v (n + 1) k loc ob) q := by
 unfold forG
 rw [h0]
 exact Ok.bnd h1 (Ok.bnd h2 h3)
theorem Ok.forEnd {a : AV → Loc → List AObj → Res (Loc × List AObj)} {f : BodyF} {v : AV} {n k : Nat} {loc : Loc} {ob : List AObj} (h0 : itemAt v k ob = some none) : Ok (forG a f v (n + 1) k loc ob) (.next, loc, ob) := by
 unfold forG
 rw [h0]
 exact Ok.fine
theorem itemS {s : List Nat} {k : Nat} {ob : List AObj} {c : Nat} (h : s[k]? = some c) : itemAt (.str s) k ob = some (some (.str [c])) := by
 unfold itemAt; dsimp only; rw [h]
theorem itemS0 {s : List Nat} {k : Nat} {ob : List AObj} (h : s[k]? = none) : itemAt (.str s) k ob = some none := by
 unfold itemAt; dsimp only; rw [h]
theorem norm_app (a b : List Nat) (h : a.getLast? ≠ some 13 ∨ b.head? ≠ some 10) : norm (a ++ b) = norm a ++ norm b := by
 induction a using two_rec with
 | h0 => rfl
 | h1 c =>
  by_cases hc : c = 13
  ·cases hc
   have hb : b.head? ≠ some 10 := h.resolve_left fun q => q rfl
   cases b with
   | nil => rfl
   | cons d r => exact norm_13 fun q => hb (congrArg some q)
  ·exact (norm_o hc).trans (congrArg (· ++ norm b) (norm_o (r := []) hc).symm)
 | h2 c d r ih1 ih2 =>
  rw [List.getLast?_cons_cons] at h
  replace ih2 := ih2 h
  by_cases hc : c = 13
  ·cases hc
   by_cases hd : d = 10
   ·cases hd
    refine congrArg (10 :: ·) (ih1 ?_)
    cases r with
    | nil => exact .inl (fun q => nO q)
    | cons e r => rw [List.getLast?_cons_cons] at h; exact h
   ·exact (norm_13 hd).trans ((congrArg (10 :: ·) ih2).trans (congrArg (· ++ norm b) (norm_13 hd).symm))
  ·exact (norm_o hc).trans ((congrArg (c :: ·) ih2).trans (congrArg (· ++ norm b) (norm_o hc).symm))
theorem norm_ne {a : List Nat} (h : a ≠ []) : norm a ≠ [] := by
 intro q
 cases a with
 | nil => exact h rfl
 | cons c r =>
  by_cases hc : c = 13
  ·cases hc
   cases r with
   | nil => exact cons_no q
   | cons d r =>
    by_cases hd : d = 10
    ·cases hd; exact cons_no q
    ·rw [norm_13 hd] at q; exact cons_no q
  ·rw [norm_o hc] at q; exact cons_no q
theorem norm_len (a : List Nat) : (norm a).length ≤ a.length := by
 induction a using two_rec with
 | h0 => exact Nat.le_refl _
 | h1 c => exact Nat.le_refl _
 | h2 c d r ih1 ih2 =>
  by_cases hc : c = 13
  ·cases hc
   by_cases hd : d = 10
   ·cases hd; exact Nat.succ_le_succ (Nat.le_succ_of_le ih1)
   ·rw [norm_13 hd]; exact Nat.succ_le_succ ih2
  ·rw [norm_o hc]; exact Nat.succ_le_succ ih2
theorem norm_mem {c : Nat} {a : List Nat} (h : c ∈ norm a) : c ∈ a ∨ c = 10 := by
 induction a using two_rec with
 | h0 => exact mem_no h
 | h1 d =>
  by_cases hc : d = 13
  ·cases hc; exact .inr (List.mem_singleton.mp h)
  ·rw [norm_o hc] at h; exact .inl h
 | h2 d e r ih1 ih2 =>
  by_cases hc : d = 13
  ·cases hc
   by_cases hd : e = 10
   ·cases hd
    exact (List.mem_cons.mp h).elim .inr fun q => (ih1 q).imp_left fun q => List.mem_cons_of_mem _ (List.mem_cons_of_mem _ q)
   ·rw [norm_13 hd] at h
    exact (List.mem_cons.mp h).elim .inr fun q => (ih2 q).imp_left (List.mem_cons_of_mem _)
  ·rw [norm_o hc] at h
   exact (List.mem_cons.mp h).elim (fun q => .inl (q ▸ List.mem_cons_self ..)) fun q => (ih2 q).imp_left (List.mem_cons_of_mem _)
section
variable {ch tx data : List Nat} {sz off pl pc plc : Int} {bf : AV} {ob : List AObj}
theorem errs_turn : ∀ c ∈ alpha, Ok (exs (ex TI1 NN 19) [(.ife (.call (.glob 22) [(.call (.glob 21) [(.loc 2)])]) [(.expr (.meth (.attr (.loc 0) w57) w6 [(.str w10)]))] [])] [some (.ref 0), some (.str data), some (.str [c]), none, none] ob) (.next, [some (.ref 0), some (.str data), some (.str [c]), none, none], ob) := by
 apply alpha_cases <;> exact Ok.k
theorem step_lt {L k n : Nat} (h : k < L) (h2 : L - k < n + 1) : L - (k + 1) < n := Nat.lt_of_lt_of_le (Nat.pred_lt (Nat.sub_ne_zero_of_lt h)) (Nat.le_of_lt_succ h2)
theorem errs_loop (hd : ∀ c ∈ data, c ∈ alpha) (n k : Nat) (x : Option AV) (h1 : data.length - k < n) : ∃ y, Ok (forG (asg TI1 20 (.loc 2)) (exs (ex TI1 NN 19) [(.ife (.call (.glob 22) [(.call (.glob 21) [(.loc 2)])]) [(.expr (.meth (.attr (.loc 0) w57) w6 [(.str w10)]))] [])]) (.str data) n k [some (.ref 0), some (.str data), x, none, none] ob) (.next, [some (.ref 0), some (.str data), y, none, none], ob) := by
 induction n generalizing k x with
 | zero => exact absurd h1 (Nat.not_lt_zero _)
 | succ n ih =>
  cases h : data[k]? with
  | none => exact ⟨x, Ok.forEnd (itemS0 h)⟩
  | some c =>
   obtain ⟨y, hy⟩ := ih (k + 1) (some (.str [c])) (step_lt (List.getElem?_eq_some_iff.mp h).1 h1)
   exact ⟨y, Ok.forItem (itemS h) (Ok.k) (errs_turn c (hd c (List.mem_of_getElem? h))) hy⟩
theorem errs_fn (hd : ∀ c ∈ data, c ∈ alpha) (hl : data.length ≤ 3000) : Ok (f_Ul [.ref 0, .str data] ob) (.none, ob) := by
 obtain ⟨y, hy⟩ := errs_loop (ob := ob) hd NN 0 none (by unfold NN; omega)
 refine Ok.proc (loc1 := [some (.ref 0), some (.str data), y, none, none]) rfl ?_
 exact Ok.step (Ok.for' (v := .str data) (ob1 := ob) (Ok.k) rfl hy) Ok.nil
end
theorem slice_nat {α : Type} (l : List α) (i j : Nat) : sliceL l (some (i : Int)) (some (j : Int)) = (l.take j).drop i := by
 unfold sliceL loA hiA clampI
 dsimp only
 rw [if_neg (by exact Int.not_ofNat_neg i), if_neg (by exact Int.not_ofNat_neg j)]
 have e1 : ((i : Int)).toNat = i := rfl
 have e2 : ((j : Int)).toNat = j := rfl
 rw [e1, e2]
 rcases Nat.le_total j l.length with h | h
 ·rw [Nat.min_eq_left h]
  rcases Nat.le_total i l.length with h' | h'
  ·rw [Nat.min_eq_left h']
  ·rw [Nat.min_eq_right h', List.drop_eq_nil_of_le (by rw [List.length_take]; exact Nat.min_le_right j l.length), List.drop_eq_nil_of_le (by rw [List.length_take]; lia)]
 ·rw [Nat.min_eq_right h, List.take_of_length_le (Nat.le_refl _), List.take_of_length_le h]
  rcases Nat.le_total i l.length with h' | h'
  ·rw [Nat.min_eq_left h']
  ·rw [Nat.min_eq_right h', List.drop_eq_nil_of_le (Nat.le_refl _), List.drop_eq_nil_of_le h']
theorem small_nat {i : Nat} (h : i ≤ 100000) : smallI (some (i : Int)) = true := by
 unfold smallI
 exact decide_eq_true ⟨by exact Rat.intCast_lt_intCast.mp rfl, by lia⟩
theorem slc_str {s : List Nat} {lo hi : Option Int} {ob : List AObj} (h : (smallI lo && smallI hi) = true) : slcS (.str s) lo hi ob = some ((.str (sliceL s lo hi), ob), [s.length]) := by
 unfold slcS
 rw [h]
theorem small_two {i j : Nat} (hi : i ≤ 100000) (hj : j ≤ 100000) : (smallI (some (i : Int)) && smallI (some (j : Int))) = true := Bool.and_eq_true_iff.mpr ⟨small_nat hi, small_nat hj⟩
theorem Ok.slS {s : List Nat} {i j : Nat} {ob : List AObj} (hi : i ≤ 100000) (hj : j ≤ 100000) (hl : s.length ≤ 5000) : Ok (slcS (.str s) (some (i : Int)) (some (j : Int)) ob) (.str ((s.take j).drop i), ob) := by
 have h := slc_str (s := s) (ob := ob) (small_two hi hj)
 rw [slice_nat] at h
 exact ⟨_, h, fun k hk => by rw [List.mem_singleton.mp hk]; exact hl⟩
section
variable {ch tx F : List Nat} {sz off pl pc plc K : Int} {bf : AV} {ob : List AObj} {y : Option AV}
theorem textread_fn {P k : Nat} (hP : P ≤ 2000) (hk : k ≤ 20000) (hl : tx.length ≤ 2000) : Ok (f_Text_read [.ref 2, .int k] (inn ch sz off pl pc bf tx P)) (.str ((tx.drop P).take k), inn ch sz off pl pc bf tx ((P : Int) + ((tx.drop P).take k).length)) := by
 have e : (tx.drop P).take k = (tx.take (P + k)).drop P := by rw [List.drop_take]; congr 1; exact Nat.eq_sub_of_add_eq' rfl
 have hs : Ok (slcS (.str tx) (some (P : Int)) (some ((P + k : Nat) : Int)) (inn ch sz off pl pc bf tx P)) (.str ((tx.drop P).take k), inn ch sz off pl pc bf tx P) := by rw [e]; exact Ok.slS (by lia) (by lia) (by lia)
 have h1 : Ok (ev TI0 19 (.attr (.loc 0) w46) [some (.ref 2), some (.int k), none, none] (inn ch sz off pl pc bf tx P)) (.str tx, inn ch sz off pl pc bf tx P) := Ok.k
 have h2 : Ok (evo (ev TI0 19) (some (.attr (.loc 0) w47)) [some (.ref 2), some (.int k), none, none] (inn ch sz off pl pc bf tx P)) (.int P, inn ch sz off pl pc bf tx P) := Ok.k
 have h3 : Ok (evo (ev TI0 19) (some (.bin .add (.attr (.loc 0) w47) (.loc 1))) [some (.ref 2), some (.int k), none, none] (inn ch sz off pl pc bf tx P)) (.int ((P : Int) + (k : Int)), inn ch sz off pl pc bf tx P) := Ok.k
 have hk' : ((P : Int) + (k : Int)) = ((P + k : Nat) : Int) := (Int.natCast_add P k).symm
 rw [hk'] at h3
 refine Ok.fn (loc1 := [some (.ref 2), some (.int k), some (.str ((tx.drop P).take k)), none]) rfl ?_
 refine Ok.step (loc1 := [some (.ref 2), some (.int k), some (.str ((tx.drop P).take k)), none]) (ob1 := inn ch sz off pl pc bf tx P) (Ok.asgL (Ok.slc h1 h2 h3 rfl rfl hs) (Nat.le_of_ble_eq_true rfl)) ?_
 refine Ok.step (loc1 := [some (.ref 2), some (.int k), some (.str ((tx.drop P).take k)), none]) (ob1 := inn ch sz off pl pc bf tx ((P : Int) + ((tx.drop P).take k).length)) ?_ ?_
 ·refine Ok.mk' (l := [((tx.drop P).take k).length]) (by kernel_rfl) ?_
  intro z hz
  rw [List.mem_singleton.mp hz, List.length_take, List.length_drop]; lia
 ·exact Ok.k
theorem tail_fn (hd : ∀ c ∈ F, c ∈ alpha) (hl : F.length ≤ 2000) : Ok (exs (ex TI2 NN 20) (b_Uq.drop 8) [some (.ref 0), some (.int K), some (.str F), y, none, none] (inn [] 0 0 pl pc bf tx plc)) (.ret (.bool true), [some (.ref 0), some (.int K), some (.str (norm F)), y, none, none], inn (norm F) (norm F).length 0 pl pc bf tx plc) := by
 have hn := norm_len F
 refine Ok.step (loc1 := [some (.ref 0), some (.int K), some (.str F), y, none, none]) (ob1 := inn [] 0 0 pl pc bf tx plc) ?_ ?_
 ·refine Ok.ifT (ob1 := inn [] 0 0 pl pc bf tx plc) (Ok.k) ?_
  refine Ok.step (loc1 := [some (.ref 0), some (.int K), some (.str F), y, none, none]) (ob1 := inn [] 0 0 pl pc bf tx plc) ?_ Ok.nil
  refine Ok.expr (v := .none) (Ok.meth (v := .ref 0) (ob1 := inn [] 0 0 pl pc bf tx plc) (m := .bm 148 0) (vs := [.str F]) (ob2 := inn [] 0 0 pl pc bf tx plc) (Ok.k) (by kernel_rfl) (Ok.k) (Ok.cv (r' := f_Ul [.ref 0, .str F] (inn [] 0 0 pl pc bf tx plc)) (by kernel_rfl) (errs_fn hd (by lia))))
 refine Ok.step (loc1 := [some (.ref 0), some (.int K), some (.str (replS F [13, 10] [10])), y, none, none]) (ob1 := inn [] 0 0 pl pc bf tx plc) (Ok.asgL (Ok.repl (Ok.k) (by decide) (by simp only [List.length_cons, List.length_nil]; lia)) (Nat.le_of_ble_eq_true rfl)) ?_
 have h2 : (replS F [13, 10] [10]).length ≤ F.length := by
  have : ∀ (l : List Nat), (rep2 13 10 [10] l).length ≤ l.length := by
   intro l
   induction l using rep2.induct (a := 13) (b := 10) with
   | case1 => exact Nat.le_refl _
   | case2 => exact Nat.le_refl _
   | case3 c d r h ih => rw [rep2, if_pos h]; simp only [List.length_append, List.length_cons, List.length_nil]; lia
   | case4 c d r h ih => rw [rep2, if_neg h]; simp only [List.length_cons] at ih ⊢; exact Nat.add_le_add_right ih 1
  rw [repl_two]; exact this F
 refine Ok.step (loc1 := [some (.ref 0), some (.int K), some (.str (norm F)), y, none, none]) (ob1 := inn [] 0 0 pl pc bf tx plc) (by
  have := Ok.asgL (T := TI2) (N := NN) (n := 19) (k := 2) (loc := [some (.ref 0), some (.int K), some (.str (replS F [13, 10] [10])), y, none, none]) (ob := inn [] 0 0 pl pc bf tx plc) (Ok.repl (n := 19) (o := .loc 2) (a := [13]) (b := [10]) (s := replS F [13, 10] [10]) (ob1 := inn [] 0 0 pl pc bf tx plc) (Ok.k) (by decide) (by simp only [List.length_cons, List.length_nil]; lia)) (Nat.le_of_ble_eq_true rfl)
  rw [repl_norm] at this
  exact this) ?_
 refine Ok.step (loc1 := [some (.ref 0), some (.int K), some (.str (norm F)), y, none, none]) (ob1 := inn (norm F) 0 0 pl pc bf tx plc) (Ok.k) ?_
 refine Ok.step (loc1 := [some (.ref 0), some (.int K), some (.str (norm F)), y, none, none]) (ob1 := inn (norm F) (norm F).length 0 pl pc bf tx plc) (Ok.mk' (l := [(norm F).length]) (by kernel_rfl) fun z hz => by rw [List.mem_singleton.mp hz]; lia) ?_
 exact Ok.k
end
theorem nthK_at {β : Type} {k : Int} {l : List β} {q : β → Option AV} {j : Nat} {a : β} (hk : k < 2 ^ 62 ∧ -(2 ^ 62) < k) (hp : place k l.length = some j) (ha : l[j]? = some a) : nthK k l q = q a := by
 unfold nthK
 rw [if_pos hk, hp]
 unfold onSome
 dsimp only
 rw [ha]
theorem subS_str {T : Tab} {s : List Nat} {k : Int} {ob : List AObj} : subS T (.str s) (.int k) ob = nthK k s (fun c => some (.str [c])) := rfl
theorem sub_nat {T : Tab} {s : List Nat} {j c : Nat} {ob : List AObj} (h : s[j]? = some c) (hl : s.length ≤ 100000) : subS T (.str s) (.int (j : Int)) ob = some (.str [c]) := by
 have hj := (List.getElem?_eq_some_iff.mp h).1
 have hp : place (j : Int) s.length = some j := by
  unfold place
  rw [if_pos (by exact Int.natCast_nonneg j), if_pos (by exact Int.ofNat_lt.mpr hj)]; rfl
 exact subS_str.trans (nthK_at ⟨by lia, by exact Rat.intCast_lt_intCast.mp rfl⟩ hp h)
theorem sub_last {T : Tab} {s : List Nat} {c : Nat} {ob : List AObj} (hl : s.length ≤ 100000) : subS T (.str (s ++ [c])) (.int (-1)) ob = some (.str [c]) := by
 have hp : place (-1) (s ++ [c]).length = some s.length := by
  unfold place
  have h1 : (s ++ [c]).length = s.length + 1 := by simp
  rw [if_neg (by exact Std.LawfulOrderOrd.isLE_compare_eq_false.mp rfl), if_pos (by lia)]
  congr 1
  lia
 exact subS_str.trans (nthK_at ⟨by exact Rat.intCast_lt_intCast.mp rfl, by exact Rat.intCast_lt_intCast.mp rfl⟩ hp (by rw [List.getElem?_append_right (Nat.le_refl _), Nat.sub_self]; rfl))
theorem sub_ref {T : Tab} {ob : List AObj} {i j : Nat} {xs : List AV} {z : AV} (h1 : ob[i]? = some (.list xs)) (h2 : xs[j]? = some z) (hj : j ≤ 100000) : subS T (.ref i) (.int (j : Int)) ob = some z := by
 show onList ob i (fun xs => if (0 : Int) ≤ j ∧ (j : Int) < 2 ^ 62 then xs[(j : Int).toNat]? else none) = _
 unfold onList
 rw [h1]
 exact (if_pos ⟨by exact Int.natCast_nonneg j, by lia⟩).trans h2
theorem slice_init {s : List Nat} {c : Nat} {ob : List AObj} (hl : (s ++ [c]).length ≤ 5000) : Ok (slcS (.str (s ++ [c])) none (some (-1)) ob) (.str s, ob) := by
 have e : sliceL (s ++ [c]) none (some (-1)) = s := by
  unfold sliceL loA hiA clampI
  dsimp only
  rw [if_pos (by exact Int.sign_eq_neg_one_iff_neg.mp rfl)]
  have : ((-1 : Int) + ((s ++ [c]).length : Nat)).toNat = s.length := by
   have h1 : (s ++ [c]).length = s.length + 1 := by simp
   lia
  rw [this]
  simp
 have h : slcS (.str (s ++ [c])) none (some (-1)) ob = some ((.str (sliceL (s ++ [c]) none (some (-1))), ob), [(s ++ [c]).length]) := slc_str (by rfl)
 rw [e] at h
 exact ⟨_, h, fun k hk => by rw [List.mem_singleton.mp hk]; exact hl⟩
section
variable {ch tx : List Nat} {sz off pl pc plc K : Int} {bf : AV} {ob : List AObj} {y : Option AV}
noncomputable abbrev lcR (K : Int) (a b : Option AV) : Loc := [some (.ref 0), some (.int K), a, b, none, none]
theorem sur_test : ∀ c ∈ alpha, ∀ (a : Option AV) (ob : List AObj), Ok (tv TI2 20 (.bop false [(.cmp (.loc 3) [.eq] [(.int 13)]), (.cmp (.int 55296) [.le, .le] [(.loc 3), (.int 56319)])]) (lcR K a (some (.int c))) ob) (Nat.beq c 13, ob) := by
 apply alpha_cases <;> exact fun _ _ => Ok.k
theorem last_fn {D : List Nat} (hne : D ≠ []) (hd : ∀ c ∈ D, c ∈ alpha) (hl : D.length ≤ 1500) : ∃ (bf' : Option Nat) (F : List Nat) (loc' : Loc), Ok (exs (ex TI2 NN 20) (b_Uq.drop 7) (lcR K (some (.str D)) none) (inn [] 0 0 pl pc .none tx plc)) (.ret (.bool true), loc', inn (norm F) (norm F).length 0 pl pc (bufAV bf') tx plc) ∧
  F ≠ [] ∧ D = F ++ bf'.toList ∧ (∀ c, bf' = some c → c = 13) ∧ (bf' = none → D.length = 1 ∨ D.getLast? ≠ some 13) := by
 rcases List.eq_nil_or_concat D with h | ⟨s, c, h⟩
 ·exact absurd h hne
 try rw [List.concat_eq_append] at h
 subst h
 have hl1 : (s ++ [c]).length = s.length + 1 := by simp
 have hc : c ∈ alpha := hd c (by simp)
 cases s with
 | nil =>
  refine ⟨none, [c], _, Ok.step (loc1 := lcR K (some (.str [c])) none) (ob1 := inn [] 0 0 pl pc .none tx plc) (Ok.k) (tail_fn hd (by simp)), (fun q => cons_no q), rfl, (fun _ q => nO q), fun _ => .inl rfl⟩
 | cons s0 s1 =>
  have hlen : Ok (tv TI2 20 (.cmp (.call (.glob 7) [(.loc 2)]) [.gt] [(.int 1)]) (lcR K (some (.str (s0 :: s1 ++ [c]))) none) (inn [] 0 0 pl pc .none tx plc)) (true, inn [] 0 0 pl pc .none tx plc) := by
   refine Ok.tcmp (x := .int (s0 :: s1 ++ [c]).length) (ob1 := inn [] 0 0 pl pc .none tx plc) (y := .int 1) (Ok.call (v := .val (.builtin "len")) (ob1 := inn [] 0 0 pl pc .none tx plc) (vs := [.str (s0 :: s1 ++ [c])]) (ob2 := inn [] 0 0 pl pc .none tx plc) (Ok.k) (Ok.k) (Ok.len (by lia))) (Ok.k) ?_
   show some (decide ((1 : Int) < ((s0 :: s1 ++ [c]).length : Nat))) = some true
   rw [decide_eq_true (by simp only [List.length_cons] at hl1; lia)]
  have hord : Ok (ex TI2 NN 19 (.asg (.loc 3) (.call (.glob 21) [(.sub (.loc 2) (.neg (.int 1)))])) (lcR K (some (.str (s0 :: s1 ++ [c]))) none) (inn [] 0 0 pl pc .none tx plc)) (.next, lcR K (some (.str (s0 :: s1 ++ [c]))) (some (.int c)), inn [] 0 0 pl pc .none tx plc) :=
   Ok.asgL (Ok.call (v := .val (.builtin "ord")) (ob1 := inn [] 0 0 pl pc .none tx plc) (vs := [.str [c]]) (ob2 := inn [] 0 0 pl pc .none tx plc) (Ok.k) (Ok.evs1 (Ok.sub (x := .str (s0 :: s1 ++ [c])) (y := .int (-1)) (ob1 := inn [] 0 0 pl pc .none tx plc) (Ok.k) (Ok.k) (sub_last (by lia)))) (Ok.k)) (Nat.le_of_ble_eq_true rfl)
  have htest := sur_test (K := K) c hc (some (.str (s0 :: s1 ++ [c]))) (inn [] 0 0 pl pc .none tx plc)
  cases hb : Nat.beq c 13 with
  | false =>
   rw [hb] at htest
   refine ⟨none, s0 :: s1 ++ [c], _, Ok.step (loc1 := lcR K (some (.str (s0 :: s1 ++ [c]))) (some (.int c))) (ob1 := inn [] 0 0 pl pc .none tx plc) (Ok.ifT hlen (Ok.step hord (Ok.step (Ok.ifF htest Ok.nil) Ok.nil))) (tail_fn hd (by lia)), (fun q => cons_no q), by simp, (fun _ q => nO q), fun _ => .inr ?_⟩
   rw [List.getLast?_append]
   intro q
   cases q
   cases hb
  | true =>
   rw [hb] at htest
   have h13 := Nat.eq_of_beq_eq_true hb
   subst h13
   refine ⟨some 13, s0 :: s1, _, Ok.step (loc1 := lcR K (some (.str (s0 :: s1))) (some (.int 13))) (ob1 := inn [] 0 0 pl pc (.str [13]) tx plc) (Ok.ifT hlen (Ok.step hord (Ok.step (Ok.ifT htest ?_) Ok.nil))) (tail_fn (fun c hc => hd c (List.mem_append_left _ hc)) (by lia)), (fun q => cons_no q), rfl, (fun c q => by cases q; rfl), fun q => some_no q⟩
   refine Ok.step (loc1 := lcR K (some (.str (s0 :: s1 ++ [13]))) (some (.int 13))) (ob1 := inn [] 0 0 pl pc (.str [13]) tx plc) (Ok.asg (v := .str [13]) (ob1 := inn [] 0 0 pl pc .none tx plc) (Ok.sub (x := .str (s0 :: s1 ++ [13])) (y := .int (-1)) (ob1 := inn [] 0 0 pl pc .none tx plc) (Ok.k) (Ok.k) (sub_last (by lia))) (Ok.k)) ?_
   exact Ok.step (Ok.asgL (Ok.slc (x := .str (s0 :: s1 ++ [13])) (y := .none) (z := .int (-1)) (ob1 := inn [] 0 0 pl pc (.str [13]) tx plc) (ob2 := inn [] 0 0 pl pc (.str [13]) tx plc) (ob3 := inn [] 0 0 pl pc (.str [13]) tx plc) (Ok.k) (Ok.k) (Ok.k) rfl rfl (slice_init (by lia))) (Nat.le_of_ble_eq_true rfl)) Ok.nil
end
noncomputable abbrev innD (d : SD) : List AObj := inn d.chunk d.chunk.length d.off d.pl d.pc (bufAV d.buf) d.text d.place
theorem fair_mem {c : Nat} (h : fair c = true) : c ∈ alpha := by
 unfold fair at h; exact List.contains_iff_mem.mp h
theorem clean_mark {p : List Nat} : clean (1114113 :: p) = clean p := by
 unfold clean
 rw [List.filter_cons_of_neg (by decide)]
theorem clean_cons {c : Nat} {p : List Nat} (h : c < 1114112) : clean (c :: p) = c :: clean p := by
 unfold clean
 rw [List.filter_cons_of_pos (by simpa using h)]
theorem clean_mem {c : Nat} {p : List Nat} (h : c ∈ clean p) : c < 1114112 := by
 unfold clean at h
 simpa using (List.mem_filter.mp h).2
section
variable {d : SD} {p rest : List Nat}
theorem SInv0.taken (h : SInv0 d p rest) : ∀ c ∈ d.chunk.take d.off, c < 1114112 := by
 obtain ⟨p0, q, _⟩ := h.prv
 intro c hc
 apply clean_mem (p := p)
 rw [q]
 exact List.mem_append_left _ (List.mem_reverse.mpr hc)
theorem SInv0.pos (h : SInv0 d p rest) : posR p = (d.pl + ((d.chunk.take d.off).count 10 : Nat), lastCol d.chunk d.pc d.off) := by
 obtain ⟨p0, q1, q2⟩ := h.prv
 rw [posR_clean, q1, pos_is h.off h.taken q2]
theorem SInv0.mem (h : SInv0 d p rest) : ∀ c ∈ d.buf.toList ++ d.text.drop d.place, c ∈ alpha := by
 intro c hc
 rcases List.mem_append.mp hc with q | q
 ·have := h.buf c (Option.mem_toList.mp q)
  subst this
  decide
 ·exact fair_mem (h.fair c (List.mem_of_mem_drop q))
theorem read_head {k : Nat} (hk : k ≤ 10240) (h : SInv0 d p rest) (hoff : d.off = d.chunk.length) {q : Fl × St}
  (h2 : Ok (exs (ex TI2 NN 20) (b_Uq.drop 6) (lcR k (some (.str ((d.text.drop d.place).take k))) none) (inn [] 0 0 (d.pl + ((d.chunk.take d.chunk.length).count 10 : Nat)) (lastCol d.chunk d.pc d.chunk.length) (bufAV d.buf) d.text ((d.place : Int) + ((d.text.drop d.place).take k).length))) q) :
  Ok (exs (ex TI2 NN 20) (b_Uq.drop 1) (lcR k none none) (innD d)) q := by
 refine Ok.step (loc1 := lcR k none none) (ob1 := inn d.chunk d.chunk.length d.off (d.pl + ((d.chunk.take d.chunk.length).count 10 : Nat)) (lastCol d.chunk d.pc d.chunk.length) (bufAV d.buf) d.text d.place) (Ok.asg (v := .tup [.int (d.pl + ((d.chunk.take d.chunk.length).count 10 : Nat)), .int (lastCol d.chunk d.pc d.chunk.length)]) (ob1 := innD d) (Ok.meth (v := .ref 0) (ob1 := innD d) (m := .fn 119 (.ref 0)) (vs := [.int d.chunk.length]) (ob2 := innD d) (Ok.k) (by kernel_rfl) (Ok.k) (Ok.cv (r' := f_Up [.ref 0, .int d.chunk.length] (innD d)) (by kernel_rfl) (pos_fn (Nat.le_refl _) (by have := h.chunk; lia)))) (Ok.k)) ?_
 refine Ok.step (loc1 := lcR k none none) (ob1 := inn [] d.chunk.length d.off (d.pl + ((d.chunk.take d.chunk.length).count 10 : Nat)) (lastCol d.chunk d.pc d.chunk.length) (bufAV d.buf) d.text d.place) (Ok.k) ?_
 refine Ok.step (loc1 := lcR k none none) (ob1 := inn [] 0 d.off (d.pl + ((d.chunk.take d.chunk.length).count 10 : Nat)) (lastCol d.chunk d.pc d.chunk.length) (bufAV d.buf) d.text d.place) (Ok.k) ?_
 refine Ok.step (loc1 := lcR k none none) (ob1 := inn [] 0 0 (d.pl + ((d.chunk.take d.chunk.length).count 10 : Nat)) (lastCol d.chunk d.pc d.chunk.length) (bufAV d.buf) d.text d.place) (Ok.k) ?_
 refine Ok.step (Ok.asgL (Ok.meth (v := .ref 2) (ob1 := inn [] 0 0 (d.pl + ((d.chunk.take d.chunk.length).count 10 : Nat)) (lastCol d.chunk d.pc d.chunk.length) (bufAV d.buf) d.text d.place) (m := .fn 70 (.ref 2)) (vs := [.int k]) (ob2 := inn [] 0 0 (d.pl + ((d.chunk.take d.chunk.length).count 10 : Nat)) (lastCol d.chunk d.pc d.chunk.length) (bufAV d.buf) d.text d.place) (Ok.k) (by kernel_rfl) (Ok.k) (Ok.cv (r' := f_Text_read [.ref 2, .int k] (inn [] 0 0 (d.pl + ((d.chunk.take d.chunk.length).count 10 : Nat)) (lastCol d.chunk d.pc d.chunk.length) (bufAV d.buf) d.text d.place)) (by kernel_rfl) (textread_fn (by have := h.place; have := h.small; lia) (by lia) (by have := h.small; lia)))) (Nat.le_of_ble_eq_true rfl)) ?_
 exact h2
theorem read_data {D tx : List Nat} {pl pc plc : Int} {k : Nat} {bf : Option Nat} {part : List Nat} (hb : ∀ c, bf = some c → c = 13) (hD : D = bf.toList ++ part) (hne : D ≠ []) (hl : part.length ≤ 1000) {q : Fl × St}
  (h2 : Ok (exs (ex TI2 NN 20) (b_Uq.drop 7) (lcR k (some (.str D)) none) (inn [] 0 0 pl pc .none tx plc)) q) :
  Ok (exs (ex TI2 NN 20) (b_Uq.drop 6) (lcR k (some (.str part)) none) (inn [] 0 0 pl pc (bufAV bf) tx plc)) q := by
 cases bf with
 | none =>
  have hD : D = part := hD
  subst hD
  cases D with
  | nil => exact absurd rfl hne
  | cons a r =>
   refine Ok.step (loc1 := lcR k (some (.str (a :: r))) none) (ob1 := inn [] 0 0 pl pc .none tx plc) (Ok.ifF (ob1 := inn [] 0 0 pl pc .none tx plc) (Ok.k) (Ok.step (Ok.ifF (Ok.tnot (t := true) (Ok.ttru (v := .str (a :: r)) rfl (Ok.k) (Ok.trS (by lia)))) Ok.nil) Ok.nil)) h2
 | some c =>
  have hc := hb c rfl
  subst hc
  have hD : D = [13] ++ part := hD
  subst hD
  refine Ok.step (loc1 := lcR k (some (.str ([13] ++ part))) none) (ob1 := inn [] 0 0 pl pc .none tx plc) (Ok.ifT (ob1 := inn [] 0 0 pl pc (.str [13]) tx plc) (Ok.k) ?_) h2
  refine Ok.step (loc1 := lcR k (some (.str ([13] ++ part))) none) (ob1 := inn [] 0 0 pl pc (.str [13]) tx plc) (Ok.asgL (Ok.bin (x := .str [13]) (y := .str part) (ob1 := inn [] 0 0 pl pc (.str [13]) tx plc) (ob2 := inn [] 0 0 pl pc (.str [13]) tx plc) (Ok.k) (Ok.k) (Ok.addS (by simp only [List.length_append, List.length_cons, List.length_nil]; lia))) (Nat.le_of_ble_eq_true rfl)) ?_
  exact Ok.step (Ok.k) Ok.nil
theorem take_split {l : List Nat} {k : Nat} : l = l.take k ++ l.drop (l.take k).length := by
 rw [List.length_take]
 rcases Nat.le_total k l.length with h | h
 ·rw [Nat.min_eq_left h, List.take_append_drop]
 ·rw [Nat.min_eq_right h, List.take_of_length_le h, List.drop_length, List.append_nil]
theorem short_end {L pl k m : Nat} (h : m = min k (L - pl)) (hk : 2 ≤ k) (h1 : m ≤ 1) : L ≤ pl + m := by
 rcases Nat.le_total k (L - pl) with q | q
 ·exact absurd (Nat.le_trans (Nat.le_trans hk (Nat.le_of_eq (Nat.min_eq_left q).symm)) (Nat.le_trans (Nat.le_of_eq h.symm) h1)) (by decide)
 ·rw [h, Nat.min_eq_right q]; exact Nat.sub_le_iff_le_add'.mp (Nat.le_refl _)
theorem mark_big {p q : List Nat} {c : Nat} (e : 1114113 :: p = c :: q) (hc : c < 1114112) : 0 < 0 := absurd ((List.cons.inj e).1 ▸ hc) (by decide)
theorem read_fn {k : Nat} (hk2 : 2 ≤ k) (hk : k ≤ 10240) (h : SInv0 d p rest) (hoff : d.off = d.chunk.length) : ∃ (d' : SD) (b : Bool) (loc' : Loc), Ok (exs (ex TI2 NN 20) (b_Uq.drop 1) (lcR k none none) (innD d)) (.ret (.bool b), loc', innD d') ∧ SInv0 d' (1114113 :: p) rest ∧ b = !rest.isEmpty ∧ d'.off = 0 ∧ (rest ≠ [] → d'.chunk ≠ []) := by
 have hr : rest = norm (d.buf.toList ++ d.text.drop d.place) := by rw [h.rst, hoff, List.drop_length]; rfl
 have hpos := h.pos
 rw [hoff] at hpos
 have hsm := h.small
 have hpl := h.place
 generalize hpart : (d.text.drop d.place).take k = part at *
 have hplen : part.length = min k (d.text.length - d.place) := by rw [← hpart, List.length_take, List.length_drop]
 have hrem : d.text.drop d.place = part ++ d.text.drop (d.place + part.length) := by
  rw [← List.drop_drop, ← hpart]; exact take_split
 have hprv : ∃ p0, clean (1114113 :: p) = ((([] : List Nat).take 0).reverse) ++ p0 ∧ posR p0 = (d.pl + ((d.chunk.take d.chunk.length).count 10 : Nat), lastCol d.chunk d.pc d.chunk.length) := ⟨clean p, by rw [clean_mark]; rfl, by rw [← posR_clean]; exact hpos⟩
 have hback : ∀ c q, 1114113 :: p = c :: q → c < 1114112 → 0 < 0 := fun c q => mark_big
 by_cases hD : d.buf.toList ++ part = []
 ·obtain ⟨h1, h2⟩ := List.append_eq_nil_iff.mp hD
  subst h2
  have hbuf : d.buf = none := by
   cases q : d.buf with
   | none => rfl
   | some c => rw [q] at h1; cases h1
  have hend : d.text.drop d.place = [] := by
   exact List.drop_eq_nil_of_le (short_end hplen hk2 (Nat.zero_le _))
  have hrest : rest = [] := by rw [hr, hbuf, hend]; rfl
  refine ⟨⟨[], 0, d.pl + ((d.chunk.take d.chunk.length).count 10 : Nat), lastCol d.chunk d.pc d.chunk.length, none, d.text, d.place⟩, false, lcR k (some (.str [])) none, read_head hk h hoff ?_, ⟨Nat.le_refl _, hprv, hback, ?_, (fun _ q => nO q), hpl, hsm, Nat.zero_le _, h.fair⟩, by rw [hrest]; rfl, rfl, fun q => absurd hrest q⟩
  ·rw [hpart, hbuf]
   exact Ok.k
  ·rw [hrest]
   show [] = norm (d.text.drop d.place)
   rw [hend]; rfl
 ·have hmem : ∀ c ∈ d.buf.toList ++ part, c ∈ alpha := fun c hc => h.mem c (by
   rw [hrem, ← List.append_assoc]
   exact List.mem_append_left _ hc)
  have hDl : (d.buf.toList ++ part).length ≤ 1001 := by
   have hbl : d.buf.toList.length ≤ 1 := by cases d.buf <;> simp
   have : part.length ≤ 1000 := hplen ▸ Nat.le_trans (Nat.min_le_right ..) (Nat.le_trans (Nat.sub_le ..) hsm)
   rw [List.length_append, Nat.add_comm]; exact Nat.add_le_add this hbl
  obtain ⟨bf', F, loc', e1, e2, e3, e4, e5⟩ := last_fn (pl := d.pl + ((d.chunk.take d.chunk.length).count 10 : Nat)) (pc := lastCol d.chunk d.pc d.chunk.length) (tx := d.text) (plc := (d.place : Int) + part.length) (K := k) hD hmem (Nat.le_trans hDl (by decide))
  have hFl : F.length ≤ 1001 := Nat.le_trans (by rw [e3, List.length_append]; exact Nat.le_add_right ..) hDl
  have hsplit : rest = norm F ++ norm (bf'.toList ++ d.text.drop (d.place + part.length)) := by
   rw [hr, hrem, ← List.append_assoc, e3, List.append_assoc, norm_app]
   cases bf' with
   | some c => have := e4 c rfl; subst this; exact .inr (by simp)
   | none =>
    rcases e5 rfl with q | q
    ·refine .inr ?_
     rw [List.length_append] at q
     have hp1 : part.length ≤ 1 := Nat.le_trans (Nat.le_add_left ..) (Nat.le_of_eq q)
     have : d.text.drop (d.place + part.length) = [] := List.drop_eq_nil_of_le (short_end hplen hk2 hp1)
     rw [this]; exact fun z => nO z
    ·refine .inl ?_
     rw [e3] at q
     simpa using q
  refine ⟨⟨norm F, 0, d.pl + ((d.chunk.take d.chunk.length).count 10 : Nat), lastCol d.chunk d.pc d.chunk.length, bf', d.text, d.place + part.length⟩, true, loc', read_head hk h hoff ?_, ⟨Nat.zero_le _, ?_, hback, hsplit, e4, hplen ▸ Nat.add_le_of_le_sub' hpl (Nat.min_le_right ..), hsm, Nat.le_trans (norm_len F) hFl, h.fair⟩, ?_, rfl, fun _ => norm_ne e2⟩
  ·rw [hpart]
   exact read_data h.buf rfl hD (hplen ▸ Nat.le_trans (Nat.min_le_right ..) (Nat.le_trans (Nat.sub_le ..) hsm)) e1
  ·obtain ⟨p0, q1, q2⟩ := hprv
   exact ⟨p0, by rw [q1]; rfl, q2⟩
  ·have : rest ≠ [] := by rw [hsplit]; intro q; exact norm_ne e2 (List.append_eq_nil_iff.mp q).1
   cases rest with
   | nil => exact absurd rfl this
   | cons _ _ => rfl
theorem read_dflt (h : SInv0 d p rest) (hoff : d.off = d.chunk.length) : ∃ (d' : SD) (b : Bool), Ok (f_Uq [.ref 0] (innD d)) (.bool b, innD d') ∧ SInv0 d' (1114113 :: p) rest ∧ b = !rest.isEmpty ∧ d'.off = 0 ∧ (rest ≠ [] → d'.chunk ≠ []) := by
 obtain ⟨d', b, loc', e1, e2⟩ := read_fn (k := 10240) (by decide) (Nat.le_refl _) h hoff
 exact ⟨d', b, Ok.fn rfl (Ok.step (loc1 := lcR ((10240 : Nat) : Int) none none) (ob1 := innD d) (Ok.k) e1), e2⟩
theorem read_sized {k : Nat} (hk2 : 2 ≤ k) (hk : k ≤ 10240) (h : SInv0 d p rest) (hoff : d.off = d.chunk.length) : ∃ (d' : SD) (b : Bool), Ok (f_Uq [.ref 0, .int k] (innD d)) (.bool b, innD d') ∧ SInv0 d' (1114113 :: p) rest ∧ b = !rest.isEmpty ∧ d'.off = 0 ∧ (rest ≠ [] → d'.chunk ≠ []) := by
 obtain ⟨d', b, loc', e1, e2⟩ := read_fn hk2 hk h hoff
 exact ⟨d', b, Ok.fn rfl (Ok.step (loc1 := lcR k none none) (ob1 := innD d) (Ok.k) e1), e2⟩
end
section
variable {d : SD} {p p' rest r : List Nat} {c : Nat}
theorem alpha_lt : ∀ c ∈ alpha, c < 55296 := by
 apply alpha_cases <;> decide
theorem take_snoc {l : List Nat} {n : Nat} (h : l[n]? = some c) : (l.take (n + 1)).reverse = c :: (l.take n).reverse := by
 rw [List.take_add_one, h]; simp
theorem drop_cons {l : List Nat} {n : Nat} (h : l[n]? = some c) : l.drop n = c :: l.drop (n + 1) := by
 obtain ⟨h1, h2⟩ := List.getElem?_eq_some_iff.mp h
 rw [List.drop_eq_getElem_cons h1, h2]
theorem SInv0.adv (hcl : clean p' = clean p) (h : SInv0 d p' (c :: r)) (hc : c < 1114112) (hlt : d.off < d.chunk.length) : d.chunk[d.off]? = some c ∧ SInv0 { d with off := d.off + 1 } (c :: p) r := by
 obtain ⟨e, he⟩ : ∃ e, d.chunk[d.off]? = some e := ⟨_, List.getElem?_eq_getElem hlt⟩
 have hr := h.rst
 rw [drop_cons he, List.cons_append] at hr
 have hr2 := (List.cons.inj hr).2
 have hce := (List.cons.inj hr).1
 subst hce
 obtain ⟨p0, q1, q2⟩ := h.prv
 refine ⟨he, ⟨hlt, ⟨p0, ?_, q2⟩, fun _ _ _ _ => Nat.succ_pos _, hr2, h.buf, h.place, h.small, h.chunk, h.fair⟩⟩
 rw [clean_cons hc, ← hcl, q1]
 rw [take_snoc he]; rfl
theorem char_tail (hc : d.chunk[d.off]? = some c) (hl : d.chunk.length ≤ 2000) : ∃ loc', Ok (exs (ex TI3 NN 20) (b_Ux.drop 1) [some (.ref 0), none, none, none] (innD d)) (.ret (.str [c]), loc', innD { d with off := d.off + 1 }) := by
 refine ⟨[some (.ref 0), some (.int d.off), some (.str [c]), none], ?_⟩
 refine Ok.step (loc1 := [some (.ref 0), some (.int d.off), none, none]) (ob1 := innD d) (Ok.k) ?_
 refine Ok.step (loc1 := [some (.ref 0), some (.int d.off), some (.str [c]), none]) (ob1 := innD d) (Ok.asgL (Ok.sub (x := .str d.chunk) (y := .int d.off) (ob1 := innD d) (Ok.k) (Ok.k) (sub_nat hc (by lia))) (Nat.le_of_ble_eq_true rfl)) ?_
 exact Ok.k
theorem ge_test {T : Tab} {a b : Nat} {ob : List AObj} {t : Bool} (h : decide (b ≤ a) = t) : cmpS T .ge (.int (a : Int)) (.int (b : Int)) ob = some t := by
 show some (decide ((b : Int) ≤ (a : Int))) = some t
 rw [← h]
 congr 1
 exact decide_eq_decide.mpr Int.ofNat_le
theorem char_next (h : SInv0 d p rest) (hoff : d.off = d.chunk.length) : ∃ (d' : SD) (b : Bool), Ok (tv TI3 20 (.not (.meth (.loc 0) w45 [])) [some (.ref 0), none, none, none] (innD d)) (!b, innD d') ∧ SInv0 d' (1114113 :: p) rest ∧ b = !rest.isEmpty ∧ d'.off = 0 ∧ (rest ≠ [] → d'.chunk ≠ []) := by
 obtain ⟨d', b, e1, e2⟩ := read_dflt h hoff
 refine ⟨d', b, Ok.tnot (Ok.ttru (v := .bool b) rfl (Ok.meth (v := .ref 0) (ob1 := innD d) (m := .fn 141 (.ref 0)) (vs := []) (ob2 := innD d) (Ok.k) (by kernel_rfl) (Ok.k) (Ok.cv (r' := f_Uq [.ref 0] (innD d)) (by kernel_rfl) e1)) Ok.fine), e2⟩
theorem off_test (d : SD) {t : Bool} (h : decide (d.chunk.length ≤ d.off) = t) : Ok (tv TI3 20 (.cmp (.attr (.loc 0) w56) [.ge] [(.attr (.loc 0) w55)]) [some (.ref 0), none, none, none] (innD d)) (t, innD d) :=
 Ok.tcmp (x := .int d.off) (ob1 := innD d) (y := .int d.chunk.length) (Ok.k) (Ok.k) (ge_test h)
theorem char_fn (h : SInv0 d p (c :: r)) (hc : c < 1114112) : ∃ d', Ok (f_Ux [.ref 0] (innD d)) (.str [c], innD d') ∧ SInv0 d' (c :: p) r := by
 rcases Nat.lt_or_ge d.off d.chunk.length with hlt | hge
 ·obtain ⟨h1, h2⟩ := SInv0.adv (p := p) rfl h hc hlt
  obtain ⟨loc', e⟩ := char_tail h1 (by have := h.chunk; lia)
  exact ⟨_, Ok.fn rfl (Ok.step (Ok.ifF (off_test d (decide_eq_false (by exact Nat.not_le_of_lt hlt))) Ok.nil) e), h2⟩
 ·have hoff : d.off = d.chunk.length := by have := h.off; exact Nat.le_antisymm this hge
  obtain ⟨d', b, e1, e2, e3, e4, e5⟩ := char_next h hoff
  have hb : b = true := e3
  subst hb
  have hlt : d'.off < d'.chunk.length := by
   rw [e4]; exact List.length_pos_iff.mpr (e5 (fun q => cons_no q))
  obtain ⟨h1, h2⟩ := SInv0.adv (p := p) clean_mark e2 hc hlt
  obtain ⟨loc', e⟩ := char_tail h1 (by have := e2.chunk; lia)
  exact ⟨_, Ok.fn rfl (Ok.step (Ok.ifT (off_test d (decide_eq_true (by exact Nat.le_of_eq (id (Eq.symm hoff))))) (Ok.step (Ok.ifF e1 Ok.nil) Ok.nil)) e), h2⟩
theorem char_eof (h : SInv0 d p []) : ∃ d', Ok (f_Ux [.ref 0] (innD d)) (.none, innD d') ∧ SInv0 d' (1114113 :: p) [] := by
 have hoff : d.off = d.chunk.length := by
  have := congrArg List.length h.rst
  rw [List.length_append, List.length_drop, List.length_nil] at this
  have := h.off; lia
 obtain ⟨d', b, e1, e2, e3, _⟩ := char_next h hoff
 have hb : b = false := e3
 subst hb
 exact ⟨d', Ok.fn rfl (Ok.ret (Ok.ifT (off_test d (decide_eq_true (by exact Nat.le_of_eq (id (Eq.symm hoff))))) (Ok.ret (Ok.ifT e1 (Ok.ret (Ok.rt (v := .none) (ob1 := innD d') (Ok.k))))))), e2⟩
theorem unget_none : Ok (f_Uw [.ref 0, .none] (innD d)) (.none, innD d) := Ok.k
theorem unget_fn (h : SInv0 d (c :: p) r) (hc : c < 1114112) : ∃ d', Ok (f_Uw [.ref 0, .str [c]] (innD d)) (.none, innD d') ∧ SInv0 d' (1114113 :: p) (c :: r) := by
 have h0 := h.back c p rfl hc
 obtain ⟨n, hn⟩ : ∃ n, d.off = n + 1 := ⟨d.off - 1, by exact (Nat.sub_eq_iff_eq_add h0).mp rfl⟩
 have hoff := h.off
 have hch := h.chunk
 obtain ⟨e, he⟩ : ∃ e, d.chunk[n]? = some e := ⟨_, List.getElem?_eq_getElem (by lia)⟩
 obtain ⟨p0, q1, q2⟩ := h.prv
 rw [hn, take_snoc he, clean_cons hc, List.cons_append] at q1
 have q3 := (List.cons.inj q1).2
 have hce := (List.cons.inj q1).1
 subst hce
 have hr := h.rst
 rw [hn] at hr
 refine ⟨{ d with off := n }, ?_, ⟨by show n ≤ d.chunk.length; lia, ⟨p0, by rw [clean_mark]; exact q3, q2⟩, fun a b q hq => by cases q; lia, by show _ = d.chunk.drop n ++ _; rw [drop_cons he, hr]; rfl, h.buf, h.place, h.small, h.chunk, h.fair⟩⟩
 have hi : ((d.off : Nat) : Int) - 1 = (n : Int) := by exact Int.sub_eq_iff_eq_add.mpr (congrArg Nat.cast hn)
 have hnz : Ok (tv TI3 20 (.cmp (.attr (.loc 0) w56) [.eq] [(.int 0)]) [some (.ref 0), some (.str [c]), none] (innD d)) (false, innD d) := by
  refine Ok.tcmp (x := .int d.off) (ob1 := innD d) (y := .int 0) (Ok.k) (Ok.k) ?_
  have : eqS (.int (d.off : Int)) (.int 0) = some false := by
   show some (decide ((d.off : Int) = 0)) = _
   rw [decide_eq_false (by exact Int.natCast_ne_zero_iff_pos.mpr h0)]
  exact cmp_eq this
 refine Ok.proc (loc1 := [some (.ref 0), some (.str [c]), none]) rfl (Ok.step (Ok.ifT (ob1 := innD d) (Ok.k) (Ok.step (Ok.ifF hnz ?_) Ok.nil)) Ok.nil)
 refine Ok.step (loc1 := [some (.ref 0), some (.str [c]), none]) (ob1 := innD { d with off := n }) ?_ ?_
 ·have := Ok.of (r := ex TI3 NN 18 (.aug (.attr (.loc 0) w56) .sub (.int 1)) [some (.ref 0), some (.str [c]), none] (innD d)) (a := (.next, [some (.ref 0), some (.str [c]), none], inn d.chunk d.chunk.length ((d.off : Int) - 1) d.pl d.pc (bufAV d.buf) d.text d.place)) (by kernel_rfl) (by kernel_rfl)
  rw [hi] at this
  exact this
 ·refine Ok.step (Ok.asrt (ob1 := innD { d with off := n }) (Ok.tcmp (x := .str [c]) (ob1 := innD { d with off := n }) (y := .str [c]) (Ok.sub (x := .str d.chunk) (y := .int n) (ob1 := innD { d with off := n }) (Ok.k) (Ok.k) (sub_nat he (by lia))) (Ok.k) ?_)) Ok.nil
  have : eqS (.str [c]) (.str [c]) = some true := by
   show some (decide ([c] = [c])) = _
   rw [decide_eq_true rfl]
  exact cmp_eq this
theorem position_fn (h : SInv0 d p r) : Ok (f_Ut [.ref 0] (innD d)) (.tup [.int ((posR p).1 + 1), .int (posR p).2], innD d) := by
 rw [h.pos]
 refine Ok.fn (loc1 := [some (.ref 0), some (.int (d.pl + ((d.chunk.take d.off).count 10 : Nat))), some (.int (lastCol d.chunk d.pc d.off))]) rfl ?_
 refine Ok.step (loc1 := [some (.ref 0), some (.int (d.pl + ((d.chunk.take d.off).count 10 : Nat))), some (.int (lastCol d.chunk d.pc d.off))]) (ob1 := innD d) (Ok.asg (v := .tup [.int (d.pl + ((d.chunk.take d.off).count 10 : Nat)), .int (lastCol d.chunk d.pc d.off)]) (ob1 := innD d) (Ok.meth (v := .ref 0) (ob1 := innD d) (m := .fn 119 (.ref 0)) (vs := [.int d.off]) (ob2 := innD d) (Ok.k) (by kernel_rfl) (Ok.k) (Ok.cv (r' := f_Up [.ref 0, .int d.off] (innD d)) (by kernel_rfl) (pos_fn h.off (by have := h.chunk; lia)))) (Ok.k)) ?_
 exact Ok.k
theorem make_fn {s : List Nat} : Ok (c_Strm [.str s] []) (.ref 0, innD ⟨[], 0, 0, 0, none, s, 0⟩) := Ok.k
end
section
variable {Y : Sys}
theorem ioI (h1 : Y.cS = 166) (h2 : Y.cT = 73) (h3 : Y.fE = 148) (d : SD) : ioO Y d = innD d := by
 unfold ioO
 rw [h1, h2, h3]
theorem prim_core (h1 : Y.cS = 166) (h2 : Y.cT = 73) (h3 : Y.fE = 148) {f : Fn} {i : Nat} {as : List AV} {p r p' r' : List Nat} {v : AV} {ob : List AObj} (hp : plainAs as = true) (hv : plainA v = true) (ho : ob[i]? = some (.strm p r)) (K : ∀ x, SInv x p r → ∃ x', Ok (f (.ref 0 :: as) (innD x)) (v, innD x') ∧ SInv x' p' r') :
  ∃ i' as' p1 r1 p2 r2, AV.ref i :: as = .ref i' :: as' ∧ plainAs as' = true ∧ plainA v = true ∧ ob[i']? = some (.strm p1 r1) ∧ ob.set i (.strm p' r') = ob.set i' (.strm p2 r2) ∧ ∀ x, SInv x p1 r1 → ∃ x' obsi, f (.ref 0 :: as') (ioO Y x) = some ((v, ioO Y x'), obsi) ∧ Fits obsi ∧ SInv x' p2 r2 :=
 ⟨i, as, p, r, p', r', rfl, hp, hv, ho, rfl, fun x S => by
  obtain ⟨x', k1, k2⟩ := K x S
  obtain ⟨l, k3, k4⟩ := k1.fits
  exact ⟨x', l, by rw [ioI h1 h2 h3, ioI h1 h2 h3]; exact k3, k4, k2⟩⟩
theorem prim_char (h1 : Y.cS = 166) (h2 : Y.cT = 73) (h3 : Y.fE = 148) : PrimOk Y f_Ux sChar := by
 intro args ob v ob' obs e fit
 refine one_is e fun x ha e1 => oSi e1 fun i hi e2 => onStrm_is e2 fun p r ho e3 => consK_is e3 (fun hr e4 => ?_) fun c r hr e4 => ?_
 ·cases asRef_is hi
  subst ha hr
  cases e4
  refine prim_core h1 h2 h3 (as := []) rfl rfl ho fun x S => ?_
  rcases S with ⟨S, hlt⟩ | ⟨r', q, _⟩
  ·obtain ⟨d', e1, e2⟩ := char_eof S
   exact ⟨d', e1, .inl ⟨e2, hlt⟩⟩
  ·exact nil_no q
 ·cases asRef_is hi
  subst ha hr
  by_cases hm : c = 1114112
  ·exact nO ((if_pos hm).symm.trans e4)
  cases (if_neg hm).symm.trans e4
  refine prim_core h1 h2 h3 (as := []) rfl rfl ho fun x S => ?_
  rcases S with ⟨S, hlt⟩ | ⟨r', q, _⟩
  ·obtain ⟨d', e1, e2⟩ := char_fn S (hlt c (List.mem_cons_self ..))
   exact ⟨d', e1, .inl ⟨e2, fun c hc => hlt c (List.mem_cons_of_mem _ hc)⟩⟩
  ·exact absurd (List.cons.inj q).1 hm
theorem prim_unget (h1 : Y.cS = 166) (h2 : Y.cT = 73) (h3 : Y.fE = 148) : PrimOk Y f_Uw sUnget := by
 intro args ob v ob' obs e fit
 refine two_is' e fun x y ha e1 => oSi e1 fun i hi e2 => onStrm_is e2 fun p r ho e3 => ?_
 clear e e1 e2
 cases asRef_is hi
 subst ha
 refine noneStr_is e3 (fun hy e => ?_) (fun s hy e4 => consK_is e4 (fun _ e => nO e) fun c0 t hs e5 => consK_is e5 (fun ht e6 => consK_is e6 (fun _ e => nO e) fun c p hp e7 => ite_is e7 fun hc e => ?_) fun _ _ _ e => nO e)
 ·subst hy
  cases e
  exact prim_core h1 h2 h3 rfl rfl ho fun x S => ⟨x, unget_none, S⟩
 ·subst hy hs ht hp
  obtain ⟨rfl, hc⟩ := hc
  cases e
  refine prim_core h1 h2 h3 (p := c0 :: p) rfl rfl ho fun x S => ?_
  rcases S with ⟨S, hlt⟩ | ⟨r', _, q, _⟩
  ·obtain ⟨d', e1, e2⟩ := unget_fn S hc
   exact ⟨d', e1, .inl ⟨e2, fun c hc' => (List.mem_cons.mp hc').elim (fun q => q ▸ hc) (hlt c)⟩⟩
  ·exact cons_no q
theorem prim_pos (h1 : Y.cS = 166) (h2 : Y.cT = 73) (h3 : Y.fE = 148) : PrimOk Y f_Ut sPos := by
 intro args ob v ob' obs e fit
 refine one_is e fun x ha e1 => oSi e1 fun i hi e2 => onStrm_is e2 fun p r ho e3 => ?_
 cases asRef_is hi
 subst ha
 cases e3
 refine prim_core h1 h2 h3 (as := []) rfl rfl ho fun x S => ?_
 have : ∃ r', SInv0 x p r' := by
  rcases S with ⟨S, _⟩ | ⟨r', _, q, _, _, S⟩
  ·exact ⟨_, S⟩
  ·subst q; exact ⟨_, S⟩
 obtain ⟨r', S'⟩ := this
 exact ⟨x, position_fn S', S⟩
theorem prim_read (h1 : Y.cS = 166) (h2 : Y.cT = 73) (h3 : Y.fE = 148) : PrimOk Y f_Uq sRead := by
 intro args ob v ob' obs e fit
 refine two_is' e fun x y ha e1 => oSi e1 fun i hi e2 => oSi e2 fun k hk e3 => ite_is e3 fun hk2 e4 => onStrm_is e4 fun p r ho e5 => consK_is e5 (fun hp e6 => consK_is e6 (fun _ e => nO e) fun m r hr e7 => ite_is e7 fun hm e8 => ?_) fun _ _ _ e => nO e
 cases asRef_is hi
 cases asInt_is hk
 subst ha hp hr hm
 cases e8
 refine prim_core h1 h2 h3 rfl rfl ho fun x S => ?_
 rcases S with ⟨_, hlt⟩ | ⟨r', q, _, hch, hbf, S⟩
 ·exact absurd (hlt _ (List.mem_cons_self ..)) (Nat.lt_irrefl 1114112)
 ·cases q
  obtain ⟨n, rfl⟩ := Int.eq_ofNat_of_zero_le (Int.le_trans (by decide) hk2.1)
  obtain ⟨d', b, e1, e2, e3, e4, e5⟩ := read_sized (k := n) (Int.ofNat_le.mp hk2.1) (Nat.le_trans (Int.ofNat_le.mp hk2.2) (by decide)) S (by have := S.off; rw [hch] at this ⊢; exact Nat.le_zero.mp this)
  subst e3
  refine ⟨d', e1, .inl ⟨⟨e2.off, ?_, (fun _ _ q => nil_no q), e2.rst, e2.buf, e2.place, e2.small, e2.chunk, e2.fair⟩, fun c hc => ?_⟩⟩
  ·obtain ⟨p0, q1, q2⟩ := e2.prv
   exact ⟨p0, by rw [← q1]; rfl, q2⟩
  ·have hr := S.rst
   have hd : x.chunk.drop x.off = [] := by rw [hch]; exact List.drop_nil
   rw [hd, List.nil_append] at hr
   rw [hr] at hc
   exact (norm_mem hc).elim (fun q => Nat.lt_of_lt_of_le (alpha_lt c (S.mem c q)) (by decide)) fun q => q ▸ by decide
theorem prim_make (h1 : Y.cS = 166) (h2 : Y.cT = 73) (h3 : Y.fE = 148) : MakeOk Y c_Strm sMake := by
 intro args ob v ob' obs e fit
 refine one_is e fun x ha e1 => oSi e1 fun s hs e2 => ite_is e2 fun hc e3 => ?_
 cases asStr_is hs
 subst ha
 cases e3
 obtain ⟨l, e1, e3⟩ := (make_fn (s := s)).fits
 exact ⟨[], 1114112 :: norm s, rfl, rfl, rfl, ⟨[], 0, 0, 0, none, s, 0⟩, l, by rw [ioI h1 h2 h3]; exact e1, e3, .inr ⟨norm s, rfl, rfl, rfl, rfl, ⟨Nat.le_refl _, ⟨[], rfl, rfl⟩, (fun _ _ q => nil_no q), rfl, (fun _ q => nO q), Nat.zero_le _, hc.1, Nat.zero_le _, fun c h => List.all_eq_true.mp hc.2 c h⟩⟩⟩
end
noncomputable abbrev alphaN : List Nat := [32, 34, 62, 112, 117, 98, 108, 105, 99, 39, 120, 83, 89, 84, 69, 77, 0, 80, 10, 115, 201, 9, 12]
theorem alphaN_cases {P : Nat → Prop} (h32 : P 32) (h34 : P 34) (h62 : P 62) (h112 : P 112) (h117 : P 117) (h98 : P 98) (h108 : P 108) (h105 : P 105) (h99 : P 99) (h39 : P 39) (h120 : P 120) (h83 : P 83) (h89 : P 89) (h84 : P 84) (h69 : P 69) (h77 : P 77) (h0 : P 0) (h80 : P 80) (h10 : P 10) (h115 : P 115) (h201 : P 201) (h9 : P 9) (h12 : P 12) : ∀ c ∈ alphaN, P c :=
 List.forall_mem_cons.mpr ⟨h32, List.forall_mem_cons.mpr ⟨h34, List.forall_mem_cons.mpr ⟨h62, List.forall_mem_cons.mpr ⟨h112, List.forall_mem_cons.mpr ⟨h117, List.forall_mem_cons.mpr ⟨h98, List.forall_mem_cons.mpr ⟨h108, List.forall_mem_cons.mpr ⟨h105, List.forall_mem_cons.mpr ⟨h99, List.forall_mem_cons.mpr ⟨h39, List.forall_mem_cons.mpr ⟨h120, List.forall_mem_cons.mpr ⟨h83, List.forall_mem_cons.mpr ⟨h89, List.forall_mem_cons.mpr ⟨h84, List.forall_mem_cons.mpr ⟨h69, List.forall_mem_cons.mpr ⟨h77, List.forall_mem_cons.mpr ⟨h0, List.forall_mem_cons.mpr ⟨h80, List.forall_mem_cons.mpr ⟨h10, List.forall_mem_cons.mpr ⟨h115, List.forall_mem_cons.mpr ⟨h201, List.forall_mem_cons.mpr ⟨h9, List.forall_mem_cons.mpr ⟨h12, fun _ h => mem_no h⟩⟩⟩⟩⟩⟩⟩⟩⟩⟩⟩⟩⟩⟩⟩⟩⟩⟩⟩⟩⟩⟩⟩
noncomputable abbrev f_gtName : List Nat := [101, 120, 112, 101, 99, 116, 101, 100, 45, 100, 111, 99, 116, 121, 112, 101, 45, 110, 97, 109, 101, 45, 98, 117, 116, 45, 103, 111, 116, 45, 114, 105, 103, 104, 116, 45, 98, 114, 97, 99, 107, 101, 116]
noncomputable abbrev f_eod : List Nat := [117, 110, 101, 120, 112, 101, 99, 116, 101, 100, 45, 101, 110, 100, 45, 111, 102, 45, 100, 111, 99, 116, 121, 112, 101]
noncomputable abbrev f_unx : List Nat := [117, 110, 101, 120, 112, 101, 99, 116, 101, 100, 45, 99, 104, 97, 114, 45, 105, 110, 45, 100, 111, 99, 116, 121, 112, 101]
noncomputable abbrev f_eofName : List Nat := [101, 120, 112, 101, 99, 116, 101, 100, 45, 100, 111, 99, 116, 121, 112, 101, 45, 110, 97, 109, 101, 45, 98, 117, 116, 45, 103, 111, 116, 45, 101, 111, 102]
noncomputable abbrev f_eofInName : List Nat := [101, 111, 102, 45, 105, 110, 45, 100, 111, 99, 116, 121, 112, 101, 45, 110, 97, 109, 101]
noncomputable abbrev f_eof : List Nat := [101, 111, 102, 45, 105, 110, 45, 100, 111, 99, 116, 121, 112, 101]
noncomputable abbrev f_need : List Nat := [110, 101, 101, 100, 45, 115, 112, 97, 99, 101, 45, 97, 102, 116, 101, 114, 45, 100, 111, 99, 116, 121, 112, 101]
noncomputable abbrev f_inv : List Nat := [105, 110, 118, 97, 108, 105, 100, 45, 99, 111, 100, 101, 112, 111, 105, 110, 116]
noncomputable abbrev nStream : List Nat := [115, 116, 114, 101, 97, 109]
noncomputable abbrev nParser : List Nat := [112, 97, 114, 115, 101, 114]
noncomputable abbrev nEscF : List Nat := [101, 115, 99, 97, 112, 101, 70, 108, 97, 103]
noncomputable abbrev nLast4 : List Nat := [108, 97, 115, 116, 70, 111, 117, 114, 67, 104, 97, 114, 115]
noncomputable abbrev nState : List Nat := [115, 116, 97, 116, 101]
noncomputable abbrev nEsc : List Nat := [101, 115, 99, 97, 112, 101]
noncomputable abbrev nTok : List Nat := [99, 117, 114, 114, 101, 110, 116, 84, 111, 107, 101, 110]
noncomputable abbrev nQueue : List Nat := [116, 111, 107, 101, 110, 81, 117, 101, 117, 101]
noncomputable abbrev kType : List Nat := [116, 121, 112, 101]
noncomputable abbrev kName : List Nat := [110, 97, 109, 101]
noncomputable abbrev kPub : List Nat := [112, 117, 98, 108, 105, 99, 73, 100]
noncomputable abbrev kSys : List Nat := [115, 121, 115, 116, 101, 109, 73, 100]
noncomputable abbrev kOk : List Nat := [99, 111, 114, 114, 101, 99, 116]
noncomputable abbrev kData : List Nat := [100, 97, 116, 97]
noncomputable abbrev kVars : List Nat := [100, 97, 116, 97, 118, 97, 114, 115]
structure Part where
 name : List Nat
 pub : Option (List Nat)
 sys : Option (List Nat)
 ok : Bool
noncomputable def optAV : Option (List Nat) → AV
 | none => .none
 | some s => .str s
noncomputable def Part.avs (q : Part) : List AV := [.str q.name, optAV q.pub, optAV q.sys, .bool q.ok]
noncomputable abbrev tokO (lf st : AV) : AObj := .inst 762 [(nStream, .ref 1), (nParser, .none), (nEscF, .bool false), (nLast4, lf), (nState, st), (nEsc, .bool false), (nTok, .ref 3), (nQueue, .ref 2)]
noncomputable abbrev dtok (q : Part) : AObj := .dict [(kType, .int 0), (kName, .str q.name), (kPub, optAV q.pub), (kSys, optAV q.sys), (kOk, .bool q.ok)]
noncomputable def blank (c : Nat) : Bool := [32, 10, 9, 12].contains c
noncomputable def quote (c : Nat) : Bool := [34, 39].contains c
noncomputable def keepB (k c : Nat) : Bool := match k with
 | 0 => false | 1 => blank c | 2 => !(blank c || c == 62) | 3 => blank c | 4 => false | 5 => blank c
 | 6 => !(c == 34 || c == 62) | 7 => !(c == 39 || c == 62) | 8 => false | 9 => blank c | 10 => false | 11 => blank c
 | 12 => !(c == 34 || c == 62) | 13 => !(c == 39 || c == 62) | 14 => blank c | _ => !(c == 62)
noncomputable def partK (k : Nat) : Bool := [2, 6, 7, 12, 13].contains k
noncomputable def put (c : Nat) : Nat := if c = 0 then 65533 else c
noncomputable def keepF (k c : Nat) : List Nat := if partK k then (if c = 0 then f_inv else []) else []
noncomputable def keepU (k c : Nat) (q : Part) : Part := if k = 2 then { q with name := q.name ++ [put c] } else if k = 6 ∨ k = 7 then { q with pub := q.pub.map (· ++ [put c]) } else if k = 12 ∨ k = 13 then { q with sys := q.sys.map (· ++ [put c]) } else q
noncomputable def shutF (k : Nat) : List Nat := match k with
 | 1 => f_gtName | 5 => f_eod | 6 => f_eod | 7 => f_eod | 11 => f_unx | 12 => f_eod | 13 => f_eod | _ => []
noncomputable def lostF (k : Nat) : List Nat := match k with
 | 0 => f_eofName | 1 => f_eofName | 2 => f_eofInName | 15 => [] | _ => f_eof
noncomputable def leaveF (k : Nat) : Option Nat → Nat × List Nat × Nat
 | none => (0, lostF k, 16)
 | some c =>
  if c = 62 ∧ ¬ (k = 0 ∨ k = 4 ∨ k = 10) then (1, shutF k, 16)
  else if (k = 0 ∨ k = 4 ∨ k = 8 ∨ k = 10) ∧ blank c = true then (1, [], k + 1)
  else if k = 0 then (0, f_need, 1)
  else if k = 4 ∨ k = 10 then (0, if quote c then f_unx else [], k + 1)
  else if k = 1 then (1, if c = 0 then f_inv else [], 2)
  else if k = 2 then (1, [], 3)
  else if k = 3 then (0, nBroken, 15)
  else if partK k then (1, [], if k < 8 then 8 else 14)
  else if quote c = true ∧ k ≠ 14 then (1, if k = 8 then f_unx else [], (if k = 5 then 6 else 12) + (if c = 34 then 0 else 1))
  else (1, f_unx, 15)
noncomputable def lowS (s : List Nat) : List Nat := s.map low1
noncomputable def leave1 (k : Nat) (sg : Option Nat) (after : Nat) (q : Part) : Part := if k = 1 ∧ after = 2 then { q with name := [put (sg.getD 0)] } else q
noncomputable def leave2 (k : Nat) (q : Part) : Part := if k = 2 then { q with name := lowS q.name } else q
noncomputable def leave3 (after : Nat) (q : Part) : Part := if after = 6 ∨ after = 7 then { q with pub := some [] } else q
noncomputable def leave4 (after : Nat) (q : Part) : Part := if after = 12 ∨ after = 13 then { q with sys := some [] } else q
noncomputable def leave5 (k : Nat) (fault : List Nat) (after : Nat) (q : Part) : Part := if (after = 16 ∧ fault ≠ []) ∨ (after = 15 ∧ k ≠ 14) then { q with ok := false } else q
noncomputable def leaveU (k : Nat) (sg : Option Nat) (fault : List Nat) (after : Nat) (q : Part) : Part := leave5 k fault after (leave4 after (leave3 after (leave2 k (leave1 k sg after q))))
noncomputable def stAddr (a : Nat) : Nat := [654, 661, 668, 675, 682, 689, 696, 703, 710, 717, 724, 731, 738, 745, 752, 759, 304].getD a 0
structure Goes where
 adv : Nat
 fault : List Nat
 after : Nat
 part : Part
noncomputable def goes (k : Nat) (sg : Option Nat) (q : Part) : Goes := match sg with
 | none => ⟨0, lostF k, 16, leaveU k none (lostF k) 16 q⟩
 | some c => if keepB k c then ⟨1, keepF k c, k, keepU k c q⟩ else ⟨(leaveF k sg).1, (leaveF k sg).2.1, (leaveF k sg).2.2, leaveU k sg (leaveF k sg).2.1 (leaveF k sg).2.2 q⟩
noncomputable def stOf (k : Nat) (sg : Option Nat) (after : Nat) : AV := if after = k ∧ ¬ (k = 2 ∧ sg = some 0) then .none else .meth (stAddr after) 0
noncomputable def strmAfter (adv : Nat) (p r : List Nat) : Option Nat → AObj
 | none => .strm (1114113 :: p) []
 | some c => if adv = 1 then .strm (c :: p) r else .strm (1114113 :: p) (c :: r)
noncomputable def sgAV : Option Nat → AV
 | none => .none
 | some c => .str [c]
noncomputable def errs (b : Bool) (fault : List Nat) (x : AV) : List AObj := if fault = [] then [] else if b then [.dict [(kData, x)], .dict [(kType, .int 7), (kData, .str fault), (kVars, .ref 4)]] else [.dict [(kType, .int 7), (kData, .str fault)]]
noncomputable def queueOf (b : Bool) (fault : List Nat) (after : Nat) : List AV := (if fault = [] then [] else if b then [.ref 5] else [.ref 4]) ++ (if after = 16 then [.ref 3] else [])
noncomputable def brk (k : Nat) (sg : Option Nat) : Bool := k == 3 && (match sg with
 | none => false
 | some c => !(keepB 3 c) && !(c == 62))
noncomputable def after1 (k : Nat) (sg : Option Nat) (p r : List Nat) (q : Part) : List AObj :=
 [tokO .any (stOf k sg (goes k sg q).after), strmAfter (goes k sg q).adv p r sg, .list (queueOf (brk k sg) (goes k sg q).fault (goes k sg q).after), dtok (goes k sg q).part] ++ errs (brk k sg) (goes k sg q).fault (sgAV sg)
noncomputable def kwc (c : Nat) : Bool := [112, 80, 115, 83].contains c
noncomputable abbrev before1 (p r : List Nat) (q : Part) : List AObj := [tokO .any .none, .strm p r, .list [], dtok q]
noncomputable abbrev sgs : List (Option Nat) := none :: alphaN.map some
noncomputable def kss (ks : List Nat) : List (Nat × Option Nat) := ks.flatMap fun k => sgs.map fun s => (k, s)
theorem mem_kss {ks : List Nat} {k : Nat} {s : Option Nat} (hk : k ∈ ks) (hs : ∀ c, s = some c → c ∈ alphaN) : (k, s) ∈ kss ks :=
 List.mem_flatMap.mpr ⟨k, hk, List.mem_map.mpr ⟨s, match s, hs with
  | none, _ => List.mem_cons_self
  | some c, h => List.mem_cons_of_mem _ (List.mem_map.mpr ⟨c, h c rfl, rfl⟩), rfl⟩⟩
noncomputable abbrev ks16 : List Nat := [0, 1, 2, 3, 4, 5, 6, 7, 8, 9, 10, 11, 12, 13, 14, 15]
noncomputable def leftB (x : Nat × Option Nat) : Bool := match x.2 with
 | none => true
 | some c => !keepB x.1 c && (x.1 != 3 || c == 62)
section
variable {p r : List Nat} {n : List Nat} {pb sy : Option (List Nat)} {b : Bool} {s : List Nat}
noncomputable def inpS (r : List Nat) : Option Nat → List Nat
 | none => []
 | some c => c :: r
noncomputable def rstS (r : List Nat) : Option Nat → List Nat
 | none => []
 | some _ => r
noncomputable def qK (k : Nat) (n : List Nat) (pb sy : Option (List Nat)) (b : Bool) (s : List Nat) : Part := ⟨n, if k = 6 ∨ k = 7 then some s else pb, if k = 12 ∨ k = 13 then some s else sy, b⟩
noncomputable def kwB' (x : Nat × Option Nat) : Bool := match x.2 with
 | none => true
 | some c => !(x.1 == 3 && kwc c)
noncomputable abbrev CallG (p r : List Nat) (k : Nat) (sg : Option Nat) (q : Part) : Prop := Ok (f_law_call [.ref 0, .int k] (before1 p (inpS r sg) q)) (.bool true, after1 k sg p (rstS r sg) q)
theorem call_all : ∀ x ∈ kss [0, 1, 3, 4, 5, 8, 9, 10, 11, 14, 15], kwB' x = true → CallG p r x.1 x.2 ⟨n, pb, sy, b⟩ :=
 all_rf (by kernel_rfl) (by kernel_rfl)
noncomputable def mK (x : Nat × Option Nat) : List (Nat × Nat) := match x.2 with
 | none => if x.1 = 2 then [(0, 0), (1, 0), (0, 1)] else [(0, 0), (0, 1)]
 | some c => if x.1 = 2 then (if c = 62 then [(1, 0), (0, 0)] else if blank c then [(1, 0)] else if c = 0 then [(0, 0), (2, 65533)] else [(2, c)])
  else if keepB x.1 c then (if c = 0 then [(0, 0), (2, 65533)] else [(2, c)]) else if c = 62 then [(0, 0), (0, 1)] else []
theorem call_sym : ∀ x ∈ kss [2, 6, 7, 12, 13], (fun _ => true) x = true → (if x.1 = 2 then n else s).length ≤ 4000 → CallG p r x.1 x.2 (qK x.1 n pb sy b s) :=
 all_sy (M := mK) (by kernel_rfl)
end
theorem Ok.forBrk {a : AV → Loc → List AObj → Res (Loc × List AObj)} {f : BodyF} {v x : AV} {n k : Nat} {loc loc1 loc2 : Loc} {ob ob1 ob2 : List AObj} (h0 : itemAt v k ob = some (some x)) (h1 : Ok (a x loc ob) (loc1, ob1)) (h2 : Ok (f loc1 ob1) (.brk, loc2, ob2)) : Ok (forG a f v (n + 1) k loc ob) (.next, loc2, ob2) := by
 unfold forG
 rw [h0]
 exact Ok.bnd h1 (Ok.bnd h2 Ok.fine)
theorem itemT {xs : List AV} {k : Nat} {ob : List AObj} {r : Option AV} (h : xs[k]? = r) : itemAt (.tup xs) k ob = some r := by
 show some xs[k]? = some r
 rw [h]
noncomputable def kwM : List Nat → List Nat → Nat
 | [], _ => 0
 | _ :: _, [] => 0
 | w :: ws, c :: r => if low1 c = w then kwM ws r + 1 else 0
noncomputable abbrev kwB : List PS := [(.asg (.loc 1) (.meth (.attr (.loc 0) w42) w71 [])), (.ife (.cmp (.loc 1) [.notin] [(.loc 3)]) [(.asg (.loc 2) (.bool false)), .brk] [])]
noncomputable abbrev kwI (w : Nat) : AV := .tup [.str [w], .str [w - 32]]
noncomputable abbrev kwL (d : AV) (b : Bool) (y : Option AV) : Loc := [some (.ref 0), some d, some (.bool b), y, none, none, none]
noncomputable abbrev kwO (p r : List Nat) (q : Part) : List AObj := before1 p r q
noncomputable def kwT (w c : Nat) (p r : List Nat) (q : Part) : Fl × St := if low1 c = w then (.next, kwL (.str [c]) true (some (kwI w)), kwO (c :: p) r q) else (.brk, kwL (.str [c]) false (some (kwI w)), kwO (c :: p) r q)
section
variable {p r : List Nat} {q : Part} {d : AV} {y : Option AV}
structure Turns (ws : List Nat) (f : BodyF) : Prop where
 sign : ∀ w ∈ ws, ∀ c ∈ alphaN, ∀ (d : AV) (p r : List Nat) (q : Part), Ok (f (kwL d true (some (kwI w))) (kwO p (c :: r) q)) (kwT w c p r q)
 none : ∀ w ∈ ws, ∀ (d : AV) (p : List Nat) (q : Part), Ok (f (kwL d true (some (kwI w))) (kwO p [] q)) (.brk, kwL .none false (some (kwI w)), kwO (1114113 :: p) [] q)
theorem kw_loop {ws : List Nat} {f : BodyF} (H : Turns ws f) : ∀ (m : Nat) (vs : List Nat) (k n : Nat) (d : AV) (y : Option AV) (p r : List Nat), vs.length = m → ws.drop k = vs → m < n → (∀ c ∈ r, c ∈ alphaN) →
  ∃ d' y', Ok (forG (asg TO0 20 (.loc 3)) f (.tup (ws.map kwI)) n k (kwL d true y) (kwO p r q)) (if kwM vs r = m then (.next, kwL d' true y', kwO ((r.take m).reverse ++ p) (r.drop m) q) else
   (.next, kwL (sgAV (r[kwM vs r]?)) false y', match r[kwM vs r]? with
    | some x => kwO (x :: ((r.take (kwM vs r)).reverse ++ p)) (r.drop (kwM vs r + 1)) q
    | none => kwO (1114113 :: ((r.take (kwM vs r)).reverse ++ p)) [] q)) := by
 intro m vs
 induction vs generalizing m with
 | nil =>
  intro k n d y p r hm hv hn hr
  cases n with
  | zero => exact absurd hn (Nat.not_lt_zero _)
  | succ n =>
  cases (show 0 = m from hm)
  have hend : (ws.map kwI)[k]? = none := by
   have := congrArg List.length hv
   rw [List.length_drop, List.length_nil] at this
   rw [List.getElem?_eq_none_iff, List.length_map]; exact Nat.le_of_sub_eq_zero this
  exact ⟨d, y, Ok.forEnd (itemT hend)⟩
 | cons w vs ih =>
  intro k n d y p r hm hv hn hr
  cases n with
  | zero => exact absurd hn (Nat.not_lt_zero _)
  | succ n =>
  cases m with
  | zero => exact nomatch hm
  | succ m =>
  have hwk : ws[k]? = some w := by
   have : (ws.drop k)[0]? = some w := by rw [hv]; rfl
   simpa [List.getElem?_drop] using this
  have hw : w ∈ ws := List.mem_of_getElem? hwk
  have hv' : ws.drop (k + 1) = vs := by
   rw [← List.drop_drop, hv]; rfl
  have hit : (ws.map kwI)[k]? = some (kwI w) := by rw [List.getElem?_map, hwk]; rfl
  have hasg : Ok (asg TO0 20 (.loc 3) (kwI w) (kwL d true y) (kwO p r q)) (kwL d true (some (kwI w)), kwO p r q) := Ok.k
  clear hv hwk
  cases r with
  | nil =>
   exact ⟨d, some (kwI w), Ok.forBrk (itemT hit) hasg (H.none w hw d p q)⟩
  | cons c r =>
   have ht := H.sign w hw c (hr c (List.mem_cons_self ..)) d p r q
   unfold kwT at ht
   by_cases hc : low1 c = w
   ·rw [if_pos hc] at ht
    obtain ⟨d', y', ih⟩ := ih m (k + 1) n (.str [c]) (some (kwI w)) (c :: p) r (Nat.succ.inj hm) hv' (Nat.lt_of_succ_lt_succ hn) fun x hx => hr x (List.mem_cons_of_mem _ hx)
    refine ⟨d', y', Ok.forItem (itemT hit) hasg ht ?_⟩
    have e : kwM (w :: vs) (c :: r) = kwM vs r + 1 := if_pos hc
    rw [e]
    by_cases hk : kwM vs r = m
    ·rw [if_pos hk] at ih
     rw [if_pos (congrArg Nat.succ hk), List.take_succ_cons, List.reverse_cons, List.append_assoc]
     exact ih
    ·rw [if_neg hk] at ih
     rw [if_neg fun q => hk (Nat.succ.inj q), List.getElem?_cons_succ, List.take_succ_cons, List.reverse_cons, List.append_assoc]
     exact ih
   ·rw [if_neg hc] at ht
    have e : kwM (w :: vs) (c :: r) = 0 := if_neg hc
    rw [e]
    exact ⟨d, some (kwI w), Ok.forBrk (itemT hit) hasg ht⟩
theorem mem_pairs {ws ks : List Nat} {w c : Nat} (hw : w ∈ ws) (hc : c ∈ ks) : (w, c) ∈ ws.flatMap fun w => ks.map fun c => (w, c) := List.mem_flatMap.mpr ⟨w, hw, List.mem_map.mpr ⟨c, hc, rfl⟩⟩
theorem turnsP : Turns [117, 98, 108, 105, 99] (exs (ex TO0 NN 15) kwB) where
 sign w hw c hc d p r q := all_rf (p := fun _ => true) (l := [117, 98, 108, 105, 99].flatMap fun w => alphaN.map fun c => (w, c)) (E := fun x => exs (ex TO0 NN 15) kwB (kwL d true (some (kwI x.1))) (kwO p (x.2 :: r) q)) (F := fun x => kwT x.1 x.2 p r q) (by kernel_rfl) (by kernel_rfl) (w, c) (mem_pairs hw hc) rfl
 none w hw d p q := all_rf (p := fun _ => true) (E := fun w => exs (ex TO0 NN 15) kwB (kwL d true (some (kwI w))) (kwO p [] q)) (F := fun w => (Fl.brk, kwL .none false (some (kwI w)), kwO (1114113 :: p) [] q)) (by kernel_rfl) (by kernel_rfl) w hw rfl
theorem turnsS : Turns [121, 115, 116, 101, 109] (exs (ex TO0 NN 14) kwB) where
 sign w hw c hc d p r q := all_rf (p := fun _ => true) (l := [121, 115, 116, 101, 109].flatMap fun w => alphaN.map fun c => (w, c)) (E := fun x => exs (ex TO0 NN 14) kwB (kwL d true (some (kwI x.1))) (kwO p (x.2 :: r) q)) (F := fun x => kwT x.1 x.2 p r q) (by kernel_rfl) (by kernel_rfl) (w, c) (mem_pairs hw hc) rfl
 none w hw d p q := all_rf (p := fun _ => true) (E := fun w => exs (ex TO0 NN 14) kwB (kwL d true (some (kwI w))) (kwO p [] q)) (F := fun w => (Fl.brk, kwL .none false (some (kwI w)), kwO (1114113 :: p) [] q)) (by kernel_rfl) (by kernel_rfl) w hw rfl
end
section
variable {p r : List Nat} {q : Part} {d : AV} {y : Option AV} {ob' : List AObj}
theorem call3 {v : AV} (h : Ok (f_Tn [.ref 0] (before1 p r q)) (v, ob')) : Ok (f_law_call [.ref 0, .int 3] (before1 p r q)) (v, ob') := by
 refine Ok.fn (loc1 := [some (.ref 0), some (.int 3)]) rfl ?_
 refine Ok.step (Ok.ifF (ob1 := before1 p r q) (Ok.k) Ok.nil) ?_
 refine Ok.step (Ok.ifF (ob1 := before1 p r q) (Ok.k) Ok.nil) ?_
 refine Ok.step (Ok.ifF (ob1 := before1 p r q) (Ok.k) Ok.nil) ?_
 refine Ok.ret (Ok.ifT (ob1 := before1 p r q) (Ok.k) (Ok.ret (Ok.rt ?_)))
 exact Ok.meth (v := .ref 0) (ob1 := before1 p r q) (m := .fn 675 (.ref 0)) (vs := []) (ob2 := before1 p r q) (Ok.k) (by kernel_rfl) (Ok.k) (Ok.cv (r' := f_Tn [.ref 0] (before1 p r q)) (by kernel_rfl) h)
noncomputable abbrev kwRest : List PS := [(.expr (.meth (.attr (.loc 0) w42) w72 [(.loc 1)])), (.expr (.meth (.attr (.loc 0) w37) w6 [(.dict [(.str w30), (.str w39), (.str w41)] [(.sub (.glob 9) (.str w40)), (.str w73), (.dict [(.str w39)] [(.loc 1)])])])), (.asg (.sub (.attr (.loc 0) w36) (.str w34)) (.bool false)), (.asg (.attr (.loc 0) w38) (.attr (.loc 0) w29))]
noncomputable abbrev kwEnd (x : AV) (p r : List Nat) (q : Part) : List AObj := [tokO .any (.meth 759 0), .strm (1114113 :: p) r, .list [.ref 5], dtok { q with ok := false }, .dict [(kData, x)], .dict [(kType, .int 7), (kData, .str nBroken), (kVars, .ref 4)]]
theorem rest_sign : ∀ x ∈ alphaN, ∀ (y : Option AV) (p r : List Nat) (q : Part), Ok (exs (ex TO0 NN 17) kwRest (kwL (.str [x]) false y) (kwO (x :: p) r q)) (.next, kwL (.str [x]) false y, kwEnd (.str [x]) p (x :: r) q) := by
 intro x hx y p r q
 exact all_rf (p := fun _ => true) (l := alphaN) (E := fun x => exs (ex TO0 NN 17) kwRest (kwL (.str [x]) false y) (kwO (x :: p) r q)) (F := fun x => (Fl.next, kwL (.str [x]) false y, kwEnd (.str [x]) p (x :: r) q)) (by kernel_rfl) (by kernel_rfl) x hx rfl
theorem rest_none : Ok (exs (ex TO0 NN 17) kwRest (kwL .none false y) (kwO (1114113 :: p) [] q)) (.next, kwL .none false y, [tokO .any (.meth 759 0), .strm (1114113 :: p) [], .list [.ref 5], dtok { q with ok := false }, .dict [(kData, .none)], .dict [(kType, .int 7), (kData, .str nBroken), (kVars, .ref 4)]]) := Ok.k
theorem kwP112 (hr : ∀ c ∈ r, c ∈ alphaN) : Ok (f_law_call [.ref 0, .int 3] (before1 p (112 :: r) q)) (.bool true, if kwM [117, 98, 108, 105, 99] r = 5 then [tokO .any (.meth 682 0), .strm ((r.take 5).reverse ++ (112 :: p)) (r.drop 5), .list [], dtok q] else kwEnd (sgAV (r[kwM [117, 98, 108, 105, 99] r]?)) ((r.take (kwM [117, 98, 108, 105, 99] r)).reverse ++ (112 :: p)) (r.drop (kwM [117, 98, 108, 105, 99] r)) q) := by
 refine call3 ?_
 obtain ⟨d', y', hl⟩ := kw_loop (q := q) turnsP 5 [117, 98, 108, 105, 99] 0 NN (.str [112]) none (112 :: p) r rfl rfl (by unfold NN; exact Nat.lt_of_sub_eq_succ rfl) hr
 have h1 : Ok (ex TO0 NN 20 (.asg (.loc 1) (.meth (.attr (.loc 0) w42) w71 [])) [some (.ref 0), none, none, none, none, none, none] (before1 p (112 :: r) q)) (.next, [some (.ref 0), some (.str [112]), none, none, none, none, none], kwO (112 :: p) r q) := (Ok.k)
 by_cases hm : kwM [117, 98, 108, 105, 99] r = 5
 ·rw [if_pos hm] at hl ⊢
  refine Ok.fn (loc1 := kwL d' true y') rfl (Ok.step h1 (Ok.ret ?_))
  refine Ok.ifF (ob1 := kwO (112 :: p) r q) (Ok.k) (Ok.ret (Ok.ifF (ob1 := kwO (112 :: p) r q) (Ok.k) (Ok.ret (Ok.ifF (ob1 := kwO (112 :: p) r q) (Ok.k) (Ok.ret ?_)))))
  exact Ok.ifT (ob1 := kwO (112 :: p) r q) (Ok.k) (Ok.step (loc1 := kwL (.str [112]) true none) (ob1 := kwO (112 :: p) r q) (Ok.k) (Ok.step (Ok.for' (v := .tup ([117, 98, 108, 105, 99].map kwI)) (ob1 := kwO (112 :: p) r q) (Ok.k) rfl hl) (Ok.ret (Ok.ifT (ob1 := kwO ((r.take 5).reverse ++ (112 :: p)) (r.drop 5) q) (Ok.k) (Ok.step (loc1 := kwL d' true y') (ob1 := [tokO .any (.meth 682 0), .strm ((r.take 5).reverse ++ (112 :: p)) (r.drop 5), .list [], dtok q]) (Ok.k) (Ok.ret (Ok.rt (Ok.k))))))))
 ·rw [if_neg hm] at hl ⊢
  have fin : Ok (exs (ex TO0 NN 17) kwRest (kwL (sgAV (r[kwM [117, 98, 108, 105, 99] r]?)) false y') (match r[kwM [117, 98, 108, 105, 99] r]? with
    | some x => kwO (x :: ((r.take (kwM [117, 98, 108, 105, 99] r)).reverse ++ (112 :: p))) (r.drop (kwM [117, 98, 108, 105, 99] r + 1)) q
    | none => kwO (1114113 :: ((r.take (kwM [117, 98, 108, 105, 99] r)).reverse ++ (112 :: p))) [] q)) (.next, kwL (sgAV (r[kwM [117, 98, 108, 105, 99] r]?)) false y', kwEnd (sgAV (r[kwM [117, 98, 108, 105, 99] r]?)) ((r.take (kwM [117, 98, 108, 105, 99] r)).reverse ++ (112 :: p)) (r.drop (kwM [117, 98, 108, 105, 99] r)) q) := by
   cases hx : r[kwM [117, 98, 108, 105, 99] r]? with
   | none =>
    have : r.drop (kwM [117, 98, 108, 105, 99] r) = [] := List.drop_eq_nil_of_le (List.getElem?_eq_none_iff.mp hx)
    rw [this]
    exact rest_none
   | some x =>
    rw [drop_cons hx]
    exact rest_sign x (hr x (List.mem_of_getElem? hx)) y' _ _ q
  refine Ok.fn (loc1 := kwL (sgAV (r[kwM [117, 98, 108, 105, 99] r]?)) false y') rfl (Ok.step h1 (Ok.step (loc1 := kwL (sgAV (r[kwM [117, 98, 108, 105, 99] r]?)) false y') (ob1 := kwEnd (sgAV (r[kwM [117, 98, 108, 105, 99] r]?)) ((r.take (kwM [117, 98, 108, 105, 99] r)).reverse ++ (112 :: p)) (r.drop (kwM [117, 98, 108, 105, 99] r)) q) ?_ (Ok.k)))
  refine Ok.ifF (ob1 := kwO (112 :: p) r q) (Ok.k) (Ok.step (Ok.ifF (ob1 := kwO (112 :: p) r q) (Ok.k) (Ok.step (Ok.ifF (ob1 := kwO (112 :: p) r q) (Ok.k) (Ok.step ?_ fin)) Ok.nil)) Ok.nil)
  exact Ok.ifT (ob1 := kwO (112 :: p) r q) (Ok.k) (Ok.step (loc1 := kwL (.str [112]) true none) (ob1 := kwO (112 :: p) r q) (Ok.k) (Ok.step (Ok.for' (v := .tup ([117, 98, 108, 105, 99].map kwI)) (ob1 := kwO (112 :: p) r q) (Ok.k) rfl hl) (Ok.step (Ok.ifF (Ok.k) Ok.nil) Ok.nil)))
theorem kwP80 (hr : ∀ c ∈ r, c ∈ alphaN) : Ok (f_law_call [.ref 0, .int 3] (before1 p (80 :: r) q)) (.bool true, if kwM [117, 98, 108, 105, 99] r = 5 then [tokO .any (.meth 682 0), .strm ((r.take 5).reverse ++ (80 :: p)) (r.drop 5), .list [], dtok q] else kwEnd (sgAV (r[kwM [117, 98, 108, 105, 99] r]?)) ((r.take (kwM [117, 98, 108, 105, 99] r)).reverse ++ (80 :: p)) (r.drop (kwM [117, 98, 108, 105, 99] r)) q) := by
 refine call3 ?_
 obtain ⟨d', y', hl⟩ := kw_loop (q := q) turnsP 5 [117, 98, 108, 105, 99] 0 NN (.str [80]) none (80 :: p) r rfl rfl (by unfold NN; exact Nat.lt_of_sub_eq_succ rfl) hr
 have h1 : Ok (ex TO0 NN 20 (.asg (.loc 1) (.meth (.attr (.loc 0) w42) w71 [])) [some (.ref 0), none, none, none, none, none, none] (before1 p (80 :: r) q)) (.next, [some (.ref 0), some (.str [80]), none, none, none, none, none], kwO (80 :: p) r q) := (Ok.k)
 by_cases hm : kwM [117, 98, 108, 105, 99] r = 5
 ·rw [if_pos hm] at hl ⊢
  refine Ok.fn (loc1 := kwL d' true y') rfl (Ok.step h1 (Ok.ret ?_))
  refine Ok.ifF (ob1 := kwO (80 :: p) r q) (Ok.k) (Ok.ret (Ok.ifF (ob1 := kwO (80 :: p) r q) (Ok.k) (Ok.ret (Ok.ifF (ob1 := kwO (80 :: p) r q) (Ok.k) (Ok.ret ?_)))))
  exact Ok.ifT (ob1 := kwO (80 :: p) r q) (Ok.k) (Ok.step (loc1 := kwL (.str [80]) true none) (ob1 := kwO (80 :: p) r q) (Ok.k) (Ok.step (Ok.for' (v := .tup ([117, 98, 108, 105, 99].map kwI)) (ob1 := kwO (80 :: p) r q) (Ok.k) rfl hl) (Ok.ret (Ok.ifT (ob1 := kwO ((r.take 5).reverse ++ (80 :: p)) (r.drop 5) q) (Ok.k) (Ok.step (loc1 := kwL d' true y') (ob1 := [tokO .any (.meth 682 0), .strm ((r.take 5).reverse ++ (80 :: p)) (r.drop 5), .list [], dtok q]) (Ok.k) (Ok.ret (Ok.rt (Ok.k))))))))
 ·rw [if_neg hm] at hl ⊢
  have fin : Ok (exs (ex TO0 NN 17) kwRest (kwL (sgAV (r[kwM [117, 98, 108, 105, 99] r]?)) false y') (match r[kwM [117, 98, 108, 105, 99] r]? with
    | some x => kwO (x :: ((r.take (kwM [117, 98, 108, 105, 99] r)).reverse ++ (80 :: p))) (r.drop (kwM [117, 98, 108, 105, 99] r + 1)) q
    | none => kwO (1114113 :: ((r.take (kwM [117, 98, 108, 105, 99] r)).reverse ++ (80 :: p))) [] q)) (.next, kwL (sgAV (r[kwM [117, 98, 108, 105, 99] r]?)) false y', kwEnd (sgAV (r[kwM [117, 98, 108, 105, 99] r]?)) ((r.take (kwM [117, 98, 108, 105, 99] r)).reverse ++ (80 :: p)) (r.drop (kwM [117, 98, 108, 105, 99] r)) q) := by
   cases hx : r[kwM [117, 98, 108, 105, 99] r]? with
   | none =>
    have : r.drop (kwM [117, 98, 108, 105, 99] r) = [] := List.drop_eq_nil_of_le (List.getElem?_eq_none_iff.mp hx)
    rw [this]
    exact rest_none
   | some x =>
    rw [drop_cons hx]
    exact rest_sign x (hr x (List.mem_of_getElem? hx)) y' _ _ q
  refine Ok.fn (loc1 := kwL (sgAV (r[kwM [117, 98, 108, 105, 99] r]?)) false y') rfl (Ok.step h1 (Ok.step (loc1 := kwL (sgAV (r[kwM [117, 98, 108, 105, 99] r]?)) false y') (ob1 := kwEnd (sgAV (r[kwM [117, 98, 108, 105, 99] r]?)) ((r.take (kwM [117, 98, 108, 105, 99] r)).reverse ++ (80 :: p)) (r.drop (kwM [117, 98, 108, 105, 99] r)) q) ?_ (Ok.k)))
  refine Ok.ifF (ob1 := kwO (80 :: p) r q) (Ok.k) (Ok.step (Ok.ifF (ob1 := kwO (80 :: p) r q) (Ok.k) (Ok.step (Ok.ifF (ob1 := kwO (80 :: p) r q) (Ok.k) (Ok.step ?_ fin)) Ok.nil)) Ok.nil)
  exact Ok.ifT (ob1 := kwO (80 :: p) r q) (Ok.k) (Ok.step (loc1 := kwL (.str [80]) true none) (ob1 := kwO (80 :: p) r q) (Ok.k) (Ok.step (Ok.for' (v := .tup ([117, 98, 108, 105, 99].map kwI)) (ob1 := kwO (80 :: p) r q) (Ok.k) rfl hl) (Ok.step (Ok.ifF (Ok.k) Ok.nil) Ok.nil)))
theorem kwS115 (hr : ∀ c ∈ r, c ∈ alphaN) : Ok (f_law_call [.ref 0, .int 3] (before1 p (115 :: r) q)) (.bool true, if kwM [121, 115, 116, 101, 109] r = 5 then [tokO .any (.meth 724 0), .strm ((r.take 5).reverse ++ (115 :: p)) (r.drop 5), .list [], dtok q] else kwEnd (sgAV (r[kwM [121, 115, 116, 101, 109] r]?)) ((r.take (kwM [121, 115, 116, 101, 109] r)).reverse ++ (115 :: p)) (r.drop (kwM [121, 115, 116, 101, 109] r)) q) := by
 refine call3 ?_
 obtain ⟨d', y', hl⟩ := kw_loop (q := q) turnsS 5 [121, 115, 116, 101, 109] 0 NN (.str [115]) none (115 :: p) r rfl rfl (by unfold NN; exact Nat.lt_of_sub_eq_succ rfl) hr
 have h1 : Ok (ex TO0 NN 20 (.asg (.loc 1) (.meth (.attr (.loc 0) w42) w71 [])) [some (.ref 0), none, none, none, none, none, none] (before1 p (115 :: r) q)) (.next, [some (.ref 0), some (.str [115]), none, none, none, none, none], kwO (115 :: p) r q) := (Ok.k)
 by_cases hm : kwM [121, 115, 116, 101, 109] r = 5
 ·rw [if_pos hm] at hl ⊢
  refine Ok.fn (loc1 := kwL d' true y') rfl (Ok.step h1 (Ok.ret ?_))
  refine Ok.ifF (ob1 := kwO (115 :: p) r q) (Ok.k) (Ok.ret (Ok.ifF (ob1 := kwO (115 :: p) r q) (Ok.k) (Ok.ret (Ok.ifF (ob1 := kwO (115 :: p) r q) (Ok.k) (Ok.ret ?_)))))
  exact Ok.ifF (ob1 := kwO (115 :: p) r q) (Ok.k) (Ok.ret (Ok.ifT (ob1 := kwO (115 :: p) r q) (Ok.k) (Ok.step (loc1 := kwL (.str [115]) true none) (ob1 := kwO (115 :: p) r q) (Ok.k) (Ok.step (Ok.for' (v := .tup ([121, 115, 116, 101, 109].map kwI)) (ob1 := kwO (115 :: p) r q) (Ok.k) rfl hl) (Ok.ret (Ok.ifT (ob1 := kwO ((r.take 5).reverse ++ (115 :: p)) (r.drop 5) q) (Ok.k) (Ok.step (loc1 := kwL d' true y') (ob1 := [tokO .any (.meth 724 0), .strm ((r.take 5).reverse ++ (115 :: p)) (r.drop 5), .list [], dtok q]) (Ok.k) (Ok.ret (Ok.rt (Ok.k))))))))))
 ·rw [if_neg hm] at hl ⊢
  have fin : Ok (exs (ex TO0 NN 17) kwRest (kwL (sgAV (r[kwM [121, 115, 116, 101, 109] r]?)) false y') (match r[kwM [121, 115, 116, 101, 109] r]? with
    | some x => kwO (x :: ((r.take (kwM [121, 115, 116, 101, 109] r)).reverse ++ (115 :: p))) (r.drop (kwM [121, 115, 116, 101, 109] r + 1)) q
    | none => kwO (1114113 :: ((r.take (kwM [121, 115, 116, 101, 109] r)).reverse ++ (115 :: p))) [] q)) (.next, kwL (sgAV (r[kwM [121, 115, 116, 101, 109] r]?)) false y', kwEnd (sgAV (r[kwM [121, 115, 116, 101, 109] r]?)) ((r.take (kwM [121, 115, 116, 101, 109] r)).reverse ++ (115 :: p)) (r.drop (kwM [121, 115, 116, 101, 109] r)) q) := by
   cases hx : r[kwM [121, 115, 116, 101, 109] r]? with
   | none =>
    have : r.drop (kwM [121, 115, 116, 101, 109] r) = [] := List.drop_eq_nil_of_le (List.getElem?_eq_none_iff.mp hx)
    rw [this]
    exact rest_none
   | some x =>
    rw [drop_cons hx]
    exact rest_sign x (hr x (List.mem_of_getElem? hx)) y' _ _ q
  refine Ok.fn (loc1 := kwL (sgAV (r[kwM [121, 115, 116, 101, 109] r]?)) false y') rfl (Ok.step h1 (Ok.step (loc1 := kwL (sgAV (r[kwM [121, 115, 116, 101, 109] r]?)) false y') (ob1 := kwEnd (sgAV (r[kwM [121, 115, 116, 101, 109] r]?)) ((r.take (kwM [121, 115, 116, 101, 109] r)).reverse ++ (115 :: p)) (r.drop (kwM [121, 115, 116, 101, 109] r)) q) ?_ (Ok.k)))
  refine Ok.ifF (ob1 := kwO (115 :: p) r q) (Ok.k) (Ok.step (Ok.ifF (ob1 := kwO (115 :: p) r q) (Ok.k) (Ok.step (Ok.ifF (ob1 := kwO (115 :: p) r q) (Ok.k) (Ok.step ?_ fin)) Ok.nil)) Ok.nil)
  exact Ok.ifF (ob1 := kwO (115 :: p) r q) (Ok.k) (Ok.step (Ok.ifT (ob1 := kwO (115 :: p) r q) (Ok.k) (Ok.step (loc1 := kwL (.str [115]) true none) (ob1 := kwO (115 :: p) r q) (Ok.k) (Ok.step (Ok.for' (v := .tup ([121, 115, 116, 101, 109].map kwI)) (ob1 := kwO (115 :: p) r q) (Ok.k) rfl hl) (Ok.step (Ok.ifF (Ok.k) Ok.nil) Ok.nil)))) Ok.nil)
theorem kwS83 (hr : ∀ c ∈ r, c ∈ alphaN) : Ok (f_law_call [.ref 0, .int 3] (before1 p (83 :: r) q)) (.bool true, if kwM [121, 115, 116, 101, 109] r = 5 then [tokO .any (.meth 724 0), .strm ((r.take 5).reverse ++ (83 :: p)) (r.drop 5), .list [], dtok q] else kwEnd (sgAV (r[kwM [121, 115, 116, 101, 109] r]?)) ((r.take (kwM [121, 115, 116, 101, 109] r)).reverse ++ (83 :: p)) (r.drop (kwM [121, 115, 116, 101, 109] r)) q) := by
 refine call3 ?_
 obtain ⟨d', y', hl⟩ := kw_loop (q := q) turnsS 5 [121, 115, 116, 101, 109] 0 NN (.str [83]) none (83 :: p) r rfl rfl (by unfold NN; exact Nat.lt_of_sub_eq_succ rfl) hr
 have h1 : Ok (ex TO0 NN 20 (.asg (.loc 1) (.meth (.attr (.loc 0) w42) w71 [])) [some (.ref 0), none, none, none, none, none, none] (before1 p (83 :: r) q)) (.next, [some (.ref 0), some (.str [83]), none, none, none, none, none], kwO (83 :: p) r q) := (Ok.k)
 by_cases hm : kwM [121, 115, 116, 101, 109] r = 5
 ·rw [if_pos hm] at hl ⊢
  refine Ok.fn (loc1 := kwL d' true y') rfl (Ok.step h1 (Ok.ret ?_))
  refine Ok.ifF (ob1 := kwO (83 :: p) r q) (Ok.k) (Ok.ret (Ok.ifF (ob1 := kwO (83 :: p) r q) (Ok.k) (Ok.ret (Ok.ifF (ob1 := kwO (83 :: p) r q) (Ok.k) (Ok.ret ?_)))))
  exact Ok.ifF (ob1 := kwO (83 :: p) r q) (Ok.k) (Ok.ret (Ok.ifT (ob1 := kwO (83 :: p) r q) (Ok.k) (Ok.step (loc1 := kwL (.str [83]) true none) (ob1 := kwO (83 :: p) r q) (Ok.k) (Ok.step (Ok.for' (v := .tup ([121, 115, 116, 101, 109].map kwI)) (ob1 := kwO (83 :: p) r q) (Ok.k) rfl hl) (Ok.ret (Ok.ifT (ob1 := kwO ((r.take 5).reverse ++ (83 :: p)) (r.drop 5) q) (Ok.k) (Ok.step (loc1 := kwL d' true y') (ob1 := [tokO .any (.meth 724 0), .strm ((r.take 5).reverse ++ (83 :: p)) (r.drop 5), .list [], dtok q]) (Ok.k) (Ok.ret (Ok.rt (Ok.k))))))))))
 ·rw [if_neg hm] at hl ⊢
  have fin : Ok (exs (ex TO0 NN 17) kwRest (kwL (sgAV (r[kwM [121, 115, 116, 101, 109] r]?)) false y') (match r[kwM [121, 115, 116, 101, 109] r]? with
    | some x => kwO (x :: ((r.take (kwM [121, 115, 116, 101, 109] r)).reverse ++ (83 :: p))) (r.drop (kwM [121, 115, 116, 101, 109] r + 1)) q
    | none => kwO (1114113 :: ((r.take (kwM [121, 115, 116, 101, 109] r)).reverse ++ (83 :: p))) [] q)) (.next, kwL (sgAV (r[kwM [121, 115, 116, 101, 109] r]?)) false y', kwEnd (sgAV (r[kwM [121, 115, 116, 101, 109] r]?)) ((r.take (kwM [121, 115, 116, 101, 109] r)).reverse ++ (83 :: p)) (r.drop (kwM [121, 115, 116, 101, 109] r)) q) := by
   cases hx : r[kwM [121, 115, 116, 101, 109] r]? with
   | none =>
    have : r.drop (kwM [121, 115, 116, 101, 109] r) = [] := List.drop_eq_nil_of_le (List.getElem?_eq_none_iff.mp hx)
    rw [this]
    exact rest_none
   | some x =>
    rw [drop_cons hx]
    exact rest_sign x (hr x (List.mem_of_getElem? hx)) y' _ _ q
  refine Ok.fn (loc1 := kwL (sgAV (r[kwM [121, 115, 116, 101, 109] r]?)) false y') rfl (Ok.step h1 (Ok.step (loc1 := kwL (sgAV (r[kwM [121, 115, 116, 101, 109] r]?)) false y') (ob1 := kwEnd (sgAV (r[kwM [121, 115, 116, 101, 109] r]?)) ((r.take (kwM [121, 115, 116, 101, 109] r)).reverse ++ (83 :: p)) (r.drop (kwM [121, 115, 116, 101, 109] r)) q) ?_ (Ok.k)))
  refine Ok.ifF (ob1 := kwO (83 :: p) r q) (Ok.k) (Ok.step (Ok.ifF (ob1 := kwO (83 :: p) r q) (Ok.k) (Ok.step (Ok.ifF (ob1 := kwO (83 :: p) r q) (Ok.k) (Ok.step ?_ fin)) Ok.nil)) Ok.nil)
  exact Ok.ifF (ob1 := kwO (83 :: p) r q) (Ok.k) (Ok.step (Ok.ifT (ob1 := kwO (83 :: p) r q) (Ok.k) (Ok.step (loc1 := kwL (.str [83]) true none) (ob1 := kwO (83 :: p) r q) (Ok.k) (Ok.step (Ok.for' (v := .tup ([121, 115, 116, 101, 109].map kwI)) (ob1 := kwO (83 :: p) r q) (Ok.k) rfl hl) (Ok.step (Ok.ifF (Ok.k) Ok.nil) Ok.nil)))) Ok.nil)
end
theorem slice_one {l : List Nat} {i : Nat} : (l.take (i + 1)).drop i = l[i]?.toList := by
 cases h : l[i]? with
 | none =>
  have := List.getElem?_eq_none_iff.mp h
  rw [List.drop_eq_nil_of_le (by rw [List.length_take]; omega)]; rfl
 | some c =>
  have := (List.getElem?_eq_some_iff.mp h).1
  rw [List.take_add_one, h, List.drop_append_of_le_length (by rw [List.length_take]; omega), List.drop_eq_nil_of_le (by rw [List.length_take]; omega)]; rfl
section
variable {tx : List Nat} {P k : Nat} {ob : List AObj} {x : Option AV}
noncomputable abbrev lvL (tx : List Nat) (P k : Nat) (sg : Option AV) (a b c : Option AV) : Loc := [some (.str tx), some (.int P), some (.int k), sg, a, b, c, none, none, none, none, none, none]
theorem leave_sign (hl : tx.length ≤ 3000) (hP : P ≤ 3000) : Ok (ex TO0 NN 20 (.asg (.loc 3) (.slc (.loc 0) (some (.loc 1)) (some (.bin .add (.loc 1) (.int 1))))) (lvL tx P k none none none none) ob) (.next, lvL tx P k (some (.str tx[P]?.toList)) none none none, ob) := by
 have hs : Ok (slcS (.str tx) (some (P : Int)) (some ((P + 1 : Nat) : Int)) ob) (.str tx[P]?.toList, ob) := by rw [← slice_one]; exact Ok.slS (by omega) (by omega) (by omega)
 exact Ok.asgL (Ok.slc (x := .str tx) (y := .int P) (z := .int ((P + 1 : Nat) : Int)) (ob1 := ob) (ob2 := ob) (ob3 := ob) (Ok.k) (Ok.k) (Ok.k) rfl rfl hs) (Nat.le_of_ble_eq_true rfl)
noncomputable def lvR (P adv : Nat) (fault : List Nat) (after : Nat) : AV := .tup [.int ((P + adv : Nat) : Int), .str fault, .int (after : Int)]
theorem lv_all : ∀ x ∈ kss ks16, leftB x = true → ∃ loc' ob', Ok (exs (ex TO0 NN 20) (b_law_leave.drop 1) (lvL tx P x.1 (some (.str x.2.toList)) none none none) []) (.ret (lvR P (leaveF x.1 x.2).1 (leaveF x.1 x.2).2.1 (leaveF x.1 x.2).2.2), loc', ob') :=
 all_ret (by kernel_rfl) (by kernel_rfl)
end
section
variable {T : Tab} {N n : Nat} {loc : Loc} {ob ob1 ob2 : List AObj}
theorem Ok.and2T {t : PE → Loc → List AObj → Res (Bool × List AObj)} {a b : PE} {r : Bool} (h1 : Ok (t a loc ob) (true, ob1)) (h2 : Ok (t b loc ob1) (r, ob2)) : Ok (tvs t true [a, b] loc ob) (r, ob2) := by
 refine Ok.bnd h1 (Ok.bnd h2 ?_)
 cases r
 ·exact Ok.fine
 ·exact Ok.fine
theorem Ok.and2F {t : PE → Loc → List AObj → Res (Bool × List AObj)} {a : PE} {r : List PE} (h1 : Ok (t a loc ob) (false, ob1)) : Ok (tvs t true (a :: r) loc ob) (false, ob1) := Ok.bnd h1 Ok.fine
theorem lt_test {a b : Nat} {t : Bool} (h : decide (a < b) = t) : cmpS T .lt (.int (a : Int)) (.int (b : Int)) ob = some t := by
 show some (decide ((a : Int) < (b : Int))) = some t
 rw [← h]
 congr 1
 exact decide_eq_decide.mpr Int.ofNat_lt
theorem eqS_test {a b : List Nat} {t : Bool} (h : decide (a = b) = t) : cmpS T .eq (.str a) (.str b) ob = some t := by
 have : eqS (.str a) (.str b) = some t := by
  show some (decide (a = b)) = some t
  rw [h]
 exact cmp_eq this
end
section
variable {tx : List Nat} {P : Nat} {sg qt : Option AV}
noncomputable abbrev w3T : PE := (.bop true [(.cmp (.loc 6) [.lt] [(.int 6)]), (.cmp (.call (.glob 3) [(.slc (.loc 0) (some (.bin .add (.loc 1) (.loc 6))) (some (.bin .add (.bin .add (.loc 1) (.loc 6)) (.int 1))))]) [.eq] [(.sub (.loc 5) (.loc 6))])])
noncomputable abbrev lv3L (tx : List Nat) (P : Nat) (sg qt : Option AV) (W : List Nat) (s : Nat) : Loc := lvL tx P 3 sg qt (some (.str W)) (some (.int s))
theorem lv3_test {W : List Nat} {s w : Nat} (hw : W[s]? = some w) (hs : s < 6) (hW : W.length ≤ 6) (hl : tx.length ≤ 3000) (hP : P ≤ 3000) : Ok (tv TO0 20 w3T (lv3L tx P sg qt W s) []) (decide (tx[P + s]?.toList.map low1 = [w]), []) := by
 have h1 : Ok (tv TO0 19 (.cmp (.loc 6) [.lt] [(.int 6)]) (lv3L tx P sg qt W s) []) (true, []) := Ok.tcmp (x := .int s) (ob1 := []) (y := .int (6 : Nat)) (Ok.k) (Ok.k) (lt_test (decide_eq_true hs))
 have hsl : Ok (slcS (.str tx) (some ((P + s : Nat) : Int)) (some ((P + s + 1 : Nat) : Int)) []) (.str tx[P + s]?.toList, []) := by rw [← slice_one]; exact Ok.slS (by lia) (by lia) (by lia)
 have h2 : Ok (ev TO0 17 (.slc (.loc 0) (some (.bin .add (.loc 1) (.loc 6))) (some (.bin .add (.bin .add (.loc 1) (.loc 6)) (.int 1)))) (lv3L tx P sg qt W s) []) (.str tx[P + s]?.toList, []) :=
  Ok.slc (x := .str tx) (y := .int ((P + s : Nat) : Int)) (z := .int ((P + s + 1 : Nat) : Int)) (ob1 := []) (ob2 := []) (ob3 := []) (Ok.k) (Ok.k) (Ok.k) rfl rfl hsl
 have h3 : Ok (ev TO0 18 (.call (.glob 3) [(.slc (.loc 0) (some (.bin .add (.loc 1) (.loc 6))) (some (.bin .add (.bin .add (.loc 1) (.loc 6)) (.int 1))))]) (lv3L tx P sg qt W s) []) (.str (tx[P + s]?.toList.map low1), []) :=
  Ok.call (v := .val (.ref 822)) (ob1 := []) (vs := [.str tx[P + s]?.toList]) (ob2 := []) (Ok.k) (Ok.evs1 h2) (Ok.mk' (l := [(tx[P + s]?.toList).length]) (by kernel_rfl) fun k hk => by rw [List.mem_singleton.mp hk]; cases tx[P + s]? with | none => exact Nat.zero_le _ | some _ => exact Nat.le_of_ble_eq_true rfl)
 refine Ok.and2T h1 (Ok.tcmp h3 (y := .str [w]) (ob2 := []) (Ok.sub (x := .str W) (y := .int s) (ob1 := []) (Ok.k) (Ok.k) (sub_nat hw (by lia))) (eqS_test rfl))
theorem lv3_loop {W : List Nat} (hW : W.length = 6) (hl : tx.length ≤ 3000) (hP : P ≤ 3000) (vs : List Nat) (s n : Nat) (hv : W.drop s = vs) (hn : vs.length < n) :
  Ok (whlL (tv TO0 20 w3T) (exs (ex TO0 NN 18) [(.aug (.loc 6) .add (.int 1))]) n (lv3L tx P sg qt W s) []) (.next, lv3L tx P sg qt W (s + kwM vs (tx.drop (P + s))), []) := by
 induction vs generalizing s n with
 | nil => cases n with
  | zero => exact absurd hn (Nat.not_lt_zero _)
  | succ n =>
   have hs : ¬ s < 6 := Nat.not_lt.mpr (hW ▸ List.drop_eq_nil_iff.mp hv)
   have h1 : Ok (tv TO0 19 (.cmp (.loc 6) [.lt] [(.int 6)]) (lv3L tx P sg qt W s) []) (false, []) := Ok.tcmp (x := .int s) (ob1 := []) (y := .int (6 : Nat)) (Ok.k) (Ok.k) (lt_test (decide_eq_false hs))
   exact Ok.whlF (Ok.and2F h1)
 | cons w vs ih => cases n with
  | zero => exact absurd hn (Nat.not_lt_zero _)
  | succ n =>
  have hd := drop_is hv
  have hs : s < 6 := hW ▸ (List.getElem?_eq_some_iff.mp hd.2).1
  have ht := lv3_test (sg := sg) (qt := qt) hd.2 hs (Nat.le_trans (Nat.le_of_eq hW) (by decide)) hl hP
  cases hx : tx[P + s]? with
  | none =>
   rw [hx] at ht
   rw [List.drop_eq_nil_of_le (List.getElem?_eq_none_iff.mp hx)]
   have e : decide ((Option.toList (none : Option Nat)).map low1 = [w]) = false := decide_eq_false (fun q => nil_no q)
   rw [e] at ht
   exact Ok.whlF ht
  | some c =>
   rw [hx] at ht
   rw [drop_cons hx]
   by_cases hc : low1 c = w
   ·have e : decide ((Option.toList (some c)).map low1 = [w]) = true := decide_eq_true (congrArg (· :: []) hc)
    rw [e] at ht
    have e2 : kwM (w :: vs) (c :: tx.drop (P + s + 1)) = kwM vs (tx.drop (P + (s + 1))) + 1 := if_pos hc
    rw [e2, show s + (kwM vs (tx.drop (P + (s + 1))) + 1) = s + 1 + kwM vs (tx.drop (P + (s + 1))) from (Nat.succ_add s _).symm]
    exact Ok.whlT ht (loc2 := lv3L tx P sg qt W (s + 1)) (ob2 := []) (Ok.k) (ih (s + 1) n hd.1 (Nat.lt_of_succ_lt_succ hn))
   ·have e : decide ((Option.toList (some c)).map low1 = [w]) = false := decide_eq_false (fun q => hc (List.cons.inj q).1)
    rw [e] at ht
    have e2 : kwM (w :: vs) (c :: tx.drop (P + s + 1)) = 0 := if_neg hc
    rw [e2]
    exact Ok.whlF ht
noncomputable abbrev wP : List Nat := [112, 117, 98, 108, 105, 99]
noncomputable abbrev wS : List Nat := [115, 121, 115, 116, 101, 109]
noncomputable def isP (c : Nat) : Bool := c == 112 || c == 80
noncomputable def wordOf (c : Nat) : List Nat := if isP c then wP else wS
noncomputable abbrev w3Blk : List PS := [(.asg (.loc 5) (.ite (.cmp (.loc 3) [.isin] [(.tup [(.str [112]), (.str [80])])]) (.str w11) (.str w12))), (.asg (.loc 6) (.int 0)), (.whl none w3T [(.aug (.loc 6) .add (.int 1))]), (.ife (.cmp (.loc 6) [.lt] [(.int 6)]) [(.ret (.tup [(.bin .add (.loc 1) (.loc 6)), (.glob 4), (.int 15)]))] []), (.ret (.tup [(.bin .add (.loc 1) (.int 6)), (.str []), (.ite (.cmp (.loc 5) [.eq] [(.str w11)]) (.int 4) (.int 10))]))]
theorem kwM_le (W r : List Nat) : kwM W r ≤ W.length := by
 induction W generalizing r with
 | nil => exact Nat.le_refl _
 | cons w ws ih => cases r with
  | nil => exact Nat.zero_le _
  | cons c r =>
   show (if low1 c = w then kwM ws r + 1 else 0) ≤ _
   split
   ·exact Nat.succ_le_succ (ih r)
   ·exact Nat.zero_le _
theorem w3_ret {sg qt : AV} {W : List Nat} {af : Nat} (h2 : Ok (ev TO0 19 (.ite (.cmp (.loc 5) [.eq] [(.str w11)]) (.int 4) (.int 10)) (lv3L tx P (some sg) (some qt) W 6) []) (.int (af : Nat), [])) :
  Ok (ex TO0 NN 19 (.ret (.tup [(.bin .add (.loc 1) (.int 6)), (.str []), (.ite (.cmp (.loc 5) [.eq] [(.str w11)]) (.int 4) (.int 10))])) (lv3L tx P (some sg) (some qt) W 6) []) (.ret (lvR P 6 [] af), lv3L tx P (some sg) (some qt) W 6, []) := by
 have ha : Ok (ev TO0 19 (.bin .add (.loc 1) (.int 6)) (lv3L tx P (some sg) (some qt) W 6) []) (.int ((P + 6 : Nat) : Int), []) := Ok.k
 have hb : Ok (ev TO0 19 (.str []) (lv3L tx P (some sg) (some qt) W 6) []) (.str [], []) := Ok.k
 have hc : Ok (evs (ev TO0 19) [(.bin .add (.loc 1) (.int 6)), (.str []), (.ite (.cmp (.loc 5) [.eq] [(.str w11)]) (.int 4) (.int 10))] (lv3L tx P (some sg) (some qt) W 6) []) ([.int ((P + 6 : Nat) : Int), .str [], .int (af : Nat)], []) := Ok.evsC ha (Ok.evsC hb (Ok.evs1 h2))
 exact Ok.rt (Ok.tup hc (by simp))
theorem w3_if {sg qt : AV} {W : List Nat} {M : Nat} {t : Bool} (h : decide (M < 6) = t) : Ok (tv TO0 20 (.cmp (.loc 6) [.lt] [(.int 6)]) (lv3L tx P (some sg) (some qt) W M) []) (t, []) := Ok.tcmp (x := .int M) (ob1 := []) (y := .int (6 : Nat)) (Ok.k) (Ok.k) (lt_test h)
theorem w3_broken {sg qt : AV} {W : List Nat} {M : Nat} (h : M < 6) : Ok (ex TO0 NN 19 (.ife (.cmp (.loc 6) [.lt] [(.int 6)]) [(.ret (.tup [(.bin .add (.loc 1) (.loc 6)), (.glob 4), (.int 15)]))] []) (lv3L tx P (some sg) (some qt) W M) []) (.ret (lvR P M nBroken 15), lv3L tx P (some sg) (some qt) W M, []) := Ok.ifT (w3_if (decide_eq_true h)) (Ok.ret (Ok.k))
theorem lv3_block {qt : AV} {W : List Nat} {af : Nat} {sg : AV} (hW : W.length = 6) (hl : tx.length ≤ 3000) (hP : P ≤ 3000)
  (h0 : Ok (exs (ex TO0 NN 20) ((b_law_leave.drop 1).take 8) (lvL tx P 3 (some sg) none none none) []) (.next, lvL tx P 3 (some sg) (some qt) none none, []))
  (h1 : Ok (ex TO0 NN 19 (.asg (.loc 5) (.ite (.cmp (.loc 3) [.isin] [(.tup [(.str [112]), (.str [80])])]) (.str w11) (.str w12))) (lvL tx P 3 (some sg) (some qt) none none) []) (.next, lvL tx P 3 (some sg) (some qt) (some (.str W)) none, []))
  (h2 : Ok (ev TO0 19 (.ite (.cmp (.loc 5) [.eq] [(.str w11)]) (.int 4) (.int 10)) (lv3L tx P (some sg) (some qt) W 6) []) (.int (af : Nat), [])) :
  ∃ loc', Ok (exs (ex TO0 NN 20) (b_law_leave.drop 1) (lvL tx P 3 (some sg) none none none) []) (.ret (if kwM W (tx.drop P) = 6 then lvR P 6 [] af else lvR P (kwM W (tx.drop P)) nBroken 15), loc', []) := by
 have hMW := kwM_le W (tx.drop P)
 have hloop := lv3_loop (sg := some sg) (qt := some qt) hW hl hP W 0 NN rfl (by rw [hW]; unfold NN; exact Nat.lt_of_sub_eq_succ rfl)
 rw [Nat.zero_add, Nat.add_zero] at hloop
 have hz : Ok (ex TO0 NN 19 (.asg (.loc 6) (.int 0)) (lvL tx P 3 (some sg) (some qt) (some (.str W)) none) []) (.next, lv3L tx P (some sg) (some qt) W 0, []) := Ok.k
 have he : b_law_leave.drop 1 = (b_law_leave.drop 1).take 8 ++ (.ife (.cmp (.loc 2) [.eq] [(.int 3)]) w3Blk [] :: (b_law_leave.drop 1).drop 9) := by kernel_rfl
 rw [he]
 have hif : Ok (tv TO0 20 (.cmp (.loc 2) [.eq] [(.int 3)]) (lvL tx P 3 (some sg) (some qt) none none) []) (true, []) := Ok.k
 refine ⟨lv3L tx P (some sg) (some qt) W (kwM W (tx.drop P)), Ok.blk h0 (Ok.ret (Ok.ifT hif (Ok.step h1 (Ok.step hz (Ok.step (Ok.whl (rs := none) hloop) ?_)))))⟩
 by_cases h6 : kwM W (tx.drop P) = 6
 ·rw [if_pos h6, h6]
  exact Ok.step (Ok.ifF (w3_if (decide_eq_false (by exact Nat.lt_irrefl 6))) Ok.nil) (Ok.ret (w3_ret h2))
 ·rw [if_neg h6]
  exact Ok.ret (w3_broken (by lia))
end
theorem mem16 {k : Nat} (h : k < 16) : k ∈ ks16 := List.mem_range.mpr h
theorem left_is {k c : Nat} (h : keepB k c = false) (h3 : ¬ (k = 3 ∧ c ≠ 62)) : leftB (k, some c) = true := by
 show (!keepB k c && (k != 3 || c == 62)) = true
 rw [h]
 cases hk : k == 3 with
 | false => unfold bne; rw [hk]; rfl
 | true => cases hc : c == 62 with
  | true => exact Bool.or_true _
  | false => exact absurd ⟨eq_of_beq hk, ne_of_beq_false hc⟩ h3
theorem k16 {P : Nat → Prop} (h0 : P 0) (h1 : P 1) (h2 : P 2) (h3 : P 3) (h4 : P 4) (h5 : P 5) (h6 : P 6) (h7 : P 7) (h8 : P 8) (h9 : P 9) (h10 : P 10) (h11 : P 11) (h12 : P 12) (h13 : P 13) (h14 : P 14) (h15 : P 15) (k : Nat) (hk : k < 16) : P k := by
 have h : ∀ x ∈ List.range 16, P x := by
  show ∀ x ∈ [0, 1, 2, 3, 4, 5, 6, 7, 8, 9, 10, 11, 12, 13, 14, 15], P x
  have c : ∀ {a : Nat} {l : List Nat}, P a → (∀ x ∈ l, P x) → ∀ x ∈ a :: l, P x := fun h t x hx => (List.mem_cons.mp hx).elim (fun q => q ▸ h) (t x)
  exact c h0 (c h1 (c h2 (c h3 (c h4 (c h5 (c h6 (c h7 (c h8 (c h9 (c h10 (c h11 (c h12 (c h13 (c h14 (c h15 fun _ h => mem_no h)))))))))))))))
 exact h k (List.mem_range.mpr hk)
section
variable {tx : List Nat} {P : Nat}
noncomputable def p3 (c : Nat) : Bool := !keepB 3 c && c != 62
theorem lv3_s (hl : tx.length ≤ 3000) (hP : P ≤ 3000) : ∀ c ∈ alphaN, keepB 3 c = false → c ≠ 62 → ∃ loc', Ok (exs (ex TO0 NN 20) (b_law_leave.drop 1) (lvL tx P 3 (some (.str [c])) none none none) []) (.ret (if kwM (wordOf c) (tx.drop P) = 6 then lvR P 6 [] (if isP c then 4 else 10) else lvR P (kwM (wordOf c) (tx.drop P)) nBroken 15), loc', []) := fun c hc hk h62 =>
 have hp : p3 c = true := by unfold p3; rw [hk, bne_iff_ne.mpr h62]; rfl
 lv3_block (W := wordOf c) (qt := .bool (quote c)) (by unfold wordOf; cases isP c <;> rfl) hl hP
  (all_rf (p := p3) (l := alphaN) (E := fun c => exs (ex TO0 NN 20) ((b_law_leave.drop 1).take 8) (lvL tx P 3 (some (.str [c])) none none none) []) (F := fun c => (Fl.next, lvL tx P 3 (some (.str [c])) (some (.bool (quote c))) none none, [])) (by kernel_rfl) (by kernel_rfl) c hc hp)
  (all_rf (p := p3) (l := alphaN) (E := fun c => ex TO0 NN 19 (.asg (.loc 5) (.ite (.cmp (.loc 3) [.isin] [(.tup [(.str [112]), (.str [80])])]) (.str w11) (.str w12))) (lvL tx P 3 (some (.str [c])) (some (.bool (quote c))) none none) []) (F := fun c => (Fl.next, lvL tx P 3 (some (.str [c])) (some (.bool (quote c))) (some (.str (wordOf c))) none, [])) (by kernel_rfl) (by kernel_rfl) c hc hp)
  (all_rf (p := p3) (l := alphaN) (E := fun c => ev TO0 19 (.ite (.cmp (.loc 5) [.eq] [(.str w11)]) (.int 4) (.int 10)) (lv3L tx P (some (.str [c])) (some (.bool (quote c))) (wordOf c) 6) []) (F := fun c => (.int ((if isP c then 4 else 10 : Nat) : Int), [])) (by kernel_rfl) (by kernel_rfl) c hc hp)
noncomputable def lvG (k : Nat) : List Nat → Nat × List Nat × Nat
 | [] => leaveF k none
 | c :: r => if k = 3 ∧ c ≠ 62 then (if kwM (wordOf c) (c :: r) = 6 then (6, [], if isP c then 4 else 10) else (kwM (wordOf c) (c :: r), nBroken, 15)) else leaveF k (some c)
theorem leave_fn (hl : tx.length ≤ 3000) (hP : P ≤ 3000) {k : Nat} (hk : k < 16) (hs : ∀ c, tx[P]? = some c → c ∈ alphaN ∧ keepB k c = false) : ∃ ob', Ok (f_law_leave [.str tx, .int P, .int k] []) (lvR P (lvG k (tx.drop P)).1 (lvG k (tx.drop P)).2.1 (lvG k (tx.drop P)).2.2, ob') := by
 have h0 := leave_sign (k := k) (ob := []) hl hP
 have main : ∃ loc' ob', Ok (exs (ex TO0 NN 20) (b_law_leave.drop 1) (lvL tx P k (some (.str tx[P]?.toList)) none none none) []) (.ret (lvR P (lvG k (tx.drop P)).1 (lvG k (tx.drop P)).2.1 (lvG k (tx.drop P)).2.2), loc', ob') := by
  cases hx : tx[P]? with
  | none =>
   have hd : tx.drop P = [] := List.drop_eq_nil_of_le (List.getElem?_eq_none_iff.mp hx)
   rw [hd]
   exact lv_all (k, none) (mem_kss (mem16 hk) fun _ h => nO h) rfl
  | some c =>
   obtain ⟨hc, hkp⟩ := hs c hx
   by_cases h3 : k = 3 ∧ c ≠ 62
   ·obtain ⟨rfl, h62⟩ := h3
    obtain ⟨loc', e⟩ := lv3_s hl hP c hc hkp h62
    refine ⟨loc', [], ?_⟩
    have eg : lvG 3 (tx.drop P) = if kwM (wordOf c) (tx.drop P) = 6 then (6, [], if isP c then 4 else 10) else (kwM (wordOf c) (tx.drop P), nBroken, 15) := by
     rw [drop_cons hx]
     exact if_pos ⟨rfl, h62⟩
    rw [eg]
    by_cases h6 : kwM (wordOf c) (tx.drop P) = 6
    ·rw [if_pos h6] at e ⊢; exact e
    ·rw [if_neg h6] at e ⊢; exact e
   ·have eg : lvG k (tx.drop P) = leaveF k (some c) := by
     rw [drop_cons hx]
     exact if_neg h3
    rw [eg]
    exact lv_all (k, some c) (mem_kss (mem16 hk) fun _ e => by injection e with e; exact e ▸ hc) (left_is hkp h3)
 obtain ⟨loc', ob', e⟩ := main
 exact ⟨ob', Ok.fn rfl (Ok.step h0 e)⟩
theorem merge_nil {n : Nat} {ob' : List AObj} {ob : List AObj} {i : Nat} : merge n [] ob' i ob = ob ++ renM (bckO n []) ob' := by
 induction ob generalizing i with
 | nil => rfl
 | cons o r ih => exact congrArg (o :: ·) ih
theorem via0 {p : Fn} {args : List AV} {v : AV} {ob ob' : List AObj} {l : List Nat} (ha : renVs (idx []) args = args) (e : p args [] = some ((v, ob'), l)) : viaF [] p args ob = some ((renV (bckO ob.length []) v, ob ++ renM (bckO ob.length []) ob'), l) :=
 (viaS_of rfl rfl rfl).trans ((onSome_of (by rw [ha]; exact e)).trans (by rw [merge_nil]))
theorem lvR_ren {σ : Nat → Option Nat} {P a : Nat} {f : List Nat} {af : Nat} : renV σ (lvR P a f af) = lvR P a f af := by kernel_rfl
theorem args_ren {σ : Nat → Option Nat} {a b : Int} : renVs σ [.str tx, .int a, .int b] = [.str tx, .int a, .int b] := by kernel_rfl
theorem leave_via {ob : List AObj} (hl : tx.length ≤ 3000) (hP : P ≤ 3000) {k : Nat} (hk : k < 16) (hs : ∀ c, tx[P]? = some c → c ∈ alphaN ∧ keepB k c = false) : ∃ junk, Ok (v_leave [.str tx, .int P, .int k] ob) (lvR P (lvG k (tx.drop P)).1 (lvG k (tx.drop P)).2.1 (lvG k (tx.drop P)).2.2, ob ++ junk) := by
 obtain ⟨ob', l, e, hb⟩ := leave_fn hl hP hk hs
 have h := via0 (ob := ob) args_ren e
 rw [lvR_ren] at h
 exact ⟨renM (bckO ob.length []) ob', l, h, hb⟩
noncomputable def keepsT : List (List Nat × Bool) := [([], true), ([32, 10, 9, 12], true), ([32, 10, 9, 12, 62], false), ([32, 10, 9, 12], true), ([], true), ([32, 10, 9, 12], true), ([34, 62], false), ([39, 62], false), ([], true), ([32, 10, 9, 12], true), ([], true), ([32, 10, 9, 12], true), ([34, 62], false), ([39, 62], false), ([32, 10, 9, 12], true), ([62], false)]
noncomputable def signsK (k : Nat) : List Nat := (keepsT.getD k ([], true)).1
noncomputable def keptK (k : Nat) : Bool := (keepsT.getD k ([], true)).2
noncomputable def keepsAV : List AV := keepsT.map fun x => .tup [.str x.1, .bool x.2]
theorem keep_is {k c : Nat} (hk : k < 16) (hc : c ∈ alphaN) : keepB k c = ((signsK k).contains c == keptK k) := by
 have h : ((List.range 16).all fun k => alphaN.all fun c => keepB k c == ((signsK k).contains c == keptK k)) = true := by kernel_rfl
 have := List.all_eq_true.mp (List.all_eq_true.mp h k (List.mem_range.mpr hk)) c hc
 exact eq_of_beq this
noncomputable abbrev plL (tx : List Nat) (P k : Nat) (a b c d e : Option AV) : Loc := [some (.str tx), some (.int P), some (.int k), some (.ref 0), some (.ref 1), a, b, c, d, e, none, none, none, none, none]
noncomputable abbrev plO (q : Part) (rows : List AV) (junk : List AObj) : List AObj := .list q.avs :: .list rows :: junk
noncomputable abbrev rowAV (k P : Nat) (fault : List Nat) (h after : Nat) : AV := .tup [.int (k : Int), .int (P : Int), .str fault, .ref h, .int (after : Int)]
variable {q : Part} {rows : List AV} {junk : List AObj} {a b c d e : Option AV}
theorem keeps_fn (ob : List AObj) : Ok (f_law_KEEPS [] ob) (.ref ob.length, ob ++ [.list keepsAV]) := Ok.k
theorem keeps_at {k : Nat} (hk : k < 16) : keepsAV[k]? = some (.tup [.str (signsK k), .bool (keptK k)]) := k16 (P := fun k => keepsAV[k]? = some (.tup [.str (signsK k), .bool (keptK k)])) rfl rfl rfl rfl rfl rfl rfl rfl rfl rfl rfl rfl rfl rfl rfl rfl k hk
theorem plan_keeps {k : Nat} (hk : k < 16) : Ok (ex TO1 NN 19 (.asg (.tup [(.loc 5), (.loc 6)]) (.sub (.call (.glob 6) []) (.loc 2))) (plL tx P k a b c d e) (plO q rows junk)) (.next, plL tx P k (some (.str (signsK k))) (some (.bool (keptK k))) c d e, plO q rows (junk ++ [.list keepsAV])) := by
 have h1 : Ok (ev TO1 19 (.call (.glob 6) []) (plL tx P k a b c d e) (plO q rows junk)) (.ref (plO q rows junk).length, plO q rows (junk ++ [.list keepsAV])) := Ok.call (v := .val (.ref 795)) (ob1 := plO q rows junk) (vs := []) (ob2 := plO q rows junk) (Ok.k) Ok.evs0 (Ok.cv (r' := f_law_KEEPS [] (plO q rows junk)) (by kernel_rfl) (keeps_fn (plO q rows junk)))
 have h2 : subS TO1 (.ref (plO q rows junk).length) (.int (k : Int)) (plO q rows (junk ++ [.list keepsAV])) = some (.tup [.str (signsK k), .bool (keptK k)]) := by
  have hl : (plO q rows (junk ++ [.list keepsAV]))[(plO q rows junk).length]? = some (.list keepsAV) := by
   show (plO q rows junk ++ [.list keepsAV])[(plO q rows junk).length]? = _
   rw [List.getElem?_append_right (Nat.le_refl _), Nat.sub_self]; rfl
  exact sub_ref hl (keeps_at hk) (by lia)
 exact Ok.asg (Ok.sub h1 (y := .int k) (ob2 := plO q rows (junk ++ [.list keepsAV])) (Ok.k) h2) (Ok.k)
noncomputable abbrev plT : PE := (.bop true [(.cmp (.loc 1) [.lt] [(.call (.glob 7) [(.loc 0)])]), (.cmp (.cmp (.sub (.loc 0) (.loc 1)) [.isin] [(.loc 5)]) [.eq] [(.loc 6)])])
noncomputable def keptAt (k : Nat) : Option Nat → Bool
 | none => false
 | some c => keepB k c
theorem plan_test {k : Nat} (hk : k < 16) (hl : tx.length ≤ 3000) (hs : ∀ c, tx[P]? = some c → c ∈ alphaN) : Ok (tv TO1 20 plT (plL tx P k (some (.str (signsK k))) (some (.bool (keptK k))) c d e) (plO q rows junk)) (keptAt k tx[P]?, plO q rows junk) := by
 have hlen : ∀ t, decide (P < tx.length) = t → Ok (tv TO1 19 (.cmp (.loc 1) [.lt] [(.call (.glob 7) [(.loc 0)])]) (plL tx P k (some (.str (signsK k))) (some (.bool (keptK k))) c d e) (plO q rows junk)) (t, plO q rows junk) := fun t h =>
  Ok.tcmp (x := .int P) (ob1 := plO q rows junk) (y := .int tx.length) (Ok.k) (Ok.call (v := .val (.builtin "len")) (ob1 := plO q rows junk) (vs := [.str tx]) (ob2 := plO q rows junk) (Ok.k) (Ok.k) (Ok.len (by lia))) (lt_test h)
 cases hx : tx[P]? with
 | none => exact Ok.and2F (hlen false (decide_eq_false (by have := List.getElem?_eq_none_iff.mp hx; lia)))
 | some x =>
  refine Ok.and2T (hlen true (decide_eq_true (List.getElem?_eq_some_iff.mp hx).1)) ?_
  have h1 : Ok (ev TO1 18 (.cmp (.sub (.loc 0) (.loc 1)) [.isin] [(.loc 5)]) (plL tx P k (some (.str (signsK k))) (some (.bool (keptK k))) c d e) (plO q rows junk)) (.bool ((signsK k).contains x), plO q rows junk) := Ok.vcmp (x := .str [x]) (ob1 := plO q rows junk) (y := .str (signsK k)) (Ok.sub (x := .str tx) (y := .int P) (ob1 := plO q rows junk) (Ok.k) (Ok.k) (sub_nat hx (by lia))) (Ok.k) rfl
  refine Ok.tcmp h1 (y := .bool (keptK k)) (ob2 := plO q rows junk) (Ok.k) ?_
  show some ((signsK k).contains x == keptK k) = some (keptAt k (some x))
  rw [← keep_is hk (hs x hx)]; rfl
noncomputable abbrev plB : List PS := [(.asg (.loc 7) (.str [])), (.ife (.cmp (.loc 2) [.isin] [(.glob 5)]) [(.asg (.loc 7) (.ite (.cmp (.sub (.loc 0) (.loc 1)) [.eq] [(.str [0])]) (.str w10) (.str []))), (.aug (.sub (.loc 3) (.sub (.glob 5) (.loc 2))) .add (.ite (.loc 7) (.str [65533]) (.sub (.loc 0) (.loc 1))))] []), (.aug (.loc 1) .add (.int 1)), (.expr (.meth (.loc 4) w6 [(.tup [(.loc 2), (.loc 1), (.loc 7), (.slc (.loc 3) none none), (.loc 2)])]))]
theorem app_obs {rows : List AV} (h : rows.length ≤ 4500) : ∀ k ∈ [4, 5, rows.length], k ≤ 5000 := by
 intro k hk
 rcases List.mem_cons.mp hk with rfl | hk
 ·lia
 rcases List.mem_cons.mp hk with rfl | hk
 ·lia
 rw [List.mem_singleton.mp hk]; lia
theorem Ok.augS {T : Tab} {N n : Nat} {loc : Loc} {ob ob1 ob2 ob3 ob4 : List AObj} {o i e : PE} {op : Op} {ov iv a v z : AV} (h1 : Ok (ev T 20 o loc ob) (ov, ob1)) (h2 : Ok (ev T 20 i loc ob1) (iv, ob2)) (h3 : subS T ov iv ob2 = some a) (h4 : Ok (ev T 20 e loc ob2) (v, ob3)) (h5 : Ok (binS op a v) z) (h6 : setI ov iv z ob3 = some ob4) : Ok (ex T N (n + 1) (.aug (.sub o i) op e) loc ob) (.next, loc, ob4) :=
 Ok.bnd h1 (Ok.bnd h2 (Ok.bnd (Ok.lift h3) (Ok.bnd h4 (Ok.bnd h5 (Ok.bnd (Ok.lift h6) Ok.fine)))))
theorem plan_fault {x : Nat} (hx : tx[P]? = some x) (hl : tx.length ≤ 3000) {k : Nat} : Ok (ex TO1 NN 17 (.asg (.loc 7) (.ite (.cmp (.sub (.loc 0) (.loc 1)) [.eq] [(.str [0])]) (.str w10) (.str []))) (plL tx P k a b c d e) (plO q rows junk)) (.next, plL tx P k a b (some (.str (if x = 0 then f_inv else []))) d e, plO q rows junk) := by
 have ht : ∀ t, decide ([x] = [0]) = t → Ok (tv TO1 19 (.cmp (.sub (.loc 0) (.loc 1)) [.eq] [(.str [0])]) (plL tx P k a b c d e) (plO q rows junk)) (t, plO q rows junk) := fun t h => Ok.tcmp (x := .str [x]) (ob1 := plO q rows junk) (y := .str [0]) (Ok.sub (x := .str tx) (y := .int P) (ob1 := plO q rows junk) (Ok.k) (Ok.k) (sub_nat hx (by lia))) (Ok.k) (eqS_test h)
 by_cases h0 : x = 0
 ·rw [if_pos h0]
  exact Ok.asgL (Ok.iteT (ht true (decide_eq_true (by rw [h0]))) (Ok.k)) (Nat.le_of_ble_eq_true rfl)
 ·rw [if_neg h0]
  exact Ok.asgL (Ok.iteF (ht false (decide_eq_false (fun q => h0 (List.cons.inj q).1))) (Ok.k)) (Nat.le_of_ble_eq_true rfl)
theorem plan_put {x : Nat} (hx : tx[P]? = some x) (hl : tx.length ≤ 3000) {k : Nat} : Ok (ev TO1 20 (.ite (.loc 7) (.str [65533]) (.sub (.loc 0) (.loc 1))) (plL tx P k a b (some (.str (if x = 0 then f_inv else []))) d e) (plO q rows junk)) (.str [put x], plO q rows junk) := by
 unfold put
 by_cases h0 : x = 0
 ·rw [if_pos h0, if_pos h0]
  exact Ok.k
 ·rw [if_neg h0, if_neg h0]
  exact Ok.iteF (ob1 := plO q rows junk) (Ok.k) (Ok.sub (x := .str tx) (y := .int P) (ob1 := plO q rows junk) (Ok.k) (Ok.k) (sub_nat hx (by lia)))
variable {n : List Nat} {pb sy : Option (List Nat)} {bb : Bool} {s : List Nat}
theorem plan_keep {x : Nat} (hr : rows.length ≤ 4500) : ∀ k ∈ [0, 1, 3, 4, 5, 8, 9, 10, 11, 14, 15], Ok (exs (ex TO1 NN 18) plB (plL tx P k a b c d e) (plO ⟨n, pb, sy, bb⟩ rows junk)) (.next, plL tx (P + 1) k a b (some (.str (keepF k x))) d e, plO (keepU k x ⟨n, pb, sy, bb⟩) (rows ++ [rowAV k (P + 1) (keepF k x) (junk.length + 2) k]) (junk ++ [.list (keepU k x ⟨n, pb, sy, bb⟩).avs])) := fun k hk =>
 Ok.blk (a := plB.take 3) (b := plB.drop 3)
  (all_rf (p := fun _ => true) (l := [0, 1, 3, 4, 5, 8, 9, 10, 11, 14, 15]) (E := fun k => exs (ex TO1 NN 18) (plB.take 3) (plL tx P k a b c d e) (plO ⟨n, pb, sy, bb⟩ rows junk)) (F := fun k => (Fl.next, plL tx (P + 1) k a b (some (.str (keepF k x))) d e, plO (keepU k x ⟨n, pb, sy, bb⟩) rows junk)) (by kernel_rfl) (by kernel_rfl) k hk rfl)
  (Ok.step (Ok.mk' (l := [4, 5, rows.length]) (by kernel_rfl) (app_obs hr)) Ok.nil)
theorem plan_keep2 {x : Nat} (hx : tx[P]? = some x) (hl : tx.length ≤ 3000) (hs : n.length ≤ 4000) (hr : rows.length ≤ 4500) : Ok (exs (ex TO1 NN 18) plB (plL tx P 2 a b c d e) (plO ⟨n, pb, sy, bb⟩ rows junk)) (.next, plL tx (P + 1) 2 a b (some (.str (keepF 2 x))) d e, plO (keepU 2 x ⟨n, pb, sy, bb⟩) (rows ++ [rowAV 2 (P + 1) (keepF 2 x) (junk.length + 2) 2]) (junk ++ [.list (keepU 2 x ⟨n, pb, sy, bb⟩).avs])) := by
 refine Ok.step (loc1 := plL tx P 2 a b (some (.str [])) d e) (ob1 := plO ⟨n, pb, sy, bb⟩ rows junk) (Ok.k) ?_
 refine Ok.step (loc1 := plL tx P 2 a b (some (.str (if x = 0 then f_inv else []))) d e) (ob1 := plO (keepU 2 x ⟨n, pb, sy, bb⟩) rows junk) (Ok.ifT (ob1 := plO ⟨n, pb, sy, bb⟩ rows junk) (Ok.k) (Ok.step (plan_fault hx hl) (Ok.step (Ok.augS (ov := .ref 0) (ob1 := plO ⟨n, pb, sy, bb⟩ rows junk) (iv := .int 0) (ob2 := plO ⟨n, pb, sy, bb⟩ rows junk) (a := .str n) (Ok.k) (Ok.k) (by kernel_rfl) (plan_put hx hl) (Ok.addS (by rw [List.length_append, List.length_singleton]; lia)) (by kernel_rfl)) Ok.nil))) ?_
 refine Ok.step (loc1 := plL tx (P + 1) 2 a b (some (.str (if x = 0 then f_inv else []))) d e) (ob1 := plO (keepU 2 x ⟨n, pb, sy, bb⟩) rows junk) (Ok.k) ?_
 exact Ok.step (Ok.mk' (l := [4, 5, rows.length]) (by kernel_rfl) (app_obs hr)) Ok.nil
theorem plan_keep6 {x : Nat} (hx : tx[P]? = some x) (hl : tx.length ≤ 3000) (hs : s.length ≤ 4000) (hr : rows.length ≤ 4500) : Ok (exs (ex TO1 NN 18) plB (plL tx P 6 a b c d e) (plO ⟨n, some s, sy, bb⟩ rows junk)) (.next, plL tx (P + 1) 6 a b (some (.str (keepF 6 x))) d e, plO (keepU 6 x ⟨n, some s, sy, bb⟩) (rows ++ [rowAV 6 (P + 1) (keepF 6 x) (junk.length + 2) 6]) (junk ++ [.list (keepU 6 x ⟨n, some s, sy, bb⟩).avs])) := by
 refine Ok.step (loc1 := plL tx P 6 a b (some (.str [])) d e) (ob1 := plO ⟨n, some s, sy, bb⟩ rows junk) (Ok.k) ?_
 refine Ok.step (loc1 := plL tx P 6 a b (some (.str (if x = 0 then f_inv else []))) d e) (ob1 := plO (keepU 6 x ⟨n, some s, sy, bb⟩) rows junk) (Ok.ifT (ob1 := plO ⟨n, some s, sy, bb⟩ rows junk) (Ok.k) (Ok.step (plan_fault hx hl) (Ok.step (Ok.augS (ov := .ref 0) (ob1 := plO ⟨n, some s, sy, bb⟩ rows junk) (iv := .int 1) (ob2 := plO ⟨n, some s, sy, bb⟩ rows junk) (a := .str s) (Ok.k) (Ok.k) (by kernel_rfl) (plan_put hx hl) (Ok.addS (by rw [List.length_append, List.length_singleton]; lia)) (by kernel_rfl)) Ok.nil))) ?_
 refine Ok.step (loc1 := plL tx (P + 1) 6 a b (some (.str (if x = 0 then f_inv else []))) d e) (ob1 := plO (keepU 6 x ⟨n, some s, sy, bb⟩) rows junk) (Ok.k) ?_
 exact Ok.step (Ok.mk' (l := [4, 5, rows.length]) (by kernel_rfl) (app_obs hr)) Ok.nil
theorem plan_keep7 {x : Nat} (hx : tx[P]? = some x) (hl : tx.length ≤ 3000) (hs : s.length ≤ 4000) (hr : rows.length ≤ 4500) : Ok (exs (ex TO1 NN 18) plB (plL tx P 7 a b c d e) (plO ⟨n, some s, sy, bb⟩ rows junk)) (.next, plL tx (P + 1) 7 a b (some (.str (keepF 7 x))) d e, plO (keepU 7 x ⟨n, some s, sy, bb⟩) (rows ++ [rowAV 7 (P + 1) (keepF 7 x) (junk.length + 2) 7]) (junk ++ [.list (keepU 7 x ⟨n, some s, sy, bb⟩).avs])) := by
 refine Ok.step (loc1 := plL tx P 7 a b (some (.str [])) d e) (ob1 := plO ⟨n, some s, sy, bb⟩ rows junk) (Ok.k) ?_
 refine Ok.step (loc1 := plL tx P 7 a b (some (.str (if x = 0 then f_inv else []))) d e) (ob1 := plO (keepU 7 x ⟨n, some s, sy, bb⟩) rows junk) (Ok.ifT (ob1 := plO ⟨n, some s, sy, bb⟩ rows junk) (Ok.k) (Ok.step (plan_fault hx hl) (Ok.step (Ok.augS (ov := .ref 0) (ob1 := plO ⟨n, some s, sy, bb⟩ rows junk) (iv := .int 1) (ob2 := plO ⟨n, some s, sy, bb⟩ rows junk) (a := .str s) (Ok.k) (Ok.k) (by kernel_rfl) (plan_put hx hl) (Ok.addS (by rw [List.length_append, List.length_singleton]; lia)) (by kernel_rfl)) Ok.nil))) ?_
 refine Ok.step (loc1 := plL tx (P + 1) 7 a b (some (.str (if x = 0 then f_inv else []))) d e) (ob1 := plO (keepU 7 x ⟨n, some s, sy, bb⟩) rows junk) (Ok.k) ?_
 exact Ok.step (Ok.mk' (l := [4, 5, rows.length]) (by kernel_rfl) (app_obs hr)) Ok.nil
theorem plan_keep12 {x : Nat} (hx : tx[P]? = some x) (hl : tx.length ≤ 3000) (hs : s.length ≤ 4000) (hr : rows.length ≤ 4500) : Ok (exs (ex TO1 NN 18) plB (plL tx P 12 a b c d e) (plO ⟨n, pb, some s, bb⟩ rows junk)) (.next, plL tx (P + 1) 12 a b (some (.str (keepF 12 x))) d e, plO (keepU 12 x ⟨n, pb, some s, bb⟩) (rows ++ [rowAV 12 (P + 1) (keepF 12 x) (junk.length + 2) 12]) (junk ++ [.list (keepU 12 x ⟨n, pb, some s, bb⟩).avs])) := by
 refine Ok.step (loc1 := plL tx P 12 a b (some (.str [])) d e) (ob1 := plO ⟨n, pb, some s, bb⟩ rows junk) (Ok.k) ?_
 refine Ok.step (loc1 := plL tx P 12 a b (some (.str (if x = 0 then f_inv else []))) d e) (ob1 := plO (keepU 12 x ⟨n, pb, some s, bb⟩) rows junk) (Ok.ifT (ob1 := plO ⟨n, pb, some s, bb⟩ rows junk) (Ok.k) (Ok.step (plan_fault hx hl) (Ok.step (Ok.augS (ov := .ref 0) (ob1 := plO ⟨n, pb, some s, bb⟩ rows junk) (iv := .int 2) (ob2 := plO ⟨n, pb, some s, bb⟩ rows junk) (a := .str s) (Ok.k) (Ok.k) (by kernel_rfl) (plan_put hx hl) (Ok.addS (by rw [List.length_append, List.length_singleton]; lia)) (by kernel_rfl)) Ok.nil))) ?_
 refine Ok.step (loc1 := plL tx (P + 1) 12 a b (some (.str (if x = 0 then f_inv else []))) d e) (ob1 := plO (keepU 12 x ⟨n, pb, some s, bb⟩) rows junk) (Ok.k) ?_
 exact Ok.step (Ok.mk' (l := [4, 5, rows.length]) (by kernel_rfl) (app_obs hr)) Ok.nil
theorem plan_keep13 {x : Nat} (hx : tx[P]? = some x) (hl : tx.length ≤ 3000) (hs : s.length ≤ 4000) (hr : rows.length ≤ 4500) : Ok (exs (ex TO1 NN 18) plB (plL tx P 13 a b c d e) (plO ⟨n, pb, some s, bb⟩ rows junk)) (.next, plL tx (P + 1) 13 a b (some (.str (keepF 13 x))) d e, plO (keepU 13 x ⟨n, pb, some s, bb⟩) (rows ++ [rowAV 13 (P + 1) (keepF 13 x) (junk.length + 2) 13]) (junk ++ [.list (keepU 13 x ⟨n, pb, some s, bb⟩).avs])) := by
 refine Ok.step (loc1 := plL tx P 13 a b (some (.str [])) d e) (ob1 := plO ⟨n, pb, some s, bb⟩ rows junk) (Ok.k) ?_
 refine Ok.step (loc1 := plL tx P 13 a b (some (.str (if x = 0 then f_inv else []))) d e) (ob1 := plO (keepU 13 x ⟨n, pb, some s, bb⟩) rows junk) (Ok.ifT (ob1 := plO ⟨n, pb, some s, bb⟩ rows junk) (Ok.k) (Ok.step (plan_fault hx hl) (Ok.step (Ok.augS (ov := .ref 0) (ob1 := plO ⟨n, pb, some s, bb⟩ rows junk) (iv := .int 2) (ob2 := plO ⟨n, pb, some s, bb⟩ rows junk) (a := .str s) (Ok.k) (Ok.k) (by kernel_rfl) (plan_put hx hl) (Ok.addS (by rw [List.length_append, List.length_singleton]; lia)) (by kernel_rfl)) Ok.nil))) ?_
 refine Ok.step (loc1 := plL tx (P + 1) 13 a b (some (.str (if x = 0 then f_inv else []))) d e) (ob1 := plO (keepU 13 x ⟨n, pb, some s, bb⟩) rows junk) (Ok.k) ?_
 exact Ok.step (Ok.mk' (l := [4, 5, rows.length]) (by kernel_rfl) (app_obs hr)) Ok.nil
end
noncomputable abbrev plU : List PS := [(.ife (.bop true [(.cmp (.loc 2) [.eq] [(.int 1)]), (.cmp (.loc 9) [.eq] [(.int 2)])]) [(.asg (.sub (.loc 3) (.int 0)) (.ite (.loc 7) (.str [65533]) (.sub (.loc 0) (.loc 1))))] []), (.ife (.cmp (.loc 2) [.eq] [(.int 2)]) [(.asg (.sub (.loc 3) (.int 0)) (.call (.glob 3) [(.sub (.loc 3) (.int 0))]))] []), (.ife (.cmp (.loc 9) [.isin] [(.tup [(.int 6), (.int 7)])]) [(.asg (.sub (.loc 3) (.int 1)) (.str []))] []), (.ife (.cmp (.loc 9) [.isin] [(.tup [(.int 12), (.int 13)])]) [(.asg (.sub (.loc 3) (.int 2)) (.str []))] []), (.ife (.bop false [(.bop true [(.cmp (.loc 9) [.eq] [(.int 16)]), (.cmp (.loc 7) [.ne] [(.str [])])]), (.bop true [(.cmp (.loc 9) [.eq] [(.int 15)]), (.cmp (.loc 2) [.ne] [(.int 14)])])]) [(.asg (.sub (.loc 3) (.int 3)) (.bool false))] []), (.asg (.loc 1) (.loc 8))]
noncomputable abbrev plA : PS := (.expr (.meth (.loc 4) w6 [(.tup [(.loc 2), (.loc 1), (.loc 7), (.slc (.loc 3) none none), (.loc 9)])]))
section
variable {tx : List Nat} {P : Nat} {q : Part} {rows : List AV} {junk : List AObj} {a b c d e : Option AV} {E : Nat}
noncomputable abbrev UpdOk (tx : List Nat) (P : Nat) (q : Part) (rows : List AV) (junk : List AObj) (a b : Option AV) (E : Nat) (k : Nat) (sg : Option Nat) (f : List Nat) (af : Nat) : Prop := Ok (exs (ex TO1 NN 19) plU (plL tx P k a b (some (.str f)) (some (.int E)) (some (.int (af : Nat)))) (plO q rows junk)) (.next, plL tx E k a b (some (.str f)) (some (.int E)) (some (.int (af : Nat))), plO (leaveU k sg f af q) rows junk)
noncomputable def upB (x : Nat × Option Nat) : Bool := match x.2 with
 | none => true
 | some c => !keepB x.1 c && (x.1 != 1 || c == 62)
theorem up_one : ∀ x ∈ kss [0, 1, 3, 4, 5, 6, 7, 8, 9, 10, 11, 12, 13, 14, 15], upB x = true → UpdOk tx P q rows junk a b E x.1 x.2 (leaveF x.1 x.2).2.1 (leaveF x.1 x.2).2.2 :=
 all_rf (by kernel_rfl) (by kernel_rfl)
theorem up_two : ∀ x ∈ kss [2], upB x = true → q.name.length ≤ 4000 → UpdOk tx P q rows junk a b E x.1 x.2 (leaveF x.1 x.2).2.1 (leaveF x.1 x.2).2.2 :=
 all_sy (s := fun _ => q.name) (M := fun _ => [(1, 0), (0, 2), (0, 2)]) (by kernel_rfl)
theorem not2 : ∀ k, k < 16 → k ≠ 2 → k ∈ [0, 1, 3, 4, 5, 6, 7, 8, 9, 10, 11, 12, 13, 14, 15] := by decide
theorem up_all {k : Nat} {sg : Option Nat} (hk : k < 16) (hs : ∀ c, sg = some c → c ∈ alphaN) (hb : upB (k, sg) = true) (hn : q.name.length ≤ 4000) : UpdOk tx P q rows junk a b E k sg (leaveF k sg).2.1 (leaveF k sg).2.2 := by
 cases Nat.decEq k 2 with
 | isTrue h => subst h; exact up_two (2, sg) (mem_kss List.mem_cons_self hs) hb hn
 | isFalse h => exact up_one (k, sg) (mem_kss (not2 k hk h) hs) hb
theorem up_kw4 {c : Nat} : UpdOk tx P q rows junk a b E 3 (some c) [] 4 := Ok.k
theorem up_kw10 {c : Nat} : UpdOk tx P q rows junk a b E 3 (some c) [] 10 := Ok.k
theorem up_kwb {c : Nat} : UpdOk tx P q rows junk a b E 3 (some c) nBroken 15 := Ok.k
theorem up_s1 {x : Nat} (hx : tx[P]? = some x) (hl : tx.length ≤ 3000) : Ok (exs (ex TO1 NN 19) plU (plL tx P 1 a b (some (.str (if x = 0 then f_inv else []))) (some (.int E)) (some (.int (2 : Nat)))) (plO q rows junk)) (.next, plL tx E 1 a b (some (.str (if x = 0 then f_inv else []))) (some (.int E)) (some (.int (2 : Nat))), plO (leaveU 1 (some x) (if x = 0 then f_inv else []) 2 q) rows junk) := by
 have h0 : Ok (ex TO1 NN 19 (.ife (.bop true [(.cmp (.loc 2) [.eq] [(.int 1)]), (.cmp (.loc 9) [.eq] [(.int 2)])]) [(.asg (.sub (.loc 3) (.int 0)) (.ite (.loc 7) (.str [65533]) (.sub (.loc 0) (.loc 1))))] []) (plL tx P 1 a b (some (.str (if x = 0 then f_inv else []))) (some (.int E)) (some (.int (2 : Nat)))) (plO q rows junk)) (.next, plL tx P 1 a b (some (.str (if x = 0 then f_inv else []))) (some (.int E)) (some (.int (2 : Nat))), plO { q with name := [put x] } rows junk) :=
  Ok.ifT (ob1 := plO q rows junk) (Ok.k) (Ok.step (Ok.asg (plan_put hx hl) (Ok.k)) Ok.nil)
 refine Ok.step h0 ?_
 by_cases hz : x = 0
 ·subst hz
  exact (Ok.k)
 ·have e : (if x = 0 then f_inv else ([] : List Nat)) = [] := if_neg hz
  rw [e]
  exact (Ok.k)
end
section
variable {tx : List Nat} {P : Nat} {q : Part} {rows : List AV} {junk : List AObj} {a b c d e : Option AV} {E : Nat}
theorem up_is {k c : Nat} (h : keepB k c = false) (h1 : ¬ (k = 1 ∧ c ≠ 62)) : upB (k, some c) = true := by
 show (!keepB k c && (k != 1 || c == 62)) = true
 rw [h]
 cases hk : k == 1 with
 | false => unfold bne; rw [hk]; rfl
 | true => cases hc : c == 62 with
  | true => exact Bool.or_true _
  | false => exact absurd ⟨eq_of_beq hk, ne_of_beq_false hc⟩ h1
theorem upd_of {k : Nat} {sg : Option Nat} {x : Nat × List Nat × Nat} {F : List Nat} {W : Nat} (h : UpdOk tx P q rows junk a b E k sg x.2.1 x.2.2) {A : Nat} (e : x = (A, F, W)) : UpdOk tx P q rows junk a b E k sg F W := by
 subst e; exact h
theorem plan_upd {k : Nat} (hk : k < 16) (hl : tx.length ≤ 3000) (hs : ∀ c, tx[P]? = some c → c ∈ alphaN ∧ keepB k c = false) {A : Nat} {F : List Nat} {W : Nat} (hz : lvG k (tx.drop P) = (A, F, W)) (hn : q.name.length ≤ 4000) :
  Ok (exs (ex TO1 NN 19) plU (plL tx P k a b (some (.str F)) (some (.int E)) (some (.int (W : Nat)))) (plO q rows junk)) (.next, plL tx E k a b (some (.str F)) (some (.int E)) (some (.int (W : Nat))), plO (leaveU k tx[P]? F W q) rows junk) := by
 cases hx : tx[P]? with
 | none =>
  have hd : tx.drop P = [] := List.drop_eq_nil_of_le (List.getElem?_eq_none_iff.mp hx)
  rw [hd] at hz
  have hz : leaveF k none = (A, F, W) := hz
  exact upd_of (up_all hk (fun _ h => nO h) rfl hn) hz
 | some c =>
  obtain ⟨hc, hkp⟩ := hs c hx
  by_cases h3 : k = 3 ∧ c ≠ 62
  ·obtain ⟨rfl, h62⟩ := h3
   have eg : lvG 3 (tx.drop P) = if kwM (wordOf c) (tx.drop P) = 6 then (6, [], if isP c then 4 else 10) else (kwM (wordOf c) (tx.drop P), nBroken, 15) := by
    rw [drop_cons hx]
    exact if_pos ⟨rfl, h62⟩
   rw [eg] at hz
   by_cases h6 : kwM (wordOf c) (tx.drop P) = 6
   ·rw [if_pos h6] at hz
    cases hp : isP c with
    | true => rw [hp] at hz; cases hz; exact up_kw4
    | false => rw [hp] at hz; cases hz; exact up_kw10
   ·rw [if_neg h6] at hz
    cases hz
    exact up_kwb
  ·have eg : lvG k (tx.drop P) = leaveF k (some c) := by
    rw [drop_cons hx]
    exact if_neg h3
   rw [eg] at hz
   by_cases hu : k = 1 ∧ c ≠ 62
   ·obtain ⟨rfl, h62⟩ := hu
    have e1 : leaveF 1 (some c) = (1, if c = 0 then f_inv else [], 2) := by
     unfold leaveF
     dsimp only
     rw [if_neg (fun z => h62 z.1), if_neg (by intro z; rcases z.1 with z | z | z | z <;> cases z), if_neg (by decide), if_neg (by intro z; rcases z with z | z <;> cases z), if_pos rfl]
    rw [e1] at hz
    cases hz
    exact up_s1 hx hl
   ·exact upd_of (up_all hk (fun _ e => by injection e with e; exact e ▸ hc) (up_is hkp hu) hn) hz
theorem plan_app {k af : Nat} {f : List Nat} (hr : rows.length ≤ 4500) : Ok (ex TO1 NN 19 plA (plL tx P k a b (some (.str f)) d (some (.int (af : Nat)))) (plO q rows junk)) (.next, plL tx P k a b (some (.str f)) d (some (.int (af : Nat))), plO q (rows ++ [rowAV k P f (junk.length + 2) af]) (junk ++ [.list q.avs])) := Ok.mk' (l := [4, 5, rows.length]) (by kernel_rfl) (app_obs hr)
theorem fn_at {T : Tab} {f : Addr} {p : Fn} {as : List AV} {ob : List AObj} (h : T.fns.lookup f = some p) : T.fn f as ob = p as ob := by
 unfold Tab.fn
 rw [h]
theorem callF_at {T : Tab} {f : Addr} {p : Fn} {as : List AV} {ob : List AObj} (h : T.fns.lookup f = some p) : callF T (.val (.ref f)) as ob = p as ob := fn_at h
theorem callM_at {T : Tab} {f : Addr} {p : Fn} {x : AV} {as : List AV} {ob : List AObj} (h : T.fns.lookup f = some p) : callM T (.fn f x) as ob = p (x :: as) ob := fn_at h
theorem TO1_leave : TO1.fns.lookup 829 = some v_leave := by kernel_rfl
theorem plan_call {k : Nat} (hl : tx.length ≤ 3000) (hP : P ≤ 3000) (hk : k < 16) (hs : ∀ c, tx[P]? = some c → c ∈ alphaN ∧ keepB k c = false) {A : Nat} {F : List Nat} {W : Nat} (hz : lvG k (tx.drop P) = (A, F, W)) : ∃ j, Ok (ex TO1 NN 19 (.asg (.tup [(.loc 8), (.loc 7), (.loc 9)]) (.call (.glob 8) [(.loc 0), (.loc 1), (.loc 2)])) (plL tx P k a b c d e) (plO q rows junk)) (.next, plL tx P k a b (some (.str F)) (some (.int ((P + A : Nat) : Int))) (some (.int (W : Nat))), plO q rows (junk ++ j)) := by
 obtain ⟨j, hj⟩ := leave_via (ob := plO q rows junk) hl hP hk hs
 refine ⟨j, ?_⟩
 rw [hz] at hj
 exact Ok.asg (Ok.call (v := .val (.ref 829)) (ob1 := plO q rows junk) (vs := [.str tx, .int P, .int k]) (ob2 := plO q rows junk) (Ok.k) (Ok.k) (Ok.cv (callF_at TO1_leave) hj)) (Ok.k)
end
structure Row where
 k : Nat
 stop : Nat
 fault : List Nat
 part : Part
 after : Nat
noncomputable def stepG (k : Nat) (r : List Nat) (q : Part) : Goes := if keptAt k r.head? then ⟨1, keepF k (r.headD 0), k, keepU k (r.headD 0) q⟩ else ⟨(lvG k r).1, (lvG k r).2.1, (lvG k r).2.2, leaveU k r.head? (lvG k r).2.1 (lvG k r).2.2 q⟩
inductive Chain : Nat → Nat → List Nat → Part → List Row → Prop
 | stop {k P : Nat} {r : List Nat} {q : Part} (h : k = 16) : Chain k P r q []
 | step {k P : Nat} {r : List Nat} {q : Part} {g : Goes} {rs : List Row} (h : k < 16) (e : g = stepG k r q) (t : Chain g.after (P + g.adv) (r.drop g.adv) g.part rs) : Chain k P r q (⟨k, P + g.adv, g.fault, g.part, g.after⟩ :: rs)
noncomputable def RowOk (off : Nat) (junk : List AObj) (v : AV) (w : Row) : Prop := ∃ h, v = rowAV w.k w.stop w.fault (h + off) w.after ∧ junk[h]? = some (.list w.part.avs)
noncomputable def RowsOk (off : Nat) (junk : List AObj) : List AV → List Row → Prop
 | [], [] => True
 | v :: vs, w :: ws => RowOk off junk v w ∧ RowsOk off junk vs ws
 | _, _ => False
theorem RowOk.more {off : Nat} {junk : List AObj} {v : AV} {w : Row} (h : RowOk off junk v w) (m : List AObj) : RowOk off (junk ++ m) v w := by
 obtain ⟨i, h1, h2⟩ := h
 exact ⟨i, h1, by rw [List.getElem?_append_left (List.getElem?_eq_some_iff.mp h2).1]; exact h2⟩
theorem RowsOk.more {off : Nat} {junk : List AObj} {vs : List AV} {ws : List Row} (h : RowsOk off junk vs ws) (m : List AObj) : RowsOk off (junk ++ m) vs ws := by
 induction vs generalizing ws with
 | nil => cases ws with
  | nil => trivial
  | cons _ _ => exact h.elim
 | cons v vs ih => cases ws with
  | nil => exact h.elim
  | cons w ws => exact ⟨h.1.more m, ih h.2⟩
theorem RowsOk.app {off : Nat} {junk : List AObj} {vs : List AV} {ws : List Row} {vs' : List AV} {ws' : List Row} (h1 : RowsOk off junk vs ws) (h : RowsOk off junk vs' ws') : RowsOk off junk (vs ++ vs') (ws ++ ws') := by
 induction vs generalizing ws with
 | nil => cases ws with
  | nil => exact h
  | cons _ _ => exact h1.elim
 | cons v vs ih => cases ws with
  | nil => exact h1.elim
  | cons w ws => exact ⟨h1.1, ih h1.2⟩
structure Fit (k : Nat) (q : Part) (b : Nat) : Prop where
 pub : k = 6 ∨ k = 7 → ∃ s, q.pub = some s
 sys : k = 12 ∨ k = 13 → ∃ s, q.sys = some s
 ln : q.name.length + b ≤ 3900
 lp : ∀ s, q.pub = some s → s.length + b ≤ 3900
 ls : ∀ s, q.sys = some s → s.length + b ≤ 3900
theorem Fit.asK {k b : Nat} {q : Part} (h : Fit k q b) : ∃ s, q = qK k q.name q.pub q.sys q.ok s ∧ s.length ≤ 3900 := by
 have one {s : List Nat} (h1 : k = 6 ∨ k = 7 → q.pub = some s) (h2 : k = 12 ∨ k = 13 → q.sys = some s) : q = qK k q.name q.pub q.sys q.ok s := by
  have e1 : (if k = 6 ∨ k = 7 then some s else q.pub) = q.pub := ite_eq_right_iff.mpr fun z => (h1 z).symm
  have e2 : (if k = 12 ∨ k = 13 then some s else q.sys) = q.sys := ite_eq_right_iff.mpr fun z => (h2 z).symm
  unfold qK
  rw [e1, e2]
 by_cases h6 : k = 6 ∨ k = 7
 ·obtain ⟨s, e⟩ := h.pub h6
  exact ⟨s, one (fun _ => e) (fun z => by rcases h6 with rfl | rfl <;> rcases z with z | z <;> cases z), Nat.le_trans (Nat.le_add_right _ _) (h.lp s e)⟩
 ·by_cases h12 : k = 12 ∨ k = 13
  ·obtain ⟨s, e⟩ := h.sys h12
   exact ⟨s, one (fun z => absurd z h6) (fun _ => e), Nat.le_trans (Nat.le_add_right _ _) (h.ls s e)⟩
  ·exact ⟨[], one (fun z => absurd z h6) (fun z => absurd z h12), Nat.zero_le _⟩
theorem partOf : ∀ k, k < 16 → partK k = true → k = 2 ∨ k = 6 ∨ k = 7 ∨ k = 12 ∨ k = 13 := by decide
theorem notPart : ∀ k, k < 16 → partK k = false → k ∈ [0, 1, 3, 4, 5, 8, 9, 10, 11, 14, 15] := by decide
theorem ite_ind {α : Type} {P : Prop} [Decidable P] {C : α → Prop} {a b : α} (h1 : P → C a) (h2 : C b) : C (if P then a else b) := by
 by_cases h : P
 ·rw [if_pos h]; exact h1 h
 ·rw [if_neg h]; exact h2
theorem len_grow {x : Option (List Nat)} {y b : Nat} (h : ∀ s, x = some s → s.length + (b + 1) ≤ 3900) (s : List Nat) (e : x.map (· ++ [y]) = some s) : s.length + b ≤ 3900 := by
 obtain ⟨s', e1, e2⟩ := Option.map_eq_some_iff.mp e
 rw [← e2, List.length_append, Nat.add_right_comm]; exact h s' e1
theorem some_grow {x : Option (List Nat)} {y : Nat} (h : ∃ s, x = some s) : ∃ s, x.map (· ++ [y]) = some s := by
 obtain ⟨s, e⟩ := h
 exact ⟨s ++ [y], by rw [e]; rfl⟩
theorem Fit.keep {k b c : Nat} {q : Part} (h : Fit k q (b + 1)) : Fit k (keepU k c q) b := by
 have base : Fit k q b := ⟨h.pub, h.sys, Nat.le_of_succ_le h.ln, fun s e => Nat.le_of_succ_le (h.lp s e), fun s e => Nat.le_of_succ_le (h.ls s e)⟩
 refine ite_ind (C := (Fit k · b)) (fun _ => ⟨h.pub, h.sys, ?_, base.lp, base.ls⟩) (ite_ind (C := (Fit k · b)) (fun _ => ⟨fun z => some_grow (h.pub z), h.sys, base.ln, len_grow h.lp, base.ls⟩) (ite_ind (C := (Fit k · b)) (fun _ => ⟨h.pub, fun z => some_grow (h.sys z), base.ln, base.lp, len_grow h.ls⟩) base))
 show (q.name ++ [put c]).length + b ≤ _
 rw [List.length_append, Nat.add_right_comm]; exact h.ln
theorem ite_eq {α β : Type} {P : Prop} [Decidable P] {f : α → β} {a b : α} (h : f a = f b) : f (if P then a else b) = f b := ite_ind (C := fun x => f x = f b) (fun _ => h) rfl
theorem leave5_pub {k af : Nat} {f : List Nat} {q : Part} : (leave5 k f af q).pub = q.pub := ite_eq rfl
theorem leave5_sys {k af : Nat} {f : List Nat} {q : Part} : (leave5 k f af q).sys = q.sys := ite_eq rfl
theorem leave4_pub {af : Nat} {q : Part} : (leave4 af q).pub = q.pub := ite_eq rfl
structure FitB (q : Part) (b : Nat) : Prop where
 ln : q.name.length + b ≤ 3900
 lp : ∀ s, q.pub = some s → s.length + b ≤ 3900
 ls : ∀ s, q.sys = some s → s.length + b ≤ 3900
theorem Fit.leave {k af b b' : Nat} {q : Part} {sg : Option Nat} {f : List Nat} (h : Fit k q b) (hb : b' ≤ b) (hb2 : b' ≤ 3800) : Fit af (leaveU k sg f af q) b' := by
 have le : ∀ {n : Nat}, n + b ≤ 3900 → n + b' ≤ 3900 := Nat.le_trans (Nat.add_le_add_left hb _)
 have lo : ∀ {n : Nat}, n ≤ 100 → n + b' ≤ 3900 := fun h => Nat.add_le_add h hb2
 have nil : ∀ s, some ([] : List Nat) = some s → s.length + b' ≤ 3900 := fun s e => Option.some.inj e ▸ lo (Nat.zero_le _)
 have h0 : FitB q b' := ⟨le h.ln, fun s e => le (h.lp s e), fun s e => le (h.ls s e)⟩
 have h1 : FitB (leave1 k sg af q) b' := ite_ind (C := (FitB · b')) (fun _ => ⟨lo (by decide : 1 ≤ 100), h0.lp, h0.ls⟩) h0
 have h2 : FitB (leave2 k (leave1 k sg af q)) b' := ite_ind (C := (FitB · b')) (fun _ => ⟨(List.length_map low1).symm ▸ h1.ln, h1.lp, h1.ls⟩) h1
 have h3 : FitB (leave3 af (leave2 k (leave1 k sg af q))) b' := ite_ind (C := (FitB · b')) (fun _ => ⟨h2.ln, nil, h2.ls⟩) h2
 have h4 : FitB (leave4 af (leave3 af (leave2 k (leave1 k sg af q)))) b' := ite_ind (C := (FitB · b')) (fun _ => ⟨h3.ln, h3.lp, nil⟩) h3
 have h5 : FitB (leave5 k f af (leave4 af (leave3 af (leave2 k (leave1 k sg af q))))) b' := ite_ind (C := (FitB · b')) (fun _ => ⟨h4.ln, h4.lp, h4.ls⟩) h4
 exact ⟨fun z => ⟨[], leave5_pub.trans (leave4_pub.trans (congrArg Part.pub (if_pos z)))⟩, fun z => ⟨[], leave5_sys.trans (congrArg Part.sys (if_pos z))⟩, h5.ln, h5.lp, h5.ls⟩
section
variable {tx : List Nat} {P : Nat} {q : Part} {rows : List AV} {junk : List AObj} {a b c d e : Option AV}
theorem plan_keep_all {k : Nat} (hk : k < 16) {x : Nat} (hx : tx[P]? = some x) (hl : tx.length ≤ 3000) {bd : Nat} (hf : Fit k q bd) (hr : rows.length ≤ 4500) : Ok (exs (ex TO1 NN 18) plB (plL tx P k a b c d e) (plO q rows junk)) (.next, plL tx (P + 1) k a b (some (.str (keepF k x))) d e, plO (keepU k x q) (rows ++ [rowAV k (P + 1) (keepF k x) (junk.length + 2) k]) (junk ++ [.list (keepU k x q).avs])) := by
 obtain ⟨n, pb, sy, bb⟩ := q
 have hn : n.length + bd ≤ 3900 := hf.ln
 have h4 {m : Nat} (h : m + bd ≤ 3900) : m ≤ 4000 := Nat.le_trans (Nat.le_trans (Nat.le_add_right _ _) h) (Nat.le_of_ble_eq_true rfl)
 cases hp : partK k with
 | false => exact plan_keep hr k (notPart k hk hp)
 | true =>
  rcases partOf k hk hp with rfl | rfl | rfl | rfl | rfl
  ·exact plan_keep2 hx hl (h4 hn) hr
  ·obtain ⟨s, e⟩ := hf.pub (.inl rfl); cases e; exact plan_keep6 hx hl (h4 (hf.lp s rfl)) hr
  ·obtain ⟨s, e⟩ := hf.pub (.inr rfl); cases e; exact plan_keep7 hx hl (h4 (hf.lp s rfl)) hr
  ·obtain ⟨s, e⟩ := hf.sys (.inl rfl); cases e; exact plan_keep12 hx hl (h4 (hf.ls s rfl)) hr
  ·obtain ⟨s, e⟩ := hf.sys (.inr rfl); cases e; exact plan_keep13 hx hl (h4 (hf.ls s rfl)) hr
noncomputable abbrev kS (k : Nat) : Option AV := some (.str (signsK k))
noncomputable abbrev kT (k : Nat) : Option AV := some (.bool (keptK k))
inductive PRes (tx : List Nat) (k P : Nat) (q : Part) (rows : List AV) (junk : List AObj) (x : Res (Fl × St)) (D : Nat → Nat → Nat → Prop) : Prop
 | mk {W P1 R1 : Nat} {q1 : Part} {rows1 : List AV} {junk1 : List AObj} {vs : List AV} {ws : List Row} {m : List AObj} {a b c d e : Option AV} (h : Ok x (.next, plL tx P1 W a b c d e, plO q1 rows1 junk1)) (hR : P1 + R1 = tx.length) (hf : Fit W q1 R1) (e1 : rows1 = rows ++ vs) (e2 : junk1 = junk ++ m) (hr : RowsOk 2 junk1 vs ws) (hc : ∀ rest, Chain W P1 (tx.drop P1) q1 rest → Chain k P (tx.drop P) q (ws ++ rest)) (hD : D W P1 vs.length)
theorem PRes.comp {k P k1 P1 : Nat} {q q1 : Part} {rows rows1 : List AV} {junk junk1 : List AObj} {vs : List AV} {ws : List Row} {m : List AObj} {x y : Res (Fl × St)} {D E : Nat → Nat → Nat → Prop} (e1 : rows1 = rows ++ vs) (e2 : junk1 = junk ++ m) (hr : RowsOk 2 junk1 vs ws) (hc : ∀ rest, Chain k1 P1 (tx.drop P1) q1 rest → Chain k P (tx.drop P) q (ws ++ rest)) (hx : ∀ r, Ok y r → Ok x r) (hD : ∀ W P2 v, E W P2 v → D W P2 (vs.length + v)) (h : PRes tx k1 P1 q1 rows1 junk1 y E) : PRes tx k P q rows junk x D := by
 cases h with
 | mk g gR gf g1 g2 gr gc gD =>
  refine .mk (hx _ g) gR gf (g1.trans ((congrArg (· ++ _) e1).trans (List.append_assoc ..))) (g2.trans ((congrArg (· ++ _) e2).trans (List.append_assoc ..))) (RowsOk.app (g2 ▸ hr.more _) gr) (fun rest h => ?_) (List.length_append ▸ hD _ _ _ gD)
  rw [List.append_assoc]
  exact hc _ (gc _ h)
theorem at_end {l : List Nat} {p r : Nat} {x : Nat} (h : l[p]? = some x) (e : p + r = l.length) : ∃ s, r = s + 1 ∧ p + 1 + s = l.length := by
 have := (List.getElem?_eq_some_iff.mp h).1
 exact ⟨r - 1, by lia, by lia⟩
noncomputable abbrev InnerD (tx : List Nat) (k P : Nat) (W P1 v : Nat) : Prop := W = k ∧ P1 = P + v ∧ keptAt k tx[P1]? = false
theorem inner_d {tx : List Nat} {k P W P2 v : Nat} (h : InnerD tx k (P + 1) W P2 v) : InnerD tx k P W P2 (1 + v) := ⟨h.1, h.2.1.trans (Nat.add_assoc ..), h.2.2⟩
theorem row_at {k P : Nat} {q : Part} {f : List Nat} {af : Nat} {junk : List AObj} : RowsOk 2 (junk ++ [.list q.avs]) [rowAV k P f (junk.length + 2) af] [⟨k, P, f, q, af⟩] := by
 refine ⟨⟨junk.length, rfl, ?_⟩, trivial⟩
 rw [List.getElem?_append_right (Nat.le_refl _), Nat.sub_self]
 rfl
theorem len_snoc {α : Type} {l : List α} {a : α} {m r : Nat} (h : l.length + (r + 1) ≤ m) : (l ++ [a]).length + r ≤ m := by
 rw [List.length_append, List.length_singleton, Nat.add_assoc, Nat.add_comm 1]
 exact h
theorem le_45 {a b : Nat} (h : a + b ≤ 4400) : a ≤ 4500 := by lia
theorem plan_inner {k : Nat} (hk : k < 16) (hl : tx.length ≤ 3000) (ha : ∀ c ∈ tx, c ∈ alphaN) (n R P : Nat) (q : Part) (rows : List AV) (junk : List AObj) (c : Option AV) (hR : P + R = tx.length) (hn : R < n) (hb : rows.length + R ≤ 4400) (hf : Fit k q R) : PRes tx k P q rows junk (whlL (tv TO1 20 plT) (exs (ex TO1 NN 18) plB) n (plL tx P k (kS k) (kT k) c d e) (plO q rows junk)) (InnerD tx k P) := by
 induction n generalizing R P q rows junk c with
 | zero => exact absurd hn (Nat.not_lt_zero _)
 | succ n ih =>
  have ht := plan_test (P := P) (rows := rows) (junk := junk) (q := q) (c := c) (d := d) (e := e) hk hl fun x hx => ha x (List.mem_of_getElem? hx)
  cases hkp : keptAt k tx[P]? with
  | false =>
   rw [hkp] at ht
   exact .mk (vs := []) (ws := []) (Ok.whlF ht) hR hf (List.append_nil _).symm (List.append_nil _).symm trivial (fun _ h => h) ⟨rfl, rfl, hkp⟩
  | true =>
   rw [hkp] at ht
   cases hx : tx[P]? with
   | none => rw [hx] at hkp; cases hkp
   | some x =>
    rw [hx] at hkp
    obtain ⟨S, rfl, hS⟩ := at_end hx hR
    refine PRes.comp rfl rfl row_at (fun rest h => ?_) (fun _ => Ok.whlT ht (plan_keep_all hk hx hl hf (le_45 hb))) (fun _ _ _ => inner_d) (ih S (P + 1) (keepU k x q) _ _ (some (.str (keepF k x))) hS (Nat.lt_of_succ_lt_succ hn) (len_snoc hb) hf.keep)
    rw [drop_cons hx]
    exact Chain.step (g := ⟨1, keepF k x, k, keepU k x q⟩) hk (Eq.symm (if_pos hkp)) h
theorem kwM_len (W r : List Nat) : kwM W r ≤ r.length := by
 induction W generalizing r with
 | nil => exact Nat.zero_le _
 | cons w ws ih => cases r with
  | nil => exact Nat.zero_le _
  | cons c r =>
   show (if low1 c = w then kwM ws r + 1 else 0) ≤ _
   split
   ·exact Nat.succ_le_succ (ih r)
   ·exact Nat.zero_le _
theorem lv_chk : ((List.range 16).all fun k => alphaN.all fun c => Nat.ble (leaveF k (some c)).2.2 16 && Nat.ble (leaveF k (some c)).1 1 && (Nat.beq (leaveF k (some c)).1 1 || Nat.blt k (leaveF k (some c)).2.2)) = true := by kernel_rfl
theorem lvG_meas {k : Nat} (hk : k < 16) {r : List Nat} (hr : ∀ c ∈ r, c ∈ alphaN) {A : Nat} {F : List Nat} {W : Nat} (h : lvG k r = (A, F, W)) : W ≤ 16 ∧ A ≤ r.length ∧ (A = 0 → k < W) := by
 cases r with
 | nil =>
  have h : leaveF k none = (A, F, W) := h
  cases h
  exact ⟨Nat.le_refl _, Nat.le_refl _, fun _ => hk⟩
 | cons c r =>
  unfold lvG at h
  dsimp only at h
  split at h
  ·rename_i h3
   have hl := kwM_len (wordOf c) (c :: r)
   split at h
   ·rename_i h6
    cases h
    refine ⟨by split <;> lia, by lia, fun q => by lia⟩
   ·cases h
    exact ⟨by lia, hl, fun _ => by lia⟩
  ·have hc := List.all_eq_true.mp (List.all_eq_true.mp lv_chk k (List.mem_range.mpr hk)) c (hr c (List.mem_cons_self ..))
   rw [h] at hc
   obtain ⟨h12, h3⟩ := Bool.and_eq_true_iff.mp hc
   obtain ⟨h1, h2⟩ := Bool.and_eq_true_iff.mp h12
   have h1 := Nat.le_of_ble_eq_true h1
   have h2 := Nat.le_of_ble_eq_true h2
   have : 1 ≤ (c :: r).length := by rw [List.length_cons]; lia
   refine ⟨h1, Nat.le_trans h2 this, fun hA => ?_⟩
   rcases Bool.or_eq_true_iff.mp h3 with q | q
   ·have := Nat.eq_of_beq_eq_true q
    rw [hA] at this; cases this
   ·exact Nat.le_of_ble_eq_true q
noncomputable abbrev plW : List PS := [(.asg (.tup [(.loc 5), (.loc 6)]) (.sub (.call (.glob 6) []) (.loc 2))), (.whl none plT plB), (.asg (.tup [(.loc 8), (.loc 7), (.loc 9)]) (.call (.glob 8) [(.loc 0), (.loc 1), (.loc 2)]))] ++ (plU ++ [plA, (.asg (.loc 2) (.loc 9))])
noncomputable abbrev plX : PE := (.cmp (.loc 2) [.lt] [(.int 16)])
theorem plX_test {k P : Nat} {t : Bool} (h : decide (k < 16) = t) : Ok (tv TO1 20 plX (plL tx P k a b c d e) (plO q rows junk)) (t, plO q rows junk) :=
 Ok.tcmp (x := .int k) (ob1 := plO q rows junk) (y := .int (16 : Nat)) (Ok.k) (Ok.k) (lt_test h)
noncomputable abbrev TurnD (k P : Nat) (W P1 v : Nat) : Prop := W ≤ 16 ∧ P + v ≤ P1 + 1 ∧ 1 ≤ v ∧ (P + v = P1 + 1 → k < W)
theorem le_sum {a b : Nat} (h : a + b ≤ 3900) : a ≤ 4000 := by lia
theorem three150 {p r l : Nat} (h : p + r = l) (hl : l ≤ 150) : p ≤ 3000 ∧ r ≤ 3800 := by lia
theorem plan_leave (hl : tx.length ≤ 150) (ha : ∀ c ∈ tx, c ∈ alphaN) {k P R : Nat} (hk : k < 16) (hkp : keptAt k tx[P]? = false) (hR : P + R = tx.length) (hb : rows.length ≤ 4500) (hf : Fit k q R) : PRes tx k P q rows junk (exs (ex TO1 NN 19) (plW.drop 2) (plL tx P k a b c d e) (plO q rows junk)) (TurnD k P) := by
 have hl' : tx.length ≤ 3000 := Nat.le_trans hl (Nat.le_of_ble_eq_true rfl)
 have hs : ∀ x, tx[P]? = some x → x ∈ alphaN ∧ keepB k x = false := fun x hx => ⟨ha x (List.mem_of_getElem? hx), by rw [hx] at hkp; exact hkp⟩
 rcases hz : lvG k (tx.drop P) with ⟨A, F, W⟩
 obtain ⟨hW, hA, hk'⟩ := lvG_meas hk (fun c hc => ha c (List.mem_of_mem_drop hc)) hz
 obtain ⟨hP, hR'⟩ := three150 hR hl
 obtain ⟨jk, h2⟩ := plan_call (a := a) (b := b) (c := c) (d := d) (e := e) (q := q) (rows := rows) (junk := junk) hl' hP hk hs hz
 obtain ⟨S, rfl⟩ : ∃ S, R = A + S := by
  have : (tx.drop P).length = R := by rw [List.length_drop, ← hR, Nat.add_sub_cancel_left]
  rw [this] at hA
  exact ⟨R - A, (Nat.add_sub_cancel' hA).symm⟩
 refine .mk (a := a) (b := b) (c := some (.str F)) (d := some (.int ((P + A : Nat) : Int))) (e := some (.int (W : Nat))) (q1 := leaveU k tx[P]? F W q) (junk1 := junk ++ jk ++ [.list (leaveU k tx[P]? F W q).avs]) (vs := [rowAV k (P + A) F ((junk ++ jk).length + 2) W]) (ws := [⟨k, P + A, F, leaveU k tx[P]? F W q, W⟩]) (Ok.step h2 (Ok.blk (a := plU) (b := [plA, (.asg (.loc 2) (.loc 9))]) (plan_upd hk hl' hs hz (le_sum hf.ln)) (Ok.step (plan_app hb) (Ok.step (Ok.k) Ok.nil)))) ((Nat.add_assoc ..).trans hR) (hf.leave (Nat.le_add_left _ _) (Nat.le_trans (Nat.le_add_left _ _) hR')) rfl (List.append_assoc ..) row_at (fun rest h => ?_) ⟨hW, Nat.succ_le_succ (Nat.le_add_right _ _), Nat.le_refl _, fun z => hk' (Nat.add_left_cancel (n := P) (Nat.succ.inj z).symm)⟩
 refine Chain.step (g := ⟨A, F, W, leaveU k tx[P]? F W q⟩) hk ?_ (by rw [List.drop_drop]; exact h)
 unfold stepG
 rw [List.head?_drop, hkp, if_neg Bool.false_ne_true, hz]
theorem turn_d {tx : List Nat} {k P P1 j W P2 v : Nat} (h1 : InnerD tx k P k P1 j) (h : TurnD k P1 W P2 v) : TurnD k P W P2 (j + v) := by
 obtain ⟨_, rfl, _⟩ := h1
 obtain ⟨g1, g2, g3, g4⟩ := h
 unfold TurnD
 rw [← Nat.add_assoc]
 exact ⟨g1, g2, Nat.le_trans g3 (Nat.le_add_left _ _), g4⟩
theorem turn_rows {l j P P1 R R1 L : Nat} (h1 : P1 = P + j) (h2 : P1 + R1 = L) (h3 : P + R = L) (h4 : l + R ≤ 4400) : l + j ≤ 4500 := by lia
theorem plan_turn (hl : tx.length ≤ 150) (ha : ∀ c ∈ tx, c ∈ alphaN) {k P R : Nat} (hk : k < 16) (hR : P + R = tx.length) (hb : rows.length + R ≤ 4400) (hf : Fit k q R) : PRes tx k P q rows junk (exs (ex TO1 NN 19) plW (plL tx P k a b c d e) (plO q rows junk)) (TurnD k P) := by
 have hn : R < NN := Nat.lt_of_le_of_lt (three150 hR hl).2 (by unfold NN; lia)
 have hi := plan_inner (d := d) (e := e) hk (Nat.le_trans hl (Nat.le_of_ble_eq_true rfl)) ha NN R P q rows (junk ++ [AObj.list keepsAV]) c hR hn hb hf
 cases hi with
 | mk h gR gf e1 e2 hr hc hD =>
  obtain ⟨rfl, hP, hkp⟩ := hD
  have hb1 := (congrArg List.length e1).trans List.length_append
  exact PRes.comp e1 (e2.trans (List.append_assoc ..)) hr hc (fun _ h2 => Ok.step (plan_keeps hk) (Ok.step (Ok.whl (rs := none) h) h2)) (fun _ _ _ => turn_d ⟨rfl, hP, hkp⟩) (plan_leave hl ha hk hkp gR (Nat.le_trans (Nat.le_of_eq hb1) (turn_rows hP gR hR hb)) gf)
theorem outer_0 {R k : Nat} (h : 20 * R + 16 < 0 + k) (hk : k ≤ 16) : False := by lia
theorem outer_l {R k l : Nat} (h : l + 20 * R + 16 ≤ 4000 + k) (hk : k < 16) : l + R ≤ 4400 := by lia
theorem outer_n {P R k W P1 R1 v n L l : Nat} (h : 20 * R + 16 < n + 1 + k) (hb : l + 20 * R + 16 ≤ 4000 + k) (hk : k < 16) (h1 : P + R = L) (h2 : P1 + R1 = L) (hD : TurnD k P W P1 v) : 20 * R1 + 16 < n + W ∧ l + v + 20 * R1 + 16 ≤ 4000 + W := by
 obtain ⟨_, d2, _, d4⟩ := hD
 rcases Nat.lt_or_eq_of_le d2 with z | z
 ·lia
 ·have := d4 z; lia
theorem plan_outer (hl : tx.length ≤ 150) (ha : ∀ c ∈ tx, c ∈ alphaN) (n k P R : Nat) (q : Part) (rows : List AV) (junk : List AObj) (a b c d e : Option AV) (hk : k ≤ 16) (hR : P + R = tx.length) (hn : 20 * R + 16 < n + k) (hb : rows.length + 20 * R + 16 ≤ 4000 + k) (hf : Fit k q R) : PRes tx k P q rows junk (whlL (tv TO1 20 plX) (exs (ex TO1 NN 19) plW) n (plL tx P k a b c d e) (plO q rows junk)) (fun W _ _ => W = 16) := by
 induction n generalizing k P R q rows junk a b c d e with
 | zero => exact (outer_0 hn hk).elim
 | succ n ih =>
  cases Nat.lt_or_eq_of_le hk with
  | inl hk16 =>
   cases plan_turn (a := a) (b := b) (c := c) (d := d) (e := e) (junk := junk) hl ha hk16 hR (outer_l hb hk16) hf with
   | mk h gR gf e1 e2 hr hc hD =>
    obtain ⟨g1, g2⟩ := outer_n hn hb hk16 hR gR hD
    refine PRes.comp e1 e2 hr hc (fun _ => Ok.whlT (plX_test (decide_eq_true hk16)) h) (fun _ _ _ h => h) (ih _ _ _ _ _ _ _ _ _ _ _ hD.1 gR g1 ?_ gf)
    rw [e1, List.length_append]
    exact g2
  | inr h16 =>
   subst h16
   exact .mk (vs := []) (ws := []) (Ok.whlF (plX_test (decide_eq_false (Nat.lt_irrefl _)))) hR hf (List.append_nil _).symm (List.append_nil _).symm trivial (fun _ h => h) rfl
end
section
variable {T : Tab} {N n : Nat} {loc : Loc} {ob ob1 ob2 ob3 : List AObj} {v x y : AV}
theorem Ok.or1T {t : PE → Loc → List AObj → Res (Bool × List AObj)} {a : PE} {r : List PE} (h1 : Ok (t a loc ob) (true, ob1)) : Ok (tvs t false (a :: r) loc ob) (true, ob1) := Ok.bnd h1 Ok.fine
theorem Ok.orF {t : PE → Loc → List AObj → Res (Bool × List AObj)} {a : PE} {r : List PE} {q : Bool × List AObj} (h1 : Ok (t a loc ob) (false, ob1)) (h2 : Ok (tvs t false r loc ob1) q) : Ok (tvs t false (a :: r) loc ob) q := Ok.bnd h1 h2
theorem Ok.or0 {t : PE → Loc → List AObj → Res (Bool × List AObj)} : Ok (tvs t false [] loc ob) (false, ob) := Ok.fine
theorem Ok.andT {t : PE → Loc → List AObj → Res (Bool × List AObj)} {a : PE} {r : List PE} {q : Bool × List AObj} (h1 : Ok (t a loc ob) (true, ob1)) (h2 : Ok (tvs t true r loc ob1) q) : Ok (tvs t true (a :: r) loc ob) q := Ok.bnd h1 h2
theorem Ok.and0 {t : PE → Loc → List AObj → Res (Bool × List AObj)} : Ok (tvs t true [] loc ob) (true, ob) := Ok.fine
theorem eqI_test {a b : Int} {t : Bool} (h : decide (a = b) = t) : cmpS T .eq (.int a) (.int b) ob = some t := by
 have : eqS (.int a) (.int b) = some t := by
  show some (decide (a = b)) = some t
  rw [h]
 exact cmp_eq this
theorem eqN_test {a b : Nat} {t : Bool} (h : decide (a = b) = t) : cmpS T .eq (.int (a : Int)) (.int (b : Int)) ob = some t := by
 apply eqI_test
 rw [← h]
 exact decide_eq_decide.mpr Int.ofNat_inj
theorem neS_test {a b : List Nat} {t : Bool} (h : decide (a = b) = t) : cmpS T .ne (.str a) (.str b) ob = some (!t) := by
 have : eqS (.str a) (.str b) = some t := by
  show some (decide (a = b)) = some t
  rw [h]
 exact cmp_ne this
theorem neB_test {a b : Bool} : cmpS T .ne (.bool a) (.bool b) ob = some (!(a == b)) := by
 have : eqS (.bool a) (.bool b) = some (a == b) := rfl
 exact cmp_ne this
theorem ne_same {a b : AV} (h1 : eqS a b = none) (h2 : same 6 a b ob = true) : cmpS T .ne a b ob = some false := cmp_same h1 h2
theorem eqS_opt {s : Option (List Nat)} : eqS (optAV s) (optAV s) = some true := by
 cases s with
 | none => rfl
 | some s => show some (decide (s = s)) = _; rw [decide_eq_true rfl]
theorem same_str {m : Nat} {s : List Nat} : samI (m + 1) (.str s) (.str s) ob = true := (decide_eq_true rfl : decide (s = s) = true)
theorem same_opt {m : Nat} {s : Option (List Nat)} : samI (m + 1) (optAV s) (optAV s) ob = true := by
 cases s with
 | none => rfl
 | some s => exact same_str
theorem same_bool {m : Nat} {s : Bool} : samI (m + 1) (.bool s) (.bool s) ob = true := beq_self_eq_true s
theorem same_int {m : Nat} {s : Int} : samI (m + 1) (.int s) (.int s) ob = true := (decide_eq_true rfl : decide (s = s) = true)
theorem same_none {m : Nat} : samI (m + 1) .none .none ob = true := rfl
noncomputable abbrev sameL (m : Nat) (xs ys : List AV) (ob : List AObj) : Bool := sames (fun x y => samI m x y ob) xs ys
noncomputable abbrev sameD (m : Nat) (xs ys : List (List Nat × AV)) (ob : List AObj) : Bool := sames (fun x y => decide (x.1 = y.1) && samI m x.2 y.2 ob) xs ys
theorem samD_of {m i j : Nat} {es : List (List Nat × AV)} {fs : List (List Nat × AV)} (h1 : ob[i]? = some (.dict es)) (h2 : ob[j]? = some (.dict fs)) (hn : nodupB (fs.map (·.1)) = true) (hd : sameD m es fs ob = true) : samD (fun x y => samI m x y ob) ob i j = true := by
 unfold samD onDict
 rw [h1]
 rw [h2]
 dsimp only
 rw [hn]
 exact congrArg (fun b => trueO (some (true && b))) hd
theorem same_dict {m i j : Nat} {es : List (List Nat × AV)} {fs : List (List Nat × AV)} (h1 : ob[i]? = some (.dict es)) (h2 : ob[j]? = some (.dict fs)) (hn : nodupB (fs.map (·.1)) = true) (hd : sameD m es fs ob = true) : samI (m + 1) (.ref i) (.ref j) ob = true := congrArg (fun b => trueO (some b)) (samD_of h1 h2 hn hd)
theorem same_list {m i j : Nat} {es fs : List AV} (h1 : ob[i]? = some (.list es)) (h2 : ob[j]? = some (.list fs)) (hd : sameL m es fs ob = true) : same (m + 1) (.ref i) (.ref j) ob = true := by
 have h : onList ob i (fun xs => onList ob j fun ys => some (sameL m xs ys ob)) = some true := by
  unfold onList
  rw [h1]
  rw [h2]
  dsimp only
  rw [hd]
 exact congrArg (fun b => trueO (some (trueO b || _))) h
theorem sames_cons {m : Nat} {x y : AV} {xs ys : List AV} (h1 : samI m x y ob = true) (h2 : sameL m xs ys ob = true) : sameL m (x :: xs) (y :: ys) ob = true := by
 show (samI m x y ob && sameL m xs ys ob) = true
 rw [h1, h2]; rfl
theorem sames_nil {m : Nat} : sameL m [] [] ob = true := rfl
theorem sameD_cons {m : Nat} {k : List Nat} {x y : AV} {xs ys : List (List Nat × AV)} (h1 : samI m x y ob = true) (h2 : sameD m xs ys ob = true) : sameD m ((k, x) :: xs) ((k, y) :: ys) ob = true := by
 show ((decide (k = k) && samI m x y ob) && sameD m xs ys ob) = true
 rw [h1, h2, decide_eq_true rfl]; rfl
theorem sameD_nil {m : Nat} : sameD m [] [] ob = true := rfl
theorem same_pair {m : Nat} {a b : Int} : same (m + 1) (.tup [.int a, .int b]) (.tup [.int a, .int b]) ob = true := by
 show (decide (a = a) && (decide (b = b) && true)) = true
 rw [decide_eq_true rfl, decide_eq_true rfl]; rfl
theorem same_tokD {m i j : Nat} {q : Part} (h1 : ob[i]? = some (dtok q)) (h2 : ob[j]? = some (dtok q)) : samD (fun x y => samI (m + 1) x y ob) ob i j = true :=
 samD_of h1 h2 (by kernel_rfl) (sameD_cons same_int (sameD_cons same_str (sameD_cons same_opt (sameD_cons same_opt (sameD_cons same_bool sameD_nil)))))
theorem same_tok {m i j : Nat} {q : Part} (h1 : ob[i]? = some (dtok q)) (h2 : ob[j]? = some (dtok q)) : samI (m + 2) (.ref i) (.ref j) ob = true := congrArg (fun b => trueO (some b)) (same_tokD h1 h2)
theorem same_tokT {m i j : Nat} {q : Part} (h1 : ob[i]? = some (dtok q)) (h2 : ob[j]? = some (dtok q)) : same (m + 2) (.ref i) (.ref j) ob = true := (congrArg (fun b => trueO (some (_ || b))) (same_tokD h1 h2)).trans (congrArg (fun b => trueO (some b)) (Bool.or_true _))
theorem tok_fn {i : Nat} {q : Part} (h : ob[i]? = some (.list q.avs)) : Ok (f_law_token [.ref i] ob) (.ref ob.length, ob ++ [dtok q]) := by
 have hs : ∀ (j : Nat) (z : AV), q.avs[j]? = some z → j ≤ 100000 → Ok (ev TI0 19 (.sub (.loc 0) (.int (j : Int))) [some (.ref i), none] ob) (z, ob) := fun j z hz hj => Ok.sub (x := .ref i) (y := .int (j : Int)) (ob1 := ob) (ob2 := ob) (Ok.k) (Ok.k) (sub_ref h hz hj)
 have k0 : ∀ (s : List Nat), Ok (ev TI0 19 (.str s) [some (.ref i), none] ob) (.str s, ob) := fun s => Ok.k
 have k1 : Ok (ev TI0 19 (.sub (.glob 9) (.str w35)) [some (.ref i), none] ob) (.int 0, ob) := Ok.k
 refine Ok.fn (loc1 := [some (.ref i), none]) rfl (Ok.ret (Ok.rt ?_))
 have hd : Ok (evd (ev TI0 19) [(.str w30), (.str w31), (.str w32), (.str w33), (.str w34)] [(.sub (.glob 9) (.str w35)), (.sub (.loc 0) (.int 0)), (.sub (.loc 0) (.int 1)), (.sub (.loc 0) (.int 2)), (.sub (.loc 0) (.int 3))] [some (.ref i), none] ob) (([.str w30, .str w31, .str w32, .str w33, .str w34], [.int 0, .str q.name, optAV q.pub, optAV q.sys, .bool q.ok]), ob) :=
  Ok.bnd (k0 _) (Ok.bnd k1 (Ok.bnd (Ok.bnd (k0 _) (Ok.bnd (hs 0 _ rfl (by lia)) (Ok.bnd (Ok.bnd (k0 _) (Ok.bnd (hs 1 _ rfl (by lia)) (Ok.bnd (Ok.bnd (k0 _) (Ok.bnd (hs 2 _ rfl (by lia)) (Ok.bnd (Ok.bnd (k0 _) (Ok.bnd (hs 3 _ rfl (by lia)) (Ok.bnd Ok.fine Ok.fine))) Ok.fine))) Ok.fine))) Ok.fine))) Ok.fine))
 exact Ok.bnd hd (Ok.lift (by kernel_rfl))
end
noncomputable abbrev rnL (tx : List Nat) (pl fs k stop : Nat) (f : List Nat) (W : Nat) (x5 fi ro : Option AV) : Loc := [some (.ref 0), some (.str tx), some (.ref 2), some (.int pl), some (.int fs), x5, some (.int k), some (.int stop), some (.str f), some (.ref 3), some (.int W), fi, ro, none, none, none, none, none, none]
noncomputable abbrev tokJ (st : AV) : AObj := .inst 762 [(nStream, .ref 1), (nParser, .none), (nEscF, .bool false), (nLast4, .any), (nState, st), (nEsc, .bool false), (nTok, .ref 4), (nQueue, .ref 5)]
noncomputable abbrev rnO (st : AV) (p r : List Nat) (marks : List AV) (hd q : Part) (que : List AV) (tl : List AObj) : List AObj := tokJ st :: .strm p r :: .list marks :: .list hd.avs :: dtok q :: .list que :: tl
noncomputable abbrev B7 : PS := (.ife (.bop false [(.cmp (.loc 11) [.isnot] [(.bool true)]), (.cmp (.meth (.attr (.loc 0) w42) w43 []) [.ne] [(.sub (.loc 2) (.loc 7))])]) [(.ret (.neg (.int 1)))] [])
noncomputable abbrev B8 : PS := (.ife (.bop false [(.cmp (.attr (.loc 0) w37) [.ne] [(.loc 12)]), (.cmp (.attr (.loc 0) w36) [.ne] [(.call (.glob 10) [(.loc 9)])]), (.cmp (.cmp (.sub (.attr (.loc 0) w36) (.str w34)) [.is] [(.bool true)]) [.ne] [(.sub (.loc 9) (.int 3))])]) [(.ret (.neg (.int 1)))] [])
noncomputable abbrev B9 : PS := (.ife (.bop true [(.cmp (.cmp (.attr (.loc 0) w38) [.is] [.none]) [.ne] [(.cmp (.loc 10) [.eq] [(.loc 6)])]), (.not (.bop true [(.cmp (.loc 6) [.eq] [(.int 2)]), (.cmp (.loc 10) [.eq] [(.int 2)]), (.cmp (.loc 8) [.ne] [(.str [])])]))]) [(.ret (.neg (.int 1)))] [])
noncomputable abbrev B10 : PS := (.ife (.cmp (.loc 10) [.eq] [(.int 16)]) [(.ret (.ite (.cmp (.loc 3) [.eq] [(.call (.glob 7) [(.loc 1)])]) (.bin .add (.loc 7) (.int 1)) (.loc 7)))] [])
noncomputable abbrev B11 : PS := (.asg (.loc 3) (.loc 7))
section
variable {tx : List Nat} {pl fs k stop W : Nat} {f : List Nat} {x5 : Option AV} {ρ : AV} {st : AV} {p r : List Nat} {marks : List AV} {q : Part} {que : List AV} {tl : List AObj} {b1 : Bool}
theorem TO2_token : TO2.fns.lookup 850 = some f_law_token := by kernel_rfl
theorem TO2_pos : TO2.fns.lookup 126 = some sPos := by kernel_rfl
theorem run7 (hm : marks[stop]? = some (.tup [.int ((posR p).1 + 1), .int (posR p).2])) (hs : stop ≤ 3000) : Ok (ex TO2 NN 19 B7 (rnL tx pl fs k stop f W x5 (some (.bool true)) (some ρ)) (rnO st p r marks q q que tl)) (.next, rnL tx pl fs k stop f W x5 (some (.bool true)) (some ρ), rnO st p r marks q q que tl) := by
 refine Ok.ifF (ob1 := rnO st p r marks q q que tl) (Ok.orF (ob1 := rnO st p r marks q q que tl) (Ok.k) (Ok.orF ?_ Ok.or0)) Ok.nil
 refine Ok.tcmp (x := .tup [.int ((posR p).1 + 1), .int (posR p).2]) (ob1 := rnO st p r marks q q que tl) (y := .tup [.int ((posR p).1 + 1), .int (posR p).2]) (ob2 := rnO st p r marks q q que tl) ?_ ?_ (ne_same rfl same_pair)
 ·exact Ok.meth (v := .ref 1) (ob1 := rnO st p r marks q q que tl) (m := .fn 126 (.ref 1)) (vs := []) (ob2 := rnO st p r marks q q que tl) (Ok.k) (by kernel_rfl) Ok.evs0 (Ok.cv (callM_at TO2_pos) (Ok.k))
 ·exact Ok.sub (x := .ref 2) (y := .int (stop : Int)) (ob1 := rnO st p r marks q q que tl) (Ok.k) (Ok.k) (sub_ref rfl hm (by lia))
theorem run8 (hq : same 6 (.ref 5) ρ (rnO st p r marks q q que tl) = true) (hρ : eqS (.ref 5) ρ = none) : Ok (ex TO2 NN 19 B8 (rnL tx pl fs k stop f W x5 (some (.bool true)) (some ρ)) (rnO st p r marks q q que tl)) (.next, rnL tx pl fs k stop f W x5 (some (.bool true)) (some ρ), rnO st p r marks q q que (tl ++ [dtok q])) := by
 have h1 : Ok (tv TO2 19 (.cmp (.attr (.loc 0) w37) [.ne] [(.loc 12)]) (rnL tx pl fs k stop f W x5 (some (.bool true)) (some ρ)) (rnO st p r marks q q que tl)) (false, rnO st p r marks q q que tl) := Ok.tcmp (x := .ref 5) (ob1 := rnO st p r marks q q que tl) (y := ρ) (Ok.k) (Ok.k) (ne_same hρ hq)
 have ht : Ok (f_law_token [.ref 3] (rnO st p r marks q q que tl)) (.ref (rnO st p r marks q q que tl).length, rnO st p r marks q q que (tl ++ [dtok q])) := tok_fn (i := 3) (q := q) rfl
 have h2 : Ok (tv TO2 19 (.cmp (.attr (.loc 0) w36) [.ne] [(.call (.glob 10) [(.loc 9)])]) (rnL tx pl fs k stop f W x5 (some (.bool true)) (some ρ)) (rnO st p r marks q q que tl)) (false, rnO st p r marks q q que (tl ++ [dtok q])) := by
  refine Ok.tcmp (x := .ref 4) (ob1 := rnO st p r marks q q que tl) (Ok.k) (Ok.call (v := .val (.ref 850)) (ob1 := rnO st p r marks q q que tl) (vs := [.ref 3]) (ob2 := rnO st p r marks q q que tl) (Ok.k) (Ok.k) (Ok.cv (callF_at TO2_token) ht)) (ne_same rfl (same_tokT (m := 4) (q := q) rfl ?_))
  show (rnO st p r marks q q que tl ++ [dtok q])[(rnO st p r marks q q que tl).length]? = _
  rw [List.getElem?_append_right (Nat.le_refl _), Nat.sub_self]; rfl
 have h3 : Ok (tv TO2 19 (.cmp (.cmp (.sub (.attr (.loc 0) w36) (.str w34)) [.is] [(.bool true)]) [.ne] [(.sub (.loc 9) (.int 3))]) (rnL tx pl fs k stop f W x5 (some (.bool true)) (some ρ)) (rnO st p r marks q q que (tl ++ [dtok q]))) (false, rnO st p r marks q q que (tl ++ [dtok q])) := by
  obtain ⟨n, pb, sy, b⟩ := q
  cases b <;> exact Ok.k
 exact Ok.ifF (Ok.orF h1 (Ok.orF h2 (Ok.orF h3 Ok.or0))) Ok.nil
theorem run9 (hs0 : st = .none ∨ ∃ a, st = .meth a 0) (hst : isS st .none = some b1) (hb : b1 = decide (W = k) ∨ (k = 2 ∧ W = 2 ∧ f ≠ [])) : Ok (ex TO2 NN 19 B9 (rnL tx pl fs k stop f W x5 (some (.bool true)) (some ρ)) (rnO st p r marks q q que tl)) (.next, rnL tx pl fs k stop f W x5 (some (.bool true)) (some ρ), rnO st p r marks q q que tl) := by
 have h1 : Ok (ev TO2 18 (.cmp (.attr (.loc 0) w38) [.is] [.none]) (rnL tx pl fs k stop f W x5 (some (.bool true)) (some ρ)) (rnO st p r marks q q que tl)) (.bool b1, rnO st p r marks q q que tl) := by
  refine Ok.vcmp (x := st) (ob1 := rnO st p r marks q q que tl) (y := .none) ?_ (Ok.k) hst
  rcases hs0 with rfl | ⟨a, rfl⟩ <;> exact Ok.k
 have h2 : Ok (ev TO2 18 (.cmp (.loc 10) [.eq] [(.loc 6)]) (rnL tx pl fs k stop f W x5 (some (.bool true)) (some ρ)) (rnO st p r marks q q que tl)) (.bool (decide (W = k)), rnO st p r marks q q que tl) := Ok.vcmp (x := .int W) (ob1 := rnO st p r marks q q que tl) (y := .int k) (Ok.k) (Ok.k) (eqN_test rfl)
 have h3 := Ok.tcmp h1 h2 (neB_test (T := TO2))
 rcases hb with hb | ⟨rfl, rfl, hf⟩
 ·rw [hb, beq_self_eq_true] at h3
  exact Ok.ifF (Ok.and2F h3) Ok.nil
 ·cases hz : (!(b1 == decide (2 = 2))) with
  | false => rw [hz] at h3; exact Ok.ifF (Ok.and2F h3) Ok.nil
  | true =>
   rw [hz] at h3
   have h4 : Ok (tv TO2 17 (.cmp (.loc 8) [.ne] [(.str [])]) (rnL tx pl fs 2 stop f 2 x5 (some (.bool true)) (some ρ)) (rnO st p r marks q q que tl)) (true, rnO st p r marks q q que tl) := by
    have := Ok.tcmp (T := TO2) (n := 16) (op := .ne) (a := .loc 8) (b := .str []) (loc := rnL tx pl fs 2 stop f 2 x5 (some (.bool true)) (some ρ)) (ob := rnO st p r marks q q que tl) (x := .str f) (ob1 := rnO st p r marks q q que tl) (y := .str []) (ob2 := rnO st p r marks q q que tl) (Ok.k) (Ok.k) (neS_test (t := false) (decide_eq_false hf))
    exact this
   exact Ok.ifF (Ok.and2T h3 (Ok.tnot (t := true) (Ok.andT (ob1 := rnO st p r marks q q que tl) (Ok.k) (Ok.andT (ob1 := rnO st p r marks q q que tl) (Ok.k) (Ok.andT h4 Ok.and0))))) Ok.nil
theorem run10 (hl : tx.length ≤ 3000) (hW : W = 16) : Ok (ex TO2 NN 19 B10 (rnL tx pl fs k stop f W x5 (some (.bool true)) (some ρ)) (rnO st p r marks q q que tl)) (.ret (.int ((if pl = tx.length then stop + 1 else stop : Nat) : Int)), rnL tx pl fs k stop f W x5 (some (.bool true)) (some ρ), rnO st p r marks q q que tl) := by
 subst hW
 have ht : ∀ t, decide (pl = tx.length) = t → Ok (tv TO2 19 (.cmp (.loc 3) [.eq] [(.call (.glob 7) [(.loc 1)])]) (rnL tx pl fs k stop f 16 x5 (some (.bool true)) (some ρ)) (rnO st p r marks q q que tl)) (t, rnO st p r marks q q que tl) := fun t h => Ok.tcmp (x := .int pl) (ob1 := rnO st p r marks q q que tl) (y := .int tx.length) (Ok.k) (Ok.call (v := .val (.builtin "len")) (ob1 := rnO st p r marks q q que tl) (vs := [.str tx]) (ob2 := rnO st p r marks q q que tl) (Ok.k) (Ok.k) (Ok.len (by lia))) (eqN_test h)
 refine Ok.ifT (ob1 := rnO st p r marks q q que tl) (Ok.k) (Ok.ret (Ok.rt ?_))
 by_cases hp : pl = tx.length
 ·rw [if_pos hp]
  exact Ok.iteT (ht true (decide_eq_true hp)) (Ok.k)
 ·rw [if_neg hp]
  exact Ok.iteF (ht false (decide_eq_false hp)) (Ok.k)
theorem run10F (hW : W ≠ 16) : Ok (ex TO2 NN 19 B10 (rnL tx pl fs k stop f W x5 (some (.bool true)) (some ρ)) (rnO st p r marks q q que tl)) (.next, rnL tx pl fs k stop f W x5 (some (.bool true)) (some ρ), rnO st p r marks q q que tl) :=
 Ok.ifF (ob1 := rnO st p r marks q q que tl) (Ok.tcmp (x := .int W) (ob1 := rnO st p r marks q q que tl) (y := .int (16 : Nat)) (Ok.k) (Ok.k) (eqN_test (decide_eq_false hW))) Ok.nil
noncomputable def runR (tx : List Nat) (pl fs k stop : Nat) (f : List Nat) (W : Nat) (x5 ro : Option AV) (ob : List AObj) : Fl × St := if W = 16 then (.ret (.int ((if pl = tx.length then stop + 1 else stop : Nat) : Int)), rnL tx pl fs k stop f W x5 (some (.bool true)) ro, ob) else (.next, rnL tx stop fs k stop f W x5 (some (.bool true)) ro, ob)
theorem run_tail (hl : tx.length ≤ 3000) (hm : marks[stop]? = some (.tup [.int ((posR p).1 + 1), .int (posR p).2])) (hs : stop ≤ 3000) (hq : same 6 (.ref 5) ρ (rnO st p r marks q q que tl) = true) (hρ : eqS (.ref 5) ρ = none)
  (hs0 : st = .none ∨ ∃ a, st = .meth a 0) (hst : isS st .none = some b1) (hb : b1 = decide (W = k) ∨ (k = 2 ∧ W = 2 ∧ f ≠ [])) : Ok (exs (ex TO2 NN 19) [B7, B8, B9, B10, B11] (rnL tx pl fs k stop f W x5 (some (.bool true)) (some ρ)) (rnO st p r marks q q que tl)) (runR tx pl fs k stop f W x5 (some ρ) (rnO st p r marks q q que (tl ++ [dtok q]))) := by
 refine Ok.step (run7 hm hs) (Ok.step (run8 hq hρ) (Ok.step (run9 hs0 hst hb) ?_))
 unfold runR
 by_cases hW : W = 16
 ·rw [if_pos hW]
  exact Ok.ret (run10 hl hW)
 ·rw [if_neg hW]
  exact Ok.step (run10F hW) (Ok.step (Ok.k) Ok.nil)
end
theorem Ok.via {rs : List Rt} {p : Fn} {args args' : List AV} {ob ob1 ob' ob2 : List AObj} {sel : List Nat} {v v' : AV} (h1 : selOf (args.map some) ob rs = some sel) (h2 : nodupB sel = true) (h3 : selObjs sel ob sel = some ob1) (ha : renVs (idx sel) args = args') (h4 : Ok (p args' ob1) (v, ob')) (hv : renV (bckO ob.length sel) v = v') (hm : merge ob.length sel ob' 0 ob = ob2) : Ok (viaF rs p args ob) (v', ob2) := by
 obtain ⟨l, e, hb⟩ := h4
 exact ⟨l, (viaS_of h1 h2 h3).trans ((onSome_of (by rw [ha]; exact e)).trans (by rw [hv, hm])), hb⟩
noncomputable abbrev tokI (st : AV) (qu : List (List Nat × AV)) : AObj := .inst 762 ([(nStream, .ref 1), (nParser, .none), (nEscF, .bool false), (nLast4, .any), (nState, st), (nEsc, .bool false), (nTok, .ref 4)] ++ qu)
noncomputable abbrev rnI (st : AV) (qu : List (List Nat × AV)) (p r : List Nat) (marks : List AV) (hd q : Part) : List AObj := [tokI st qu, .strm p r, .list marks, .list hd.avs, dtok q]
noncomputable abbrev B1 : PS := (.asg (.attr (.loc 0) w37) (.list []))
noncomputable abbrev B2 : PS := (.asg (.attr (.loc 0) w38) .none)
noncomputable abbrev B3 : PS := (.asg (.loc 11) (.call (.glob 12) [(.loc 0), (.loc 6)]))
noncomputable abbrev B4 : PS := (.asg (.loc 12) (.ite (.loc 8) (.list [(.dict [(.str w30), (.str w39)] [(.sub (.glob 9) (.str w40)), (.loc 8)])]) (.list [])))
noncomputable abbrev B5 : PS := (.ife (.cmp (.loc 8) [.eq] [(.glob 4)]) [(.asg (.loc 12) (.list [(.dict [(.str w30), (.str w39), (.str w41)] [(.sub (.glob 9) (.str w40)), (.loc 8), (.dict [(.str w39)] [(.ite (.cmp (.loc 7) [.lt] [(.call (.glob 7) [(.loc 1)])]) (.sub (.loc 1) (.loc 7)) .none)])])]))] [])
noncomputable abbrev B6 : PS := (.ife (.cmp (.loc 10) [.eq] [(.int 16)]) [(.expr (.meth (.loc 12) w6 [(.call (.glob 10) [(.loc 9)])]))] [])
section
variable {tx : List Nat} {pl fs k stop W : Nat} {f : List Nat} {x5 fi ro : Option AV} {st : AV} {qu : List (List Nat × AV)} {p r p' r' : List Nat} {marks : List AV} {hd q q' : Part} {que : List AV} {tl : List AObj}
theorem TO2_call : TO2.fns.lookup 843 = some v_call := by kernel_rfl
theorem run12 (hqu : qu = [] ∨ ∃ v, qu = [(nQueue, v)]) : Ok (exs (ex TO2 NN 19) [B1, B2] (rnL tx pl fs k stop f W x5 fi ro) (rnI st qu p r marks hd q)) (.next, rnL tx pl fs k stop f W x5 fi ro, rnO .none p r marks hd q [] []) := by
 rcases hqu with rfl | ⟨v, rfl⟩
 ·exact Ok.k
 ·exact Ok.k
theorem run_in : selObjs [0, 1, 5, 4] (rnO .none p r marks hd q [] []) [0, 1, 5, 4] = some (before1 p r q) := by
 obtain ⟨n, pb, sy, b⟩ := q
 cases pb <;> cases sy <;> kernel_rfl
theorem run3 {A ob2 : List AObj} (h : Ok (f_law_call [.ref 0, .int k] (before1 p r q)) (.bool true, A)) (hm : merge 6 [0, 1, 5, 4] A 0 (rnO .none p r marks hd q [] []) = ob2) : Ok (ex TO2 NN 19 B3 (rnL tx pl fs k stop f W x5 fi ro) (rnO .none p r marks hd q [] [])) (.next, rnL tx pl fs k stop f W x5 (some (.bool true)) ro, ob2) := by
 refine Ok.asgL (Ok.call (v := .val (.ref 843)) (ob1 := rnO .none p r marks hd q [] []) (vs := [.ref 0, .int k]) (ob2 := rnO .none p r marks hd q [] []) (Ok.k) (Ok.k) (Ok.cv (callF_at TO2_call) ?_)) (Nat.le_of_ble_eq_true rfl)
 exact Ok.via (sel := [0, 1, 5, 4]) (ob1 := before1 p r q) (args' := [.ref 0, .int k]) (by kernel_rfl) (by kernel_rfl) run_in (by kernel_rfl) h (by kernel_rfl) hm
theorem isNil_ne {f : List Nat} (h : f ≠ []) : (!f.isEmpty) = true := by
 cases f with
 | nil => exact absurd rfl h
 | cons _ _ => rfl
noncomputable abbrev errE (f : List Nat) : AObj := .dict [(kType, .int 7), (kData, .str f)]
theorem run4F {st : AV} {que : List AV} {E : AObj} (hf : f ≠ []) (hfl : f.length ≤ 100) : Ok (ex TO2 NN 19 B4 (rnL tx pl fs k stop f W x5 (some (.bool true)) ro) (rnO st p r marks hd q que [E])) (.next, rnL tx pl fs k stop f W x5 (some (.bool true)) (some (.ref 8)), rnO st p r marks hd q que [E, errE f, .list [.ref 7]]) := by
 refine Ok.asgL (Ok.iteT (Ok.ttru (v := .str f) (ob1 := rnO st p r marks hd q que [E]) rfl (Ok.k) ?_) (Ok.k)) (Nat.le_of_ble_eq_true rfl)
 have := Ok.trS (s := f) (ob := rnO st p r marks hd q que [E]) (by lia)
 rw [isNil_ne hf] at this
 exact this
theorem run4N {st : AV} {que : List AV} : Ok (ex TO2 NN 19 B4 (rnL tx pl fs k stop [] W x5 (some (.bool true)) ro) (rnO st p r marks hd q que [])) (.next, rnL tx pl fs k stop [] W x5 (some (.bool true)) (some (.ref 6)), rnO st p r marks hd q que [.list []]) := Ok.k
theorem run5N {st ρ : AV} {que : List AV} {tl : List AObj} (hf : f ≠ nBroken) : Ok (ex TO2 NN 19 B5 (rnL tx pl fs k stop f W x5 (some (.bool true)) (some ρ)) (rnO st p r marks hd q que tl)) (.next, rnL tx pl fs k stop f W x5 (some (.bool true)) (some ρ), rnO st p r marks hd q que tl) :=
 Ok.ifF (ob1 := rnO st p r marks hd q que tl) (Ok.tcmp (x := .str f) (ob1 := rnO st p r marks hd q que tl) (y := .str nBroken) (Ok.k) (Ok.k) (eqS_test (decide_eq_false hf))) Ok.nil
theorem run6N {st ρ : AV} {que : List AV} {tl : List AObj} (hW : W ≠ 16) : Ok (ex TO2 NN 19 B6 (rnL tx pl fs k stop f W x5 (some (.bool true)) (some ρ)) (rnO st p r marks hd q que tl)) (.next, rnL tx pl fs k stop f W x5 (some (.bool true)) (some ρ), rnO st p r marks hd q que tl) :=
 Ok.ifF (ob1 := rnO st p r marks hd q que tl) (Ok.tcmp (x := .int W) (ob1 := rnO st p r marks hd q que tl) (y := .int (16 : Nat)) (Ok.k) (Ok.k) (eqN_test (decide_eq_false hW))) Ok.nil
theorem run6A {st : AV} {que : List AV} : Ok (ex TO2 NN 19 B6 (rnL tx pl fs k stop f 16 x5 (some (.bool true)) (some (.ref 6))) (rnO st p r marks hd q que [.list []])) (.next, rnL tx pl fs k stop f 16 x5 (some (.bool true)) (some (.ref 6)), rnO st p r marks hd q que [.list [.ref 7], dtok hd]) := by
 have ht : Ok (f_law_token [.ref 3] (rnO st p r marks hd q que [.list []])) (.ref 7, rnO st p r marks hd q que [.list [], dtok hd]) := tok_fn (i := 3) (q := hd) rfl
 refine Ok.ifT (ob1 := rnO st p r marks hd q que [.list []]) (Ok.k) (Ok.step (Ok.expr (v := .none) (Ok.meth (v := .ref 6) (ob1 := rnO st p r marks hd q que [.list []]) (m := .append 6) (vs := [.ref 7]) (ob2 := rnO st p r marks hd q que [.list [], dtok hd]) (Ok.k) (by kernel_rfl) (Ok.evs1 (Ok.call (v := .val (.ref 850)) (ob1 := rnO st p r marks hd q que [.list []]) (vs := [.ref 3]) (ob2 := rnO st p r marks hd q que [.list []]) (Ok.k) (Ok.k) (Ok.cv (callF_at TO2_token) ht))) (Ok.k))) Ok.nil)
theorem run6B {st : AV} {que : List AV} {E : AObj} : Ok (ex TO2 NN 19 B6 (rnL tx pl fs k stop f 16 x5 (some (.bool true)) (some (.ref 8))) (rnO st p r marks hd q que [E, errE f, .list [.ref 7]])) (.next, rnL tx pl fs k stop f 16 x5 (some (.bool true)) (some (.ref 8)), rnO st p r marks hd q que [E, errE f, .list [.ref 7, .ref 9], dtok hd]) := by
 have ht : Ok (f_law_token [.ref 3] (rnO st p r marks hd q que [E, errE f, .list [.ref 7]])) (.ref 9, rnO st p r marks hd q que [E, errE f, .list [.ref 7], dtok hd]) := tok_fn (i := 3) (q := hd) rfl
 refine Ok.ifT (ob1 := rnO st p r marks hd q que [E, errE f, .list [.ref 7]]) (Ok.k) (Ok.step (Ok.expr (v := .none) (Ok.meth (v := .ref 8) (ob1 := rnO st p r marks hd q que [E, errE f, .list [.ref 7]]) (m := .append 8) (vs := [.ref 9]) (ob2 := rnO st p r marks hd q que [E, errE f, .list [.ref 7], dtok hd]) (Ok.k) (by kernel_rfl) (Ok.evs1 (Ok.call (v := .val (.ref 850)) (ob1 := rnO st p r marks hd q que [E, errE f, .list [.ref 7]]) (vs := [.ref 3]) (ob2 := rnO st p r marks hd q que [E, errE f, .list [.ref 7]]) (Ok.k) (Ok.k) (Ok.cv (callF_at TO2_token) ht))) (Ok.k))) Ok.nil)
noncomputable abbrev runB : List PS := [B1, B2] ++ [B3, B4, B5, B6] ++ [B7, B8, B9, B10, B11]
end
noncomputable abbrev aft (st : AV) (p r : List Nat) (q : Part) (que : List AV) (er : List AObj) : List AObj := tokO .any st :: .strm p r :: .list que :: dtok q :: er
noncomputable abbrev errB (x : AV) (v : Nat) : List AObj := [.dict [(kData, x)], .dict [(kType, .int 7), (kData, .str nBroken), (kVars, .ref v)]]
inductive Form (st : AV) (p r : List Nat) (q : Part) (f : List Nat) (W : Nat) (x : Option Nat) (A : List AObj) : Prop where
 | c1 (hf : f = []) (hW : W ≠ 16) (hA : A = aft st p r q [] [])
 | c2 (hf : f = []) (hW : W = 16) (hA : A = aft st p r q [.ref 3] [])
 | c3 (hf : f ≠ []) (hb : f ≠ nBroken) (hl : f.length ≤ 100) (hW : W ≠ 16) (hA : A = aft st p r q [.ref 4] [errE f])
 | c4 (hf : f ≠ []) (hb : f ≠ nBroken) (hl : f.length ≤ 100) (hW : W = 16) (hA : A = aft st p r q [.ref 4, .ref 3] [errE f])
 | c5 (hf : f = nBroken) (hW : W ≠ 16) (hA : A = aft st p r q [.ref 5] (errB (sgAV x) 4))
section
variable {tx : List Nat} {pl fs k stop W : Nat} {f : List Nat} {x5 fi ro : Option AV} {st st0 : AV} {qu : List (List Nat × AV)} {p r p' r' : List Nat} {marks : List AV} {q q' : Part} {b1 : Bool} {x : Option Nat}
theorem merge1 (hs : st = .none ∨ ∃ a, st = .meth a 0) : merge 6 [0, 1, 5, 4] (aft st p' r' q' [] []) 0 (rnO .none p r marks q' q [] []) = rnO st p' r' marks q' q' [] [] := by
 obtain ⟨n, pb, sy, b⟩ := q'
 rcases hs with rfl | ⟨a, rfl⟩ <;> cases pb <;> cases sy <;> kernel_rfl
theorem merge2 (hs : st = .none ∨ ∃ a, st = .meth a 0) : merge 6 [0, 1, 5, 4] (aft st p' r' q' [.ref 3] []) 0 (rnO .none p r marks q' q [] []) = rnO st p' r' marks q' q' [.ref 4] [] := by
 obtain ⟨n, pb, sy, b⟩ := q'
 rcases hs with rfl | ⟨a, rfl⟩ <;> cases pb <;> cases sy <;> kernel_rfl
theorem merge3 (hs : st = .none ∨ ∃ a, st = .meth a 0) : merge 6 [0, 1, 5, 4] (aft st p' r' q' [.ref 4] [errE f]) 0 (rnO .none p r marks q' q [] []) = rnO st p' r' marks q' q' [.ref 6] [errE f] := by
 obtain ⟨n, pb, sy, b⟩ := q'
 rcases hs with rfl | ⟨a, rfl⟩ <;> cases pb <;> cases sy <;> kernel_rfl
theorem merge4 (hs : st = .none ∨ ∃ a, st = .meth a 0) : merge 6 [0, 1, 5, 4] (aft st p' r' q' [.ref 4, .ref 3] [errE f]) 0 (rnO .none p r marks q' q [] []) = rnO st p' r' marks q' q' [.ref 6, .ref 4] [errE f] := by
 obtain ⟨n, pb, sy, b⟩ := q'
 rcases hs with rfl | ⟨a, rfl⟩ <;> cases pb <;> cases sy <;> kernel_rfl
theorem merge5 (hs : st = .none ∨ ∃ a, st = .meth a 0) : merge 6 [0, 1, 5, 4] (aft st p' r' q' [.ref 5] (errB (sgAV x) 4)) 0 (rnO .none p r marks q' q [] []) = rnO st p' r' marks q' q' [.ref 7] (errB (sgAV x) 6) := by
 obtain ⟨n, pb, sy, b⟩ := q'
 rcases hs with rfl | ⟨a, rfl⟩ <;> cases pb <;> cases sy <;> cases x <;> kernel_rfl
theorem run5B (hl : tx.length ≤ 3000) : Ok (ex TO2 NN 19 B5 (rnL tx pl fs k stop nBroken W x5 (some (.bool true)) (some (.ref 9))) (rnO st p r marks q q [.ref 7] (errB (sgAV tx[stop]?) 6 ++ [errE nBroken, .list [.ref 8]]))) (.next, rnL tx pl fs k stop nBroken W x5 (some (.bool true)) (some (.ref 12)), rnO st p r marks q q [.ref 7] (errB (sgAV tx[stop]?) 6 ++ [errE nBroken, .list [.ref 8]] ++ errB (sgAV tx[stop]?) 10 ++ [.list [.ref 11]])) := by
 have hlt : ∀ (ob : List AObj) t, decide (stop < tx.length) = t → Ok (tv TO2 16 (.cmp (.loc 7) [.lt] [(.call (.glob 7) [(.loc 1)])]) (rnL tx pl fs k stop nBroken W x5 (some (.bool true)) (some (.ref 9))) ob) (t, ob) := fun ob t h => Ok.tcmp (x := .int stop) (ob1 := ob) (y := .int tx.length) (Ok.k) (Ok.call (v := .val (.builtin "len")) (ob1 := ob) (vs := [.str tx]) (ob2 := ob) (Ok.k) (Ok.k) (Ok.len (by lia))) (lt_test h)
 have hite : ∀ (ob : List AObj), Ok (ev TO2 17 (.ite (.cmp (.loc 7) [.lt] [(.call (.glob 7) [(.loc 1)])]) (.sub (.loc 1) (.loc 7)) .none) (rnL tx pl fs k stop nBroken W x5 (some (.bool true)) (some (.ref 9))) ob) (sgAV tx[stop]?, ob) := fun ob => by
  cases hx : tx[stop]? with
  | none => exact Ok.iteF (hlt ob false (decide_eq_false (by have := List.getElem?_eq_none_iff.mp hx; exact Nat.not_lt.mpr this))) (Ok.k)
  | some c => exact Ok.iteT (hlt ob true (decide_eq_true (List.getElem?_eq_some_iff.mp hx).1)) (Ok.sub (x := .str tx) (y := .int stop) (ob1 := ob) (Ok.k) (Ok.k) (sub_nat hx (by lia)))
 generalize sgAV tx[stop]? = x at *
 have ks : ∀ (m : Nat) (s : List Nat) (ob : List AObj), Ok (ev TO2 (m + 1) (.str s) (rnL tx pl fs k stop nBroken W x5 (some (.bool true)) (some (.ref 9))) ob) (.str s, ob) := fun m s ob => Ok.k
 have hin : Ok (ev TO2 18 (.dict [(.str w39)] [(.ite (.cmp (.loc 7) [.lt] [(.call (.glob 7) [(.loc 1)])]) (.sub (.loc 1) (.loc 7)) .none)]) (rnL tx pl fs k stop nBroken W x5 (some (.bool true)) (some (.ref 9))) (rnO st p r marks q q [.ref 7] (errB x 6 ++ [errE nBroken, .list [.ref 8]]))) (.ref 10, rnO st p r marks q q [.ref 7] (errB x 6 ++ [errE nBroken, .list [.ref 8], .dict [(kData, x)]])) :=
  Ok.bnd (a := (([.str w39], [x]), rnO st p r marks q q [.ref 7] (errB x 6 ++ [errE nBroken, .list [.ref 8]]))) (Ok.bnd (ks 16 _ _) (Ok.bnd (hite _) (Ok.bnd Ok.fine Ok.fine))) (Ok.lift (by kernel_rfl))
 have hout : Ok (ev TO2 19 (.dict [(.str w30), (.str w39), (.str w41)] [(.sub (.glob 9) (.str w40)), (.loc 8), (.dict [(.str w39)] [(.ite (.cmp (.loc 7) [.lt] [(.call (.glob 7) [(.loc 1)])]) (.sub (.loc 1) (.loc 7)) .none)])]) (rnL tx pl fs k stop nBroken W x5 (some (.bool true)) (some (.ref 9))) (rnO st p r marks q q [.ref 7] (errB x 6 ++ [errE nBroken, .list [.ref 8]]))) (.ref 11, rnO st p r marks q q [.ref 7] (errB x 6 ++ [errE nBroken, .list [.ref 8]] ++ errB x 10)) :=
  Ok.bnd (a := (([.str w30, .str w39, .str w41], [.int 7, .str nBroken, .ref 10]), rnO st p r marks q q [.ref 7] (errB x 6 ++ [errE nBroken, .list [.ref 8], .dict [(kData, x)]]))) (Ok.bnd (ks 17 _ _) (Ok.bnd (a := (.int 7, rnO st p r marks q q [.ref 7] (errB x 6 ++ [errE nBroken, .list [.ref 8]]))) (Ok.k) (Ok.bnd (Ok.bnd (ks 17 _ _) (Ok.bnd (a := (.str nBroken, rnO st p r marks q q [.ref 7] (errB x 6 ++ [errE nBroken, .list [.ref 8]]))) (Ok.k) (Ok.bnd (Ok.bnd (ks 17 _ _) (Ok.bnd hin (Ok.bnd Ok.fine Ok.fine))) Ok.fine))) Ok.fine))) (Ok.lift (by kernel_rfl))
 refine Ok.ifT (ob1 := rnO st p r marks q q [.ref 7] (errB x 6 ++ [errE nBroken, .list [.ref 8]])) (Ok.k) (Ok.step (Ok.asgL (Ok.lst (Ok.evs1 hout) (by simp)) (Nat.le_of_ble_eq_true rfl)) Ok.nil)
theorem run_form (hl : tx.length ≤ 3000) (hs : stop ≤ 3000) {A : List AObj} (hcall : Ok (f_law_call [.ref 0, .int k] (before1 p r q)) (.bool true, A)) (hF : Form st p' r' q' f W tx[stop]? A) (hqu : qu = [] ∨ ∃ v, qu = [(nQueue, v)])
  (hm : marks[stop]? = some (.tup [.int ((posR p').1 + 1), .int (posR p').2])) (hs0 : st = .none ∨ ∃ a, st = .meth a 0) (hst : isS st .none = some b1) (hb : b1 = decide (W = k) ∨ (k = 2 ∧ W = 2 ∧ f ≠ [])) :
  ∃ que tl ρ, Ok (exs (ex TO2 NN 19) runB (rnL tx pl fs k stop f W x5 fi ro) (rnI st0 qu p r marks q' q)) (runR tx pl fs k stop f W x5 (some ρ) (rnO st p' r' marks q' q' que tl)) := by
 cases hF with
 | c1 hf hW hA =>
  subst hf hA
  exact ⟨_, _, _, Ok.blk (a := [B1, B2] ++ [B3, B4, B5, B6]) (Ok.blk (a := [B1, B2]) (run12 hqu) (Ok.step (run3 hcall (merge1 hs0)) (Ok.step run4N (Ok.step (run5N (fun z => nil_no z)) (Ok.step (run6N hW) Ok.nil))))) (run_tail hl hm hs (same_list (m := 5) rfl rfl sames_nil) rfl hs0 hst hb)⟩
 | c2 hf hW hA =>
  subst hf hA hW
  exact ⟨_, _, _, Ok.blk (a := [B1, B2] ++ [B3, B4, B5, B6]) (Ok.blk (a := [B1, B2]) (run12 hqu) (Ok.step (run3 hcall (merge2 hs0)) (Ok.step run4N (Ok.step (run5N (fun z => nil_no z)) (Ok.step run6A Ok.nil))))) (run_tail hl hm hs (same_list (m := 5) rfl rfl (sames_cons (same_tok (m := 3) (q := q') rfl rfl) sames_nil)) rfl hs0 hst hb)⟩
 | c3 hf hbk hfl hW hA =>
  subst hA
  exact ⟨_, _, _, Ok.blk (a := [B1, B2] ++ [B3, B4, B5, B6]) (Ok.blk (a := [B1, B2]) (run12 hqu) (Ok.step (run3 hcall (merge3 hs0)) (Ok.step (run4F hf hfl) (Ok.step (run5N hbk) (Ok.step (run6N hW) Ok.nil))))) (run_tail hl hm hs (same_list (m := 5) rfl rfl (sames_cons (same_dict (m := 4) (i := 6) (j := 7) rfl rfl (by kernel_rfl) (sameD_cons same_int (sameD_cons same_str sameD_nil))) sames_nil)) rfl hs0 hst hb)⟩
 | c4 hf hbk hfl hW hA =>
  subst hA hW
  exact ⟨_, _, _, Ok.blk (a := [B1, B2] ++ [B3, B4, B5, B6]) (Ok.blk (a := [B1, B2]) (run12 hqu) (Ok.step (run3 hcall (merge4 hs0)) (Ok.step (run4F hf hfl) (Ok.step (run5N hbk) (Ok.step run6B Ok.nil))))) (run_tail hl hm hs (same_list (m := 5) rfl rfl (sames_cons (same_dict (m := 4) (i := 6) (j := 7) rfl rfl (by kernel_rfl) (sameD_cons same_int (sameD_cons same_str sameD_nil))) (sames_cons (same_tok (m := 3) (q := q') rfl rfl) sames_nil))) rfl hs0 hst hb)⟩
 | c5 hf hW hA =>
  subst hf hA
  have h4 : Ok (ex TO2 NN 19 B4 (rnL tx pl fs k stop nBroken W x5 (some (.bool true)) ro) (rnO st p' r' marks q' q' [.ref 7] (errB (sgAV tx[stop]?) 6))) (.next, rnL tx pl fs k stop nBroken W x5 (some (.bool true)) (some (.ref 9)), rnO st p' r' marks q' q' [.ref 7] (errB (sgAV tx[stop]?) 6 ++ [errE nBroken, .list [.ref 8]])) := Ok.k
  refine ⟨_, _, _, Ok.blk (a := [B1, B2] ++ [B3, B4, B5, B6]) (Ok.blk (a := [B1, B2]) (run12 hqu) (Ok.step (run3 hcall (merge5 hs0)) (Ok.step h4 (Ok.step (run5B hl) (Ok.step (run6N hW) Ok.nil))))) (run_tail hl hm hs (same_list (m := 5) rfl rfl (sames_cons (same_dict (m := 4) (i := 7) (j := 11) rfl rfl (by kernel_rfl) (sameD_cons same_int (sameD_cons same_str (sameD_cons (same_dict (m := 3) (i := 6) (j := 10) rfl rfl (by kernel_rfl) (sameD_cons ?_ sameD_nil)) sameD_nil)))) sames_nil)) rfl hs0 hst hb)⟩
  cases tx[stop]? with
  | none => exact same_none
  | some c => exact same_str
end
noncomputable def fa (k : Nat) : Option Nat → Nat × List Nat × Nat
 | none => (0, lostF k, 16)
 | some c => if keepB k c then (1, keepF k c, k) else leaveF k (some c)
theorem fa_goes {k : Nat} {sg : Option Nat} {q : Part} : (goes k sg q).adv = (fa k sg).1 ∧ (goes k sg q).fault = (fa k sg).2.1 ∧ (goes k sg q).after = (fa k sg).2.2 := by
 cases sg with
 | none => exact ⟨rfl, rfl, rfl⟩
 | some c =>
  unfold goes fa
  dsimp only
  split <;> exact ⟨rfl, rfl, rfl⟩
noncomputable def faB (k : Nat) (sg : Option Nat) : Bool := Nat.ble (fa k sg).1 1 && Nat.ble (fa k sg).2.1.length 100 && (if brk k sg then (fa k sg).2.1 == nBroken && !(Nat.beq (fa k sg).2.2 16) else !((fa k sg).2.1 == nBroken))
theorem fa_chk : ((List.range 16).all fun k => (none :: alphaN.map some).all fun sg => faB k sg) = true := by kernel_rfl
theorem fa_facts {k : Nat} (hk : k < 16) {sg : Option Nat} (hs : ∀ c, sg = some c → c ∈ alphaN) : (fa k sg).1 ≤ 1 ∧ (fa k sg).2.1.length ≤ 100 ∧ (if brk k sg then (fa k sg).2.1 = nBroken ∧ (fa k sg).2.2 ≠ 16 else (fa k sg).2.1 ≠ nBroken) := by
 have hm : sg ∈ (none :: alphaN.map some : List (Option Nat)) := by
  cases sg with
  | none => exact List.mem_cons_self ..
  | some c => exact List.mem_cons_of_mem _ (List.mem_map.mpr ⟨c, hs c rfl, rfl⟩)
 have h := List.all_eq_true.mp (List.all_eq_true.mp fa_chk k (List.mem_range.mpr hk)) sg hm
 unfold faB at h
 obtain ⟨h12, h3⟩ := Bool.and_eq_true_iff.mp h
 obtain ⟨h1, h2⟩ := Bool.and_eq_true_iff.mp h12
 refine ⟨Nat.le_of_ble_eq_true h1, Nat.le_of_ble_eq_true h2, ?_⟩
 cases hb : brk k sg with
 | true =>
  rw [hb, if_pos rfl] at h3
  obtain ⟨h4, h5⟩ := Bool.and_eq_true_iff.mp h3
  rw [if_pos rfl]
  refine ⟨eq_of_beq h4, fun z => ?_⟩
  rw [z] at h5; cases h5
 | false =>
  rw [hb, if_neg Bool.false_ne_true] at h3
  rw [if_neg Bool.false_ne_true]
  intro z
  rw [z] at h3
  simp at h3
structure CallIs (k : Nat) (p r : List Nat) (q : Part) (g : Goes) : Prop where
 ex : ∃ (st : AV) (p' : List Nat) (A : List AObj) (b1 : Bool), Ok (f_law_call [.ref 0, .int k] (before1 p r q)) (.bool true, A) ∧ Form st p' (r.drop g.adv) g.part g.fault g.after (r.drop g.adv).head? A ∧ clean p' = (r.take g.adv).reverse ++ clean p ∧ (st = .none ∨ ∃ a, st = .meth a 0) ∧ isS st .none = some b1 ∧ (b1 = decide (g.after = k) ∨ (k = 2 ∧ g.after = 2 ∧ g.fault ≠ []))
theorem alphaN_lt : ∀ c ∈ alphaN, c < 1114112 := by
 decide
section
variable {p r : List Nat} {q : Part} {k : Nat}
theorem st_facts {sg : Option Nat} : (stOf k sg (goes k sg q).after = .none ∨ ∃ a, stOf k sg (goes k sg q).after = .meth a 0) ∧ ∃ b1, isS (stOf k sg (goes k sg q).after) .none = some b1 ∧ (b1 = decide ((goes k sg q).after = k) ∨ (k = 2 ∧ (goes k sg q).after = 2 ∧ (goes k sg q).fault ≠ [])) := by
 unfold stOf
 split
 ·rename_i h
  exact ⟨.inl rfl, true, rfl, .inl (decide_eq_true h.1).symm⟩
 ·rename_i h
  refine ⟨.inr ⟨_, rfl⟩, false, rfl, ?_⟩
  by_cases ha : (goes k sg q).after = k
  ·have h2 : k = 2 ∧ sg = some 0 := Classical.byContradiction fun z => h ⟨ha, z⟩
   obtain ⟨rfl, rfl⟩ := h2
   exact .inr ⟨rfl, ha, fun z => cons_no z⟩
  ·exact .inl (decide_eq_false ha).symm
theorem form_goes (hk : k < 16) {sg : Option Nat} (hs : ∀ c, sg = some c → c ∈ alphaN) (hr : r.head? = sg) {A : List AObj} (hA : A = after1 k sg p r.tail q) : ∃ p', Form (stOf k sg (goes k sg q).after) p' (r.drop (goes k sg q).adv) (goes k sg q).part (goes k sg q).fault (goes k sg q).after (r.drop (goes k sg q).adv).head? A ∧ clean p' = (r.take (goes k sg q).adv).reverse ++ clean p := by
 obtain ⟨e1, e2, e3⟩ := fa_goes (k := k) (sg := sg) (q := q)
 obtain ⟨h1, h2, h3⟩ := fa_facts hk hs
 rw [← e1] at h1
 rw [← e2] at h2 h3
 rw [← e3] at h3
 have hstrm : ∃ p', strmAfter (goes k sg q).adv p r.tail sg = .strm p' (r.drop (goes k sg q).adv) ∧ clean p' = (r.take (goes k sg q).adv).reverse ++ clean p := by
  cases sg with
  | none =>
   have hr : r = [] := List.head?_eq_none_iff.mp hr
   subst hr
   exact ⟨1114113 :: p, rfl, by rw [clean_mark]; simp⟩
  | some c =>
   obtain ⟨r', rfl⟩ : ∃ r', r = c :: r' := by
    cases r with
    | nil => cases hr
    | cons d r' => cases hr; exact ⟨r', rfl⟩
   rcases Nat.lt_or_ge (goes k (some c) q).adv 1 with h | h
   ·have h0 : (goes k (some c) q).adv = 0 := by exact Nat.lt_one_iff.mp h
    rw [h0]
    exact ⟨1114113 :: p, rfl, by rw [clean_mark]; rfl⟩
   ·have h0 : (goes k (some c) q).adv = 1 := by exact Eq.symm (Nat.le_antisymm h h1)
    rw [h0]
    exact ⟨c :: p, rfl, by rw [clean_cons (alphaN_lt c (hs c rfl))]; rfl⟩
 obtain ⟨p', s1, s2⟩ := hstrm
 refine ⟨p', ?_, s2⟩
 subst hA
 unfold after1
 rw [s1]
 generalize hG : goes k sg q = G at *
 by_cases hf : G.fault = []
 ·have hb : brk k sg = false := by
   cases hb : brk k sg with
   | false => rfl
   | true => rw [hb, if_pos rfl, hf] at h3; cases h3.1
  have q1 : queueOf (brk k sg) G.fault G.after = if G.after = 16 then [.ref 3] else [] := by unfold queueOf; rw [if_pos hf]; rfl
  have q2 : errs (brk k sg) G.fault (sgAV sg) = [] := by unfold errs; rw [if_pos hf]
  rw [q1, q2]
  by_cases hW : G.after = 16
  ·rw [if_pos hW]; exact .c2 hf hW rfl
  ·rw [if_neg hW]; exact .c1 hf hW rfl
 ·cases hb : brk k sg with
  | false =>
   rw [hb, if_neg Bool.false_ne_true] at h3
   have q1 : queueOf false G.fault G.after = .ref 4 :: (if G.after = 16 then [.ref 3] else []) := by unfold queueOf; rw [if_neg hf, if_neg Bool.false_ne_true]; rfl
   have q2 : errs false G.fault (sgAV sg) = [errE G.fault] := by unfold errs; rw [if_neg hf, if_neg Bool.false_ne_true]
   rw [q1, q2]
   by_cases hW : G.after = 16
   ·rw [if_pos hW]; exact .c4 hf h3 h2 hW rfl
   ·rw [if_neg hW]; exact .c3 hf h3 h2 hW rfl
  | true =>
   rw [hb, if_pos rfl] at h3
   have q1 : queueOf true G.fault G.after = [.ref 5] := by unfold queueOf; rw [if_neg hf, if_pos rfl, if_neg h3.2]; rfl
   have hadv : G.adv = 0 := by
    unfold brk at hb
    cases sg with
    | none => simp at hb
    | some c =>
     simp only [Bool.and_eq_true, Bool.not_eq_true', beq_iff_eq] at hb
     obtain ⟨rfl, hb1, hb2⟩ := hb
     have hb2 : c ≠ 62 := by simpa using hb2
     have e : (fa 3 (some c)).1 = 0 := by
      unfold fa
      dsimp only
      rw [hb1, if_neg Bool.false_ne_true]
      unfold leaveF
      dsimp only
      rw [if_neg (fun z => hb2 z.1), if_neg (by intro z; rcases z.1 with z | z | z | z <;> cases z), if_neg (by decide), if_neg (by intro z; rcases z with z | z <;> cases z), if_neg (by decide), if_neg (by decide), if_pos rfl]
     exact e1.trans e
   have q2 : errs true G.fault (sgAV sg) = errB (sgAV (r.drop G.adv).head?) 4 := by unfold errs; rw [if_neg hf, if_pos rfl, h3.1, hadv]; rw [List.drop_zero, hr]
   rw [q1, q2]
   exact .c5 h3.1 h3.2 rfl
theorem call_sg (hk : k < 16) {sg : Option Nat} (hs : ∀ c, sg = some c → c ∈ alphaN) (hkw : kwB' (k, sg) = true) {bd : Nat} (hf : Fit k q bd) : CallG p r k sg q := by
 obtain ⟨s, e, hl⟩ := hf.asK
 cases hp : partK k with
 | true =>
  rw [e]
  refine call_sym (k, sg) (mem_kss (List.contains_iff_mem.mp hp) hs) rfl ?_
  cases Nat.decEq k 2 with
  | isTrue h => rw [if_pos h]; exact Nat.le_trans (Nat.le_trans (Nat.le_add_right _ _) hf.ln) (Nat.le_of_ble_eq_true rfl)
  | isFalse h => rw [if_neg h]; exact Nat.le_trans hl (Nat.le_of_ble_eq_true rfl)
 | false => exact call_all (k, sg) (mem_kss (notPart k hk hp) hs) hkw
theorem call_sign (hk : k < 16) {c : Nat} (hc : c ∈ alphaN) (hkw : ¬ (k = 3 ∧ kwc c = true)) {bd : Nat} (hf : Fit k q bd) : Ok (f_law_call [.ref 0, .int k] (before1 p (c :: r) q)) (.bool true, after1 k (some c) p r q) :=
 call_sg (sg := some c) hk (fun _ e => by injection e with e; exact e ▸ hc) (by
  show (!(k == 3 && kwc c)) = true
  cases h3 : k == 3 with
  | false => rfl
  | true => cases hq : kwc c with
   | false => rfl
   | true => exact absurd ⟨eq_of_beq h3, hq⟩ hkw) hf
theorem call_none (hk : k < 16) {bd : Nat} (hf : Fit k q bd) : Ok (f_law_call [.ref 0, .int k] (before1 p [] q)) (.bool true, after1 k none p [] q) :=
 call_sg (r := []) (sg := none) hk (fun _ h => nO h) rfl hf
theorem clean_app {l : List Nat} (h : ∀ c ∈ l, c < 1114112) {p : List Nat} : clean (l ++ p) = l ++ clean p := by
 unfold clean
 rw [List.filter_append]
 congr 1
 exact List.filter_eq_self.mpr fun c hc => by simpa using h c hc
theorem kw_call {c : Nat} (hc : kwc c = true) (hr : ∀ x ∈ r, x ∈ alphaN) : Ok (f_law_call [.ref 0, .int 3] (before1 p (c :: r) q)) (.bool true, if kwM (wordOf c) (c :: r) = 6 then [tokO .any (.meth (if isP c then 682 else 724) 0), .strm ((r.take 5).reverse ++ (c :: p)) (r.drop 5), .list [], dtok q] else kwEnd (sgAV (r[kwM (wordOf c) (c :: r) - 1]?)) ((r.take (kwM (wordOf c) (c :: r) - 1)).reverse ++ (c :: p)) (r.drop (kwM (wordOf c) (c :: r) - 1)) q) ∧ 0 < kwM (wordOf c) (c :: r) := by
 have four : c = 112 ∨ c = 80 ∨ c = 115 ∨ c = 83 := by
  have := List.contains_iff_mem.mp hc
  simpa using this
 have six : ∀ m : Nat, (m + 1 = 6) = (m = 5) := fun m => by rw [Nat.add_left_inj]
 rcases four with rfl | rfl | rfl | rfl
 ·have e : kwM (wordOf 112) (112 :: r) = kwM [117, 98, 108, 105, 99] r + 1 := rfl
  rw [e]
  refine ⟨?_, Nat.succ_pos _⟩
  rw [show kwM [117, 98, 108, 105, 99] r + 1 - 1 = kwM [117, 98, 108, 105, 99] r by exact Nat.add_sub_self_right (kwM [117, 98, 108, 105, 99] r) 1]
  have := kwP112 (p := p) (q := q) hr
  simp only [six]
  exact this
 ·have e : kwM (wordOf 80) (80 :: r) = kwM [117, 98, 108, 105, 99] r + 1 := rfl
  rw [e]
  refine ⟨?_, Nat.succ_pos _⟩
  rw [show kwM [117, 98, 108, 105, 99] r + 1 - 1 = kwM [117, 98, 108, 105, 99] r by exact Nat.add_sub_self_right (kwM [117, 98, 108, 105, 99] r) 1]
  have := kwP80 (p := p) (q := q) hr
  simp only [six]
  exact this
 ·have e : kwM (wordOf 115) (115 :: r) = kwM [121, 115, 116, 101, 109] r + 1 := rfl
  rw [e]
  refine ⟨?_, Nat.succ_pos _⟩
  rw [show kwM [121, 115, 116, 101, 109] r + 1 - 1 = kwM [121, 115, 116, 101, 109] r by exact Nat.add_sub_self_right (kwM [121, 115, 116, 101, 109] r) 1]
  have := kwS115 (p := p) (q := q) hr
  simp only [six]
  exact this
 ·have e : kwM (wordOf 83) (83 :: r) = kwM [121, 115, 116, 101, 109] r + 1 := rfl
  rw [e]
  refine ⟨?_, Nat.succ_pos _⟩
  rw [show kwM [121, 115, 116, 101, 109] r + 1 - 1 = kwM [121, 115, 116, 101, 109] r by exact Nat.add_sub_self_right (kwM [121, 115, 116, 101, 109] r) 1]
  have := kwS83 (p := p) (q := q) hr
  simp only [six]
  exact this
end
section
variable {p r : List Nat} {q : Part} {k : Nat}
theorem stepG_nil : stepG k [] q = goes k none q := rfl
theorem kw_not {c : Nat} {r : List Nat} (h : kwc c = false) : kwM (wordOf c) (c :: r) = 0 := by
 have h1 : c ≠ 112 := fun z => by subst z; cases h
 have h2 : c ≠ 80 := fun z => by subst z; cases h
 have h3 : c ≠ 115 := fun z => by subst z; cases h
 have h4 : c ≠ 83 := fun z => by subst z; cases h
 have hp : isP c = false := by
  unfold isP
  rw [Bool.or_eq_false_iff]
  exact ⟨beq_eq_false_iff_ne.mpr h1, beq_eq_false_iff_ne.mpr h2⟩
 have hw : wordOf c = wS := by unfold wordOf; rw [hp]; rfl
 rw [hw]
 have hl : low1 c ≠ 115 := by
  unfold low1
  split
  ·rename_i q; lia
  ·exact h3
 exact if_neg hl
theorem stepG_sign {c : Nat} (hc : c ∈ alphaN) (hkw : ¬ (k = 3 ∧ kwc c = true)) : stepG k (c :: r) q = goes k (some c) q := by
 unfold stepG goes
 dsimp only [List.head?_cons, List.headD_cons]
 show (if keepB k c = true then _ else _) = (if keepB k c = true then _ else _)
 split
 ·rfl
 ·rename_i hk
  have hl : lvG k (c :: r) = leaveF k (some c) := by
   unfold lvG
   dsimp only
   split
   ·rename_i h3
    obtain ⟨rfl, h62⟩ := h3
    have hz : kwc c = false := by
     cases z : kwc c with
     | false => rfl
     | true => exact absurd ⟨rfl, z⟩ hkw
    rw [kw_not hz, if_neg (by lia)]
    unfold leaveF
    dsimp only
    rw [if_neg (fun z => h62 z.1), if_neg (by intro z; rcases z.1 with z | z | z | z <;> cases z), if_neg (by decide), if_neg (by intro z; rcases z with z | z <;> cases z), if_neg (by decide), if_neg (by decide), if_pos rfl]
   ·rfl
  rw [hl]
theorem lv3_kw {c : Nat} (hc : kwc c = true) : lvG 3 (c :: r) = if kwM (wordOf c) (c :: r) = 6 then (6, [], if isP c then 4 else 10) else (kwM (wordOf c) (c :: r), nBroken, 15) := by
 have h62 : c ≠ 62 := fun z => by subst z; cases hc
 exact if_pos ⟨rfl, h62⟩
theorem upd3a {c W : Nat} (h : W = 4 ∨ W = 10) : leaveU 3 (some c) [] W q = q := by
 rcases h with rfl | rfl <;> rfl
theorem upd3b {c : Nat} : leaveU 3 (some c) nBroken 15 q = { q with ok := false } := rfl
theorem call_form (hk : k < 16) (hr : ∀ c ∈ r, c ∈ alphaN) {bd : Nat} (hf : Fit k q bd) : CallIs k p r q (stepG k r q) := by
 cases r with
 | nil =>
  rw [stepG_nil]
  obtain ⟨p', h1, h2⟩ := form_goes (p := p) (q := q) (r := []) hk (sg := none) (fun c z => nO z) rfl rfl
  obtain ⟨s1, b1, s2, s3⟩ := st_facts (k := k) (q := q) (sg := none)
  exact ⟨_, p', _, b1, call_none hk hf, h1, h2, s1, s2, s3⟩
 | cons c r =>
  have hc := hr c (List.mem_cons_self ..)
  by_cases hkw : k = 3 ∧ kwc c = true
  ·obtain ⟨rfl, hkw⟩ := hkw
   obtain ⟨h1, h2⟩ := kw_call (p := p) (q := q) hkw fun x hx => hr x (List.mem_cons_of_mem _ hx)
   have hkeep : keepB 3 c = false := by
    have four : c = 112 ∨ c = 80 ∨ c = 115 ∨ c = 83 := by
     have := List.contains_iff_mem.mp hkw
     simpa using this
    rcases four with rfl | rfl | rfl | rfl <;> rfl
   have hs : stepG 3 (c :: r) q = ⟨(lvG 3 (c :: r)).1, (lvG 3 (c :: r)).2.1, (lvG 3 (c :: r)).2.2, leaveU 3 (some c) (lvG 3 (c :: r)).2.1 (lvG 3 (c :: r)).2.2 q⟩ := by
    show (if keepB 3 c = true then _ else _) = _
    rw [hkeep]; rfl
   have hlt : ∀ l : List Nat, (∀ x ∈ l, x ∈ r) → ∀ x ∈ l.reverse, x < 1114112 := fun l hl x hx => alphaN_lt x (hr x (List.mem_cons_of_mem _ (hl x (List.mem_reverse.mp hx))))
   rw [hs, lv3_kw hkw]
   by_cases h6 : kwM (wordOf c) (c :: r) = 6
   ·rw [if_pos h6] at h1 ⊢
    have hW : (if isP c then 4 else 10) = 4 ∨ (if isP c then 4 else 10) = 10 := by cases isP c; exact .inr rfl; exact .inl rfl
    refine ⟨.meth (if isP c then 682 else 724) 0, (r.take 5).reverse ++ (c :: p), _, false, h1, ?_, ?_, .inr ⟨_, rfl⟩, rfl, .inl ?_⟩
    ·dsimp only
     rw [upd3a hW]
     exact .c1 rfl (by rcases hW with h | h <;> rw [h] <;> decide) rfl
    ·rw [clean_app (hlt _ fun x hx => List.mem_of_mem_take hx), clean_cons (alphaN_lt c hc)]
     simp
    ·dsimp only
     rcases hW with h | h <;> rw [h] <;> rfl
   ·rw [if_neg h6] at h1 ⊢
    obtain ⟨M, hM⟩ : ∃ M, kwM (wordOf c) (c :: r) = M + 1 := ⟨kwM (wordOf c) (c :: r) - 1, by lia⟩
    rw [hM] at h1 ⊢
    rw [show M + 1 - 1 = M by lia] at h1
    refine ⟨.meth 759 0, 1114113 :: ((r.take M).reverse ++ (c :: p)), _, false, h1, ?_, ?_, .inr ⟨_, rfl⟩, rfl, .inl rfl⟩
    ·dsimp only
     rw [upd3b, List.drop_succ_cons]
     have hh : (r.drop M).head? = r[M]? := List.head?_drop ..
     rw [hh]
     exact .c5 rfl (by decide) rfl
    ·rw [clean_mark, clean_app (hlt _ fun x hx => List.mem_of_mem_take hx), clean_cons (alphaN_lt c hc)]
     simp
  ·rw [stepG_sign hc hkw]
   obtain ⟨p', h1, h2⟩ := form_goes (p := p) (q := q) (r := c :: r) hk (sg := some c) (fun d z => by cases z; exact hc) rfl rfl
   obtain ⟨s1, b1, s2, s3⟩ := st_facts (k := k) (q := q) (sg := some c)
   exact ⟨_, p', _, b1, call_sign hk hc hkw hf, h1, h2, s1, s2, s3⟩
end
theorem merge_in {n : Nat} {sel : List Nat} {ob ob' : List AObj} {i k : Nat} {o o1 : AObj} (h : ob[i]? = some o1) (hi : idx sel i = some k) (ho : ob'[k]? = some o) : (merge n sel ob' 0 ob)[i]? = some (renO (bckO n sel) o) :=
 (merge_get h).trans (congrArg some (pick_some (by rw [Nat.zero_add]; exact hi) ho))
theorem merge_off {n : Nat} {sel : List Nat} {ob ob' : List AObj} {i : Nat} {o1 : AObj} (h : ob[i]? = some o1) (hi : idx sel i = none) : (merge n sel ob' 0 ob)[i]? = some o1 :=
 (merge_get h).trans (congrArg some (pick_none (by rw [Nat.zero_add]; exact hi)))
theorem opt_ren {σ : Nat → Option Nat} {s : Option (List Nat)} : renV σ (optAV s) = optAV s := by cases s <;> rfl
theorem avs_ren {σ : Nat → Option Nat} {q : Part} : renVs σ q.avs = q.avs := by
 show [AV.str q.name, renV σ (optAV q.pub), renV σ (optAV q.sys), .bool q.ok] = _
 rw [opt_ren, opt_ren]; rfl
theorem list_ren {σ : Nat → Option Nat} {q : Part} : renO σ (.list q.avs) = .list q.avs := by
 show AObj.list (renVs σ q.avs) = _
 rw [avs_ren]
theorem dtok_ren {σ : Nat → Option Nat} {q : Part} : renO σ (dtok q) = dtok q := by
 show AObj.dict [(kType, .int 0), (kName, .str q.name), (kPub, renV σ (optAV q.pub)), (kSys, renV σ (optAV q.sys)), (kOk, .bool q.ok)] = _
 rw [opt_ren, opt_ren]
noncomputable def mkAV (p : List Nat) : AV := .tup [.int ((posR p).1 + 1), .int (posR p).2]
noncomputable def marksOf (tx : List Nat) : List AV := (List.range (tx.length + 1)).map fun i => mkAV (tx.take i).reverse
theorem marks_at {tx : List Nat} {i : Nat} (h : i ≤ tx.length) : (marksOf tx)[i]? = some (mkAV (tx.take i).reverse) := by
 unfold marksOf
 rw [List.getElem?_map, List.getElem?_range (by exact Nat.lt_succ_of_le h)]; rfl
theorem marks_ren {σ : Nat → Option Nat} {tx : List Nat} : renVs σ (marksOf tx) = marksOf tx := by
 have : ∀ l : List Nat, renVs σ (l.map fun i => mkAV (tx.take i).reverse) = l.map fun i => mkAV (tx.take i).reverse := by
  intro l
  induction l with
  | nil => rfl
  | cons a l ih =>
   show renV σ (mkAV (tx.take a).reverse) :: renVs σ (l.map _) = _
   rw [ih]; rfl
 exact this _
section
variable {tx : List Nat} {fs : Nat}
noncomputable abbrev ruL (tx : List Nat) (pl fs : Nat) (x5 a b c d e fi ro : Option AV) : Loc := [some (.ref 0), some (.str tx), some (.ref 2), some (.int pl), some (.int fs), x5, a, b, c, d, e, fi, ro, none, none, none, none, none, none]
noncomputable abbrev stL (i : Nat) (st : AV) : Prop := st = .none ∨ ∃ a, st = .meth a i
noncomputable abbrev stOk (st : AV) : Prop := stL 0 st
noncomputable abbrev quOk (qu : List (List Nat × AV)) : Prop := qu = [] ∨ ∃ v, qu = [(nQueue, v)]
theorem ref_ren {σ : Nat → Option Nat} {i k : Nat} (h : σ i = some k) : renV σ (.ref i) = .ref k := by
 show (match σ i with | some k => AV.ref k | none => .any) = _
 rw [h]
theorem st_ren {σ : Nat → Option Nat} {i k : Nat} {st : AV} (h : σ i = some k) (hs : stL i st) : stL k (renV σ st) := by
 rcases hs with rfl | ⟨a, rfl⟩
 ·exact .inl rfl
 ·refine .inr ⟨a, ?_⟩
  show (match σ i with | some k => AV.meth a k | none => .any) = _
  rw [h]
theorem qu_ren {σ : Nat → Option Nat} {qu : List (List Nat × AV)} (h : quOk qu) : quOk (renK σ qu) := by
 rcases h with rfl | ⟨v, rfl⟩
 ·exact .inl rfl
 ·exact .inr ⟨_, rfl⟩
structure RunAt (tx : List Nat) (P : Nat) (q : Part) (vs : List AV) (ob : List AObj) : Prop where
 tok : ∃ st qu, ob[0]? = some (tokI st qu) ∧ stOk st ∧ quOk qu
 strm : ∃ p, ob[1]? = some (.strm p (tx.drop P)) ∧ clean p = (tx.take P).reverse
 marks : ob[2]? = some (.list (marksOf tx))
 cur : ob[4]? = some (dtok q)
 plan : ob[5]? = some (.list vs)
noncomputable def HeldAt (ob : List AObj) (v : AV) (w : Row) : Prop := ∃ h, v = rowAV w.k w.stop w.fault h w.after ∧ 6 ≤ h ∧ ob[h]? = some (.list w.part.avs)
noncomputable def HeldsAt (ob : List AObj) : List AV → List Row → Prop
 | [], [] => True
 | v :: vs, w :: ws => HeldAt ob v w ∧ HeldsAt ob vs ws
 | _, _ => False
noncomputable abbrev runTg : PT := .tup [(.loc 6), (.loc 7), (.loc 8), (.loc 9), (.loc 10)]
noncomputable abbrev runRs : List Rt := [.loc 0, .attr 0 w42, .loc 2, .loc 9, .attr 0 w36]
theorem idx_cons {x i : Nat} {r : List Nat} (h : x ≠ i) : idx (x :: r) i = onSome (idx r i) fun k => some (k + 1) := if_neg h
theorem idx_hit {i : Nat} {r : List Nat} : idx (i :: r) i = some 0 := if_pos rfl
theorem idx_sel {h : Nat} (hh : 6 ≤ h) : idx [0, 1, 2, h, 4] 0 = some 0 ∧ idx [0, 1, 2, h, 4] 1 = some 1 ∧ idx [0, 1, 2, h, 4] 2 = some 2 ∧ idx [0, 1, 2, h, 4] h = some 3 ∧ idx [0, 1, 2, h, 4] 4 = some 4 ∧ idx [0, 1, 2, h, 4] 3 = none ∧ idx [0, 1, 2, h, 4] 5 = none ∧ ∀ i, 6 ≤ i → i ≠ h → idx [0, 1, 2, h, 4] i = none := by
 have big : ∀ {n i : Nat}, 6 ≤ i → n < 6 → n ≠ i := fun a b q => Nat.lt_irrefl _ (Nat.lt_of_lt_of_le b (q ▸ a))
 have far : ∀ {i : Nat}, 6 ≤ i → idx [0, 1, 2, h, 4] i = onSome (onSome (onSome (idx [h, 4] i) fun k => some (k + 1)) fun k => some (k + 1)) fun k => some (k + 1) := fun hi => by
  rw [idx_cons (big hi (by decide)), idx_cons (big hi (by decide)), idx_cons (big hi (by decide))]
 have low : ∀ {i : Nat}, i < 6 → idx [h, 4] i = onSome (idx [4] i) fun k => some (k + 1) := fun hi => idx_cons (big hh hi).symm
 refine ⟨rfl, rfl, rfl, (far hh).trans ?_, ?_, ?_, ?_, fun i hi hn => (far hi).trans ?_⟩
 ·rw [idx_hit]; rfl
 ·show onSome (onSome (onSome (idx [h, 4] 4) _) _) _ = _; rw [low (by decide)]; rfl
 ·show onSome (onSome (onSome (idx [h, 4] 3) _) _) _ = _; rw [low (by decide)]; rfl
 ·show onSome (onSome (onSome (idx [h, 4] 5) _) _) _ = _; rw [low (by decide)]; rfl
 ·rw [idx_cons hn.symm, idx_cons (big hi (by decide))]; rfl
theorem sel_nd {h : Nat} (hh : 6 ≤ h) : nodupB [0, 1, 2, h, 4] = true := by
 unfold nodupB nodupB nodupB nodupB nodupB nodupB
 simp
 lia
theorem Ok.viaB {rs : List Rt} {f : BodyF} {loc loc1 loc2 loc3 : Loc} {ob ob1 ob2 : List AObj} {sel : List Nat} {fl fl' : Fl} (h1 : selOf loc ob rs = some sel) (h2 : nodupB sel = true) (h3 : selObjs sel ob sel = some ob1) (hl : renL (idx sel) loc = loc1) (h4 : Ok (f loc1 ob1) (fl, loc2, ob2)) (hf : renF (bckO ob.length sel) fl = fl') (hl3 : renL (bckO ob.length sel) loc2 = loc3) : Ok (Mine.viaB rs f loc ob) (fl', loc3, merge ob.length sel ob2 0 ob) := by
 obtain ⟨l, e, hb⟩ := h4
 exact ⟨l, (viaS_of h1 h2 h3).trans ((onSome_of (by rw [hl]; exact e)).trans (by rw [hf, hl3])), hb⟩
end
theorem rt_loc {loc : Loc} {ob : List AObj} {k i : Nat} (h : getLoc loc k = some (.ref i)) : rtOf loc ob (.loc k) = some i := by
 unfold rtOf
 dsimp only
 rw [h]
theorem rt_attr {loc : Loc} {ob : List AObj} {k i j : Nat} {n : List Nat} {C : Addr} {as : List (List Nat × AV)} (h : getLoc loc k = some (.ref i)) (ho : ob[i]? = some (.inst C as)) (ha : look1 n as = some (.ref j)) : rtOf loc ob (.attr k n) = some j := by
 unfold rtOf
 dsimp only
 rw [h]
 dsimp only
 rw [ho]
 dsimp only
 rw [ha]
theorem sel_cons {loc : Loc} {ob : List AObj} {r : Rt} {rs : List Rt} {i : Nat} {l : List Nat} (h : rtOf loc ob r = some i) (h2 : selOf loc ob rs = some l) : selOf loc ob (r :: rs) = some (i :: l) := (onSome_of h).trans (onSome_of h2)
theorem sel_nil {loc : Loc} {ob : List AObj} : selOf loc ob [] = some [] := rfl
theorem objs_cons {s : List Nat} {ob : List AObj} {i : Nat} {r : List Nat} {o : AObj} {l : List AObj} (h : ob[i]? = some o) (h2 : selObjs s ob r = some l) : selObjs s ob (i :: r) = some (renO (idx s) o :: l) := (onSome_of h).trans (onSome_of h2)
theorem objs_as {s : List Nat} {ob : List AObj} {i : Nat} {r : List Nat} {o o' : AObj} {l : List AObj} (h : ob[i]? = some o) (e : renO (idx s) o = o') (h2 : selObjs s ob r = some l) : selObjs s ob (i :: r) = some (o' :: l) := e ▸ objs_cons h h2
theorem merge_as {n : Nat} {sel : List Nat} {ob ob' : List AObj} {i k : Nat} {o o1 o' : AObj} (h : ob[i]? = some o1) (hi : idx sel i = some k) (ho : ob'[k]? = some o) (e : renO (bckO n sel) o = o') : (merge n sel ob' 0 ob)[i]? = some o' := e ▸ merge_in h hi ho
theorem objs_nil {s : List Nat} {ob : List AObj} : selObjs s ob [] = some [] := rfl
noncomputable abbrev tokG (r l4 st ct : AV) (qu : List (List Nat × AV)) : AObj := .inst 762 ([(nStream, r), (nParser, .none), (nEscF, .bool false), (nLast4, l4), (nState, st), (nEsc, .bool false), (nTok, ct)] ++ qu)
theorem tok_ren {σ : Nat → Option Nat} {r l4 st ct : AV} {qu : List (List Nat × AV)} : renO σ (tokG r l4 st ct qu) = tokG (renV σ r) (renV σ l4) (renV σ st) (renV σ ct) (renK σ qu) := rfl
theorem tokI_ren {σ : Nat → Option Nat} {st : AV} {qu : List (List Nat × AV)} (hs : stOk st) (hq : quOk qu) (h0 : σ 0 = some 0) (h1 : σ 1 = some 1) (h4 : σ 4 = some 4) : ∃ st' qu', renO σ (tokI st qu) = tokI st' qu' ∧ stOk st' ∧ quOk qu' :=
 ⟨_, _, (tok_ren (r := .ref 1) (l4 := .any) (ct := .ref 4)).trans (by rw [ref_ren h1, ref_ren h4]; rfl), st_ren h0 hs, qu_ren hq⟩
section
variable {tx : List Nat} {fs : Nat} {P h k : Nat} {q q2 : Part} {g : Goes} {st : AV} {qu : List (List Nat × AV)} {p r : List Nat} {vs : List AV} {ob : List AObj} {x5 a b c d e fi ro : Option AV}
noncomputable abbrev selH (h : Nat) : List Nat := [0, 1, 2, h, 4]
theorem marksO_ren {σ : Nat → Option Nat} : renO σ (.list (marksOf tx)) = .list (marksOf tx) := congrArg AObj.list marks_ren
theorem run_sel (t1 : ob[0]? = some (tokI st qu)) : selOf (ruL tx P fs x5 a b c (some (.ref h)) e fi ro) ob runRs = some (selH h) :=
 sel_cons (rt_loc rfl) (sel_cons (rt_attr (i := 0) rfl t1 (by rfl)) (sel_cons (rt_loc rfl) (sel_cons (rt_loc rfl) (sel_cons (rt_attr (i := 0) rfl t1 (by rfl)) sel_nil))))
theorem run_obj {st1 : AV} {qu' : List (List Nat × AV)} (t1 : ob[0]? = some (tokI st qu)) (s1 : ob[1]? = some (.strm p r)) (m1 : ob[2]? = some (.list (marksOf tx))) (hh : ob[h]? = some (.list q2.avs)) (c1 : ob[4]? = some (dtok q)) (q1 : renO (idx (selH h)) (tokI st qu) = tokI st1 qu') : selObjs (selH h) ob (selH h) = some (rnI st1 qu' p r (marksOf tx) q2 q) :=
 objs_as t1 q1 (objs_as s1 rfl (objs_as m1 marksO_ren (objs_as hh list_ren (objs_as c1 dtok_ren objs_nil))))
noncomputable def renH (h : Nat) (x : Option AV) : Option AV := x.map (renV (idx (selH h)))
theorem run_locR {s W : Nat} {f : List Nat} (i0 : idx (selH h) 0 = some 0) (i2 : idx (selH h) 2 = some 2) (ih : idx (selH h) h = some 3) : renL (idx (selH h)) (ruL tx P fs x5 (some (.int k)) (some (.int (s : Nat))) (some (.str f)) (some (.ref h)) (some (.int W)) fi ro) = rnL tx P fs k s f W (renH h x5) (renH h fi) (renH h ro) := by
 simp only [renL, ruL, List.map_cons, List.map_nil, Option.map_some, ref_ren i0, ref_ren i2, ref_ren ih]; rfl
theorem run_back {ob2 : List AObj} {qe : List AV} (h6 : 6 ≤ h) (t1 : ob[0]? = some (tokI st qu)) (s1 : ob[1]? = some (.strm p r)) (m1 : ob[2]? = some (.list (marksOf tx))) (hh : ob[h]? = some (.list q2.avs)) (c1 : ob[4]? = some (dtok q)) (p1 : ob[5]? = some (.list vs)) {st' : AV} {p' : List Nat} (e4 : stOk st') (hcl : clean p' = (tx.take P).reverse) : RunAt tx P q2 vs (merge ob.length (selH h) (rnO st' p' (tx.drop P) (marksOf tx) q2 q2 qe ob2) 0 ob) ∧ ∀ v w, HeldAt ob v w → HeldAt (merge ob.length (selH h) (rnO st' p' (tx.drop P) (marksOf tx) q2 q2 qe ob2) 0 ob) v w := by
 obtain ⟨i0, i1, i2, ih, i4, i3, i5, io⟩ := idx_sel h6
 obtain ⟨st2, qu2, r1, r0, r2⟩ := tokI_ren (σ := bckO ob.length (selH h)) (qu := [(nQueue, .ref 5)]) e4 (.inr ⟨_, rfl⟩) rfl rfl rfl
 refine ⟨⟨⟨st2, qu2, merge_as t1 i0 rfl r1, r0, r2⟩, ⟨p', merge_as (o := .strm p' (tx.drop P)) s1 i1 rfl rfl, hcl⟩, merge_as m1 i2 rfl marksO_ren, merge_as c1 i4 rfl dtok_ren, merge_off p1 i5⟩, ?_⟩
 rintro v w ⟨h', rfl, g1, g2⟩
 refine ⟨h', rfl, g1, ?_⟩
 by_cases hq : h' = h
 ·subst hq
  exact (merge_as g2 ih rfl list_ren).trans (hh.symm.trans g2)
 ·exact merge_off g2 (io h' g1 hq)
inductive TurnOut (tx : List Nat) (fs P : Nat) (g : Goes) (vs : List AV) (ob : List AObj) (x : Res (Fl × St)) : Prop
 | stop {loc' : Loc} {ob' : List AObj} (h : g.after = 16) (e : Ok x (.ret (.int ((if P = tx.length then P + g.adv + 1 else P + g.adv : Nat) : Int)), loc', ob')) (r : RunAt tx (P + g.adv) g.part vs ob')
 | go {ob' : List AObj} {x5 a b c d e fi ro : Option AV} (h : g.after ≠ 16) (e : Ok x (.next, ruL tx (P + g.adv) fs x5 a b c d e fi ro, ob')) (r : RunAt tx (P + g.adv) g.part vs ob') (hh : ∀ v w, HeldAt ob v w → HeldAt ob' v w)
noncomputable abbrev ruW (tx : List Nat) (fs P k : Nat) (g : Goes) (h : Nat) (x5 fi ro : Option AV) : Loc := ruL tx P fs x5 (some (.int k)) (some (.int (P + g.adv : Nat))) (some (.str g.fault)) (some (.ref h)) (some (.int g.after)) fi ro
theorem run_out {que : List AV} {st1 st' : AV} {p' : List Nat} {tl : List AObj} {qu' : List (List Nat × AV)} {ρ : AV} (h6 : 6 ≤ h) (t1 : ob[0]? = some (tokI st qu)) (s1 : ob[1]? = some (.strm p r)) (m1 : ob[2]? = some (.list (marksOf tx))) (hh : ob[h]? = some (.list g.part.avs)) (c1 : ob[4]? = some (dtok q)) (p1 : ob[5]? = some (.list vs)) (q1 : renO (idx (selH h)) (tokI st qu) = tokI st1 qu') (e4 : stOk st') (hcl : clean p' = (tx.take (P + g.adv)).reverse)
  (run : Ok (exs (ex TO2 NN 19) runB (rnL tx P fs k (P + g.adv) g.fault g.after (renH h x5) (renH h fi) (renH h ro)) (rnI st1 qu' p r (marksOf tx) g.part q)) (runR tx P fs k (P + g.adv) g.fault g.after (renH h x5) (some ρ) (rnO st' p' (tx.drop (P + g.adv)) (marksOf tx) g.part g.part que tl))) :
  TurnOut tx fs P g vs ob (viaB runRs (exs (ex TO2 NN 19) runB) (ruW tx fs P k g h x5 fi ro) ob) := by
 obtain ⟨i0, _, i2, ih, _⟩ := idx_sel h6
 obtain ⟨f1, f2⟩ := run_back (ob2 := tl) (qe := que) h6 t1 s1 m1 hh c1 p1 e4 hcl
 unfold runR at run
 cases Nat.decEq g.after 16 with
 | isTrue hW =>
  rw [if_pos hW] at run
  exact .stop hW (Ok.viaB (run_sel t1) (sel_nd h6) (run_obj t1 s1 m1 hh c1 q1) (run_locR i0 i2 ih) run rfl rfl) f1
 | isFalse hW =>
  rw [if_neg hW] at run
  cases x5 <;> exact .go hW (Ok.viaB (run_sel t1) (sel_nd h6) (run_obj t1 s1 m1 hh c1 q1) (run_locR i0 i2 ih) run rfl rfl) f1 f2
theorem run_turn (hl : tx.length ≤ 3000) (ha : ∀ c ∈ tx, c ∈ alphaN) (hk : k < 16) (hg : g = stepG k (tx.drop P) q) (hst : P + g.adv ≤ tx.length) {bd : Nat} (hf : Fit k q bd) (R : RunAt tx P q vs ob) (h6 : 6 ≤ h) (hh : ob[h]? = some (.list g.part.avs)) : TurnOut tx fs P g vs ob (viaB runRs (exs (ex TO2 NN 19) runB) (ruW tx fs P k g h x5 fi ro) ob) := by
 obtain ⟨⟨st, qu, t1, t2, t3⟩, ⟨p, s1, s2⟩, m1, c1, p1⟩ := R
 obtain ⟨i0, i1, _, _, i4, _⟩ := idx_sel h6
 obtain ⟨st1, qu', q1, _, q2⟩ := tokI_ren t2 t3 i0 i1 i4
 obtain ⟨st', p', A, b1, e1, e2, e3, e4, e5, e6⟩ := (call_form (p := p) (r := tx.drop P) (q := q) hk (fun c hc => ha c (List.mem_of_mem_drop hc)) hf).ex
 rw [← hg] at e2 e3 e6
 rw [List.drop_drop, List.head?_drop] at e2
 have hcl : clean p' = (tx.take (P + g.adv)).reverse := by
  rw [e3, s2, ← List.reverse_append, List.take_add]
 obtain ⟨que, tl, ρ, run⟩ := run_form (tx := tx) (pl := P) (fs := fs) (k := k) (stop := P + g.adv) (x5 := renH h x5) (fi := renH h fi) (ro := renH h ro) (st0 := st1) (qu := qu') (marks := marksOf tx) hl (Nat.le_trans hst hl) e1 e2 q2 (by rw [marks_at hst, posR_clean p', hcl]; rfl) e4 e5 e6
 exact run_out h6 t1 s1 m1 hh c1 p1 q1 e4 hcl run
end
theorem lv_chk2 : ((List.range 16).all fun k => alphaN.all fun c => !(Nat.beq (leaveF k (some c)).2.2 16) || Nat.beq (leaveF k (some c)).1 1) = true := by kernel_rfl
theorem lvG_16 {k : Nat} (hk : k < 16) {c : Nat} (hc : c ∈ alphaN) {r : List Nat} (h : (lvG k (c :: r)).2.2 = 16) : (lvG k (c :: r)).1 = 1 := by
 unfold lvG at h ⊢
 dsimp only at h ⊢
 split at h
 ·rename_i h3
  exfalso
  split at h
  ·dsimp only at h; cases hp : isP c <;> rw [hp] at h <;> cases h
  ·cases h
 ·have := List.all_eq_true.mp (List.all_eq_true.mp lv_chk2 k (List.mem_range.mpr hk)) c hc
  rw [h] at this
  rename_i h3
  rw [if_neg h3]
  rcases Bool.or_eq_true_iff.mp this with q | q
  ·cases q
  ·exact Nat.eq_of_beq_eq_true q
theorem stepG_facts {k : Nat} (hk : k < 16) {r : List Nat} (hr : ∀ c ∈ r, c ∈ alphaN) {q : Part} (hf : Fit k q r.length) (hl : r.length ≤ 3800) : (stepG k r q).adv ≤ r.length ∧ (stepG k r q).after ≤ 16 ∧ Fit (stepG k r q).after (stepG k r q).part (r.drop (stepG k r q).adv).length ∧ ((stepG k r q).after = 16 → r ≠ [] → (stepG k r q).adv = 1) ∧ (r = [] → (stepG k r q).adv = 0) := by
 unfold stepG
 split
 ·rename_i h
  cases r with
  | nil => cases h
  | cons c r =>
   refine ⟨by rw [List.length_cons]; show 1 ≤ _; exact Nat.le_add_left 1 r.length, by show k ≤ 16; exact Nat.le_of_succ_le hk, ?_, fun h => ?_, fun h => cons_no h⟩
   ·show Fit k (keepU k c q) r.length
    exact Fit.keep hf
   ·have h : k = 16 := h; omega
 ·rcases hz : lvG k r with ⟨A, F, W⟩
  obtain ⟨h1, h2, h3⟩ := lvG_meas hk hr hz
  refine ⟨h2, h1, hf.leave (by rw [List.length_drop]; omega) (by rw [List.length_drop]; omega), fun h hn => ?_, fun h => ?_⟩
  ·cases r with
   | nil => exact absurd rfl hn
   | cons c r =>
    have := lvG_16 hk (hr c (List.mem_cons_self ..)) (r := r) (by rw [hz]; exact h)
    rw [hz] at this
    exact this
  ·subst h
   have : A ≤ 0 := h2
   show A = 0
   exact Nat.eq_zero_of_le_zero h2
section
variable {tx : List Nat} {fs : Nat}
theorem RunAt.past {P : Nat} {q : Part} {vs : List AV} {ob : List AObj} (R : RunAt tx P q vs ob) (h : P = tx.length) : RunAt tx (P + 1) q vs ob := by
 obtain ⟨p, s1, s2⟩ := R.strm
 refine ⟨R.tok, ⟨p, ?_, ?_⟩, R.marks, R.cur, R.plan⟩
 ·rw [s1, List.drop_eq_nil_of_le (by exact Nat.le_of_eq (id (Eq.symm h))), List.drop_eq_nil_of_le (by exact Nat.le.intro (congrFun (congrArg HAdd.hAdd (id (Eq.symm h))) 1))]
 ·rw [s2, List.take_of_length_le (by exact Nat.le_of_eq (id (Eq.symm h))), List.take_of_length_le (by exact Nat.le.intro (congrFun (congrArg HAdd.hAdd (id (Eq.symm h))) 1))]
theorem itemR {i k : Nat} {xs : List AV} {ob : List AObj} {x : AV} (h : ob[i]? = some (.list xs)) (hx : xs[k]? = some x) : itemAt (.ref i) k ob = some (some x) := by
 show onList ob i (fun xs => some xs[k]?) = _
 unfold onList
 rw [h]
 exact congrArg some hx
theorem Ok.forRet {a : AV → Loc → List AObj → Res (Loc × List AObj)} {f : BodyF} {v x y : AV} {n k : Nat} {loc loc1 loc2 : Loc} {ob ob1 ob2 : List AObj} (h0 : itemAt v k ob = some (some x)) (h1 : Ok (a x loc ob) (loc1, ob1)) (h2 : Ok (f loc1 ob1) (.ret y, loc2, ob2)) : Ok (forG a f v (n + 1) k loc ob) (.ret y, loc2, ob2) := by
 unfold forG
 rw [h0]
 exact Ok.bnd h1 (Ok.bnd h2 Ok.fine)
theorem chain_inv {k P : Nat} {r : List Nat} {q : Part} {w : Row} {ws : List Row} (C : Chain k P r q (w :: ws)) : ∃ g, g = stepG k r q ∧ w = ⟨k, P + g.adv, g.fault, g.part, g.after⟩ ∧ Chain g.after (P + g.adv) (r.drop g.adv) g.part ws := by
 cases C with
 | step _ e t => exact ⟨_, e, rfl, t⟩
theorem held_inv {ob : List AObj} {w : Row} {ws : List Row} : ∀ {vs : List AV}, HeldsAt ob vs (w :: ws) → ∃ v vs', vs = v :: vs' ∧ HeldAt ob v w ∧ HeldsAt ob vs' ws
 | [], h => h.elim
 | v :: vs, h => ⟨v, vs, rfl, h⟩
theorem held_map {ob ob' : List AObj} (f : ∀ v w, HeldAt ob v w → HeldAt ob' v w) : ∀ {ws : List Row} {vs : List AV}, HeldsAt ob vs ws → HeldsAt ob' vs ws := fun {ws} => by
 induction ws with
 | nil => intro vs h; cases vs with
  | nil => trivial
  | cons _ _ => exact h.elim
 | cons w ws ih =>
  intro vs h
  obtain ⟨v, vs', rfl, h1, h2⟩ := held_inv h
  exact ⟨f _ _ h1, ih h2⟩
inductive LoopOut (tx : List Nat) (P : Nat) (vs0 : List AV) (x : Res (Fl × St)) : Prop
 | mk {z : Nat} {loc' : Loc} {ob' : List AObj} {q' : Part} (h : Ok x (.ret (.int ((z : Nat) : Int)), loc', ob')) (h1 : P < z) (h2 : z ≤ tx.length + 1) (h3 : RunAt tx z q' vs0 ob')
theorem stop_out {P A : Nat} {q : Part} {vs : List AV} {ob : List AObj} (hP : P ≤ tx.length) (hA : P + A ≤ tx.length) (k4 : tx.drop P ≠ [] → A = 1) (k5 : tx.drop P = [] → A = 0) (r : RunAt tx (P + A) q vs ob) : P < (if P = tx.length then P + A + 1 else P + A) ∧ (if P = tx.length then P + A + 1 else P + A) ≤ tx.length + 1 ∧ RunAt tx (if P = tx.length then P + A + 1 else P + A) q vs ob := by
 cases Nat.decEq P tx.length with
 | isTrue h =>
  cases k5 (List.drop_eq_nil_of_le (Nat.le_of_eq h.symm))
  rw [if_pos h]
  exact ⟨Nat.lt_succ_self _, Nat.succ_le_succ hP, r.past h⟩
 | isFalse h =>
  cases k4 fun z => h (Nat.le_antisymm hP (List.drop_eq_nil_iff.mp z))
  rw [if_neg h]
  exact ⟨Nat.lt_succ_self _, Nat.le_succ_of_le hA, r⟩
theorem vs_at {vs0 vs : List AV} {i : Nat} {v : AV} (h : vs0.drop i = v :: vs) : vs0[i]? = some v ∧ vs0.drop (i + 1) = vs := by
 refine ⟨?_, ?_⟩
 ·rw [← List.head?_drop, h]; rfl
 ·rw [← List.drop_drop, h]; rfl
theorem drop_fit {P : Nat} (h : P ≤ tx.length) (hl : tx.length ≤ 3000) : (tx.drop P).length ≤ 3800 := by rw [List.length_drop]; exact Nat.le_trans (Nat.sub_le ..) (Nat.le_trans hl (Nat.le_of_ble_eq_true rfl))
theorem drop_adv {P A : Nat} (h : A ≤ (tx.drop P).length) (hP : P ≤ tx.length) : P + A ≤ tx.length := by rw [List.length_drop] at h; exact Nat.add_le_of_le_sub' hP h
theorem run_loop (hl : tx.length ≤ 3000) (ha : ∀ c ∈ tx, c ∈ alphaN) (vs0 : List AV) : ∀ (ws : List Row) (k P : Nat) (q : Part) (vs : List AV) (i n : Nat) (ob : List AObj) (x5 a b c d e fi ro : Option AV), Chain k P (tx.drop P) q ws → k < 16 → vs0.drop i = vs → HeldsAt ob vs ws → RunAt tx P q vs0 ob → Fit k q (tx.drop P).length → P ≤ tx.length → ws.length < n →
  LoopOut tx P vs0 (forG (asg TO2 20 runTg) (viaB runRs (exs (ex TO2 NN 19) runB)) (.ref 5) n i (ruL tx P fs x5 a b c d e fi ro) ob) := by
 intro ws
 induction ws with
 | nil =>
  intro k P q _ _ _ _ _ _ _ _ _ _ _ _ C hk
  cases C with
  | stop h => exact absurd h (Nat.ne_of_lt hk)
 | cons w ws ih =>
  intro k P q vs i n ob x5 a b c d e fi ro C hk hv hh R hf hP hn
  obtain ⟨g, hg, rfl, C2⟩ := chain_inv C
  obtain ⟨v, vs, rfl, ⟨h, rfl, h6, hob⟩, hh2⟩ := held_inv hh
  cases n with
  | zero => exact absurd hn (Nat.not_lt_zero _)
  | succ n =>
  obtain ⟨hvi, hv'⟩ := vs_at hv
  obtain ⟨k1, k2, k3, k4, k5⟩ := stepG_facts hk (fun c hc => ha c (List.mem_of_mem_drop hc)) hf (drop_fit hP hl)
  rw [← hg] at k1 k2 k3 k4 k5
  rw [List.drop_drop] at C2 k3
  have hst := drop_adv k1 hP
  cases run_turn (fs := fs) (x5 := x5) (fi := fi) (ro := ro) hl ha hk hg hst hf R h6 hob with
  | stop hW t r =>
   obtain ⟨g1, g2, g3⟩ := stop_out hP hst (k4 hW) k5 r
   exact .mk (Ok.forRet (itemR R.plan hvi) (Ok.k) t) g1 g2 g3
  | go hW t r m =>
   cases ih _ _ _ _ _ n _ _ _ _ _ _ _ _ _ C2 (Nat.lt_of_le_of_ne k2 hW) hv' (held_map m hh2) r k3 hst (Nat.lt_of_succ_lt_succ hn) with
   | mk g1 g2 g3 g4 => exact .mk (Ok.forItem (itemR R.plan hvi) (Ok.k) t g1) (Nat.lt_of_le_of_lt (Nat.le_add_right _ _) g2) g3 g4
end
theorem meas_step {A L W k : Nat} (hA : A ≤ L) (hW : W ≤ 16) (h : A = 0 → k < W) (hk : k < 16) : 20 * (L - A) + (16 - W) < 20 * L + (16 - k) := by
 rcases Nat.eq_zero_or_pos A with q | q
 ·rw [q]; exact Nat.add_lt_add_left (Nat.sub_lt_sub_left hk (h q)) _
 ·obtain ⟨M, rfl⟩ := Nat.exists_eq_add_of_le hA
  rw [Nat.add_sub_cancel_left, Nat.mul_add, Nat.add_comm (20 * A), Nat.add_assoc]
  exact Nat.add_lt_add_left (Nat.lt_of_lt_of_le (Nat.lt_of_le_of_lt (Nat.sub_le ..) (Nat.lt_of_lt_of_le (by decide : 16 < 20 * 1) (Nat.mul_le_mul_left 20 q))) (Nat.le_add_right ..)) _
theorem stepG_meas {k : Nat} (hk : k < 16) {r : List Nat} (hr : ∀ c ∈ r, c ∈ alphaN) {q : Part} : 20 * (r.drop (stepG k r q).adv).length + (16 - (stepG k r q).after) < 20 * r.length + (16 - k) ∧ (stepG k r q).after ≤ 16 := by
 unfold stepG
 split
 ·rename_i h
  cases r with
  | nil => cases h
  | cons c r =>
   exact ⟨Nat.add_lt_add_right (Nat.mul_lt_mul_of_pos_left (Nat.lt_succ_self _) (by decide)) _, Nat.le_of_lt hk⟩
 ·rcases hz : lvG k r with ⟨A, F, W⟩
  obtain ⟨h1, h2, h3⟩ := lvG_meas hk hr hz
  show 20 * (r.drop A).length + (16 - W) < 20 * r.length + (16 - k) ∧ W ≤ 16
  rw [List.length_drop]
  exact ⟨meas_step h2 h1 h3 hk, h1⟩
theorem chain_len {k P : Nat} {r : List Nat} {q : Part} {ws : List Row} (C : Chain k P r q ws) : (∀ c ∈ r, c ∈ alphaN) → ws.length ≤ 20 * r.length + (16 - k) := by
 induction C with
 | stop h => intro _; exact Nat.zero_le _
 | step hk hg C ih =>
  intro hr
  rename_i k P r q g rs
  have h1 := ih fun c hc => hr c (List.mem_of_mem_drop hc)
  obtain ⟨h2, h3⟩ := stepG_meas (q := q) hk hr
  rw [← hg] at h2 h3
  rw [List.length_cons]; omega
section
variable {tx : List Nat}
theorem plan_n {P R L k : Nat} (h : P + R = L) (hl : L ≤ 150) : 20 * R + 16 < NN + k ∧ ([] : List AV).length + 20 * R + 16 ≤ 4000 + k := by
 show _ ∧ 0 + _ + _ ≤ _
 unfold NN
 omega
theorem plan_fn (hl : tx.length ≤ 150) (ha : ∀ c ∈ tx, c ∈ alphaN) {k P : Nat} (hk : k < 16) (hP : P ≤ tx.length) {q : Part} (hf : Fit k q (tx.drop P).length) : ∃ q' vs ws m, Ok (f_law_plan [.str tx, .int P, .int k, .ref 0] [.list q.avs]) (.ref 1, plO q' vs m) ∧ RowsOk 2 m vs ws ∧ Chain k P (tx.drop P) q ws := by
 have hR : P + (tx.drop P).length = tx.length := by rw [List.length_drop]; exact Nat.add_sub_cancel' hP
 cases plan_outer hl ha NN k P _ q [] [] none none none none none (Nat.le_of_lt hk) hR (plan_n hR hl).1 (plan_n hR hl).2 hf with
 | @mk _ _ _ q1 rows1 junk1 vs1 ws1 _ _ _ _ _ _ h1 gR gf e1 e2 hr hc hD =>
  subst hD e1
  have := hc [] (Chain.stop rfl)
  rw [List.append_nil] at this
  exact ⟨q1, rows1, ws1, junk1, Ok.fn rfl (Ok.step (loc1 := plL tx P k none none none none none) (ob1 := plO q [] []) (Ok.k) (Ok.step (Ok.whl (rs := none) h1) (Ok.ret (Ok.rt (v := .ref 1) (Ok.k))))), hr, this⟩
theorem rows_ren {m : List AObj} {vs : List AV} {ws : List Row} {base : List AObj} (hb : base.length = 5) (hr : RowsOk 2 m vs ws) : HeldsAt (base ++ (renO (bckO 5 [3]) (.list []) :: renM (bckO 5 [3]) m)) (renVs (bckO 5 [3]) vs) ws := by
 induction vs generalizing ws with
 | nil => cases ws with
  | nil => trivial
  | cons _ _ => exact hr.elim
 | cons v vs ih => cases ws with
  | nil => exact hr.elim
  | cons w ws =>
  obtain ⟨⟨h, hv, ho⟩, h2⟩ := hr
  refine ⟨⟨h + 6, ?_, Nat.le_add_left .., ?_⟩, ih h2⟩
  ·rw [hv]
   show AV.tup [.int (w.k : Int), .int (w.stop : Int), .str w.fault, .ref (5 + (h + 1)), .int (w.after : Int)] = _
   rw [Nat.add_comm 5]
  ·have e : h + 6 = base.length + (h + 1) := by rw [hb, Nat.add_comm 5]
   rw [e, List.getElem?_append_right (Nat.le_add_right ..), Nat.add_sub_cancel_left, List.getElem?_cons_succ]
   exact (List.getElem?_map ..).trans (by rw [ho]; exact congrArg some list_ren)
theorem heldsAt_any {ob ob' : List AObj} (h : ∀ i, 6 ≤ i → ob[i]? = ob'[i]?) {vs : List AV} {ws : List Row} (hr : HeldsAt ob vs ws) : HeldsAt ob' vs ws := by
 induction vs generalizing ws with
 | nil => cases ws with
  | nil => trivial
  | cons _ _ => exact hr.elim
 | cons v vs ih => cases ws with
  | nil => exact hr.elim
  | cons w ws =>
  obtain ⟨⟨i, h1, h2, h3⟩, h4⟩ := hr
  exact ⟨⟨i, h1, h2, (h i h2).symm.trans h3⟩, ih h4⟩
theorem plan_via (hl : tx.length ≤ 150) (ha : ∀ c ∈ tx, c ∈ alphaN) {k P : Nat} (hk : k < 16) (hP : P ≤ tx.length) {q : Part} (hf : Fit k q (tx.drop P).length) {o0 o1 o2 o4 : AObj} : ∃ (q' : Part) (vs : List AV) (ws : List Row) (m : List AObj), Ok (v_plan [.str tx, .int P, .int k, .ref 3] [o0, o1, o2, .list q.avs, o4]) (.ref 5, [o0, o1, o2, .list q'.avs, o4] ++ .list vs :: m) ∧ HeldsAt ([o0, o1, o2, .list q'.avs, o4] ++ .list vs :: m) vs ws ∧ Chain k P (tx.drop P) q ws := by
 obtain ⟨q', vs, ws, m, h1, h2, h3⟩ := plan_fn hl ha hk hP hf
 refine ⟨q', renVs (bckO 5 [3]) vs, ws, renM (bckO 5 [3]) m, ?_, ?_, h3⟩
 ·refine Ok.via (sel := [3]) (ob1 := [.list q.avs]) (args' := [.str tx, .int P, .int k, .ref 0]) rfl rfl ?_ rfl h1 rfl ?_
  ·have := objs_cons (s := [3]) (ob := [o0, o1, o2, .list q.avs, o4]) (i := 3) (o := .list q.avs) rfl objs_nil
   rw [list_ren] at this; exact this
  ·have : renO (bckO 5 [3]) (.list q'.avs) = .list q'.avs := list_ren
   show o0 :: o1 :: o2 :: renO (bckO 5 [3]) (.list q'.avs) :: o4 :: renM (bckO 5 [3]) (.list vs :: m) = _
   rw [this]; rfl
 ·refine heldsAt_any (ob := [o0, o1, o2, .list q'.avs, o4] ++ (renO (bckO 5 [3]) (.list []) :: renM (bckO 5 [3]) m)) (fun i hi => ?_) (rows_ren rfl h2)
  obtain ⟨j, rfl⟩ : ∃ j, i = j + 6 := ⟨i - 6, by exact (Nat.sub_eq_iff_eq_add hi).mp rfl⟩
  rfl
noncomputable abbrev tokR (st ct : AV) (qu : List (List Nat × AV)) : AObj := .inst 762 ([(nStream, .ref 1), (nParser, .none), (nEscF, .bool false), (nLast4, .any), (nState, st), (nEsc, .bool false), (nTok, ct)] ++ qu)
theorem TO2_plan : TO2.fns.lookup 836 = some v_plan := by kernel_rfl
theorem run_fn (hl : tx.length ≤ 150) (ha : ∀ c ∈ tx, c ∈ alphaN) {k P : Nat} (hk : k < 16) (hP : P ≤ tx.length) {q : Part} (hf : Fit k q (tx.drop P).length) {st ct : AV} {qu : List (List Nat × AV)} {p : List Nat} (hst : stOk st) (hqu : quOk qu) (hp : clean p = (tx.take P).reverse) :
  ∃ z ob' q' vs, Ok (f_law_run [.ref 0, .str tx, .ref 2, .int P, .int k, .ref 3] [tokR st ct qu, .strm p (tx.drop P), .list (marksOf tx), .list q.avs]) (.int ((z : Nat) : Int), ob') ∧ P < z ∧ z ≤ tx.length + 1 ∧ RunAt tx z q' vs ob' := by
 obtain ⟨q', vs, ws, m, h1, h2, h3⟩ := plan_via (o0 := tokI st qu) (o1 := .strm p (tx.drop P)) (o2 := .list (marksOf tx)) (o4 := dtok q) hl ha hk hP hf
 have hw := chain_len h3 fun c hc => ha c (List.mem_of_mem_drop hc)
 have hrl : (tx.drop P).length = tx.length - P := List.length_drop ..
 have R : RunAt tx P q vs ([tokI st qu, .strm p (tx.drop P), .list (marksOf tx), .list q'.avs, dtok q] ++ .list vs :: m) := ⟨⟨st, qu, rfl, hst, hqu⟩, ⟨p, rfl, hp⟩, rfl, rfl, rfl⟩
 cases run_loop (fs := k) (Nat.le_trans hl (Nat.le_of_ble_eq_true rfl)) ha vs ws k P q vs 0 NN _ (some (.ref 3)) none none none none none none none h3 hk rfl h2 R hf hP (by unfold NN; omega) with
 | @mk z loc' ob' q2 g1 g2 g3 g4 =>
 have ht : Ok (f_law_token [.ref 3] [tokR st ct qu, .strm p (tx.drop P), .list (marksOf tx), .list q.avs]) (.ref 4, [tokR st ct qu, .strm p (tx.drop P), .list (marksOf tx), .list q.avs, dtok q]) := tok_fn (i := 3) (q := q) rfl
 refine ⟨z, ob', q2, vs, Ok.fn (loc1 := loc') rfl ?_, g2, g3, g4⟩
 refine Ok.step (loc1 := ruL tx P k (some (.ref 3)) none none none none none none none) (ob1 := [tokI st qu, .strm p (tx.drop P), .list (marksOf tx), .list q.avs, dtok q]) (Ok.asg (v := .ref 4) (ob1 := [tokR st ct qu, .strm p (tx.drop P), .list (marksOf tx), .list q.avs, dtok q]) (Ok.call (v := .val (.ref 850)) (ob1 := [tokR st ct qu, .strm p (tx.drop P), .list (marksOf tx), .list q.avs]) (vs := [.ref 3]) (ob2 := [tokR st ct qu, .strm p (tx.drop P), .list (marksOf tx), .list q.avs]) (Ok.k) (Ok.k) (Ok.cv (callF_at TO2_token) ht)) ?_) ?_
 ·rcases hqu with rfl | ⟨v, rfl⟩ <;> exact Ok.k
 ·refine Ok.ret (Ok.for' (v := .ref 5) (Ok.call (v := .val (.ref 836)) (ob1 := [tokI st qu, .strm p (tx.drop P), .list (marksOf tx), .list q.avs, dtok q]) (vs := [.str tx, .int P, .int k, .ref 3]) (ob2 := [tokI st qu, .strm p (tx.drop P), .list (marksOf tx), .list q.avs, dtok q]) (Ok.k) (Ok.k) (Ok.cv (callF_at TO2_plan) h1)) rfl g1)
end
section
variable {tx : List Nat} {ob : List AObj}
noncomputable abbrev maL (tx : List Nat) (l c : Int) (i : Nat) (x : Option AV) : Loc := [some (.str tx), some (.int l), some (.int c), some (.ref i), x]
noncomputable abbrev maB : List PS := [(.asg (.tup [(.loc 1), (.loc 2)]) (.ite (.cmp (.loc 4) [.eq] [(.str [10])]) (.tup [(.bin .add (.loc 1) (.int 1)), (.int 0)]) (.tup [(.loc 1), (.bin .add (.loc 2) (.int 1))]))), (.expr (.meth (.loc 3) w6 [(.tup [(.loc 1), (.loc 2)])]))]
theorem posR_sign {c : Nat} {p : List Nat} (h : c < 1114112) : posR (c :: p) = if c = 10 then ((posR p).1 + 1, 0) else ((posR p).1, (posR p).2 + 1) := by
 show (if c = 10 then _ else if 1114112 ≤ c then _ else _) = _
 split
 ·rfl
 ·rw [if_neg (by exact Nat.not_le_of_lt h)]
theorem marks_turn {c : Nat} (hc : c < 1114112) {p : List Nat} {ms : List AV} {x : Option AV} (hl : ms.length ≤ 3000) : Ok (exs (ex TI0 NN 19) maB (maL tx ((posR p).1 + 1) (posR p).2 0 (some (.str [c]))) [.list ms]) (.next, maL tx ((posR (c :: p)).1 + 1) (posR (c :: p)).2 0 (some (.str [c])), [.list (ms ++ [mkAV (c :: p)])]) := by
 have ht : ∀ t, decide ([c] = [10]) = t → Ok (tv TI0 19 (.cmp (.loc 4) [.eq] [(.str [10])]) (maL tx ((posR p).1 + 1) (posR p).2 0 (some (.str [c]))) [.list ms]) (t, [.list ms]) := fun t h => Ok.tcmp (x := .str [c]) (ob1 := [.list ms]) (y := .str [10]) (Ok.k) (Ok.k) (eqS_test h)
 have happ : ∀ (l k : Int), Ok (ex TI0 NN 19 (.expr (.meth (.loc 3) w6 [(.tup [(.loc 1), (.loc 2)])])) (maL tx l k 0 (some (.str [c]))) [.list ms]) (.next, maL tx l k 0 (some (.str [c])), [.list (ms ++ [.tup [.int l, .int k]])]) := fun l k => Ok.mk' (l := [2, ms.length]) (by kernel_rfl) (by
  intro z hz
  rcases List.mem_cons.mp hz with rfl | hz
  ·exact Nat.le_of_ble_eq_true rfl
  ·rw [List.mem_singleton.mp hz]; omega)
 unfold mkAV
 rw [posR_sign hc]
 by_cases h : c = 10
 ·rw [if_pos h]
  refine Ok.step (loc1 := maL tx ((posR p).1 + 1 + 1) 0 0 (some (.str [c]))) (ob1 := [.list ms]) (Ok.asg (v := .tup [.int ((posR p).1 + 1 + 1), .int 0]) (ob1 := [.list ms]) (Ok.iteT (ht true (decide_eq_true (by rw [h]))) (Ok.k)) (Ok.k)) (Ok.step (happ _ _) Ok.nil)
 ·rw [if_neg h]
  refine Ok.step (loc1 := maL tx ((posR p).1 + 1) ((posR p).2 + 1) 0 (some (.str [c]))) (ob1 := [.list ms]) (Ok.asg (v := .tup [.int ((posR p).1 + 1), .int ((posR p).2 + 1)]) (ob1 := [.list ms]) (Ok.iteF (ht false (decide_eq_false (fun z => h (List.cons.inj z).1))) (Ok.k)) (Ok.k)) (Ok.step (happ _ _) Ok.nil)
noncomputable def marksTo (tx : List Nat) (i : Nat) : List AV := (List.range (i + 1)).map fun j => mkAV (tx.take j).reverse
theorem marks_loop (hl : tx.length ≤ 1000) (ha : ∀ c ∈ tx, c < 1114112) (i n : Nat) (x : Option AV) (h2 : i ≤ tx.length) (h3 : tx.length - i < n) :
  ∃ y, Ok (forG (asg TI0 20 (.loc 4)) (exs (ex TI0 NN 19) maB) (.str tx) n i (maL tx ((posR (tx.take i).reverse).1 + 1) (posR (tx.take i).reverse).2 0 x) [.list (marksTo tx i)]) (.next, maL tx ((posR tx.reverse).1 + 1) (posR tx.reverse).2 0 y, [.list (marksOf tx)]) := by
 induction n generalizing i x with
 | zero => exact absurd h3 (Nat.not_lt_zero _)
 | succ n ih =>
  cases h : tx[i]? with
  | none =>
   cases Nat.le_antisymm h2 (List.getElem?_eq_none_iff.mp h)
   rw [List.take_length]
   exact ⟨x, Ok.forEnd (itemS0 h)⟩
  | some c =>
   have hi := (List.getElem?_eq_some_iff.mp h).1
   obtain ⟨y, hy⟩ := ih (i + 1) (some (.str [c])) hi (step_lt hi h3)
   have ht := marks_turn (tx := tx) (p := (tx.take i).reverse) (ms := marksTo tx i) (x := x) (ha c (List.mem_of_getElem? h)) (by unfold marksTo; rw [List.length_map, List.length_range]; omega)
   have hs : (tx.take (i + 1)).reverse = c :: (tx.take i).reverse := take_snoc h
   have hm : marksTo tx (i + 1) = marksTo tx i ++ [mkAV (c :: (tx.take i).reverse)] := by
    unfold marksTo
    rw [List.range_succ, List.map_append, List.map_singleton, hs]
   rw [hs, hm] at hy
   exact ⟨y, Ok.forItem (itemS h) (Ok.k) ht hy⟩
theorem marks_fn (hl : tx.length ≤ 1000) (ha : ∀ c ∈ tx, c < 1114112) : Ok (f_law_marks [.str tx] []) (.ref 0, [.list (marksOf tx)]) := by
 obtain ⟨y, hy⟩ := marks_loop hl ha 0 NN none (Nat.zero_le _) (by unfold NN; omega)
 refine Ok.fn (loc1 := maL tx ((posR tx.reverse).1 + 1) (posR tx.reverse).2 0 y) rfl ?_
 refine Ok.step (loc1 := [some (.str tx), some (.int 1), some (.int 0), none, none]) (ob1 := []) (Ok.k) ?_
 refine Ok.step (loc1 := maL tx 1 0 0 none) (ob1 := [.list [.tup [.int 1, .int 0]]]) (Ok.k) ?_
 exact Ok.step (Ok.for' (v := .str tx) (ob1 := [.list [.tup [.int 1, .int 0]]]) (Ok.k) rfl hy) (Ok.ret (Ok.rt (v := .ref 0) (Ok.k)))
noncomputable abbrev tokL (l4 st ct : AV) (qu : List (List Nat × AV)) : AObj := .inst 762 ([(nStream, .ref 2), (nParser, .none), (nEscF, .bool false), (nLast4, l4), (nState, st), (nEsc, .bool false), (nTok, ct)] ++ qu)
theorem TO0_make : TO0.fns.lookup 166 = some sMake := by kernel_rfl
theorem make_tok {ms : List AV} (hl : tx.length ≤ 1000) (ha : tx.all fair = true) : Ok (c_Tok [.str tx] [.list ms]) (.ref 1, [.list ms, tokL (.ref 3) (.meth 304 1) .none [], .strm [] (1114112 :: norm tx), .list []]) := by
 have hm : Ok (sMake [.str tx] [.list ms, .inst 762 []]) (.ref 2, [.list ms, .inst 762 [], .strm [] (1114112 :: norm tx)]) := ⟨[], if_pos ⟨hl, ha⟩, fun _ h => mem_no h⟩
 have hi : Ok (f_Tz [.ref 1, .str tx] [.list ms, .inst 762 []]) (.none, [.list ms, tokL (.ref 3) (.meth 304 1) .none [], .strm [] (1114112 :: norm tx), .list []]) := by
  refine Ok.proc (loc1 := [some (.ref 1), some (.str tx), some .none, none]) rfl ?_
  refine Ok.step (loc1 := [some (.ref 1), some (.str tx), some .none, none]) (ob1 := [.list ms, .inst 762 [(nStream, .ref 2)], .strm [] (1114112 :: norm tx)]) (Ok.asg (v := .ref 2) (ob1 := [.list ms, .inst 762 [], .strm [] (1114112 :: norm tx)]) (Ok.call (v := .val (.ref 166)) (ob1 := [.list ms, .inst 762 []]) (vs := [.str tx]) (ob2 := [.list ms, .inst 762 []]) (Ok.k) (Ok.k) (Ok.cv (callF_at TO0_make) hm)) (Ok.k)) ?_
  exact Ok.k
 exact Ok.bnd hi Ok.fine
end
section
variable {wh text : List Nat} {head : Int}
noncomputable abbrev laL (head : Int) (text wh : List Nat) (place run : Int) (a b c : Option AV) : Loc := [none, some (.int head), some (.str text), some (.str wh), some (.ref 0), some (.ref 1), some (.int place), some (.int run), a, b, c, none, none, none, none, none, none, none]
noncomputable abbrev naT : List (List Nat) := [[], [65, 98], [81, 201]]
noncomputable abbrev puT : List (Option (List Nat)) := [none, some [112, 39, 80], some []]
noncomputable abbrev syT : List (Option (List Nat)) := [some [115, 34], none, some []]
noncomputable abbrev naL : List AV := [.str [], .str [65, 98], .str [81, 201]]
noncomputable abbrev puL : List AV := [.none, .str [112, 39, 80], .str []]
noncomputable abbrev syL : List AV := [.str [115, 34], .none, .str []]
theorem three {P : Nat → Prop} (h0 : P 0) (h1 : P 1) (h2 : P 2) : ∀ i, i < 3 → P i
 | 0, _ => h0
 | 1, _ => h1
 | 2, _ => h2
 | n + 3, h => absurd h (by exact of_decide_eq_false rfl)
theorem na_at {i : Nat} (h : i < 3) : ∃ s, naL[i]? = some (.str s) ∧ s.length ≤ 2 := three (P := fun i => ∃ s, naL[i]? = some (.str s) ∧ s.length ≤ 2) ⟨_, rfl, by decide⟩ ⟨_, rfl, by decide⟩ ⟨_, rfl, by decide⟩ i h
theorem pu_at {i : Nat} (h : i < 3) : ∃ s : Option (List Nat), puL[i]? = some (optAV s) ∧ ∀ x, s = some x → x.length ≤ 3 := three (P := fun i => ∃ s : Option (List Nat), puL[i]? = some (optAV s) ∧ ∀ x, s = some x → x.length ≤ 3) ⟨none, rfl, fun _ h => nO h⟩ ⟨some [112, 39, 80], rfl, fun _ h => by cases h; decide⟩ ⟨some [], rfl, fun _ h => by cases h; decide⟩ i h
theorem sy_at {i : Nat} (h : i < 3) : ∃ s : Option (List Nat), syL[i]? = some (optAV s) ∧ ∀ x, s = some x → x.length ≤ 3 := three (P := fun i => ∃ s : Option (List Nat), syL[i]? = some (optAV s) ∧ ∀ x, s = some x → x.length ≤ 3) ⟨some [115, 34], rfl, fun _ h => by cases h; decide⟩ ⟨none, rfl, fun _ h => nomatch h⟩ ⟨some [], rfl, fun _ h => by cases h; decide⟩ i h
theorem mod_nat (a : Int) {n : Nat} (hn : 0 < n) : ∃ i : Nat, Int.fmod a (n : Int) = (i : Int) ∧ i < n := by
 have h1 : 0 ≤ Int.fmod a (n : Int) := Int.fmod_nonneg_of_pos a (by exact Int.natCast_pos.mpr hn)
 have h2 : Int.fmod a (n : Int) < (n : Int) := Int.fmod_lt_of_pos a (by exact Int.natCast_pos.mpr hn)
 exact ⟨(Int.fmod a (n : Int)).toNat, by exact Int.eq_natCast_toNat.mpr h1, by exact (Int.toNat_lt h1).mpr h2⟩
noncomputable abbrev laB1 : PS := (.asg (.tup [(.loc 8), (.loc 9)]) (.tup [(.bin .mod (.bin .add (.loc 1) (.bin .mul (.int 7) (.loc 7))) (.int 16)), (.bin .add (.bin .fdiv (.loc 1) (.int 16)) (.loc 7))]))
noncomputable abbrev laB2 : PS := (.asg (.loc 10) (.list [(.sub (.call (.glob 15) []) (.bin .mod (.loc 9) (.int 3))), (.sub (.call (.glob 16) []) (.bin .mod (.bin .fdiv (.loc 9) (.int 2)) (.int 3))), (.sub (.call (.glob 17) []) (.bin .mod (.bin .fdiv (.bin .add (.loc 9) (.int 1)) (.int 2)) (.int 3))), (.cmp (.bin .mod (.loc 9) (.int 4)) [.ne] [(.int 3)])]))
noncomputable abbrev laB3 : PS := (.ife (.bop true [(.cmp (.loc 8) [.isin] [(.tup [(.int 6), (.int 7)])]), (.cmp (.sub (.loc 10) (.int 1)) [.is] [.none])]) [(.asg (.sub (.loc 10) (.int 1)) (.str []))] [])
noncomputable abbrev laB4 : PS := (.ife (.bop true [(.cmp (.loc 8) [.isin] [(.tup [(.int 12), (.int 13)])]), (.cmp (.sub (.loc 10) (.int 2)) [.is] [.none])]) [(.asg (.sub (.loc 10) (.int 2)) (.str []))] [])
noncomputable abbrev laB5 : PS := (.asg (.loc 6) (.call (.glob 18) [(.loc 5), (.loc 3), (.loc 4), (.loc 6), (.loc 8), (.loc 10)]))
noncomputable abbrev laB6 : PS := (.aug (.loc 7) .add (.int 1))
noncomputable abbrev laB : List PS := [laB1, laB2, laB3, laB4, laB5, laB6]
variable {place run : Int} {o0 o1 o2 : AObj} {a b c : Option AV}
theorem law1 (hr : 0 ≤ run) (hr2 : run < 1000) : ∃ (k : Nat) (bs : Int), k < 16 ∧ Ok (ex TO3 NN 19 laB1 (laL head text wh place run a b c) [o0, o1, o2]) (.next, laL head text wh place run (some (.int k)) (some (.int bs)) c, [o0, o1, o2]) := by
 obtain ⟨k, hk, hk2⟩ := mod_nat (head + 7 * run) (n := 16) (by exact Nat.zero_lt_succ 15)
 refine ⟨k, Int.fdiv head 16 + run, hk2, ?_⟩
 have hmul : Ok (binS .mul (.int 7) (.int run)) (.int (7 * run)) := ⟨[], if_pos ⟨by decide, by omega⟩, fun _ h => mem_no h⟩
 have h1 : Ok (ev TO3 19 (.bin .mod (.bin .add (.loc 1) (.bin .mul (.int 7) (.loc 7))) (.int 16)) (laL head text wh place run a b c) [o0, o1, o2]) (.int (Int.fmod (head + 7 * run) 16), [o0, o1, o2]) :=
  Ok.bin (x := .int (head + 7 * run)) (ob1 := [o0, o1, o2]) (y := .int 16) (Ok.bin (x := .int head) (ob1 := [o0, o1, o2]) (y := .int (7 * run)) (ob2 := [o0, o1, o2]) (Ok.k) (Ok.bin (x := .int 7) (ob1 := [o0, o1, o2]) (y := .int run) (ob2 := [o0, o1, o2]) (Ok.k) (Ok.k) hmul) (Ok.k)) (Ok.k) (Ok.k)
 have hk : Int.fmod (head + 7 * run) 16 = (k : Int) := hk
 rw [hk] at h1
 exact Ok.asg (v := .tup [.int k, .int (Int.fdiv head 16 + run)]) (ob1 := [o0, o1, o2]) (Ok.tup (Ok.evsC h1 (Ok.evs1 (Ok.k))) (by simp)) (Ok.k)
theorem law2 {k : Nat} {bs : Int} : ∃ (q : Part), q.name.length ≤ 2 ∧ (∀ x, q.pub = some x → x.length ≤ 3) ∧ (∀ x, q.sys = some x → x.length ≤ 3) ∧ Ok (ex TO3 NN 19 laB2 (laL head text wh place run (some (.int k)) (some (.int bs)) c) [o0, o1, o2]) (.next, laL head text wh place run (some (.int k)) (some (.int bs)) (some (.ref 6)), [o0, o1, o2, .list naL, .list puL, .list syL, .list q.avs]) := by
 obtain ⟨i1, h1, h1'⟩ := mod_nat bs (n := 3) (by exact Nat.zero_lt_succ 2)
 obtain ⟨i2, h2, h2'⟩ := mod_nat (Int.fdiv bs 2) (n := 3) (by exact Nat.zero_lt_succ 2)
 obtain ⟨i3, h3, h3'⟩ := mod_nat (Int.fdiv (bs + 1) 2) (n := 3) (by exact Nat.zero_lt_succ 2)
 obtain ⟨n, n1, n2⟩ := na_at h1'
 obtain ⟨pb, p1, p2⟩ := pu_at h2'
 obtain ⟨sy, s1, s2⟩ := sy_at h3'
 refine ⟨⟨n, pb, sy, !(decide (Int.fmod bs 4 = 3))⟩, n2, p2, s2, ?_⟩
 have e1 : Ok (ev TO3 19 (.sub (.call (.glob 15) []) (.bin .mod (.loc 9) (.int 3))) (laL head text wh place run (some (.int k)) (some (.int bs)) c) [o0, o1, o2]) (.str n, [o0, o1, o2, .list naL]) :=
  Ok.sub (x := .ref 3) (y := .int (i1 : Int)) (ob1 := [o0, o1, o2, .list naL]) (ob2 := [o0, o1, o2, .list naL]) (Ok.k) (by rw [← h1]; exact Ok.k) (sub_ref rfl n1 (by omega))
 have e2 : Ok (ev TO3 19 (.sub (.call (.glob 16) []) (.bin .mod (.bin .fdiv (.loc 9) (.int 2)) (.int 3))) (laL head text wh place run (some (.int k)) (some (.int bs)) c) [o0, o1, o2, .list naL]) (optAV pb, [o0, o1, o2, .list naL, .list puL]) :=
  Ok.sub (x := .ref 4) (y := .int (i2 : Int)) (ob1 := [o0, o1, o2, .list naL, .list puL]) (ob2 := [o0, o1, o2, .list naL, .list puL]) (Ok.k) (by rw [← h2]; exact Ok.k) (sub_ref rfl p1 (by omega))
 have e3 : Ok (ev TO3 19 (.sub (.call (.glob 17) []) (.bin .mod (.bin .fdiv (.bin .add (.loc 9) (.int 1)) (.int 2)) (.int 3))) (laL head text wh place run (some (.int k)) (some (.int bs)) c) [o0, o1, o2, .list naL, .list puL]) (optAV sy, [o0, o1, o2, .list naL, .list puL, .list syL]) :=
  Ok.sub (x := .ref 5) (y := .int (i3 : Int)) (ob1 := [o0, o1, o2, .list naL, .list puL, .list syL]) (ob2 := [o0, o1, o2, .list naL, .list puL, .list syL]) (Ok.k) (by rw [← h3]; exact Ok.k) (sub_ref rfl s1 (by omega))
 have e4 : Ok (ev TO3 19 (.cmp (.bin .mod (.loc 9) (.int 4)) [.ne] [(.int 3)]) (laL head text wh place run (some (.int k)) (some (.int bs)) c) [o0, o1, o2, .list naL, .list puL, .list syL]) (.bool (!(decide (Int.fmod bs 4 = 3))), [o0, o1, o2, .list naL, .list puL, .list syL]) := Ok.k
 exact Ok.asgL (Ok.lst (Ok.evsC e1 (Ok.evsC e2 (Ok.evsC e3 (Ok.evs1 e4)))) (by simp)) (Nat.le_of_ble_eq_true rfl)
noncomputable def fixW (k : Nat) (q : Part) : Part := { q with pub := if k = 6 ∨ k = 7 then some (q.pub.getD []) else q.pub, sys := if k = 12 ∨ k = 13 then some (q.sys.getD []) else q.sys }
noncomputable abbrev FixOk (k : Nat) : Prop := ∀ (head : Int) (text wh : List Nat) (place run : Int) (b : Option AV) (o0 o1 o2 o3 o4 o5 : AObj) (q : Part), Ok (exs (ex TO3 NN 19) [laB3, laB4] (laL head text wh place run (some (.int (k : Nat))) b (some (.ref 6))) [o0, o1, o2, o3, o4, o5, .list q.avs]) (.next, laL head text wh place run (some (.int (k : Nat))) b (some (.ref 6)), [o0, o1, o2, o3, o4, o5, .list (fixW k q).avs])
theorem fix0 : FixOk 0 := fun _ _ _ _ _ _ _ _ _ _ _ _ ⟨n, pb, sy, b⟩ => by cases pb <;> cases sy <;> exact Ok.k
theorem fix1 : FixOk 1 := fun _ _ _ _ _ _ _ _ _ _ _ _ ⟨n, pb, sy, b⟩ => by cases pb <;> cases sy <;> exact Ok.k
theorem fix2 : FixOk 2 := fun _ _ _ _ _ _ _ _ _ _ _ _ ⟨n, pb, sy, b⟩ => by cases pb <;> cases sy <;> exact Ok.k
theorem fix3 : FixOk 3 := fun _ _ _ _ _ _ _ _ _ _ _ _ ⟨n, pb, sy, b⟩ => by cases pb <;> cases sy <;> exact Ok.k
theorem fix4 : FixOk 4 := fun _ _ _ _ _ _ _ _ _ _ _ _ ⟨n, pb, sy, b⟩ => by cases pb <;> cases sy <;> exact Ok.k
theorem fix5 : FixOk 5 := fun _ _ _ _ _ _ _ _ _ _ _ _ ⟨n, pb, sy, b⟩ => by cases pb <;> cases sy <;> exact Ok.k
theorem fix6 : FixOk 6 := fun _ _ _ _ _ _ _ _ _ _ _ _ ⟨n, pb, sy, b⟩ => by cases pb <;> cases sy <;> exact Ok.k
theorem fix7 : FixOk 7 := fun _ _ _ _ _ _ _ _ _ _ _ _ ⟨n, pb, sy, b⟩ => by cases pb <;> cases sy <;> exact Ok.k
theorem fix8 : FixOk 8 := fun _ _ _ _ _ _ _ _ _ _ _ _ ⟨n, pb, sy, b⟩ => by cases pb <;> cases sy <;> exact Ok.k
theorem fix9 : FixOk 9 := fun _ _ _ _ _ _ _ _ _ _ _ _ ⟨n, pb, sy, b⟩ => by cases pb <;> cases sy <;> exact Ok.k
theorem fix10 : FixOk 10 := fun _ _ _ _ _ _ _ _ _ _ _ _ ⟨n, pb, sy, b⟩ => by cases pb <;> cases sy <;> exact Ok.k
theorem fix11 : FixOk 11 := fun _ _ _ _ _ _ _ _ _ _ _ _ ⟨n, pb, sy, b⟩ => by cases pb <;> cases sy <;> exact Ok.k
theorem fix12 : FixOk 12 := fun _ _ _ _ _ _ _ _ _ _ _ _ ⟨n, pb, sy, b⟩ => by cases pb <;> cases sy <;> exact Ok.k
theorem fix13 : FixOk 13 := fun _ _ _ _ _ _ _ _ _ _ _ _ ⟨n, pb, sy, b⟩ => by cases pb <;> cases sy <;> exact Ok.k
theorem fix14 : FixOk 14 := fun _ _ _ _ _ _ _ _ _ _ _ _ ⟨n, pb, sy, b⟩ => by cases pb <;> cases sy <;> exact Ok.k
theorem fix15 : FixOk 15 := fun _ _ _ _ _ _ _ _ _ _ _ _ ⟨n, pb, sy, b⟩ => by cases pb <;> cases sy <;> exact Ok.k
theorem law34 {k : Nat} (hk : k < 16) : FixOk k := k16 (P := FixOk) fix0 fix1 fix2 fix3 fix4 fix5 fix6 fix7 fix8 fix9 fix10 fix11 fix12 fix13 fix14 fix15 k hk
end
section
variable {wh text : List Nat} {head : Int} {place run : Int} {a b c : Option AV}
theorem TO3_run : TO3.fns.lookup 857 = some v_run := by kernel_rfl
theorem fixW_fit {k : Nat} {q : Part} (h1 : q.name.length ≤ 2) (h2 : ∀ x, q.pub = some x → x.length ≤ 3) (h3 : ∀ x, q.sys = some x → x.length ≤ 3) {n : Nat} (hn : n ≤ 3000) : Fit k (fixW k q) n := by
 refine ⟨fun h => ⟨q.pub.getD [], if_pos h⟩, fun h => ⟨q.sys.getD [], if_pos h⟩, by show q.name.length + n ≤ 3900; omega, fun s e => ?_, fun s e => ?_⟩
 ·have e : (if k = 6 ∨ k = 7 then some (q.pub.getD []) else q.pub) = some s := e
  split at e
  ·cases e
   cases hp : q.pub with
   | none => show 0 + n ≤ 3900; omega
   | some x => have := h2 x hp; show x.length + n ≤ 3900; omega
  ·have := h2 s e; omega
 ·have e : (if k = 12 ∨ k = 13 then some (q.sys.getD []) else q.sys) = some s := e
  split at e
  ·cases e
   cases hp : q.sys with
   | none => show 0 + n ≤ 3900; omega
   | some x => have := h3 x hp; show x.length + n ≤ 3900; omega
  ·have := h3 s e; omega
theorem tokL_ren {σ : Nat → Option Nat} {i : Nat} {st ct : AV} {qu : List (List Nat × AV)} (hs : stL i st) (hq : quOk qu) (h0 : σ i = some 0) (h1 : σ 2 = some 1) : ∃ st' ct' qu', renO σ (tokL .any st ct qu) = tokR st' ct' qu' ∧ stOk st' ∧ quOk qu' :=
 ⟨_, _, _, (tok_ren (r := .ref 2) (l4 := .any)).trans (by rw [ref_ren h1]; rfl), st_ren h0 hs, qu_ren hq⟩
theorem tokI_back {σ : Nat → Option Nat} {i : Nat} {st : AV} {qu : List (List Nat × AV)} (hs : stOk st) (hq : quOk qu) (h0 : σ 0 = some i) (h1 : σ 1 = some 2) : ∃ st' ct' qu', renO σ (tokI st qu) = tokL .any st' ct' qu' ∧ stL i st' ∧ quOk qu' :=
 ⟨_, _, _, (tok_ren (r := .ref 1) (l4 := .any) (ct := .ref 4)).trans (by rw [ref_ren h1]; rfl), st_ren h0 hs, qu_ren hq⟩
theorem tokL_same {σ : Nat → Option Nat} {l4 st ct : AV} {qu : List (List Nat × AV)} (hs : stL 1 st) (hq : quOk qu) (hl : renV σ l4 = .any) (h0 : σ 1 = some 1) (h1 : σ 2 = some 2) : ∃ st' ct' qu', renO σ (tokL l4 st ct qu) = tokL .any st' ct' qu' ∧ stL 1 st' ∧ quOk qu' :=
 ⟨_, _, _, (tok_ren (r := .ref 2)).trans (by rw [ref_ren h1, hl]), st_ren h0 hs, qu_ren hq⟩
theorem mk_ren {σ : Nat → Option Nat} : renO σ (.list (marksOf wh)) = .list (marksOf wh) := by
 show AObj.list (renVs _ (marksOf wh)) = _
 rw [marks_ren]
theorem law5 (hl : wh.length ≤ 150) (ha : ∀ c ∈ wh, c ∈ alphaN) {k P : Nat} (hk : k < 16) (hP : P ≤ wh.length) {q : Part} (hf : Fit k q (wh.drop P).length) {st ct : AV} {qu : List (List Nat × AV)} {p : List Nat} (hst : stL 1 st) (hqu : quOk qu) (hp : clean p = (wh.take P).reverse) {o3 o4 o5 : AObj} :
  ∃ (z : Nat) (ob' : List AObj) (st' ct' : AV) (qu' : List (List Nat × AV)) (p' : List Nat), Ok (ex TO3 NN 19 laB5 (laL head text wh P run (some (.int k)) b (some (.ref 6))) [.list (marksOf wh), tokL .any st ct qu, .strm p (wh.drop P), o3, o4, o5, .list q.avs]) (.next, laL head text wh (z : Nat) run (some (.int k)) b (some (.ref 6)), ob') ∧
   P < z ∧ z ≤ wh.length + 1 ∧ ob'[0]? = some (.list (marksOf wh)) ∧ ob'[1]? = some (tokL .any st' ct' qu') ∧ ob'[2]? = some (.strm p' (wh.drop z)) ∧ stL 1 st' ∧ quOk qu' ∧ clean p' = (wh.take z).reverse := by
 obtain ⟨st1, ct1, qu1, r1, r2, r3⟩ := tokL_ren (σ := idx [1, 2, 0, 6]) (ct := ct) hst hqu rfl rfl
 obtain ⟨z, ob', q', vs, g1, g2, g3, R⟩ := run_fn (st := st1) (ct := ct1) (qu := qu1) hl ha hk hP hf r2 r3 hp
 obtain ⟨⟨st2, qu2, t1, t2, t3⟩, ⟨p', s1, s2⟩, m1, _, _⟩ := R
 obtain ⟨st3, ct3, qu3, w1, w2, w3⟩ := tokI_back (σ := bckO 7 [1, 2, 0, 6]) t2 t3 rfl rfl
 have hobj : selObjs [1, 2, 0, 6] [.list (marksOf wh), tokL .any st ct qu, .strm p (wh.drop P), o3, o4, o5, .list q.avs] [1, 2, 0, 6] = some [tokR st1 ct1 qu1, .strm p (wh.drop P), .list (marksOf wh), .list q.avs] := by
  have := objs_cons (s := [1, 2, 0, 6]) (ob := [.list (marksOf wh), tokL .any st ct qu, .strm p (wh.drop P), o3, o4, o5, .list q.avs]) (i := 1) (o := tokL .any st ct qu) rfl (objs_cons (i := 2) (o := .strm p (wh.drop P)) rfl (objs_cons (i := 0) (o := .list (marksOf wh)) rfl (objs_cons (i := 6) (o := .list q.avs) rfl objs_nil)))
  rw [r1, list_ren, mk_ren] at this
  exact this
 have hsel : selOf ([AV.ref 1, .str wh, .ref 0, .int (P : Int), .int (k : Int), .ref 6].map some) [.list (marksOf wh), tokL .any st ct qu, .strm p (wh.drop P), o3, o4, o5, .list q.avs] [.loc 0, .attr 0 nStream, .loc 2, .loc 5] = some [1, 2, 0, 6] :=
  sel_cons (rt_loc rfl) (sel_cons (rt_attr (i := 1) rfl rfl (by rfl)) (sel_cons (rt_loc rfl) (sel_cons (rt_loc rfl) sel_nil)))
 have hcall : Ok (v_run [.ref 1, .str wh, .ref 0, .int (P : Int), .int (k : Int), .ref 6] [.list (marksOf wh), tokL .any st ct qu, .strm p (wh.drop P), o3, o4, o5, .list q.avs]) (.int ((z : Nat) : Int), merge 7 [1, 2, 0, 6] ob' 0 [.list (marksOf wh), tokL .any st ct qu, .strm p (wh.drop P), o3, o4, o5, .list q.avs]) :=
  Ok.via hsel rfl hobj rfl g1 rfl rfl
 refine ⟨z, merge 7 [1, 2, 0, 6] ob' 0 [.list (marksOf wh), tokL .any st ct qu, .strm p (wh.drop P), o3, o4, o5, .list q.avs], st3, ct3, qu3, p', Ok.asgL (Ok.call (v := .val (.ref 857)) (ob1 := [.list (marksOf wh), tokL .any st ct qu, .strm p (wh.drop P), o3, o4, o5, .list q.avs]) (vs := [.ref 1, .str wh, .ref 0, .int (P : Int), .int (k : Int), .ref 6]) (ob2 := [.list (marksOf wh), tokL .any st ct qu, .strm p (wh.drop P), o3, o4, o5, .list q.avs]) (Ok.k) (Ok.k) (Ok.cv (callF_at TO3_run) hcall)) (Nat.le_of_ble_eq_true rfl), g2, g3, ?_, ?_, ?_, w2, w3, s2⟩
 ·have := merge_in (n := 7) (sel := [1, 2, 0, 6]) (ob := [.list (marksOf wh), tokL .any st ct qu, .strm p (wh.drop P), o3, o4, o5, .list q.avs]) (i := 0) (k := 2) rfl rfl m1
  rw [mk_ren] at this
  exact this
 ·rw [← w1]
  exact merge_in (n := 7) (sel := [1, 2, 0, 6]) (ob := [.list (marksOf wh), tokL .any st ct qu, .strm p (wh.drop P), o3, o4, o5, .list q.avs]) (i := 1) (k := 0) rfl rfl t1
 ·exact merge_in (n := 7) (sel := [1, 2, 0, 6]) (ob := [.list (marksOf wh), tokL .any st ct qu, .strm p (wh.drop P), o3, o4, o5, .list q.avs]) (i := 2) (k := 1) rfl rfl s1
structure LawAt (wh : List Nat) (P : Nat) (ob : List AObj) : Prop where
 marks : ob[0]? = some (.list (marksOf wh))
 tok : ∃ l4 st ct qu, ob[1]? = some (tokL l4 st ct qu) ∧ (l4 = .any ∨ l4 = .ref 3) ∧ stL 1 st ∧ quOk qu
 strm : ∃ p, ob[2]? = some (.strm p (wh.drop P)) ∧ clean p = (wh.take P).reverse
noncomputable abbrev laRs : List Rt := [.loc 4, .loc 5, .attr 5 w42]
theorem law_turn (hl : wh.length ≤ 150) (ha : ∀ c ∈ wh, c ∈ alphaN) {P : Nat} (hP : P ≤ wh.length) (hr : 0 ≤ run) (hr2 : run < 1000) {ob : List AObj} (R : LawAt wh P ob) :
  ∃ (z : Nat) (ob' : List AObj) (a' b' c' : Option AV), Ok (viaB laRs (exs (ex TO3 NN 19) laB) (laL head text wh P run a b c) ob) (.next, laL head text wh (z : Nat) (run + 1) a' b' c', ob') ∧ P < z ∧ z ≤ wh.length + 1 ∧ LawAt wh z ob' := by
 obtain ⟨m1, ⟨l4, st, ct, qu, t1, t2, t3, t4⟩, ⟨p, s1, s2⟩⟩ := R
 have hl4 : renV (idx [0, 1, 2]) l4 = .any := by rcases t2 with rfl | rfl <;> rfl
 obtain ⟨st1, ct1, qu1, r1, r2, r3⟩ := tokL_same (σ := idx [0, 1, 2]) (ct := ct) t3 t4 hl4 rfl rfl
 have hobj : selObjs [0, 1, 2] ob [0, 1, 2] = some [.list (marksOf wh), tokL .any st1 ct1 qu1, .strm p (wh.drop P)] := by
  have := objs_cons (s := [0, 1, 2]) m1 (objs_cons t1 (objs_cons s1 objs_nil))
  rw [r1, mk_ren] at this
  exact this
 have hsel : selOf (laL head text wh P run a b c) ob laRs = some [0, 1, 2] := sel_cons (rt_loc rfl) (sel_cons (rt_loc rfl) (sel_cons (rt_attr (i := 1) rfl t1 (by rfl)) sel_nil))
 have hloc : renL (idx [0, 1, 2]) (laL head text wh P run a b c) = laL head text wh P run (a.map (renV (idx [0, 1, 2]))) (b.map (renV (idx [0, 1, 2]))) (c.map (renV (idx [0, 1, 2]))) := by
  cases a <;> cases b <;> cases c <;> rfl
 obtain ⟨k, bs, hk, e1⟩ := law1 (wh := wh) (text := text) (head := head) (place := P) (a := a.map (renV (idx [0, 1, 2]))) (b := b.map (renV (idx [0, 1, 2]))) (c := c.map (renV (idx [0, 1, 2]))) (o0 := .list (marksOf wh)) (o1 := tokL .any st1 ct1 qu1) (o2 := .strm p (wh.drop P)) hr hr2
 obtain ⟨q, q1, q2, q3, e2⟩ := law2 (wh := wh) (text := text) (head := head) (place := P) (run := run) (k := k) (bs := bs) (c := c.map (renV (idx [0, 1, 2]))) (o0 := .list (marksOf wh)) (o1 := tokL .any st1 ct1 qu1) (o2 := .strm p (wh.drop P))
 have e3 := law34 hk head text wh P run (some (.int bs)) (.list (marksOf wh)) (tokL .any st1 ct1 qu1) (.strm p (wh.drop P)) (.list naL) (.list puL) (.list syL) q
 have hrl : (wh.drop P).length = wh.length - P := List.length_drop ..
 obtain ⟨z, ob1, st2, ct2, qu2, p2, e5, g1, g2, g3, g4, g5, g6, g7, g8⟩ := law5 (head := head) (text := text) (run := run) (b := some (.int bs)) hl ha hk hP (fixW_fit (k := k) q1 q2 q3 (n := (wh.drop P).length) (by omega)) (ct := ct1) r2 r3 s2 (o3 := .list naL) (o4 := .list puL) (o5 := .list syL)
 have e6 : Ok (ex TO3 NN 19 laB6 (laL head text wh (z : Nat) run (some (.int k)) (some (.int bs)) (some (.ref 6))) ob1) (.next, laL head text wh (z : Nat) (run + 1) (some (.int k)) (some (.int bs)) (some (.ref 6)), ob1) := Ok.k
 obtain ⟨st3, ct3, qu3, w1, w2, w3⟩ := tokL_same (σ := bckO ob.length [0, 1, 2]) (ct := ct2) (l4 := .any) g6 g7 rfl rfl rfl
 refine ⟨z, merge ob.length [0, 1, 2] ob1 0 ob, some (.int k), some (.int bs), _, Ok.viaB hsel rfl hobj hloc (Ok.step e1 (Ok.step e2 (Ok.blk (a := [laB3, laB4]) (b := [laB5, laB6]) e3 (Ok.step e5 (Ok.step e6 Ok.nil))))) rfl rfl, g1, g2, ⟨?_, ⟨.any, st3, ct3, qu3, ?_, .inl rfl, w2, w3⟩, ⟨p2, ?_, g8⟩⟩⟩
 ·have := merge_in (n := ob.length) (sel := [0, 1, 2]) (k := 0) m1 rfl g3
  rw [mk_ren] at this
  exact this
 ·rw [← w1]
  exact merge_in (n := ob.length) (sel := [0, 1, 2]) (k := 1) t1 rfl g4
 ·exact merge_in (n := ob.length) (sel := [0, 1, 2]) (k := 2) s1 rfl g5
end
section
variable {wh text : List Nat} {head : Int} {run : Int} {a b c : Option AV}
theorem Ok.tcmp2 {T : Tab} {n : Nat} {loc : Loc} {ob ob1 ob2 ob3 : List AObj} {x y z : AV} {e e1 e2 : PE} {p q : Cop} {t : Bool} (h1 : Ok (ev T n e loc ob) (x, ob1)) (h2 : Ok (ev T n e1 loc ob1) (y, ob2)) (h3 : cmpS T p x y ob2 = some true) (h4 : Ok (ev T n e2 loc ob2) (z, ob3)) (h5 : cmpS T q y z ob3 = some t) : Ok (tv T (n + 1) (.cmp e [p, q] [e1, e2]) loc ob) (t, ob3) := by
 refine Ok.bnd h1 (Ok.bnd h2 (Ok.bnd (Ok.lift h3) ?_))
 exact Ok.bnd h4 (Ok.bnd (Ok.lift h5) Ok.fine)
theorem le_test {T : Tab} {ob : List AObj} {a b : Nat} {t : Bool} (h : decide (a ≤ b) = t) : cmpS T .le (.int (a : Int)) (.int (b : Int)) ob = some t := by
 show some (decide ((a : Int) ≤ (b : Int))) = some t
 rw [← h]
 congr 1
 exact decide_eq_decide.mpr Int.ofNat_le
noncomputable abbrev laT : PE := (.cmp (.int 0) [.le, .le] [(.loc 6), (.call (.glob 7) [(.loc 3)])])
theorem law_test (hl : wh.length ≤ 150) {P : Nat} {ob : List AObj} {t : Bool} (h : decide (P ≤ wh.length) = t) : Ok (tv TO3 20 laT (laL head text wh P run a b c) ob) (t, ob) :=
 Ok.tcmp2 (x := .int (0 : Nat)) (ob1 := ob) (y := .int (P : Int)) (ob2 := ob) (z := .int wh.length) (Ok.k) (Ok.k) (le_test (decide_eq_true (Nat.zero_le _))) (Ok.call (v := .val (.builtin "len")) (ob1 := ob) (vs := [.str wh]) (ob2 := ob) (Ok.k) (Ok.k) (Ok.len (by omega))) (le_test h)
theorem law_loop (hl : wh.length ≤ 150) (ha : ∀ c ∈ wh, c ∈ alphaN) (P n : Nat) (run : Int) (a b c : Option AV) (ob : List AObj) (h2 : P ≤ wh.length + 1) (R : LawAt wh P ob) (h3 : 0 ≤ run) (h4 : run + ((wh.length + 1 - P : Nat) : Int) < 900) (h5 : wh.length + 1 - P < n) :
  ∃ (run' : Int) (a' b' c' : Option AV) (ob' : List AObj), Ok (whlL (tv TO3 20 laT) (viaB laRs (exs (ex TO3 NN 19) laB)) n (laL head text wh P run a b c) ob) (.next, laL head text wh (wh.length + 1 : Nat) run' a' b' c', ob') := by
 induction n generalizing P run a b c ob with
 | zero => exact absurd h5 (Nat.not_lt_zero _)
 | succ n ih =>
  rcases Nat.lt_or_ge wh.length P with hP | hP
  ·cases Nat.le_antisymm h2 hP
   exact ⟨run, a, b, c, ob, Ok.whlF (law_test hl (decide_eq_false (Nat.not_succ_le_self _)))⟩
  ·obtain ⟨z, ob', a', b', c', e1, e2, e3, e4⟩ := law_turn (head := head) (text := text) (a := a) (b := b) (c := c) hl ha hP h3 (by omega) R
   obtain ⟨run', a2, b2, c2, ob2, e5⟩ := ih z (run + 1) a' b' c' ob' e3 e4 (by exact Int.le_add_one h3) (by omega) (by omega)
   exact ⟨run', a2, b2, c2, ob2, Ok.whlT (law_test hl (decide_eq_true hP)) e1 e5⟩
theorem norm_no13 (l : List Nat) : 13 ∉ norm l := by
 induction l using two_rec with
 | h0 => exact fun h => mem_no h
 | h1 c =>
  by_cases hc : c = 13
  ·cases hc; exact fun h => absurd (List.mem_singleton.mp h) (by decide)
  ·rw [norm_o hc]; exact fun h => hc (List.mem_singleton.mp h).symm
 | h2 c d r ih1 ih2 =>
  intro h
  by_cases hc : c = 13
  ·cases hc
   by_cases hd : d = 10
   ·cases hd; exact (List.mem_cons.mp h).elim (fun q => absurd q (by decide)) ih1
   ·rw [norm_13 hd] at h; exact (List.mem_cons.mp h).elim (fun q => absurd q (by decide)) ih2
  ·rw [norm_o hc] at h; exact (List.mem_cons.mp h).elim (fun q => hc q.symm) ih2
theorem alpha_N : ∀ c ∈ alpha, c ≠ 13 → c ∈ alphaN := by
 apply alpha_cases <;> first | (intro h; exact absurd rfl h) | (intro _; decide)
theorem TO3_marks : TO3.fns.lookup 817 = some f_law_marks := by kernel_rfl
theorem TO3_tok : TO3.fns.lookup 762 = some c_Tok := by kernel_rfl
theorem TO3_read : TO3.fns.lookup 141 = some sRead := by kernel_rfl
theorem law_rest (hl : text.length ≤ 150) (ha : ∀ c ∈ text, c ∈ alpha) : ∃ loc' ob', Ok (exs (ex TO3 NN 20) (b_law.drop 2) [none, some (.int head), some (.str text), none, none, none, none, none, none, none, none, none, none, none, none, none, none, none] []) (.ret (.bool true), loc', ob') := by
 have hn := norm_len text
 have hwN : ∀ c ∈ norm text, c ∈ alphaN := fun c hc => by
  have h13 : c ≠ 13 := fun q => norm_no13 text (q ▸ hc)
  rcases norm_mem hc with q | q
  ·exact alpha_N c (ha c q) h13
  ·subst q; decide
 have hr2 : (replS text [13, 10] [10]).length ≤ text.length := by
  have : ∀ (l : List Nat), (rep2 13 10 [10] l).length ≤ l.length := by
   intro l
   induction l using two_rec with
   | h0 => exact Nat.le_refl _
   | h1 c => exact Nat.le_refl _
   | h2 c d r ih1 ih2 =>
    by_cases h : c = 13 ∧ d = 10
    ·have e : rep2 13 10 [10] (c :: d :: r) = 10 :: rep2 13 10 [10] r := if_pos h
     rw [e]; exact Nat.succ_le_succ (Nat.le_succ_of_le ih1)
    ·have e : rep2 13 10 [10] (c :: d :: r) = c :: rep2 13 10 [10] (d :: r) := if_neg h
     rw [e]; exact Nat.succ_le_succ ih2
  rw [repl_two]; exact this text
 have e3 : Ok (ev TO3 20 (.repl (.repl (.loc 2) [13, 10] [10]) [13] [10]) [none, some (.int head), some (.str text), none, none, none, none, none, none, none, none, none, none, none, none, none, none, none] []) (.str (norm text), []) := by
  have h1 : Ok (ev TO3 19 (.repl (.loc 2) [13, 10] [10]) [none, some (.int head), some (.str text), none, none, none, none, none, none, none, none, none, none, none, none, none, none, none] []) (.str (replS text [13, 10] [10]), []) := Ok.repl (ob1 := []) (Ok.k) (by decide) (by simp only [List.length_cons, List.length_nil]; omega)
  have h2 := Ok.repl (T := TO3) (n := 19) (a := [13]) (b := [10]) h1 (by decide) (by simp only [List.length_cons, List.length_nil]; omega)
  rw [repl_norm] at h2
  exact h2
 have hm := marks_fn (tx := norm text) (by omega) fun c hc => alphaN_lt c (hwN c hc)
 have hmk := make_tok (tx := text) (ms := marksOf (norm text)) (by omega) (List.all_eq_true.mpr fun c hc => by unfold fair; exact List.contains_iff_mem.mpr (ha c hc))
 obtain ⟨j, hj, hj2⟩ := mod_nat (Int.fdiv head 64) (n := 13) (by omega)
 have hj : Int.fmod (Int.fdiv head 64) 13 = (j : Int) := hj
 have hrd : Ok (sRead [.ref 2, .int (2 + (j : Int))] [.list (marksOf (norm text)), tokL (.ref 3) (.meth 304 1) .none [], .strm [] (1114112 :: norm text), .list []]) (.bool (!(norm text).isEmpty), [.list (marksOf (norm text)), tokL (.ref 3) (.meth 304 1) .none [], .strm [] (norm text), .list []]) := by
  refine ⟨[], ?_, fun _ h => mem_no h⟩
  have h : (2 : Int) ≤ 2 + (j : Int) ∧ 2 + (j : Int) ≤ 1000 := ⟨by omega, by omega⟩
  exact if_pos h
 have hA : LawAt (norm text) 0 [.list (marksOf (norm text)), tokL (.ref 3) (.meth 304 1) .none [], .strm [] (norm text), .list []] := ⟨rfl, ⟨.ref 3, .meth 304 1, .none, [], rfl, .inr rfl, .inr ⟨304, rfl⟩, .inl rfl⟩, ⟨[], rfl, rfl⟩⟩
 obtain ⟨run', a', b', c', ob', hloop⟩ := law_loop (head := head) (text := text) (by omega) hwN 0 NN 0 none none none _ (Nat.zero_le _) hA (Int.le_refl _) (by omega) (by unfold NN; omega)
 refine ⟨laL head text (norm text) ((norm text).length + 1 : Nat) run' a' b' c', ob', ?_⟩
 refine Ok.step (Ok.asgL e3 (Nat.le_of_ble_eq_true rfl)) ?_
 refine Ok.step (Ok.asgL (Ok.call (v := .val (.ref 817)) (ob1 := []) (vs := [.str (norm text)]) (ob2 := []) (Ok.k) (Ok.k) (Ok.cv (callF_at TO3_marks) hm)) (Nat.le_of_ble_eq_true rfl)) ?_
 refine Ok.step (Ok.asgL (Ok.call (v := .val (.ref 762)) (ob1 := [.list (marksOf (norm text))]) (vs := [.str text]) (ob2 := [.list (marksOf (norm text))]) (Ok.k) (Ok.k) (Ok.cv (callF_at TO3_tok) hmk)) (Nat.le_of_ble_eq_true rfl)) ?_
 refine Ok.step (Ok.expr (Ok.meth (v := .ref 2) (ob1 := [.list (marksOf (norm text)), tokL (.ref 3) (.meth 304 1) .none [], .strm [] (1114112 :: norm text), .list []]) (m := .fn 141 (.ref 2)) (vs := [.int (2 + (j : Int))]) (ob2 := [.list (marksOf (norm text)), tokL (.ref 3) (.meth 304 1) .none [], .strm [] (1114112 :: norm text), .list []]) (Ok.k) (by kernel_rfl) (by rw [← hj]; exact Ok.k) (Ok.cv (callM_at TO3_read) hrd))) ?_
 refine Ok.step (loc1 := laL head text (norm text) 0 0 none none none) (ob1 := [.list (marksOf (norm text)), tokL (.ref 3) (.meth 304 1) .none [], .strm [] (norm text), .list []]) (Ok.k) ?_
 refine Ok.step (Ok.whl (rs := some laRs) hloop) (Ok.ret (Ok.rt ?_))
 have hlen : Ok (ev TO3 19 (.bin .add (.call (.glob 7) [(.loc 3)]) (.int 1)) (laL head text (norm text) ((norm text).length + 1 : Nat) run' a' b' c') ob') (.int (((norm text).length + 1 : Nat) : Int), ob') :=
  Ok.bin (x := .int (norm text).length) (ob1 := ob') (y := .int 1) (Ok.call (v := .val (.builtin "len")) (ob1 := ob') (vs := [.str (norm text)]) (ob2 := ob') (Ok.k) (Ok.k) (Ok.len (by omega))) (Ok.k) (Ok.k)
 exact Ok.vcmp (x := .int (((norm text).length + 1 : Nat) : Int)) (ob1 := ob') (Ok.k) hlen (eqN_test (decide_eq_true rfl))
end
noncomputable def refB (o : Option (Option Value)) (f : Nat) : Bool := trueO (onSome o fun o => onSome o fun v => onSome (refOf v) fun a => some (Nat.beq a f))
noncomputable def bltB (o : Option (Option Value)) (f : String) : Bool := trueO (onSome o fun o => onSome o fun v => onSome (bltOf v) fun a => some (decide (a = f)))
noncomputable def nonB (o : Option (Option Value)) : Bool := trueO (onSome o fun o => some o.isNone)
theorem refB_is {o : Option (Option Value)} {f : Nat} (h : refB o f = true) : o = some (some (.ref f)) :=
 oSi (tOi h) fun o e h => oSi h fun v e2 h => oSi h fun a e3 h => by rw [e, e2, refOf_is e3, Nat.eq_of_beq_eq_true (Option.some.inj h)]
theorem bltB_is {o : Option (Option Value)} {f : String} (h : bltB o f = true) : o = some (some (.builtin f)) :=
 oSi (tOi h) fun o e h => oSi h fun v e2 h => oSi h fun a e3 h => by rw [e, e2, bltOf_is e3, of_decide_eq_true (Option.some.inj h)]
theorem nonB_is {o : Option (Option Value)} (h : nonB o = true) : o = some none :=
 oSi (tOi h) fun o e h => by rw [e, Option.isNone_iff_eq_none.mp (Option.some.inj h)]
noncomputable def typV : Value → Option String
 | .type s => some s
 | _ => none
theorem typV_is {v : Value} {s : String} (h : typV v = some s) : v = .type s := by
 cases v with
 | type b => rw [Option.some.inj h]
 | _ => exact nO h
noncomputable def clsB (K : Frag) (C : Nat) : Bool := bltB (findIn K (.ref C) "__getattribute__") "object.__getattribute__" && (nonB (findIn K (.ref C) "__getattr__") && (bltB (findIn K (.ref C) "__setattr__") "object.__setattr__" && (plainOver K C && trueO (onSome (clsIn K C) fun cd => some cd.hasDict))))
theorem clsB_is {Y : Sys} {C : Nat} (h : clsB Y.K C = true) : ClsOk Y C :=
 have h1 := and2 h
 have h2 := and2 h1.2
 have h3 := and2 h2.2
 have h4 := and2 h3.2
 ⟨bltB_is h1.1, nonB_is h2.1, bltB_is h3.1, h4.1, oSi (tOi h4.2) fun cd e h => ⟨cd, e, Option.some.inj h⟩⟩
noncomputable def mfB (K : Frag) (f : Nat) : Bool := trueO (onSome (typeIn K (.ref f)) fun v => onSome (typV v) fun s => some (decide (s = "function"))) && (bltB (specialIn K (.ref f) "__get__") "function.__get__" && (trueO (onSome (takesIn K (.ref f)) fun b => some (!b)) && keepIn K (.ref f)))
theorem mfB_is {Y : Sys} {f : Nat} (h : mfB Y.K f = true) : MethOk Y f :=
 have h1 := and2 h
 have h2 := and2 h1.2
 have h3 := and2 h2.2
 ⟨oSi (tOi h1.1) fun v e k => oSi k fun s e2 k => by rw [e, typV_is e2, of_decide_eq_true (Option.some.inj k)], bltB_is h2.1, oSi (tOi h3.1) fun b e k => by rw [e, (Bool.not_eq_true' _).mp (Option.some.inj k)], h3.2⟩
noncomputable def methB (K : Frag) (x : Addr × List Nat × Addr) : Bool := refB (findIn K (.ref x.1) (sOf x.2.1)) x.2.2 && (!(copiedNames.contains (sOf x.2.1)) && (mfB K x.2.2 && (decide (x.1 = 73) || (decide (x.1 = 166) || decide (x.1 = 762)))))
noncomputable def ownB (K : Frag) (x : Addr × List Nat) : Bool := nonB (findIn K (.ref x.1) (sOf x.2)) && (decide (x.1 = 73) || (decide (x.1 = 166) || decide (x.1 = 762)))
theorem find2_mem {β : Type} {C : Addr} {n : List Nat} {b : β} {l : List (Addr × List Nat × β)} (h : find2 C n l = some b) : (C, n, b) ∈ l := by
 induction l with
 | nil => exact nO h
 | cons x r ih =>
  by_cases hc : x.1 = C
  ·replace h := (if_pos hc).symm.trans h
   by_cases hm : x.2.1 = n
   ·cases hc; cases hm; cases (if_pos rfl).symm.trans h; exact List.mem_cons_self ..
   ·exact List.mem_cons_of_mem _ (ih ((if_neg hm).symm.trans h))
  ·exact List.mem_cons_of_mem _ (ih ((if_neg hc).symm.trans h))
theorem has2_mem {C : Addr} {n : List Nat} {l : List (Addr × List Nat)} (h : has2 C n l = true) : (C, n) ∈ l := by
 induction l with
 | nil => exact nt h
 | cons x r ih =>
  by_cases hc : x.1 = C
  ·replace h := (if_pos hc).symm.trans h
   by_cases hm : x.2 = n
   ·cases hc; cases hm; exact List.mem_cons_self ..
   ·exact List.mem_cons_of_mem _ (ih ((if_neg hm).symm.trans h))
  ·exact List.mem_cons_of_mem _ (ih ((if_neg hc).symm.trans h))
theorem lookup_mem2 {κ β : Type} [BEq κ] [LawfulBEq κ] {x : κ} {v : β} {l : List (κ × β)} (h : l.lookup x = some v) : (x, v) ∈ l := by
 induction l with
 | nil => exact nO h
 | cons y r ih =>
  rw [List.lookup_cons] at h
  cases q : x == y.1 with
  | true => rw [q] at h; rw [eq_of_beq q, ← Option.some.inj h]; exact List.mem_cons_self ..
  | false => rw [q] at h; exact List.mem_cons_of_mem _ (ih h)
noncomputable def noneV : Value → Bool
 | .none => true
 | _ => false
noncomputable def strV (s : List Nat) : Value → Bool
 | .str x _ => decide (x = sOf s)
 | _ => false
noncomputable def intV (i : Int) : Value → Bool
 | .int j _ => decide (i = j)
 | _ => false
theorem noneV_is {v : Value} (h : noneV v = true) : v = .none := by
 cases v with
 | none => rfl
 | _ => exact nt h
theorem strV_is {s : List Nat} {v : Value} (h : strV s v = true) : ∃ t, v = .str (sOf s) t := by
 cases v with
 | str x t => exact ⟨t, by rw [of_decide_eq_true h]⟩
 | _ => exact nt h
theorem intV_is {i : Int} {v : Value} (h : intV i v = true) : ∃ t, v = .int i t := by
 cases v with
 | int x t => exact ⟨t, by rw [of_decide_eq_true h]⟩
 | _ => exact nt h
noncomputable def statB (a : AV) (v : Value) : Bool := match a with
 | .none => noneV v
 | .str s => strV s v
 | .int i => intV i v
 | .val w => trueO (onSome (refOf w) fun a => onSome (refOf v) fun b => some (Nat.beq a b))
 | _ => false
theorem statB_is {Y : Sys} {a : AV} {v : Value} (h : statB a v = true) : StatV Y a v := by
 intro hp g _ _
 cases a with
 | none => unfold RelV; exact noneV_is h
 | str s => unfold RelV; exact strV_is h
 | int i => unfold RelV; exact intV_is h
 | val w => unfold RelV; exact oSi (tOi h) fun a e h => oSi h fun b e2 h => by rw [refOf_is e, refOf_is e2, Nat.eq_of_beq_eq_true (Option.some.inj h)]
 | _ => exact nt h
theorem stats_is {Y : Sys} (as : List AV) : ∀ {vs : List Value}, sames statB as vs = true → ∀ (h : Heap) (g : G), (∀ b o, Y.hb.get? b = some o → h.get? b = some o) → (∀ b o, Y.hb.get? b = some o → g.own b = .free) → RelVs h g as vs := by
 induction as with
 | nil =>
  intro vs e h g _ _
  unfold RelVs
  exact List.isEmpty_iff.mp e
 | cons a as ih =>
  intro vs e h g h1 h2
  cases vs with
  | nil => exact nt e
  | cons v vs =>
   unfold RelVs
   exact ⟨v, vs, rfl, statB_is (and2 e).1 h g h1 h2, ih (and2 e).2 h g h1 h2⟩
noncomputable def headB (ty : String) (o : Obj) : Bool := trueO (onSome (typV o.cls) fun t => some (decide (t = ty))) && (o.dict.isNone && o.slots.isEmpty)
theorem headB_is {ty : String} {o : Obj} (h : headB ty o = true) : o = ⟨.type ty, none, o.data, #[]⟩ := by
 have h1 := and2 h
 have h2 := and2 h1.2
 obtain ⟨c, d, dt, sl⟩ := o
 have e1 : c = .type ty := oSi (tOi h1.1) fun t e k => (typV_is e).trans (congrArg Value.type (of_decide_eq_true (Option.some.inj k)))
 have e2 : d = none := Option.isNone_iff_eq_none.mp h2.1
 have e3 : sl = #[] := Array.isEmpty_iff.mp h2.2
 rw [e1, e2, e3]
noncomputable def seqD (q : List Value → Bool) : Data → Bool
 | .seq vs _ => q vs.toList
 | _ => false
noncomputable def seqB (K : Frag) (ty : String) (a : Nat) (as : List AV) : Bool := trueO (onSome (K.lookup a) fun o => some (headB ty o && seqD (sames statB as) o.data))
theorem seqB_is {K : Frag} {ty : String} {a : Nat} {as : List AV} (h : seqB K ty a as = true) : ∃ vs n, K.lookup a = some ⟨.type ty, none, .seq vs.toArray n, #[]⟩ ∧ sames statB as vs = true := by
 refine oSi (tOi h) fun o e h => ?_
 have h1 := and2 (Option.some.inj h)
 have h2 := headB_is h1.1
 have h3 := h1.2
 cases hd : o.data with
 | seq vs n =>
  rw [hd] at h2 h3
  exact ⟨vs.toList, n, by rw [e, h2], h3⟩
 | _ => rw [hd] at h3; exact nt h3
noncomputable def dictD : Data → Option (Array DictEntry)
 | .dict es _ => some es
 | _ => none
theorem dictD_is {d : Data} {es : Array DictEntry} (h : dictD d = some es) : ∃ ep, d = .dict es ep := by
 cases d with
 | dict es' ep => exact ⟨ep, by rw [Option.some.inj h]⟩
 | _ => exact nO h
noncomputable def nsOf (K : Frag) (a : Nat) : Array DictEntry := ((K.lookup a).bind fun o => dictD o.data).getD #[]
noncomputable def statO (a : AV) (o : Option Value) : Bool := trueO (onSome o fun v => some (statB a v))
noncomputable def globB (K : Frag) (x : List Nat) (a : AV) : Bool := match a with
 | .val w => (match bltOf w with
  | some _ => (nsFind (nsOf K 3) (sOf x)).isNone
  | none => statO (.val w) (nsFind (nsOf K 3) (sOf x)))
 | .tup xs => trueO (onSome (nsFind (nsOf K 3) (sOf x)) fun v => onSome (refOf v) fun b => some (seqB K "tuple" b xs))
 | a => statO a (nsFind (nsOf K 3) (sOf x))
theorem globB_is {K : Frag} {x : List Nat} {a : AV} {P : Prop} (h : globB K x a = true) (k1 : ∀ s, a = .val (.builtin s) → nsFind (nsOf K 3) (sOf x) = none → P) (k2 : ∀ xs b, a = .tup xs → nsFind (nsOf K 3) (sOf x) = some (.ref b) → seqB K "tuple" b xs = true → P) (k3 : ∀ v, nsFind (nsOf K 3) (sOf x) = some v → statB a v = true → P) : P := by
 have st : statO a (nsFind (nsOf K 3) (sOf x)) = true → P := fun h => oSi (tOi h) fun v e h => k3 v e (Option.some.inj h)
 cases a with
 | val w =>
  unfold globB at h
  cases hb : bltOf w with
  | some s => exact k1 s (by rw [bltOf_is hb]) (Option.isNone_iff_eq_none.mp (by dsimp only at h; rw [hb] at h; exact h))
  | none => exact st (by dsimp only at h; rw [hb] at h; exact h)
 | tup xs => exact oSi (tOi h) fun v e h => oSi h fun b e2 h => k2 xs b rfl (by rw [e, refOf_is e2]) (Option.some.inj h)
 | _ => exact st h
noncomputable def globsB (K : Frag) : Bool := (glNames.zip glVals).all fun x => globB K x.1 x.2
noncomputable def intA (a : AV) (v : Value) : Bool := trueO (onSome (asInt a) fun i => some (intV i v))
theorem intA_is {a : AV} {v : Value} {h : Heap} {g : G} (e : intA a v = true) : RelV h g a v := oSi (tOi e) fun i e h => by
 rw [asInt_is e]
 unfold RelV
 exact intV_is (Option.some.inj h)
noncomputable def intEsB : List DictEntry → List (Int × AV) → Bool := sames fun e x => intV x.1 e.key && intA x.2 e.val && decide (e.hash = hashInt x.1)
noncomputable def strEsB : List DictEntry → List (List Nat × AV) → Bool := sames fun e x => strV x.1 e.key && intA x.2 e.val
noncomputable def dictB (K : Frag) (a : Nat) : Option (List DictEntry) := onSome (K.lookup a) fun o => match headB "dict" o with
 | true => onSome (dictD o.data) fun es => some es.toList
 | false => none
theorem dictB_is {K : Frag} {a : Nat} {l : List DictEntry} (h : dictB K a = some l) : ∃ es ep, K.lookup a = some ⟨.type "dict", none, .dict es ep, #[]⟩ ∧ es.toList = l :=
 oSi h fun o e h => cond_is h fun hh h => oSi h fun es hd h => by
  obtain ⟨ep, hd⟩ := dictD_is hd
  have h2 := headB_is hh
  rw [hd] at h2
  exact ⟨es, ep, by rw [e, h2], Option.some.inj h⟩
noncomputable abbrev strEs : List (List Nat × AV) := [([68, 111, 99, 116, 121, 112, 101], .int 0), ([67, 104, 97, 114, 97, 99, 116, 101, 114, 115], .int 1), ([83, 112, 97, 99, 101, 67, 104, 97, 114, 97, 99, 116, 101, 114, 115], .int 2), ([83, 116, 97, 114, 116, 84, 97, 103], .int 3), ([69, 110, 100, 84, 97, 103], .int 4), ([69, 109, 112, 116, 121, 84, 97, 103], .int 5), ([67, 111, 109, 109, 101, 110, 116], .int 6), ([80, 97, 114, 115, 101, 69, 114, 114, 111, 114], .int 7)]
noncomputable abbrev intEs : List (Int × AV) := [(2, .int 0), (6, .int 1), (7, .int 1), (12, .int 2), (13, .int 2)]
noncomputable def intO (i : Int) (o : Option (Option Value)) (q : Value → Bool) : Bool := trueO (onSome o fun o => onSome o fun v => some (intV i v && q v))
noncomputable def cattrB (K : Frag) : Bool := intO 10240 (findIn K (.ref 166) (sOf [95, 100, 101, 102, 97, 117, 108, 116, 67, 104, 117, 110, 107, 83, 105, 122, 101])) fun v => nonB (specialIn K v "__get__")
noncomputable def fnAddrs : List Nat := [63, 70, 84, 105, 119, 148, 73, 112, 141, 98, 133, 163, 126, 166, 42, 822, 774, 781, 788, 795, 803, 810, 817, 850, 654, 661, 668, 675, 682, 689, 696, 703, 710, 717, 724, 731, 738, 745, 752, 759, 829, 836, 843, 857, 762]
noncomputable def is3B (K : Frag) : Bool := (K.lookup 3).isSome
noncomputable def factsB (K : Frag) : Bool := is3B K && (clsB K 73 && (clsB K 166 && (clsB K 762 && (meths0.all (methB K) && (own0.all (ownB K) && (globsB K && (cattrB K && (fnIn K 148 && (fnAddrs.all (fun f => keepIn K (.ref f)) && (seqB K "list" 767 (signs0.map .str) && (trueO (onSome (dictB K 48) fun l => some (strEsB l strEs)) && trueO (onSome (dictB K 796) fun l => some (intEsB l intEs)))))))))))))
structure Facts (K : Frag) : Prop where
 f0 : is3B K = true
 f1 : clsB K 73 = true
 f2 : clsB K 166 = true
 f3 : clsB K 762 = true
 f4 : meths0.all (methB K) = true
 f5 : own0.all (ownB K) = true
 f6 : globsB K = true
 f7 : cattrB K = true
 f8 : fnIn K 148 = true
 f9 : fnAddrs.all (fun f => keepIn K (.ref f)) = true
 f10 : seqB K "list" 767 (signs0.map .str) = true
 f11 : ∃ l, dictB K 48 = some l ∧ strEsB l strEs = true
 f12 : ∃ l, dictB K 796 = some l ∧ intEsB l intEs = true
theorem factsB_is {K : Frag} (h : factsB K = true) : Facts K :=
 have h0 := and2 h
 have h1 := and2 h0.2
 have h2 := and2 h1.2
 have h3 := and2 h2.2
 have h4 := and2 h3.2
 have h5 := and2 h4.2
 have h6 := and2 h5.2
 have h7 := and2 h6.2
 have h8 := and2 h7.2
 have h9 := and2 h8.2
 have h10 := and2 h9.2
 have h11 := and2 h10.2
 ⟨h0.1, h1.1, h2.1, h3.1, h4.1, h5.1, h6.1, h7.1, h8.1, h9.1, h10.1, oSi (tOi h11.1) fun l e h => ⟨l, e, Option.some.inj h⟩, oSi (tOi h11.2) fun l e h => ⟨l, e, Option.some.inj h⟩⟩
noncomputable def hashes (l : Option (List DictEntry)) : List Int := match l with
 | some l => l.map (·.hash)
 | none => []
noncomputable def keyHashes (P : Params) : List Int := strEs.map fun x => PyData.keyHash P (sOf x.1)
theorem strEs_is {prog : Program} {w : World} (l : List DictEntry) : ∀ {es : List (List Nat × AV)}, strEsB l es = true → l.map (·.hash) = es.map (fun x => PyData.keyHash w.params (sOf x.1)) →
  ∃ kvs, (∀ e ∈ l, ∃ k, (strKind prog w).is k e.key = true ∧ e.hash = (strKind prog w).hash k) ∧ Pairs (strKind prog w) l kvs ∧ kvs.map (·.1) = es.map (fun x => sOf x.1) ∧ ∀ h g, RelKs h g sOf es kvs := by
 induction l with
 | nil =>
  intro es h hh
  cases es with
  | nil => exact ⟨[], (fun _ h => mem_no h), .nil, rfl, fun _ _ => rfl⟩
  | cons _ _ => exact nt h
 | cons e r ih =>
  intro es h hh
  cases es with
  | nil => exact nt h
  | cons x s =>
   have h1 := and2 h
   have h2 := and2 h1.1
   obtain ⟨t, hk⟩ := strV_is h2.1
   obtain ⟨q1, q2⟩ := List.cons.inj hh
   obtain ⟨kvs, k1, k2, k3, k4⟩ := ih h1.2 q2
   have key : (strKind prog w).is (sOf x.1) e.key = true := by rw [hk]; exact strKind_is prog w _ t
   refine ⟨(sOf x.1, e.val) :: kvs, fun e' he => ?_, .cons key rfl k2, congrArg (sOf x.1 :: ·) k3, fun h g => ⟨e.val, kvs, rfl, intA_is h2.2, k4 h g⟩⟩
   rcases List.mem_cons.mp he with rfl | he
   ·exact ⟨sOf x.1, key, q1⟩
   ·exact k1 e' he
theorem intEs_is {prog : Program} {w : World} (l : List DictEntry) : ∀ {es : List (Int × AV)}, intEsB l es = true →
  ∃ kvs, (∀ e ∈ l, ∃ k, (intKind prog w).is k e.key = true ∧ e.hash = (intKind prog w).hash k) ∧ Pairs (intKind prog w) l kvs ∧ kvs.map (·.1) = es.map (fun x => x.1) ∧ ∀ h g, RelKs h g id es kvs := by
 induction l with
 | nil =>
  intro es h
  cases es with
  | nil => exact ⟨[], (fun _ h => mem_no h), .nil, rfl, fun _ _ => rfl⟩
  | cons _ _ => exact nt h
 | cons e r ih =>
  intro es h
  cases es with
  | nil => exact nt h
  | cons x s =>
   have h1 := and2 h
   have h2 := and3 h1.1
   obtain ⟨t, hk⟩ := intV_is h2.1
   obtain ⟨kvs, k1, k2, k3, k4⟩ := ih h1.2
   have key : (intKind prog w).is x.1 e.key = true := by rw [hk]; exact beq_self_eq_true x.1
   refine ⟨(x.1, e.val) :: kvs, fun e' he => ?_, .cons key rfl k2, congrArg (x.1 :: ·) k3, fun h g => ⟨e.val, kvs, rfl, intA_is h2.2.1, k4 h g⟩⟩
   rcases List.mem_cons.mp he with rfl | he
   ·exact ⟨x.1, key, of_decide_eq_true h2.2.2⟩
   ·exact k1 e' he
structure Base (Y : Sys) : Prop where
 ok : Y.Ok
 facts : factsB Y.K = true
 hash : hashes (dictB Y.K 48) = keyHashes Y.w.params
 len : Y.mb (sOf [108, 101, 110]) = some (.builtin "len")
 ord : Y.mb (sOf [111, 114, 100]) = some (.builtin "ord")
 cS : Y.cS = 166
 cT : Y.cT = 73
 fE : Y.fE = 148
theorem mg_is {Y : Sys} (O : Y.Ok) (h3 : is3B Y.K = true) (x : Str) : Y.mg x = nsFind (nsOf Y.K 3) x := by
 obtain ⟨o, es, ep, h1, h2, _, h4⟩ := O.G
 obtain ⟨o', e⟩ : ∃ o', Y.K.lookup 3 = some o' := Option.isSome_iff_exists.mp h3
 replace h1 : Y.hb.get? 3 = some o := h1
 have q : o' = o := Option.some.inj ((O.X _ _ e).symm.trans h1)
 rw [← h4 x]
 congr 1
 unfold nsOf
 rw [e, Option.bind_some, q, h2]
 rfl
noncomputable def bltOk (x : List Nat × AV) : Bool := match x.2 with
 | .val w => (match bltOf w with
  | some s => decide (x.1 = [108, 101, 110] ∧ s = "len") || decide (x.1 = [111, 114, 100] ∧ s = "ord")
  | none => true)
 | _ => true
theorem blt_all : (glNames.zip glVals).all bltOk = true := by kernel_rfl
theorem meth_own : (meths0.all fun x => !(decide (x.1 = 166) && strmNames.contains x.2.1)) = true := by kernel_rfl
section
variable {Y : Sys} (B : Base Y)
include B
theorem tab_glob {x : List Nat × AV} (hx : x ∈ glNames.zip glVals) : ∃ v, (Y.mg (sOf x.1) = some v ∨ (Y.mg (sOf x.1) = none ∧ Y.mb (sOf x.1) = some v)) ∧ StatV Y x.2 v := by
 have F := factsB_is B.facts
 have hm := mg_is B.ok F.f0 (sOf x.1)
 refine globB_is (List.all_eq_true.mp F.f6 x hx) (fun s e1 e2 => ?_) (fun xs b e1 e2 h => ?_) (fun v e h => ⟨v, .inl (hm.trans e), statB_is h⟩)
 ·rw [e2] at hm
  have hall : (decide (x.1 = [108, 101, 110] ∧ s = "len") || decide (x.1 = [111, 114, 100] ∧ s = "ord")) = true := by
   have h := List.all_eq_true.mp blt_all x hx
   unfold bltOk at h
   rw [e1] at h
   exact h
  have st : StatV Y x.2 (.builtin s) := by rw [e1]; intro h g _ _; unfold RelV; rfl
  rcases Bool.or_eq_true_iff.mp hall with q | q
  ·exact ⟨.builtin s, .inr ⟨hm, by rw [(of_decide_eq_true q).1, (of_decide_eq_true q).2]; exact B.len⟩, st⟩
  ·exact ⟨.builtin s, .inr ⟨hm, by rw [(of_decide_eq_true q).1, (of_decide_eq_true q).2]; exact B.ord⟩, st⟩
 ·obtain ⟨vs, n, k1, k2⟩ := seqB_is h
  refine ⟨.ref b, .inl (hm.trans e2), ?_⟩
  rw [e1]
  intro h g h1 h2
  have hb := B.ok.X _ _ k1
  unfold RelV
  exact ⟨b, vs, n, rfl, h2 _ _ hb, h1 _ _ hb, stats_is xs k2 h g h1 h2⟩
theorem tab_cls {C : Nat} (h : (decide (C = 73) || (decide (C = 166) || decide (C = 762))) = true) : ClsOk Y C := by
 have F := factsB_is B.facts
 rcases Bool.or_eq_true_iff.mp h with h | h
 ·rw [of_decide_eq_true h]; exact clsB_is F.f1
 ·rcases Bool.or_eq_true_iff.mp h with h | h
  ·rw [of_decide_eq_true h]; exact clsB_is F.f2
  ·rw [of_decide_eq_true h]; exact clsB_is F.f3
theorem tab_cattr : ∃ v, findIn Y.K (.ref 166) (sOf [95, 100, 101, 102, 97, 117, 108, 116, 67, 104, 117, 110, 107, 83, 105, 122, 101]) = some (some v) ∧ specialIn Y.K v "__get__" = some none ∧ handedIn v = true ∧ StatV Y (.int 10240) v :=
 oSi (tOi (factsB_is B.facts).f7) fun o e h => oSi h fun v e2 h => by
  have h1 := and2 (Option.some.inj h)
  have h2 := intV_is h1.1
  refine ⟨v, by rw [e, e2], nonB_is h1.2, ?_, fun h g _ _ => by unfold RelV; exact h2⟩
  obtain ⟨t, rfl⟩ := h2
  rfl
theorem tab_kstr : ∃ kvs, Y.hb.DictOf (strKind Y.prog Y.w) 48 kvs ∧ ∀ h g, RelKs h g sOf strEs kvs := by
 obtain ⟨l, e, h⟩ := (factsB_is B.facts).f11
 have hash := B.hash
 rw [e] at hash
 obtain ⟨es, ep, k1, k2⟩ := dictB_is e
 obtain ⟨kvs, q1, q2, q3, q4⟩ := strEs_is (prog := Y.prog) (w := Y.w) l h hash
 refine ⟨kvs, ⟨_, es, ep, B.ok.X _ _ k1, ⟨rfl, rfl, rfl⟩, rfl, fun e he => q1 e (by rw [← k2]; exact Array.mem_toList_iff.mpr he), by rw [k2]; exact q2, ?_⟩, q4⟩
 rw [q3]
 exact nbN (by kernel_rfl)
theorem tab_kint : ∃ kvs, Y.hb.DictOf (intKind Y.prog Y.w) 796 kvs ∧ ∀ h g, RelKs h g id intEs kvs := by
 obtain ⟨l, e, h⟩ := (factsB_is B.facts).f12
 obtain ⟨es, ep, k1, k2⟩ := dictB_is e
 obtain ⟨kvs, q1, q2, q3, q4⟩ := intEs_is (prog := Y.prog) (w := Y.w) l h
 refine ⟨kvs, ⟨_, es, ep, B.ok.X _ _ k1, ⟨rfl, rfl, rfl⟩, rfl, fun e he => q1 e (by rw [← k2]; exact Array.mem_toList_iff.mpr he), by rw [k2]; exact q2, ?_⟩, q4⟩
 rw [q3]
 exact nbN (by kernel_rfl)
theorem tab_ok {d : Nat} {fns : List (Addr × Fn)} (hf : ∀ f p, fns.lookup f = some p → FnOk Y d f p ∧ f ∈ fnAddrs) : TabOk Y (tabOf fns) d := by
 have F := factsB_is B.facts
 refine ⟨fun p hp => ?_, fun f p h => ⟨(hf f p h).1, List.all_eq_true.mp F.f9 f (hf f p h).2⟩, fun C n f h => ?_, fun f h => ?_, fun n f h => ?_, fun C n a h => ?_, fun C n h => ?_, B.cS.symm, by rw [B.cS]; exact clsB_is F.f2, fun a es h => ?_, fun a es h => ?_, fun a xs h => ?_⟩
 ·have hp : p ∈ (glNames.map sOf).zip glVals := hp
  rw [List.zip_map_left] at hp
  obtain ⟨x, hx, rfl⟩ := List.mem_map.mp hp
  exact tab_glob B hx
 ·have hm := and2 (List.all_eq_true.mp F.f4 _ (find2_mem h))
  have h2 := and2 hm.2
  have h3 := and2 h2.2
  exact ⟨tab_cls B h3.2, refB_is hm.1, by simpa using h2.1, mfB_is h3.1⟩
 ·have : f = 148 := by simpa [tabOf] using h
  rw [this]; exact F.f8
 ·have := List.all_eq_true.mp meth_own _ (find2_mem h)
  simp [tabOf] at this
  simpa using this
 ·have hm : (C, n, a) ∈ [((166 : Nat), [95, 100, 101, 102, 97, 117, 108, 116, 67, 104, 117, 110, 107, 83, 105, 122, 101], AV.int 10240)] := find2_mem h
  clear h hf
  cases List.mem_singleton.mp hm
  obtain ⟨v, h1, h2, h3, h4⟩ := tab_cattr B
  exact ⟨clsB_is F.f2, v, h1, h2, h3, by kernel_rfl, h4⟩
 ·have hm := and2 (List.all_eq_true.mp F.f5 _ (has2_mem h))
  exact ⟨tab_cls B hm.2, nonB_is hm.1⟩
 ·have hm := lookup_mem2 h
  clear h hf
  cases List.mem_singleton.mp hm
  obtain ⟨kvs, h1, h2⟩ := tab_kstr B
  exact ⟨kvs, h1, fun h g _ _ => h2 h g⟩
 ·have hm := lookup_mem2 h
  clear h hf
  cases List.mem_singleton.mp hm
  obtain ⟨kvs, h1, h2⟩ := tab_kint B
  exact ⟨by decide, kvs, h1, fun h g _ _ => h2 h g⟩
 ·have hm := lookup_mem2 h
  clear h hf
  cases List.mem_singleton.mp hm
  obtain ⟨vs, n, k1, k2⟩ := seqB_is F.f10
  exact ⟨by kernel_rfl, vs, n, B.ok.X _ _ k1, fun h g h1 h2 => stats_is _ k2 h g h1 h2⟩
end
noncomputable def funcOf (K : Frag) (f : Addr) : FuncData := match K.lookup f with
 | some ⟨_, _, .func fd, _⟩ => fd
 | _ => default
noncomputable def stmtsOf (fd : FuncData) : List PySem.Stmt := match fd.body with
 | .stmts b => b
 | _ => []
noncomputable def fdB (K : Frag) (fd : FuncData) (ps : List (List Nat)) (nl : Nat) (body : List PS) : Bool :=
 codeIn K fd.code fd.qualname && (all2 (okS fd.scope.names globs0 20) body (stmtsOf fd) && (fd.scope.names.all (fun x => x.2 != .cell) && (nodupB (fd.scope.names.map (·.1)) && (nodupB (ps.map sOf) && (decide (fd.scope.names.map (fun p => (ps.map sOf).idxOf? p.1) = (List.range (ps.map sOf).length).map some ++ List.replicate nl none) &&
 ((ps.map sOf).all (fun p => fd.scope.names.lookup p == some .local) && (decide (fd.globals = mainGlobals) && (decide (fd.builtins = builtinsNs) && (decide (fd.scope.kind = .function) && (!fd.scope.isCoroutine && (!fd.scope.isGenerator && (match fd.body with
 | .stmts _ => true
 | _ => false))))))))))))
noncomputable def fnB (K : Frag) (f : Addr) (ps : List (List Nat)) (nl : Nat) (body : List PS) : Bool := match K.lookup f with
 | some ⟨_, _, .func fd, _⟩ => fdB K fd ps nl body
 | _ => false
noncomputable def BindOk (K : Frag) (f : Addr) (params : List Str) (ar : List Nat) : Prop := ∀ vals : List Value, vals.length ∈ ar → (vals ++ List.replicate (params.length - vals.length) Value.none).length = params.length ∧ ∀ s : Shared, K.In s.heap → BindsTo s (funcOf K f) ⟨vals, []⟩ (params.zip (vals ++ List.replicate (params.length - vals.length) .none))
theorem mk_fn {Y : Sys} {d : Nat} {fns : List (Addr × Fn)} (O : Y.Ok) (TO : TabOk Y (tabOf fns) d) {f : Addr} {ps : List (List Nat)} {nl : Nat} {ar : List Nat} {body : List PS} (h : fnB Y.K f ps nl body = true) (hb : BindOk Y.K f (ps.map sOf) ar) {N : Nat} : FnOk Y (d + 1) f (bFn (tabOf fns) N ps.length nl ar body) := by
 unfold fnB at h
 split at h
 case h_2 => cases h
 rename_i c dd fd sl e
 have hfd : funcOf Y.K f = fd := by unfold funcOf; rw [e]
 obtain ⟨h1, h⟩ := Bool.and_eq_true_iff.mp h
 obtain ⟨h2, h⟩ := Bool.and_eq_true_iff.mp h
 obtain ⟨h3, h⟩ := Bool.and_eq_true_iff.mp h
 obtain ⟨h4, h⟩ := Bool.and_eq_true_iff.mp h
 obtain ⟨h5, h⟩ := Bool.and_eq_true_iff.mp h
 obtain ⟨h6, h⟩ := Bool.and_eq_true_iff.mp h
 obtain ⟨h7, h⟩ := Bool.and_eq_true_iff.mp h
 obtain ⟨h8, h⟩ := Bool.and_eq_true_iff.mp h
 obtain ⟨h9, h⟩ := Bool.and_eq_true_iff.mp h
 obtain ⟨h10, h⟩ := Bool.and_eq_true_iff.mp h
 obtain ⟨h11, h⟩ := Bool.and_eq_true_iff.mp h
 obtain ⟨h12, h13⟩ := Bool.and_eq_true_iff.mp h
 have hbody : fd.body = .stmts (stmtsOf fd) := by
  unfold stmtsOf
  split at h13
  ·rename_i b e; rw [e]
  ·cases h13
 unfold BindOk at hb
 rw [hfd] at hb
 have F : FnData Y f fd (stmtsOf fd) (ps.map sOf) nl ar := ⟨⟨_, e, rfl⟩, h1, hbody, hb, h3, nbN h4, nbN h5, of_decide_eq_true h6, h7, of_decide_eq_true h8, of_decide_eq_true h9, of_decide_eq_true h10, by simpa using h11, by simpa using h12⟩
 have := fn_of_body O TO F (ps := body) (N := N) h2
 rw [List.length_map] at this
 exact this
theorem FnOk.up {Y : Sys} {d d' : Nat} {f : Addr} {p : Fn} (h : FnOk Y d f p) (hd : d ≤ d') : FnOk Y d' f p := fun args ob v ob' obs e fit A g s0 s vals R rv hD => h args ob v ob' obs e fit A g s0 s vals R rv ⟨by have := hD.1; omega, by have := hD.2.1; omega, hD.2.2⟩
noncomputable def AllOk (Y : Sys) (d : Nat) (fns : List (Addr × Fn)) : Prop := ∀ x ∈ fns, FnOk Y d x.1 x.2 ∧ x.1 ∈ fnAddrs
theorem AllOk.nil {Y : Sys} {d : Nat} : AllOk Y d [] := fun _ h => mem_no h
theorem AllOk.cons {Y : Sys} {d : Nat} {f : Addr} {p : Fn} {fns : List (Addr × Fn)} (h : FnOk Y d f p) (hf : f ∈ fnAddrs) (hs : AllOk Y d fns) : AllOk Y d ((f, p) :: fns) := fun x hx => by
 rcases List.mem_cons.mp hx with rfl | q
 ·exact ⟨h, hf⟩
 ·exact hs x q
theorem AllOk.up {Y : Sys} {d d' : Nat} {fns : List (Addr × Fn)} (h : AllOk Y d fns) (hd : d ≤ d') : AllOk Y d' fns := fun x hx => ⟨(h x hx).1.up hd, (h x hx).2⟩
theorem vals0 {vals : List Value} (h : vals.length ∈ [0]) : vals = [] := List.length_eq_zero_iff.mp (List.mem_singleton.mp h)
theorem vals_cons {vals : List Value} {n : Nat} (h : vals.length = n + 1) : ∃ a r, vals = a :: r ∧ r.length = n := by
 cases vals with
 | nil => exact nomatch h
 | cons a r => exact ⟨a, r, rfl, Nat.succ.inj h⟩
theorem valsN {vals : List Value} {n : Nat} (h : vals.length ∈ [n]) : vals.length = n := List.mem_singleton.mp h
theorem vals1 {vals : List Value} (h : vals.length ∈ [1]) : ∃ a0, vals = [a0] := by
 obtain ⟨a0, r, rfl, q⟩ := vals_cons (valsN h)
 exact ⟨a0, by rw [List.length_eq_zero_iff.mp q]⟩
theorem vals2 {vals : List Value} (h : vals.length ∈ [2]) : ∃ a0 a1, vals = [a0, a1] := by
 obtain ⟨a0, r, rfl, q⟩ := vals_cons (valsN h)
 obtain ⟨a1, rfl⟩ := vals1 (List.mem_singleton.mpr q)
 exact ⟨a0, a1, rfl⟩
theorem vals3 {vals : List Value} (h : vals.length ∈ [3]) : ∃ a0 a1 a2, vals = [a0, a1, a2] := by
 obtain ⟨a0, r, rfl, q⟩ := vals_cons (valsN h)
 obtain ⟨a1, a2, rfl⟩ := vals2 (List.mem_singleton.mpr q)
 exact ⟨a0, a1, a2, rfl⟩
theorem vals4 {vals : List Value} (h : vals.length ∈ [4]) : ∃ a0 a1 a2 a3, vals = [a0, a1, a2, a3] := by
 obtain ⟨a0, r, rfl, q⟩ := vals_cons (valsN h)
 obtain ⟨a1, a2, a3, rfl⟩ := vals3 (List.mem_singleton.mpr q)
 exact ⟨a0, a1, a2, a3, rfl⟩
theorem vals6 {vals : List Value} (h : vals.length ∈ [6]) : ∃ a0 a1 a2 a3 a4 a5, vals = [a0, a1, a2, a3, a4, a5] := by
 obtain ⟨a0, r, rfl, q⟩ := vals_cons (valsN h)
 obtain ⟨b0, r, rfl, q'⟩ := vals_cons q
 obtain ⟨a1, a2, a3, a4, rfl⟩ := vals4 (List.mem_singleton.mpr q')
 exact ⟨a0, b0, a1, a2, a3, a4, rfl⟩
structure Binds (K : Frag) : Prop where
 x84 : ∀ a0 : Value, bindArgs (funcOf K 84) ⟨[a0], []⟩ = pure [(sOf [99, 111, 100, 101, 112, 111, 105, 110, 116], a0)]
 x774 : bindArgs (funcOf K 774) ⟨[], []⟩ = pure []
 x781 : bindArgs (funcOf K 781) ⟨[], []⟩ = pure []
 x788 : bindArgs (funcOf K 788) ⟨[], []⟩ = pure []
 x795 : bindArgs (funcOf K 795) ⟨[], []⟩ = pure []
 x803 : bindArgs (funcOf K 803) ⟨[], []⟩ = pure []
 x810 : bindArgs (funcOf K 810) ⟨[], []⟩ = pure []
 x817 : ∀ a0 : Value, bindArgs (funcOf K 817) ⟨[a0], []⟩ = pure [(sOf [116, 101, 120, 116], a0)]
 x829 : ∀ a0 a1 a2 : Value, bindArgs (funcOf K 829) ⟨[a0, a1, a2], []⟩ = pure [(sOf [116, 101, 120, 116], a0), (sOf [115, 116, 111, 112], a1), (sOf [115, 116, 97, 116, 101], a2)]
 x836 : ∀ a0 a1 a2 a3 : Value, bindArgs (funcOf K 836) ⟨[a0, a1, a2, a3], []⟩ = pure [(sOf [116, 101, 120, 116], a0), (sOf [112, 108, 97, 99, 101], a1), (sOf [115, 116, 97, 116, 101], a2), (sOf [112, 97, 114, 116], a3)]
 x843 : ∀ a0 a1 : Value, bindArgs (funcOf K 843) ⟨[a0, a1], []⟩ = pure [(sOf [116], a0), (sOf [115, 116, 97, 116, 101], a1)]
 x850 : ∀ a0 : Value, bindArgs (funcOf K 850) ⟨[a0], []⟩ = pure [(sOf [112, 97, 114, 116], a0)]
 x857 : ∀ a0 a1 a2 a3 a4 a5 : Value, bindArgs (funcOf K 857) ⟨[a0, a1, a2, a3, a4, a5], []⟩ = pure [(sOf [116], a0), (sOf [116, 101, 120, 116], a1), (sOf [109, 97, 114, 107, 115], a2), (sOf [112, 108, 97, 99, 101], a3), (sOf [102, 105, 114, 115, 116], a4), (sOf [112, 97, 114, 116], a5)]
 x63 : ∀ a0 a1 : Value, bindArgs (funcOf K 63) ⟨[a0, a1], []⟩ = pure [(sOf [115, 101, 108, 102], a0), (sOf [116, 101, 120, 116], a1)]
 x70 : ∀ a0 a1 : Value, bindArgs (funcOf K 70) ⟨[a0, a1], []⟩ = pure [(sOf [115, 101, 108, 102], a0), (sOf [115, 105, 122, 101], a1)]
 x98 : ∀ a0 a1 : Value, bindArgs (funcOf K 98) ⟨[a0, a1], []⟩ = pure [(sOf [115, 101, 108, 102], a0), (sOf [115, 111, 117, 114, 99, 101], a1)]
 x105 : ∀ a0 : Value, bindArgs (funcOf K 105) ⟨[a0], []⟩ = pure [(sOf [115, 101, 108, 102], a0)]
 x112 : ∀ a0 a1 : Value, bindArgs (funcOf K 112) ⟨[a0, a1], []⟩ = pure [(sOf [115, 101, 108, 102], a0), (sOf [115, 111, 117, 114, 99, 101], a1)]
 x119 : ∀ a0 a1 : Value, bindArgs (funcOf K 119) ⟨[a0, a1], []⟩ = pure [(sOf [115, 101, 108, 102], a0), (sOf [111, 102, 102, 115, 101, 116], a1)]
 x126 : ∀ a0 : Value, bindArgs (funcOf K 126) ⟨[a0], []⟩ = pure [(sOf [115, 101, 108, 102], a0)]
 x133 : ∀ a0 : Value, bindArgs (funcOf K 133) ⟨[a0], []⟩ = pure [(sOf [115, 101, 108, 102], a0)]
 x148 : ∀ a0 a1 : Value, bindArgs (funcOf K 148) ⟨[a0, a1], []⟩ = pure [(sOf [115, 101, 108, 102], a0), (sOf [100, 97, 116, 97], a1)]
 x163 : ∀ a0 a1 : Value, bindArgs (funcOf K 163) ⟨[a0, a1], []⟩ = pure [(sOf [115, 101, 108, 102], a0), (sOf [99, 104, 97, 114], a1)]
 x654 : ∀ a0 : Value, bindArgs (funcOf K 654) ⟨[a0], []⟩ = pure [(sOf [115, 101, 108, 102], a0)]
 x661 : ∀ a0 : Value, bindArgs (funcOf K 661) ⟨[a0], []⟩ = pure [(sOf [115, 101, 108, 102], a0)]
 x668 : ∀ a0 : Value, bindArgs (funcOf K 668) ⟨[a0], []⟩ = pure [(sOf [115, 101, 108, 102], a0)]
 x675 : ∀ a0 : Value, bindArgs (funcOf K 675) ⟨[a0], []⟩ = pure [(sOf [115, 101, 108, 102], a0)]
 x682 : ∀ a0 : Value, bindArgs (funcOf K 682) ⟨[a0], []⟩ = pure [(sOf [115, 101, 108, 102], a0)]
 x689 : ∀ a0 : Value, bindArgs (funcOf K 689) ⟨[a0], []⟩ = pure [(sOf [115, 101, 108, 102], a0)]
 x696 : ∀ a0 : Value, bindArgs (funcOf K 696) ⟨[a0], []⟩ = pure [(sOf [115, 101, 108, 102], a0)]
 x703 : ∀ a0 : Value, bindArgs (funcOf K 703) ⟨[a0], []⟩ = pure [(sOf [115, 101, 108, 102], a0)]
 x710 : ∀ a0 : Value, bindArgs (funcOf K 710) ⟨[a0], []⟩ = pure [(sOf [115, 101, 108, 102], a0)]
 x717 : ∀ a0 : Value, bindArgs (funcOf K 717) ⟨[a0], []⟩ = pure [(sOf [115, 101, 108, 102], a0)]
 x724 : ∀ a0 : Value, bindArgs (funcOf K 724) ⟨[a0], []⟩ = pure [(sOf [115, 101, 108, 102], a0)]
 x731 : ∀ a0 : Value, bindArgs (funcOf K 731) ⟨[a0], []⟩ = pure [(sOf [115, 101, 108, 102], a0)]
 x738 : ∀ a0 : Value, bindArgs (funcOf K 738) ⟨[a0], []⟩ = pure [(sOf [115, 101, 108, 102], a0)]
 x745 : ∀ a0 : Value, bindArgs (funcOf K 745) ⟨[a0], []⟩ = pure [(sOf [115, 101, 108, 102], a0)]
 x752 : ∀ a0 : Value, bindArgs (funcOf K 752) ⟨[a0], []⟩ = pure [(sOf [115, 101, 108, 102], a0)]
 x759 : ∀ a0 : Value, bindArgs (funcOf K 759) ⟨[a0], []⟩ = pure [(sOf [115, 101, 108, 102], a0)]
 z141a : ∀ (a0 : Value) (S : Setting), peek K S (bindArgs (funcOf K 141) ⟨[a0], []⟩) = some [(sOf [115, 101, 108, 102], a0), (sOf [99, 104, 117, 110, 107, 83, 105, 122, 101], .none)]
 z141b : ∀ (a0 a1 : Value) (S : Setting), peek K S (bindArgs (funcOf K 141) ⟨[a0, a1], []⟩) = some [(sOf [115, 101, 108, 102], a0), (sOf [99, 104, 117, 110, 107, 83, 105, 122, 101], a1)]
 z261 : ∀ (a0 a1 : Value) (S : Setting), peek K S (bindArgs (funcOf K 261) ⟨[a0, a1], []⟩) = some [(sOf [115, 101, 108, 102], a0), (sOf [115, 116, 114, 101, 97, 109], a1), (sOf [112, 97, 114, 115, 101, 114], .none)]
noncomputable def fnTab : List (Addr × List (List Nat) × Nat × List PS) := [(84, [[99, 111, 100, 101, 112, 111, 105, 110, 116]], 0, b__is_invalid),
 (774, [], 0, b_law_NAMES),
 (781, [], 0, b_law_PUBLICS),
 (788, [], 0, b_law_SYSTEMS),
 (795, [], 1, b_law_KEEPS),
 (803, [], 0, b_law_SHUT),
 (810, [], 0, b_law_LOST),
 (817, [[116, 101, 120, 116]], 4, b_law_marks),
 (829, [[116, 101, 120, 116], [115, 116, 111, 112], [115, 116, 97, 116, 101]], 10, b_law_leave),
 (836, [[116, 101, 120, 116], [112, 108, 97, 99, 101], [115, 116, 97, 116, 101], [112, 97, 114, 116]], 11, b_law_plan),
 (843, [[116], [115, 116, 97, 116, 101]], 0, b_law_call),
 (850, [[112, 97, 114, 116]], 1, b_law_token),
 (857, [[116], [116, 101, 120, 116], [109, 97, 114, 107, 115], [112, 108, 97, 99, 101], [102, 105, 114, 115, 116], [112, 97, 114, 116]], 13, b_law_run),
 (63, [[115, 101, 108, 102], [116, 101, 120, 116]], 0, b_Text___init__),
 (70, [[115, 101, 108, 102], [115, 105, 122, 101]], 2, b_Text_read),
 (98, [[115, 101, 108, 102], [115, 111, 117, 114, 99, 101]], 0, b_Us),
 (105, [[115, 101, 108, 102]], 0, b_Uv),
 (112, [[115, 101, 108, 102], [115, 111, 117, 114, 99, 101]], 2, b_Uo),
 (119, [[115, 101, 108, 102], [111, 102, 102, 115, 101, 116]], 5, b_Up),
 (126, [[115, 101, 108, 102]], 2, b_Ut),
 (133, [[115, 101, 108, 102]], 3, b_Ux),
 (141, [[115, 101, 108, 102], [99, 104, 117, 110, 107, 83, 105, 122, 101]], 4, b_Uq),
 (148, [[115, 101, 108, 102], [100, 97, 116, 97]], 3, b_Ul),
 (163, [[115, 101, 108, 102], [99, 104, 97, 114]], 1, b_Uw),
 (261, [[115, 101, 108, 102], [115, 116, 114, 101, 97, 109], [112, 97, 114, 115, 101, 114]], 1, b_Tz),
 (654, [[115, 101, 108, 102]], 4, b_Ty),
 (661, [[115, 101, 108, 102]], 4, b_Tm),
 (668, [[115, 101, 108, 102]], 5, b_Tu),
 (675, [[115, 101, 108, 102]], 6, b_Tn),
 (682, [[115, 101, 108, 102]], 4, b_Tj),
 (689, [[115, 101, 108, 102]], 4, b_Tf),
 (696, [[115, 101, 108, 102]], 3, b_Tb),
 (703, [[115, 101, 108, 102]], 3, b_Tc),
 (710, [[115, 101, 108, 102]], 4, b_Th),
 (717, [[115, 101, 108, 102]], 4, b_Ta),
 (724, [[115, 101, 108, 102]], 4, b_Tk),
 (731, [[115, 101, 108, 102]], 4, b_Tg),
 (738, [[115, 101, 108, 102]], 3, b_Td),
 (745, [[115, 101, 108, 102]], 3, b_Te),
 (752, [[115, 101, 108, 102]], 4, b_Ti),
 (759, [[115, 101, 108, 102]], 2, b_Tr)]
noncomputable def fnsB (K : Frag) : Bool := fnTab.all fun x => fnB K x.1 x.2.1 x.2.2.1 x.2.2.2
theorem bo84 {K : Frag} (B : Binds K) : BindOk K 84 (([[99, 111, 100, 101, 112, 111, 105, 110, 116]] : List (List Nat)).map sOf) [1] := fun vals h => by
 obtain ⟨a0, rfl⟩ := vals1 h
 exact ⟨rfl, fun s X => BindsTo.of_eq (B.x84 a0)⟩
theorem bo774 {K : Frag} (B : Binds K) : BindOk K 774 (([] : List (List Nat)).map sOf) [0] := fun vals h => by
 rw [vals0 h]
 exact ⟨rfl, fun s X => BindsTo.of_eq B.x774⟩
theorem bo781 {K : Frag} (B : Binds K) : BindOk K 781 (([] : List (List Nat)).map sOf) [0] := fun vals h => by
 rw [vals0 h]
 exact ⟨rfl, fun s X => BindsTo.of_eq B.x781⟩
theorem bo788 {K : Frag} (B : Binds K) : BindOk K 788 (([] : List (List Nat)).map sOf) [0] := fun vals h => by
 rw [vals0 h]
 exact ⟨rfl, fun s X => BindsTo.of_eq B.x788⟩
theorem bo795 {K : Frag} (B : Binds K) : BindOk K 795 (([] : List (List Nat)).map sOf) [0] := fun vals h => by
 rw [vals0 h]
 exact ⟨rfl, fun s X => BindsTo.of_eq B.x795⟩
theorem bo803 {K : Frag} (B : Binds K) : BindOk K 803 (([] : List (List Nat)).map sOf) [0] := fun vals h => by
 rw [vals0 h]
 exact ⟨rfl, fun s X => BindsTo.of_eq B.x803⟩
theorem bo810 {K : Frag} (B : Binds K) : BindOk K 810 (([] : List (List Nat)).map sOf) [0] := fun vals h => by
 rw [vals0 h]
 exact ⟨rfl, fun s X => BindsTo.of_eq B.x810⟩
theorem bo817 {K : Frag} (B : Binds K) : BindOk K 817 (([[116, 101, 120, 116]] : List (List Nat)).map sOf) [1] := fun vals h => by
 obtain ⟨a0, rfl⟩ := vals1 h
 exact ⟨rfl, fun s X => BindsTo.of_eq (B.x817 a0)⟩
theorem bo829 {K : Frag} (B : Binds K) : BindOk K 829 (([[116, 101, 120, 116], [115, 116, 111, 112], [115, 116, 97, 116, 101]] : List (List Nat)).map sOf) [3] := fun vals h => by
 obtain ⟨a0, a1, a2, rfl⟩ := vals3 h
 exact ⟨rfl, fun s X => BindsTo.of_eq (B.x829 a0 a1 a2)⟩
theorem bo836 {K : Frag} (B : Binds K) : BindOk K 836 (([[116, 101, 120, 116], [112, 108, 97, 99, 101], [115, 116, 97, 116, 101], [112, 97, 114, 116]] : List (List Nat)).map sOf) [4] := fun vals h => by
 obtain ⟨a0, a1, a2, a3, rfl⟩ := vals4 h
 exact ⟨rfl, fun s X => BindsTo.of_eq (B.x836 a0 a1 a2 a3)⟩
theorem bo843 {K : Frag} (B : Binds K) : BindOk K 843 (([[116], [115, 116, 97, 116, 101]] : List (List Nat)).map sOf) [2] := fun vals h => by
 obtain ⟨a0, a1, rfl⟩ := vals2 h
 exact ⟨rfl, fun s X => BindsTo.of_eq (B.x843 a0 a1)⟩
theorem bo850 {K : Frag} (B : Binds K) : BindOk K 850 (([[112, 97, 114, 116]] : List (List Nat)).map sOf) [1] := fun vals h => by
 obtain ⟨a0, rfl⟩ := vals1 h
 exact ⟨rfl, fun s X => BindsTo.of_eq (B.x850 a0)⟩
theorem bo857 {K : Frag} (B : Binds K) : BindOk K 857 (([[116], [116, 101, 120, 116], [109, 97, 114, 107, 115], [112, 108, 97, 99, 101], [102, 105, 114, 115, 116], [112, 97, 114, 116]] : List (List Nat)).map sOf) [6] := fun vals h => by
 obtain ⟨a0, a1, a2, a3, a4, a5, rfl⟩ := vals6 h
 exact ⟨rfl, fun s X => BindsTo.of_eq (B.x857 a0 a1 a2 a3 a4 a5)⟩
theorem bo63 {K : Frag} (B : Binds K) : BindOk K 63 (([[115, 101, 108, 102], [116, 101, 120, 116]] : List (List Nat)).map sOf) [2] := fun vals h => by
 obtain ⟨a0, a1, rfl⟩ := vals2 h
 exact ⟨rfl, fun s X => BindsTo.of_eq (B.x63 a0 a1)⟩
theorem bo70 {K : Frag} (B : Binds K) : BindOk K 70 (([[115, 101, 108, 102], [115, 105, 122, 101]] : List (List Nat)).map sOf) [2] := fun vals h => by
 obtain ⟨a0, a1, rfl⟩ := vals2 h
 exact ⟨rfl, fun s X => BindsTo.of_eq (B.x70 a0 a1)⟩
theorem bo98 {K : Frag} (B : Binds K) : BindOk K 98 (([[115, 101, 108, 102], [115, 111, 117, 114, 99, 101]] : List (List Nat)).map sOf) [2] := fun vals h => by
 obtain ⟨a0, a1, rfl⟩ := vals2 h
 exact ⟨rfl, fun s X => BindsTo.of_eq (B.x98 a0 a1)⟩
theorem bo105 {K : Frag} (B : Binds K) : BindOk K 105 (([[115, 101, 108, 102]] : List (List Nat)).map sOf) [1] := fun vals h => by
 obtain ⟨a0, rfl⟩ := vals1 h
 exact ⟨rfl, fun s X => BindsTo.of_eq (B.x105 a0)⟩
theorem bo112 {K : Frag} (B : Binds K) : BindOk K 112 (([[115, 101, 108, 102], [115, 111, 117, 114, 99, 101]] : List (List Nat)).map sOf) [2] := fun vals h => by
 obtain ⟨a0, a1, rfl⟩ := vals2 h
 exact ⟨rfl, fun s X => BindsTo.of_eq (B.x112 a0 a1)⟩
theorem bo119 {K : Frag} (B : Binds K) : BindOk K 119 (([[115, 101, 108, 102], [111, 102, 102, 115, 101, 116]] : List (List Nat)).map sOf) [2] := fun vals h => by
 obtain ⟨a0, a1, rfl⟩ := vals2 h
 exact ⟨rfl, fun s X => BindsTo.of_eq (B.x119 a0 a1)⟩
theorem bo126 {K : Frag} (B : Binds K) : BindOk K 126 (([[115, 101, 108, 102]] : List (List Nat)).map sOf) [1] := fun vals h => by
 obtain ⟨a0, rfl⟩ := vals1 h
 exact ⟨rfl, fun s X => BindsTo.of_eq (B.x126 a0)⟩
theorem bo133 {K : Frag} (B : Binds K) : BindOk K 133 (([[115, 101, 108, 102]] : List (List Nat)).map sOf) [1] := fun vals h => by
 obtain ⟨a0, rfl⟩ := vals1 h
 exact ⟨rfl, fun s X => BindsTo.of_eq (B.x133 a0)⟩
theorem bo148 {K : Frag} (B : Binds K) : BindOk K 148 (([[115, 101, 108, 102], [100, 97, 116, 97]] : List (List Nat)).map sOf) [2] := fun vals h => by
 obtain ⟨a0, a1, rfl⟩ := vals2 h
 exact ⟨rfl, fun s X => BindsTo.of_eq (B.x148 a0 a1)⟩
theorem bo163 {K : Frag} (B : Binds K) : BindOk K 163 (([[115, 101, 108, 102], [99, 104, 97, 114]] : List (List Nat)).map sOf) [2] := fun vals h => by
 obtain ⟨a0, a1, rfl⟩ := vals2 h
 exact ⟨rfl, fun s X => BindsTo.of_eq (B.x163 a0 a1)⟩
theorem bo654 {K : Frag} (B : Binds K) : BindOk K 654 (([[115, 101, 108, 102]] : List (List Nat)).map sOf) [1] := fun vals h => by
 obtain ⟨a0, rfl⟩ := vals1 h
 exact ⟨rfl, fun s X => BindsTo.of_eq (B.x654 a0)⟩
theorem bo661 {K : Frag} (B : Binds K) : BindOk K 661 (([[115, 101, 108, 102]] : List (List Nat)).map sOf) [1] := fun vals h => by
 obtain ⟨a0, rfl⟩ := vals1 h
 exact ⟨rfl, fun s X => BindsTo.of_eq (B.x661 a0)⟩
theorem bo668 {K : Frag} (B : Binds K) : BindOk K 668 (([[115, 101, 108, 102]] : List (List Nat)).map sOf) [1] := fun vals h => by
 obtain ⟨a0, rfl⟩ := vals1 h
 exact ⟨rfl, fun s X => BindsTo.of_eq (B.x668 a0)⟩
theorem bo675 {K : Frag} (B : Binds K) : BindOk K 675 (([[115, 101, 108, 102]] : List (List Nat)).map sOf) [1] := fun vals h => by
 obtain ⟨a0, rfl⟩ := vals1 h
 exact ⟨rfl, fun s X => BindsTo.of_eq (B.x675 a0)⟩
theorem bo682 {K : Frag} (B : Binds K) : BindOk K 682 (([[115, 101, 108, 102]] : List (List Nat)).map sOf) [1] := fun vals h => by
 obtain ⟨a0, rfl⟩ := vals1 h
 exact ⟨rfl, fun s X => BindsTo.of_eq (B.x682 a0)⟩
theorem bo689 {K : Frag} (B : Binds K) : BindOk K 689 (([[115, 101, 108, 102]] : List (List Nat)).map sOf) [1] := fun vals h => by
 obtain ⟨a0, rfl⟩ := vals1 h
 exact ⟨rfl, fun s X => BindsTo.of_eq (B.x689 a0)⟩
theorem bo696 {K : Frag} (B : Binds K) : BindOk K 696 (([[115, 101, 108, 102]] : List (List Nat)).map sOf) [1] := fun vals h => by
 obtain ⟨a0, rfl⟩ := vals1 h
 exact ⟨rfl, fun s X => BindsTo.of_eq (B.x696 a0)⟩
theorem bo703 {K : Frag} (B : Binds K) : BindOk K 703 (([[115, 101, 108, 102]] : List (List Nat)).map sOf) [1] := fun vals h => by
 obtain ⟨a0, rfl⟩ := vals1 h
 exact ⟨rfl, fun s X => BindsTo.of_eq (B.x703 a0)⟩
theorem bo710 {K : Frag} (B : Binds K) : BindOk K 710 (([[115, 101, 108, 102]] : List (List Nat)).map sOf) [1] := fun vals h => by
 obtain ⟨a0, rfl⟩ := vals1 h
 exact ⟨rfl, fun s X => BindsTo.of_eq (B.x710 a0)⟩
theorem bo717 {K : Frag} (B : Binds K) : BindOk K 717 (([[115, 101, 108, 102]] : List (List Nat)).map sOf) [1] := fun vals h => by
 obtain ⟨a0, rfl⟩ := vals1 h
 exact ⟨rfl, fun s X => BindsTo.of_eq (B.x717 a0)⟩
theorem bo724 {K : Frag} (B : Binds K) : BindOk K 724 (([[115, 101, 108, 102]] : List (List Nat)).map sOf) [1] := fun vals h => by
 obtain ⟨a0, rfl⟩ := vals1 h
 exact ⟨rfl, fun s X => BindsTo.of_eq (B.x724 a0)⟩
theorem bo731 {K : Frag} (B : Binds K) : BindOk K 731 (([[115, 101, 108, 102]] : List (List Nat)).map sOf) [1] := fun vals h => by
 obtain ⟨a0, rfl⟩ := vals1 h
 exact ⟨rfl, fun s X => BindsTo.of_eq (B.x731 a0)⟩
theorem bo738 {K : Frag} (B : Binds K) : BindOk K 738 (([[115, 101, 108, 102]] : List (List Nat)).map sOf) [1] := fun vals h => by
 obtain ⟨a0, rfl⟩ := vals1 h
 exact ⟨rfl, fun s X => BindsTo.of_eq (B.x738 a0)⟩
theorem bo745 {K : Frag} (B : Binds K) : BindOk K 745 (([[115, 101, 108, 102]] : List (List Nat)).map sOf) [1] := fun vals h => by
 obtain ⟨a0, rfl⟩ := vals1 h
 exact ⟨rfl, fun s X => BindsTo.of_eq (B.x745 a0)⟩
theorem bo752 {K : Frag} (B : Binds K) : BindOk K 752 (([[115, 101, 108, 102]] : List (List Nat)).map sOf) [1] := fun vals h => by
 obtain ⟨a0, rfl⟩ := vals1 h
 exact ⟨rfl, fun s X => BindsTo.of_eq (B.x752 a0)⟩
theorem bo759 {K : Frag} (B : Binds K) : BindOk K 759 (([[115, 101, 108, 102]] : List (List Nat)).map sOf) [1] := fun vals h => by
 obtain ⟨a0, rfl⟩ := vals1 h
 exact ⟨rfl, fun s X => BindsTo.of_eq (B.x759 a0)⟩
theorem bo141 {K : Frag} (B : Binds K) : BindOk K 141 (([[115, 101, 108, 102], [99, 104, 117, 110, 107, 83, 105, 122, 101]] : List (List Nat)).map sOf) [1, 2] := fun vals h => by
 rcases List.mem_cons.mp h with h | h
 ·obtain ⟨a0, rfl⟩ := vals1 (List.mem_singleton.mpr h)
  exact ⟨rfl, fun s X => kp_binds X (B.z141a a0)⟩
 ·obtain ⟨a0, a1, rfl⟩ := vals2 h
  exact ⟨rfl, fun s X => kp_binds X (B.z141b a0 a1)⟩
theorem bo261 {K : Frag} (B : Binds K) : BindOk K 261 (([[115, 101, 108, 102], [115, 116, 114, 101, 97, 109], [112, 97, 114, 115, 101, 114]] : List (List Nat)).map sOf) [2] := fun vals h => by
 obtain ⟨a0, a1, rfl⟩ := vals2 h
 exact ⟨rfl, fun s X => kp_binds X (B.z261 a0 a1)⟩
structure Tops (Y : Sys) : Prop extends Base Y where
 fns : fnsB Y.K = true
 binds : Binds Y.K
 low : FnOk Y 1 42 lowFn
 small : FnOk Y 1 822 lowFn
 m73 : makesIn Y.K 73 = true ∧ findIn Y.K (.ref 73) "__init__" = some (some (.ref 63)) ∧ typeIn Y.K (.ref 63) = some (.type "function")
 m166 : makesIn Y.K 166 = true ∧ findIn Y.K (.ref 166) "__init__" = some (some (.ref 98)) ∧ typeIn Y.K (.ref 98) = some (.type "function")
 m762 : makesIn Y.K 762 = true ∧ findIn Y.K (.ref 762) "__init__" = some (some (.ref 261)) ∧ typeIn Y.K (.ref 261) = some (.type "function")
section
variable {Y : Sys} (H : Tops Y)
include H
theorem at_fn {i : Nat} {f : Addr} {ps : List (List Nat)} {nl : Nat} {body : List PS} (h : fnTab[i]? = some (f, ps, nl, body)) : fnB Y.K f ps nl body = true := List.all_eq_true.mp H.fns _ (List.mem_of_getElem? h)
theorem tab_of {d : Nat} {fns : List (Addr × Fn)} (h : AllOk Y d fns) : TabOk Y (tabOf fns) d := tab_ok H.toBase fun f p e => h _ (lookup_mem2 e)
theorem TI0_all : AllOk Y 0 TI0.fns := AllOk.nil
theorem TI0_ok : TabOk Y TI0 0 := tab_of H (TI0_all H)
theorem k_Text___init__ : FnOk Y 1 63 f_Text___init__ := mk_fn H.ok (TI0_ok H) (at_fn H (i := 13) (by rfl)) (bo63 H.binds)
theorem k_Text_read : FnOk Y 1 70 f_Text_read := mk_fn H.ok (TI0_ok H) (at_fn H (i := 14) (by rfl)) (bo70 H.binds)
theorem k__is_invalid : FnOk Y 1 84 f__is_invalid := mk_fn H.ok (TI0_ok H) (at_fn H (i := 0) (by rfl)) (bo84 H.binds)
theorem k_Uv : FnOk Y 1 105 f_Uv := mk_fn H.ok (TI0_ok H) (at_fn H (i := 16) (by rfl)) (bo105 H.binds)
theorem k_Up : FnOk Y 1 119 f_Up := mk_fn H.ok (TI0_ok H) (at_fn H (i := 18) (by rfl)) (bo119 H.binds)
theorem TI1_all : AllOk Y 1 TI1.fns := AllOk.cons ((k_Text___init__ H).up (by decide)) (by decide) (AllOk.cons ((k_Text_read H).up (by decide)) (by decide) (AllOk.cons ((k__is_invalid H).up (by decide)) (by decide) (AllOk.cons ((k_Uv H).up (by decide)) (by decide) (AllOk.cons ((k_Up H).up (by decide)) (by decide) ((TI0_all H).up (by decide))))))
theorem TI1_ok : TabOk Y TI1 1 := tab_of H (TI1_all H)
theorem k_Ul : FnOk Y 2 148 f_Ul := mk_fn H.ok (TI1_ok H) (at_fn H (i := 22) (by rfl)) (bo148 H.binds)
theorem k_Text : FnOk Y 2 73 c_Text := class_ok H.ok (k_Text___init__ H) H.m73.1 H.m73.2.1 H.m73.2.2
theorem TI2_all : AllOk Y 2 TI2.fns := AllOk.cons ((k_Ul H).up (by decide)) (by decide) (AllOk.cons (k_Text H) (by decide) ((TI1_all H).up (by decide)))
theorem TI2_ok : TabOk Y TI2 2 := tab_of H (TI2_all H)
theorem k_Uo : FnOk Y 3 112 f_Uo := mk_fn H.ok (TI2_ok H) (at_fn H (i := 17) (by rfl)) (bo112 H.binds)
theorem k_Uq : FnOk Y 3 141 f_Uq := mk_fn H.ok (TI2_ok H) (at_fn H (i := 21) (by rfl)) (bo141 H.binds)
theorem TI3_all : AllOk Y 3 TI3.fns := AllOk.cons ((k_Uo H).up (by decide)) (by decide) (AllOk.cons ((k_Uq H).up (by decide)) (by decide) ((TI2_all H).up (by decide)))
theorem TI3_ok : TabOk Y TI3 3 := tab_of H (TI3_all H)
theorem k_Us : FnOk Y 4 98 f_Us := mk_fn H.ok (TI3_ok H) (at_fn H (i := 15) (by rfl)) (bo98 H.binds)
theorem k_Ux : FnOk Y 4 133 f_Ux := mk_fn H.ok (TI3_ok H) (at_fn H (i := 20) (by rfl)) (bo133 H.binds)
theorem k_Uw : FnOk Y 4 163 f_Uw := mk_fn H.ok (TI3_ok H) (at_fn H (i := 23) (by rfl)) (bo163 H.binds)
theorem k_Ut : FnOk Y 4 126 f_Ut := mk_fn H.ok (TI3_ok H) (at_fn H (i := 19) (by rfl)) (bo126 H.binds)
theorem k_Strm : FnOk Y 5 166 c_Strm := class_ok H.ok (k_Us H) H.m166.1 H.m166.2.1 H.m166.2.2
theorem p_make : FnOk Y 5 166 sMake := make_ok (k_Strm H) (prim_make H.cS H.cT H.fE)
theorem p_char : FnOk Y 4 133 sChar := prim_ok (k_Ux H) (prim_char H.cS H.cT H.fE)
theorem p_unget : FnOk Y 4 163 sUnget := prim_ok (k_Uw H) (prim_unget H.cS H.cT H.fE)
theorem p_position : FnOk Y 4 126 sPos := prim_ok (k_Ut H) (prim_pos H.cS H.cT H.fE)
theorem p_readChunk : FnOk Y 3 141 sRead := prim_ok (k_Uq H) (prim_read H.cS H.cT H.fE)
theorem k_law_NAMES : FnOk Y 1 774 f_law_NAMES := mk_fn H.ok (TI0_ok H) (at_fn H (i := 1) (by rfl)) (bo774 H.binds)
theorem k_law_PUBLICS : FnOk Y 1 781 f_law_PUBLICS := mk_fn H.ok (TI0_ok H) (at_fn H (i := 2) (by rfl)) (bo781 H.binds)
theorem k_law_SYSTEMS : FnOk Y 1 788 f_law_SYSTEMS := mk_fn H.ok (TI0_ok H) (at_fn H (i := 3) (by rfl)) (bo788 H.binds)
theorem k_law_KEEPS : FnOk Y 1 795 f_law_KEEPS := mk_fn H.ok (TI0_ok H) (at_fn H (i := 4) (by rfl)) (bo795 H.binds)
theorem k_law_SHUT : FnOk Y 1 803 f_law_SHUT := mk_fn H.ok (TI0_ok H) (at_fn H (i := 5) (by rfl)) (bo803 H.binds)
theorem k_law_LOST : FnOk Y 1 810 f_law_LOST := mk_fn H.ok (TI0_ok H) (at_fn H (i := 6) (by rfl)) (bo810 H.binds)
theorem k_law_marks : FnOk Y 1 817 f_law_marks := mk_fn H.ok (TI0_ok H) (at_fn H (i := 7) (by rfl)) (bo817 H.binds)
theorem k_law_token : FnOk Y 1 850 f_law_token := mk_fn H.ok (TI0_ok H) (at_fn H (i := 11) (by rfl)) (bo850 H.binds)
theorem TO0_all : AllOk Y 5 TO0.fns := AllOk.cons (p_make H) (by decide) (AllOk.cons ((p_char H).up (by decide)) (by decide) (AllOk.cons ((p_unget H).up (by decide)) (by decide) (AllOk.cons ((p_position H).up (by decide)) (by decide) (AllOk.cons ((p_readChunk H).up (by decide)) (by decide) (AllOk.cons (H.low.up (by decide)) (by decide) (AllOk.cons (H.small.up (by decide)) (by decide) (AllOk.cons ((k_law_NAMES H).up (by decide)) (by decide) (AllOk.cons ((k_law_PUBLICS H).up (by decide)) (by decide) (AllOk.cons ((k_law_SYSTEMS H).up (by decide)) (by decide) (AllOk.cons ((k_law_KEEPS H).up (by decide)) (by decide) (AllOk.cons ((k_law_SHUT H).up (by decide)) (by decide) (AllOk.cons ((k_law_LOST H).up (by decide)) (by decide) (AllOk.cons ((k_law_marks H).up (by decide)) (by decide) (AllOk.cons ((k_law_token H).up (by decide)) (by decide) (AllOk.nil)))))))))))))))
theorem TO0_ok : TabOk Y TO0 5 := tab_of H (TO0_all H)
theorem k_Ty : FnOk Y 6 654 f_Ty := mk_fn H.ok (TO0_ok H) (at_fn H (i := 25) (by rfl)) (bo654 H.binds)
theorem k_Tm : FnOk Y 6 661 f_Tm := mk_fn H.ok (TO0_ok H) (at_fn H (i := 26) (by rfl)) (bo661 H.binds)
theorem k_Tu : FnOk Y 6 668 f_Tu := mk_fn H.ok (TO0_ok H) (at_fn H (i := 27) (by rfl)) (bo668 H.binds)
theorem k_Tn : FnOk Y 6 675 f_Tn := mk_fn H.ok (TO0_ok H) (at_fn H (i := 28) (by rfl)) (bo675 H.binds)
theorem k_Tj : FnOk Y 6 682 f_Tj := mk_fn H.ok (TO0_ok H) (at_fn H (i := 29) (by rfl)) (bo682 H.binds)
theorem k_Tf : FnOk Y 6 689 f_Tf := mk_fn H.ok (TO0_ok H) (at_fn H (i := 30) (by rfl)) (bo689 H.binds)
theorem k_Tb : FnOk Y 6 696 f_Tb := mk_fn H.ok (TO0_ok H) (at_fn H (i := 31) (by rfl)) (bo696 H.binds)
theorem k_Tc : FnOk Y 6 703 f_Tc := mk_fn H.ok (TO0_ok H) (at_fn H (i := 32) (by rfl)) (bo703 H.binds)
theorem k_Th : FnOk Y 6 710 f_Th := mk_fn H.ok (TO0_ok H) (at_fn H (i := 33) (by rfl)) (bo710 H.binds)
theorem k_Ta : FnOk Y 6 717 f_Ta := mk_fn H.ok (TO0_ok H) (at_fn H (i := 34) (by rfl)) (bo717 H.binds)
theorem k_Tk : FnOk Y 6 724 f_Tk := mk_fn H.ok (TO0_ok H) (at_fn H (i := 35) (by rfl)) (bo724 H.binds)
theorem k_Tg : FnOk Y 6 731 f_Tg := mk_fn H.ok (TO0_ok H) (at_fn H (i := 36) (by rfl)) (bo731 H.binds)
theorem k_Td : FnOk Y 6 738 f_Td := mk_fn H.ok (TO0_ok H) (at_fn H (i := 37) (by rfl)) (bo738 H.binds)
theorem k_Te : FnOk Y 6 745 f_Te := mk_fn H.ok (TO0_ok H) (at_fn H (i := 38) (by rfl)) (bo745 H.binds)
theorem k_Ti : FnOk Y 6 752 f_Ti := mk_fn H.ok (TO0_ok H) (at_fn H (i := 39) (by rfl)) (bo752 H.binds)
theorem k_Tr : FnOk Y 6 759 f_Tr := mk_fn H.ok (TO0_ok H) (at_fn H (i := 40) (by rfl)) (bo759 H.binds)
theorem k_law_leave : FnOk Y 6 829 f_law_leave := mk_fn H.ok (TO0_ok H) (at_fn H (i := 8) (by rfl)) (bo829 H.binds)
theorem k_Tz : FnOk Y 6 261 f_Tz := mk_fn H.ok (TO0_ok H) (at_fn H (i := 24) (by rfl)) (bo261 H.binds)
theorem TO1_all : AllOk Y 6 TO1.fns := AllOk.cons ((k_Ty H).up (by decide)) (by decide) (AllOk.cons ((k_Tm H).up (by decide)) (by decide) (AllOk.cons ((k_Tu H).up (by decide)) (by decide) (AllOk.cons ((k_Tn H).up (by decide)) (by decide) (AllOk.cons ((k_Tj H).up (by decide)) (by decide) (AllOk.cons ((k_Tf H).up (by decide)) (by decide) (AllOk.cons ((k_Tb H).up (by decide)) (by decide) (AllOk.cons ((k_Tc H).up (by decide)) (by decide) (AllOk.cons ((k_Th H).up (by decide)) (by decide) (AllOk.cons ((k_Ta H).up (by decide)) (by decide) (AllOk.cons ((k_Tk H).up (by decide)) (by decide) (AllOk.cons ((k_Tg H).up (by decide)) (by decide) (AllOk.cons ((k_Td H).up (by decide)) (by decide) (AllOk.cons ((k_Te H).up (by decide)) (by decide) (AllOk.cons ((k_Ti H).up (by decide)) (by decide) (AllOk.cons ((k_Tr H).up (by decide)) (by decide) (AllOk.cons (viaF_ok (k_law_leave H)) (by decide) ((TO0_all H).up (by decide))))))))))))))))))
theorem TO1_ok : TabOk Y TO1 6 := tab_of H (TO1_all H)
theorem k_law_plan : FnOk Y 7 836 f_law_plan := mk_fn H.ok (TO1_ok H) (at_fn H (i := 9) (by rfl)) (bo836 H.binds)
theorem k_law_call : FnOk Y 7 843 f_law_call := mk_fn H.ok (TO1_ok H) (at_fn H (i := 10) (by rfl)) (bo843 H.binds)
theorem TO2_all : AllOk Y 7 TO2.fns := AllOk.cons (viaF_ok (k_law_plan H)) (by decide) (AllOk.cons (viaF_ok (k_law_call H)) (by decide) ((TO1_all H).up (by decide)))
theorem TO2_ok : TabOk Y TO2 7 := tab_of H (TO2_all H)
theorem k_law_run : FnOk Y 8 857 f_law_run := mk_fn H.ok (TO2_ok H) (at_fn H (i := 12) (by rfl)) (bo857 H.binds)
theorem k_Tok : FnOk Y 7 762 c_Tok := class_ok H.ok (k_Tz H) H.m762.1 H.m762.2.1 H.m762.2.2
theorem TO3_all : AllOk Y 8 TO3.fns := AllOk.cons (viaF_ok (k_law_run H)) (by decide) (AllOk.cons ((k_Tok H).up (by decide)) (by decide) ((TO2_all H).up (by decide)))
theorem TO3_ok : TabOk Y TO3 8 := tab_of H (TO3_all H)
end
section
variable {prog : Program} {w : World} {A : Around} {E : Value → Shared → Prop} {s : Shared} {env : Env}
noncomputable def TurnC (C : Addr) (P : Value → Prop) (s : Shared) (y : Value) (s' : Shared) : Prop := P y ∧ ∃ h' tk m, s' = { s with heap := h', toks := tk } ∧ h'.Ns C m ∧ ∀ b o, b ≠ C → s.heap.get? b = some o → h'.get? b = some o
noncomputable def Kept (C D : Addr) (wr : List Addr) (h h' : Heap) : Prop := ∀ b o, b ≠ C → b ∉ wr → b ≠ D → h.get? b = some o → h'.get? b = some o
inductive CInv (s : Shared) (C D : Addr) (wr : List Addr) (n : Nat) (St : Nat → Heap → Prop) (F : Nat → Value → Prop) : Nat → Shared → Prop
 | mk {h' : Heap} {tk : Tok} {m' : Str → Option Value} {ys : Array Value} {k : Nat} (hst : St ys.size h') (hacc : h'.PlainList D ys) (hn : h'.Ns C m') (hF : ∀ (j : Nat) y, ys[j]? = some y → F j y) (hi : ys.size ≤ n) (e : k = n + 1 - ys.size) (hk : Kept C D wr s.heap h') : CInv s C D wr n St F k { s with heap := h', toks := tk }
theorem push_at {F : Nat → Value → Prop} {ys : Array Value} {y : Value} (h : ∀ (j : Nat) z, ys[j]? = some z → F j z) (hy : F ys.size y) : ∀ (j : Nat) z, (ys.push y)[j]? = some z → F j z := by
 intro j z hj
 rw [Array.getElem?_push] at hj
 by_cases q : j = ys.size
 ·rw [if_pos q] at hj; cases hj; exact q ▸ hy
 ·rw [if_neg q] at hj; exact h j z hj
theorem lt_left {n k : Nat} (h : k < n) : n + 1 - (k + 1) < n + 1 - k := Nat.sub_lt_sub_left (Nat.lt_succ_of_lt h) (Nat.lt_succ_self k)
theorem compLoopC {elt iter : PySem.Expr} {x : Str} {px : Pos} {scope : Scope} {pos : Pos} {I D : Addr} {fp wr : List Addr} {n : Nat} {P : Nat → Value → Prop} {St : Nat → Heap → Prop} {cenv : Env} {m : Str → Option Value} {R : Result → Shared → Prop}
  (W : Walks prog w A I fp wr n P St) (F : Nat → Value → Prop)
  (hx : cenv.kindOf x = some .local) (hp : (cenv.scope.kind == .class || (cenv.scope.kind == .module && cenv.locals != cenv.globals)) = false)
  (hDC : D ≠ cenv.locals) (hDf : D ∉ fp) (hCf : cenv.locals ∉ fp) (hst : St 0 s.heap) (hacc : s.heap.PlainList D #[]) (hn : s.heap.Ns cenv.locals m)
  (helt : ∀ i v s₂ m₂ (E' : Value → Shared → Prop), i < n → P i v → s₂.heap.Ns cenv.locals m₂ → m₂ x = some v → Kept cenv.locals D wr s.heap s₂.heap → 0 < s₂.toks →
   wpAny (model prog w) A (eval elt cenv) (TurnC cenv.locals (F i) s₂) E' s₂)
  (hR : ∀ h' tk m' ys, h'.Ns cenv.locals m' → h'.IsList D ys → ys.size = n → (∀ (j : Nat) y, ys[j]? = some y → F j y) → Kept cenv.locals D wr s.heap h' → R (.ok .next) { s with heap := h', toks := tk })
  (hsz : n ≤ sizeLine) :
  codeAny (model prog w) A (.compLoop (.ListComp elt [⟨.Name x px, iter, [], 0⟩] scope pos) 0 (.ref I) (.ref D) cenv) R s := by
 refine codeAny_compLoop_list (CInv s cenv.locals D wr n St F) ?_ (n + 1) (.mk (ys := #[]) hst hacc hn (fun j y e => by cases e) (Nat.zero_le _) rfl fun _ _ _ _ _ e => e)
 intro k s' h
 cases h with
 | @mk H tk m' ys k hst' hacc' hn' hF hi ek hk =>
 have hCw : cenv.locals ∉ wr := fun h => hCf (W.sub _ h)
 have hDw : D ∉ wr := fun h => hDf (W.sub _ h)
 cases Nat.lt_or_eq_of_le hi with
 | inl hlt =>
  refine W.item ys.size _ _ _ hlt hst' fun v h₁ tk₁ hPv hst₁ hk₁ => ?_
  refine wpAny_assign_Name (wpAny_storeName_local hx (hn'.at' fun o e => hk₁ _ o hCw e) (fun h₂ hn₂ hs₂ => ?_) hp)
  have k2 : Kept cenv.locals D wr H h₂ := fun b o hbC hbf _ e => hs₂.extBut b o hbC (hk₁ b o hbf e)
  refine wpAny_mono (helt ys.size v _ _ _ hlt hPv hn₂ (by simp) (fun b o hbC hbf hbD e => k2 b o hbC hbf hbD (hk b o hbC hbf hbD e)) (Nat.succ_pos _)) (fun y s₄ h₄ => ?_) fun _ _ e => e
  obtain ⟨hFy, h₄, tk₄, m₄, rfl, hn₄, hk₄⟩ := h₄
  refine wpAny_list_append_plain (hsz := Nat.le_trans hi hsz) (hacc'.at fun o e => hk₄ _ o hDC (hs₂.extBut D o hDC (hk₁ D o hDw e))) fun h₅ hl₅ hs₅ => ?_
  refine ⟨n + 1 - (ys.size + 1), ek ▸ lt_left hlt, .mk (ys := ys.push y) ?_ hl₅ (hn₄.sameBut hs₅ (Ne.symm hDC)) (push_at hF hFy) ?_ ?_ fun b o hbC hbf hbD e => hs₅.extBut b o hbD (hk₄ b o hbC (k2 b o hbC hbf hbD (hk b o hbC hbf hbD e)))⟩
  ·rw [Array.size_push]
   exact W.frame _ _ h₅ (W.frame _ _ _ hst₁ fun b hb o e => hs₂.extBut b o (fun h => hCf (h ▸ hb)) e) fun b hb o e => hs₅.extBut b o (fun h => hDf (h ▸ hb)) (hk₄ b o (fun h => hCf (h ▸ hb)) e)
  ·rw [Array.size_push]; exact hlt
  ·rw [Array.size_push]
 | inr hin =>
  refine W.done _ _ _ (hin ▸ hst') fun h₁ tk₁ hk₁ => ?_
  exact hR h₁ tk₁ m' ys (hn'.at' fun o e => hk₁ _ o hCw e) (hacc'.at fun o e => hk₁ _ o hDw e).isList hin hF fun b o hbC hbf hbD e => hk₁ b o hbf (hk b o hbC hbf hbD e)
inductive CompAt (prog : Program) (w : World) (A : Around) (elt : PySem.Expr) (x : Str) (scope : Scope) (env : Env) (Q : Value → Shared → Prop) : Value → Shared → Prop
 | mk {s₂ : Shared} {I : Addr} {fp wr : List Addr} {n : Nat} {P : Nat → Value → Prop} {St : Nat → Heap → Prop} (F : Nat → Value → Prop) (W : Walks prog w A I fp wr n P St) (hsz : n ≤ sizeLine) (hst : St 0 s₂.heap) (hfp : ∀ b ∈ fp, b < s₂.heap.objs.size)
   (hq : ∀ C i v s₃ m₃ (E' : Value → Shared → Prop), s₂.heap.objs.size ≤ C → i < n → P i v → s₃.heap.Ns C m₃ → m₃ x = some v → (∀ b o, b ∉ wr → s₂.heap.get? b = some o → s₃.heap.get? b = some o) → 0 < s₃.toks →
    wpAny (model prog w) A (eval elt (compEnvC scope [] C env)) (TurnC C (F i) s₃) E' s₃)
   (hQ : ∀ D h' tk ys, s₂.heap.get? D = none → h'.IsList D ys → ys.size = n → (∀ (j : Nat) y, ys[j]? = some y → F j y) → (∀ b o, b ∉ wr → s₂.heap.get? b = some o → h'.get? b = some o) → Q (.ref D) { s₂ with heap := h', toks := tk }) : CompAt prog w A elt x scope env Q (.ref I) s₂
theorem get_fresh {h : Heap} {b : Nat} (hb : h.objs.size ≤ b) : h.get? b = none := by
 cases e : h.get? b with
 | none => rfl
 | some o => exact absurd (Heap.lt_size e) (Nat.not_lt.mpr hb)
theorem list_compC {elt iter : PySem.Expr} {x : Str} {px : Pos} {scope : Scope} {pos : Pos} {Q : Value → Shared → Prop}
  (hclos : closureFor scope env = pure []) (hcell : ∀ y ∈ scope.names, y.2 ≠ .cell) (hkind : scope.kind = .function)
  (hnames : ∀ y ∈ scope.names, y.2 = .local → scope.names.lookup y.1 = some .local) (hx : scope.names.lookup x = some .local) (hs : ∀ y, foldedSetIterable iter env y = pure y)
  (h : wpAny (model prog w) A (eval iter env) (fun xv s₁ => wpAny (model prog w) A (pyIter xv) (CompAt prog w A elt x scope env Q) E s₁) E s) :
  wpAny (model prog w) A (eval (.ListComp elt [⟨.Name x px, iter, [], 0⟩] scope pos) env) Q E s := by
 rw [eval_ListComp]
 refine wpAny_comprehension_free (use := none) rfl hs hclos hkind hnames (wpAny_mono h (fun xv s₁ h₁ => wpAny_mono h₁ (fun it s₂ h₂ => ?_) fun _ _ e => e) fun _ _ e => e)
 cases h₂ with
 | @mk _ I fp wr n P St F W hsz hst hfp hq hQ =>
 refine wpAny_newObj_type (wpAny_newFunctionEnv hcell (by intro y hy; simp at hy) (fun h₁ hns₁ hsb₁ => ?_) hkind)
 dsimp only at hns₁ hsb₁ ⊢
 generalize hH2 : s₂.heap.push { cls := .type "list", dict := none, data := .seq ([] : List Value).toArray } = H2 at hns₁ hsb₁ ⊢
 have hC : H2.objs.size = s₂.heap.objs.size + 1 := by rw [← hH2, Heap.size_push]
 have hDC : s₂.heap.objs.size ≠ H2.objs.size := by rw [hC]; exact Nat.ne_of_lt (Nat.lt_succ_self _)
 have below : ∀ b, b < s₂.heap.objs.size → b ≠ H2.objs.size ∧ b ≠ s₂.heap.objs.size := fun b hb => ⟨by rw [hC]; exact Nat.ne_of_lt (Nat.lt_succ_of_lt hb), Nat.ne_of_lt hb⟩
 have hDf : s₂.heap.objs.size ∉ fp := fun hm => Nat.lt_irrefl _ (hfp _ hm)
 have hCf : H2.objs.size ∉ fp := fun hm => by have := hfp _ hm; rw [hC] at this; exact Nat.lt_irrefl _ (Nat.lt_of_succ_lt this)
 have old : ∀ b o, s₂.heap.get? b = some o → h₁.get? b = some o := fun b o e => hsb₁.extBut b o (below b (Heap.lt_size e)).1 (Heap.get?_push_of_some _ (hH2 ▸ Heap.get?_push_of_some _ e))
 have hst₁ : St 0 h₁ := W.frame _ _ _ hst fun b _ o e => old b o e
 have loop : codeAny (model prog w) A (.compLoop (.ListComp elt [⟨.Name x px, iter, [], 0⟩] scope pos) 0 (.ref I) (.ref s₂.heap.objs.size) (compEnvC scope [] H2.objs.size env))
    (compPost (model prog w) A E none Q (.ref s₂.heap.objs.size) H2.objs.size) { s₂ with heap := h₁, toks := s₂.toks + ([] : List (Str × Value)).length } :=
  compLoopC (hsz := hsz) (cenv := compEnvC scope [] H2.objs.size env) W F (lookup_relabel_local hx) (by simp [compEnvC, relabel, hkind]) hDC hDf hCf hst₁ ⟨_, hsb₁.extBut _ _ hDC (Heap.get?_push_of_some _ (hH2 ▸ Heap.get?_push_size _ rfl))⟩ hns₁
   (fun i v s₃ m₃ E' hi hv hn hm hk htk => hq _ i v s₃ m₃ E' (by rw [hC]; exact Nat.le_succ _) hi hv hn hm (fun b o hbf e => hk b o (below b (Heap.lt_size e)).1 hbf (below b (Heap.lt_size e)).2 (old b o e)) htk)
   fun h' tk m' ys hn ha hlen hF hk => ⟨m', hn, fun h'' hs'' => hQ _ h'' tk ys (get_fresh (Nat.le_refl _)) (ha.extBut hs''.extBut hDC) hlen hF fun b o hbf e => hs''.extBut b o (below b (Heap.lt_size e)).1 (hk b o (below b (Heap.lt_size e)).1 hbf (below b (Heap.lt_size e)).2 (old b o e))⟩
 exact codeAny_compStart_list loop (W.self 0 _ _ _ hst₁ loop)
end
theorem join_strs {prog : Program} {w : World} {A : Around} {E : Value → Shared → Prop} {s : Shared} {D : Addr} {ys : Array Value} {t : Tok} {Q : Value → Shared → Prop} {l : List (Str × Tok)} {ts : List (List Nat)} (h3 : s.heap.IsList D ys) (hy : ys.toList = strValues l) (hl : l.map (·.1) = ts.map sOf) (hfit : ts.flatten.length ≤ sizeLine)
  (K : ∀ t' tk, Q (.str (sOf ts.flatten) t') { s with toks := tk }) : wpAny (model prog w) A (call (.builtin "str.join") [.str (sOf []) t, .ref D]) Q E s := by
 have h3' : s.heap.IsList D (strValues l).toArray := by rw [← hy]; exact h3
 refine call_meets PySem.F.slot_str_join (typeIs_str _ _ _) PySem.F.entry_str_join (PySem.F.args_str_join_2 _ _) (meets_str_join_list (sOf []) t D l ?_) ⟨h3', ?_⟩
 ·rw [hl]
  have := sum_flat ts
  simp only [this]
  exact decide_eq_false (by exact Nat.not_lt.mpr hfit)
 ·have hg := glued_flat ts
  rw [← hl] at hg
  have big : (Made.str (sOf ts.flatten)).post (fun v s' => Q v s') s := ⟨by rw [sOf_len]; exact hfit, K _ _⟩
  unfold joinMade
  split
  ·rename_i p
   have e1 : p.1 = sOf ts.flatten := by
    rw [← hg]; simp [Builtin.Str.glued]
   show Q (.str p.1 p.2) s
   rw [e1]
   exact K _ s.toks
  ·rw [hg]; exact big
theorem strs_at {ts : List (List Nat)} : ∀ {ys : List Value}, ys.length = ts.length → (∀ (j : Nat) y, ys[j]? = some y → ∃ x t, ts[j]? = some x ∧ y = .str (sOf x) t) → ∃ l : List (Str × Tok), ys = strValues l ∧ l.map (·.1) = ts.map sOf := by
 induction ts with
 | nil => intro ys h _; cases List.length_eq_zero_iff.mp h; exact ⟨[], rfl, rfl⟩
 | cons a r ih =>
  intro ys h hy
  match ys, h with
  | y :: ys, h =>
   obtain ⟨l, e1, e2⟩ := ih (ys := ys) (by simpa using h) fun j z hz => hy (j + 1) z (by simpa using hz)
   obtain ⟨x, t, q1, q2⟩ := hy 0 y rfl
   cases q1
   exact ⟨(sOf a, t) :: l, by rw [q2, e1]; rfl, by simp [e2]⟩
noncomputable def gC (C : Addr) : G := ⟨[], fun b => if b = C then .other else .free⟩
section
variable {Y : Sys} {T : Tab} {d : Nat} {names cn : List (Str × NameKind)} {L : Addr} {loc : Loc} {ob : List AObj} {s0 s : Shared} {g : G} {A : Around} {E : Value → Shared → Prop} {env : Env} {Q : Value → Shared → Prop}
theorem block_rs {C : Addr} {m : Str → Option Value} (keep : ∀ b o, Y.hb.get? b = some o → s.heap.get? b = some o) (hC : Y.hb.get? C = none) (hn : s.heap.Ns C m) (hv : ∀ (k : Nat) (x : Str) (a : AV), cn[k]? = some (x, NameKind.local) → loc[k]? = some (some a) → ∃ v, m x = some v ∧ RelV s.heap (gC C) a v) (hp : 0 < s.toks) : RS Y (gC C) C cn loc [] s s := by
 refine ⟨⟨keep, fun b o e => if_neg (by rintro rfl; rw [hC] at e; cases e), rfl, (fun i o e => by cases e), fun b q => ?_, rfl, rfl, rfl, hp⟩, if_pos rfl, m, hn, hv⟩
 by_cases hb : b = C
 ·subst hb
  obtain ⟨o, _, _, e, _⟩ := hn
  exact ⟨o, e⟩
 ·exact absurd (if_neg hb) q
theorem turn_sound (O : Y.Ok) (TO : TabOk Y T d) {elt : PySem.Expr} {pe : PE} {scope : Scope} {C : Addr} {x : Str} {a : AV} {v : Value} {f : List Nat} {obs : List Nat} {m : Str → Option Value}
  (ok : okE cn T.globs 20 pe elt = true) (hF : Fr1 (compEnvC scope [] C env) C cn) (hD : Deep d A) (keep : ∀ b o, Y.hb.get? b = some o → s.heap.get? b = some o) (hC : Y.hb.get? C = none) (hn : s.heap.Ns C m) (hm : m x = some v) (hp : 0 < s.toks)
  (hc : ∃ y r, cn = (y, .local) :: (x, .local) :: r) (ha : ∀ h g, RelV h g a v) (he : ev T 20 pe [none, some a] [] = some ((.str f, []), obs)) (fit : Fits obs) :
  wpAny (model Y.prog Y.w) A (eval elt (compEnvC scope [] C env)) (TurnC C (fun y => ∃ t, y = .str (sOf f) t) s) E s := by
 obtain ⟨y, r, hc⟩ := hc
 refine (ev_tv_sound O TO 20).1 20 pe elt [none, some a] [] _ _ obs he ok fit A _ C (gC C) s s _ E hF hD (block_rs keep hC hn (fun k z b q1 q2 => ?_) hp) fun g' s' val R' go rv => ?_
 ·match k with
  | 0 => cases q2
  | 1 => cases q2; rw [hc] at q1; cases q1; exact ⟨v, hm, ha _ _⟩
  | k + 2 => cases q2
 ·replace rv := rvS rv
  obtain ⟨t, rfl⟩ := rv
  obtain ⟨m', n', _⟩ := R'.ns
  refine ⟨⟨t, rfl⟩, s'.heap, s'.toks, m', ?_, n', fun b o hb e => (go.free b o e (if_neg hb) (fun q => hb (Option.some.inj q).symm)).2⟩
  have h1 := R'.gens
  have h2 := R'.os
  have h3 := R'.drawn
  obtain ⟨hh, hg, hdr, ht, ho⟩ := s'
  dsimp only at h1 h2 h3 ⊢
  subst h1 h2 h3
  rfl
inductive IterAt (Y : Sys) (A : Around) (s : Shared) (as : List AV) : Value → Shared → Prop
 | mk {I : Addr} {fp wr : List Addr} {P : Nat → Value → Prop} {St : Nat → Heap → Prop} {h₂ : Heap} {tk₂ : Tok} (hk : ∀ b o, s.heap.get? b = some o → h₂.get? b = some o) (W : Walks Y.prog Y.w A I fp wr as.length P St) (hst : St 0 h₂) (hfp : ∀ b ∈ fp, b < h₂.objs.size) (hwr : ∀ b ∈ wr, s.heap.get? b = none)
   (hrel : ∀ (i : Nat) v, P i v → ∀ a, as[i]? = some a → ∀ h g, RelV h g a v) : IterAt Y A s as (.ref I) { s with heap := h₂, toks := tk₂ }
noncomputable def IterOk (Y : Sys) (A : Around) (E : Value → Shared → Prop) (s : Shared) (iter : PySem.Expr) (env : Env) (as : List AV) : Prop := ∀ tk, s.toks ≤ tk → wpAny (model Y.prog Y.w) A (eval iter env) (fun xv s₁ => wpAny (model Y.prog Y.w) A (pyIter xv) (IterAt Y A s as) E s₁) E { s with toks := tk }
theorem join_comp (O : Y.Ok) (TO : TabOk Y T d) {elt iter : PySem.Expr} {pe : PE} {scope : Scope} {x : Str} {px p1 apos cpos pos : Pos} {k1 : Nat} {ts : List (List Nat)} {as : List AV}
  (R : RS Y g L names loc ob s0 s) (hD : Deep d A)
  (ok : okE cn T.globs 20 pe elt = true) (hF : ∀ C, Fr1 (compEnvC scope [] C env) C cn) (hc : ∃ y r, cn = (y, .local) :: (x, .local) :: r)
  (hev : ∀ (i : Nat) a, as[i]? = some a → ∃ f obs, ts[i]? = some f ∧ ev T 20 pe [none, some a] [] = some ((.str f, []), obs) ∧ Fits obs) (hlen : as.length = ts.length) (hfit : ts.flatten.length ≤ sizeLine) (hlen2 : ts.length ≤ sizeLine)
  (hclos : closureFor scope env = pure []) (hcell : ∀ y ∈ scope.names, y.2 ≠ .cell) (hkind : scope.kind = .function)
  (hnames : ∀ y ∈ scope.names, y.2 = .local → scope.names.lookup y.1 = some .local) (hx : scope.names.lookup x = some .local) (hs : ∀ y, foldedSetIterable iter env y = pure y) (hline : (apos.endLine == pos.line) = true)
  (hiter : IterOk Y A E s iter env as)
  (K : Then Y names L loc s0 g s (.str ts.flatten) ob Q) :
  wpAny (model Y.prog Y.w) A (eval (.Call (.Attribute (.Constant (.str (sOf [])) k1 p1) "join" apos) [.ListComp elt [⟨.Name x px, iter, [], 0⟩] scope cpos] [] pos) env) Q E s := by
 refine wpAny_with_toks (n := s.toks) (Nat.le_refl _) ?_
 refine Call_method1 rfl rfl hline (wpAny_Constant_str ?_)
 refine ⟨"str", "str.join", PySem.F.plainAttrs_str, PySem.F.slot_str_join, PySem.F.type_str_join, typeIs_str _ _ _, (fun _ e => nomatch e), ?_⟩
 refine Calls.callWith_builtin rfl (Calls.evalArgs_plain (Calls.spliced_cons (list_compC hclos hcell hkind hnames hx hs (wpAny_mono (hiter (s.toks + 1) (Nat.le_succ _)) (fun xv s₁ h₁ => wpAny_mono h₁ (fun it s₂ h₂ => ?_) fun _ _ e _ => e) fun _ _ e _ => e))))
 cases h₂ with
 | @mk I fp wr P St h₂ tk₂ hk W hst hfp hwr hrel =>
 have kept {h : Heap} (hk3 : ∀ b o, b ∉ wr → h₂.get? b = some o → h.get? b = some o) : ∀ b o, s.heap.get? b = some o → h.get? b = some o := fun b o e => hk3 b o (fun q => by rw [hwr b q] at e; cases e) (hk b o e)
 refine .mk (fun i y => ∃ f t, ts[i]? = some f ∧ y = .str (sOf f) t) W (hlen ▸ hlen2) hst hfp (fun C i v s₃ m₃ E' hC hi hP hn hm hk3 htk => ?_) (fun D h' tk ys hD hl hsz hF hk3 => ?_)
 ·obtain ⟨a, ha⟩ : ∃ a, as[i]? = some a := ⟨_, List.getElem?_eq_getElem hi⟩
  obtain ⟨f, obs, q1, q2, q3⟩ := hev i a ha
  refine wpAny_mono (turn_sound O TO ok (hF C) hD (fun b o e => kept hk3 b o (R.keep b o e)) ?_ hn hm htk hc (fun h g => hrel i v hP a ha h g) q2 q3) (fun y s' ⟨⟨t, q⟩, r⟩ => ⟨⟨f, t, q1, q⟩, r⟩) fun _ _ e => e
  cases e : Y.hb.get? C with
  | none => rfl
  | some o => exact absurd (Heap.lt_size (hk C o (R.keep C o e))) (Nat.not_lt.mpr hC)
 ·refine Calls.spliced_nil ?_
  obtain ⟨l, e1, e2⟩ := strs_at (ts := ts) (ys := ys.toList) (by rw [← hlen, ← hsz]; rfl) fun j y hj => by
   obtain ⟨f, t, q1, q2⟩ := hF j y (by rw [← Array.getElem?_toList]; exact hj)
   exact ⟨f, t, q1, q2⟩
  refine join_strs hl e1 e2 hfit fun t' tk' htk => ?_
  have R1 : RO Y g ob s0 { s with heap := h', toks := tk' } := R.toRO.ext (kept hk3) htk
  have go : Go .none g s.heap g h' := .of ⟨[], (List.append_nil _).symm⟩ (fun _ _ => rfl) fun b o e _ _ => kept hk3 b o e
  exact K g _ _ (R.of_call R1 go) go.some (by unfold RelV; exact ⟨_, rfl⟩)
end
noncomputable abbrev wChr : List Nat := [99, 104, 114]
noncomputable abbrev wOrd : List Nat := [111, 114, 100]
noncomputable abbrev wSig : List Nat := [95, 108, 97, 119, 95, 83, 73, 71, 78, 83]
noncomputable def globsX : List (Str × AV) := [(sOf wChr, .val (.builtin "chr")), (sOf wOrd, .val (.builtin "ord")), (sOf wSig, .val (.ref 767))]
noncomputable def TX : Tab := { TI0 with globs := globsX }
structure Xs (Y : Sys) : Prop extends Base Y where
 xchr : nsFind (nsOf Y.K 3) (sOf wChr) = none
 xord : nsFind (nsOf Y.K 3) (sOf wOrd) = none
 xsig : nsFind (nsOf Y.K 3) (sOf wSig) = some (.ref 767)
 bchr : Y.mb (sOf wChr) = some (.builtin "chr")
section
variable {Y : Sys} {d : Nat}
theorem TX_ok (H : Xs Y) : TabOk Y TX 0 := by
 have B := H.toBase
 have h3 : is3B Y.K = true := (Bool.and_eq_true_iff.mp B.facts).1
 have base : TabOk Y TI0 0 := tab_ok B fun f p e => by cases e
 refine { base with globs := fun p hp => ?_ }
 have st : ∀ v, StatV Y (.val v) v := fun v h g _ _ => by unfold RelV; rfl
 have hm : p = (sOf wChr, .val (.builtin "chr")) ∨ p = (sOf wOrd, .val (.builtin "ord")) ∨ p = (sOf wSig, .val (.ref 767)) := by
  have : p ∈ globsX := hp
  unfold globsX at this
  simpa using this
 rcases hm with rfl | rfl | rfl
 ·exact ⟨_, .inr ⟨by rw [mg_is B.ok h3]; exact H.xchr, H.bchr⟩, st _⟩
 ·exact ⟨_, .inr ⟨by rw [mg_is B.ok h3]; exact H.xord, B.ord⟩, st _⟩
 ·exact ⟨_, .inl (by show Y.mg (sOf wSig) = _; rw [mg_is B.ok h3]; exact H.xsig), st _⟩
end
theorem fn_raw {Y : Sys} {d : Nat} (O : Y.Ok) {f : Addr} {fd : FuncData} {body : List PySem.Stmt} {params : List Str} {nl : Nat} {ar : List Nat} (F : FnData Y f fd body params nl ar) (p : Fn)
  (h : ∀ args ob v ob' obs, p args ob = some ((v, ob'), obs) → Fits obs → args.length ∈ ar ∧ ∀ (A : Around) (env : Env) (L : Addr) (g : G) (s0 s : Shared) (Q : Flow → Shared → Prop) (E : Value → Shared → Prop), Fr1 env L fd.scope.names → env.scope = fd.scope → Deep d A → RS Y g L fd.scope.names (startLoc params.length nl args) ob s0 s →
   (∀ g' s' val, RS Y g' L fd.scope.names (startLoc params.length nl args) ob' s0 s' → Go (some L) g s.heap g' s'.heap → RelV s'.heap g' v val → Q (.ret val) s') → wpAny (model Y.prog Y.w) A (execs body env) Q E s) :
  FnOk Y (d + 1) f p := by
 intro args ob v ob' obs e fit A g s0 s vals R rv hD
 have X : Y.K.In s.heap := R.KIn O
 obtain ⟨har, hb⟩ := h _ _ _ _ _ e fit
 have hlen := rvL rv
 have har' : vals.length ∈ ar := by rw [hlen]; exact har
 obtain ⟨hb1, hb2⟩ := F.bind vals har'
 obtain ⟨o, ho, hd⟩ := F.at'
 refine codeAny_call_def (fd := fd) (body := body) (binds := params.zip (vals ++ List.replicate (params.length - vals.length) .none)) (by have := hD.1; show A.depth < 1000; omega) (X _ _ ho) hd (O.nl.keeps R.keep) (codeRec_of X F.code) F.body (hb2 s X)
  (fun x hx => by have := List.all_eq_true.mp F.cell x hx; simpa using this) (fun x hx => ?_) (fun h₀ hns hk => ?_) F.co F.gen F.kind
 ·have hm : x.1 ∈ params := by
   have := List.mem_map_of_mem (f := Prod.fst) hx
   rw [List.map_fst_zip (by exact Nat.le_of_eq (id (Eq.symm hb1)))] at this
   exact this
  have := List.all_eq_true.mp F.loc _ hm
  exact eq_of_beq this
 ·have hl : ∃ o, h₀.get? s.heap.objs.size = some o := by obtain ⟨o, _, _, q, _⟩ := hns; exact ⟨o, q⟩
  obtain ⟨R1, go1⟩ := R.res hk hl (t := s.toks + (params.zip (vals ++ List.replicate (params.length - vals.length) .none)).length) (Nat.le_add_right _ _)
  have rv1 : RelVs h₀ (g.res s.heap.objs.size) (args ++ List.replicate (params.length - args.length) .none) (vals ++ List.replicate (params.length - vals.length) .none) := by
   rw [hlen]
   exact relVs_append (rv.go go1.ext (LOk.none _)) (relVs_nones _)
  have RS1 : RS Y (g.res s.heap.objs.size) s.heap.objs.size fd.scope.names (startLoc params.length nl args) ob s0 { s with heap := h₀, toks := s.toks + (params.zip (vals ++ List.replicate (params.length - vals.length) .none)).length } := by
   refine ⟨R1, if_pos rfl, _, hns, fun k x a q1 q2 => ?_⟩
   have ha1 : (args ++ List.replicate (params.length - args.length) AV.none).length = params.length := by rw [← hlen, ← hb1]; simp [hlen]
   have q3 : (fd.scope.names.map fun p => params.idxOf? p.1)[k]? = some (params.idxOf? x) := by rw [List.getElem?_map, q1]; rfl
   rw [F.bl] at q3
   have hk : k < params.length := by
    rcases Nat.lt_or_ge k params.length with h | h
    ·exact h
    ·unfold startLoc at q2
     rw [List.getElem?_append_right (by rw [List.length_map, ha1]; exact h), List.getElem?_replicate] at q2
     split at q2 <;> cases q2
   rw [List.getElem?_append_left (by simpa using hk), List.getElem?_map, List.getElem?_range hk] at q3
   have hi : params.idxOf? x = some k := (Option.some.inj q3).symm
   unfold startLoc at q2
   rw [List.getElem?_append_left (by rw [List.length_map, ha1]; exact hk), List.getElem?_map] at q2
   obtain ⟨a', q4, q5⟩ := Option.map_eq_some_iff.mp q2
   cases q5
   obtain ⟨u, u1, u2⟩ := relVs_get rv1 q4
   refine ⟨u, ?_, u2⟩
   obtain ⟨hi1, hi2, _⟩ := List.idxOf?_eq_some_iff.mp hi
   have hz : (x, u) ∈ params.zip (vals ++ List.replicate (params.length - vals.length) .none) := by
    refine List.mem_iff_getElem?.mpr ⟨k, ?_⟩
    rw [List.getElem?_zip_eq_some]
    refine ⟨?_, u1⟩
    rw [List.getElem?_eq_getElem hi1]
    simpa using hi2
   refine lookup_mem ?_ (List.mem_reverse.mpr hz)
   rw [List.map_reverse, List.map_fst_zip (by exact Nat.le_of_eq (id (Eq.symm hb1)))]
   exact nodup_rev F.pnd
  have hF : Fr1 (callEnv fd s.heap.objs.size f) s.heap.objs.size fd.scope.names := ⟨F.kind, rfl, F.nd, rfl, F.glob, F.blt⟩
  have hD' : Deep d (A.deeper (callEnv fd s.heap.objs.size f)) := by
   obtain ⟨h1, h2, h3⟩ := hD
   refine ⟨?_, ?_, h3⟩
   ·show A.depth + 1 + 3 * d < 990; omega
   ·show A.units + 3 + 100 + 10 * d < 9000; omega
  refine hb _ _ _ _ s0 _ _ _ hF rfl hD' RS1 fun g' s' val R2 go2 hv => ?_
  exact ⟨g', val, rfl, R2.toRO, go1.leave go2 (none_at _), hv⟩
theorem Ok.tcmpF {T : Tab} {n : Nat} {loc : Loc} {ob ob1 ob2 : List AObj} {x y : AV} {e e1 e2 : PE} {p q : Cop} (h1 : Ok (ev T n e loc ob) (x, ob1)) (h2 : Ok (ev T n e1 loc ob1) (y, ob2)) (h3 : cmpS T p x y ob2 = some false) : Ok (tv T (n + 1) (.cmp e [p, q] [e1, e2]) loc ob) (false, ob2) :=
 Ok.bnd h1 (Ok.bnd h2 (Ok.bnd (Ok.lift h3) Ok.fine))
noncomputable abbrev pLow : PE := .ite (.cmp (.str [65]) [.le, .le] [.loc 1, .str [90]]) (.call (.glob 0) [.bin .add (.call (.glob 1) [.loc 1]) (.int 32)]) (.loc 1)
theorem le_str {T : Tab} {a b : Nat} {t : Bool} {ob : List AObj} (h : decide (a ≤ b) = t) : cmpS T .le (.str [a]) (.str [b]) ob = some t := by
 show some (decide (a ≤ b)) = some t
 rw [h]
theorem chr_call {T : Tab} {k : Int} {ob : List AObj} : callF T (.val (.builtin "chr")) [.int k] ob = if 0 ≤ k ∧ k < 1114112 then fine (.str [k.toNat], ob) else none := by kernel_rfl
theorem low_ev (c : Nat) : Ok (ev TX 20 pLow [none, some (.str [c])] []) (.str [low1 c], []) := by
 unfold low1
 by_cases h1 : 65 ≤ c
 ·by_cases h2 : c ≤ 90
  ·rw [if_pos ⟨h1, h2⟩]
   refine Ok.iteT (ob1 := []) (Ok.tcmp2 (x := .str [65]) (ob1 := []) (y := .str [c]) (ob2 := []) (z := .str [90]) (Ok.k) (Ok.k) (le_str (decide_eq_true h1)) (Ok.k) (le_str (decide_eq_true h2))) ?_
   refine Ok.call (v := .val (.builtin "chr")) (ob1 := []) (vs := [.int ((c : Int) + 32)]) (ob2 := []) (Ok.k) (Ok.k) ?_
   have hk : (0 : Int) ≤ (c : Int) + 32 ∧ (c : Int) + 32 < 1114112 := by omega
   refine ⟨[], ?_, fun _ h => mem_no h⟩
   rw [chr_call, if_pos hk]
   have : ((c : Int) + 32).toNat = c + 32 := by exact Eq.symm (Nat.add_succ c 31)
   rw [this]
   rfl
  ·rw [if_neg (fun q => h2 q.2)]
   exact Ok.iteF (ob1 := []) (Ok.tcmp2 (x := .str [65]) (ob1 := []) (y := .str [c]) (ob2 := []) (z := .str [90]) (Ok.k) (Ok.k) (le_str (decide_eq_true h1)) (Ok.k) (le_str (decide_eq_false h2))) (Ok.k)
 ·rw [if_neg (fun q => h1 q.1)]
  exact Ok.iteF (ob1 := []) (Ok.tcmpF (x := .str [65]) (ob1 := []) (y := .str [c]) (ob2 := []) (Ok.k) (Ok.k) (le_str (decide_eq_false h1))) (Ok.k)
noncomputable def cnLow : List (Str × NameKind) := [(sOf [46, 48], .local), (sOf [99], .local), (sOf wChr, .globalImplicit), (sOf wOrd, .globalImplicit)]
noncomputable def isNm (s : List Nat) (e : PySem.Expr) : Bool := ({ fn := fun x => decide (x = sOf s) } : ByE).is e
theorem isNm_is {s : List Nat} {e : PySem.Expr} {P : PySem.Expr → Prop} (ok : isNm s e = true) (h : ∀ p, P (.Name (sOf s) p)) : P e := ByE.inv ok (fun _ _ _ h => nt h) (fun x p k => by rw [of_decide_eq_true k]; exact h p) (fun _ _ _ h => nt h) (fun _ _ _ _ h => nt h) (fun _ _ _ _ h => nt h) (fun _ _ _ _ h => nt h) (fun _ _ _ h => nt h) (fun _ _ _ h => nt h) (fun _ _ _ _ h => nt h) (fun _ _ _ h => nt h) (fun _ _ _ _ h => nt h) (fun _ _ _ h => nt h) (fun _ _ h => nt h) (fun _ _ _ h => nt h) (fun _ _ _ _ h => nt h) rfl
noncomputable def genB (x it : List Nat) : List Comprehension → Bool
 | [c] => isNm x c.target && (isNm it c.iter && (c.ifs.isEmpty && decide (c.is_async = 0)))
 | _ => false
theorem genB_is {x it : List Nat} {gs : List Comprehension} {P : List Comprehension → Prop} (ok : genB x it gs = true) (h : ∀ p q, P [⟨.Name (sOf x) p, .Name (sOf it) q, [], 0⟩]) : P gs := by
 cases gs with
 | nil => exact nt ok
 | cons c gs => cases gs with
  | cons _ _ => exact nt ok
  | nil =>
   obtain ⟨ta, ite, ifs, ia⟩ := c
   have h1 := and2 ok
   have h2 := and2 h1.2
   have h3 := and2 h2.2
   have e1 : ifs = [] := List.isEmpty_iff.mp h3.1
   have e2 : ia = 0 := of_decide_eq_true h3.2
   subst e1 e2
   exact isNm_is (P := fun ta => P [⟨ta, ite, [], 0⟩]) h1.1 fun p => isNm_is (P := fun ite => P [⟨_, ite, [], 0⟩]) h2.1 fun q => h p q
noncomputable def lowC (elt : PySem.Expr) (gs : List Comprehension) (sc : Scope) (_ : Pos) : Bool := genB [99] [116, 101, 120, 116] gs && (decide (sc.names = cnLow) && (decide (sc.kind = .function) && okE cnLow globsX 20 pLow elt))
noncomputable def joinB (l : Nat) (e : PySem.Expr) : Bool := ({ fa := fun e j ap => decide (j = ("join" : Str)) && ((ap.endLine == l) && cstE (strE []) e) } : ByE).is e
noncomputable def lowE (e : PySem.Expr) : Bool := ({ ff := fun g xs ks p => ks.isEmpty && (joinB p.line g && soleE (fun c => ({ fk := lowC } : ByE).is c) xs) } : ByE).is e
noncomputable def lowSt : List PySem.Stmt → Bool
 | [st] => ({ fr := lowE } : ByS).is st
 | _ => false
theorem join_is {l : Nat} {e : PySem.Expr} {P : PySem.Expr → Prop} (ok : joinB l e = true) (h : ∀ k p ap, (ap.endLine == l) = true → P (.Attribute (.Constant (.str (sOf [])) k p) ("join" : Str) ap)) : P e :=
 ByE.inv ok (fun _ _ _ h => nt h) (fun _ _ h => nt h) (fun e j ap k => by rw [of_decide_eq_true (and2 k).1]; exact cstE_is (P := fun e => P (.Attribute e _ ap)) (and2 (and2 k).2).2 fun c k' p q => by rw [strE_is q]; exact h k' p ap (and2 (and2 k).2).1) (fun _ _ _ _ h => nt h) (fun _ _ _ _ h => nt h) (fun _ _ _ _ h => nt h) (fun _ _ _ h => nt h) (fun _ _ _ h => nt h) (fun _ _ _ _ h => nt h) (fun _ _ _ h => nt h) (fun _ _ _ _ h => nt h) (fun _ _ _ h => nt h) (fun _ _ h => nt h) (fun _ _ _ h => nt h) (fun _ _ _ _ h => nt h) rfl
theorem lowE_is {e : PySem.Expr} {P : PySem.Expr → Prop} (ok : lowE e = true) (h : ∀ k1 p1 (apos : Pos) elt px pit scope cpos (pos : Pos), scope.names = cnLow → scope.kind = .function → okE cnLow globsX 20 pLow elt = true → (apos.endLine == pos.line) = true →
  P (.Call (.Attribute (.Constant (.str (sOf [])) k1 p1) ("join" : Str) apos) [.ListComp elt [⟨.Name (sOf [99]) px, .Name (sOf [116, 101, 120, 116]) pit, [], 0⟩] scope cpos] [] pos)) : P e := by
 refine ByE.inv ok (fun _ _ _ h => nt h) (fun _ _ h => nt h) (fun _ _ _ h => nt h) (fun g xs ks p k => ?_) (fun _ _ _ _ h => nt h) (fun _ _ _ _ h => nt h) (fun _ _ _ h => nt h) (fun _ _ _ h => nt h) (fun _ _ _ _ h => nt h) (fun _ _ _ h => nt h) (fun _ _ _ _ h => nt h) (fun _ _ _ h => nt h) (fun _ _ h => nt h) (fun _ _ _ h => nt h) (fun _ _ _ _ h => nt h) rfl
 have h1 := and2 k
 have h2 := and2 h1.2
 rw [List.isEmpty_iff.mp h1.1]
 refine join_is (P := fun g => P (.Call g xs [] p)) h2.1 fun k1 p1 ap hl => ?_
 refine sole_is h2.2 fun c hc q => ?_
 rw [← q]
 refine ByE.inv (P := fun c => P (.Call _ [c] [] p)) hc (fun _ _ _ h => nt h) (fun _ _ h => nt h) (fun _ _ _ h => nt h) (fun _ _ _ _ h => nt h) (fun _ _ _ _ h => nt h) (fun _ _ _ _ h => nt h) (fun _ _ _ h => nt h) (fun _ _ _ h => nt h) (fun _ _ _ _ h => nt h) (fun _ _ _ h => nt h) (fun _ _ _ _ h => nt h) (fun _ _ _ h => nt h) (fun _ _ h => nt h) (fun _ _ _ h => nt h) (fun e gs sc cp k => ?_) rfl
 have k1' := and2 k
 have k2 := and2 k1'.2
 have k3 := and2 k2.2
 exact genB_is (P := fun gs => P (.Call _ [.ListComp e gs sc cp] [] p)) k1'.1 fun px pit => h k1 p1 ap e px pit sc cp p (of_decide_eq_true k2.1) (of_decide_eq_true k3.1) k3.2 hl
noncomputable def funcAt (K : Frag) (f : Addr) : Option FuncData := onSome (K.lookup f) fun o => match o.data with
 | .func fd => some fd
 | _ => none
theorem funcAt_is {K : Frag} {f : Addr} {fd : FuncData} (h : funcAt K f = some fd) : ∃ o, K.lookup f = some o ∧ o.data = .func fd := by
 refine oSi h fun o e h => ⟨o, e, ?_⟩
 cases hd : o.data with
 | func g => rw [hd] at h; exact congrArg _ (Option.some.inj h)
 | _ => rw [hd] at h; exact nO h
theorem funcAt_of {K : Frag} {f : Addr} {fd : FuncData} (h : funcAt K f = some fd) : funcOf K f = fd := by
 obtain ⟨⟨c, d, dt, sl⟩, e, rfl⟩ := funcAt_is h
 unfold funcOf
 rw [e]
noncomputable def stmtsB (fd : FuncData) (q : List PySem.Stmt → Bool) : Bool := match fd.body with
 | .stmts b => q b
 | _ => false
theorem stmtsB_is {fd : FuncData} {q : List PySem.Stmt → Bool} {P : Prop} (ok : stmtsB fd q = true) (h : ∀ b, fd.body = .stmts b → q b = true → P) : P := by
 unfold stmtsB at ok
 cases e : fd.body with
 | stmts b => rw [e] at ok; exact h b e ok
 | _ => rw [e] at ok; exact nt ok
noncomputable def lowF (K : Frag) (fd : FuncData) : Bool := codeIn K fd.code fd.qualname && (decide (fd.scope.names = [(sOf [116, 101, 120, 116], .local)]) && (decide (fd.globals = mainGlobals) && (decide (fd.builtins = builtinsNs) && (decide (fd.scope.kind = .function) && (!fd.scope.isCoroutine && (!fd.scope.isGenerator && stmtsB fd lowSt))))))
noncomputable def lowB (K : Frag) (f : Addr) : Bool := trueO (onSome (funcAt K f) fun fd => some (lowF K fd))
theorem low_flat (s : List Nat) : (s.map fun c => [low1 c]).flatten = s.map low1 := by
 induction s with
 | nil => rfl
 | cons a r ih => simp [ih]
theorem low_iter {Y : Sys} {names : List (Str × NameKind)} {L : Addr} {loc : Loc} {ob : List AObj} {s0 st : Shared} {g : G} {A : Around} {E : Value → Shared → Prop} {env : Env} {s : List Nat} {pit : Pos} (hF : Fr1 env L names) (hD : Deep 0 A) (h2 : names = [(sOf [116, 101, 120, 116], .local)]) (R : RS Y g L names (some (.str s) :: loc) ob s0 st) : IterOk Y A E st (.Name (sOf [116, 101, 120, 116]) pit) env (s.map fun c => .str [c]) := fun tk htk => by
 obtain ⟨mm, hn, hv⟩ := R.ns
 obtain ⟨v, q9, q10⟩ := hv 0 _ (.str s) (by rw [h2]; rfl) rfl
 obtain ⟨t, rfl⟩ := rvS q10
 refine wpAny_Name (wpAny_loadName_local hF.kind (by unfold Env.kindOf; rw [hF.nms, h2]; rfl) (by rw [hF.loc]; exact hn) q9 ?_) (by decide)
 refine wpAny_pyIter_str fun o St W h0 => ?_
 refine .mk (fp := [st.heap.objs.size]) (wr := [st.heap.objs.size]) (P := SignAt (sOf s)) (fun b o e => Heap.get?_push_of_some _ e) ?_ h0 (fun b hb => ?_) (fun b hb => ?_) (fun i v hv a ha h g => ?_)
 ·have := W A hD.2.2
  rw [List.length_map]
  simpa using this
 ·rw [List.mem_singleton.mp hb, Heap.size_push]; exact Nat.lt_succ_self _
 ·rw [List.mem_singleton.mp hb]; exact none_at _
 ·obtain ⟨c, u, e1, rfl⟩ := hv
  rw [List.getElem?_map] at ha
  obtain ⟨c', hc, rfl⟩ := Option.map_eq_some_iff.mp ha
  have e1 : s.toArray[i]? = some c := e1
  rw [List.getElem?_toArray, hc] at e1
  cases e1
  exact (show ∃ t, Value.str { cps := #[c] } u = Value.str (sOf [c]) t from ⟨u, rfl⟩)
theorem low_core {Y : Sys} (O : Y.Ok) (TO : TabOk Y TX 0) {f : Addr} (hb : ∀ a0 : Value, bindArgs (funcOf Y.K f) ⟨[a0], []⟩ = pure [(sOf [116, 101, 120, 116], a0)]) {fd : FuncData} (e : funcAt Y.K f = some fd) (h1 : codeIn Y.K fd.code fd.qualname = true) (h2 : fd.scope.names = [(sOf [116, 101, 120, 116], .local)]) (h3 : fd.globals = mainGlobals) (h4 : fd.builtins = builtinsNs) (h5 : fd.scope.kind = .function) (h6 : fd.scope.isCoroutine = false) (h7 : fd.scope.isGenerator = false)
  {k1 : Nat} {p1 apos px pit cpos pos rpos : Pos} {elt : PySem.Expr} {scope : Scope} (eb : fd.body = .stmts [.Return (some (.Call (.Attribute (.Constant (.str (sOf [])) k1 p1) ("join" : Str) apos) [.ListComp elt [⟨.Name (sOf [99]) px, .Name (sOf [116, 101, 120, 116]) pit, [], 0⟩] scope cpos] [] pos)) rpos]) (q5 : scope.names = cnLow) (q6 : scope.kind = .function) (q7 : okE cnLow globsX 20 pLow elt = true) (q8 : (apos.endLine == pos.line) = true) : FnOk Y 1 f lowFn := by
 have hfd := funcAt_of e
 have F : FnData Y f fd _ [sOf [116, 101, 120, 116]] 0 [1] := ⟨funcAt_is e, h1, eb, fun vals hv => by
   obtain ⟨a0, rfl⟩ := vals1 hv
   rw [hfd] at hb
   exact ⟨rfl, fun s X => BindsTo.of_eq (hb a0)⟩, by rw [h2]; rfl, by rw [h2]; exact nbN (by kernel_rfl), nbN (by kernel_rfl), by rw [h2]; kernel_rfl, by rw [h2]; kernel_rfl, h3, h4, h5, h6, h7⟩
 refine fn_raw O F lowFn fun args ob v ob' obs ea fit => ?_
 refine one_is ea fun x ha ea1 => oSi ea1 fun s hs ea2 => ?_
 cases asStr_is hs
 subst ha
 cases ea2
 have hsz : s.length ≤ sizeLine := fit _ (List.mem_cons_self ..)
 refine ⟨List.mem_singleton.mpr rfl, fun A env L g s0 st Q E hF hsc hD R K => ?_⟩
 refine wpAny_execs_cons ?_
 rw [exec_Return_some]
 refine wpAny_bind (wpAny_standAt (wpAny_bind ?_))
 refine join_comp O TO (cn := cnLow) (pe := pLow) (ts := s.map fun c => [low1 c]) (as := s.map fun c => .str [c]) R hD q7 (fun C => ?_) ⟨_, _, rfl⟩ (fun i a ha => ?_) (by simp) ?_ ?_ ?_ ?_ q6 ?_ ?_ (fun y => rfl) q8 (low_iter hF hD h2 R) (fun g' s' val R' go r => ?_)
 ·exact ⟨by show (relabel scope env).kind = _; exact q6, by show (relabel scope env).names = _; unfold relabel; rw [q5]; rfl, nbN (by kernel_rfl), rfl, hF.glob, hF.blt⟩
 ·rw [List.getElem?_map] at ha
  obtain ⟨c, hc, rfl⟩ := Option.map_eq_some_iff.mp ha
  obtain ⟨l, e1, e2⟩ := (low_ev c).fits
  exact ⟨[low1 c], l, by rw [List.getElem?_map, hc]; rfl, e1, e2⟩
 ·rw [low_flat, List.length_map]; exact hsz
 ·rw [List.length_map]; exact hsz
 ·unfold closureFor; rw [q5]; with_unfolding_all rfl
 ·rw [q5]; decide
 ·rw [q5]; decide
 ·rw [q5]; rfl
 ·rw [low_flat] at r
  exact wpAny_pure (K g' s' val R' go r)
theorem low_fn {Y : Sys} (O : Y.Ok) (TO : TabOk Y TX 0) {f : Addr} (h : lowB Y.K f = true) (hb : ∀ a0 : Value, bindArgs (funcOf Y.K f) ⟨[a0], []⟩ = pure [(sOf [116, 101, 120, 116], a0)]) : FnOk Y 1 f lowFn := by
 refine oSi (tOi h) fun fd e h => ?_
 have k1 := and2 (Option.some.inj h)
 have k2 := and2 k1.2
 have k3 := and2 k2.2
 have k4 := and2 k3.2
 have k5 := and2 k4.2
 have k6 := and2 k5.2
 have k7 := and2 k6.2
 refine stmtsB_is k7.2 fun b eb hb' => ?_
 cases b with
 | nil => exact nt hb'
 | cons st b => cases b with
  | cons _ _ => exact nt hb'
  | nil =>
   revert eb
   refine ByS.inv (P := fun st => fd.body = .stmts [st] → FnOk Y 1 f lowFn) hb' (fun _ _ h => nt h) (fun _ h => nt h) (fun _ h => nt h) (fun v rp hv => ?_) (fun _ _ _ h => nt h) (fun _ _ _ _ h => nt h) (fun _ _ _ _ h => nt h) (fun _ _ _ h => nt h) (fun _ _ _ _ h => nt h) (fun _ _ _ h => nt h)
   exact lowE_is (P := fun v => fd.body = .stmts [.Return (some v) rp] → FnOk Y 1 f lowFn) hv fun _ _ _ _ _ _ _ _ _ q5 q6 q7 q8 eb => low_core O TO hb e k1.1 (of_decide_eq_true k2.1) (of_decide_eq_true k3.1) (of_decide_eq_true k4.1) (of_decide_eq_true k5.1) (by simpa using k6.1) (by simpa using k7.1) eb q5 q6 q7 q8
noncomputable abbrev pSig : PE := .sub (.glob 2) (.bin .mod (.loc 1) (.int 20))
theorem sig_sub {k : Int} : subS TX (.val (.ref 767)) (.int k) [] = if 0 ≤ k ∧ k < 2 ^ 62 then (signs0.map AV.str)[k.toNat]? else none := by kernel_rfl
theorem sign_ev (k : Int) : ∃ f ∈ signs0, Ok (ev TX 20 pSig [none, some (.int k)] []) (.str f, []) := by
 obtain ⟨i, hi, hlt⟩ := mod_nat k (n := 20) (by exact Nat.zero_lt_succ 19)
 have hi : Int.fmod k 20 = (i : Int) := hi
 have hl : i < signs0.length := by
  have : signs0.length = 20 := by kernel_rfl
  exact Nat.lt_of_succ_le hlt
 obtain ⟨f, hf⟩ : ∃ f, signs0[i]? = some f := ⟨_, List.getElem?_eq_getElem hl⟩
 refine ⟨f, List.mem_of_getElem? hf, Ok.sub (x := .val (.ref 767)) (ob1 := []) (y := .int (i : Int)) (ob2 := []) (Ok.k) ?_ ?_⟩
 ·rw [← hi]
  exact Ok.bin (x := .int k) (ob1 := []) (y := .int 20) (ob2 := []) (Ok.k) (Ok.k) (Ok.k)
 ·have h : (0 : Int) ≤ (i : Int) ∧ (i : Int) < 2 ^ 62 := by omega
  rw [sig_sub, if_pos h, List.getElem?_map]
  have : ((i : Int)).toNat = i := by exact Int.toNat_natCast i
  rw [this, hf]
  rfl
theorem signs_len : (signs0.all fun f => Nat.ble f.length 6 && f.all fun c => alpha.contains c) = true := by kernel_rfl
theorem script_text (ks : List Int) (hk : ks.length ≤ 24) : ∃ ts : List (List Nat), ts.length = ks.length ∧ ts.flatten.length ≤ 150 ∧ (∀ c ∈ ts.flatten, c ∈ alpha) ∧ ∀ (i : Nat) k, ks[i]? = some k → ∃ f, ts[i]? = some f ∧ Ok (ev TX 20 pSig [none, some (.int k)] []) (.str f, []) := by
 have key : ∀ ks : List Int, ∃ ts : List (List Nat), ts.length = ks.length ∧ ts.flatten.length ≤ 6 * ks.length ∧ (∀ c ∈ ts.flatten, c ∈ alpha) ∧ ∀ (i : Nat) k, ks[i]? = some k → ∃ f, ts[i]? = some f ∧ Ok (ev TX 20 pSig [none, some (.int k)] []) (.str f, []) := by
  intro ks
  induction ks with
  | nil => exact ⟨[], rfl, Nat.le_refl _, (fun _ h => mem_no h), fun i k h => by simp at h⟩
  | cons k r ih =>
   obtain ⟨ts, h1, h2, h3, h4⟩ := ih
   obtain ⟨f, hf, e⟩ := sign_ev k
   have hc := List.all_eq_true.mp signs_len f hf
   obtain ⟨c1, c2⟩ := Bool.and_eq_true_iff.mp hc
   have c1 := Nat.le_of_ble_eq_true c1
   refine ⟨f :: ts, by rw [List.length_cons, List.length_cons, h1], ?_, ?_, ?_⟩
   ·rw [List.flatten_cons, List.length_append, List.length_cons]; omega
   ·intro c h
    rw [List.flatten_cons] at h
    rcases List.mem_append.mp h with h | h
    ·exact List.contains_iff_mem.mp (List.all_eq_true.mp c2 c h)
    ·exact h3 c h
   ·intro i z hz
    cases i with
    | zero => cases hz; exact ⟨f, rfl, e⟩
    | succ i => exact h4 i z hz
 obtain ⟨ts, h1, h2, h3, h4⟩ := key ks
 exact ⟨ts, h1, by omega, h3, h4⟩
noncomputable abbrev wScript : List Nat := [115, 99, 114, 105, 112, 116]
noncomputable abbrev wHead : List Nat := [104, 101, 97, 100]
noncomputable abbrev wText : List Nat := [116, 101, 120, 116]
section
variable {Y : Sys} {d : Nat} {names : List (Str × NameKind)} {L : Addr} {s0 s : Shared} {g : G} {A : Around} {E : Value → Shared → Prop} {env : Env}
theorem name_at {loc : Loc} {ob : List AObj} {x : List Nat} {k : Nat} {a : AV} {pos : Pos} {Q : Value → Shared → Prop} (hF : Fr1 env L names) (R : RS Y g L names loc ob s0 s) (hk : names[k]? = some (sOf x, .local)) (hl : loc[k]? = some (some a)) (hd : (sOf x == ("__debug__" : Str)) = false) (K : ∀ v, RelV s.heap g a v → Q v s) : wpAny (model Y.prog Y.w) A (eval (.Name (sOf x) pos) env) Q E s := by
 obtain ⟨m, hn, hv⟩ := R.ns
 obtain ⟨v, q1, q2⟩ := hv k _ _ hk hl
 exact wpAny_Name (wpAny_loadName_local hF.kind (by unfold Env.kindOf; rw [hF.nms]; exact lookup_at hF.nodup hk) (by rw [hF.loc]; exact hn) q1 (K v q2)) hd
theorem store_at {loc : Loc} {ob : List AObj} {x : List Nat} {k : Nat} {a : AV} {v : Value} {Q : Unit → Shared → Prop} (hF : Fr1 env L names) (R : RS Y g L names loc ob s0 s) (hk : names[k]? = some (sOf x, .local)) (hj : k < loc.length) (hv : RelV s.heap g a v) (K : ∀ s', RS Y g L names (loc.set k (some a)) ob s0 s' → Go (some L) g s.heap g s'.heap → Q () s') : wpAny (model Y.prog Y.w) A (storeName env (sOf x) v) Q E s := by
 obtain ⟨m, hn, _⟩ := R.ns
 refine wpAny_storeName_local (by unfold Env.kindOf; rw [hF.nms]; exact lookup_at hF.nodup hk) (by rw [hF.loc]; exact hn) (fun h' hN hs => ?_) (by rw [hF.kind]; rfl)
 rw [hF.loc] at hN hs
 obtain ⟨R', go⟩ := R.store (t := s.toks + 1) hk hF.nodup hs hn hN hv hj
 exact K _ R' go
end
section
variable {Y : Sys} {d : Nat} {names : List (Str × NameKind)} {L : Addr} {s0 s : Shared} {g : G} {A : Around} {E : Value → Shared → Prop} {env : Env}
theorem law_line1 {r : Loc} {w2 : Addr} {vs : List Value} {ns : List Int} {hp q1 q2 q3 q4 q5 q6 q7 : Pos} {k1 k2 : Nat} {Q : Flow → Shared → Prop} (hF : Fr1 env L names) (h0 : names[0]? = some (sOf wScript, .local)) (h1 : names[1]? = some (sOf wHead, .local))
  (hL : s.heap.IsList w2 vs.toArray) (hI : IntsAre vs ns) (hlen : ns.length ≤ 63) (R : RS Y g L names (some (.val (.ref w2)) :: none :: r) [] s0 s)
  (K : ∀ s' (i : Int), RS Y g L names (some (.val (.ref w2)) :: some (.int i) :: r) [] s0 s' → Go (some L) g s.heap g s'.heap → Q .next s') :
  wpAny (model Y.prog Y.w) A (exec (.Assign [.Name (sOf wHead) hp] (.IfExp (.Name (sOf wScript) q1) (.Subscript (.Name (sOf wScript) q2) (.Constant (.int 0) k1 q3) q4) (.Constant (.int 0) k2 q5) q6) q7) env) Q E s := by
 have hl : vs.length = ns.length := hI.length
 have hd : (sOf wScript == ("__debug__" : Str)) = false := by decide
 refine wpAny_Assign_Name ?_
 rw [arm_eval_IfExp]
 refine wpAny_bind (wpAny_isTrue_value (name_at hF R h0 rfl hd fun v rv => ?_))
 have hv := relV_val rv
 subst hv
 refine wpAny_truthy_list hL (by simp; omega) ?_
 have R1 := R.toks (s.toks + 1 + 1)
 have fin : ∀ (i : Int) (t : Tok) (tk : Nat), s.toks ≤ tk → wpAny (model Y.prog Y.w) A (storeName env (sOf wHead) (.int i t)) (fun _ => Q .next) E { s with toks := tk } := fun i t tk htk =>
  store_at hF (R.toks tk htk) h1 (by simp) (by unfold RelV; exact ⟨t, rfl⟩) fun s' R' go => K s' i R' go
 cases hI with
 | nil =>
  show wpAny _ A (if (!(#[] : Array Value).isEmpty) = true then _ else _) _ E _
  rw [if_neg (by simp)]
  exact wpAny_Constant_int (fin 0 _ (s.toks + 1 + 1 + 1) (by omega))
 | cons n t hI =>
  rw [if_pos (by simp)]
  refine Subscript_Constant (name_at hF R1 h0 rfl hd fun v rv => ?_)
  have hv := relV_val rv
  subst hv
  refine wpAny_Constant_int ⟨"list", _, list_getitem_lookup, Heap.IsList.typeIs (s := { s with toks := _ }) hL, ?_⟩
  exact wpAny_getItem_list (x := .int n t) hL (Int.le_refl _) (by decide) (by simp) (fin n t (s.toks + 1 + 1 + 1) (by omega))
end
noncomputable def cnSig : List (Str × NameKind) := [(sOf [46, 48], .local), (sOf [110], .local), (sOf wSig, .globalImplicit)]
section
variable {Y : Sys} {d : Nat} {names : List (Str × NameKind)} {L : Addr} {s0 s : Shared} {g : G} {A : Around} {E : Value → Shared → Prop} {env : Env}
theorem slice_len {ns ks : List Int} (hk : (ns.drop (clipAt ns.length 1)).take (clipAt ns.length 25 - clipAt ns.length 1) = ks) : ks.length ≤ 24 := by
 cases ns with
 | nil => rw [← hk, List.drop_nil, List.take_nil]; exact Nat.zero_le _
 | cons a l =>
  have c1 : 1 ≤ clipAt (a :: l).length 1 := Int.ofNat_le.mp (by
   rw [clipAt_cast, if_neg (by decide)]
   exact Int.le_trans (Int.le_min.mpr ⟨Int.le_refl _, Int.ofNat_le.mpr (Nat.succ_le_succ (Nat.zero_le _))⟩) (Int.le_max_right ..))
  have c2 : clipAt (a :: l).length 25 ≤ 25 := Int.ofNat_le.mp (by
   rw [clipAt_cast, if_neg (by decide)]
   exact Int.max_le.mpr ⟨by decide, Int.min_le_left ..⟩)
  rw [← hk]
  exact Nat.le_trans (List.length_take_le ..) (Nat.sub_le_of_le_add (Nat.le_trans c2 (Nat.add_le_add_left c1 24)))
theorem fresh_iter {H2 : Heap} {items : Array Value} {ks : List Int} {tk : Tok} (hD : Deep 0 A) (hks : IntsAre items.toList ks) (up : ∀ b o, s.heap.get? b = some o → H2.get? b = some o) (hs : H2.objs.size = s.heap.objs.size + 1 + 1) (hLl : H2.IsList (s.heap.objs.size + 1) items) :
  wpAny (model Y.prog Y.w) A (pyIter (.ref (s.heap.objs.size + 1))) (IterAt Y A s (ks.map .int)) E { s with heap := H2, toks := tk } := by
 refine wpAny_pyIter_list hLl ?_
 refine .mk (fp := [H2.objs.size, s.heap.objs.size + 1]) (wr := [H2.objs.size]) (P := fun i v => items[i]? = some v) (St := fun i h => h.IsListIter H2.objs.size (s.heap.objs.size + 1) i ∧ h.IsList (s.heap.objs.size + 1) items) (fun b o e => Heap.get?_push_of_some _ (up b o e)) ?_ ⟨⟨_, Heap.get?_push_size _ rfl, rfl, rfl⟩, hLl.push _⟩ (fun b hb => ?_) (fun b hb => ?_) (fun i v hv a ha h g => ?_)
 ·have hW := Walks.list (prog := Y.prog) (w := Y.w) hD.2.2 H2.objs.size (s.heap.objs.size + 1) (by rw [hs]; exact Nat.ne_of_lt (Nat.lt_succ_self _)) items
  have e : items.size = (ks.map AV.int).length := by rw [List.length_map, ← hks.length]; rfl
  rw [← e]
  exact hW
 ·rw [Heap.size_push]
  rcases List.mem_cons.mp hb with q | q
  ·rw [q]; exact Nat.lt_succ_self _
  ·rw [List.mem_singleton.mp q, hs]; exact Nat.lt_succ_of_lt (Nat.lt_succ_self _)
 ·rw [List.mem_singleton.mp hb, hs]; exact get_fresh (Nat.le_trans (Nat.le_succ _) (Nat.le_succ _))
 ·obtain ⟨n, t, e1, e2⟩ := IntsAre.at hks i v (by rw [Array.getElem?_toList]; exact hv)
  rw [List.getElem?_map, e2] at ha
  cases ha
  exact (⟨t, e1⟩ : ∃ t, v = .int n t)
theorem slice_iter {r : Loc} {w2 : Addr} {vs : List Value} {ks : List Int} {i0 : Int} {q8 q9 q10 q11 q12 : Pos} {k4 k5 : Nat} (hF : Fr1 env L names) (hD : Deep 0 A) (h0 : names[0]? = some (sOf wScript, .local)) (hL : s.heap.IsList w2 vs.toArray) (hl : vs.length ≤ 63) (hks : IntsAre (slicePick vs.toArray (some 1) (some 25) none).toList ks) (R : RS Y g L names (some (.val (.ref w2)) :: some (.int i0) :: none :: r) [] s0 s) :
  IterOk Y A E s (.Subscript (.Name (sOf wScript) q8) (.Slice (some (.Constant (.int 1) k4 q9)) (some (.Constant (.int 25) k5 q10)) none q11) q12) env (ks.map .int) := fun tk htk => by
 refine wpAny_Subscript_list_slice (name_at hF (R.toks tk htk) h0 rfl (by decide) fun v rv => ?_)
 cases relV_val rv
 refine wpAny_evalPart_some (wpAny_Constant_int (wpAny_evalPart_some (wpAny_Constant_int ?_)))
 refine ⟨w2, vs.toArray, some 1, some 25, rfl, hL, Nat.le_trans hl (by decide), .int 1 _, .int 25 _, ?_⟩
 dsimp only
 refine fresh_iter hD hks (fun b o e => Heap.get?_push_of_some _ (Heap.get?_push_of_some _ e)) (by rw [Heap.size_push, Heap.size_push]) ?_
 exact ⟨_, (congrArg (Heap.get? _) (Heap.size_push ..).symm).trans (Heap.get?_push_size _ rfl), rfl, _, rfl⟩
theorem law_line2 {r : Loc} {w2 : Addr} {vs : List Value} {ns : List Int} {i0 : Int} {elt : PySem.Expr} {px p1 apos cpos pos tp q7 q8 q9 q10 q11 q12 : Pos} {k3 k4 k5 : Nat} {scope : Scope} {Q : Flow → Shared → Prop} (O : Y.Ok) (TO : TabOk Y TX 0) (hF : Fr1 env L names) (hD : Deep 0 A) (h0 : names[0]? = some (sOf wScript, .local)) (h2 : names[2]? = some (sOf wText, .local))
  (hL : s.heap.IsList w2 vs.toArray) (hI : IntsAre vs ns) (hlen : ns.length ≤ 63) (R : RS Y g L names (some (.val (.ref w2)) :: some (.int i0) :: none :: r) [] s0 s)
  (ok : okE cnSig globsX 20 pSig elt = true) (q5 : scope.names = cnSig) (q6 : scope.kind = .function) (hline : (apos.endLine == pos.line) = true)
  (K : ∀ g' s' text, text.length ≤ 150 → (∀ c ∈ text, c ∈ alpha) → RS Y g' L names (some (.val (.ref w2)) :: some (.int i0) :: some (.str text) :: r) [] s0 s' → Go (some L) g s.heap g' s'.heap → Q .next s') :
  wpAny (model Y.prog Y.w) A (exec (.Assign [.Name (sOf wText) tp] (.Call (.Attribute (.Constant (.str (sOf [])) k3 p1) "join" apos) [.ListComp elt [⟨.Name (sOf [110]) px, .Subscript (.Name (sOf wScript) q8) (.Slice (some (.Constant (.int 1) k4 q9)) (some (.Constant (.int 25) k5 q10)) none q11) q12, [], 0⟩] scope cpos] [] pos) q7) env) Q E s := by
 have hks := slice_ints_plain hI 1 25
 have hkl := slice_len (ns := ns) rfl
 generalize (ns.drop (clipAt ns.length 1)).take (clipAt ns.length 25 - clipAt ns.length 1) = ks at hks hkl
 obtain ⟨ts, t1, t2, t3, t4⟩ := script_text ks hkl
 have hz : (150 : Nat) ≤ sizeLine := by decide
 refine wpAny_Assign_Name (join_comp O TO (cn := cnSig) (pe := pSig) (ts := ts) (as := ks.map .int) R hD ok (fun C => ?_) ⟨_, _, rfl⟩ (fun i a ha => ?_) (by rw [List.length_map, t1]) (Nat.le_trans t2 hz) (Nat.le_trans (Nat.le_of_eq t1) (Nat.le_trans hkl (by decide))) ?_ ?_ q6 ?_ ?_ (fun y => rfl) hline (slice_iter hF hD h0 hL (hI.length ▸ hlen) hks R) (fun g' s' val R' go r => ?_))
 ·exact ⟨by show (relabel scope env).kind = _; exact q6, by show (relabel scope env).names = _; unfold relabel; rw [q5]; rfl, nbN (by kernel_rfl), rfl, hF.glob, hF.blt⟩
 ·rw [List.getElem?_map] at ha
  replace ha := Option.map_eq_some_iff.mp ha
  obtain ⟨c, hc, rfl⟩ := ha
  replace hc := t4 i c hc
  obtain ⟨f, hf, e⟩ := hc
  obtain ⟨l, e1, e2⟩ := e.fits
  exact ⟨f, l, hf, e1, e2⟩
 ·unfold closureFor; rw [q5]; with_unfolding_all rfl
 ·rw [q5]; decide
 ·rw [q5]; decide
 ·rw [q5]; rfl
 ·refine store_at (k := 2) hF R' h2 (Nat.succ_le_succ (Nat.succ_le_succ (Nat.succ_le_succ (Nat.zero_le _)))) r fun s'' R'' go2 => ?_
  exact K g' s'' _ t2 t3 R'' (go.trans go2)
end
section
variable {Y : Sys} {names : List (Str × NameKind)} {L : Addr} {s0 s : Shared} {g : G} {A : Around} {E : Value → Shared → Prop} {env : Env}
theorem law_body (H : Tops Y) (X : Xs Y) {w2 : Addr} {vs : List Value} {ns : List Int} {sts rest : List PySem.Stmt} {Q : Flow → Shared → Prop} (hF : Fr1 env L names) (hD : Deep 8 A) (h0 : names[0]? = some (sOf wScript, .local)) (h1 : names[1]? = some (sOf wHead, .local)) (h2 : names[2]? = some (sOf wText, .local))
  (hL : Y.hb.IsList w2 vs.toArray) (hI : IntsAre vs ns) (hlen : ns.length ≤ 63) {h t s1 s2 s3 x e j : Str} {hp tp q1 q2 q3 q4 q5 q6 q7 q8 q9 q10 q11 q12 q13 p1 px apos cpos pos : Pos} {k1 k2 k3 k4 k5 : Nat} {elt : PySem.Expr} {scope : Scope}
  (hst : sts = .Assign [.Name h hp] (.IfExp (.Name s1 q1) (.Subscript (.Name s2 q2) (.Constant (.int 0) k1 q3) q4) (.Constant (.int 0) k2 q5) q6) q7 :: .Assign [.Name t tp] (.Call (.Attribute (.Constant (.str e) k3 p1) j apos) [.ListComp elt [⟨.Name x px, .Subscript (.Name s3 q8) (.Slice (some (.Constant (.int 1) k4 q9)) (some (.Constant (.int 25) k5 q10)) none q11) q12, [], 0⟩] scope cpos] [] pos) q13 :: rest)
  (d1 : h = sOf wHead ∧ s1 = sOf wScript ∧ s2 = sOf wScript) (d2 : t = sOf wText ∧ e = sOf [] ∧ j = ("join" : Str) ∧ x = sOf [110]) (d3 : s3 = sOf wScript ∧ scope.names = cnSig ∧ scope.kind = .function) (d4 : okE cnSig globsX 20 pSig elt = true) (d5 : (apos.endLine == pos.line) = true) (d6 : all2 (okS names globs0 20) (b_law.drop 2) rest = true)
  (R : RS Y g L names (some (.val (.ref w2)) :: List.replicate 17 none) [] s0 s)
  (K : ∀ g' s' ob', RO Y g' ob' s0 s' → Go (some L) g s.heap g' s'.heap → Q (.ret (.bool true)) s') : wpAny (model Y.prog Y.w) A (execs sts env) Q E s := by
 subst hst
 obtain ⟨rfl, rfl, rfl⟩ := d1
 obtain ⟨rfl, rfl, rfl, rfl⟩ := d2
 obtain ⟨rfl, d7, d8⟩ := d3
 have lst : ∀ s' : Shared, (∀ b o, Y.hb.get? b = some o → s'.heap.get? b = some o) → s'.heap.IsList w2 vs.toArray := fun s' k => hL.at fun o e => k _ o e
 have hD0 : Deep 0 A := ⟨by have := hD.1; exact Nat.lt_of_add_right_lt this, by have := hD.2.1; exact Nat.lt_of_add_right_lt this, hD.2.2⟩
 refine wpAny_execs_cons (law_line1 hF h0 h1 (lst s R.keep) hI hlen R fun s1 i R1 go1 => ?_)
 refine wpAny_execs_cons (law_line2 H.ok (TX_ok X) hF hD0 h0 h2 (lst s1 R1.keep) hI hlen R1 d4 d7 d8 d5 fun g2 s2 text t1 t2 R2 go2 => ?_)
 obtain ⟨loc', ob', e⟩ := law_rest (head := i) t1 t2
 obtain ⟨obs, e1, e2⟩ := e.fits
 have R3 : RS Y g2 L names [none, some (.int i), some (.str text), none, none, none, none, none, none, none, none, none, none, none, none, none, none, none] [] s0 s2 := by
  refine ⟨R2.toRO, R2.ownL, ?_⟩
  obtain ⟨m, hn, hv⟩ := R2.ns
  refine ⟨m, hn, fun k x a q1 q2 => hv k x a q1 ?_⟩
  cases k with
  | zero => cases q2
  | succ k => exact q2
 refine exs_sound (ex_sound H.ok (TO3_ok H) NN 20) hF hD _ e1 d6 e2 R3 fun g' s' f R' go hf => ?_
 unfold FlR at hf
 obtain ⟨val, rfl, hv⟩ := hf
 unfold RelV at hv
 subst hv
 exact K g' s' ob' R'.toRO ((go1.trans go2).trans go)
end
structure Chk (K : Frag) (P : Params) : Prop where
 facts : factsB K = true
 hash : hashes (dictB K 48) = keyHashes P
 fns : fnsB K = true
 binds : Binds K
 low : lowB K 42 = true
 lowb : ∀ a0 : Value, bindArgs (funcOf K 42) ⟨[a0], []⟩ = pure [(sOf [116, 101, 120, 116], a0)]
 small : lowB K 822 = true
 smallb : ∀ a0 : Value, bindArgs (funcOf K 822) ⟨[a0], []⟩ = pure [(sOf [116, 101, 120, 116], a0)]
 m73 : makesIn K 73 = true ∧ findIn K (.ref 73) "__init__" = some (some (.ref 63)) ∧ typeIn K (.ref 63) = some (.type "function")
 m166 : makesIn K 166 = true ∧ findIn K (.ref 166) "__init__" = some (some (.ref 98)) ∧ typeIn K (.ref 98) = some (.type "function")
 m762 : makesIn K 762 = true ∧ findIn K (.ref 762) "__init__" = some (some (.ref 261)) ∧ typeIn K (.ref 261) = some (.type "function")
 xchr : nsFind (nsOf K 3) (sOf wChr) = none
 xord : nsFind (nsOf K 3) (sOf wOrd) = none
 xsig : nsFind (nsOf K 3) (sOf wSig) = some (.ref 767)
theorem boots : bootBuiltins (sOf [108, 101, 110]) = some (.builtin "len") ∧ bootBuiltins (sOf wOrd) = some (.builtin "ord") ∧ bootBuiltins (sOf wChr) = some (.builtin "chr") := ⟨by kernel_rfl, by kernel_rfl, by kernel_rfl⟩
theorem law_join {prog p : Program} {loose : List Str} {mean : ExcName → Option Value} {w : World} {K : Frag} {s1 : Shared} {mg mb : Str → Option Value} (C : Chk K w.params) (KX : K.In s1.heap) (T : Top p loose mean mg mb s1.heap) (hi : importsNone p = true)
  {name : Str} {scope : Scope} {fa : Addr} {cd : Value} {h1 : Heap} {m0 : Str → Option Value} (F : Fr s1.heap s1.heap.objs.size h1 m0) {w2 : Addr} {vs : List Value} {ns : List Int} (hL : s1.heap.IsList w2 vs.toArray) (hI : IntsAre vs ns) (hlen : ¬ ((63 : Nat) : Int) < (ns.length : Int)) (hg : s1.gens = #[])
  (hm : m0 (sOf wScript) = some (.ref w2)) (hk : scope.kind = .function) (hnd : nodupB (scope.names.map (·.1)) = true) (h0 : scope.names[0]? = some (sOf wScript, .local)) (h1' : scope.names[1]? = some (sOf wHead, .local)) (h2 : scope.names[2]? = some (sOf wText, .local))
  {tk : Nat} {dr : Drawn} {sts rest : List PySem.Stmt} {E : Value → Shared → Prop} {Q : Flow → Shared → Prop}
  {h t ss1 s2 s3 x e j : Str} {hp tp q1 q2 q3 q4 q5 q6 q7 q8 q9 q10 q11 q12 q13 p1 px apos cpos pos : Pos} {k1 k2 k3 k4 k5 : Nat} {elt : PySem.Expr} {sc : Scope}
  (hst : sts = .Assign [.Name h hp] (.IfExp (.Name ss1 q1) (.Subscript (.Name s2 q2) (.Constant (.int 0) k1 q3) q4) (.Constant (.int 0) k2 q5) q6) q7 :: .Assign [.Name t tp] (.Call (.Attribute (.Constant (.str e) k3 p1) j apos) [.ListComp elt [⟨.Name x px, .Subscript (.Name s3 q8) (.Slice (some (.Constant (.int 1) k4 q9)) (some (.Constant (.int 25) k5 q10)) none q11) q12, [], 0⟩] sc cpos] [] pos) q13 :: rest)
  (d1 : h = sOf wHead ∧ ss1 = sOf wScript ∧ s2 = sOf wScript) (d2 : t = sOf wText ∧ e = sOf [] ∧ j = ("join" : Str) ∧ x = sOf [110]) (d3 : s3 = sOf wScript ∧ sc.names = cnSig ∧ sc.kind = .function) (d4 : okE cnSig globsX 20 pSig elt = true) (d5 : (apos.endLine == pos.line) = true) (d6 : all2 (okS scope.names globs0 20) (b_law.drop 2) rest = true)
  (hQ : ∀ s' : Shared, (∀ b o, s1.heap.get? b = some o → s'.heap.get? b = some o) → s'.os = s1.os → s'.gens = #[] → Q (.ret (.bool true)) s') :
  wpAny (model prog w) (callerA.deeper (envOf name scope s1.heap.objs.size fa cd)) (execs sts (envOf name scope s1.heap.objs.size fa cd)) Q E { heap := h1, gens := s1.gens, drawn := dr, toks := tk + 1, os := s1.os } := by
 let Y : Sys := ⟨prog, w, K, s1.heap, mg, mb, 166, 73, 148⟩
 have ne : ∀ x : List Nat, (x == [95, 95, 110, 97, 109, 101, 95, 95]) = false → sOf x ≠ ("__name__" : Str) := fun x hx q => by
  have q2 : sOf x = sOf [95, 95, 110, 97, 109, 101, 95, 95] := q.trans (by decide +kernel)
  rw [sOf_inj.mp q2] at hx; cases hx
 have O : Y.Ok := ⟨KX, T.g, T.b, T.nolimit, let ⟨_, ⟨o, _, _, q, _⟩, _⟩ := (T.seer hi).mods; ⟨o, q⟩⟩
 have B : Base Y := ⟨O, C.facts, C.hash, (T.builtins _ (ne _ rfl)).trans boots.1, (T.builtins _ (ne _ rfl)).trans boots.2.1, rfl, rfl, rfl⟩
 have X : Xs Y := { B with xchr := C.xchr, xord := C.xord, xsig := C.xsig, bchr := (T.builtins _ (ne _ rfl)).trans boots.2.2 }
 have TX := TX_ok X
 have H : Tops Y := { B with fns := C.fns, binds := C.binds, low := low_fn O TX C.low C.lowb, small := low_fn O TX C.small C.smallb, m73 := C.m73, m166 := C.m166, m762 := C.m762 }
 have hnone : ∀ o, s1.heap.get? s1.heap.objs.size ≠ some o := fun o q => Nat.lt_irrefl _ (Heap.lt_size q)
 let g : G := ⟨[], fun b => if b = s1.heap.objs.size then .other else .free⟩
 have R : RS Y g s1.heap.objs.size scope.names (some (.val (.ref w2)) :: List.replicate 17 none) [] { heap := h1, gens := s1.gens, drawn := dr, toks := tk + 1, os := s1.os } { heap := h1, gens := s1.gens, drawn := dr, toks := tk + 1, os := s1.os } := by
  refine ⟨⟨F.keep, fun b o q => ?_, rfl, fun i o q => (nO q), fun b q => ?_, rfl, rfl, rfl, Nat.succ_pos _⟩, if_pos rfl, m0, F.ns, fun k x a q3 q4 => ?_⟩
  ·show (if b = s1.heap.objs.size then Own.other else .free) = _
   rw [if_neg]
   rintro rfl
   exact hnone _ q
  ·by_cases hb : b = s1.heap.objs.size
   ·subst hb
    obtain ⟨o, _, _, q5, _⟩ := F.ns
    exact ⟨o, q5⟩
   ·exact absurd (if_neg hb) q
  ·cases k with
   | zero =>
    rw [h0] at q3
    cases q3
    cases q4
    exact ⟨_, hm, by unfold RelV; rfl⟩
   | succ k =>
    rw [List.getElem?_cons_succ, List.getElem?_replicate] at q4
    split at q4 <;> cases q4
 have hD : Deep 8 (callerA.deeper (envOf name scope s1.heap.objs.size fa cd)) := ⟨(by decide : (1 + claimMargin) + 1 + 3 * 8 < 990), (by decide : 4 + 3 + 100 + 10 * 8 < 9000), rfl⟩
 refine law_body (Y := Y) (L := s1.heap.objs.size) (names := scope.names) (g := g) H X ⟨hk, rfl, nbN hnd, rfl, rfl, rfl⟩ hD h0 h1' h2 hL hI (by omega) hst d1 d2 d3 d4 d5 d6 R fun g' s' ob' R' _ => ?_
 exact hQ s' R'.keep R'.os (R'.gens.trans hg)
namespace main
def tw11491561049074302082:=Nat
def tw11156056980113079860:=Nat
def tw8695524101365902355:=Nat
def tw8653389485811777663:=Nat
def tw8460393628821922486:=Nat
def tw16826212616301561204:=Nat
def tw1734038950759603844:=Nat
def tw9325587581009544774:=Nat
def tw245345280340631454:=Nat
def tw5451317232050628999:=Nat
def tw7350554884032477566:=Nat
def tw7901126011190779259:=Nat
def tw11026368017406528944:=Nat
def tw4561105241695004074:=Nat
def tw13565518394914824834:=Nat
def tw16170375726192610265:=Nat
def tw4124465007535222370:=Nat
def tw11225645599760410699:=Nat
def tw681127517646744459:=Nat
def tw16688187236449151857:=Nat
def tw8002178612008165639:=Nat
def tw12519306246395310219:=Nat
def tw17236958762192778904:=Nat
def tw15294211896409635767:=Nat
def tw17297283025540448806:=Nat
def tw11181722664286889309:=Nat
def tw17298271098590275757:=Nat
def tw16153842264607907944:=Nat
def tw10813080517026676716:=Nat
def tw1544020853599562407:=Nat
def tw15950006927108054178:=Nat
def tw2456247091588846565:=Nat
def tw15593309334025535782:=Nat
def tw13447304073604360266:=Nat
def tw892681787802806017:=Nat
def tw5102715291955495162:=Nat
def tw13110577991587790113:=Nat
def tw11916895729686876088:=Nat
def tw6164561884633627433:=Nat
def tw12747388180105724736:=Nat
def tw6702130215012162313:=Nat
def tw15580989882048331800:=Nat
def tw6298394922185409918:=Nat
def tw18325589031809861271:=Nat
def tw10149618387772673413:=Nat
def tw9274054859765456524:=Nat
def tw6535589618603614281:=Nat
def tw15558288988949320067:=Nat
def tw2900998541784483753:=Nat
def tw17474269916031935128:=Nat
def tw15670109119070698982:=Nat
def tw8528285597010949478:=Nat
def tw12530995576970511020:=Nat
def tw9389665374557996460:=Nat
def tw15556330048392946422:=Nat
def tw14755733875199540201:=Nat
def tw2847738043507502446:=Nat
def tw3814186520784112166:=Nat
def tw11041547156204584376:=Nat
def tw1306636233014830658:=Nat
def tw14806125269305119590:=Nat
def tw5186916860251794821:=Nat
def tw10210597933619972095:=Nat
def tw4887914996728235509:=Nat
def tw2085318621824738512:=Nat
def tw6254453501864316152:=Nat
def tw1402309974066972641:=Nat
def tw14814594519894181452:=Nat
def tw820145642477177705:=Nat
def tw372505627349444580:=Nat
def tw12245857906982125569:=Nat
def tw7929128423345735474:=Nat
def tw8060562821785662972:=Nat
def tw6862268138105152660:=Nat
def tw15672986146971166658:=Nat
def tw1142173933681417890:=Nat
def tw1519992759497675636:=Nat
def tw6907636171062424033:=Nat
def tw8344883900605922461:=Nat
def tw5527929279227188259:=Nat
def tw14554314840745968623:=Nat
def tw16338599768312175441:=Nat
def tw15554039934745177238:=Nat
def tw11967333016625521393:=Nat
def tw16707527281638135014:=Nat
def tw16357356043003861740:=Nat
def tw14640416626631428029:=Nat
def tw8496349624203035976:=Nat
def tw3203809635103463919:=Nat
def tw2021556316718937628:=Nat
def tw9558744834307401277:=Nat
def tw244467455267321384:=Nat
def tw10733187975300939785:=Nat
def tw563973728909168745:=Nat
def tw1707505545463187130:=Nat
def tw10669944970481658594:=Nat
def tw6117098260805541702:=Nat
def tw15461212566085484399:=Nat
def tw12748397558918655664:=Nat
def tw12751799325998411230:=Nat
def tw3583811862363856187:=Nat
def tw17227442419121036007:=Nat
def tw11728771520666845194:=Nat
def tw2173562974560187446:=Nat
def tw11712081513822626495:=Nat
def tw7884331609784382070:=Nat
def tw3635900802997115186:=Nat
def tw10939538800803721631:=Nat
def tw6214117541549086881:=Nat
def tw16057503054469045564:=Nat
def tw13187166440333854079:=Nat
def tw6910295442248876197:=Nat
def tw10453263994017694363:=Nat
def tw358491910552652209:=Nat
def tw2402762420636078793:=Nat
def tw11815829001073249272:=Nat
def tw11814867827210800679:=Nat
def tw12987577155417789579:=Nat
def tw4039676971129161736:=Nat
def tw13980345723018547825:=Nat
def tw10242657825688863476:=Nat
def tw7624293977416268664:=Nat
def tw16026775910206950810:=Nat
def tw7943094425149488825:=Nat
def tw13803360072150633466:=Nat
def tw15643365686152983790:=Nat
def tw16962576782160293788:=Nat
def tw896017019891655293:=Nat
def tw16952715711813285254:=Nat
def tw5995161000843957690:=Nat
def tw1178595665728414349:=Nat
def tw5461779845614304980:=Nat
def tw6741292078354696603:=Nat
def tw7008153826215325649:=Nat
def tw2287757881348798766:=Nat
def tw2555861160798251974:=Nat
def tw13777938177461255882:=Nat
def tw9508770018378322450:=Nat
def tw14907226015203709474:=Nat
def tw13572980719466306388:=Nat
def tw11101190512080308003:=Nat
def tw6877560268529008848:=Nat
def tw4409510580461579534:=Nat
def tw16187894506366716058:=Nat
def tw10092017014551392330:=Nat
def tw11403970630465759474:=Nat
def tw4681395471914393968:=Nat
def tw7374449385936029500:=Nat
def tw1632041292262086317:=Nat
def tw16757190730947197508:=Nat
def tw5665735395497279834:=Nat
def tw12927740378394474205:=Nat
def tw3562595001068472590:=Nat
def tw14027650596787315314:=Nat
def tw2583023086579268501:=Nat
def tw5613160597433933154:=Nat
def tw8102450764968551371:=Nat
def tw4871624949866520906:=Nat
def tw451873465583785326:=Nat
def tw17118054049896295152:=Nat
def tw2039954845988140816:=Nat
def tw10625486282989778954:=Nat
def tw955993832684835811:=Nat
def tw1678875084529416142:=Nat
def tw18406820200293129166:=Nat
def tw4333880214566435006:=Nat
def tw5671064798259553346:=Nat
def tw6801380410627298636:=Nat
def tw10707853282979444102:=Nat
def tw9302470337196694018:=Nat
def tw17679725944135375923:=Nat
def tw66260789543402106:=Nat
def tw13667920496262714385:=Nat
def tw17052023290607921161:=Nat
def tw834873547066669988:=Nat
def tw18438843042052247593:=Nat
def tw9006321595064636914:=Nat
def tw16251939892948500945:=Nat
def tw8996212591421123362:=Nat
def tw104360540948158410:=Nat
def tw9656510801202774680:=Nat
def tw1157997071576566072:=Nat
def tw13113777628852026922:=Nat
def tw7780446386730421317:=Nat
def tw8663697691656813868:=Nat
def tw15270170921892066516:=Nat
def tw11469148683815294839:=Nat
def tw3299218664060906527:=Nat
def tw8947760058931562597:=Nat
def tw221909299271738847:=Nat
def tw6862492499505807319:=Nat
def tw15097543051748444868:=Nat
def tw11643815928222810078:=Nat
def tw18029164874364165131:=Nat
def tw2724176850512262202:=Nat
def tw9054027147675381713:=Nat
def tw16320729459185622934:=Nat
def tw17715262827843222689:=Nat
def tw11554813239044494598:=Nat
def tw3951913103685366658:=Nat
def tw12118360930388700471:=Nat
def tw5240779543111244032:=Nat
def tw8475525182357872103:=Nat
def tw4046449949787424452:=Nat
def tw14313061170024940013:=Nat
def tw17223442867436993403:=Nat
def tw12483276189755474720:=Nat
def tw15768048840197415361:=Nat
def tw722433290690908527:=Nat
def tw8756518407330761489:=Nat
def tw17737603089517620647:=Nat
def tw7019240024125815769:=Nat
def tw1318968915056948652:=Nat
def tw16923884221124529275:=Nat
def tw12304082900475741265:=Nat
def tw1610520696219057239:=Nat
def tw387501639795913443:=Nat
def tw2279047495162143687:=Nat
def tw15803610866087392283:=Nat
def tw12431731261707249289:=Nat
def tw8096190563154859447:=Nat
def tw8984930932524396370:=Nat
def tw14009396871252706886:=Nat
def tw14662554035588321541:=Nat
def tw8567518541235275850:=Nat
def tw12839114828313443825:=Nat
def tw11710404883906591787:=Nat
def tw3137596982192898869:=Nat
def tw16629339528299215175:=Nat
def tw13355152605343272895:=Nat
def tw15737690656516749961:=Nat
def tw5378808338967829844:=Nat
def tw10821422270917381399:=Nat
def tw8249873531624179374:=Nat
def tw6545385358150927430:=Nat
def tw18442785490491869365:=Nat
def tw18284262389922463811:=Nat
def tw5240536507193477226:=Nat
def tw5477019107358212144:=Nat
def tw4297412468100583042:=Nat
def tw6541472054586571296:=Nat
def tw15955573374722617477:=Nat
def tw9653258972835725974:=Nat
def tw440032029612755421:=Nat
def tw5401703158475992631:=Nat
def tw15282798724139172088:=Nat
def tw5768018617931124328:=Nat
def tw11548542833958708988:=Nat
def tw9805168224760091760:=Nat
def tw9432497158254318119:=Nat
def tw9121559901702372667:=Nat
def tw7884273913378172499:=Nat
def tw6519269512792494810:=Nat
def tw613567027398061577:=Nat
def tw5797031442667253490:=Nat
def tw4749052000479324790:=Nat
def tw4365514962571936147:=Nat
def tw4350604851675314991:=Nat
def tw4156125974679941130:=Nat
def tw3609762217373132089:=Nat
def tw3394367416137920725:=Nat
def tw2923286348875671695:=Nat
def tw2714283472998740243:=Nat
def tw18178676814319149831:=Nat
def tw17767330081159143506:=Nat
def tw17272174723667511238:=Nat
def tw1628013610222277130:=Nat
def tw15136431859952498927:=Nat
def tw1453356044741674121:=Nat
def tw11716418206903941319:=Nat
def tw11409991511011244131:=Nat
def tw15575723056732996420:=Nat
def tw13934608090901567409:=Nat
def tw11670399090076514202:=Nat
def tw17477492558424962760:=Nat
def tw8068379698969174043:=Nat
def tw11725999154989108132:=Nat
def tw7883848961242879871:=Nat
def tw5518243967957118194:=Nat
def tw15237998210293483671:=Nat
def tw10715366876728099628:=Nat
def tw6516198228755648517:=Nat
def tw6511744376749373798:=Nat
def tw6056095068991171605:=Nat
def tw3626430660855392483:=Nat
def tw12205347405646519318:=Nat
def tw11904941031934877020:=Nat
def tw8928990268580360915:=Nat
def tw11490900464029743698:=Nat
def tw961187720498965250:=Nat
def tw9293455121233016472:=Nat
def tw6674386428176565332:=Nat
def tw6183352029847204284:=Nat
def tw4540862073306924251:=Nat
def tw4244067443239231564:=Nat
def tw3374421720907634814:=Nat
def tw3314904115985164895:=Nat
def tw2675658811408624930:=Nat
def tw2279707942289718827:=Nat
def tw1781223760143429554:=Nat
def tw17699438841360665129:=Nat
def tw16863156106696720372:=Nat
def tw1615045767204293396:=Nat
def tw15060185592220127646:=Nat
def tw14097447854668400296:=Nat
def tw13965128551521907918:=Nat
def tw11962923498438245051:=Nat
def tw11614346279706655073:=Nat
def tw10474107093616326617:=Nat
def tw17958375852430007124:=Nat
def tw10367043833027533253:=Nat
def tw6886502059237256666:=Nat
def tw2261811237465622523:=Nat
def tw13626721169425172152:=Nat
def tw12518504611687188807:=Nat
def tw3731879374237491455:=Nat
def tw13972245371655741198:=Nat
def tw12455012482086183272:=Nat
def tw3985830497718990404:=Nat
def tw1211270941048087907:=Nat
def tw17561988444067696992:=Nat
def tw5372645768047454471:=Nat
def tw7554534293552944094:=Nat
def tw17262041522474090127:=Nat
def tw14539993770535171780:=Nat
def tw10450603732522932521:=Nat
def tw15303317825217679618:=Nat
def tw9563168847844234846:=Nat
def tw4210618832060959676:=Nat
def tw4193505271845495863:=Nat
def tw1261021989165538067:=Nat
def tw7699798408344515789:=Nat
def tw6697339332421208802:=Nat
def tw10234815189450012239:=Nat
def tw2895952525429962455:=Nat
def tw7214478077546791972:=Nat
def tw6912675738884088206:=Nat
def tw2406621943657119228:=Nat
def tw14390754486103292620:=Nat
def tw9184045479044318644:=Nat
def tw6570437773673931950:=Nat
def tw4926259647451002352:=Nat
def tw17445186720391901401:=Nat
def tw14011416340940902608:=Nat
def tw12755441557018050348:=Nat
def tw6642858168728409138:=Nat
def tw9897820754763898449:=Nat
def tw9417822746687237092:=Nat
def tw917386388269078853:=Nat
def tw8707812797481193996:=Nat
def tw8652556701797213591:=Nat
def tw8436210846270712021:=Nat
def tw8404659333953806752:=Nat
def tw833945537157984683:=Nat
def tw8079908401900000222:=Nat
def tw7761410557224570781:=Nat
def tw7139307881021679148:=Nat
def tw6914184659022975773:=Nat
def tw6655696309031964122:=Nat
def tw6584820252761975732:=Nat
def tw6341409668436394099:=Nat
def tw6237627108579964202:=Nat
def tw6072795283324543088:=Nat
def tw5567732340971880690:=Nat
def tw5456330333991267789:=Nat
def tw4812270449578504274:=Nat
def tw474381771622712015:=Nat
def tw4638281056170512193:=Nat
def tw4630824681090250767:=Nat
def tw453184122279072053:=Nat
def tw4324958949535026087:=Nat
def tw4139100593308808776:=Nat
def tw4036238207498611232:=Nat
def tw3220561703981169602:=Nat
def tw2794983428953441941:=Nat
def tw2729793432009153956:=Nat
def tw2704602940660078815:=Nat
def tw18385570937342765463:=Nat
def tw18238007617527299592:=Nat
def tw18063282731904131703:=Nat
def tw17403364634526059139:=Nat
def tw17096532924672817327:=Nat
def tw16891041157754790011:=Nat
def tw16723884430069596700:=Nat
def tw16689149305811164139:=Nat
def tw16008252555379753968:=Nat
def tw15984706205718930553:=Nat
def tw15957597259013190341:=Nat
def tw15445229340043853549:=Nat
def tw15312040371321221727:=Nat
def tw15017983477296125989:=Nat
def tw14457758005677747962:=Nat
def tw14368271195830560734:=Nat
def tw14364048958407549093:=Nat
def tw14336716466608126219:=Nat
def tw13797323745857372409:=Nat
def tw13350764725976880583:=Nat
def tw13227692790652741651:=Nat
def tw13148611719377898607:=Nat
def tw12974819211118642341:=Nat
def tw12900284412222446716:=Nat
def tw12885385263037960081:=Nat
def tw12800608258095302798:=Nat
def tw12741544251441588921:=Nat
def tw12431561837914552411:=Nat
def tw12298629886278197574:=Nat
def tw1216228984421328439:=Nat
def tw12130321265151566525:=Nat
def tw11982392923317675503:=Nat
def tw11463369355524808266:=Nat
def tw11390293659975261258:=Nat
def tw11020365191643786025:=Nat
def tw11003572833241299968:=Nat
def tw10992214633131536827:=Nat
def tw10876375607700338302:=Nat
def tw10864377008497418100:=Nat
def tw10483362588635715401:=Nat
def tw10363585996791799541:=Nat
def tw3558987517978398910:=Nat
def tw3027586509356016917:=Nat
def tw9265829497004654079:=Nat
def tw5649967823195072380:=Nat
def tw5400957986263281647:=Nat
def tw4990475226369331113:=Nat
def tw4900431672193113347:=Nat
def tw15485851114877660061:=Nat
def tw14639212616227390028:=Nat
def tw13503263706703578961:=Nat
def tw2906824675625879941:=Nat
def tw8905992674379837232:=Nat
def tw6385024630547198690:=Nat
def tw13590572293223372214:=Nat
def tw8466321980469482115:=Nat
def tw6425626318312657004:=Nat
def tw5464139401052260700:=Nat
def tw5460091804258272057:=Nat
def tw4977165927707633593:=Nat
def tw2815835355862285053:=Nat
def tw2496676261509829067:=Nat
def tw2259866600804224517:=Nat
def tw18403998269306519403:=Nat
def tw17817656438006933710:=Nat
def tw16972566868458125486:=Nat
def tw16901679771719207805:=Nat
def tw15772080087578916929:=Nat
def tw15446329576048744955:=Nat
def tw14722489848711283861:=Nat
def tw13478642292854932123:=Nat
def tw13429379312604010019:=Nat
def tw12252054271945606052:=Nat
def tw11544348965984651327:=Nat
def tw18134284020713443437:=Nat
def tw10896356407431480244:=Nat
def tw480701840831765632:=Nat
def tw3466206800631347469:=Nat
def tw17726818538635551376:=Nat
def tw1439166485080882:=Nat
def tw8643928048826747898:=Nat
def tw8228058824784995430:=Nat
def tw10717781254789130011:=Nat
def tw18165044119631177899:=Nat
def tw379899607457092286:=Nat
def tw4967792270526972898:=Nat
def tw17035731627637430848:=Nat
def tw14992222465124788362:=Nat
def tw8231103150381890471:=Nat
def tw7237411587787531456:=Nat
def tw9682133043923132273:=Nat
def tw854977524454699277:=Nat
def tw8546124895413445307:=Nat
def tw8046773169563483271:=Nat
def tw7668756792840097458:=Nat
def tw7108953243070827183:=Nat
def tw6087835443962453003:=Nat
def tw545269030811804461:=Nat
def tw5436791530062809996:=Nat
def tw5287059835090251167:=Nat
def tw5160751907100791332:=Nat
def tw4650958065196391918:=Nat
def tw4330594992337426955:=Nat
def tw3404965551341049163:=Nat
def tw3343439749351644125:=Nat
def tw3305931106042330821:=Nat
def tw2821470743931037460:=Nat
def tw2653321512126949328:=Nat
def tw2215267417292685860:=Nat
def tw17904854198161793398:=Nat
def tw17456035664235451855:=Nat
def tw17147588175821073265:=Nat
def tw16819838333489098493:=Nat
def tw16817993663026736274:=Nat
def tw16765925921980633802:=Nat
def tw16508919721030705984:=Nat
def tw16022572192331126682:=Nat
def tw15970538086172389420:=Nat
def tw15438212644395081984:=Nat
def tw1519927702969063271:=Nat
def tw1336659820572712380:=Nat
def tw1277820614484962519:=Nat
def tw12450111651097656602:=Nat
def tw11261727412033496967:=Nat
def tw11125538497796368324:=Nat
def tw9581019380814227218:=Nat
def tw7411558596216406370:=Nat
def tw2058021452347087232:=Nat
def tw17450470499104002142:=Nat
def tw11092141859048813250:=Nat
def tw4452170602077327944:=Nat
def tw15949526494057022110:=Nat
def tw14635473669698735251:=Nat
def tw2759098988195820126:=Nat
def tw5004366561265856203:=Nat
def tw14805756002866571830:=Nat
def tw3724484323120607773:=Nat
def tw9994787619460420439:=Nat
def tw9747897558166968733:=Nat
def tw9211707205177423737:=Nat
def tw8557395850702784662:=Nat
def tw8344989883159853150:=Nat
def tw6921685317656363116:=Nat
def tw6855474311058116810:=Nat
def tw6590341273101898363:=Nat
def tw6252391252262179987:=Nat
def tw6234934611588079204:=Nat
def tw495442525896006271:=Nat
def tw3864431920445960829:=Nat
def tw3240935880901042570:=Nat
def tw3234112476842188716:=Nat
def tw18120430973489738927:=Nat
def tw17871620999419790863:=Nat
def tw17600866488970185278:=Nat
def tw16832360635688203351:=Nat
def tw16721930046160240684:=Nat
def tw16355746345580011080:=Nat
def tw16135426469972691074:=Nat
def tw15595112118272840620:=Nat
def tw14798791472264738832:=Nat
def tw14637806741061077295:=Nat
def tw14535484193269619989:=Nat
def tw12346658559823942425:=Nat
def tw12332102779922042578:=Nat
def tw10825838108423173272:=Nat
def tw10455743928339290457:=Nat
def tw10298723112805639129:=Nat
def tw6140287776057189764:=Nat
def tw4651154628705390771:=Nat
def tw17292155258170135553:=Nat
def tw9840939614602229412:=Nat
def tw9361300454564663673:=Nat
def tw18421580907717582127:=Nat
def tw13642826006792871662:=Nat
def tw10418042200766032776:=Nat
def tw2019394398466159022:=Nat
def tw12608185968620612914:=Nat
def tw8478376212529829071:=Nat
def tw1409966394225722968:=Nat
def tw9512817274939609580:=Nat
def tw17974016328880235120:=Nat
def tw12590340796369385619:=Nat
def tw10665089971535097683:=Nat
def tw9498315638749924794:=Nat
def tw8989776476301544223:=Nat
def tw3881243767933311072:=Nat
def tw16778611742570070204:=Nat
def tw9190990891756207365:=Nat
def tw4839478117068044826:=Nat
def tw33456957511925785:=Nat
def tw2629084897520917108:=Nat
def tw1850612553970854742:=Nat
def tw1826329307503635854:=Nat
def tw14672674291997333471:=Nat
def tw12361340156312767134:=Nat
def tw4908570168794737769:=Nat
def tw4475767826048309731:=Nat
def tw9406782406253462049:=Nat
def tw8828626079734051433:=Nat
def tw8624498521744291746:=Nat
def tw8421283082012440161:=Nat
def tw8394416109485655870:=Nat
def tw7487416344156704005:=Nat
def tw6935676897619631941:=Nat
def tw4966469486753893531:=Nat
def tw4370134204219402791:=Nat
def tw4034048572721927537:=Nat
def tw3464005467892915075:=Nat
def tw3197156666308221516:=Nat
def tw3033261876257692807:=Nat
def tw2672093188730551128:=Nat
def tw16798207577519904205:=Nat
def tw16142765227538719955:=Nat
def tw15326346284793698685:=Nat
def tw14136325212780177784:=Nat
def tw12134908399292295839:=Nat
def tw11676816360460091147:=Nat
def tw11119146913839337285:=Nat
def tw10567084921333377638:=Nat
def tw10543740743216835930:=Nat
def tw10255180020182114038:=Nat
def tw9925469786538053656:=Nat
def tw9247501659233101145:=Nat
def tw6283666216762299864:=Nat
def tw4637267157515435788:=Nat
def tw3422715526262721465:=Nat
def tw223528310411579522:=Nat
def tw17675563975411571412:=Nat
def tw16932134980577923087:=Nat
def tw15631942387314964779:=Nat
def tw14747868875625980864:=Nat
def tw9964214247947446159:=Nat
def tw9957550378297406723:=Nat
def tw9942282790977331292:=Nat
def tw9939699701984659387:=Nat
def tw9903775340124721222:=Nat
def tw9880953963774564861:=Nat
def tw983542388872702638:=Nat
def tw9808303207383738048:=Nat
def tw9756827057097773860:=Nat
def tw9716624006974247489:=Nat
def tw9703084557020090508:=Nat
def tw9693634834776466397:=Nat
def tw9681375758050803366:=Nat
def tw9626384672669237482:=Nat
def tw962193829226610041:=Nat
def tw962032349192862916:=Nat
def tw9561784451562097942:=Nat
def tw9557352009045844224:=Nat
def tw9515011664573035354:=Nat
def tw9483696857397876608:=Nat
def tw9483120023164983764:=Nat
def tw9458421452666605423:=Nat
def tw9394770849952503311:=Nat
def tw9392487213469676918:=Nat
def tw9381886862466946253:=Nat
def tw9381277316556691805:=Nat
def tw9376575566392132001:=Nat
def tw9368617206455126095:=Nat
def tw9360745474812902239:=Nat
def tw9321267617633783869:=Nat
def tw9303439499767911484:=Nat
def tw9287587430799945685:=Nat
def tw9272984997812220495:=Nat
def tw9253799994812790149:=Nat
def tw9189880136782149556:=Nat
def tw918671981122897330:=Nat
def tw9175052073728820173:=Nat
def tw9131807755668617818:=Nat
def tw9071729483887776986:=Nat
def tw9069182735580402390:=Nat
def tw8952462522180670554:=Nat
def tw8934699018898702947:=Nat
def tw8903568455446660058:=Nat
def tw8883465813499100731:=Nat
def tw8844999433837080629:=Nat
def tw8834365191522931223:=Nat
def tw8809968196449919288:=Nat
def tw8748973510418095054:=Nat
def tw8729708805864041840:=Nat
def tw8708525158762292434:=Nat
def tw8681388529863501421:=Nat
def tw8651587035891514320:=Nat
def tw8634654232796393261:=Nat
def tw8627561154394265716:=Nat
def tw861011362418597151:=Nat
def tw8548823596671561066:=Nat
def tw8484041278411425421:=Nat
def tw8440099810896429113:=Nat
def tw8419495778230234659:=Nat
def tw8402242094647718915:=Nat
def tw8312829660672013939:=Nat
def tw8281396171620568247:=Nat
def tw8265370782698574782:=Nat
def tw8260724100714396741:=Nat
def tw8127475511531132179:=Nat
def tw8125125469695226666:=Nat
def tw8118072479153026202:=Nat
def tw799486724532869496:=Nat
def tw7974275031393228247:=Nat
def tw793299525264137939:=Nat
def tw7860819179221955721:=Nat
def tw7788533954027902341:=Nat
def tw7751025194823839400:=Nat
def tw7742616358663508648:=Nat
def tw7697417962357392202:=Nat
def tw7697325545964645800:=Nat
def tw7691172733374981047:=Nat
def tw7675930258259734528:=Nat
def tw765107192605250810:=Nat
def tw7647378279178456250:=Nat
def tw7624122152786673341:=Nat
def tw7623511443260959870:=Nat
def tw7623509227018997848:=Nat
def tw7591743695986301205:=Nat
def tw7563215957194029611:=Nat
def tw7530017696762252536:=Nat
def tw7521444476212097132:=Nat
def tw7514964652732493775:=Nat
def tw7472237861779093752:=Nat
def tw7394006948641179287:=Nat
def tw73751810991705359:=Nat
def tw7358942708152152329:=Nat
def tw734625210370093676:=Nat
def tw7332552209862256014:=Nat
def tw7299474751278700455:=Nat
def tw7293704977770490947:=Nat
def tw7273056430967151046:=Nat
def tw7268301785047649679:=Nat
def tw7235775444256392728:=Nat
def tw7186131708394509389:=Nat
def tw7165207203227711834:=Nat
def tw716429049611869786:=Nat
def tw7153082081811710619:=Nat
def tw7142256002058171272:=Nat
def tw7113585516715319716:=Nat
def tw7093617532817203218:=Nat
def tw7083192437325867461:=Nat
def tw7073996269223845280:=Nat
def tw7070123817558143148:=Nat
def tw7054876372555587774:=Nat
def tw7000664437366286474:=Nat
def tw6981815665589151136:=Nat
def tw6981580820607432535:=Nat
def tw6868236387235032019:=Nat
def tw6785657489111691699:=Nat
def tw6768520987592691376:=Nat
def tw6690441779611380620:=Nat
def tw6674893403203295414:=Nat
def tw6663778134991626487:=Nat
def tw6660377722381337597:=Nat
def tw6657087868060814:=Nat
def tw6640438233256266117:=Nat
def tw6639522245352263942:=Nat
def tw6635558491612396129:=Nat
def tw6632538468102435922:=Nat
def tw6605025701479795990:=Nat
def tw6596593509180878263:=Nat
def tw6565609875121592624:=Nat
def tw65644731488775911:=Nat
def tw6564366825971848878:=Nat
def tw656089360051881306:=Nat
def tw6559806142732475569:=Nat
def tw6542085627976250192:=Nat
def tw6512923179152221375:=Nat
def tw6483966928607899096:=Nat
def tw645136716886899192:=Nat
def tw6449824600675878752:=Nat
def tw6437645805973890128:=Nat
def tw6418202794160714309:=Nat
def tw6418098437765475518:=Nat
def tw6404898279339705064:=Nat
def tw6389877041954997217:=Nat
def tw6361450105264607166:=Nat
def tw6334894449686545209:=Nat
def tw6264281720289328834:=Nat
def tw6162249291895867263:=Nat
def tw6161133996638707016:=Nat
def tw6137908229700043457:=Nat
def tw6106196091520820027:=Nat
def tw6053611964639427726:=Nat
def tw6044114016751833949:=Nat
def tw5900072995565114194:=Nat
def tw588950844065142505:=Nat
def tw5873463020976553958:=Nat
def tw5870225077901225703:=Nat
def tw5865035375444044283:=Nat
def tw5842977544298395883:=Nat
def tw5839530249802149432:=Nat
def tw5837888446457221635:=Nat
def tw5831584030425509755:=Nat
def tw5790326737455844299:=Nat
def tw5781596087445459943:=Nat
def tw5665406974723832613:=Nat
def tw5623159541915647742:=Nat
def tw5616070069386785504:=Nat
def tw5534937755968359062:=Nat
def tw5517759331935216279:=Nat
def tw5502569546826302122:=Nat
def tw54841869916938688:=Nat
def tw5473700226181020891:=Nat
def tw5435614590818080486:=Nat
def tw5418533224930618480:=Nat
def tw5396361742852586263:=Nat
def tw5363903885879670357:=Nat
def tw5352104535322881683:=Nat
def tw5343319030673445083:=Nat
def tw5309058905264134205:=Nat
def tw5303952258864922383:=Nat
def tw5289026146741335887:=Nat
def tw526373878138232175:=Nat
def tw5234446048077146213:=Nat
def tw52199770228462824:=Nat
def tw5203219222101121401:=Nat
def tw5181119749688162637:=Nat
def tw5104194264097766351:=Nat
def tw5102693214775723256:=Nat
def tw5084117380071580128:=Nat
def tw5061512775090418087:=Nat
def tw5010051100324977839:=Nat
def tw49674306023711395:=Nat
def tw4948327476702027199:=Nat
def tw4946776927847147119:=Nat
def tw4924694640843408985:=Nat
def tw4917070330192852093:=Nat
def tw4838787530573997063:=Nat
def tw4817600198373253283:=Nat
def tw4784553394551972577:=Nat
def tw4719957520787936630:=Nat
def tw471287901995484742:=Nat
def tw470481871638761223:=Nat
def tw4587069139193485165:=Nat
def tw4585930131862741453:=Nat
def tw452746233719593009:=Nat
def tw4502447428920916452:=Nat
def tw4500915450034043215:=Nat
def tw4491334807805099456:=Nat
def tw4420394385881154636:=Nat
def tw4413345314126155841:=Nat
def tw4385281892830598654:=Nat
def tw4370652028205933106:=Nat
def tw4359638763739663684:=Nat
def tw432790634136133436:=Nat
def tw4310270188432123100:=Nat
def tw4216741518440994707:=Nat
def tw4189750870438640210:=Nat
def tw4156893749530806270:=Nat
def tw4088224383575840552:=Nat
def tw4047586217144654443:=Nat
def tw4044139247061151142:=Nat
def tw3994622017586750766:=Nat
def tw3911810758690780188:=Nat
def tw3905226178654972811:=Nat
def tw3867218068155391060:=Nat
def tw3750506576032048294:=Nat
def tw3748114642381145586:=Nat
def tw3714520120236048840:=Nat
def tw3706830351922483016:=Nat
def tw3627144658338631552:=Nat
def tw3613476055612923068:=Nat
def tw3549514262204291990:=Nat
def tw3544752959273917758:=Nat
def tw3491332818749588091:=Nat
def tw3485684062173492111:=Nat
def tw341453280667917650:=Nat
def tw3370190323706015969:=Nat
def tw3342365933539840098:=Nat
def tw3298483428156984901:=Nat
def tw3288582142898991060:=Nat
def tw3222223853247747169:=Nat
def tw31828345220925962:=Nat
def tw3160845607165458772:=Nat
def tw3136416535801588117:=Nat
def tw3078062877239007290:=Nat
def tw3056878081241006185:=Nat
def tw302440914744352476:=Nat
def tw2965820268544440810:=Nat
def tw2923326968966308885:=Nat
def tw2921958311620399285:=Nat
def tw2921621734765799159:=Nat
def tw2855982326401850692:=Nat
def tw2744014450722944760:=Nat
def tw2709746457059553413:=Nat
def tw270496394426124508:=Nat
def tw2702614204127132176:=Nat
def tw2647654807098235363:=Nat
def tw2599750674813586877:=Nat
def tw2566753976717531306:=Nat
def tw2564707057010578714:=Nat
def tw2544328076492683441:=Nat
def tw2542808073141276813:=Nat
def tw2538046985915079169:=Nat
def tw2484414159333256978:=Nat
def tw2442773178527959075:=Nat
def tw2433702464844828792:=Nat
def tw2399826469436781019:=Nat
def tw2373237607127697691:=Nat
def tw234599468654550697:=Nat
def tw2343935838158425641:=Nat
def tw2341703837736514645:=Nat
def tw2287093442842179507:=Nat
def tw2278972029675796859:=Nat
def tw2225892363528398861:=Nat
def tw2190695567426971638:=Nat
def tw2156145737304315219:=Nat
def tw2136821422063795447:=Nat
def tw2127038452521536779:=Nat
def tw2110754180369666209:=Nat
def tw2033968301974640842:=Nat
def tw2007339730380871907:=Nat
def tw1980160206288974728:=Nat
def tw1886080085820668685:=Nat
def tw18431692314602308842:=Nat
def tw18392154025008590481:=Nat
def tw18344032359734412310:=Nat
def tw18342001204779339714:=Nat
def tw18328743936084910167:=Nat
def tw18317609476662902477:=Nat
def tw18315214858253571532:=Nat
def tw18314829044154829275:=Nat
def tw18288009448212308685:=Nat
def tw18190005008629794160:=Nat
def tw18162592725011693541:=Nat
def tw18046886581883190830:=Nat
def tw18031918436515192882:=Nat
def tw1800746815547063501:=Nat
def tw17920292393507637884:=Nat
def tw17906638245316424091:=Nat
def tw17864028415675338326:=Nat
def tw1777545030009416734:=Nat
def tw17749094844149355310:=Nat
def tw17734603463515337306:=Nat
def tw17708487481403421675:=Nat
def tw17659147809683748901:=Nat
def tw17647351573629430322:=Nat
def tw17644181745481072423:=Nat
def tw17563168436475441343:=Nat
def tw17495560712657236704:=Nat
def tw17453503289922162039:=Nat
def tw17431719831054627609:=Nat
def tw17413806152003534235:=Nat
def tw17413556829735388813:=Nat
def tw17353955331779342651:=Nat
def tw17298425922696826006:=Nat
def tw17290568124846718506:=Nat
def tw17275675667316583603:=Nat
def tw17268439761433841065:=Nat
def tw17201416709059790184:=Nat
def tw17185042187573640451:=Nat
def tw17144978775634262171:=Nat
def tw17128476026691140212:=Nat
def tw17128291446047057950:=Nat
def tw17110241357884498264:=Nat
def tw17067035981215421688:=Nat
def tw17057053908230417247:=Nat
def tw17028514697001254897:=Nat
def tw17025424565251489684:=Nat
def tw17016820405989369747:=Nat
def tw16989488325979979065:=Nat
def tw16965079339398995527:=Nat
def tw16959884160788844718:=Nat
def tw16950194794029067938:=Nat
def tw16922381011570985944:=Nat
def tw16806246253224384389:=Nat
def tw16790050636404226231:=Nat
def tw16784772322866675431:=Nat
def tw16676564476587882173:=Nat
def tw16651728564920304373:=Nat
def tw16544489699163171333:=Nat
def tw16501172079758305675:=Nat
def tw16480584520131690045:=Nat
def tw16452447596832230105:=Nat
def tw16451033083921036709:=Nat
def tw16411370214107742406:=Nat
def tw16396084126727719574:=Nat
def tw16320215318167395912:=Nat
def tw16292202817602668162:=Nat
def tw16235428439501865183:=Nat
def tw16218864148678617972:=Nat
def tw16193401482309157537:=Nat
def tw161903638078081290:=Nat
def tw16153351446899991344:=Nat
def tw16136984950599521427:=Nat
def tw16128220689672181975:=Nat
def tw16097269412956081036:=Nat
def tw1606137496264982490:=Nat
def tw16049902774474827687:=Nat
def tw16033097090804400913:=Nat
def tw16008457594558532635:=Nat
def tw1590763530083325563:=Nat
def tw1587290215689348708:=Nat
def tw15845428651173386099:=Nat
def tw15810667371194948217:=Nat
def tw15734660467963936456:=Nat
def tw15715279681875453748:=Nat
def tw15688281317961992914:=Nat
def tw15684375888932747349:=Nat
def tw15660686498588105780:=Nat
def tw15642941266545998023:=Nat
def tw15624239662980076321:=Nat
def tw15616401959046598769:=Nat
def tw15608450976537380609:=Nat
def tw15606653302220566414:=Nat
def tw15589955886551607785:=Nat
def tw15579395750891953841:=Nat
def tw15565075772751903193:=Nat
def tw15540984915698410164:=Nat
def tw1552421926411342777:=Nat
def tw15510692781650021527:=Nat
def tw15491723280356408159:=Nat
def tw1548279923187021627:=Nat
def tw15465920861327815835:=Nat
def tw15425874342098770709:=Nat
def tw15350898050860989542:=Nat
def tw15312394840280087653:=Nat
def tw15277975159832343749:=Nat
def tw15244097889725654702:=Nat
def tw15140838672463199983:=Nat
def tw15109750227778091905:=Nat
def tw15098031235356848795:=Nat
def tw15087427406127887449:=Nat
def tw15079240505294077160:=Nat
def tw15059693217772790739:=Nat
def tw1504049600530537962:=Nat
def tw15023316991559800185:=Nat
def tw15022946984557111684:=Nat
def tw1496695287857109588:=Nat
def tw14966384500751655702:=Nat
def tw14962632401376961426:=Nat
def tw14925635105145352654:=Nat
def tw14909365282108701170:=Nat
def tw14893090268090260817:=Nat
def tw14864641218109852296:=Nat
def tw14864636224205547913:=Nat
def tw14788915703135433725:=Nat
def tw14759895335926876869:=Nat
def tw14713023043418418522:=Nat
def tw14698241182937546978:=Nat
def tw14689642411216604063:=Nat
def tw14666387041718499266:=Nat
def tw14636892021812066514:=Nat
def tw14562738103837258888:=Nat
def tw1454224541498743561:=Nat
def tw14504180641510445567:=Nat
def tw14489535830319231195:=Nat
def tw14443092014599818573:=Nat
def tw14439473939278146460:=Nat
def tw14406990849044604362:=Nat
def tw14377180257169084997:=Nat
def tw14327529596952217943:=Nat
def tw14313897822631088780:=Nat
def tw1429040668314091153:=Nat
def tw14286279103370969706:=Nat
def tw14235155234550121937:=Nat
def tw14216407083858561409:=Nat
def tw14168887731352723522:=Nat
def tw14161465996007527954:=Nat
def tw14161005256144132680:=Nat
def tw1415428593365352553:=Nat
def tw14106445559736802775:=Nat
def tw14080665800827857628:=Nat
def tw14064073609400967072:=Nat
def tw14060465935940456498:=Nat
def tw14027531716089632829:=Nat
def tw14020873708864708748:=Nat
def tw13995172100960836882:=Nat
def tw13989496423458381343:=Nat
def tw13978478705568000493:=Nat
def tw13974046611088194958:=Nat
def tw13962693860625380366:=Nat
def tw13914785722749861914:=Nat
def tw1390771862084280389:=Nat
def tw13738235750113832370:=Nat
def tw1372806426800153423:=Nat
def tw13713940216889387898:=Nat
def tw13689083923384677848:=Nat
def tw13676971244355772609:=Nat
def tw13611986716879344365:=Nat
def tw13597483153833180358:=Nat
def tw13591255225166038476:=Nat
def tw1355085073191494161:=Nat
def tw13547569757486424058:=Nat
def tw13532707612510029741:=Nat
def tw13514204307011423542:=Nat
def tw13476453092275279800:=Nat
def tw13406003279186336099:=Nat
def tw13348322127785295214:=Nat
def tw13313126695403321540:=Nat
def tw13306352142949925410:=Nat
def tw13293747886898857621:=Nat
def tw13270728482189477470:=Nat
def tw13260870731297125680:=Nat
def tw13255245976751338989:=Nat
def tw1319676515408343850:=Nat
def tw13194694976546938235:=Nat
def tw13180746182150919023:=Nat
def tw13157206579259725088:=Nat
def tw13154001654789283132:=Nat
def tw13132915859168520264:=Nat
def tw13116522157475607773:=Nat
def tw13110970153573199417:=Nat
def tw13077236301305049449:=Nat
def tw12992176717851604617:=Nat
def tw12986061983710234785:=Nat
def tw12959741745000181155:=Nat
def tw12942913107403878096:=Nat
def tw12941917028564957548:=Nat
def tw12922898485456448571:=Nat
def tw12915833801598196605:=Nat
def tw12909650291622432550:=Nat
def tw1289389943133740499:=Nat
def tw12870486517592710932:=Nat
def tw12867379429370454646:=Nat
def tw12732289081945773324:=Nat
def tw12702744160499308131:=Nat
def tw1270039299266317192:=Nat
def tw1269329923203890863:=Nat
def tw12692632004510240207:=Nat
def tw12681957500809781501:=Nat
def tw12675357926760492328:=Nat
def tw12667108692942931566:=Nat
def tw12653679108036650311:=Nat
def tw12646911602827044314:=Nat
def tw12623159325031504133:=Nat
def tw12594366453804578888:=Nat
def tw12582173479537470380:=Nat
def tw12574995316784493246:=Nat
def tw12570134572688502250:=Nat
def tw12564604832814323664:=Nat
def tw1255815211270559930:=Nat
def tw12543713266681445118:=Nat
def tw12463224122652932544:=Nat
def tw12429675835336498981:=Nat
def tw1242282695825638017:=Nat
def tw12338497608069007261:=Nat
def tw12273490649430754879:=Nat
def tw12222963475772708484:=Nat
def tw12139096438432415106:=Nat
def tw12106859168716417752:=Nat
def tw12093647306153771053:=Nat
def tw12077450504624328385:=Nat
def tw12075919899556687040:=Nat
def tw12027323910402764344:=Nat
def tw11987853993630220354:=Nat
def tw1198661942849946583:=Nat
def tw11933201153402537488:=Nat
def tw11923525502935528744:=Nat
def tw1191263595243908205:=Nat
def tw1179421589518002546:=Nat
def tw11789403723227289746:=Nat
def tw11785714552879321826:=Nat
def tw11774690029378154688:=Nat
def tw11735423636902730196:=Nat
def tw11707585526205722907:=Nat
def tw11689664321512496715:=Nat
def tw11646826074482590764:=Nat
def tw11595355409239048105:=Nat
def tw1156462466702112376:=Nat
def tw1150287232629052791:=Nat
def tw11501822485730972192:=Nat
def tw11487549891475536569:=Nat
def tw11476092923266045095:=Nat
def tw11410963132546700228:=Nat
def tw11405101455947879731:=Nat
def tw11403851563620829512:=Nat
def tw11399646045708457374:=Nat
def tw11388154006635350966:=Nat
def tw11349898740250378076:=Nat
def tw1130211791997205004:=Nat
def tw11251407683458634364:=Nat
def tw11239335112260394413:=Nat
def tw11218778669853930896:=Nat
def tw11213863890663495067:=Nat
def tw11183452524601008856:=Nat
def tw1118068078248606362:=Nat
def tw11135027115929721415:=Nat
def tw11120327062377616369:=Nat
def tw11086099901593105684:=Nat
def tw11049269918873537771:=Nat
def tw11041858737867550897:=Nat
def tw11028137302277699333:=Nat
def tw11019096307435631222:=Nat
def tw11001617756164336837:=Nat
def tw1099256609624015869:=Nat
def tw10987386120367425466:=Nat
def tw1098248734344127483:=Nat
def tw10953687544409504101:=Nat
def tw10877679251791092727:=Nat
def tw10876229203375891673:=Nat
def tw1084220662915027778:=Nat
def tw10825349956297869744:=Nat
def tw10750994468655217958:=Nat
def tw10737556833816505880:=Nat
def tw10663580350406149668:=Nat
def tw10652611922669240339:=Nat
def tw10564528347858357063:=Nat
def tw10554957952762445534:=Nat
def tw1054321117371714560:=Nat
def tw10542905334921785414:=Nat
def tw1050151122526681168:=Nat
def tw1046443281632482020:=Nat
def tw10463206416058312583:=Nat
def tw10452441009100146310:=Nat
def tw10435530978670571659:=Nat
def tw1041082287264499562:=Nat
def tw10391951854915411234:=Nat
def tw10283388844273144081:=Nat
def tw1027651156746619712:=Nat
def tw10225356144477167704:=Nat
def tw10219080375879083632:=Nat
def tw10204856939554784155:=Nat
def tw10201359505653846880:=Nat
def tw10199874654664476236:=Nat
def tw10177057350305019805:=Nat
def tw10169072693733980587:=Nat
def tw10159738436595150677:=Nat
def tw10140136200207757160:=Nat
def tw10123989817122485451:=Nat
def tw10114013102757674387:=Nat
def tw10101900104965146230:=Nat
def tw10094358506670053839:=Nat
def tw10063615490667107986:=Nat
def tw10047389527955405517:=Nat
def tw10044588960856096794:=Nat
end main
set_option Elab.async true
set_option maxHeartbeats 8000000
set_option pp.deepTerms.threshold 8
theorem main : PySem.Challenge.rw_im0057_01.Holds := by
  w_on
  o_law
  k_head
  case hw => w_witness2
  k_fill
  intro w s₀ s₁ mg mb G Y fa o pm cd doc dV kV ho hd hcd hD hmg hg args vals as hpre hlay hrd hwl hlo
  have KX := kIn_of Y
  k_behind G ho hd hcd hD hmg hpre hlay hrd hwl hlo cd
  refine Mine.law_join (mg := mg) (mb := mb) ?c KX (by assumption) ?i (by assumption) (by assumption) (by assumption) ?len hg ?hm rfl ?nd ?h0 ?h1 ?h2 rfl ?d1 ?d2 ?d3 ?d4 ?d5 ?d6 fun s' k o g => ⟨.inl ⟨_, _, [], rfl, fun _ => rfl, ReadsW.bool true, ?post, fun _ => ⟨List.nodup_nil, fun _ h => nomatch h⟩⟩, k, o, g⟩
  case c =>
    refine ⟨by kernel_rfl, by kernel_rfl, by kernel_rfl, ?_, by kernel_rfl, fun _ => by kernel_rfl, by kernel_rfl, fun _ => by kernel_rfl, ⟨by kernel_rfl, by kernel_rfl, by kernel_rfl⟩, ⟨by kernel_rfl, by kernel_rfl, by kernel_rfl⟩, ⟨by kernel_rfl, by kernel_rfl, by kernel_rfl⟩, by kernel_rfl, by kernel_rfl, by kernel_rfl⟩
    constructor <;> intros <;> kernel_rfl
  case i => kernel_rfl
  case len => assumption
  case hm => kernel_rfl
  case nd => kernel_rfl
  case h0 => kernel_rfl
  case h1 => kernel_rfl
  case h2 => kernel_rfl
  case d1 => exact ⟨by kernel_rfl, by kernel_rfl, by kernel_rfl⟩
  case d2 => exact ⟨by kernel_rfl, by kernel_rfl, by kernel_rfl, by kernel_rfl⟩
  case d3 => exact ⟨by kernel_rfl, by kernel_rfl, by kernel_rfl⟩
  case d4 => kernel_rfl
  case d5 => kernel_rfl
  case d6 => kernel_rfl
  case post => first | wrow_post | kernel_rfl
end Mine
theorem PySem.Challenge.cw_im0057_01_holds : PySem.Challenge.rw_im0057_01.Holds := by
  exact Mine.main
