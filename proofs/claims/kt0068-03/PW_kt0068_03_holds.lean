import PyProof.Rows.All
import Wide.All
import OpenK.AllK
import Wide.FinOn
import KE.KPairComp
import KE.KLam
import PyProof.IsiPairs
import KE.KNestM
import KE.KIntText
import KE.KUnpack
import Lean
import PySem.Challenge.RW_kt0068_03
set_option autoImplicit false
set_option linter.unusedVariables false
set_option maxRecDepth 100000
set_option Elab.async false
set_option genSizeOfSpec false
set_option compiler.extract_closed false
set_option genInjectivity false
set_option tactic.hygienic false
namespace Mine
open PySem PySem.W PyProof.Rows PySem.Calls

inductive D where
  | none
  | bool (b : Bool)
  | int (i : Int)
  | str (s : List Nat)
  | tup (l : List D)
  | lst (l : List D)
  | ref (n : Nat)
  | app (n : Nat)
  | dic0
  | pat (k : Nat)
  | hdr (n : Nat)
  | scr (l : List D)
  | hz (l : List (List Nat × List Nat))
inductive Mo where
  | lst (l : List D)
  | sent
  | dead
inductive Fl where
  | next | brk | cont
  | ret (d : D)
abbrev Vars := List (Str × D)
abbrev Sto := List Mo

abbrev pairD (p : List Nat × List Nat) : D := .tup [.str p.1, .str p.2]
noncomputable def LIM : Nat := 1048576
noncomputable def ascii (s : List Nat) : Bool := s.all fun c => decide (c < 128)
noncomputable def kindOf (sc : Scope) (x : Str) : Option NameKind := sc.names.lookup x
noncomputable def setVar (vars : Vars) (x : Str) (d : D) : Vars := (x, d) :: vars.filter fun p => !(p.1 == x)
noncomputable def nameCode : Array Nat := #[14, 10, 4, 1, 1, 22, 0, 31, 16, 127, 0, 13, 7, 22, 0, 31, 16, 127, 0, 1]
noncomputable def valueCode : Array Nat := #[14, 14, 4, 1, 1, 9, 4294966783, 0, 0, 2147483648, 0, 0, 0, 0, 0, 13, 11, 9, 4294966783, 0, 0, 2147483648, 0, 0, 0, 0, 0, 1]
noncomputable def twinCode : Array Nat := #[14, 14, 4, 1, 1, 9, 0, 64, 0, 1342177280, 0, 0, 0, 0, 0, 17, 0, 13, 11, 9, 0, 64, 0, 1342177280, 0, 0, 0, 0, 0, 17, 1, 1]
noncomputable def patCode : Nat → Array Nat
  | 0 => nameCode
  | 1 => valueCode
  | _ => twinCode

noncomputable def listO (vs : List Value) (n : Nat) : Obj := { cls := .type "list", data := .seq vs.toArray n }
noncomputable def tupO (vs : List Value) (n : Nat) : Obj := { cls := .type "tuple", data := .seq vs.toArray n }
noncomputable def appO (a : Addr) : Obj := { cls := .type "builtin_function_or_method", data := .fields #[.builtin "list.append", .ref a] }
noncomputable def patO (p : Str) (t u : Tok) (g : Int) (ca : Addr) : Obj := { cls := .type "re.Pattern", data := .fields #[.str p t, .int 32 u, .int g 0, .none, .none, .ref ca, .int 0 0] }
noncomputable def sentO : Obj := { cls := .type "object", data := .plain }

structure Wd where
  Z : Addr → Option Obj
  adr : List Addr
structure Le (W W' : Wd) : Prop where
  z : ∀ a o, W.Z a = some o → W'.Z a = some o
  a : ∀ (i : Nat) a, W.adr[i]? = some a → W'.adr[i]? = some a
theorem Le.refl {W : Wd} : Le W W := ⟨fun z_ z_ e => e, fun z_ z_ e => e⟩
theorem Le.trans {W W' W'' : Wd} (x : Le W W') (y : Le W' W'') : Le W W'' := ⟨fun a o e => y.z a o (x.z a o e), fun i a e => y.a i a (x.a i a e)⟩

structure HdrAt (C : Addr) (W : Wd) (a : Addr) (v : Value) : Prop where
  ex : ∃ d oa od, W.Z a = some oa ∧ oa.dict = some d ∧ W.Z d = some od ∧ oa.cls = .ref C ∧ notCls oa = true ∧ ∀ m, lookIn m od = if m = ("_headers" : Str) then some (some v) else some none

mutual
inductive VR (C : Addr) (W : Wd) : D → Value → Prop
  | none : VR C W .none .none
  | bool (b : Bool) : VR C W (.bool b) (.bool b)
  | int (i : Int) (t : Tok) : VR C W (.int i) (.int i t)
  | str (s : Str) (t : Tok) (l : List Nat) : s.cps.toList = l → l.length ≤ LIM → ascii l = true → VR C W (.str l) (.str s t)
  | tup {a : Addr} {vs : List Value} {n : Nat} {ds : List D} : W.Z a = some (tupO vs n) → VRs C W ds vs → ds.length ≤ LIM → VR C W (.tup ds) (.ref a)
  | lst {a : Addr} {vs : List Value} {n : Nat} {ds : List D} : W.Z a = some (listO vs n) → VRs C W ds vs → ds.length ≤ LIM → VR C W (.lst ds) (.ref a)
  | scr {a : Addr} {o : Obj} {vs : List Value} {n : Nat} {ds : List D} : W.Z a = some o → o.cls = .type "list" → o.data = .seq vs.toArray n → VRs C W ds vs → ds.length ≤ LIM → VR C W (.scr ds) (.ref a)
  | ref {a : Addr} {n : Nat} : W.adr[n]? = some a → VR C W (.ref n) (.ref a)
  | app {b a : Addr} {n : Nat} : W.Z b = some (appO a) → W.adr[n]? = some a → VR C W (.app n) (.ref b)
  | dic {a : Addr} {ep : Nat} : W.Z a = some { cls := .type "dict", data := .dict #[] ep } → (a == sysModules) = false → VR C W .dic0 (.ref a)
  | pat {a ca : Addr} {p : Str} {t u : Tok} {g : Int} {items : Array Value} {m k : Nat} : W.Z a = some (patO p t u g ca) → W.Z ca = some { cls := .type "tuple", data := .seq items m } → (items.map Builtin.Re.reRawOf).map (·.toNat) = patCode k → (k < 2 → g = 0) → VR C W (.pat k) (.ref a)
  | hdr {a b : Addr} {n : Nat} : HdrAt C W a (.ref b) → handedIn (.ref b) = true → W.adr[n]? = some b → VR C W (.hdr n) (.ref a)
  | hz {a b : Addr} {vs : List Value} {n : Nat} {l : List (List Nat × List Nat)} : HdrAt C W a (.ref b) → handedIn (.ref b) = true → W.Z b = some (listO vs n) → VRs C W (l.map pairD) vs → l.length ≤ LIM → VR C W (.hz l) (.ref a)
inductive VRs (C : Addr) (W : Wd) : List D → List Value → Prop
  | nil : VRs C W [] []
  | cons {v : Value} {vs : List Value} {d : D} {ds : List D} : VR C W d v → VRs C W ds vs → VRs C W (d :: ds) (v :: vs)
end
structure VRf (C : Addr) (W : Wd) (ks : List (Str × D)) (kus : List (Str × Value)) : Prop where
  n : ks.map (·.1) = kus.map (·.1)
  r : VRs C W (ks.map (·.2)) (kus.map (·.2))

section
variable {C : Addr} {W W' : Wd}
theorem HdrAt.up (x : Le W W') {a : Addr} {v : Value} (h : HdrAt C W a v) : HdrAt C W' a v := let ⟨d, oa, od, h1, h2, h3, h4⟩ := h; ⟨d, oa, od, x.z _ _ h1, h2, x.z _ _ h3, h4⟩
theorem VR.up (x : Le W W') {d : D} {v : Value} (r : VR C W d v) : VR C W' d v :=
  VR.rec (motive_1 := fun d v z_ => VR C W' d v) (motive_2 := fun d v z_ => VRs C W' d v) .none .bool .int .str (fun e z_ b r => .tup (x.z _ _ e) r b) (fun e z_ b r => .lst (x.z _ _ e) r b) (fun e c d z_ b r => .scr (x.z _ _ e) c d r b) (fun e => .ref (x.a _ _ e)) (fun e i => .app (x.z _ _ e) (x.a _ _ i))
    (fun e n => .dic (x.z _ _ e) n) (fun e e' c q => .pat (x.z _ _ e) (x.z _ _ e') c q) (fun h q e => .hdr (h.up x) q (x.a _ _ e)) (fun h q e z_ b r => .hz (h.up x) q (x.z _ _ e) r b) .nil (fun z_ z_ a r => .cons a r) r
theorem VRs.up (x : Le W W') {d : List D} {v : List Value} (r : VRs C W d v) : VRs C W' d v :=
  VRs.rec (motive_1 := fun d v z_ => VR C W' d v) (motive_2 := fun d v z_ => VRs C W' d v) .none .bool .int .str (fun e z_ b r => .tup (x.z _ _ e) r b) (fun e z_ b r => .lst (x.z _ _ e) r b) (fun e c d z_ b r => .scr (x.z _ _ e) c d r b) (fun e => .ref (x.a _ _ e)) (fun e i => .app (x.z _ _ e) (x.a _ _ i))
    (fun e n => .dic (x.z _ _ e) n) (fun e e' c q => .pat (x.z _ _ e) (x.z _ _ e') c q) (fun h q e => .hdr (h.up x) q (x.a _ _ e)) (fun h q e z_ b r => .hz (h.up x) q (x.z _ _ e) r b) .nil (fun z_ z_ a r => .cons a r) r
theorem VRf.up (x : Le W W') {d : List (Str × D)} {v : List (Str × Value)} (r : VRf C W d v) : VRf C W' d v := ⟨r.n, r.r.up x⟩

inductive HdrV (C : Addr) (W : Wd) : Value → Prop
  | mk (a b : Addr) : HdrAt C W a (.ref b) → handedIn (.ref b) = true → HdrV C W (.ref a)

inductive StrV (l : List Nat) : Value → Prop
  | mk (s : Str) (t : Tok) : s.cps.toList = l → l.length ≤ LIM → ascii l = true → StrV l (.str s t)
inductive SeqV (f : List Value → Nat → Obj) (C : Addr) (W : Wd) (ds : List D) : Value → Prop
  | mk (a : Addr) (vs : List Value) (n : Nat) : W.Z a = some (f vs n) → VRs C W ds vs → ds.length ≤ LIM → SeqV f C W ds (.ref a)
inductive ScrV (C : Addr) (W : Wd) (ds : List D) : Value → Prop
  | mk (a : Addr) (o : Obj) (vs : List Value) (n : Nat) : W.Z a = some o → o.cls = .type "list" → o.data = .seq vs.toArray n → VRs C W ds vs → ds.length ≤ LIM → ScrV C W ds (.ref a)
inductive RefV (W : Wd) (n : Nat) : Value → Prop
  | mk (a : Addr) : W.adr[n]? = some a → RefV W n (.ref a)
variable {u : Value}
theorem VR.none' (r : VR C W .none u) : u = .none := by cases r; rfl
theorem VR.bool' {b : Bool} (r : VR C W (.bool b) u) : u = .bool b := by cases r; rfl
theorem VR.int' {i : Int} (r : VR C W (.int i) u) : ∃ t, u = .int i t := by cases r; exact ⟨_, rfl⟩
theorem VR.str' {l : List Nat} (r : VR C W (.str l) u) : StrV l u := by cases r; exact ⟨_, _, ‹_›, ‹_›, ‹_›⟩
theorem VR.tup' {ds : List D} (r : VR C W (.tup ds) u) : SeqV tupO C W ds u := by cases r; exact ⟨_, _, _, ‹_›, ‹_›, ‹_›⟩
theorem VR.lst' {ds : List D} (r : VR C W (.lst ds) u) : SeqV listO C W ds u := by cases r; exact ⟨_, _, _, ‹_›, ‹_›, ‹_›⟩
theorem VR.scr' {ds : List D} (r : VR C W (.scr ds) u) : ScrV C W ds u := by cases r; exact ⟨_, _, _, _, ‹_›, ‹_›, ‹_›, ‹_›, ‹_›⟩
theorem VR.ref' {n : Nat} (r : VR C W (.ref n) u) : RefV W n u := by cases r; exact ⟨_, ‹_›⟩

theorem VRs.nil' {us : List Value} (r : VRs C W [] us) : us = [] := by cases r; rfl
inductive ConsV (C : Addr) (W : Wd) (d : D) (ds : List D) : List Value → Prop
  | mk (v : Value) (vs : List Value) : VR C W d v → VRs C W ds vs → ConsV C W d ds (v :: vs)
theorem VRs.cons' {d : D} {ds : List D} {us : List Value} (r : VRs C W (d :: ds) us) : ConsV C W d ds us := by cases r; exact ⟨_, _, ‹_›, ‹_›⟩
theorem VRs.one' {d : D} {us : List Value} (r : VRs C W [d] us) : ∃ u, us = [u] ∧ VR C W d u := by
  obtain ⟨v, vs, a, p⟩ := r.cons'
  cases p.nil'
  exact ⟨v, rfl, a⟩
theorem VRs.length : ∀ {ds : List D} {vs : List Value}, VRs C W ds vs → vs.length = ds.length
  | [], _, r => by cases r.nil'; rfl
  | d :: ds, _, r => by obtain ⟨v, vs, _, q⟩ := r.cons'; exact congrArg (· + 1) q.length
theorem VRs.append {es : List D} {ws : List Value} (q : VRs C W es ws) : ∀ {ds : List D} {vs : List Value}, VRs C W ds vs → VRs C W (ds ++ es) (vs ++ ws)
  | [], _, r => by cases r.nil'; exact q
  | d :: ds, _, r => by obtain ⟨v, vs, a, p⟩ := r.cons'; exact .cons a (q.append p)
theorem VRs.take : ∀ {ds : List D} {vs : List Value} (n : Nat), VRs C W ds vs → VRs C W (ds.take n) (vs.take n)
  | _, _, 0, _ => .nil
  | [], _, n + 1, r => by cases r.nil'; exact .nil
  | d :: ds, _, n + 1, r => by obtain ⟨v, vs, a, p⟩ := r.cons'; exact .cons a (p.take n)
theorem VRs.drop : ∀ {ds : List D} {vs : List Value} (n : Nat), VRs C W ds vs → VRs C W (ds.drop n) (vs.drop n)
  | _, _, 0, r => r
  | [], _, n + 1, r => by cases r.nil'; exact .nil
  | d :: ds, _, n + 1, r => by obtain ⟨v, vs, a, p⟩ := r.cons'; exact p.drop n
theorem VRs.get {ds : List D} {vs : List Value} {i : Nat} {d : D} (r : VRs C W ds vs) (e : ds[i]? = some d) : ∃ v, vs[i]? = some v ∧ VR C W d v := by
  induction ds generalizing vs i with
  | nil => nomatch e
  | cons d' ds ih =>
    obtain ⟨v, vs, a, p⟩ := r.cons'
    cases i with
    | zero => cases e; exact ⟨v, rfl, a⟩
    | succ i => exact ih (vs := vs) (i := i) p e
theorem VRs.at {ds : List D} {vs : List Value} {i : Nat} {d : D} {v : Value} (r : VRs C W ds vs) (e : ds[i]? = some d) (e' : vs[i]? = some v) : VR C W d v := by
  obtain ⟨v', h, q⟩ := r.get e
  cases e'.symm.trans h; exact q
theorem VRs.zip {names : List Str} {us : List Value} {ds : List D} (r : VRs C W ds us) (h : ds.length = names.length) : VRf C W (names.zip ds) (names.zip us) := by
  have h' := r.length.trans h
  exact ⟨by rw [List.map_fst_zip (by omega), List.map_fst_zip (by omega)], by rw [List.map_snd_zip (by omega), List.map_snd_zip (by omega)]; exact r⟩
end
end Mine
namespace Mine
open PySem PySem.W PyProof.Rows PySem.Calls

structure Base where
  prog : Program
  w : World
  mg : Str → Option Value
  Z : Addr → Option Obj
  T : Addr → Prop
  C : Addr
  lcode : Value
  g : ∀ h : Heap, (∀ a o, Z a = some o → h.get? a = some o) → h.Ns mainGlobals mg
  b : ∀ h : Heap, (∀ a o, Z a = some o → h.get? a = some o) → ∃ mb, h.Ns builtinsNs mb ∧ ∀ x : Str, x ≠ "__name__" → mb x = bootBuiltins x
  nolim : ∀ h : Heap, (∀ a o, Z a = some o → h.get? a = some o) → h.NoLimit

inductive MoR (C : Addr) (W : Wd) (h : Heap) (a : Addr) : Mo → Prop
  | lst {l : List D} (vs : List Value) (n : Nat) : h.get? a = some (listO vs n) → VRs C W l vs → l.length ≤ LIM → MoR C W h a (.lst l)
  | sent : h.get? a = some sentO → MoR C W h a .sent
  | dead (vs : List Value) (n : Nat) : h.get? a = some (listO vs n) → MoR C W h a .dead

structure Good (B : Base) (h : Heap) (W : Wd) (st : Sto) : Prop where
  hz : ∀ a o, W.Z a = some o → h.get? a = some o
  bz : ∀ a o, B.Z a = some o → W.Z a = some o
  tab : ∀ P, B.T P → ∃ ps, h.get? P = some (tabObj ps) ∧ TriplesOk ps.toList
  sepT : ∀ a, B.T a → W.Z a = none ∧ a ∉ W.adr
  sepA : ∀ a, a ∈ W.adr → W.Z a = none
  len : W.adr.length = st.length
  ent : ∀ (i : Nat) a m, W.adr[i]? = some a → st[i]? = some m → MoR B.C W h a m
  inj : ∀ (i j : Nat) a, W.adr[i]? = some a → W.adr[j]? = some a → i = j

noncomputable def Lv (W : Wd) (st : Sto) (a : Addr) : Prop := ∃ i : Nat, W.adr[i]? = some a ∧ st[i]? ≠ some .dead

structure Kept (B : Base) (X : Addr → Prop) (W : Wd) (st : Sto) (W' : Wd) (st' : Sto) (h' : Heap) (a : Addr) (o : Obj) : Prop where
  z : W.Z a = none → W'.Z a = none
  m : a ∈ W'.adr → a ∈ W.adr
  l : Lv W' st' a → Lv W st a
  k : ¬ B.T a → ¬ X a → ¬ Lv W st a → h'.get? a = some o
  e : ∃ o', h'.get? a = some o'
structure Step (B : Base) (X : Addr → Prop) (s : Shared) (W : Wd) (st : Sto) (s' : Shared) (W' : Wd) (st' : Sto) : Prop where
  le : Le W W'
  kp : ∀ a o, s.heap.get? a = some o → Kept B X W st W' st' s'.heap a o
  os : s'.os = s.os
  gens : s'.gens = s.gens
noncomputable abbrev Em : Addr → Prop := fun z_ => False

section
variable {B : Base} {X X' : Addr → Prop} {s s' s'' : Shared} {h h' : Heap} {W W' W'' : Wd} {st st' st'' : Sto} {a b : Addr} {o : Obj} {i n : Nat}

theorem Step.refl : Step B X s W st s W st := ⟨.refl, fun z_ o e => ⟨id, id, id, fun z_ z_ z_ => e, o, e⟩, rfl, rfl⟩
theorem Step.trans (x : Step B X s W st s' W' st') (y : Step B X s' W' st' s'' W'' st'') : Step B X s W st s'' W'' st'' := by
  refine ⟨x.le.trans y.le, fun a o e => ?_, y.os.trans x.os, y.gens.trans x.gens⟩
  have k := x.kp a o e
  obtain ⟨o', e'⟩ := k.e
  have q := y.kp a o' e'
  exact ⟨fun z => q.z (k.z z), fun m => k.m (q.m m), fun l => k.l (q.l l), fun t p l => (y.kp a o (k.k t p l)).k t p fun l' => l (k.l l'), q.e⟩
theorem Step.up (x : Step B X s W st s' W' st') (h : ∀ a, X a → X' a) : Step B X' s W st s' W' st' :=
  ⟨x.le, fun a o e => let k := x.kp a o e; ⟨k.z, k.m, k.l, fun t p l => k.k t (fun q => p (h a q)) l, k.e⟩, x.os, x.gens⟩
theorem Step.drop (x : Step B X s W st s' W' st') (h : ∀ a o, X a → s.heap.get? a = some o → X' a) : Step B X' s W st s' W' st' :=
  ⟨x.le, fun a o e => let k := x.kp a o e; ⟨k.z, k.m, k.l, fun t p l => k.k t (fun q => p (h a o q e)) l, k.e⟩, x.os, x.gens⟩
theorem Step.keep (k : ∀ a o, s.heap.get? a = some o → h'.get? a = some o) (tk : Nat) : Step B X s W st { s with heap := h', toks := tk } W st :=
  ⟨.refl, fun a o e => ⟨id, id, id, fun z_ z_ z_ => k a o e, o, k a o e⟩, rfl, rfl⟩
theorem Step.but (k : ∀ a o, s.heap.get? a = some o → ¬ X a → h'.get? a = some o) (l : ∀ a o, s.heap.get? a = some o → ∃ o', h'.get? a = some o') (tk : Nat) : Step B X s W st { s with heap := h', toks := tk } W st :=
  ⟨.refl, fun a o e => ⟨id, id, id, fun z_ p z_ => k a o e p, l a o e⟩, rfl, rfl⟩
theorem keep_push (o : Obj) : ∀ a o', h.get? a = some o' → (h.push o).get? a = some o' := fun z_ z_ e => Heap.get?_push_of_some _ e
theorem size_none (h : Heap) : h.get? h.objs.size = none := by
  cases e : h.get? h.objs.size with
  | none => rfl
  | some o => exact absurd (Heap.lt_size e) (Nat.lt_irrefl _)

theorem MoR.up {m : Mo} (r : MoR B.C W h a m) (x : Le W W') (k : ∀ o, h.get? a = some o → h'.get? a = some o) : MoR B.C W' h' a m := by
  cases r with
  | lst vs n e r l => exact .lst vs n (k _ e) (r.up x) l
  | sent e => exact .sent (k _ e)
  | dead vs n e => exact .dead vs n (k _ e)
theorem MoR.obj {m : Mo} (r : MoR B.C W h a m) : ∃ o, h.get? a = some o ∧ o.cls ≠ .type "tuple" := by
  cases r with
  | lst vs n e r l => exact ⟨_, e, by simp [listO]⟩
  | sent e => exact ⟨_, e, by simp [sentO]⟩
  | dead vs n e => exact ⟨_, e, by simp [listO]⟩

inductive LstAt (C : Addr) (W : Wd) (h : Heap) (i : Nat) (l : List D) : Prop
  | mk (a : Addr) (vs : List Value) (n : Nat) : W.adr[i]? = some a → h.get? a = some (listO vs n) → VRs C W l vs → l.length ≤ LIM → LstAt C W h i l
theorem Good.at (G : Good B h W st) {m : Mo} (e : st[i]? = some m) : ∃ a, W.adr[i]? = some a ∧ MoR B.C W h a m := by
  have hi : i < W.adr.length := G.len ▸ (List.getElem?_eq_some_iff.mp e).1
  exact ⟨_, List.getElem?_eq_getElem hi, G.ent i _ m (List.getElem?_eq_getElem hi) e⟩
theorem Good.lst (G : Good B h W st) {l : List D} (e : st[i]? = some (.lst l)) : LstAt B.C W h i l := by
  obtain ⟨a, h1, h2⟩ := G.at e
  cases h2 with
  | lst vs n e r b => exact ⟨a, vs, n, h1, e, r, b⟩
theorem Good.obj (G : Good B h W st) (e : W.adr[i]? = some a) : ∃ o, h.get? a = some o ∧ o.cls ≠ .type "tuple" := by
  have hi : i < st.length := G.len ▸ (List.getElem?_eq_some_iff.mp e).1
  exact (G.ent i a _ e (List.getElem?_eq_getElem hi)).obj
theorem Good.fresh (G : Good B h W st) (hn : h.get? a = none) : W.Z a = none ∧ a ∉ W.adr ∧ ¬ B.T a := by
  refine ⟨?_, fun m => ?_, fun t => ?_⟩
  · cases e : W.Z a with
    | none => rfl
    | some o => rw [G.hz a o e] at hn; cases hn
  · obtain ⟨i, hi, q⟩ := List.getElem_of_mem m
    obtain ⟨o, ho, _⟩ := G.obj (i := i) (a := a) (by rw [List.getElem?_eq_getElem hi, q])
    rw [ho] at hn; cases hn
  · obtain ⟨ps, e, _⟩ := G.tab a t
    rw [e] at hn; cases hn
theorem Good.keep (G : Good B h W st) (k : ∀ a o, h.get? a = some o → h'.get? a = some o) : Good B h' W st :=
  ⟨fun a o e => k a o (G.hz a o e), G.bz, fun P t => let ⟨ps, e, q⟩ := G.tab P t; ⟨ps, k _ _ e, q⟩, G.sepT, G.sepA, G.len, fun i a m e e' => (G.ent i a m e e').up .refl (k a), G.inj⟩
theorem Good.but (G : Good B h W st) (k : ∀ a o, h.get? a = some o → ¬ X a → h'.get? a = some o) (hX : ∀ a, X a → W.Z a = none ∧ a ∉ W.adr ∧ ¬ B.T a) : Good B h' W st :=
  ⟨fun a o e => k a o (G.hz a o e) fun x => (by rw [(hX a x).1] at e; cases e), G.bz, fun P t => let ⟨ps, e, q⟩ := G.tab P t; ⟨ps, k _ _ e fun x => (hX _ x).2.2 t, q⟩, G.sepT, G.sepA, G.len,
    fun i a m e e' => (G.ent i a m e e').up .refl fun o q => k a o q fun x => (hX a x).2.1 (List.mem_of_getElem? e), G.inj⟩

noncomputable def Wd.add (W : Wd) (a : Addr) (o : Obj) : Wd := ⟨fun b => if b = a then some o else W.Z b, W.adr⟩
theorem Wd.add_self : (W.add a o).Z a = some o := if_pos rfl
theorem Wd.add_ne (h : b ≠ a) : (W.add a o).Z b = W.Z b := if_neg h
theorem Wd.le_add (h : W.Z a = none) : Le W (W.add a o) :=
  ⟨fun b p e => (Wd.add_ne fun q => by rw [q, h] at e; cases e).trans e, fun z_ z_ e => e⟩
theorem Good.add (G : Good B h W st) (e : h.get? a = some o) (hz : W.Z a = none) (hm : a ∉ W.adr) (ht : ¬ B.T a) : Good B h (W.add a o) st := by
  have x : Le W (W.add a o) := Wd.le_add hz
  refine ⟨fun b p q => ?_, fun b p q => x.z _ _ (G.bz b p q), G.tab, fun b t => ⟨(Wd.add_ne fun (q : b = a) => ht (q ▸ t)).trans (G.sepT b t).1, (G.sepT b t).2⟩, fun b m => (Wd.add_ne fun (q : b = a) => hm (q ▸ m)).trans (G.sepA b m), G.len, fun i b m q q' => (G.ent i b m q q').up x fun z_ e => e, G.inj⟩
  by_cases c : b = a
  · subst c; rw [Wd.add_self] at q; cases q; exact e
  · rw [Wd.add_ne c] at q; exact G.hz b p q
theorem Step.add (x : Step B X s W st s' W' st') (hn : s.heap.get? a = none) (hz : W'.Z a = none) : Step B X s W st s' (W'.add a o) st' :=
  ⟨x.le.trans (Wd.le_add hz), fun b p e => let k := x.kp b p e; ⟨fun q => (Wd.add_ne fun c => by rw [c, hn] at e; cases e).trans (k.z q), k.m, k.l, k.k, k.e⟩, x.os, x.gens⟩

noncomputable def Wd.ext (W : Wd) (a : Addr) : Wd := ⟨W.Z, W.adr ++ [a]⟩
theorem Wd.le_ext : Le W (W.ext a) := ⟨fun z_ z_ e => e, fun z_ z_ e => (List.getElem?_append_left (List.getElem?_eq_some_iff.mp e).1).trans e⟩
theorem Wd.ext_last (G : Good B h W st) : (W.ext a).adr[st.length]? = some a := by
  show (W.adr ++ [a])[st.length]? = _
  rw [← G.len, List.getElem?_append_right (Nat.le_refl _), Nat.sub_self]; rfl
set_option tactic.hygienic true in
theorem app_cases {α : Type} {l : List α} {x y : α} (e : (l ++ [x])[i]? = some y) : l[i]? = some y ∨ (i = l.length ∧ y = x) := by
  rw [List.getElem?_append] at e
  split at e
  · exact .inl e
  · rename_i hi
    cases q : i - l.length with
    | zero => rw [q] at e; cases e; exact .inr ⟨by omega, rfl⟩
    | succ k => rw [q] at e; cases e
theorem Good.ext (G : Good B h W st) (hf : W.Z a = none ∧ a ∉ W.adr ∧ ¬ B.T a) {m : Mo} (r : MoR B.C (W.ext a) h a m) : Good B h (W.ext a) (st ++ [m]) := by
  obtain ⟨z1, z2, z3⟩ := hf
  have old : ∀ {i : Nat} {b : Addr}, W.adr[i]? = some b → i < st.length := fun e => G.len ▸ (List.getElem?_eq_some_iff.mp e).1
  refine ⟨G.hz, G.bz, G.tab, fun b t => ⟨(G.sepT b t).1, fun q => ?_⟩, fun b q => ?_, (by show (W.adr ++ [a]).length = _; rw [List.length_append, List.length_append, G.len]; rfl), fun i b m' e e' => ?_, fun i j b e e' => ?_⟩
  · rcases List.mem_append.mp q with q | q
    · exact (G.sepT b t).2 q
    · exact z3 (List.mem_singleton.mp q ▸ t)
  · rcases List.mem_append.mp q with q | q
    · exact G.sepA b q
    · rw [List.mem_singleton.mp q]; exact z1
  · rcases app_cases e with e | ⟨rfl, rfl⟩
    · rw [List.getElem?_append_left (old e)] at e'
      exact (G.ent i b m' e e').up Wd.le_ext fun z_ q => q
    · rw [G.len, List.getElem?_append_right (Nat.le_refl _), Nat.sub_self] at e'
      cases e'; exact r
  · rcases app_cases e with e | ⟨rfl, rfl⟩ <;> rcases app_cases e' with e' | ⟨rfl, h'⟩
    · exact G.inj i j b e e'
    · exact absurd (List.mem_of_getElem? e) (h' ▸ z2)
    · exact absurd (List.mem_of_getElem? e') z2
    · rfl
theorem Step.ext (x : Step B X s W st s' W' st') (G : Good B s'.heap W' st') (hn : s.heap.get? a = none) {m : Mo} : Step B X s W st s' (W'.ext a) (st' ++ [m]) := by
  refine ⟨x.le.trans Wd.le_ext, fun b p e => ?_, x.os, x.gens⟩
  have k := x.kp b p e
  have ne : b ≠ a := fun c => by rw [c, hn] at e; cases e
  refine ⟨k.z, fun q => ?_, fun ⟨i, q, q'⟩ => ?_, k.k, k.e⟩
  · rcases List.mem_append.mp q with q | q
    · exact k.m q
    · exact absurd (List.mem_singleton.mp q) ne
  · rcases app_cases q with q | ⟨_, q⟩
    · rw [List.getElem?_append_left (G.len ▸ (List.getElem?_eq_some_iff.mp q).1)] at q'
      exact k.l ⟨i, q, q'⟩
    · exact absurd q ne

theorem Good.put (G : Good B h W st) {m : Mo} (ha : W.adr[n]? = some a) (hs : ∀ b o, b ≠ a → h.get? b = some o → h'.get? b = some o) (r : MoR B.C W h' a m) : Good B h' W (st.set n m) := by
  have hA := List.mem_of_getElem? ha
  refine ⟨fun b o e => hs b o (fun q => ?_) (G.hz b o e), G.bz, fun P t => ?_, G.sepT, G.sepA, (by rw [List.length_set]; exact G.len), fun i b m' e e' => ?_, G.inj⟩
  · rw [q, G.sepA a hA] at e; cases e
  · obtain ⟨ps, e, q⟩ := G.tab P t
    exact ⟨ps, hs _ _ (fun c => (G.sepT P t).2 (c ▸ hA)) e, q⟩
  · by_cases c : i = n
    · subst c
      rw [ha] at e; cases e
      rw [List.getElem?_set_self (G.len ▸ (List.getElem?_eq_some_iff.mp ha).1)] at e'
      cases e'; exact r
    · rw [List.getElem?_set_ne (Ne.symm c)] at e'
      exact (G.ent i b m' e e').up .refl fun o q => hs b o (fun x => c (G.inj i n a (x ▸ e) ha)) q
theorem Lv.set {m : Mo} (l : Lv W (st.set n m) b) (hd : m = .dead ∨ st[n]? ≠ some .dead) : Lv W st b := by
  obtain ⟨i, e, q⟩ := l
  refine ⟨i, e, fun c => ?_⟩
  by_cases k : i = n
  · subst k
    rw [List.getElem?_set_self (List.getElem?_eq_some_iff.mp c).1] at q
    rcases hd with rfl | hd
    · exact q rfl
    · exact hd c
  · rw [List.getElem?_set_ne (Ne.symm k)] at q; exact q c
theorem Step.put {m : Mo} {tk : Nat} (ha : W.adr[n]? = some a) (hl : st[n]? ≠ some .dead) (hs : ∀ b o, b ≠ a → s.heap.get? b = some o → h'.get? b = some o) (he : ∃ o, h'.get? a = some o) : Step B X s W st { s with heap := h', toks := tk } W (st.set n m) := by
  refine ⟨.refl, fun b o e => ⟨id, id, fun l => l.set (.inr hl), fun z_ z_ l => hs b o (fun c => l (c ▸ ⟨n, ha, hl⟩)) e, ?_⟩, rfl, rfl⟩
  by_cases c : b = a
  · subst c; exact he
  · exact ⟨o, hs b o c e⟩
theorem Good.lock (G : Good B h W st) {l : List D} (e : st[n]? = some (.lst l)) : Good B h W (st.set n .dead) := by
  obtain ⟨a, vs, k, h1, h2, _, _⟩ := G.lst e
  exact G.put h1 (fun z_ z_ z_ q => q) (.dead vs k h2)
theorem Step.lock : Step B X s W st s W (st.set n .dead) := ⟨.refl, fun z_ o e => ⟨id, id, fun l => l.set (.inl rfl), fun z_ z_ z_ => e, o, e⟩, rfl, rfl⟩
end
end Mine
namespace Mine
open PySem PySem.W PyProof.Rows PySem.Calls

structure Room (A : Around) (k : Nat) : Prop where
  h : A.handled = none
  d : A.depth + k < 900
  u : A.units + 4 * k < 9800
theorem Room.le {A : Around} {k j : Nat} (r : Room A k) (hj : j ≤ k) : Room A j := ⟨r.h, by have := r.d; omega, by have := r.u; omega⟩
theorem Room.in1 {A : Around} {k : Nat} (r : Room A (k + 1)) : Room A.in1 k := ⟨r.h, by have := r.d; show A.depth + k < 900; omega, by have := r.u; show A.units + 1 + 4 * k < 9800; omega⟩
theorem Room.deeper {A : Around} {k : Nat} {env : Env} (r : Room A (k + 1)) : Room (A.deeper env) k := ⟨r.h, by have := r.d; show A.depth + 1 + k < 900; omega, by have := r.u; show A.units + 3 + 4 * k < 9800; omega⟩
theorem Room.depth {A : Around} {k : Nat} (r : Room A k) : A.depth < recursionLimit := by have := r.d; show A.depth < 1000; omega
theorem Room.units {A : Around} {k : Nat} (r : Room A k) : A.units + 64 < cLine := by have := r.u; rw [cLine_is]; omega

noncomputable def own (env : Env) (sc : Scope) (a : Addr) : Prop := a = env.locals ∨ ∃ x, kindOf sc x = some .cell ∧ env.cells.lookup x = some a
noncomputable def reach (env : Env) (a : Addr) : Prop := a = env.locals ∨ ∃ x, env.cells.lookup x = some a
theorem own.reach {env : Env} {sc : Scope} {a : Addr} (o : own env sc a) : reach env a := o.imp id fun ⟨x, _, e⟩ => ⟨x, e⟩

structure EnvS (B : Base) (env : Env) (sc : Scope) : Prop where
  kind : env.scope.kind = .function
  glob : env.globals = mainGlobals
  blt : env.builtins = builtinsNs
  code : (kindOf sc "QUESTION_MARK").isSome = true → env.code = B.lcode
  loc : ∀ x, kindOf sc x = some .local → env.kindOf x = some .local
  cell : ∀ x, kindOf sc x = some .cell → env.kindOf x = some .cell
  free : ∀ x, kindOf sc x = some .free → env.kindOf x = some .free ∨ env.kindOf x = some .cell
  gl : ∀ x, kindOf sc x = some .globalImplicit → env.kindOf x = some .globalImplicit
  has : ∀ x, (kindOf sc x = some .cell ∨ kindOf sc x = some .free) → ∃ c, env.cells.lookup x = some c
  lc : ∀ x c, env.cells.lookup x = some c → c ≠ env.locals
  cinj : ∀ x y c, env.cells.lookup x = some c → env.cells.lookup y = some c → x = y

structure Off (B : Base) (h : Heap) (W : Wd) (a : Addr) : Prop where
  z : W.Z a = none
  m : a ∉ W.adr
  t : ¬ B.T a
  e : ∃ o, h.get? a = some o
inductive LocR (C : Addr) (W : Wd) (h : Heap) (L : Addr) (sc : Scope) (v : Vars) : Prop
  | mk (m : Str → Option Value) : h.Ns L m → (∀ x d, kindOf sc x = some .local → v.lookup x = some d → ∃ u, m x = some u ∧ VR C W d u) → LocR C W h L sc v
inductive ClR (C : Addr) (W : Wd) (h : Heap) (c : Addr) (d? : Option D) : Prop
  | mk (ov : Option Value) : h.IsCell c ov → (∀ d, d? = some d → ∃ u, ov = some u ∧ VR C W d u) → ClR C W h c d?
structure Frm (B : Base) (W : Wd) (h : Heap) (env : Env) (sc : Scope) (v : Vars) : Prop where
  ns : LocR B.C W h env.locals sc v
  cl : ∀ x c, (kindOf sc x = some .cell ∨ kindOf sc x = some .free) → env.cells.lookup x = some c → ClR B.C W h c (v.lookup x)
  off : ∀ a, reach env a → Off B h W a
structure OK (B : Base) (env : Env) (sc : Scope) (v : Vars) (s : Shared) (W : Wd) (st : Sto) : Prop where
  g : Good B s.heap W st
  e : EnvS B env sc
  f : Frm B W s.heap env sc v

section
variable {B : Base} {X : Addr → Prop} {A : Around} {env : Env} {sc : Scope} {v : Vars} {s s₁ s' : Shared} {h h' : Heap} {W W₁ W' : Wd} {st st₁ st' : Sto} {a b c : Addr} {o : Obj} {d : D} {k : Nat}

theorem LocR.up {L : Addr} (r : LocR B.C W h L sc v) (x : Le W W') (k : ∀ o, h.get? L = some o → h'.get? L = some o) : LocR B.C W' h' L sc v := by
  obtain ⟨m, ⟨o, es, ep, e, q⟩, r⟩ := r
  exact ⟨m, ⟨o, es, ep, k _ e, q⟩, fun x' d hk hl => let ⟨u, e, q⟩ := r x' d hk hl; ⟨u, e, q.up x⟩⟩
theorem ClR.up {d? : Option D} (r : ClR B.C W h c d?) (x : Le W W') (k : ∀ o, h.get? c = some o → h'.get? c = some o) : ClR B.C W' h' c d? := by
  obtain ⟨ov, ⟨o, e, q⟩, r⟩ := r
  exact ⟨ov, ⟨o, k _ e, q⟩, fun d hl => let ⟨u, e, q⟩ := r d hl; ⟨u, e, q.up x⟩⟩
theorem Off.step (F : Off B s.heap W a) (S : Step B X s W st s' W' st') : Off B s'.heap W' a :=
  let ⟨o, e⟩ := F.e; let k := S.kp a o e; ⟨k.z F.z, fun m => F.m (k.m m), F.t, k.e⟩
theorem Off.kept (F : Off B s.heap W a) (S : Step B X s W st s' W' st') (hX : ¬ X a) (o : Obj) (e : s.heap.get? a = some o) : s'.heap.get? a = some o :=
  (S.kp a o e).k F.t hX fun ⟨_, q, _⟩ => F.m (List.mem_of_getElem? q)
theorem Frm.step (F : Frm B W s.heap env sc v) (S : Step B X s W st s' W' st') (hX : ∀ a, reach env a → ¬ X a) : Frm B W' s'.heap env sc v :=
  ⟨F.ns.up S.le ((F.off _ (.inl rfl)).kept S (hX _ (.inl rfl))), fun x c hk e => (F.cl x c hk e).up S.le ((F.off c (.inr ⟨x, e⟩)).kept S (hX c (.inr ⟨x, e⟩))), fun a r => (F.off a r).step S⟩
theorem OK.step (O : OK B env sc v s W st) (S : Step B Em s W st s₁ W₁ st₁) (G : Good B s₁.heap W₁ st₁) : OK B env sc v s₁ W₁ st₁ := ⟨G, O.e, O.f.step S fun z_ z_ x => x⟩

noncomputable def NoE : Value → Shared → Prop := fun z_ z_ => False
inductive Got {α : Type} (B : Base) (s : Shared) (W : Wd) (st st' : Sto) (R : Wd → α → Prop) (u : α) (s' : Shared) : Prop
  | mk (W' : Wd) : Good B s'.heap W' st' → Step B Em s W st s' W' st' → R W' u → Got B s W st st' R u s'
noncomputable def Gv {α : Type} (B : Base) (A : Around) (t : Sem α) (s : Shared) (W : Wd) (st st' : Sto) (R : Wd → α → Prop) : Prop := wpAny (model B.prog B.w) A t (Got B s W st st' R) NoE s
section
variable {α : Type} {t : Sem α} {R : Wd → α → Prop} {u : α}
set_option tactic.hygienic true in
theorem Gv.next (H : Gv B A t s W st st' R) (O : OK B env sc v s W st) {Q : α → Shared → Prop} {E : Value → Shared → Prop} (h : ∀ u s₁ W₁, OK B env sc v s₁ W₁ st' → Step B Em s W st s₁ W₁ st' → R W₁ u → Q u s₁) : wpAny (model B.prog B.w) A t Q E s :=
  wpAny_mono H (fun u s₁ ⟨W₁, G, S, r⟩ => h u s₁ W₁ (O.step S G) S r) fun z_ z_ e => e.elim
theorem Gv.last (H : Gv B A t s₁ W₁ st₁ st' R) (S : Step B Em s W st s₁ W₁ st₁) : wpAny (model B.prog B.w) A t (Got B s W st st' R) NoE s₁ :=
  wpAny_mono H (fun _ _ ⟨W₂, G, S', r⟩ => ⟨W₂, G, S.trans S', r⟩) fun z_ z_ e => e
theorem gv_keep (G : Good B s.heap W st) (r : R W u) (tk : Nat) (k : ∀ a o, s.heap.get? a = some o → h'.get? a = some o) : Got B s W st st R u { s with heap := h', toks := tk } := ⟨W, G.keep k, .keep k tk, r⟩
theorem gv_tok (G : Good B s.heap W st) (r : R W u) {tk : Nat} (ht : ∀ Q E, Q u { s with toks := tk } → wpAny (model B.prog B.w) A t Q E s) : Gv B A t s W st st R := ht _ _ (gv_keep G r tk fun z_ z_ e => e)
theorem gv_now (G : Good B s.heap W st) (r : R W u) (ht : ∀ Q E, Q u s → wpAny (model B.prog B.w) A t Q E s) : Gv B A t s W st st R := ht _ _ (gv_keep G r s.toks fun z_ z_ e => e)
theorem got_push (G : Good B s.heap W st) (hf : o.isFreed = false) (r : R (W.add s.heap.objs.size o) u) (tk : Nat) : Got B s W st st R u { s with heap := s.heap.push o, toks := tk } := by
  have f := G.fresh (size_none s.heap)
  exact ⟨_, (G.keep (keep_push o)).add (Heap.get?_push_size _ hf) f.1 f.2.1 f.2.2, (Step.keep (keep_push o) tk).add (size_none _) f.1, r⟩
theorem gv_push (G : Good B s.heap W st) {tk : Nat} (r : R (W.add s.heap.objs.size o) u) (ht : ∀ Q E, Q u { s with heap := s.heap.push o, toks := tk } → wpAny (model B.prog B.w) A t Q E s) (hf : o.isFreed = false := by rfl) : Gv B A t s W st st R :=
  ht _ _ (got_push G hf r tk)
end
theorem Good.add_le (G : Good B s.heap W st) : Le W (W.add s.heap.objs.size o) := Wd.le_add (G.fresh (size_none _)).1
theorem vr_lst (G : Good B s.heap W st) {vs : List Value} {ds : List D} {n : Nat} (r : VRs B.C W ds vs) (hl : ds.length ≤ LIM) : VR B.C (W.add s.heap.objs.size (listO vs n)) (.lst ds) (.ref s.heap.objs.size) := .lst Wd.add_self (r.up G.add_le) hl
theorem vr_tup (G : Good B s.heap W st) {vs : List Value} {ds : List D} {n : Nat} (r : VRs B.C W ds vs) (hl : ds.length ≤ LIM) : VR B.C (W.add s.heap.objs.size (tupO vs n)) (.tup ds) (.ref s.heap.objs.size) := .tup Wd.add_self (r.up G.add_le) hl

theorem lookup_setVar (v : Vars) (x y : Str) (d : D) : (setVar v x d).lookup y = if y = x then some d else v.lookup y := by
  unfold setVar
  by_cases e : y = x
  · subst e; rw [List.lookup_cons, beq_self_eq_true, if_pos rfl]
  · rw [List.lookup_cons, beq_false_of_ne e, if_neg e]
    show List.lookup y _ = _
    induction v with
    | nil => rfl
    | cons p r ih =>
      obtain ⟨k, q⟩ := p
      rw [List.filter_cons]
      by_cases hk : k = x
      · subst hk
        have : (!((k, q).1 == k)) = false := by simp
        rw [if_neg (by rw [this]; decide), ih, List.lookup_cons, beq_false_of_ne e]
      · have : (!((k, q).1 == x)) = true := by simp [hk]
        rw [if_pos this, List.lookup_cons, List.lookup_cons, ih]

theorem loadN_ok {M : Model} {x : Str} (O : OK B env sc v s W st) (hk : kindOf sc x = some .local ∨ kindOf sc x = some .cell ∨ kindOf sc x = some .free) (hl : v.lookup x = some d) (h2 : (x == ("__classdict__" : Str)) = false) :
    ∃ u, VR B.C W d u ∧ ∀ (Q : Value → Shared → Prop) E, Q u s → wpAny M A (loadName env x) Q E s := by
  have cl : (kindOf sc x = some .cell ∨ kindOf sc x = some .free) → ∃ u, VR B.C W d u ∧ ∀ (Q : Value → Shared → Prop) E, Q u s → wpAny M A (loadName env x) Q E s := fun hk => by
    obtain ⟨c, e⟩ := O.e.has x hk
    obtain ⟨ov, h1, h3⟩ := O.f.cl x c hk e
    obtain ⟨u, rfl, r⟩ := h3 d hl
    refine ⟨u, r, fun Q E h => ?_⟩
    rcases hk.imp (O.e.cell x) (O.e.free x) with hf | hf | hf
    · exact wpAny_loadName_cell O.e.kind hf e h1 h
    · exact wpAny_loadName_free O.e.kind hf e h1 h h2
    · exact wpAny_loadName_cell O.e.kind hf e h1 h
  rcases hk with hk | hk
  · obtain ⟨m, hn, hm⟩ := O.f.ns
    obtain ⟨u, e, r⟩ := hm x d hk hl
    exact ⟨u, r, fun Q E h => wpAny_loadName_local O.e.kind (O.e.loc x hk) hn e h⟩
  · exact cl hk
theorem load_ok {M : Model} {x : Str} {pos : Pos} (O : OK B env sc v s W st) (hk : kindOf sc x = some .local ∨ kindOf sc x = some .cell ∨ kindOf sc x = some .free) (hl : v.lookup x = some d) (h1 : (x == ("__debug__" : Str)) = false) (h2 : (x == ("__classdict__" : Str)) = false) :
    ∃ u, VR B.C W d u ∧ ∀ (Q : Value → Shared → Prop) E, Q u s → wpAny M A (eval (.Name x pos) env) Q E s := by
  obtain ⟨u, r, h⟩ := loadN_ok (M := M) (A := A) O hk hl h2
  exact ⟨u, r, fun Q E q => wpAny_Name (h Q E q) h1⟩

theorem SameBut.live {h h' : Heap} (x : Heap.SameBut a h h') (e' : ∃ o, h'.get? a = some o) : ∀ b o, h.get? b = some o → ∃ o', h'.get? b = some o' := fun b o e => by
  by_cases q : b = a
  · subst q; exact e'
  · exact ⟨o, (x.2 b q).trans e⟩

theorem own_set (O : OK B env sc v s W st) (ha : own env sc a) (hs : Heap.SameBut a s.heap h') (hl : ∃ o, h'.get? a = some o) (tk : Nat) : Good B h' W st ∧ Step B (own env sc) s W st { s with heap := h', toks := tk } W st ∧ ∀ b, reach env b → Off B h' W b := by
  have k : ∀ b o, s.heap.get? b = some o → ¬ own env sc b → h'.get? b = some o := fun b o e n => (hs.2 b fun q => n (q ▸ ha)).trans e
  have l := SameBut.live hs hl
  exact ⟨O.g.but k fun b x => let f := O.f.off b x.reach; ⟨f.z, f.m, f.t⟩, .but k l tk, fun b r => let f := O.f.off b r; ⟨f.z, f.m, f.t, let ⟨o, e⟩ := f.e; l b o e⟩⟩

theorem set_ok {M : Model} {x : Str} {u : Value} (O : OK B env sc v s W st) (hk : kindOf sc x = some .local ∨ kindOf sc x = some .cell) (r : VR B.C W d u) {Q : Unit → Shared → Prop} {E : Value → Shared → Prop}
    (h : ∀ s', OK B env sc (setVar v x d) s' W st → Step B (own env sc) s W st s' W st → Q () s') : wpAny M A (storeName env x u) Q E s := by
  have hp : (env.scope.kind == .class || (env.scope.kind == .module && env.locals != env.globals)) = false := by rw [O.e.kind]; rfl
  have ne : ∀ {y}, kindOf sc y ≠ kindOf sc x → (setVar v x d).lookup y = v.lookup y := fun {y} q => by rw [lookup_setVar, if_neg fun (e : y = x) => q (by rw [e])]
  rcases hk with hk | hk
  · obtain ⟨m, hn, hm⟩ := O.f.ns
    refine wpAny_storeName_local (O.e.loc x hk) hn (fun h' hn' hs => ?_) hp
    obtain ⟨G, S, off⟩ := own_set O (.inl rfl) hs ⟨_, hn'.choose_spec.choose_spec.choose_spec.1⟩ (s.toks + 1)
    refine h _ ⟨G, O.e, ⟨⟨_, hn', fun y dy hky hly => ?_⟩, fun y c hky e => ?_, off⟩⟩ S
    · rw [lookup_setVar] at hly
      by_cases e : y = x
      · rw [if_pos e] at hly ⊢; cases hly; exact ⟨u, rfl, r⟩
      · rw [if_neg e] at hly ⊢; exact hm y dy hky hly
    · rw [ne fun q => by rw [hk] at q; rcases hky with t | t <;> rw [t] at q <;> cases q]
      exact (O.f.cl y c hky e).up .refl fun o q => (hs.2 c (O.e.lc y c e)).trans q
  · obtain ⟨c, e1⟩ := O.e.has x (.inl hk)
    obtain ⟨ov, e2, e3⟩ := O.f.cl x c (.inl hk) e1
    refine wpAny_storeName_cell O.e.kind (O.e.cell x hk) e1 e2 (fun h' hn' hs => ?_)
    obtain ⟨G, S, off⟩ := own_set O (.inr ⟨x, hk, e1⟩) hs ⟨_, hn'.choose_spec.1⟩ s.toks
    refine h _ ⟨G, O.e, ⟨?_, fun y c' hky e => ?_, off⟩⟩ S
    · obtain ⟨m, ⟨o, es, ep, e, q⟩, hm⟩ := O.f.ns
      refine ⟨m, ⟨o, es, ep, (hs.2 _ (Ne.symm (O.e.lc x c e1))).trans e, q⟩, fun y dy hky hly => hm y dy hky ?_⟩
      rw [ne fun q => by rw [hk, hky] at q; cases q] at hly; exact hly
    · by_cases q : y = x
      · subst q
        rw [e1] at e; cases e
        refine ⟨_, hn', fun dy hly => ?_⟩
        rw [lookup_setVar, if_pos rfl] at hly
        cases hly
        exact ⟨u, rfl, r⟩
      · rw [lookup_setVar, if_neg q]
        exact (O.f.cl y c' hky e).up .refl fun o p => (hs.2 c' fun t => q (O.e.cinj y x c (t ▸ e) e1)).trans p
end
end Mine
namespace Mine
open PySem PySem.W PyProof.Rows PySem.Calls

noncomputable def plainName (x : Str) : Bool := !(x == ("__debug__" : Str)) && !(x == ("__classdict__" : Str))
noncomputable def varKind (sc : Scope) (x : Str) : Bool := (kindOf sc x == some .local || kindOf sc x == some .cell || kindOf sc x == some .free) && plainName x
noncomputable def gloKind (sc : Scope) (x : Str) : Bool := (kindOf sc x == some .globalImplicit) && plainName x
noncomputable def isStar : Expr → Bool
  | .Starred .. => true
  | _ => false

noncomputable def IsD (B : Base) (d : D) (W : Wd) (u : Value) : Prop := VR B.C W d u
noncomputable def IsB (b : Bool) (_ : Wd) (r : Bool) : Prop := r = b
noncomputable def IsL (B : Base) (ds : List D) (W : Wd) (us : List Value) : Prop := VRs B.C W ds us

noncomputable def Ev (B : Base) (k : Nat) (sc : Scope) (v : Vars) (e : Expr) (st : Sto) (d : D) (st' : Sto) : Prop :=
  ∀ A env s W, Room A k → OK B env sc v s W st → Gv B A (eval e env) s W st st' (IsD B d)
noncomputable def Te (B : Base) (k : Nat) (sc : Scope) (v : Vars) (e : Expr) (st : Sto) (b : Bool) (st' : Sto) : Prop :=
  ∀ A env s W, Room A k → OK B env sc v s W st → Gv B A (isTrue e env (eval e env)) s W st st' (IsB b)
structure Evs (B : Base) (k : Nat) (sc : Scope) (v : Vars) (es : List Expr) (st : Sto) (ds : List D) (st' : Sto) : Prop where
  plain : ∀ env, (starEach es env).any (·.1) = false
  len : es.length = ds.length
  run : ∀ pos A env s W, Room A k → OK B env sc v s W st → Gv B A (spliced (backTo pos (starEach es env))) s W st st' (IsL B ds)

noncomputable def OpOk (B : Base) (op : Operator) (st : Sto) (a b d : D) : Prop := ∀ A s W u w, Good B s.heap W st → VR B.C W a u → VR B.C W b w → Gv B A (binaryOp op u w) s W st st (IsD B d)
noncomputable def CmpOk (B : Base) (op : CmpOp) (st : Sto) (a b : D) (r : Bool) : Prop := ∀ A s W u w, Room A 0 → Good B s.heap W st → VR B.C W a u → VR B.C W b w → ∀ Q E, Q (.bool r) s → wpAny (model B.prog B.w) A (compareOp op u w) Q E s
noncomputable def TrOk (B : Base) (st : Sto) (a : D) (r : Bool) : Prop := ∀ A s W u, Good B s.heap W st → VR B.C W a u → Gv B A (truthy u) s W st st (IsB r)
noncomputable def ConT (B : Base) (x : Str) (d : D) : Prop := ∃ u, B.mg x = some u ∧ ∀ W : Wd, (∀ a o, B.Z a = some o → W.Z a = some o) → VR B.C W d u

section
variable {B : Base} {k : Nat} {A : Around} {env : Env} {sc : Scope} {v : Vars} {s : Shared} {W : Wd} {st st₁ st₂ st' : Sto} {a b d : D} {e l r o : Expr} {x : Str} {pos p : Pos} {t : Bool} {es : List Expr} {ds : List D} {n : Nat}
theorem varKind_of (h : varKind sc x = true) : (kindOf sc x = some .local ∨ kindOf sc x = some .cell ∨ kindOf sc x = some .free) ∧ (x == ("__debug__" : Str)) = false ∧ (x == ("__classdict__" : Str)) = false := by
  unfold varKind plainName at h
  simpa [or_assoc] using h
theorem gloKind_of (h : gloKind sc x = true) : kindOf sc x = some .globalImplicit ∧ (x == ("__debug__" : Str)) = false := by
  unfold gloKind plainName at h
  have := (by simpa using h : _ ∧ _ ∧ _)
  exact ⟨this.1, by simpa using this.2.1⟩

theorem ev_none : Ev B k sc v (.Constant .none n pos) st .none st := fun z_ z_ z_ z_ z_ O => gv_now O.g .none fun z_ z_ h => Constant_none h
theorem ev_bool : Ev B k sc v (.Constant (.bool t) n pos) st (.bool t) st := fun z_ z_ z_ z_ z_ O => gv_now O.g (.bool t) fun z_ z_ h => Constant_bool h
theorem ev_int {i : Int} : Ev B k sc v (.Constant (.int i) n pos) st (.int i) st := fun z_ z_ z_ z_ z_ O => gv_tok O.g (.int i _) fun z_ z_ h => wpAny_Constant_int h
theorem ev_str {y : Str} (h : (ascii y.cps.toList && decide (y.cps.toList.length ≤ LIM)) = true) : Ev B k sc v (.Constant (.str y) n pos) st (.str y.cps.toList) st := fun z_ z_ z_ z_ z_ O =>
  gv_tok O.g (.str y _ _ rfl (of_decide_eq_true (Bool.and_eq_true_iff.mp h).2) (Bool.and_eq_true_iff.mp h).1) fun z_ z_ h => Calls.Constant_str h
theorem ev_var (h : varKind sc x = true) (hl : v.lookup x = some d) : Ev B k sc v (.Name x pos) st d st := fun A z_ z_ z_ z_ O => by
  obtain ⟨hk, h1, h2⟩ := varKind_of h
  obtain ⟨u, r, h⟩ := load_ok (M := model B.prog B.w) (A := A) (pos := pos) O hk hl h1 h2
  exact gv_now O.g r h
theorem global_ok (O : OK B env sc v s W st) {fv : Value} (hk : gloKind sc x = true) (hv : B.mg x = some fv) {M : Model} {Q : Value → Shared → Prop} {E : Value → Shared → Prop} (h : Q fv s) : wpAny M A (eval (.Name x p) env) Q E s :=
  let hk := gloKind_of hk
  Name_function_global O.e.kind (O.e.gl x hk.1) (loadGlobal_global (mg := B.mg) (O.e.glob ▸ B.g _ fun a o e => O.g.hz a o (O.g.bz a o e)) hv h) hk.2
theorem builtin_name (O : OK B env sc v s W st) {fv : Value} (hk : gloKind sc x = true) (hv : B.mg x = none) (hb : bootBuiltins x = some fv) (hn : x ≠ ("__name__" : Str)) {M : Model} {Q : Value → Shared → Prop} {E : Value → Shared → Prop} (h : Q fv s) : wpAny M A (eval (.Name x p) env) Q E s := by
  have hz := fun a o e => O.g.hz a o (O.g.bz a o e)
  obtain ⟨mb, h1, h2⟩ := B.b _ hz
  have hk := gloKind_of hk
  exact Name_function_global O.e.kind (O.e.gl x hk.1) (loadGlobal_builtin (mg := B.mg) (mb := mb) (O.e.glob ▸ B.g _ hz) hv (O.e.blt ▸ h1) ((h2 x hn).trans hb) h) hk.2
theorem ev_con (h : gloKind sc x = true) (hc : ConT B x d) : Ev B k sc v (.Name x pos) st d st := fun z_ z_ z_ z_ z_ O =>
  let ⟨_, hu, r⟩ := hc; gv_now O.g (r _ O.g.bz) fun z_ z_ q => global_ok O h hu q

set_option tactic.hygienic true in
theorem ev_bin {op : Operator} (h1 : Ev B k sc v l st a st₁) (h2 : Ev B k sc v r st₁ b st') (h3 : OpOk B op st' a b d) : Ev B k sc v (.BinOp l op r pos) st d st' := fun A env s W R O =>
  wpAny_BinOp ((h1 A env s W R O).next O fun u s₁ W₁ O₁ S₁ r₁ => (h2 A env s₁ W₁ R O₁).next O₁ fun w s₂ W₂ O₂ S₂ r₂ => (h3 A s₂ W₂ u w O₂.g (VR.up S₂.le r₁) r₂).last (S₁.trans S₂))
set_option tactic.hygienic true in
theorem ev_neg {i : Int} (h : Ev B k sc v e st (.int i) st') : Ev B k sc v (.UnaryOp .USub e pos) st (.int (-i)) st' := fun A env s W R O =>
  UnaryOp_ ((h A env s W R O).next O fun u s₁ W₁ O₁ S₁ r₁ => by
    obtain ⟨t, rfl⟩ := VR.int' r₁
    exact (gv_tok (R := IsD B (.int (-i))) O₁.g (.int _ _) fun Q E h => neg_int h).last S₁)
theorem got_bool {W₁ : Wd} {s₁ : Shared} (G : Good B s₁.heap W₁ st') (S : Step B Em s W st s₁ W₁ st') : Got B s W st st' (IsD B (.bool t)) (.bool t) s₁ := ⟨W₁, G, S, .bool t⟩
set_option tactic.hygienic true in
theorem ev_cmp {op : CmpOp} (h1 : Ev B k sc v l st a st₁) (h2 : Ev B k sc v r st₁ b st') (h3 : CmpOk B op st' a b t) (hm : behindInMarks op r = false) : Ev B k sc v (.Compare l [op] [r] pos) st (.bool t) st' := fun A env s W R O =>
  wpAny_Compare1 ((h1 A env s W R O).next O fun u s₁ W₁ O₁ S₁ r₁ => (h2 A env s₁ W₁ R O₁).next O₁ fun w s₂ W₂ O₂ S₂ r₂ => h3 A s₂ W₂ u w (R.le (Nat.zero_le _)) O₂.g (VR.up S₂.le r₁) r₂ _ _ (got_bool O₂.g (S₁.trans S₂))) hm
set_option tactic.hygienic true in
theorem te_cmp {op : CmpOp} (h1 : Ev B k sc v l st a st₁) (h2 : Ev B k sc v r st₁ b st') (h3 : CmpOk B op st' a b t) (hm : behindInMarks op r = false) : Te B k sc v (.Compare l [op] [r] pos) st t st' := fun A env s W R O =>
  wpAny_isTrue_Compare1 ((h1 A env s W R O).next O fun u s₁ W₁ O₁ S₁ r₁ => (h2 A env s₁ W₁ R O₁).next O₁ fun w s₂ W₂ O₂ S₂ r₂ => h3 A s₂ W₂ u w (R.le (Nat.zero_le _)) O₂.g (VR.up S₂.le r₁) r₂ _ _ (wpAny_truthy_bool ⟨W₂, O₂.g, S₁.trans S₂, rfl⟩)) hm
set_option tactic.hygienic true in
theorem ev_if (h1 : Te B k sc v e st t st₁) (h2 : t = true → Ev B k sc v l st₁ d st') (h3 : t = false → Ev B k sc v r st₁ d st') : Ev B k sc v (.IfExp e l r pos) st d st' := fun A env s W R O =>
  IfExp_ ((h1 A env s W R O).next O fun c s₁ W₁ O₁ S₁ hc => by
    cases hc
    cases t with
    | true => exact (h2 rfl A env s₁ W₁ R O₁).last S₁
    | false => exact (h3 rfl A env s₁ W₁ R O₁).last S₁)
set_option tactic.hygienic true in
theorem te_not (h : Te B k sc v e st t st') : Te B k sc v (.UnaryOp .Not e pos) st (!t) st' := fun A env s W R O =>
  isTrue_not ((h A env s W R O).next O fun c s₁ W₁ O₁ S₁ hc => ⟨W₁, O₁.g, S₁, congrArg _ hc⟩)
set_option tactic.hygienic true in
theorem te_plain (h1 : Ev B k sc v e st a st') (h2 : TrOk B st' a t) (he : ∀ env, isTrue e env (eval e env) = (do let v ← eval e env; standAt e.pos; holding [v] (truthy v))) : Te B k sc v e st t st' := fun A env s W R O =>
  isTrue_plain ((h1 A env s W R O).next O fun u s₁ W₁ O₁ S₁ r₁ => (h2 A s₁ W₁ u O₁.g r₁).last S₁) (he env)
noncomputable def TeB (B : Base) (k : Nat) (op : BoolOp) (sc : Scope) (v : Vars) (es : List Expr) (st : Sto) (b : Bool) (st' : Sto) : Prop :=
  ∀ A env s W pos whole, Room A k → OK B env sc v s W st → Gv B A (isTrue (.BoolOp op es pos) env whole) s W st st' (IsB b)
theorem te_bool {op : BoolOp} (h : TeB B k op sc v es st t st') : Te B k sc v (.BoolOp op es pos) st t st' := fun A env s W R O => h A env s W pos _ R O
theorem ta_nil : TeB B k .And sc v [] st true st := fun z_ z_ z_ W z_ z_ z_ O => isTrue_and_nil ⟨W, O.g, .refl, rfl⟩
theorem to_nil : TeB B k .Or sc v [] st false st := fun z_ z_ z_ W z_ z_ z_ O => isTrue_or_nil ⟨W, O.g, .refl, rfl⟩
set_option tactic.hygienic true in
theorem ta_cons {c : Bool} (h1 : Te B k sc v e st t st₁) (h2 : t = true → TeB B k .And sc v es st₁ c st') (h3 : t = false → c = false ∧ st' = st₁) : TeB B k .And sc v (e :: es) st c st' := fun A env s W pos whole R O =>
  isTrue_and ((h1 A env s W R O).next O fun c' s₁ W₁ O₁ S₁ hc => by
    cases hc
    cases t with
    | true => exact (h2 rfl A env s₁ W₁ pos _ R O₁).last S₁
    | false => obtain ⟨rfl, rfl⟩ := h3 rfl; exact ⟨W₁, O₁.g, S₁, rfl⟩)
set_option tactic.hygienic true in
theorem to_cons {c : Bool} (h1 : Te B k sc v e st t st₁) (h2 : t = false → TeB B k .Or sc v es st₁ c st') (h3 : t = true → c = true ∧ st' = st₁) : TeB B k .Or sc v (e :: es) st c st' := fun A env s W pos whole R O =>
  isTrue_or ((h1 A env s W R O).next O fun c' s₁ W₁ O₁ S₁ hc => by
    cases hc
    cases t with
    | false => exact (h2 rfl A env s₁ W₁ pos _ R O₁).last S₁
    | true => obtain ⟨rfl, rfl⟩ := h3 rfl; exact ⟨W₁, O₁.g, S₁, rfl⟩)

theorem star_plain {rest : List Expr} (h : isStar e = false) : starEach (e :: rest) env = (false, eval e env) :: starEach rest env := by
  cases e <;> first | rfl | cases h
theorem es_nil : Evs B k sc v [] st [] st := ⟨fun z_ => rfl, rfl, fun z_ z_ z_ z_ W z_ O => spliced_nil ⟨W, O.g, .refl, .nil⟩⟩
set_option tactic.hygienic true in
theorem es_cons (hs : isStar e = false) (h1 : Ev B k sc v e st d st₁) (h2 : Evs B k sc v es st₁ ds st') : Evs B k sc v (e :: es) st (d :: ds) st' :=
  ⟨fun env => by rw [star_plain hs]; exact h2.plain env, congrArg (· + 1) h2.len, fun pos A env s W R O => by
    rw [star_plain hs]
    exact spliced_cons (x := eval e env) ((h1 A env s W R O).next O fun u s₁ W₁ O₁ S₁ r₁ => (h2.run pos A env s₁ W₁ R O₁).next O₁ fun us s₂ W₂ O₂ S₂ r₂ => ⟨W₂, O₂.g, S₁.trans S₂, .cons (VR.up S₂.le r₁) r₂⟩)⟩
theorem lim_fits {m : Nat} (h : m ≤ LIM) : m ≤ sizeLine := by rw [sizeLine_eq]; unfold LIM at h; omega
set_option tactic.hygienic true in
theorem ev_list (h : Evs B k sc v es st ds st') (hl : ds.length ≤ LIM) : Ev B k sc v (.List es pos) st (.lst ds) st' := fun A env s W R O => by
  unfold Gv
  rw [arm_eval_List]
  exact wpAny_bind (wpAny_standAt (wpAny_bind ((h.run _ A env s W R O).next O fun us s₁ W₁ O₁ S₁ r₁ =>
    (gv_push (R := IsD B (.lst ds)) (o := listO us 0) (tk := s₁.toks) O₁.g (vr_lst O₁.g r₁ hl) fun Q E h => wpAny_newObj_type h (by show us.toArray.size ≤ sizeLine; rw [List.size_toArray, VRs.length r₁]; exact lim_fits hl)).last S₁)))
set_option tactic.hygienic true in
theorem ev_tuple (h : Evs B k sc v es st ds st') (hl : ds.length ≤ LIM) : Ev B k sc v (.Tuple es n pos) st (.tup ds) st' := fun A env s W R O => by
  unfold Gv
  rw [arm_eval_Tuple]
  exact wpAny_bind (wpAny_standAt (wpAny_bind ((h.run _ A env s W R O).next O fun us s₁ W₁ O₁ S₁ r₁ =>
    (gv_push (R := IsD B (.tup ds)) (o := tupO us 0) (tk := s₁.toks) O₁.g (vr_tup O₁.g r₁ hl) fun Q E h => wpAny_newObj_type h (by show us.toArray.size ≤ sizeLine; rw [List.size_toArray, VRs.length r₁]; exact lim_fits hl)).last S₁)))
set_option tactic.hygienic true in
theorem ev_grow (h : Evs B k sc v es st ds st') (hl : ds.length ≤ LIM) : Ev B k sc v (.List es pos) st (.ref st'.length) (st' ++ [.lst ds]) := fun A env s W R O => by
  unfold Gv
  rw [arm_eval_List]
  refine wpAny_bind (wpAny_standAt (wpAny_bind ((h.run _ A env s W R O).next O fun us s₁ W₁ O₁ S₁ r₁ => wpAny_newObj_type ?_ (by show us.toArray.size ≤ sizeLine; rw [List.size_toArray, VRs.length r₁]; exact lim_fits hl))))
  have f := O₁.g.fresh (size_none s₁.heap)
  have G := O₁.g.keep (keep_push (listO us 0))
  have S : Step B Em s W st { s₁ with heap := s₁.heap.push (listO us 0) } W₁ st' := S₁.trans (.keep (keep_push _) s₁.toks)
  refine ⟨W₁.ext s₁.heap.objs.size, G.ext f (.lst us 0 (Heap.get?_push_size _ rfl) (VRs.up Wd.le_ext r₁) hl), S.ext G ?_, .ref (Wd.ext_last O₁.g)⟩
  cases e : s.heap.get? s₁.heap.objs.size with
  | none => rfl
  | some o => obtain ⟨o', e'⟩ := (S₁.kp _ o e).e; rw [size_none] at e'; cases e'
end
end Mine
namespace Mine
open PySem PySem.W PyProof.Rows PySem.Calls

section
variable {B : Base} {A : Around} {s : Shared} {W : Wd} {st : Sto} {i j : Int} {a b d : D} {x y l : List Nat} {ds es : List D}

theorem op_int {op : Operator} {r : Int} (h : ∀ (A : Around) (s : Shared) (t u : Tok) (Q : Value → Shared → Prop) (E : Value → Shared → Prop), (∀ tk t', Q (.int r t') { s with toks := tk }) → wpAny (model B.prog B.w) A (binaryOp op (.int i t) (.int j u)) Q E s) : OpOk B op st (.int i) (.int j) (.int r) := fun A s W u w G ru rw => by
  obtain ⟨t, rfl⟩ := ru.int'
  obtain ⟨t', rfl⟩ := rw.int'
  exact h _ _ _ _ _ _ fun tk t' => gv_keep G (VR.int r t') tk fun z_ z_ e => e
theorem op_add : OpOk B .Add st (.int i) (.int j) (.int (i + j)) := op_int fun z_ z_ z_ z_ z_ z_ h => add_int (h _ _)
theorem op_sub : OpOk B .Sub st (.int i) (.int j) (.int (i - j)) := op_int fun z_ z_ z_ z_ z_ z_ h => sub_int (h _ _)
theorem op_and : OpOk B .BitAnd st (.int i) (.int j) (.int (Builtin.bitAnd i j)) := op_int fun z_ z_ z_ z_ z_ z_ h => and_int (h _ _)
theorem op_mod (hj : j ≠ 0) : OpOk B .Mod st (.int i) (.int j) (.int (i.fmod j)) := op_int fun z_ z_ z_ z_ z_ z_ h => mod_int' hj (h _ _)
theorem op_div (hj : j ≠ 0) (hs : j.natAbs < 1073741824) : OpOk B .FloorDiv st (.int i) (.int j) (.int (i.fdiv j)) := op_int fun z_ z_ z_ z_ z_ z_ h => floordiv_int hj (h _ _) (.inl (PyProof.noPylong_small (by omega)))
theorem bits_small (h : i.natAbs < 1073741824) : Builtin.Int.intBits i ≤ 64 := intBits_le_64 (by omega) (by omega)
theorem op_mul (hc : j.natAbs < 1073741824 ∨ i.natAbs < 1073741824) : OpOk B .Mult st (.int i) (.int j) (.int (i * j)) := op_int fun z_ z_ z_ z_ z_ z_ h => mul_int (h _ _) (hc.elim (fun q => IntMulOk.of_right (bits_small q)) fun q => IntMulOk.of_left (bits_small q))
theorem op_pow (h0 : 0 ≤ j) (h1 : j ≤ 64) (h2 : i.natAbs < 1073741824) : OpOk B .Pow st (.int i) (.int j) (.int (i ^ j.toNat)) := op_int fun z_ z_ z_ z_ z_ z_ h => pow_int h0 (by
  have h3 : (Builtin.Int.intBits i : Int) ≤ 64 := by exact_mod_cast bits_small h2
  have h4 : (Builtin.Int.intBits i : Int) * j ≤ 64 * 64 := Int.mul_le_mul h3 h1 h0 (by omega)
  omega) (h _ _)

theorem str_len {z : Str} (e : z.cps.toList = l) : z.length = l.length := by rw [← e]; exact (Array.length_toList).symm
theorem ascii_app : ascii (x ++ y) = (ascii x && ascii y) := List.all_append
theorem op_cat (hl : (x ++ y).length ≤ LIM) : OpOk B .Add st (.str x) (.str y) (.str (x ++ y)) := fun A s W u w G ru rw => by
  obtain ⟨p, t, e1, l1, c1⟩ := ru.str'
  obtain ⟨q, t', e2, l2, c2⟩ := rw.str'
  refine add_str (fun t' tk => gv_keep G (R := IsD B (.str (x ++ y))) (.str _ _ _ ?_ hl (by rw [ascii_app, c1, c2]; rfl)) tk fun z_ z_ e => e) ?_
  · show (p.cps ++ q.cps).toList = _
    rw [Array.toList_append, e1, e2]
  · rw [str_len e1, str_len e2, ← List.length_append]; exact lim_fits hl
inductive LisV (B : Base) (W : Wd) (s : Shared) (ds : List D) : Value → Prop
  | mk (a : Addr) (vs : List Value) (n : Nat) : s.heap.get? a = some (listO vs n) → VRs B.C W ds vs → ds.length ≤ LIM → LisV B W s ds (.ref a)
inductive Items (st : Sto) : D → List D → Prop
  | lst (l : List D) : Items st (.lst l) l
  | ref {n : Nat} {l : List D} : st[n]? = some (.lst l) → Items st (.ref n) l
theorem Items.at {u : Value} (I : Items st a ds) (G : Good B s.heap W st) (r : VR B.C W a u) : LisV B W s ds u := by
  cases I with
  | lst => obtain ⟨c, vs, n, e, q, hl⟩ := r.lst'; exact ⟨c, vs, n, G.hz _ _ e, q, hl⟩
  | ref hn =>
    obtain ⟨c, vs, n, e, q, r', hl⟩ := G.lst hn
    obtain ⟨c', e'⟩ := r.ref'
    rw [e] at e'; cases e'
    exact ⟨_, vs, n, q, r', hl⟩
theorem op_add_lst (ha : Items st a ds) (hb : Items st b es) (hl : (ds ++ es).length ≤ LIM) : OpOk B .Add st a b (.lst (ds ++ es)) := fun A s W u w G ru rw => by
  obtain ⟨p, vs, n, q2, q3, q4⟩ := ha.at G ru
  obtain ⟨p', vs', n', q2', q3', q4'⟩ := hb.at G rw
  have hv : (vs.toArray ++ vs'.toArray) = (vs ++ vs').toArray := by simp
  refine P.add_list q2 q2' ?_ ?_
  · rw [hv]
    exact got_push (o := listO (vs ++ vs') 0) G rfl (vr_lst G (VRs.append q3' q3) hl) s.toks
  · rw [List.size_toArray, List.size_toArray, q3.length, q3'.length, ← List.length_append]; exact lim_fits hl
theorem cp_int {op : CmpOp} {r : Bool} (h : ∀ (A : Around) (s : Shared) (t u : Tok) (Q : Value → Shared → Prop) (E : Value → Shared → Prop), Q (.bool r) s → wpAny (model B.prog B.w) A (compareOp op (.int i t) (.int j u)) Q E s) : CmpOk B op st (.int i) (.int j) r := fun A s W u w z_ G ru rw Q E q => by
  obtain ⟨t, rfl⟩ := ru.int'
  obtain ⟨t', rfl⟩ := rw.int'
  exact h _ _ _ _ _ _ q
theorem cp_lt : CmpOk B .Lt st (.int i) (.int j) (decide (i < j)) := cp_int fun z_ z_ z_ z_ z_ z_ h => lt_int h
theorem cp_le : CmpOk B .LtE st (.int i) (.int j) (decide (i ≤ j)) := cp_int fun z_ z_ z_ z_ z_ z_ h => P.le_int h
theorem cp_gt : CmpOk B .Gt st (.int i) (.int j) (decide (j < i)) := cp_int fun z_ z_ z_ z_ z_ z_ h => gt_int h
theorem cp_ge : CmpOk B .GtE st (.int i) (.int j) (decide (j ≤ i)) := cp_int fun z_ z_ z_ z_ z_ z_ h => P.ge_int (by simpa using h)
theorem one_sign {z : Str} {c : Nat} (e : z.cps.toList = [c]) : z = ⟨#[c]⟩ := by
  obtain ⟨z⟩ := z
  exact congrArg Str.mk (Array.ext' e)
theorem cp_notin {c : Nat} : CmpOk B .NotIn st (.str [c]) (.str l) (!decide (c ∈ l)) := fun A s W u w z_ G ru rw Q E q => by
  obtain ⟨p, t, e1, l1, c1⟩ := ru.str'
  obtain ⟨p', t', e2, l2, c2⟩ := rw.str'
  rw [one_sign e1]
  refine P.notIn_str ?_
  rw [StrLaws.found_one, e2]; exact q
theorem cp_is {n m : Nat} : CmpOk B .Is st (.ref n) (.ref m) (decide (n = m)) := fun A s W u w z_ G ru rw Q E q => by
  obtain ⟨p, e1⟩ := ru.ref'
  obtain ⟨p', e2⟩ := rw.ref'
  by_cases hnm : n = m
  · subst hnm
    rw [e1] at e2; cases e2
    rw [decide_eq_true rfl] at q
    exact wpAny_is_ref_self q
  · rw [decide_eq_false hnm] at q
    obtain ⟨o, ho, ht⟩ := G.obj e1
    obtain ⟨o', ho', _⟩ := G.obj e2
    exact wpAny_is_ref_other (fun c => hnm (G.inj _ _ _ e1 (c ▸ e2))) ho ho' ht q
theorem cp_isnot {n m : Nat} : CmpOk B .IsNot st (.ref n) (.ref m) (!decide (n = m)) := fun A s W u w z_ G ru rw Q E q => by
  obtain ⟨p, e1⟩ := ru.ref'
  obtain ⟨p', e2⟩ := rw.ref'
  by_cases hnm : n = m
  · subst hnm
    rw [e1] at e2; cases e2
    rw [decide_eq_true rfl] at q
    exact wpAny_isNot_ref_self q
  · rw [decide_eq_false hnm] at q
    obtain ⟨o, ho, ht⟩ := G.obj e1
    obtain ⟨o', ho', _⟩ := G.obj e2
    exact wpAny_isNot_ref_other (fun c => hnm (G.inj _ _ _ e1 (c ▸ e2))) ho ho' ht q
theorem cp_str_isnot_ref {n : Nat} : CmpOk B .IsNot st (.str l) (.ref n) true := fun A s W u w z_ G ru rw Q E q => by
  obtain ⟨p, t, _, _, _⟩ := ru.str'
  obtain ⟨p', _⟩ := rw.ref'
  exact wpAny_isNot_other rfl (by nofun) q
theorem cp_str_isnot_none : CmpOk B .IsNot st (.str l) .none true := fun A s W u w z_ G ru rw Q E q => by
  obtain ⟨p, t, _, _, _⟩ := ru.str'
  cases rw.none'
  exact wpAny_isNot_other rfl (by nofun) q
theorem tr_bool {t : Bool} : TrOk B st (.bool t) t := fun A s W u G r => by
  cases r.bool'
  exact wpAny_truthy_bool ⟨W, G, .refl, rfl⟩
theorem tr_none : TrOk B st .none false := fun A s W u G r => by
  cases r.none'
  exact truthy_none ⟨W, G, .refl, rfl⟩
theorem tr_str : TrOk B st (.str l) (!l.isEmpty) := fun A s W u G r => by
  obtain ⟨z, t, e1, l1, c1⟩ := r.str'
  refine P.truthy_str (by rw [str_len e1]; unfold LIM at l1; omega) (gv_keep G ?_ _ fun z_ z_ e => e)
  rw [str_len e1]
  cases l with
  | nil => rfl
  | cons => exact bne_iff_ne.mpr (by simp; omega)
theorem tr_lst (I : Items st a ds) : TrOk B st a (!ds.isEmpty) := fun A s W u G r => by
  obtain ⟨c, vs, n, e, q, hl⟩ := I.at G r
  refine wpAny_truthy_list (items := vs.toArray) ⟨_, e, rfl, n, rfl⟩ (by rw [List.size_toArray, q.length]; unfold LIM at hl; omega) ⟨W, G, .keep (fun z_ z_ e => e) _, ?_⟩
  have := q.length
  cases vs <;> cases ds <;> first | rfl | cases this
end
end Mine
namespace Mine
open PySem PySem.W PyProof.Rows PySem.Calls

mutual
noncomputable def D.toP : D → PyData
  | .bool b => .bool b
  | .int i => .int i
  | .str l => .str ⟨l.toArray⟩
  | .tup l => .tuple (D.toPs l)
  | .lst l => .list (D.toPs l)
  | _ => .none
noncomputable def D.toPs : List D → List PyData
  | [] => []
  | d :: r => d.toP :: D.toPs r
end
noncomputable def D.ok (n : Nat) : D → Bool := n.rec (fun d => match d with | .none | .bool _ | .int _ | .str _ => true | _ => false)
  fun z_ f d => match d with | .none | .bool _ | .int _ | .str _ => true | .tup l | .lst l => l.all f | _ => false

structure Rs (h : Heap) (u : Value) (p : PyData) (n : Nat) : Prop where
  r : ∃ as, Reads h u p as
  c : p.canLay0 = true
  d : p.depth ≤ n
structure RsL (h : Heap) (u : List Value) (p : List PyData) (n : Nat) : Prop where
  r : ∃ as, ReadsAll h u p as
  c : PyData.canLayAll0 p = true
  d : PyData.depthAll p ≤ n
section
variable {C : Addr} {W : Wd} {h : Heap}
theorem strOk_ascii {l : List Nat} (h : ascii l = true) : PyData.strOk ⟨l.toArray⟩ = true := by
  unfold PyData.strOk
  rw [Array.all_eq_true']
  intro x hx
  have := List.all_eq_true.mp h x (by simpa using hx)
  simp only [decide_eq_true_eq] at this ⊢
  omega
theorem all_of {α : Type} {f : α → Bool} {a : α} {l : List α} (h : (a :: l).all f = true) : f a = true ∧ l.all f = true := Bool.and_eq_true_iff.mp h
theorem rs_lst {a : Addr} {vs : List Value} {n m : Nat} {p : List PyData} (e : h.get? a = some (listO vs n)) (q : RsL h vs p m) : Rs h (.ref a) (.list p) (m + 1) :=
  let ⟨_, r⟩ := q.r; ⟨⟨_, reads_list_at e rfl rfl (by simpa using r)⟩, q.c, Nat.succ_le_succ q.d⟩
theorem rs_tup {a : Addr} {vs : List Value} {n m : Nat} {p : List PyData} (e : h.get? a = some (tupO vs n)) (q : RsL h vs p m) : Rs h (.ref a) (.tuple p) (m + 1) :=
  let ⟨_, r⟩ := q.r; ⟨⟨_, reads_tuple_at e rfl rfl (by simpa using r)⟩, q.c, Nat.succ_le_succ q.d⟩
theorem VR.reads (hz : ∀ a o, W.Z a = some o → h.get? a = some o) {d : D} {v : Value} (r : VR C W d v) : ∀ n, d.ok n = true → Rs h v d.toP n := by
  refine VR.rec (motive_1 := fun d v z_ => ∀ n, d.ok n = true → Rs h v d.toP n) (motive_2 := fun ds vs z_ => ∀ n, ds.all (D.ok n) = true → RsL h vs (D.toPs ds) n)
    (fun n z_ => ⟨⟨_, .none⟩, rfl, Nat.zero_le _⟩) (fun b n z_ => ⟨⟨_, .bool b⟩, rfl, Nat.zero_le _⟩) (fun i t n z_ => ⟨⟨_, .int i t⟩, rfl, Nat.zero_le _⟩) (fun s t l e b c n z_ => by subst e; exact ⟨⟨_, .str s t⟩, strOk_ascii c, Nat.zero_le _⟩)
    (fun e z_ z_ ih n hk => ?_) (fun e z_ z_ ih n hk => ?_) (fun z_ z_ z_ z_ z_ z_ n hk => ?_) (fun z_ n hk => ?_) (fun z_ z_ n hk => ?_) (fun z_ z_ n hk => ?_) (fun z_ z_ z_ z_ n hk => ?_) (fun z_ z_ z_ n hk => ?_) (fun z_ z_ z_ z_ z_ z_ n hk => ?_) (fun n z_ => ⟨⟨_, .nil⟩, rfl, Nat.zero_le _⟩)
    (fun z_ z_ ih ih' n hk => ?_) r
  · cases n with
    | zero => cases hk
    | succ n => exact rs_tup (hz _ _ e) (ih n hk)
  · cases n with
    | zero => cases hk
    | succ n => exact rs_lst (hz _ _ e) (ih n hk)
  iterate 7 (cases n <;> cases hk)
  · obtain ⟨h1, h2⟩ := all_of hk
    obtain ⟨⟨as, q⟩, c, p⟩ := ih n h1
    obtain ⟨⟨as', q'⟩, c', p'⟩ := ih' n h2
    exact ⟨⟨_, .cons q q'⟩, Bool.and_eq_true_iff.mpr ⟨c, c'⟩, Nat.max_le.mpr ⟨p, p'⟩⟩
theorem VRs.reads (hz : ∀ a o, W.Z a = some o → h.get? a = some o) {n : Nat} : ∀ {ds : List D} {vs : List Value}, VRs C W ds vs → ds.all (D.ok n) = true → RsL h vs (D.toPs ds) n
  | [], _, r, _ => by cases r.nil'; exact ⟨⟨_, .nil⟩, rfl, Nat.zero_le _⟩
  | d :: ds, _, r, hk => by
    obtain ⟨v, vs, a, r'⟩ := r.cons'
    obtain ⟨h1, h2⟩ := all_of hk
    obtain ⟨⟨as, q⟩, c, p⟩ := a.reads hz n h1
    obtain ⟨⟨as', q'⟩, c', p'⟩ := VRs.reads hz r' h2
    exact ⟨⟨_, .cons q q'⟩, Bool.and_eq_true_iff.mpr ⟨c, c'⟩, Nat.max_le.mpr ⟨p, p'⟩⟩
end
inductive Rd (st : Sto) : D → PyData → Prop
  | flat {a : D} : a.ok 16 = true → Rd st a a.toP
  | ref {n : Nat} {l : List D} : st[n]? = some (.lst l) → l.all (D.ok 15) = true → Rd st (.ref n) (.list (D.toPs l))

section
variable {B : Base} {k : Nat} {A : Around} {env : Env} {sc : Scope} {v : Vars} {s : Shared} {W : Wd} {st st₁ st₂ st' : Sto} {a b d : D} {u : Value} {p q : PyData} {e i o : Expr} {pos : Pos} {l : List Nat} {ds : List D}
theorem Rd.at (R : Rd st a p) (G : Good B s.heap W st) (r : VR B.C W a u) : Rs s.heap u p 16 := by
  cases R with
  | flat h => exact r.reads G.hz 16 h
  | ref e h =>
    obtain ⟨c, vs, n, e, q, r', hl⟩ := G.lst e
    obtain ⟨c', e'⟩ := r.ref'
    rw [e] at e'; cases e'
    exact rs_lst q (r'.reads G.hz h)
theorem Rs.shaped (r : Rs s.heap u p 16) : SeqAt.shaped p = true := by
  unfold SeqAt.shaped; rw [r.c, Bool.true_and]; exact decide_eq_true (by have := r.d; omega)
theorem cp_eq (ha : Rd st a p) (hb : Rd st b q) : CmpOk B .Eq st a b (PyData.eqv p q) := fun A s W u w R G ru rw Q E h =>
  let x := ha.at G ru; let y := hb.at G rw; let ⟨_, r1⟩ := x.r; let ⟨_, r2⟩ := y.r; eq_dataH r1 r2 x.shaped y.shaped R.units h
theorem cp_ne (ha : Rd st a p) (hb : Rd st b q) : CmpOk B .NotEq st a b (!PyData.eqv p q) := fun A s W u w R G ru rw Q E h =>
  let x := ha.at G ru; let y := hb.at G rw; let ⟨_, r1⟩ := x.r; let ⟨_, r2⟩ := y.r; ne_dataH r1 r2 x.shaped y.shaped R.units h
theorem in_room (R : Room A 0) (x : Rs s.heap u p 16) {n : Nat} : A.units + 1 + min n p.depth < cLine := by
  have := R.units; have := x.d; have := Nat.min_le_right n p.depth; omega
theorem cp_in_lst (ha : Rd st a p) (hb : Items st b ds) (hd : ds.all (D.ok 15) = true) : CmpOk B .In st a b ((D.toPs ds).any fun y => PyData.eqv y p) := fun A s W u w R G ru rw Q E h => by
  have x := ha.at G ru
  obtain ⟨c, vs, n, e, r', hl⟩ := hb.at G rw
  have y := rs_lst e (r'.reads G.hz hd)
  obtain ⟨_, r1⟩ := x.r
  obtain ⟨_, r2⟩ := y.r
  exact SeqAt.in_list_reads r2 r1 y.c x.c (in_room R x) h
theorem cp_notin_lst (ha : Rd st a p) (hb : Items st b ds) (hd : ds.all (D.ok 15) = true) : CmpOk B .NotIn st a b (!(D.toPs ds).any fun y => PyData.eqv y p) := fun A s W u w R G ru rw Q E h => by
  have x := ha.at G ru
  obtain ⟨c, vs, n, e, r', hl⟩ := hb.at G rw
  have y := rs_lst e (r'.reads G.hz hd)
  obtain ⟨_, r1⟩ := x.r
  obtain ⟨_, r2⟩ := y.r
  exact SeqAt.notIn_list_reads r2 r1 y.c x.c (in_room R x) h
theorem cp_in_tup (ha : Rd st a p) (hd : ds.all (D.ok 15) = true) : CmpOk B .In st a (.tup ds) ((D.toPs ds).any fun y => PyData.eqv y p) := fun A s W u w R G ru rw Q E h => by
  have x := ha.at G ru
  have y := rw.reads G.hz 16 hd
  obtain ⟨_, r1⟩ := x.r
  obtain ⟨_, r2⟩ := y.r
  exact SeqAt.in_tuple_reads r2 r1 y.c x.c (in_room R x) h

noncomputable def ItOk (B : Base) (st : Sto) (a i d : D) : Prop := ∀ A s W u w, Good B s.heap W st → VR B.C W a u → VR B.C W i w → Gv B A (getItem u w) s W st st (IsD B d) ∧ ∃ T id, s.TypeIs u T ∧ typeLookup (.type T) "__getitem__" = pure (some (.builtin id))
theorem tail_ok {prog : Program} {w : World} {value slice : Expr} {o i : Value} {T id : String} {Q : Value → Shared → Prop} {E : Value → Shared → Prop} (hT : s.TypeIs o T)
    (hl : typeLookup (.type T) "__getitem__" = pure (some (.builtin id))) (h : wpAny (model prog w) A (getItem o i) Q E s)
    (hs : ∃ vs, subscripted slice false o i = operate vs (getItem o i)) : wpAny (model prog w) A (subscriptTail value slice o i) Q E s := by
  unfold subscriptTail
  refine wpAny_bind ?_
  rw [getitemInPython_of_ne hT.not_modules]
  refine wpAny_bind (wpAny_specialOf hT hl ?_)
  obtain ⟨vs, hs⟩ := hs
  have fin : wpAny (model prog w) A (subscripted slice false o i) (fun r s₃ => wpAny (model prog w) A (letTemporaryGo value o r >>= fun z_ => pure r) Q E s₃) E s := by
    rw [hs]
    exact wpAny_operating (wpAny_mono h (fun r s₃ h₃ => wpAny_bind (wpAny_letTemporaryGo (wpAny_pure h₃))) fun z_ z_ x => x)
  first
    | exact wpAny_pure (wpAny_bind fin)
    | exact wpAny_bind (wpAny_pure (wpAny_bind fin))
    | exact wpAny_bind fin
set_option tactic.hygienic true in
theorem ev_item (h1 : Ev B k sc v o st a st₁) (h2 : Ev B k sc v i st₁ b st') (h3 : ItOk B st' a b d) (hs : ∀ o' i', ∃ vs, subscripted i false o' i' = operate vs (getItem o' i')) : Ev B k sc v (.Subscript o i pos) st d st' := fun A env s W R O =>
  Subscript_ ((h1 A env s W R O).next O fun u s₁ W₁ O₁ S₁ r₁ => (h2 A env s₁ W₁ R O₁).next O₁ fun w s₂ W₂ O₂ S₂ r₂ => by
    obtain ⟨g, T, id, hT, hl⟩ := h3 A s₂ W₂ u w O₂.g (VR.up S₂.le r₁) r₂
    exact tail_ok hT hl (g.last (S₁.trans S₂)) (hs _ _))
theorem seqIndex_some {i : Int} {n k : Nat} (h : seqIndex? i n = some k) : (0 ≤ i ∧ i < n ∧ k = i.toNat) ∨ (i < 0 ∧ 0 ≤ i + n ∧ k = (i + n).toNat) := by
  by_cases hi : i < 0
  · simp only [seqIndex?, hi, if_true, Bool.and_eq_true, decide_eq_true_eq, Option.ite_none_right_eq_some, Option.some.injEq] at h
    exact .inr ⟨hi, h.1.1, h.2.symm⟩
  · simp only [seqIndex?, hi, if_false, Bool.and_eq_true, decide_eq_true_eq, Option.ite_none_right_eq_some, Option.some.injEq] at h
    exact .inl ⟨h.1.1, h.1.2, h.2.symm⟩
theorem seqIndex_lim {i : Int} {n k : Nat} (h : seqIndex? i n = some k) (hn : n ≤ LIM) : -(2 ^ 63) ≤ i ∧ i < 2 ^ 63 := by
  unfold LIM at hn
  rcases seqIndex_some h with h | h <;> omega
theorem getItem_list' {l : Addr} {items : Array Value} {k : Int} {t : Tok} {j : Nat} {x : Value} {prog : Program} {w : World} {Q : Value → Shared → Prop} {E : Value → Shared → Prop} (hl : s.heap.IsList l items) (hlo : -(2 ^ 63) ≤ k) (hfit : k < 2 ^ 63)
    (hj : seqIndex? k items.size = some j) (hx : items[j]? = some x) (h : Q x s) : wpAny (model prog w) A (getItem (.ref l) (.int k t)) Q E s := by
  rcases seqIndex_some hj with ⟨h0, h1, rfl⟩ | ⟨h0, h1, rfl⟩
  · exact wpAny_getItem_list hl h0 hfit hx h
  · exact wpAny_getItem_list_neg hl h0 (by omega) hlo hx h
variable {j : Int} {m : Nat}
theorem im_str {c : Nat} (hj : seqIndex? j l.length = some m) (hc : l[m]? = some c) : ItOk B st (.str l) (.int j) (.str [c]) := fun A s W u w G ru rw => by
  obtain ⟨z, t, e1, l1, c1⟩ := ru.str'
  obtain ⟨t', rfl⟩ := rw.int'
  have hlim := seqIndex_lim hj l1
  refine ⟨gv_tok (R := IsD B (.str [c])) G (.str _ _ _ rfl (by show 1 ≤ LIM; decide) ?_) fun Q E h => P.getItem_str (c := c) ?_ ?_ h, "str", _, typeIs_str s z t, PySem.F.slot_str_getitem.lookup⟩
  · have := List.all_eq_true.mp c1 c (List.mem_of_getElem? hc)
    exact (Bool.and_true _).trans this
  · rw [decide_eq_false (by omega), decide_eq_false (by omega)]; rfl
  · rw [str_len e1, hj]
    rw [← e1] at hc
    simpa using hc
theorem im_tup (hj : seqIndex? j ds.length = some m) (hd : ds[m]? = some d) : ItOk B st (.tup ds) (.int j) d := fun A s W u w G ru rw => by
  obtain ⟨c, vs, n, e, r, hl⟩ := ru.tup'
  obtain ⟨t', rfl⟩ := rw.int'
  have hlim := seqIndex_lim hj hl
  obtain ⟨y, hy, ry⟩ := r.get hd
  have e := G.hz _ _ e
  exact ⟨gv_now (R := IsD B d) G ry fun Q E h => getItem_tuple (items := vs.toArray) ⟨_, e, rfl, n, rfl⟩ hlim.1 hlim.2 (by rw [List.size_toArray, r.length]; exact hj) (by simpa using hy) h, "tuple", _, ⟨_, e, rfl⟩, slot_tuple_getitem.lookup⟩
theorem im_lst (I : Items st a ds) (hj : seqIndex? j ds.length = some m) (hd : ds[m]? = some d) : ItOk B st a (.int j) d := fun A s W u w G ru rw => by
  obtain ⟨c, vs, n, e, r, hl⟩ := I.at G ru
  obtain ⟨t', rfl⟩ := rw.int'
  have hlim := seqIndex_lim hj hl
  obtain ⟨y, hy, ry⟩ := r.get hd
  have L : s.heap.IsList c vs.toArray := ⟨_, e, rfl, n, rfl⟩
  exact ⟨gv_now (R := IsD B d) G ry fun Q E h => getItem_list' L hlim.1 hlim.2 (by rw [List.size_toArray, r.length]; exact hj) (by simpa using hy) h, "list", _, L.typeIs, slot_list_getitem.lookup⟩

noncomputable def cutI {α : Type} (l : List α) (lo hi : Option Int) : List α := (l.drop (lo.elim 0 (clipAt l.length))).take (hi.elim l.length (clipAt l.length) - lo.elim 0 (clipAt l.length))
noncomputable def optEv (B : Base) (k : Nat) (sc : Scope) (v : Vars) (st : Sto) (lo : Option Int) (st' : Sto) : Option Expr → Prop
  | some e => ∃ i, lo = some i ∧ Ev B k sc v e st (.int i) st'
  | none => lo = none ∧ st' = st
noncomputable def IsP (lo : Option Int) (_ : Wd) (u : Value) : Prop := ∃ p : Option (Int × Tok), u = partValue p ∧ p.map (·.1) = lo
theorem part_ok {lo : Option Int} {x : Option Expr} (h : optEv B k sc v st lo st' x) (R : Room A k) (O : OK B env sc v s W st) : Gv B A (evalPart x env) s W st st' (IsP lo) := by
  cases x with
  | none => obtain ⟨rfl, rfl⟩ := h; exact gv_now O.g ⟨none, rfl, rfl⟩ fun Q E h => wpAny_pure h
  | some y =>
    obtain ⟨i, rfl, h⟩ := h
    exact wpAny_mono (h A env s W R O) (fun u s₁ ⟨W₁, G, S, r⟩ => by obtain ⟨t, rfl⟩ := VR.int' r; exact ⟨W₁, G, S, some (i, t), rfl, rfl⟩) fun z_ z_ e => e
noncomputable def sliceO (ul uh : Value) : Obj := { cls := .type "slice", data := .fields #[ul, uh, .none] }
noncomputable def SlOk (B : Base) (st : Sto) (a : D) (lo hi : Option Int) (d : D) : Prop := ∀ (A : Around) (s : Shared) (W : Wd) (u : Value) (pl ph : Option (Int × Tok)), Good B s.heap W st → VR B.C W a u → pl.map (·.1) = lo → ph.map (·.1) = hi →
  Gv B A (getItem u (.ref s.heap.objs.size)) { s with heap := s.heap.push (sliceO (partValue pl) (partValue ph)) } W st st (IsD B d) ∧
    ∃ T id, Shared.TypeIs { s with heap := s.heap.push (sliceO (partValue pl) (partValue ph)) } u T ∧ typeLookup (.type T) "__getitem__" = pure (some (.builtin id))
set_option tactic.hygienic true in
theorem ev_slice {lo hi : Option Int} {x y : Option Expr} {p : Pos} (h1 : Ev B k sc v o st a st₁) (h2 : optEv B k sc v st₁ lo st₂ x) (h3 : optEv B k sc v st₂ hi st' y) (h4 : SlOk B st' a lo hi d) : Ev B k sc v (.Subscript o (.Slice x y none p) pos) st d st' := fun A env s W R O =>
  Subscript_ ((h1 A env s W R O).next O fun u s₁ W₁ O₁ S₁ r₁ => wpAny_Slice ((part_ok h2 R O₁).next O₁ fun ul s₂ W₂ O₂ S₂ r₂ => (part_ok h3 R O₂).next O₂ fun uh s₃ W₃ O₃ S₃ r₃ => wpAny_pure (by
    obtain ⟨pl, rfl, e1⟩ := r₂
    obtain ⟨ph, rfl, e2⟩ := r₃
    obtain ⟨g, T, id, hT, hl⟩ := h4 A s₃ W₃ u pl ph O₃.g ((VR.up S₂.le r₁).up S₃.le) e1 e2
    exact tail_ok hT hl (g.last (((S₁.trans S₂).trans S₃).trans (.keep (keep_push _) s₃.toks))) ⟨_, rfl⟩)))
theorem partV_of (p : Option (Int × Tok)) : IsPart (partValue p) (p.map (·.1)) := by
  cases p with
  | none => exact .none
  | some p => exact .int p.1 p.2
theorem clip_le {n : Nat} {i : Nat} : clipAt n (i : Int) = min i n := by
  have h := clipAt_cast n i
  have e : min (i : Int) (n : Int) = ((min i n : Nat) : Int) := by
    rcases Nat.le_total i n with h | h
    · rw [Nat.min_eq_left h, Int.min_eq_left (Int.ofNat_le.mpr h)]
    · rw [Nat.min_eq_right h, Int.min_eq_right (Int.ofNat_le.mpr h)]
  rw [if_neg (Int.not_lt.mpr (Int.natCast_nonneg i)), e, Int.max_eq_right (Int.natCast_nonneg _)] at h
  exact Int.ofNat.inj h
theorem clip_bd {n : Nat} {i : Int} : clipAt n i ≤ n := Int.ofNat_le.mp (by rw [clipAt_cast]; exact Int.max_le.mpr ⟨Int.natCast_nonneg _, Int.min_le_right _ _⟩)
theorem cut_len {α : Type} (l : List α) (lo hi : Option Int) : (cutI l lo hi).length ≤ l.length := by
  unfold cutI; rw [List.length_take, List.length_drop]; exact Nat.le_trans (Nat.min_le_right _ _) (Nat.sub_le _ _)
theorem sl_lst {lo hi : Option Int} (I : Items st a ds) : SlOk B st a lo hi (.lst (cutI ds lo hi)) := fun A s W u pl ph G ru e1 e2 => by
  obtain ⟨c, vs, n, e, r, hl⟩ := I.at G ru
  have G' := G.keep (keep_push (sliceO (partValue pl) (partValue ph)))
  have L : (s.heap.push (sliceO (partValue pl) (partValue ph))).IsList c vs.toArray := ⟨_, keep_push _ _ _ e, rfl, n, rfl⟩
  refine ⟨?_, "list", _, L.typeIs, slot_list_getitem.lookup⟩
  refine wpAny_getItem_list_slice (lo := lo) (hi := hi) (st := none) L (Heap.IsSliceOf.new ..) (e1 ▸ partV_of pl) (e2 ▸ partV_of ph) .none (by nofun) ?_ ?_
  · rw [slicePick_plain]
    have e2 : ((vs.toArray.toList.drop (lo.elim 0 (clipAt vs.toArray.size))).take (hi.elim vs.toArray.size (clipAt vs.toArray.size) - lo.elim 0 (clipAt vs.toArray.size))) = cutI vs lo hi := rfl
    rw [e2]
    refine got_push (s := { s with heap := s.heap.push (sliceO (partValue pl) (partValue ph)) }) (o := listO (cutI vs lo hi) 0) G' rfl (vr_lst (s := { s with heap := s.heap.push (sliceO (partValue pl) (partValue ph)) }) G' ?_ (Nat.le_trans (cut_len _ _ _) hl)) s.toks
    unfold cutI; rw [r.length]; exact (r.drop _).take _
  · rw [List.size_toArray, r.length]; exact lim_fits hl
theorem cut_scr {lo hi : Option Int} : SlOk B st (.scr ds) lo hi (.lst (cutI ds lo hi)) := fun A s W u pl ph G ru e1 e2 => by
  obtain ⟨c, o, vs, n, e, hc, hd, r, hl⟩ := ru.scr'
  have G' := G.keep (keep_push (sliceO (partValue pl) (partValue ph)))
  have L : (s.heap.push (sliceO (partValue pl) (partValue ph))).IsList c vs.toArray := ⟨_, keep_push _ _ _ (G.hz _ _ e), hc, n, hd⟩
  refine ⟨?_, "list", _, L.typeIs, slot_list_getitem.lookup⟩
  refine wpAny_getItem_list_slice (lo := lo) (hi := hi) (st := none) L (Heap.IsSliceOf.new ..) (e1 ▸ partV_of pl) (e2 ▸ partV_of ph) .none (by nofun) ?_ ?_
  · rw [slicePick_plain]
    have e2 : ((vs.toArray.toList.drop (lo.elim 0 (clipAt vs.toArray.size))).take (hi.elim vs.toArray.size (clipAt vs.toArray.size) - lo.elim 0 (clipAt vs.toArray.size))) = cutI vs lo hi := rfl
    rw [e2]
    refine got_push (s := { s with heap := s.heap.push (sliceO (partValue pl) (partValue ph)) }) (o := listO (cutI vs lo hi) 0) G' rfl (vr_lst (s := { s with heap := s.heap.push (sliceO (partValue pl) (partValue ph)) }) G' ?_ (Nat.le_trans (cut_len _ _ _) hl)) s.toks
    unfold cutI; rw [r.length]; exact (r.drop _).take _
  · rw [List.size_toArray, r.length]; exact lim_fits hl
theorem strPick (x : Str) (lo hi : Option Int) : Builtin.Str.strSliceIndices lo hi 1 x.length = sliceRange ((lo.elim 0 (clipAt x.length) : Nat) : Int) ((hi.elim x.length (clipAt x.length) : Nat) : Int) 1 := by
  unfold Builtin.Str.strSliceIndices
  cases lo <;> cases hi <;> simp [clipAt_cast]
set_option tactic.hygienic true in
theorem sl_str {lo hi : Option Int} : SlOk B st (.str l) lo hi (.str (cutI l lo hi)) := fun A s W u pl ph G ru e1 e2 => by
  obtain ⟨x, t, ex, l1, c1⟩ := ru.str'
  have G' := G.keep (keep_push (sliceO (partValue pl) (partValue ph)))
  refine ⟨?_, "str", _, typeIs_str _ x t, PySem.F.slot_str_getitem.lookup⟩
  refine wpAny_getItem_str_slice (l := pl) (u := ph) (st := none) ⟨_, Heap.get?_push_size _ rfl, rfl, rfl⟩ rfl ?_
  have q1 := str_len ex
  have hi2 : slicePicked x pl ph none = sliceRange ((lo.elim 0 (clipAt x.length) : Nat) : Int) ((hi.elim x.length (clipAt x.length) : Nat) : Int) 1 := by
    unfold slicePicked; rw [e1, e2]; exact strPick x lo hi
  have hc : cutI l lo hi = (slicePicked x pl ph none).filterMap (x.cps[·]?) := by
    rw [hi2, sliceRange_one, pick_run, ex]
    unfold cutI; rw [q1]
  have hl : (cutI l lo hi).length ≤ LIM := Nat.le_trans (cut_len _ _ _) l1
  have ha : ascii (cutI l lo hi) = true := List.all_eq_true.mpr fun y hy => List.all_eq_true.mp c1 y (List.mem_of_mem_drop (List.mem_of_mem_take hy))
  unfold sliceMade
  split
  · rename_i hcc
    refine gv_keep (h' := (s.heap.push (sliceO (partValue pl) (partValue ph)))) (s := { s with heap := (s.heap.push (sliceO (partValue pl) (partValue ph))) }) (R := IsD B (.str (cutI l lo hi))) G' (.str _ _ _ ?_ hl ha) s.toks fun z_ z_ e => e
    simp only [Bool.and_eq_true, beq_iff_eq] at hcc
    have h2 := hcc.2
    rw [hi2, sliceRange_one, List.length_map, List.length_range] at h2
    rw [ex]
    unfold cutI
    rw [← q1]
    have h6 := Array.length_toList (xs := x.cps)
    rw [ex] at h6
    have hcl : hi.elim x.length (clipAt x.length) ≤ x.length := by
      cases hi with
      | none => exact Nat.le_refl _
      | some z => exact clip_bd
    generalize hi.elim x.length (clipAt x.length) = b at *
    generalize lo.elim 0 (clipAt x.length) = c at *
    have h7 : c = 0 ∨ x.length = 0 := (Nat.eq_zero_or_pos c).imp id fun hc => Nat.eq_zero_of_not_pos fun hp => absurd h2 (Nat.ne_of_lt (Nat.lt_of_le_of_lt (Nat.sub_le_sub_right hcl c) (Nat.sub_lt hp hc)))
    rcases h7 with h7 | h7
    · rw [h7, List.drop_zero, List.take_of_length_le (by rw [Nat.sub_zero, ← q1, ← h2]; exact Nat.sub_le _ _)]
    · rw [List.eq_nil_of_length_eq_zero (q1.symm.trans h7)]; simp
  · refine ⟨?_, gv_keep (h' := (s.heap.push (sliceO (partValue pl) (partValue ph)))) (s := { s with heap := (s.heap.push (sliceO (partValue pl) (partValue ph))) }) (R := IsD B (.str (cutI l lo hi))) G' (.str _ _ _ ?_ hl ha) _ fun z_ z_ e => e⟩
    · show Array.size _ ≤ sizeLine
      rw [List.size_toArray, ← hc]; exact lim_fits hl
    · exact hc.symm
end
end Mine
namespace Mine
open PySem PySem.W PyProof.Rows PySem.Calls

noncomputable def notSuper : Expr → Bool
  | .Call (.Name x _) [] [] _ => !(x == ("super" : Str))
  | _ => true
noncomputable def callOk (o : Expr) (apos pos : Pos) (n : Nat) : Bool := notSuper o && apos.endLine == pos.line && decide (n < 25)
noncomputable def KeepOk (M : Model) (A : Around) (f : Value) (s : Shared) : Prop := ∀ (Q : Keeper → Shared → Prop) (E : Value → Shared → Prop), (∀ k, (k = .frame ∨ k = .machine) → Q k s) → wpAny M A (keeperOf f) Q E s

section
variable {M : Model} {A : Around} {E : Value → Shared → Prop} {s : Shared}
theorem keep_builtin (id : String) : KeepOk M A (.builtin id) s := fun z_ z_ h => wpAny_pure (h _ (.inr rfl))
theorem keep_type (t : String) : KeepOk M A (.type t) s := fun z_ z_ h => wpAny_pure (h _ (.inr rfl))
theorem keep_func {a : Addr} {o : Obj} {fd : FuncData} (ho : s.heap.get? a = some o) (hd : o.data = .func fd) : KeepOk M A (.ref a) s := fun Q E h => by
  unfold keeperOf
  refine wpAny_bind (wpAny_load ho ?_)
  rw [hd]
  exact wpAny_pure (h _ (.inl rfl))
theorem callWith_ok {pos : Pos} {f : Value} {first : List Value} {args : List (Bool × Sem Value)} {keywords : List (Option Str × Sem Value)} {Q : Value → Shared → Prop} (hplain : args.any (·.1) = false) (hall : keywords.all (·.1.isSome) = true)
    (h : wpAny M A (spliced args) (fun vs s₁ => wpAny M A (evalAll (keywords.map (·.2))) (fun ks s₂ => KeepOk M A f s₂ ∧ wpAny M A (call f (first ++ vs) ((keywords.filterMap (·.1)).zip ks)) Q E s₂) E s₁) E s) :
    wpAny M A (callWith pos f first args keywords) Q E s := by
  have ha : wpAny M A (evalArgs f true args keywords) (fun a s₁ => KeepOk M A f s₁ ∧ wpAny M A (call f (first ++ a.pos) a.kw) Q E s₁) E s := by
    cases args with
    | nil =>
      refine evalArgs_kw_nil hall ?_
      intro Γ p hΓ
      exact (h Γ p hΓ) Γ p hΓ
    | cons x rest =>
      obtain ⟨b, t⟩ := x
      simp only [List.any_cons, Bool.or_eq_false_iff] at hplain
      have hb : b = false := hplain.1
      subst hb
      exact evalArgs_kw hall h
  unfold callWith
  refine wpAny_bind (wpAny_holding (wpAny_mono ha (fun a s₁ h₁ => wpAny_bind (wpAny_standAt ?_)) fun z_ z_ x => x))
  have tail : ∀ {t : Sem Value}, wpAny M A t Q E s₁ → wpAny M A (t >>= fun r => holding [r] point >>= fun z_ => pure r) Q E s₁ :=
    fun ht => wpAny_bind (wpAny_mono ht (fun r s₂ hr => wpAny_bind (wpAny_holding (wpAny_point (wpAny_pure hr)))) fun z_ z_ x => x)
  have hst : (args.any (·.1) || keywords.any (·.1.isNone)) = false := by
    rw [hplain, Bool.false_or, List.any_eq_false]
    intro x hx
    have := List.all_eq_true.mp hall x hx
    cases hx1 : x.1 <;> simp_all
  refine wpAny_bind (h₁.1 _ _ fun k hk => ?_)
  simp only [hst]
  rcases hk with rfl | rfl
  · simp only
    split
    · exact tail h₁.2
    · exact tail (by unfold callMarked; exact Calls.wpAny_keep h₁.2)
  · exact tail h₁.2
theorem backTo_any {pos : Pos} {l : List (Bool × Sem Value)} (h : l.any (·.1) = false) : (backTo pos l).any (·.1) = false := by
  unfold backTo; rw [List.any_map]; exact h
theorem base_ok {o : Expr} {name : Str} {env : Env} (h1 : notSuper o = true) : attributeBase o name env (eval o env) = eval o env := by
  cases o with
  | Call f args kws p =>
    cases f with
    | Name x p' =>
      cases args with
      | nil =>
        cases kws with
        | nil =>
          have h2 : (!(x == ("super" : Str))) = true := h1
          have : (x != ("super" : Str)) = true := h2
          unfold attributeBase
          dsimp only
          rw [this]; rfl
        | cons => rfl
      | cons => rfl
    | _ => rfl
  | _ => rfl
theorem methodCall_ok {o : Expr} {name : Str} {apos pos : Pos} {args : List Expr} {kws : List Keyword} {env : Env} {Q : Value → Shared → Prop} (hc : callOk o apos pos (args.length + kws.length) = true)
    (hplain : (starEach args env).any (·.1) = false) (hall : (keywordEach kws env).all (·.1.isSome) = true)
    (h : wpAny M A (eval o env) (fun ov s₁ => ∀ pl, wpAny M A (getMethod ov name pl) (fun fx s₂ => wpAny M A (callWith pos fx.1 fx.2 (backTo pos (starEach args env)) (backToKw pos (keywordEach kws env))) Q E s₂) E s₁) E s) :
    wpAny M A (eval (.Call (.Attribute o name apos) args kws pos) env) Q E s := by
  unfold callOk at hc
  simp only [Bool.and_eq_true, decide_eq_true_eq] at hc
  obtain ⟨⟨h1, h2⟩, h3⟩ := hc
  have hpl : (backTo pos (starEach args env)).all (fun x => !x.1) = true := by
    unfold backTo
    rw [List.all_map, List.all_eq_true]
    intro x hx
    simpa using List.any_eq_false.mp hplain x hx
  have hkw : (backToKw pos (keywordEach kws env)).all (fun x => x.1.isSome) = true := by
    unfold backToKw
    rw [List.all_map, List.all_eq_true]
    intro x hx
    simpa using List.all_eq_true.mp hall x hx
  have hform : methodCallForm (args.length + kws.length) (backTo pos (starEach args env)) (backToKw pos (keywordEach kws env)) = true := by
    unfold methodCallForm
    rw [hpl, hkw]
    simp only [Bool.true_and, decide_eq_true_eq]
    split <;> omega
  have hpos : methodCallPos true o env apos pos = pure pos := by unfold methodCallPos; simp [h2]
  rw [arm_eval_Call, base_ok h1]
  refine wpAny_bind (wpAny_mono h (fun ov s₁ h₁ => wpAny_bind (wpAny_standAt ?_)) fun z_ z_ e => e)
  unfold methodCall
  rw [hform]
  exact wpAny_bind (wpAny_holding (wpAny_mono (h₁ _) (fun fx s₂ h₂ => wpAny_bind (wpAny_of_eq hpos h₂)) fun z_ z_ e => e))
end

structure Evk (B : Base) (k : Nat) (sc : Scope) (v : Vars) (kws : List Keyword) (st : Sto) (ks : List (Str × D)) (st' : Sto) : Prop where
  all : ∀ env, (keywordEach kws env).all (·.1.isSome) = true
  nm : ∀ pos env, (backToKw pos (keywordEach kws env)).filterMap (·.1) = ks.map (·.1)
  run : ∀ pos A env s W, Room A k → OK B env sc v s W st → Gv B A (evalAll ((backToKw pos (keywordEach kws env)).map (·.2))) s W st st' (IsL B (ks.map (·.2)))
noncomputable def CallOk (B : Base) (k : Nat) (fv : Value) (ds : List D) (ks : List (Str × D)) (st : Sto) (d : D) (st' : Sto) : Prop :=
  ∀ A s W us kus, Room A k → Good B s.heap W st → VRs B.C W ds us → VRf B.C W ks kus → Gv B A (call fv us kus) s W st st' (IsD B d)
noncomputable def KeepT (B : Base) (fv : Value) : Prop := ∀ M A s W st, Good B s.heap W st → KeepOk M A fv s
noncomputable def NmT (B : Base) (f : Str) (fv : Value) : Prop := B.mg f = some fv ∨ (B.mg f = none ∧ f ≠ ("__name__" : Str) ∧ bootBuiltins f = some fv)
inductive FnG (B : Base) (k : Nat) (f : Str) (ds : List D) (ks : List (Str × D)) (st : Sto) (d : D) (st' : Sto) : Prop
  | mk (fv : Value) : NmT B f fv → KeepT B fv → CallOk B k fv ds ks st d st' → FnG B k f ds ks st d st'
inductive MtG (B : Base) (k : Nat) (a : D) (m : Str) (st₀ : Sto) (ds : List D) (ks : List (Str × D)) (st : Sto) (d : D) (st' : Sto) : Prop
  | mk (fv : Value) : KeepT B fv → (∀ A s W u pl (Q : Value × List Value → Shared → Prop) E, Good B s.heap W st₀ → VR B.C W a u → (∀ tk, Q (fv, [u]) { s with toks := tk }) → wpAny (model B.prog B.w) A (getMethod u m pl) Q E s) →
    CallOk B k fv (a :: ds) ks st d st' → MtG B k a m st₀ ds ks st d st'

section
variable {B : Base} {k k' : Nat} {A : Around} {env : Env} {sc : Scope} {v : Vars} {s : Shared} {W : Wd} {st st₀ st₁ st₂ st' : Sto} {a d : D} {e o : Expr} {x : Str} {pos p : Pos} {args : List Expr} {kws : List Keyword} {ds : List D} {ks : List (Str × D)} {fv : Value}
theorem ek_nil : Evk B k sc v [] st [] st := ⟨fun z_ => rfl, fun z_ z_ => rfl, fun z_ z_ z_ z_ W z_ O => evalAll_nil ⟨W, O.g, .refl, .nil⟩⟩
set_option tactic.hygienic true in
theorem ek_cons (h1 : Ev B k sc v e st d st₁) (h2 : Evk B k sc v kws st₁ ks st') : Evk B k sc v (⟨some x, e, p⟩ :: kws) st ((x, d) :: ks) st' :=
  ⟨fun env => h2.all env, fun pos env => congrArg (x :: ·) (h2.nm pos env), fun pos A env s W R O => kws_cons ((h1 A env s W R O).next O fun u s₁ W₁ O₁ S₁ r₁ =>
    wpAny_mono (h2.run pos A env s₁ W₁ R O₁) (fun us s₂ ⟨W₂, G, S₂, r₂⟩ => ⟨W₂, G, S₁.trans S₂, .cons (VR.up S₂.le r₁) r₂⟩) fun z_ z_ e => e)⟩
theorem kw_all (h : ∀ env, (keywordEach kws env).all (·.1.isSome) = true) : (backToKw pos (keywordEach kws env)).all (·.1.isSome) = true := by
  unfold backToKw
  rw [List.all_map]
  exact h env
theorem vrf_of {names : List Str} {us : List Value} (h : names = ks.map (·.1)) (r : VRs B.C W (ks.map (·.2)) us) : VRf B.C W ks (names.zip us) := by
  have := r.length
  rw [List.length_map] at this
  subst h
  exact ⟨by rw [List.map_fst_zip (by rw [List.length_map]; omega)], by rw [List.map_snd_zip (by rw [List.length_map]; omega)]; exact r⟩
set_option tactic.hygienic true in
theorem args_ok {f : Value} {first : List Value} (h1 : Evs B k sc v args st ds st₁) (h2 : Evk B k sc v kws st₁ ks st₂) (R : Room A k) (O : OK B env sc v s W st) {Q : Value → Shared → Prop} (hk : ∀ s₂ W₂, OK B env sc v s₂ W₂ st₂ → Le W W₂ → KeepOk (model B.prog B.w) A f s₂)
    (h : ∀ us kus s₂ W₂, OK B env sc v s₂ W₂ st₂ → Step B Em s W st s₂ W₂ st₂ → VRs B.C W₂ ds us → VRf B.C W₂ ks kus → wpAny (model B.prog B.w) A (call f (first ++ us) kus) Q NoE s₂) :
    wpAny (model B.prog B.w) A (callWith pos f first (backTo pos (starEach args env)) (backToKw pos (keywordEach kws env))) Q NoE s :=
  callWith_ok (backTo_any (h1.plain env)) (kw_all h2.all) ((h1.run pos A env s W R O).next O fun us s₁ W₁ O₁ S₁ r₁ => (h2.run pos A env s₁ W₁ R O₁).next O₁ fun kus s₂ W₂ O₂ S₂ r₂ =>
    ⟨hk _ _ O₂ (S₁.trans S₂).le, h us _ s₂ W₂ O₂ (S₁.trans S₂) (VRs.up S₂.le r₁) (vrf_of (h2.nm pos env) r₂)⟩)
theorem name_ok (O : OK B env sc v s W st) (hk : gloKind sc x = true) (h : NmT B x fv) {M : Model} {Q : Value → Shared → Prop} {E : Value → Shared → Prop} (q : Q fv s) : wpAny M A (eval (.Name x p) env) Q E s :=
  h.elim (fun h => global_ok O hk h q) fun h => builtin_name O hk h.1 h.2.2 h.2.1 q
theorem ev_call (hk : gloKind sc x = true) (h1 : Evs B k sc v args st ds st₁) (h2 : Evk B k sc v kws st₁ ks st₂) (h3 : FnG B k x ds ks st₂ d st') : Ev B k sc v (.Call (.Name x p) args kws pos) st d st' := fun A env s W R O =>
  let ⟨fv, hn, hkp, hc⟩ := h3
  wpAny_Call_Name_kw (name_ok O hk hn (args_ok h1 h2 R O (fun s₂ W₂ O₂ z_ => hkp _ _ _ _ _ O₂.g) fun us kus s₂ W₂ O₂ S₂ r₂ r₃ => (hc A s₂ W₂ us kus R O₂.g r₂ r₃).last S₂))
set_option tactic.hygienic true in
theorem ev_meth {m : Str} (hc : callOk o p pos (args.length + kws.length) = true) (h0 : Ev B k sc v o st a st₀) (h1 : Evs B k sc v args st₀ ds st₁) (h2 : Evk B k sc v kws st₁ ks st₂) (h3 : MtG B k a m st₀ ds ks st₂ d st') : Ev B k sc v (.Call (.Attribute o m p) args kws pos) st d st' := fun A env s W R O =>
  let ⟨fv, hkp, hg, hm⟩ := h3
  methodCall_ok hc (h1.plain env) (h2.all env) ((h0 A env s W R O).next O fun u s₁ W₁ O₁ S₁ r₁ pl => hg A s₁ W₁ u pl _ _ O₁.g r₁ fun tk => by
    have S₂ : Step B Em s W st { s₁ with toks := tk } W₁ st₀ := S₁.trans (.keep (fun z_ z_ e => e) tk)
    exact args_ok h1 h2 R (O₁.step (.keep (fun z_ z_ e => e) tk) O₁.g) (fun s₂ W₂ O₂ z_ => hkp _ _ _ _ _ O₂.g) fun us kus s₂ W₂ O₂ S₃ r₂ r₃ => (hm A s₂ W₂ _ kus R O₂.g (.cons (VR.up S₃.le r₁) r₂) r₃).last (S₂.trans S₃))
theorem vrf_nil {kus : List (Str × Value)} (r : VRf B.C W [] kus) : kus = [] := List.map_eq_nil_iff.mp r.n.symm
theorem ev_callA {n : Nat} (hk : varKind sc x = true) (hl : v.lookup x = some (.app n)) (h1 : Evs B k sc v args st ds st₁) (h3 : ∀ A s W u us, Good B s.heap W st₁ → VR B.C W (.app n) u → VRs B.C W ds us → Gv B A (call u us) s W st₁ st' (IsD B d)) : Ev B k sc v (.Call (.Name x p) args [] pos) st d st' := fun A env s W R O => by
  obtain ⟨hk, q1, q2⟩ := varKind_of hk
  obtain ⟨u, r, hu⟩ := load_ok (M := model B.prog B.w) (A := A) (pos := p) O hk hl q1 q2
  refine wpAny_Call_Name_kw (hu _ _ (args_ok h1 ek_nil R O (fun s₂ W₂ O₂ x => ?_) fun us kus s₂ W₂ O₂ S₂ r₂ r₃ => ?_))
  · cases r.up x with
    | app hb he =>
      intro Q E h
      unfold keeperOf
      exact wpAny_bind (wpAny_load (O₂.g.hz _ _ hb) (wpAny_pure (h _ (.inr rfl))))
  · cases vrf_nil r₃
    exact (h3 A s₂ W₂ u us O₂.g (r.up S₂.le) r₂).last S₂
end
end Mine
namespace Mine
open PySem PySem.W PyProof.Rows PySem.Calls

theorem mro_object : mroOf (.type "object") = pure [.type "object"] := by rw [mroOf_type]; kernel_rfl
theorem lookup_object_new : typeLookup (.type "object") "__new__" = pure (some (.builtin "object.__new__")) := by rw [typeLookup_type, builtinLookup_eq_fast]; kernel_rfl
theorem called_object : TypeCalled "object" "object.__new__" "object.__init__" :=
  ⟨by decide +kernel, by decide +kernel, ⟨_, _, mro_object⟩, madeBy_type mro_object lookup_object_new (by decide +kernel), by decide +kernel, by rw [isSubtype_type]; kernel_rfl, F.slot_object_init⟩
theorem madeHere_object : Bind.madeHere "object.__new__" (.type "object") = pure () := by
  unfold Bind.madeHere
  have e : Bind.staticBase (.type "object") = pure (.type "object") := by first | rfl | kernel_rfl
  rw [e]
  simp only [pure_bind, called_object.made]
  first | rfl | kernel_rfl | (simp; rfl)

theorem object_new_meets : Meets (Builtin.«object.__new__» ⟨[.type "object"], []⟩) (fun z_ R s => R (.ok (.ret (.ref s.heap.objs.size))) { s with heap := s.heap.push sentO }) := by
  refine Meets.of_wp fun prog w A R s hs => ?_
  unfold Builtin.«object.__new__»
  have h1 : ((Manifest.find? "object").elim false (·.mro.any fun t => (Manifest.find? t).elim false (·.noNew))) = false := by decide +kernel
  have h2 : typeHasDict (.type "object") = false := by decide +kernel
  have h3 : diesByItsTypesDel "object" = false := by decide +kernel
  simp only [isType, pure_bind, Bool.not_true, Bool.false_eq_true, if_false, h1, madeHere_object, List.isEmpty_nil, Bool.or_false, h2, h3]
  exact wpAny_bind (wpAny_newObj_type (wpAny_pure ⟨_, rfl, hs⟩))

theorem object_init_plain (self : Value) : Meets (Builtin.«object.__init__» ⟨[self], []⟩) (fun z_ R s => R (.ok (.ret .none)) s) := by
  refine Meets.of_wp fun prog w A R s hs => ?_
  unfold Builtin.«object.__init__»
  simp only [List.isEmpty_nil, Bool.not_true, Bool.or_false, Bool.false_eq_true, if_false]
  exact wpAny_pure ⟨_, rfl, hs⟩
theorem args_object_init_1 (obj : Value) : argsOk "object.__init__" ⟨[obj], []⟩ := by
  unfold argsOk; rw [signature?_of (id := "object.__init__") (n := ['_', '_', 't', 'i', 'n', 'i', '_', '_']) (o := ['t', 'c', 'e', 'j', 'b', 'o']) (by kernel_rfl) F.owner_object]; kernel_rfl
theorem typeCall_object : checkTypeCall "object" ⟨[], []⟩ = pure () := by kernel_rfl
theorem newCall_object : checkBuiltinCall "object.__new__" ⟨[.type "object"], []⟩ = pure () := by kernel_rfl

theorem call_object {prog : Program} {w : World} {A : Around} {E : Value → Shared → Prop} {s : Shared} {Q : Value → Shared → Prop}
    (h : Q (.ref s.heap.objs.size) { s with heap := s.heap.push sentO }) : wpAny (model prog w) A (call (.type "object") []) Q E s := by
  refine callType_meets (S := fun z_ R s => R (.ok (.ret (.ref s.heap.objs.size))) { s with heap := s.heap.push sentO }) (Q₁ := fun obj s₁ => s₁.TypeIs obj "object" ∧ Q obj s₁) called_object typeCall_object newCall_object PySem.F.objNew.entry F.entry_object_init object_new_meets ?_ ?_
  · exact ⟨⟨_, Heap.get?_push_size _ rfl, rfl⟩, h⟩
  · exact fun obj s₁ hq => ⟨hq.1, args_object_init_1 obj, _, object_init_plain obj, rfl, hq.2⟩
end Mine
namespace Mine
open PySem PySem.W PyProof.Rows PySem.Calls


theorem ap_type : typeOf (.builtin "list.append") = pure (.type "method_descriptor") := by show builtinType _ = _; rw [builtinType_eq_fast]; kernel_rfl
theorem ap_get : typeLookup (.type "method_descriptor") "__get__" = pure (some (.builtin "method_descriptor.__get__")) := by rw [typeLookup_type, builtinLookup_eq_fast]; kernel_rfl
theorem ap_slot_get : Slot "method_descriptor" "__get__" "method_descriptor.__get__" :=
  .of (owner := "method_descriptor") (n := "__get__") (by rw [typeLookup_type, builtinLookup_eq_fast]; kernel_rfl) (by decide +kernel) (by decide +kernel) (by decide +kernel)
    (by first | exact .inl (by decide +kernel) | exact .inr (by decide +kernel)) (by rw [isSubtype_type]; kernel_rfl)
theorem ap_entry_get : entryFor table "method_descriptor.__get__" = some Builtin.«method_descriptor.__get__» := entryFor_of_tree (by kernel_rfl)
theorem ap_args_get (a b c : Value) : argsOk "method_descriptor.__get__" ⟨[a, b, c], []⟩ := by unfold argsOk; kernel_rfl
theorem ap_told : Manifest.toldItsClass.contains "list.append" = false := by decide +kernel
theorem ap_sub : isSubtype (.type "list") (.type "list") = pure true := by rw [isSubtype_type]; kernel_rfl
theorem ap_set : typeLookup (.type "method_descriptor") "__set__" = pure none := by rw [typeLookup_type, builtinLookup_eq_fast]; kernel_rfl
theorem ap_del : typeLookup (.type "method_descriptor") "__delete__" = pure none := by rw [typeLookup_type, builtinLookup_eq_fast]; kernel_rfl
theorem ap_quiet (as : Args) : (Code.builtin "list.append" as).quiet = true := Code.quiet_builtin _ (by decide +kernel)

theorem ap_typeIs {s : Shared} : s.TypeIs (.builtin "list.append") "method_descriptor" := ap_type

section
variable {M : Model} {A : Around} {E : Value → Shared → Prop} {s : Shared}

theorem ap_meets (a : Addr) (o : Obj) (hc : o.cls = .type "list") : Meets (Builtin.«method_descriptor.__get__» ⟨[.builtin "list.append", .ref a, .type "list"], []⟩)
    (fun z_ R s => s.heap.get? a = some o ∧ R (.ok (.ret (.ref s.heap.objs.size))) { s with heap := s.heap.push (appO a) }) := by
  refine Meets.of_wp fun prog w A R s hs => ?_
  obtain ⟨ho, hs⟩ := hs
  have hT : s.TypeIs (.ref a) "list" := ⟨o, ho, hc⟩
  unfold Builtin.«method_descriptor.__get__»
  refine wpAny_bind (wpAny_of_eq (a := (.builtin "list.append", some (.ref a), some (.type "list"))) (by first | rfl | kernel_rfl) ?_)
  simp only [ap_told, Bool.false_eq_true, if_false]
  refine wpAny_bind (wpAny_bind (wpAny_of_eq (a := (PySem.Str.ofString "append", .type "list")) (by first | rfl | kernel_rfl) ?_))
  dsimp only
  refine wpAny_bind (wpAny_isInstance hT ap_sub ?_)
  refine KFB.if_not rfl (wpAny_pure ?_)
  exact wpAny_bind (wpAny_newObj_type (wpAny_pure ⟨_, rfl, hs⟩))

theorem ap_getattribute (a : Addr) (vs : List Value) (n : Nat) (u : Tok) : Meets (Builtin.«object.__getattribute__» ⟨[.ref a, .str ("append" : Str) u], []⟩)
    (fun z_ R s => s.heap.get? a = some (listO vs n) ∧ R (.ok (.ret (.ref s.heap.objs.size))) { s with heap := s.heap.push (appO a) }) := by
  refine Meets.of_wp fun prog w A R s hs => ?_
  obtain ⟨hp, g, d, tk, os⟩ := s
  obtain ⟨hx, hs⟩ := hs
  unfold listO at hx
  have hT : (⟨hp, g, d, tk, os⟩ : Shared).TypeIs (.ref a) "list" := ⟨_, hx, rfl⟩
  have f1 := slot_list_append.lookup
  have f2 := ap_type
  have f3 := ap_get
  have f4 := ap_set
  have f5 := ap_del
  unfold Builtin.«object.__getattribute__»
  repeat (any_goals (first | assumption | wp_step))
  let R' : Result → Shared → Prop := fun r s' => r = .ok (.ret (.ref hp.objs.size)) ∧ s' = ⟨hp.push (appO a), g, d, tk, os⟩
  refine codeAny_mono (R := R') (codeAny_call_builtin ap_slot_get.plain ap_entry_get (ap_slot_get.check _ _ _ _ _ _ _ _ ap_typeIs (ap_args_get _ _ _) (ap_meets a _ rfl prog w A.in1 R' _ ⟨hx, rfl, rfl⟩))) fun r s' h => ?_
  obtain ⟨rfl, rfl⟩ := h
  exact wpAny_pure ⟨_, rfl, hs⟩

theorem ap_attr {prog : Program} {w : World} {Q : Value → Shared → Prop} {a : Addr} {vs : List Value} {n : Nat} (ho : s.heap.get? a = some (listO vs n))
    (h : ∀ tk, Q (.ref s.heap.objs.size) { s with heap := s.heap.push (appO a), toks := tk }) : wpAny (model prog w) A (getAttr (.ref a) ("append" : Str) true) Q E s := by
  obtain ⟨hp, g, d, tk, os⟩ := s
  unfold listO at ho
  have hT : ∀ tk', (⟨hp, g, d, tk', os⟩ : Shared).TypeIs (.ref a) "list" := fun z_ => ⟨_, ho, rfl⟩
  have f3 := F.slot_list_getattribute.lookup
  have f4 := F.slot_list_getattribute.bind (.ref a)
  unfold getAttr getAttrBy
  repeat (any_goals (first | assumption | exact hT _ | ((with_reducible show wpAny _ _ (call (Value.builtin "list.__getattribute__") _ _) _ _ _); refine call_meets F.slot_list_getattribute (hT _) am_entry_list_getattribute (F.args_list_getattribute_2 _ _) (ap_getattribute a vs n _) ⟨ho, ?_⟩) | wp_step))
  exact wpAny_pure (h _)

theorem ap_nomod : isSubtype (.type "list") (.type "module") = pure false := by rw [isSubtype_type]; kernel_rfl
theorem ap_kind : builtinKind "list.append" = some .method := by decide +kernel
theorem ap_var : Manifest.varargsMethods.contains "list.append" = false := by decide +kernel
theorem ap_sig (a x : Value) : (match Manifest.signature? "list.append" with
    | some sig => Bind.checkArgs "list.append" { sig with full := s!"{Bind.lastOf "list"}.{Bind.lastOf "list.append"}" } ⟨[a, x], []⟩
    | none => pure ()) = pure () := by
  rw [signature?_of (id := "list.append") (n := ['d', 'n', 'e', 'p', 'p', 'a']) (o := ['t', 's', 'i', 'l']) (by kernel_rfl) F.owner_list]; kernel_rfl
theorem ap_check (a : Addr) (vs : List Value) (n : Nat) (x : Value) (ho : s.heap.get? a = some (listO vs n)) {Q : Unit → Shared → Prop} (h : Q () s) : wpAny M A (checkBoundCall "list.append" ⟨[.ref a, x], []⟩) Q E s := by
  have h2 := ap_sig (.ref a) x
  obtain ⟨hp, g, d, tk, os⟩ := s
  unfold listO at ho
  have hT : (⟨hp, g, d, tk, os⟩ : Shared).TypeIs (.ref a) "list" := ⟨_, ho, rfl⟩
  unfold checkBoundCall
  cases hs : Manifest.signature? "list.append" with
  | none => exact wpAny_pure h
  | some sig =>
    rw [hs] at h2
    simp only at h2
    rw [ap_kind]
    simp only [show (Manifest.AttrKind.method != Manifest.AttrKind.method && Manifest.AttrKind.method != Manifest.AttrKind.classMethod) = false by decide, Bool.false_eq_true, if_false]
    refine wpAny_bind (wpAny_isInstance hT ap_nomod ?_)
    simp only [ap_var, Bool.or_false, Bool.false_eq_true, if_false]
    refine wpAny_bind (wpAny_bind (wpAny_loadPart_at ho (wpAny_pure ?_)))
    refine KFB.if_not rfl ?_
    refine wpAny_bind (wpAny_typeOf hT ?_)
    exact wpAny_of_eq h2 h

theorem ap_call {prog : Program} {w : World} {Q : Value → Shared → Prop} {b a : Addr} {vs : List Value} {n : Nat} {x : Value} (hb : s.heap.get? b = some (appO a)) (ho : s.heap.get? a = some (listO vs n)) (hl : vs.length ≤ 1048576)
    (h : ∀ h', h'.get? a = some (listO (vs ++ [x]) (n + 1)) → Heap.SameBut a s.heap h' → Q .none { s with heap := h' }) : wpAny (model prog w) A (call (.ref b) [x]) Q E s := by
  refine wpAny_call (codeAny_of_tree ?_)
  show wpAny _ A.in1 (callAny (.ref b) ⟨[x], []⟩) _ _ s
  simp only [callAny]
  refine wpAny_bind (wpAny_load hb ?_)
  simp only [appO, show (Value.type "builtin_function_or_method" == Value.type "method" || Value.type "builtin_function_or_method" == Value.type "builtin_function_or_method" || Value.type "builtin_function_or_method" == Value.type "method-wrapper") = true by decide, if_true]
  refine KFB.if_so (by decide) ?_
  refine wpAny_bind (ap_check a vs n x ho ?_)
  refine wpAny_bind (wpAny_pure (wpAny_pure ?_))
  refine ⟨ap_quiet _, codeAny_builtin F.entry_list_append ?_⟩
  show wpAny _ _ (updateSeq a (·.push x) >>= fun z_ => ret .none) _ _ s
  refine wpAny_bind ?_
  refine wpAny_updateSeq ho rfl (wpAny_pure (h _ ?_ (Heap.SameBut.update ..)))
  unfold listO at ho ⊢
  rw [Heap.get?_update_self _ ho (by rw [Obj.mapSeq_push_plain]; rfl), Obj.mapSeq_push_plain]
  simp
end
end Mine
namespace Mine
open PySem PySem.W PyProof.Rows PySem.Calls

section
variable {prog : Program} {w : World} {A : Around} {E : Value → Shared → Prop} {s : Shared}

theorem next_tuple_item {it t : Addr} {i : Nat} {items : Array Value} {x : Value} {Q : Value → Shared → Prop} (hit : s.heap.IsTupleIter it t i) (ht : s.heap.IsTuple t items) (hx : items[i]? = some x)
    (hQ : ∀ h', h'.IsTupleIter it t (i + 1) → Heap.SameBut it s.heap h' → Q x { s with heap := h' }) : wpAny (model prog w) A (Builtin.SmallTypes.nextOf (.ref it)) Q E s := by
  obtain ⟨o, ho, hc, hd⟩ := id hit
  obtain ⟨ol, hol, _, nl, hdl⟩ := ht
  unfold Builtin.SmallTypes.nextOf
  refine wpAny_bind (wpAny_callSpecial?_slot (name := Str.ofString "__next__") hit.typeIs F.slot_tuple_iterator_next
    (wpAny_call_entry F.slot_tuple_iterator_next hit.typeIs F.entry_tuple_iterator_next ?_ (F.args_tuple_iterator_next_1 _)))
  show wpAny _ _ (field (.ref it) 0 >>= _) _ _ s
  refine wpAny_bind (wpAny_field ho hd (x := .ref t) rfl ?_)
  show wpAny _ _ (if (Value.ref t == Value.none) = true then _ else _) _ _ s
  rw [if_neg (show ¬ ((Value.ref t == Value.none) = true) from Bool.false_ne_true)]
  show wpAny _ _ (field (.ref it) 1 >>= _) _ _ s
  refine wpAny_bind (wpAny_field ho hd (x := .int i 0) rfl ?_)
  show wpAny _ _ (seqItems? (.ref t) >>= _) _ _ s
  refine wpAny_bind (wpAny_seqItems hol hdl ?_)
  simp only [Int.toNat_natCast, hx]
  refine wpAny_bind (wpAny_setField ho hd (by simp) (wpAny_pure ⟨x, rfl, wpAny_pure (hQ _ ?_ (Heap.SameBut.update ..))⟩))
  exact ⟨_, Heap.get?_update_self _ ho (Obj.isFreed_of_fields (Obj.data_mapFields hd _)), (Obj.cls_mapFields ..).trans hc, by
    rw [Obj.data_mapFields hd]; simp [rawInt]⟩

theorem next_tuple_end {it t : Addr} {i : Nat} {items : Array Value} {Q : Value → Shared → Prop} (hh : A.handled = none) (hit : s.heap.IsTupleIter it t i) (ht : s.heap.IsTuple t items) (hx : items[i]? = none)
    (hE : ∀ h' e, Heap.ExtBut it s.heap h' → (∃ o, h'.get? e = some o ∧ o.cls = .type "StopIteration") → E (.ref e) { s with heap := h' }) : wpAny (model prog w) A (Builtin.SmallTypes.nextOf (.ref it)) Q E s := by
  obtain ⟨o, ho, hc, hd⟩ := id hit
  obtain ⟨ol, hol, _, nl, hdl⟩ := ht
  unfold Builtin.SmallTypes.nextOf
  refine wpAny_bind (wpAny_callSpecial?_slot (name := Str.ofString "__next__") hit.typeIs F.slot_tuple_iterator_next
    (wpAny_call_entry F.slot_tuple_iterator_next hit.typeIs F.entry_tuple_iterator_next ?_ (F.args_tuple_iterator_next_1 _)))
  show wpAny _ _ (field (.ref it) 0 >>= _) _ _ s
  refine wpAny_bind (wpAny_field ho hd (x := .ref t) rfl ?_)
  show wpAny _ _ (if (Value.ref t == Value.none) = true then _ else _) _ _ s
  rw [if_neg (show ¬ ((Value.ref t == Value.none) = true) from Bool.false_ne_true)]
  show wpAny _ _ (field (.ref it) 1 >>= _) _ _ s
  refine wpAny_bind (wpAny_field ho hd (x := .int i 0) rfl ?_)
  show wpAny _ _ (seqItems? (.ref t) >>= _) _ _ s
  refine wpAny_bind (wpAny_seqItems hol hdl ?_)
  simp only [Int.toNat_natCast, hx]
  refine wpAny_bind (wpAny_rule (wpAny_bind (wpAny_setField ho hd (by simp) ?_)))
  show wpAny _ _ (newExc (.type "StopIteration") [] >>= _) _ _ _
  refine wpAny_bind ?_
  simp only [newExc, newTuple]
  refine wpAny_bind (wpAny_newObj_type ?_ (by size_fits))
  refine wpAny_bind (m := firstArgMember _ _) (wpAny_of_eq (a := Value.none) (by first | rfl | (simp only [firstArgMember]; rfl)) ?_)
  refine wpAny_newObj_type ?_ (by size_fits)
  simp only [raiseNew]
  refine wpAny_bind (wpAny_handled ?_)
  first | rw [show A.in1.handled = none from hh] | rw [hh]
  refine wpAny_bind (wpAny_pure (wpAny_throw ?_))
  exact hE _ _ (((Heap.SameBut.update ..).extBut.push _).push _) ⟨_, Heap.get?_push_size _ rfl, rfl⟩
end

theorem drawsTuple {prog : Program} {w : World} {A : Around} (hh : A.handled = none) (it l : Addr) (hne : l ≠ it) (items : Array Value) :
    Draws prog w A it [it, l] items.size (fun i v => items[i]? = some v) (fun i h => h.IsTupleIter it l i ∧ h.IsTuple l items) where
  live := fun z_ z_ st => let ⟨o, ho, _⟩ := st.1; ⟨o, ho⟩
  frame := fun z_ z_ z_ st hk => ⟨st.1.at fun o e => hk it (by simp) o e, st.2.at fun o e => hk l (by simp) o e⟩
  item := fun i s Q E hi st hQ => by
    refine next_tuple_item st.1 st.2 (x := items[i]) (by simp [hi]) fun h' hit' hs' => ?_
    exact hQ _ h' s.toks (by simp [hi]) ⟨hit', st.2.extBut hs'.extBut hne⟩ hs'
  done := fun s Q E st hE => next_tuple_end hh st.1 st.2 (by simp) hE

set_option tactic.hygienic true in
theorem meets_enum_tup (l : Addr) (vs : List Value) (n : Nat) :
    Meets (Builtin.«enumerate.__new__» ⟨[.type "enumerate", .ref l], []⟩) (fun z_ R s => s.heap.get? l = some (tupO vs n) ∧
      R (.ok (.ret (.ref (s.heap.push { cls := .type "tuple_iterator", data := .fields #[.ref l, .int 0 0] }).objs.size)))
        { s with heap := (s.heap.push { cls := .type "tuple_iterator", data := .fields #[.ref l, .int 0 0] }).push { cls := .type "enumerate", data := .fields #[.none, .bool false, .ref s.heap.objs.size, rawInt 0, .none, .none] } }) :=
  .of_wp fun prog w A R s h => by
    obtain ⟨hp, g, d, tk, os⟩ := s; obtain ⟨hl, h⟩ := h
    unfold tupO at hl
    have hsub := sub_enumerate
    have hL : Heap.IsTuple (Shared.heap ⟨hp, g, d, tk, os⟩) l vs.toArray := ⟨_, hl, rfl, n, rfl⟩
    wp_walk using wpAny_loadPart' hl
    refine wpAny_stack_any fun st => wpAny_pure ?_
    split
    · rename_i c _ _ _ _ _
      cases (c == Value.type "enumerate")
      · wp_walk using wpAny_loadPart' hl, wpAny_pyIter_tuple hL
        exact ⟨_, rfl, h⟩
      · wp_walk using wpAny_loadPart' hl, wpAny_pyIter_tuple hL
        exact ⟨_, rfl, h⟩
    · wp_walk using wpAny_loadPart' hl, wpAny_pyIter_tuple hL
      exact ⟨_, rfl, h⟩

theorem call_enum_tup {prog : Program} {w : World} {A : Around} {E : Value → Shared → Prop} {s : Shared} {l : Addr} {vs : List Value} {n : Nat} {Q : Value → Shared → Prop} (hl : s.heap.get? l = some (tupO vs n))
    (h : ∀ h', IsEnum h' (s.heap.objs.size + 1) s.heap.objs.size 0 .none → h'.IsTupleIter s.heap.objs.size l 0 → h'.objs.size = s.heap.objs.size + 2 →
      (∀ b o, s.heap.get? b = some o → h'.get? b = some o) → Q (.ref (s.heap.objs.size + 1)) { s with heap := h' }) :
    wpAny (model prog w) A (call (.type "enumerate") [.ref l]) Q E s := by
  refine callType_new F.called_enumerate (by decide) (F.typeCall_enumerate_1 _) (F.newCall_enumerate_1 _) (fun obj => F.args_object_init_2 obj _) F.entry_enumerate_new
    (meets_enum_tup l vs n) ⟨hl, ?_⟩
  have hz : (s.heap.push { cls := .type "tuple_iterator", data := .fields #[.ref l, .int 0 0] }).objs.size = s.heap.objs.size + 1 := Heap.size_push ..
  show _ ∧ _
  rw [hz]
  have he : IsEnum ((s.heap.push { cls := .type "tuple_iterator", data := .fields #[.ref l, .int 0 0] }).push
      { cls := .type "enumerate", data := .fields #[.none, .bool false, .ref s.heap.objs.size, rawInt 0, .none, .none] }) (s.heap.objs.size + 1) s.heap.objs.size 0 .none := by
    have := Heap.get?_push_size (s.heap.push { cls := .type "tuple_iterator", data := .fields #[.ref l, .int 0 0] })
      (o := { cls := .type "enumerate", data := .fields #[.none, .bool false, .ref s.heap.objs.size, rawInt 0, .none, .none] }) rfl
    rw [hz] at this; exact this
  refine ⟨⟨_, he, rfl⟩, h _ he ⟨_, Heap.get?_push_of_some _ (Heap.get?_push_size _ rfl), rfl, rfl⟩ (by rw [Heap.size_push, hz]) fun b o x => Heap.get?_push_of_some _ (Heap.get?_push_of_some _ x)⟩
end Mine
namespace Mine
noncomputable def printable (l : List Nat) : Bool := l.all fun c => decide (32 ≤ c) && decide (c < 127)
end Mine
namespace Mine
open PySem PySem.W PyProof.Rows PySem.Calls PySem.Builtin PySem.Builtin.Re

noncomputable def NoneIn (code : Array Nat) (l : List Nat) : Prop := ∀ c ∈ l, ∀ seen, ∃ seen', Sre.inSet code c code.size 5 true seen = .ok (false, seen')

theorem admitted_none {m : Sre.M} {l : List Nat} (hc : NoneIn m.code l) (ht : ∀ s, s < m.lim → m.text.getD s 0 ∈ l) : ∀ (fuel s : Nat) (seen : Sre.Seen), m.lim + 1 - s ≤ fuel → ∃ seen', m.admitted fuel s seen = .ok (none, seen')
  | 0, s, seen, _ => ⟨seen, rfl⟩
  | fuel + 1, s, seen, hf => by
    unfold Sre.M.admitted
    by_cases hs : s ≥ m.lim
    · rw [if_pos hs]; exact ⟨seen, rfl⟩
    · rw [if_neg hs]
      obtain ⟨seen', h⟩ := hc _ (ht s (Nat.lt_of_not_le hs)) seen
      rw [h]
      exact admitted_none hc ht fuel (s + 1) seen' (by rw [Nat.sub_add_comm (Nat.le_of_lt (Nat.lt_of_not_le hs))] at hf; rw [Nat.add_sub_add_right]; exact Nat.le_of_succ_le_succ hf)

theorem from_none {m : Sre.M} {l : List Nat} (hset : m.hasFirstSet = true) (hc : NoneIn m.code l) (ht : ∀ s, s < m.lim → m.text.getD s 0 ∈ l) (hf : m.frames = []) (ho : m.outcome = none) :
    (m.attemptFrom 0 true).answer = some false ∧ (m.attemptFrom 0 true).frames = [] ∧ (m.attemptFrom 0 true).outcome = none := by
  unfold Sre.M.attemptFrom
  rw [hset]
  simp only [Bool.not_true, Bool.false_eq_true, if_false]
  obtain ⟨seen', h⟩ := admitted_none hc ht (m.lim + 1 - 0) 0 m.seen (Nat.le_refl _)
  rw [h]
  exact ⟨rfl, hf, ho⟩

theorem search_none {code : Array Nat} {text : Array Nat} {groups lim : Nat} {adv : Bool} (hset : ∀ m : Sre.M, m.code = code → m.hasFirstSet = true) (hc : NoneIn code text.toList) (hl : lim ≤ text.size) :
    (Sre.forSearch code text groups 0 lim adv).answer = some false ∧ (Sre.forSearch code text groups 0 lim adv).frames = [] ∧ (Sre.forSearch code text groups 0 lim adv).outcome = none := by
  unfold Sre.forSearch
  simp only
  split
  · exact ⟨rfl, rfl, rfl⟩
  · refine from_none (l := text.toList) (hset _ rfl) hc (fun s hs => ?_) rfl rfl
    show text.getD s 0 ∈ text.toList
    have hs : s < lim := hs
    have : s < text.size := by omega
    rw [Array.getD_eq_getD_getElem?, Array.getElem?_eq_getElem this]
    simp

section
variable {M : Model} {A : Around} {E : Value → Shared → Prop} {s : Shared}

theorem run_for {m : Sre.M} (ha : m.answer = some false) (hf : m.frames = []) (ho : m.outcome = none) : m.runFor 4 = { m with outcome := some .failed } := by
  have h1 : m.step = { m with outcome := some .failed } := by
    unfold Sre.M.step
    rw [ho, ha, hf]
    rfl
  show (if m.outcome.isSome then m else Sre.M.runFor 3 m.step) = _
  rw [ho, h1]
  rfl

theorem forIn_rules {l : List Nat} (f : Nat → PUnit → Sem (ForInStep PUnit)) (hf : ∀ i, f i ⟨⟩ = pure (.yield ⟨⟩) ∨ ∃ tag, f i ⟨⟩ = (rule tag >>= fun z_ => pure (.yield ⟨⟩))) {Q : PUnit → Shared → Prop} (h : Q ⟨⟩ s) : wpAny M A (forIn l ⟨⟩ f) Q E s := by
  induction l with
  | nil => exact wpAny_pure h
  | cons a l ih =>
    rw [List.forIn_cons]
    rcases hf a with e | ⟨tag, e⟩
    · rw [e]; exact wpAny_bind (wpAny_pure ih)
    · rw [e]; exact wpAny_bind (wpAny_bind (wpAny_rule (wpAny_pure ih)))

theorem run_end {m : Sre.M} {Q : Option Sre.M → Shared → Prop} (ha : m.answer = some false) (hf : m.frames = []) (ho : m.outcome = none) (h : Q none s) : wpAny M A (reRunToEnd m) Q E s := by
  unfold reRunToEnd
  have e : reDrive (2 ^ 64) m = pure { m with outcome := some .failed } := by
    show reDrive (18446744073709551615 + 1) m = _
    unfold reDrive
    simp only [reTurnSteps, run_for ha hf ho]
    rfl
  rw [e]
  refine wpAny_bind (wpAny_pure ?_)
  refine wpAny_bind (forIn_rules _ (fun i => ?_) ?_)
  · dsimp only
    split
    · exact .inr ⟨_, rfl⟩
    · exact .inl rfl
  · exact wpAny_pure h
end
end Mine
namespace Mine
open PySem PySem.W PyProof.Rows PySem.Calls PySem.Builtin PySem.Builtin.Re

theorem re_slot_search : Slot "re.Pattern" "search" "re.Pattern.search" :=
  .of (owner := "re.Pattern") (n := "search") (by rw [typeLookup_type, builtinLookup_eq_fast]; kernel_rfl) (by decide +kernel) (by decide +kernel) (by decide +kernel)
    (by first | exact .inl (by decide +kernel) | exact .inr (by decide +kernel)) (by rw [isSubtype_type]; kernel_rfl)
theorem re_type_search : typeOf (.builtin "re.Pattern.search") = pure (.type "method_descriptor") := by show builtinType _ = _; rw [builtinType_eq_fast]; kernel_rfl
theorem re_entry_search : entryFor table "re.Pattern.search" = some Builtin.«re.Pattern.search» := entryFor_of_tree (by kernel_rfl)
theorem re_args_search (a b : Value) : argsOk "re.Pattern.search" ⟨[a, b], []⟩ := by unfold argsOk; kernel_rfl

theorem named_one (id f : String) (v : Value) : reNamed id f ["string", "pos", "endpos"] 1 [v] [] = pure [some v, none, none] := by
  unfold reNamed
  first
    | rfl
    | kernel_rfl
    | (simp; rfl)

theorem ans_none {M : Model} {A : Around} {E : Value → Shared → Prop} {s : Shared} {tg : ReTarget} {m : Sre.M} {Q : Fin → Shared → Prop} (ha : m.answer = some false) (hf : m.frames = []) (ho : m.outcome = none) (h : Q (.done (.ret .none)) s) : wpAny M A (reAnswer tg m) Q E s := by
  unfold reAnswer
  exact wpAny_bind (run_end ha hf ho (wpAny_pure h))

theorem search_meets (pa ca : Addr) (p x : Str) (t u tx : Tok) (items : Array Value) (m : Nat) (code : Array Nat) (hcode : (items.map reRawOf).map (·.toNat) = code) (hset : ∀ m : Sre.M, m.code = code → m.hasFirstSet = true) (hx : NoneIn code x.cps.toList) :
    Meets (Builtin.«re.Pattern.search» ⟨[.ref pa, .str x tx], []⟩) (fun z_ R s => s.heap.get? pa = some (patO p t u 0 ca) ∧ s.heap.get? ca = some { cls := .type "tuple", data := .seq items m } ∧ R (.ok (.ret .none)) s) := by
  refine Meets.of_wp fun prog w A R s hs => ?_
  obtain ⟨h1, h2, hs⟩ := hs
  unfold Builtin.«re.Pattern.search» reTarget
  refine wpAny_bind ?_
  dsimp only
  rw [named_one]
  refine wpAny_bind (wpAny_pure ?_)
  dsimp only
  refine wpAny_bind (wpAny_pure ?_)
  refine wpAny_bind (wpAny_pure ?_)
  refine wpAny_bind (wpAny_fieldsOf h1 rfl ?_)
  have htext : reTextOf (.str x tx) = pure (x.cps, 0) := by first | rfl | kernel_rfl
  rw [htext]
  refine wpAny_bind (wpAny_pure ?_)
  refine KFB.if_not (by first | rfl | decide) ?_
  refine KFB.if_not (by first | rfl | decide) ?_
  refine wpAny_bind ?_
  have hcoll : reNoCollectionInside (.str x tx) 0 = pure () := by first | rfl | kernel_rfl
  rw [hcoll]
  refine wpAny_pure ?_
  refine wpAny_bind ?_
  show wpAny _ _ (reRawItems (.ref ca)) _ _ s
  unfold reRawItems
  refine wpAny_bind (wpAny_seqItems h2 rfl (wpAny_pure ?_))
  refine wpAny_pure ?_
  have hlim : Min.min (2 ^ 63 - 1 : Int).toNat x.cps.size ≤ x.cps.size := Nat.min_le_right _ _
  have hpos : Min.min (Int.toNat 0) x.cps.size = 0 := by simp
  dsimp only
  simp only [Option.getD_some, hcode, hpos]
  generalize Min.min (2 ^ 63 - 1 : Int).toNat x.cps.size = lim at hlim ⊢
  obtain ⟨q1, q2, q3⟩ := search_none (code := code) (text := x.cps) (groups := reRawNat (#[Value.str p t, Value.int 32 u, Value.int 0 0, Value.none, Value.none, Value.ref ca, Value.int 0 0].getD 2 Value.none)) (lim := lim) (adv := false) hset hx hlim
  exact ans_none q1 q2 q3 ⟨_, rfl, hs⟩

theorem search_call {prog : Program} {w : World} {A : Around} {E : Value → Shared → Prop} {s : Shared} {Q : Value → Shared → Prop} {pa ca : Addr} {p x : Str} {t u tx : Tok} {items : Array Value} {m : Nat} {code : Array Nat} (hcode : (items.map reRawOf).map (·.toNat) = code) (hset : ∀ m : Sre.M, m.code = code → m.hasFirstSet = true)
    (hx : NoneIn code x.cps.toList) (h1 : s.heap.get? pa = some (patO p t u 0 ca)) (h2 : s.heap.get? ca = some { cls := .type "tuple", data := .seq items m }) (h : Q .none s) : wpAny (model prog w) A (call (.builtin "re.Pattern.search") [.ref pa, .str x tx]) Q E s :=
  call_meets re_slot_search ⟨_, h1, rfl⟩ re_entry_search (re_args_search _ _) (search_meets pa ca p x t u tx items m code hcode hset hx) ⟨h1, h2, h⟩
theorem re_plain : PlainAttrs "re.Pattern" := by
  first
    | exact ⟨⟨"re.Pattern.__getattribute__", by rw [typeLookup_type, builtinLookup_eq_fast]; kernel_rfl, by decide +kernel⟩, by rw [typeLookup_type, builtinLookup_eq_fast]; kernel_rfl⟩
    | exact ⟨⟨"object.__getattribute__", by rw [typeLookup_type, builtinLookup_eq_fast]; kernel_rfl, by decide +kernel⟩, by rw [typeLookup_type, builtinLookup_eq_fast]; kernel_rfl⟩
theorem search_get {M : Model} {A : Around} {E : Value → Shared → Prop} {s : Shared} {Q : Value × List Value → Shared → Prop} {pl : Sem Bool} {pa ca : Addr} {p : Str} {t u : Tok} (h1 : s.heap.get? pa = some (patO p t u 0 ca)) (h : Q (.builtin "re.Pattern.search", [.ref pa]) s) :
    wpAny M A (getMethod (.ref pa) "search" pl) Q E s :=
  getMethod_builtin ⟨_, h1, rfl⟩ re_plain re_slot_search re_type_search (fun b hb => by cases hb; exact ⟨_, h1, rfl⟩) h

theorem set_of {code : Array Nat} (h : (Sre.M.hasFirstSet { code := code, text := #[], lim := 0, start := 0, pc := 0, pos := 0, handed := 0, marks := #[] }) = true) : ∀ m : Sre.M, m.code = code → m.hasFirstSet = true := by
  intro m hm
  subst hm
  exact h
theorem name_none {l : List Nat} (h : printable l = true) : NoneIn nameCode l := by
  intro c hc seen
  have hc := List.all_eq_true.mp h c hc
  simp only [Bool.and_eq_true, decide_eq_true_eq] at hc
  have s1 : ∃ z, Sre.inSet nameCode c 20 5 true seen = if (decide (0 ≤ c) && decide (c ≤ 31)) = true then .ok (true, z) else Sre.inSet nameCode c 19 8 true z := ⟨_, rfl⟩
  obtain ⟨z1, s1⟩ := s1
  have s2 : ∃ z, Sre.inSet nameCode c 19 8 true z1 = if (c == 127) = true then .ok (true, z) else Sre.inSet nameCode c 18 10 true z := ⟨_, rfl⟩
  obtain ⟨z2, s2⟩ := s2
  show ∃ seen', Sre.inSet nameCode c 20 5 true seen = _
  rw [s1, if_neg (by simp; omega), s2, if_neg (by simp; omega)]
  exact ⟨_, rfl⟩
theorem set_bits : ∀ c, c < 128 → 32 ≤ c → c ≠ 127 → (valueCode.getD (5 + (1 + c / 32)) 0).testBit (c % 32) = false := by decide +kernel
theorem value_none {l : List Nat} (h : printable l = true) : NoneIn valueCode l := by
  intro c hc seen
  have hc := List.all_eq_true.mp h c hc
  simp only [Bool.and_eq_true, decide_eq_true_eq] at hc
  have s1 : ∃ z, Sre.inSet valueCode c 28 5 true seen = if (decide (c < 256) && (valueCode.getD (5 + (1 + c / 32)) 0).testBit (c % 32)) = true then .ok (true, z) else Sre.inSet valueCode c 27 14 true z := ⟨_, rfl⟩
  obtain ⟨z1, s1⟩ := s1
  show ∃ seen', Sre.inSet valueCode c 28 5 true seen = _
  rw [s1, if_neg (by rw [set_bits c (by omega) hc.1 (by omega)]; simp)]
  exact ⟨_, rfl⟩
theorem twin_bits : ∀ c, c < 128 → c ≠ 38 → c ≠ 126 → c ≠ 124 → (twinCode.getD (5 + (1 + c / 32)) 0).testBit (c % 32) = false := by decide +kernel
theorem twin_none {l : List Nat} (ha : ascii l = true) (h : (l.all fun c => c != 38 && c != 126 && c != 124) = true) : NoneIn twinCode l := by
  intro c hc seen
  have h1 := List.all_eq_true.mp h c hc
  have h2 := List.all_eq_true.mp ha c hc
  simp only [Bool.and_eq_true, decide_eq_true_eq, bne_iff_ne] at h1 h2
  have s1 : ∃ z, Sre.inSet twinCode c 32 5 true seen = if (decide (c < 256) && (twinCode.getD (5 + (1 + c / 32)) 0).testBit (c % 32)) = true then .ok (true, z) else Sre.inSet twinCode c 31 14 true z := ⟨_, rfl⟩
  obtain ⟨z1, s1⟩ := s1
  show ∃ seen', Sre.inSet twinCode c 32 5 true seen = _
  rw [s1, if_neg (by rw [twin_bits c h2 h1.1.1 h1.1.2 h1.2]; simp)]
  exact ⟨_, rfl⟩
end Mine
namespace Mine
open PySem PySem.W PyProof.Rows PySem.Calls

theorem bb_len : bootBuiltins ("len" : Str) = some (.builtin "len") := by kernel_rfl
theorem bb_range : bootBuiltins ("range" : Str) = some (.type "range") := by kernel_rfl
theorem bb_sum : bootBuiltins ("sum" : Str) = some (.builtin "sum") := by kernel_rfl
theorem bb_object : bootBuiltins ("object" : Str) = some (.type "object") := by kernel_rfl
theorem bb_enumerate : bootBuiltins ("enumerate" : Str) = some (.type "enumerate") := by kernel_rfl
theorem bb_type : bootBuiltins ("type" : Str) = some (.type "type") := by kernel_rfl
theorem bb_str : bootBuiltins ("str" : Str) = some (.type "str") := by kernel_rfl

noncomputable def joinS (sep : List Nat) : List (List Nat) → List Nat
  | [] => []
  | [s] => s
  | s :: r => s ++ sep ++ joinS sep r
noncomputable def lowerC (c : Nat) : Nat := if 65 ≤ c ∧ c ≤ 90 then c + 32 else c
section
variable {B : Base} {k : Nat} {A : Around} {env : Env} {sc : Scope} {v : Vars} {s : Shared} {W : Wd} {st st₀ st₁ st₂ st' : Sto} {a d : D} {e o : Expr} {x f g : Str} {pos p q p' : Pos} {es : List Expr} {ds l : List D} {w z : List Nat} {n : Nat} {t : Bool}
theorem fn_builtin {id : String} {ks : List (Str × D)} (hb : bootBuiltins f = some (.builtin id)) (hn : f ≠ ("__name__" : Str)) (hm : B.mg f = none) (c : CallOk B k (.builtin id) ds ks st d st') : FnG B k f ds ks st d st' := ⟨_, .inr ⟨hm, hn, hb⟩, fun z_ z_ z_ z_ z_ z_ => keep_builtin _, c⟩
theorem fn_type {id : String} {ks : List (Str × D)} (hb : bootBuiltins f = some (.type id)) (hn : f ≠ ("__name__" : Str)) (hm : B.mg f = none) (c : CallOk B k (.type id) ds ks st d st') : FnG B k f ds ks st d st' := ⟨_, .inr ⟨hm, hn, hb⟩, fun z_ z_ z_ z_ z_ z_ => keep_type _, c⟩
theorem call1 {fv : Value} (h : ∀ A s W u, Room A k → Good B s.heap W st → VR B.C W a u → Gv B A (call fv [u]) s W st st' (IsD B d)) : CallOk B k fv [a] [] st d st' := fun A s W us kus R G r rk => by
  obtain ⟨u, rfl, r1⟩ := r.one'
  cases vrf_nil rk
  exact h A s W u R G r1
theorem call2 {fv : Value} {b : D} (h : ∀ A s W u w, Room A k → Good B s.heap W st → VR B.C W a u → VR B.C W b w → Gv B A (call fv [u, w]) s W st st' (IsD B d)) : CallOk B k fv [a, b] [] st d st' := fun A s W us kus R G r rk => by
  obtain ⟨u, us, r1, r2⟩ := r.cons'
  obtain ⟨u', rfl, r3⟩ := r2.one'
  cases vrf_nil rk
  exact h A s W u u' R G r1 r3
theorem len_str_ok : CallOk B k (.builtin "len") [.str w] [] st (.int w.length) st := call1 fun A s W u R G r => by
  obtain ⟨z, t, e1, l1, c1⟩ := r.str'
  rw [← str_len e1]
  exact gv_tok (R := IsD B _) G (.int _ _) fun Q E h => P.len_str (by rw [str_len e1]; unfold LIM at l1; omega) h
theorem len_lst_ok (I : Items st a l) : CallOk B k (.builtin "len") [a] [] st (.int l.length) st := call1 fun A s W u R G r => by
  obtain ⟨c, vs, n, e, q, hl⟩ := I.at G r
  have q' : vs.toArray.size = l.length := by rw [List.size_toArray, q.length]
  rw [← q']
  exact gv_tok (R := IsD B _) G (.int _ _) fun Q E h => len_list ⟨_, e, rfl, n, rfl⟩ (by rw [q']; unfold LIM at hl; omega) h
theorem len_scr_ok : CallOk B k (.builtin "len") [.scr l] [] st (.int l.length) st := call1 fun A s W u R G r => by
  obtain ⟨c, o, vs, n, e, hc, hd, q, hl⟩ := r.scr'
  have q' : vs.toArray.size = l.length := by rw [List.size_toArray, q.length]
  rw [← q']
  exact gv_tok (R := IsD B _) G (.int _ _) fun Q E h => len_list ⟨_, G.hz _ _ e, hc, n, hd⟩ (by rw [q']; unfold LIM at hl; omega) h
theorem ints_of {ns : List Int} : ∀ {vs : List Value}, VRs B.C W (ns.map .int) vs → ∃ xs : List (Int × Tok), vs = xs.map (fun p => Value.int p.1 p.2) ∧ xs.map (·.1) = ns := by
  induction ns with
  | nil => intro vs r; cases r.nil'; exact ⟨[], rfl, rfl⟩
  | cons i ns ih =>
    intro vs r
    obtain ⟨u, us, r1, r2⟩ := r.cons'
    obtain ⟨t, rfl⟩ := r1.int'
    obtain ⟨xs, rfl, rfl⟩ := ih r2
    exact ⟨(i, t) :: xs, rfl, rfl⟩
theorem sum_ok {ns : List Int} (I : Items st a (ns.map .int)) : CallOk B k (.builtin "sum") [a] [] st (.int ns.sum) st := call1 fun A s W u R G r => by
  obtain ⟨c, vs, n, e, q, hl⟩ := I.at G r
  obtain ⟨xs, rfl, rfl⟩ := ints_of q
  refine sum_intListG R.h (xs := xs.toArray) ⟨_, e, rfl, n, by simp [listO, intItems]⟩ fun h' tk t' hk => gv_keep G (R := IsD B _) (by rw [preSum_eq, List.take_of_length_le (by simp)]; exact .int _ _) tk hk
theorem object_ok : CallOk B k (.type "object") [] [] st (.ref st.length) (st ++ [.sent]) := fun A s W us kus R G r rk => by
  cases r.nil'
  cases vrf_nil rk
  have G' := G.keep (keep_push sentO)
  have f := G.fresh (size_none s.heap)
  exact call_object ⟨W.ext s.heap.objs.size, G'.ext f (.sent (Heap.get?_push_size _ rfl)), (Step.keep (keep_push sentO) s.toks).ext G' (size_none _), .ref (Wd.ext_last G)⟩

theorem put_app {W : Wd} {s : Shared} {b : Addr} {vs : List Value} {m : Nat} {u : Value} {h' : Heap} (G : Good B s.heap W st) (hl : st[n]? = some (.lst l)) (e : W.adr[n]? = some b) (r : VRs B.C W l vs) (ra : VR B.C W a u) (hn : l.length < LIM) (ho : h'.get? b = some (listO (vs ++ [u]) (m + 1))) (hs : Heap.SameBut b s.heap h') :
    Got B s W st (st.set n (.lst (l ++ [a]))) (IsD B .none) .none { s with heap := h' } :=
  ⟨W, G.put e (fun c o q q' => (hs.2 c q).trans q') (.lst _ _ ho (VRs.append (.cons ra .nil) r) (by rw [List.length_append]; exact hn)), .put (tk := s.toks) e (by rw [hl]; nofun) (fun c o q q' => (hs.2 c q).trans q') ⟨_, ho⟩, .none⟩
theorem app_meth (hl : st₀[n]? = some (.lst ds)) (hl' : st[n]? = some (.lst l)) (hn : l.length < LIM) : MtG B k (.ref n) "append" st₀ [a] [] st .none (st.set n (.lst (l ++ [a]))) := by
  refine ⟨.builtin "list.append", fun z_ z_ z_ z_ z_ z_ => keep_builtin _, fun A s W u pl Q E G r h => ?_, call2 fun A s W u w R G r ra => ?_⟩
  rotate_left
  · obtain ⟨b, e⟩ := r.ref'
    obtain ⟨b', vs, m, e', q, r', lim⟩ := G.lst hl'
    rw [e] at e'; cases e'
    refine wpAny_call_entry slot_list_append ⟨_, q, rfl⟩ entry_list_append ?_ (args_list_append _ _)
    show wpAny _ _ (updateSeq b (·.push w) >>= fun z_ => ret .none) _ _ s
    have q3 : vs.length ≤ 1048576 := by rw [r'.length]; exact lim
    refine wpAny_bind (wpAny_updateSeq q rfl (wpAny_pure ⟨.none, rfl, put_app (vs := vs) (m := m) G hl' e r' ra hn ?_ (Heap.SameBut.update ..)⟩))
    unfold listO at q ⊢
    rw [Heap.get?_update_self _ q (by rw [Obj.mapSeq_push_plain]; rfl), Obj.mapSeq_push_plain]
    simp
  · obtain ⟨b, e⟩ := r.ref'
    obtain ⟨b', vs, m, e', q, r', lim⟩ := G.lst hl
    rw [e] at e'; cases e'
    exact getMethod_builtin ⟨_, q, rfl⟩ F.plainAttrs_list F.slot_list_append F.type_list_append (fun b hb => by cases hb; exact ⟨_, q, rfl⟩) (h s.toks)
theorem app_ok (hl : st[n]? = some (.lst l)) (hn : l.length < LIM) : ∀ A s W u us, Good B s.heap W st → VR B.C W (.app n) u → VRs B.C W [a] us → Gv B A (call u us) s W st (st.set n (.lst (l ++ [a]))) (IsD B .none) := fun A s W u us G r rs => by
  obtain ⟨w, rfl, ra⟩ := rs.one'
  cases r with
  | app hb e =>
    obtain ⟨b', vs, m, e', q, r', lim⟩ := G.lst hl
    rw [e] at e'; cases e'
    exact ap_call (G.hz _ _ hb) q (by rw [r'.length]; exact lim) fun h' ho hs => put_app G hl e r' ra hn ho hs
set_option tactic.hygienic true in
theorem ev_append (hs : notSuper o = true) (h1 : Ev B k sc v o st (.ref n) st') (hl : st'[n]? = some (.lst l)) : Ev B k sc v (.Attribute o "append" pos) st (.app n) st' := fun A env s W R O => by
  unfold Gv
  rw [arm_eval_Attribute, base_ok hs]
  refine wpAny_bind ((h1 A env s W R O).next O fun u s₁ W₁ O₁ S₁ r₁ => wpAny_bind (wpAny_standAt ?_))
  obtain ⟨b, e⟩ := VR.ref' r₁
  obtain ⟨b', vs, m, e', q, r', lim⟩ := O₁.g.lst hl
  rw [e] at e'; cases e'
  refine wpAny_bind (wpAny_holding (ap_attr q fun tk => wpAny_bind (wpAny_letTemporaryGo (wpAny_pure ?_))))
  obtain ⟨W₂, G, S, r⟩ := got_push (o := appO b) (R := IsD B (.app n)) (u := .ref s₁.heap.objs.size) O₁.g rfl (.app Wd.add_self e) tk
  exact ⟨W₂, G, S₁.trans S, r⟩
noncomputable def AttrT (B : Base) : Prop := ∀ A s W st a u, Good B s.heap W st → HdrAt B.C W a u → handedIn u = true → ∀ (Q : Value → Shared → Prop) E, (∀ tk, Q u { s with toks := tk }) → wpAny (model B.prog B.w) A (getAttr (.ref a) "_headers" true) Q E s
set_option tactic.hygienic true in
theorem ev_hdr (ha : AttrT B) (hs : notSuper o = true) (h1 : Ev B k sc v o st (.hdr n) st') : Ev B k sc v (.Attribute o "_headers" pos) st (.ref n) st' := fun A env s W R O => by
  unfold Gv
  rw [arm_eval_Attribute, base_ok hs]
  refine wpAny_bind ((h1 A env s W R O).next O fun u s₁ W₁ O₁ S₁ r₁ => wpAny_bind (wpAny_standAt ?_))
  cases r₁ with
  | hdr hh hi e => exact wpAny_bind (wpAny_holding (ha A s₁ W₁ st' _ _ O₁.g hh hi _ _ fun tk => wpAny_bind (wpAny_letTemporaryGo (wpAny_pure ⟨W₁, O₁.g, S₁.trans (.keep (fun z_ z_ e => e) tk), .ref e⟩))))

theorem strs_of {ls : List (List Nat)} {sep : List Nat} {y : Str} (hy : y.cps.toList = sep) : ∀ {vs : List Value}, VRs B.C W (ls.map .str) vs → ∃ ys : List Str, StrsAre vs ys ∧ ys.map (·.cps.toList) = ls ∧ (∀ x ∈ ls, ascii x = true) := by
  induction ls with
  | nil => intro vs r; cases r.nil'; exact ⟨[], .nil, rfl, fun z_ h => nomatch h⟩
  | cons i ls ih =>
    intro vs r
    obtain ⟨u, us, r1, r2⟩ := r.cons'
    obtain ⟨z, t, rfl, l1, c1⟩ := r1.str'
    obtain ⟨ys, q, rfl, ha⟩ := ih r2
    exact ⟨z :: ys, .cons z t q, rfl, fun x hx => (List.mem_cons.mp hx).elim (fun e => e ▸ c1) (ha x)⟩
theorem join_cps (y : Str) : ∀ ys : List Str, (Str.join y ys).cps.toList = joinS y.cps.toList (ys.map (·.cps.toList))
  | [] => rfl
  | [x] => rfl
  | x :: z :: ys => by
    show ((x.cps ++ y.cps) ++ (Str.join y (z :: ys)).cps).toList = _
    rw [Array.toList_append, Array.toList_append, join_cps y (z :: ys)]; rfl
theorem joinS_ascii {sep : List Nat} (hs : ascii sep = true) : ∀ ls : List (List Nat), (∀ x ∈ ls, ascii x = true) → ascii (joinS sep ls) = true
  | [], _ => rfl
  | [x], h => h x (.head _)
  | x :: z :: ls, h => by
    show ascii (x ++ sep ++ joinS sep (z :: ls)) = true
    rw [ascii_app, ascii_app, h x (.head _), hs, joinS_ascii hs (z :: ls) fun y hy => h y (.tail _ hy)]; rfl
theorem joinS_len (y : Str) : ∀ ys : List Str, (ys.map (·.length)).sum + (ys.length - 1) * y.cps.toList.length = (joinS y.cps.toList (ys.map (·.cps.toList))).length
  | [] => by show 0 + (0 - 1) * _ = 0; simp
  | [x] => by show x.length + 0 + (1 - 1) * _ = x.cps.toList.length; rw [str_len (l := x.cps.toList) rfl]; simp
  | x :: z :: ys => by
    have := joinS_len y (z :: ys)
    show x.length + ((z :: ys).map (·.length)).sum + (ys.length + 1) * y.cps.toList.length = (x.cps.toList ++ y.cps.toList ++ joinS y.cps.toList ((z :: ys).map (·.cps.toList))).length
    rw [List.length_append, List.length_append, ← this, str_len (l := x.cps.toList) rfl, Nat.succ_mul]
    show _ = _ + (_ + (ys.length + 1 - 1) * _)
    rw [Nat.add_sub_cancel]; omega
theorem join_ok {ls : List (List Nat)} (I : Items st a (ls.map .str)) (hl : (joinS w ls).length ≤ LIM) : MtG B k (.str w) "join" st₀ [a] [] st (.str (joinS w ls)) st := by
  refine ⟨.builtin "str.join", fun z_ z_ z_ z_ z_ z_ => keep_builtin _, fun A s W u pl Q E G r h => ?_, call2 fun A s W u w' R G r ra => ?_⟩
  rotate_left
  · obtain ⟨z, t, e1, l1, c1⟩ := r.str'
    obtain ⟨c, vs, n, e, q, lim⟩ := I.at G ra
    obtain ⟨ys, p1, p2, p3⟩ := strs_of e1 q
    have p4 := joinS_len z ys
    rw [p2, e1] at p4
    refine join_list (items := vs.toArray) ⟨_, e, rfl, n, rfl⟩ (by simpa using p1) ?_ fun t' tk => gv_keep G (R := IsD B _) (.str _ _ _ ?_ hl (joinS_ascii c1 ls p3)) tk fun z_ z_ e => e
    · rw [str_len e1]; unfold LIM at *
      cases ys with
      | nil => simp
      | cons y ys =>
        rw [List.length_cons, Nat.add_sub_cancel] at p4
        have : (y :: ys).length * w.length = ys.length * w.length + w.length := Nat.succ_mul _ _
        rw [this]; omega
    · show (Txt.join z ys).cps.toList = _
      rw [eq_of_beq (join_plain_closes z ys), join_cps, p2, e1]
  · obtain ⟨z, t, _, _, _⟩ := r.str'
    exact GM.join (h s.toks)
theorem low_of {z : Str} (c1 : ascii z.cps.toList = true) : ∀ c ∈ z.cps.toList, c < 128 := fun c hc => by simpa using List.all_eq_true.mp c1 c hc
theorem map_ascii {f : Nat → Nat} (hf : ∀ c, c < 128 → f c < 128) (c1 : ascii w = true) : ascii (w.map f) = true := List.all_eq_true.mpr fun y hy => by
  obtain ⟨c, hc, rfl⟩ := List.mem_map.mp hy
  exact decide_eq_true (hf c (of_decide_eq_true (List.all_eq_true.mp c1 c hc)))
theorem lower_ok : MtG B k (.str w) "lower" st₀ [] [] st (.str (w.map lowerC)) st := by
  refine ⟨.builtin "str.lower", fun z_ z_ z_ z_ z_ z_ => keep_builtin _, fun A s W u pl Q E G r h => ?_, call1 fun A s W u R G r => ?_⟩
  rotate_left
  · obtain ⟨z, t, rfl, l1, c1⟩ := r.str'
    refine gv_tok (R := IsD B _) G (u := .str (Txt.lower z) s.toks) (.str _ _ _ ?_ (by rw [List.length_map]; exact l1) (map_ascii (fun c hc => by unfold lowerC; split <;> omega) c1)) fun Q E h => SC.lower (fit_lower (by rw [str_len (z := z) rfl]; unfold LIM at l1; omega)) h
    rw [lower_ascii (low_of c1)]; simp only [Array.toList_map]; rfl
  · obtain ⟨z, t, _, _, _⟩ := r.str'
    exact GM.lower (h s.toks)
theorem search_ok {j : Nat} (hk : j < 2) (hp : printable w = true) : MtG B k (.pat j) "search" st₀ [.str w] [] st .none st := by
  refine ⟨.builtin "re.Pattern.search", fun z_ z_ z_ z_ z_ z_ => keep_builtin _, fun A s W u pl Q E G r h => ?_, call2 fun A s W u w' R G r ra => ?_⟩
  rotate_left
  · obtain ⟨z, t, rfl, l1, c1⟩ := ra.str'
    cases r with
    | pat e1 e2 c q =>
      rw [q hk] at e1
      refine search_call c ?_ ?_ (G.hz _ _ e1) (G.hz _ _ e2) ⟨W, G, .refl, .none⟩
      · rcases j with _ | _ | j
        · exact set_of rfl
        · exact set_of rfl
        · omega
      · rcases j with _ | _ | j
        · exact name_none hp
        · exact value_none hp
        · omega
  · cases r with
    | pat e1 e2 c q =>
      rw [q hk] at e1
      exact search_get (G.hz _ _ e1) (h s.toks)
theorem te_type (hf : gloKind sc "type" = true) (hg : gloKind sc "str" = true) (nf : B.mg "type" = none) (ng : B.mg "str" = none) (hs : isStar e = false) (h1 : Ev B k sc v e st (.str w) st') : Te B k sc v (.Compare (.Call (.Name "type" p) [e] [] q) [.Is] [.Name "str" p'] pos) st true st' := fun A env s W R O => by
  refine wpAny_isTrue_Compare1 (wpAny_Call_Name_kw (builtin_name O hf nf bb_type (by decide) (args_ok (es_cons hs h1 es_nil) ek_nil R O (fun z_ z_ z_ z_ => keep_type _) fun us kus s₁ W₁ O₁ S₁ r₁ rk => ?_))) rfl
  obtain ⟨u, rfl, r₂⟩ := r₁.one'
  cases vrf_nil rk
  obtain ⟨y, t, _, _, _⟩ := r₂.str'
  refine call_type_of (x := .str y t) (typeIs_str _ _ _) (by decide) (builtin_name O₁ hg ng bb_str (by decide) ?_)
  exact wpAny_is_self rfl (wpAny_truthy_bool ⟨W₁, O₁.g, S₁, rfl⟩)

noncomputable def Pts (B : Base) (k : Nat) (sc : Scope) (v : Vars) (es : List Expr) (st : Sto) (w : List Nat) (st' : Sto) : Prop :=
  ∀ A env s W (out : Str) l, Room A k → OK B env sc v s W st → out.cps.toList = l → ascii l = true → (l ++ w).length ≤ LIM → Gv B A (joinParts out (evalEach es env)) s W st st' (IsD B (.str (l ++ w)))
theorem pt_nil : Pts B k sc v [] st [] st := fun A env s W out l R O hl ha hlim => by
  rw [List.append_nil] at hlim ⊢
  exact gv_tok (R := IsD B _) O.g (.str out s.toks l hl hlim ha) fun Q E h => joinParts_nil h (by rw [str_len hl]; exact lim_fits hlim)
set_option tactic.hygienic true in
theorem pt_cons (h1 : Ev B k sc v e st (.str w) st₁) (h2 : Pts B k sc v es st₁ z st') : Pts B k sc v (e :: es) st (w ++ z) st' := fun A env s W out l R O hl ha hlim => by
  show Gv B A (joinParts out (eval e env :: evalEach es env)) _ _ _ _ _
  refine joinParts_cons ((h1 A env s W R O).next O fun u s₁ W₁ O₁ S₁ r₁ => ?_)
  obtain ⟨y, t, e1, l1, c1⟩ := VR.str' r₁
  have hz : (out ++ y).cps.toList = l ++ w := by
    show (out.cps ++ y.cps).toList = _
    rw [Array.toList_append, hl, e1]
  rw [← List.append_assoc] at hlim ⊢
  refine ⟨?_, (h2 A env s₁ W₁ _ _ R O₁ hz (by rw [ascii_app, ha, c1]; rfl) hlim).last S₁⟩
  rw [str_len hz]
  rw [List.length_append] at hlim
  exact lim_fits (by omega)
theorem ev_joined {e' : Expr} (h : Pts B k sc v (e :: e' :: es) st w st') (hl : w.length ≤ LIM) : Ev B k sc v (.JoinedStr (e :: e' :: es) pos) st (.str w) st' := fun A env s W R O => JoinedStr_many (h A env s W Str.empty [] R O rfl rfl hl)
set_option tactic.hygienic true in
theorem ev_fmt (h : Ev B k sc v e st (.str w) st') : Ev B k sc v (.FormattedValue e (-1) none pos) st (.str w) st' := fun A env s W R O =>
  FormattedValue_plain ((h A env s W R O).next O fun u s₁ W₁ O₁ S₁ r₁ => by
    obtain ⟨y, t, e1, l1, c1⟩ := VR.str' r₁
    exact formatField_str (fun t' tk => ⟨W₁, O₁.g, S₁.trans (.keep (fun z_ z_ e => e) tk), .str _ _ _ e1 l1 c1⟩) (by rw [str_len e1]; exact lim_fits l1))
end
end Mine
namespace Mine
open PySem PySem.W PyProof.Rows PySem.Calls

noncomputable def isTuple : Expr → Bool
  | .Tuple .. => true
  | _ => false
noncomputable def ownNames : List String := ["enumerate", "zip", "dict_itemiterator", "dict_reverseitemiterator", "odict_iterator", "itertools.zip_longest", "itertools.pairwise"]
theorem letOwn_ok {prog : Program} {w : World} {A : Around} {E : Value → Shared → Prop} {s : Shared} {target : Expr} {I : Addr} {v : Value} {o : Obj} {nm : String} {Q : Unit → Shared → Prop} (ho : s.heap.get? I = some o) (hc : o.cls = .type nm) (hn : ownNames.contains nm = false)
    (hQ : Q () s) : wpAny (model prog w) A (letOwnedTupleGo target (.ref I) v) Q E s := by
  have key : wpAny (model prog w) A (do
      let (.ref r, .ref a) := (Value.ref I, v) | return
      let o ← load r
      match o.cls, o.data with
      | .type n, .fields vs =>
        if ["enumerate", "zip", "dict_itemiterator", "dict_reverseitemiterator", "odict_iterator", "itertools.zip_longest", "itertools.pairwise"].contains n && vs[0]? == some (rawInt a) then
          rule "for.unpacks-the-owned-tuple"
          updateField r 0 .none
      | _, _ => pure ()) Q E s := by
    cases v with
    | ref a =>
      refine wpAny_bind (wpAny_load ho ?_)
      rw [hc]
      cases o.data with
      | fields vs =>
        show wpAny _ A (if (ownNames.contains nm && (vs[0]? == some (rawInt a))) = true then _ else _) Q E s
        rw [hn, Bool.false_and, if_neg Bool.false_ne_true]
        exact wpAny_pure hQ
      | _ => exact wpAny_pure hQ
    | _ => exact wpAny_pure hQ
  cases target <;> first | exact wpAny_pure hQ | exact key

structure Wk (B : Base) (A : Around) (pairs : Bool) (I : Addr) (wr fp : List Addr) (ds : List D) (St : Nat → Heap → Prop) (W₀ : Wd) : Prop where
  frame : ∀ i h h', St i h → (∀ b ∈ fp, ∀ o, h.get? b = some o → h'.get? b = some o) → St i h'
  live : ∀ i h b, St i h → b ∈ wr → ∃ o, h.get? b = some o
  item : ∀ i d (s : Shared) W st (Q : Value → Shared → Prop) (E : Value → Shared → Prop) (target : Expr), (pairs = true → isTuple target = true) → ds[i]? = some d → St i s.heap → Le W₀ W → Good B s.heap W st → (∀ b ∈ wr, Off B s.heap W b) →
    (∀ u s' W', St (i + 1) s'.heap → Good B s'.heap W' st → Step B (· ∈ wr) s W st s' W' st → VR B.C W' d u → Q u s') →
    wpAny (model B.prog B.w) A (pyNext (.ref I)) (fun r s₁ => match r with
      | none => False
      | some v => wpAny (model B.prog B.w) A (letOwnedTupleGo target (.ref I) v) (fun z_ s₂ => Q v s₂) E s₁) E s
  done : ∀ (s : Shared) (Q : Option Value → Shared → Prop) (E : Value → Shared → Prop), St ds.length s.heap →
    (∀ h' tk, (∀ b o, b ∉ wr → s.heap.get? b = some o → h'.get? b = some o) → Q none { s with heap := h', toks := tk }) → wpAny (model B.prog B.w) A (pyNext (.ref I)) Q E s
  self : ∀ i (s : Shared) (Q : Value → Shared → Prop) (E : Value → Shared → Prop), St i s.heap → Q (.ref I) s → wpAny (model B.prog B.w) A (pyIter (.ref I)) Q E s

inductive IterAt (B : Base) (A : Around) (pairs : Bool) (s : Shared) (W : Wd) (st st' : Sto) (ds : List D) (lk : Option Nat) : Value → Shared → Prop
  | mk (I : Addr) (wr fp : List Addr) (St : Nat → Heap → Prop) (W₁ : Wd) (s₁ s₂ : Shared) : Good B s₂.heap W₁ st' → Step B Em s W st s₁ W₁ st' → (∀ a o, s₁.heap.get? a = some o → s₂.heap.get? a = some o) ∧ s₂.os = s₁.os ∧ s₂.gens = s₁.gens → Wk B A pairs I wr fp ds St W₁ → St 0 s₂.heap → (∀ b ∈ wr, s₁.heap.get? b = none ∧ Off B s₂.heap W₁ b) →
    (∀ b ∈ fp, b ∈ wr ∨ (∃ o, s₁.heap.get? b = some o) ∧ ((∃ o, W₁.Z b = some o) ∨ ∃ n, lk = some n ∧ W₁.adr[n]? = some b)) → (∀ n, lk = some n → st'[n]? = some (.lst ds) ∧ ∃ b o, W₁.adr[n]? = some b ∧ s₁.heap.get? b = some o) → IterAt B A pairs s W st st' ds lk (.ref I) s₂

section
variable {B : Base} {k : Nat} {A : Around} {X : Addr → Prop} {env : Env} {sc : Scope} {v : Vars} {s s₁ s₂ : Shared} {h' : Heap} {W W₁ : Wd} {st st₁ st' : Sto} {a d : D} {ds l : List D} {lk : Option Nat} {pairs : Bool} {it : Value} {o : Obj} {w : List Nat}
theorem Step.old_none {b : Addr} (S : Step B X s W st s₁ W₁ st₁) (h : s₁.heap.get? b = none) : s.heap.get? b = none := by
  cases e : s.heap.get? b with
  | none => rfl
  | some o => obtain ⟨o', e'⟩ := (S.kp b o e).e; rw [h] at e'; cases e'
theorem IterAt.from (S : Step B Em s W st s₁ W₁ st₁) (x : IterAt B A pairs s₁ W₁ st₁ st' ds lk it s₂) : IterAt B A pairs s W st st' ds lk it s₂ := by
  obtain ⟨I, wr, fp, St, W₂, s₃, s₂, G, S', T, K, h0, hw, hf, hl⟩ := x
  exact ⟨I, wr, fp, St, W₂, s₃, s₂, G, S.trans S', T, K, h0, hw, hf, hl⟩
theorem Wk.ofWalks {I : Addr} {wr fp : List Addr} {n : Nat} {P : Nat → Value → Prop} {St : Nat → Heap → Prop} (K : Walks B.prog B.w A I fp wr n P St) (hlen : ds.length = n) (hP : ∀ i u d, P i u → ds[i]? = some d → VR B.C W d u) (hlive : ∀ i h b, St i h → b ∈ wr → ∃ o, h.get? b = some o)
    (hcls : ∀ i h, St i h → ∃ o nm, h.get? I = some o ∧ o.cls = .type nm ∧ ownNames.contains nm = false) : Wk B A pairs I wr fp ds St W where
  frame := K.frame
  live := hlive
  item := fun i d s W' st Q E target z_ hd hst x G hof hQ => by
    refine K.item i s _ _ (hlen ▸ (List.getElem?_eq_some_iff.mp hd).1) hst fun u h' tk hp hs' hk => ?_
    obtain ⟨o, nm, ho, hc, hn⟩ := hcls _ _ hs'
    refine letOwn_ok ho hc hn (hQ u _ W' hs' (G.but (X := (· ∈ wr)) (fun b o e m => hk b o m e) fun b m => let f := hof b m; ⟨f.z, f.m, f.t⟩) (.but (fun b o e m => hk b o m e) (fun b o e => ?_) tk) ((hP i u d hp hd).up x))
    by_cases m : b ∈ wr
    · exact hlive _ _ b hs' m
    · exact ⟨o, hk b o m e⟩
  done := fun s Q E hst hQ => K.done s Q E (hlen ▸ hst) hQ
  self := fun i s Q E hst hQ => K.self i s Q E hst hQ

theorem iter_push {fp : List Addr} {St : Nat → Heap → Prop} (G : Good B s.heap W st) (hl : ∀ n, lk = some n → st[n]? = some (.lst ds)) (K : Wk B A pairs s.heap.objs.size [s.heap.objs.size] fp ds St W) (h0 : St 0 (s.heap.push o))
    (hfp : ∀ b ∈ fp, b = s.heap.objs.size ∨ (∃ o, s.heap.get? b = some o) ∧ ((∃ o, W.Z b = some o) ∨ ∃ n, lk = some n ∧ W.adr[n]? = some b)) (hf : o.isFreed = false := by rfl) : IterAt B A pairs s W st st ds lk (.ref s.heap.objs.size) { s with heap := s.heap.push o } := by
  have f := G.fresh (size_none s.heap)
  refine ⟨s.heap.objs.size, [s.heap.objs.size], fp, St, W, s, _, G.keep (keep_push o), .refl, ⟨keep_push o, rfl, rfl⟩, K, h0, fun b m => ?_, fun b m => (hfp b m).imp (fun e => List.mem_singleton.mpr e) id, fun n q => ⟨hl n q, let ⟨c, vs, m, h1, h2, _, _⟩ := G.lst (hl n q); ⟨c, _, h1, h2⟩⟩⟩
  cases List.mem_singleton.mp m
  exact ⟨size_none _, f.1, f.2.1, f.2.2, _, Heap.get?_push_size _ hf⟩
theorem walk_list {c : Addr} {vs : List Value} {m : Nat} (hh : A.handled = none) (G : Good B s.heap W st) (ho : s.heap.get? c = some o) (hc : o.cls = .type "list") (hd : o.data = .seq vs.toArray m) (hf : (∃ o, W.Z c = some o) ∨ ∃ n, lk = some n ∧ W.adr[n]? = some c)
    (r : VRs B.C W ds vs) (hl : ∀ n, lk = some n → st[n]? = some (.lst ds)) : wpAny (model B.prog B.w) A (pyIter (.ref c)) (IterAt B A pairs s W st st ds lk) NoE s := by
  have hL : s.heap.IsList c vs.toArray := ⟨o, ho, hc, m, hd⟩
  have hne : c ≠ s.heap.objs.size := Nat.ne_of_lt (Heap.lt_size ho)
  refine wpAny_pyIter_list hL (iter_push G hl (Wk.ofWalks (Walks.list hh _ c hne vs.toArray) (by rw [List.size_toArray, r.length]) (fun i u d p e => r.at e (by simpa using p)) (fun i h b hs hb => ?_) fun i h hs => ?_) ⟨⟨_, Heap.get?_push_size _ rfl, rfl, rfl⟩, hL.push _⟩ fun b hb => ?_)
  · cases List.mem_singleton.mp hb; obtain ⟨o, x, _⟩ := hs.1; exact ⟨o, x⟩
  · obtain ⟨o, x, y, _⟩ := hs.1; exact ⟨o, _, x, y, by decide⟩
  · rcases List.mem_cons.mp hb with rfl | hb
    · exact .inl rfl
    · cases List.mem_singleton.mp hb; exact .inr ⟨⟨_, ho⟩, hf⟩
theorem walk_lst (hh : A.handled = none) (G : Good B s.heap W st) {u : Value} (r : VR B.C W (.lst ds) u) : wpAny (model B.prog B.w) A (pyIter u) (IterAt B A pairs s W st st ds none) NoE s := by
  obtain ⟨c, vs, n, e, q, hl⟩ := r.lst'
  exact walk_list hh G (G.hz _ _ e) rfl rfl (.inl ⟨_, e⟩) q fun z_ q => nomatch q
theorem walk_ref {n : Nat} (hh : A.handled = none) (G : Good B s.heap W st) {u : Value} (r : VR B.C W (.ref n) u) (hl : st[n]? = some (.lst ds)) : wpAny (model B.prog B.w) A (pyIter u) (IterAt B A pairs s W st st ds (some n)) NoE s := by
  obtain ⟨c, e⟩ := r.ref'
  obtain ⟨c', vs, m, e', q, r', lim⟩ := G.lst hl
  rw [e] at e'; cases e'
  exact walk_list hh G q rfl rfl (.inr ⟨n, rfl, e⟩) r' fun z_ q => by cases q; exact hl
theorem walk_tup (hh : A.handled = none) (G : Good B s.heap W st) {u : Value} (r : VR B.C W (.tup ds) u) : wpAny (model B.prog B.w) A (pyIter u) (IterAt B A pairs s W st st ds none) NoE s := by
  obtain ⟨c, vs, n, e, q, hl⟩ := r.tup'
  have ho := G.hz _ _ e
  have hL : s.heap.IsTuple c vs.toArray := ⟨_, ho, rfl, n, rfl⟩
  have hne : c ≠ s.heap.objs.size := Nat.ne_of_lt (Heap.lt_size ho)
  refine wpAny_pyIter_tuple hL (iter_push G (fun z_ q => nomatch q) (Wk.ofWalks (Walks.tuple hh _ c hne vs.toArray) (by rw [List.size_toArray, q.length]) (fun i u d p e => q.at e (by simpa using p)) (fun i h b hs hb => ?_) fun i h hs => ?_) ⟨⟨_, Heap.get?_push_size _ rfl, rfl, rfl⟩, hL.push _⟩ fun b hb => ?_)
  · cases List.mem_singleton.mp hb; obtain ⟨o, x, _⟩ := hs.1; exact ⟨o, x⟩
  · obtain ⟨o, x, y, _⟩ := hs.1; exact ⟨o, _, x, y, by decide⟩
  · rcases List.mem_cons.mp hb with rfl | hb
    · exact .inl rfl
    · cases List.mem_singleton.mp hb; exact .inr ⟨⟨_, ho⟩, .inl ⟨_, e⟩⟩
noncomputable def intsD (a : Int) (n : Nat) : List D := (List.range n).map fun i => .int (a + (i : Nat))
theorem walk_rng {a : Addr} {x y : Int} {t u w : Tok} (hh : A.handled = none) (G : Good B s.heap W st) (ho : s.heap.get? a = some { cls := .type "range", data := .fields #[.int x t, .int y u, .int 1 w] }) (hx : x.natAbs ≤ LIM) (hy : y.natAbs ≤ LIM) :
    wpAny (model B.prog B.w) A (pyIter (.ref a)) (IterAt B A pairs s W st st (intsD x (y - x).toNat) none) NoE s := by
  unfold LIM at hx hy
  have hsm := small_one (a := x) (b := y) (by omega) (by omega) (by omega) (by omega)
  have hsz : Builtin.Range.rangeSize x y 1 = ((y - x).toNat : Int) := by rw [rangeSize_one]; split <;> omega
  refine wpAny_pyIter_range (t := t) (u := u) (v := w) ho hsm (iter_push G (fun z_ q => nomatch q) (Wk.ofWalks (Walks.range hh _ x 1 (y - x).toNat) (by unfold intsD; rw [List.length_map, List.length_range]) (fun i u d p e => ?_) (fun i h b hs hb => ?_) fun i h hs => ?_) ?_ fun b hb => .inl (List.mem_singleton.mp hb))
  · obtain ⟨t', rfl⟩ := p
    unfold intsD at e
    rw [List.getElem?_map] at e
    obtain ⟨j, q, rfl⟩ := Option.map_eq_some_iff.mp e
    rw [List.getElem?_range (by have := (List.getElem?_eq_some_iff.mp q).1; simpa using this)] at q
    cases q
    rw [Int.mul_one]; exact .int _ _
  · cases List.mem_singleton.mp hb; exact ⟨_, hs⟩
  · exact ⟨_, _, hs, rfl, by decide⟩
  · have e1 : x + ((0 : Nat) : Int) * 1 = x := by simp
    have e2 : ((y - x).toNat : Int) - ((0 : Nat) : Int) = Builtin.Range.rangeSize x y 1 := by rw [hsz]; simp
    show IsRangeIter _ s.heap.objs.size (x + ((0 : Nat) : Int) * 1) (((y - x).toNat : Int) - ((0 : Nat) : Int)) 1
    rw [e1, e2]
    exact Heap.get?_push_size _ rfl
end
end Mine
namespace Mine
open PySem PySem.W PyProof.Rows PySem.Calls

structure It (B : Base) (k : Nat) (sc : Scope) (v : Vars) (pairs : Bool) (e : Expr) (st : Sto) (ds : List D) (lk : Option Nat) (st' : Sto) : Prop where
  fold : ∀ env w, foldedSetIterable e env w = pure w
  run : ∀ A env s W, Room A k → OK B env sc v s W st → wpAny (model B.prog B.w) A (eval e env) (fun u s₁ => wpAny (model B.prog B.w) A (pyIter u) (IterAt B A pairs s W st st' ds lk) NoE s₁) NoE s
noncomputable def WkOk (B : Base) (st : Sto) (a : D) (ds : List D) (lk : Option Nat) : Prop := ∀ A pairs s W u, A.handled = none → Good B s.heap W st → VR B.C W a u → wpAny (model B.prog B.w) A (pyIter u) (IterAt B A pairs s W st st ds lk) NoE s
noncomputable def enumD (i : Int) : List D → List D
  | [] => []
  | a :: r => .tup [.int i, a] :: enumD (i + 1) r
theorem enum_get : ∀ (l : List D) (a : Int) (i : Nat), (enumD a l)[i]? = l[i]?.map fun d => .tup [.int (a + i), d]
  | [], _, _ => by simp [enumD]
  | d :: l, a, 0 => by simp [enumD]
  | d :: l, a, i + 1 => by
    simp only [enumD, List.getElem?_cons_succ]
    rw [enum_get l (a + 1) i]
    have : a + 1 + (i : Int) = a + ((i + 1 : Nat) : Int) := by push_cast; omega
    rw [this]
theorem enum_len : ∀ (l : List D) (a : Int), (enumD a l).length = l.length
  | [], _ => rfl
  | _ :: l, a => congrArg (· + 1) (enum_len l (a + 1))

section
variable {B : Base} {k : Nat} {A : Around} {env : Env} {sc : Scope} {v : Vars} {s : Shared} {W : Wd} {st st' : Sto} {a : D} {ds : List D} {lk : Option Nat} {pairs : Bool} {e o : Expr} {p q pos : Pos} {w : List Nat}
theorem wk_lst : WkOk B st (.lst ds) ds none := fun z_ z_ z_ z_ z_ hh G r => walk_lst hh G r
theorem wk_tup : WkOk B st (.tup ds) ds none := fun z_ z_ z_ z_ z_ hh G r => walk_tup hh G r
theorem wk_ref {n : Nat} (hl : st[n]? = some (.lst ds)) : WkOk B st (.ref n) ds (some n) := fun z_ z_ z_ z_ z_ hh G r => walk_ref hh G r hl
set_option tactic.hygienic true in
theorem it_ev (h : Ev B k sc v e st a st') (hw : WkOk B st' a ds lk) (hf : ∀ env w, foldedSetIterable e env w = pure w) : It B k sc v pairs e st ds lk st' :=
  ⟨hf, fun A env s W R O => (h A env s W R O).next O fun u s₁ W₁ O₁ S₁ r₁ => wpAny_mono (hw A _ s₁ W₁ u R.h O₁.g r₁) (fun z_ z_ x => x.from S₁) fun z_ z_ e => e⟩
theorem it_range {b : Int} (hk : gloKind sc "range" = true) (hm : B.mg "range" = none) (hs : isStar e = false) (h : Ev B k sc v e st (.int b) st') (hb : b.natAbs ≤ LIM) : It B k sc v pairs (.Call (.Name "range" p) [e] [] q) st (intsD 0 b.toNat) none st' :=
  ⟨fun z_ z_ => rfl, fun A env s W R O => wpAny_Call_Name_kw (builtin_name O hk hm bb_range (by decide) (args_ok (es_cons hs h es_nil) ek_nil R O (fun z_ z_ z_ z_ => keep_type _) fun us kus s₁ W₁ O₁ S₁ r₁ rk => by
    obtain ⟨u, rfl, r₂⟩ := r₁.one'
    cases vrf_nil rk
    obtain ⟨t, rfl⟩ := r₂.int'
    have k1 := keep_push (h := s₁.heap) { cls := .type "range", data := .fields #[.int 0 s₁.toks, .int b t, .int 1 (s₁.toks + 1)] }
    have := walk_rng (A := A) (pairs := pairs) (s := { s₁ with heap := s₁.heap.push { cls := .type "range", data := .fields #[.int 0 s₁.toks, .int b t, .int 1 (s₁.toks + 1)] }, toks := s₁.toks + 1 + 1 }) R.h (O₁.g.keep k1) (Heap.get?_push_size _ rfl) (Nat.zero_le _) hb
    rw [Int.sub_zero] at this
    exact call_range_1 (wpAny_mono this (fun z_ z_ x => x.from (S₁.trans (.keep k1 _))) fun z_ z_ e => e)))⟩
theorem Wk.enum {l : List D} {n : Nat} {it e : Addr} {fp : List Addr} {P : Nat → Value → Prop} {S₀ : Nat → Heap → Prop} (Dr : Draws B.prog B.w A.in1 it fp n P S₀) (hei : e ≠ it) (hef : e ∉ fp) (hlen : l.length = n) (hP : ∀ i u d, P i u → l[i]? = some d → VR B.C W d u) :
    Wk B A true e [e, it] (e :: fp) (enumD 0 l) (fun i h => (∃ old, IsEnum h e it i old) ∧ S₀ i h) W where
  frame := fun i h h' ⟨⟨old, he⟩, st⟩ hk => ⟨⟨old, hk e (.head _) _ he⟩, Dr.frame i h h' st fun b hb o q => hk b (.tail _ hb) o q⟩
  live := fun i h b ⟨⟨old, x⟩, st⟩ hb => by
    rcases List.mem_cons.mp hb with rfl | hb
    · exact ⟨_, x⟩
    · rw [List.mem_singleton.mp hb]; exact Dr.live i h st
  item := fun i d s W' st Q E target ht hd ⟨⟨old, he⟩, hst⟩ x G hof hQ => by
    rw [enum_get] at hd
    obtain ⟨d₀, hd₀, rfl⟩ := Option.map_eq_some_iff.mp hd
    refine wpAny_pyNext_enum_itemD Dr he hst (hlen ▸ (List.getElem?_eq_some_iff.mp hd₀).1) hei hef fun u h' tk hp ho hs' hT hsz hk => ?_
    cases target with
    | Tuple ts k pos =>
      refine wpAny_letOwnedTupleGo_enum ho fun h₂ he₂ hs₂ => ?_
      have helt : e < s.heap.objs.size := Heap.lt_size he
      have hk₂ : ∀ b o, b ∉ [e, it] → s.heap.get? b = some o → h₂.get? b = some o := fun b o hb q => (hs₂.2 b fun r => hb (by simp [r])).trans (hk b o (fun r => hb (by simp [r])) (fun r => hb (by simp [r])) q)
      have st₂ : S₀ (i + 1) h₂ := Dr.frame _ _ _ hs' fun b hb o q => (hs₂.2 b fun r => hef (r ▸ hb)).trans q
      have f := G.fresh (size_none s.heap)
      have G₂ : Good B h₂ W' st := G.but (X := (· ∈ [e, it])) (fun b o q m => hk₂ b o m q) fun b m => let f := hof b m; ⟨f.z, f.m, f.t⟩
      have S₂ : Step B (· ∈ [e, it]) s W' st { s with heap := h₂, toks := tk + 1 } W' st := .but (fun b o q m => hk₂ b o m q) (fun b o q => by
        by_cases hb : b ∈ [e, it]
        · rcases List.mem_cons.mp hb with rfl | hb
          · exact ⟨_, he₂⟩
          · rw [List.mem_singleton.mp hb]; exact Dr.live _ _ st₂
        · exact ⟨o, hk₂ b o hb q⟩) (tk + 1)
      have hI : IsEnum h₂ e it ((i + 1 : Nat) : Int) u := by
        have : ((i + 1 : Nat) : Int) = (i : Int) + 1 := by push_cast; rfl
        rw [this]; exact he₂
      refine hQ _ { s with heap := h₂, toks := tk + 1 } (W'.add s.heap.objs.size (tupO [.int i tk, u] 0)) ⟨⟨u, hI⟩, st₂⟩ (G₂.add ((hs₂.2 _ (Nat.ne_of_gt helt)).trans hT) f.1 f.2.1 f.2.2) (S₂.add (size_none _) f.1) ?_
      have e0 : (0 : Int) + (i : Int) = i := by omega
      rw [e0]
      exact .tup (vs := [.int i tk, u]) (n := 0) Wd.add_self (.cons (.int _ _) (.cons ((hP i u d₀ hp hd₀).up (x.trans (Wd.le_add f.1))) .nil)) (by show 2 ≤ LIM; decide)
    | _ => exact absurd (ht rfl) (by simp [isTuple])
  done := fun s Q E ⟨⟨old, he⟩, hst⟩ hQ => by
    rw [enum_len, hlen] at hst he
    exact wpAny_pyNext_enum_endD Dr he hst fun h' hx => hQ h' s.toks fun b o hb q => hx b o (fun r => hb (by simp [r])) q
  self := fun i s Q E ⟨⟨old, he⟩, _⟩ hQ => wpAny_pyIter_enum he hQ
theorem it_enum (hp : pairs = true) (hk : gloKind sc "enumerate" = true) (hm : B.mg "enumerate" = none) (hs : isStar e = false) (h : Ev B k sc v e st (.tup ds) st') : It B k sc v pairs (.Call (.Name "enumerate" p) [e] [] q) st (enumD 0 ds) none st' :=
  ⟨fun z_ z_ => rfl, fun A env s W R O => wpAny_Call_Name_kw (builtin_name O hk hm bb_enumerate (by decide) (args_ok (es_cons hs h es_nil) ek_nil R O (fun z_ z_ z_ z_ => keep_type _) fun us kus s₁ W₁ O₁ S₁ r₁ rk => by
    subst hp
    obtain ⟨u, rfl, r₂⟩ := r₁.one'
    cases vrf_nil rk
    obtain ⟨c, vs, n, ez, r, hl⟩ := r₂.tup'
    have ho := O₁.g.hz _ _ ez
    have hlt := Heap.lt_size ho
    have hne : c ≠ s₁.heap.objs.size := Nat.ne_of_lt hlt
    have f1 := size_none s₁.heap
    have f2 : s₁.heap.get? (s₁.heap.objs.size + 1) = none := Heap.get?_none_of_le (Nat.le_succ _)
    refine call_enum_tup ho fun h' hE hit hsz k => wpAny_pyIter_enum hE ?_
    have off : ∀ b o, s₁.heap.get? b = none → h'.get? b = some o → s₁.heap.get? b = none ∧ Off B h' W₁ b := fun b o q q' => let f := O₁.g.fresh q; ⟨q, f.1, f.2.1, f.2.2, o, q'⟩
    have hit' : ∃ o, h'.get? s₁.heap.objs.size = some o := let ⟨o, q, _⟩ := hit; ⟨o, q⟩
    obtain ⟨oi, hoi⟩ := hit'
    refine ⟨_, _, _, _, W₁, s₁, _, O₁.g.keep k, S₁, ⟨k, rfl, rfl⟩, Wk.enum (drawsTuple (A := A.in1) (show A.in1.handled = none from R.h) s₁.heap.objs.size c hne vs.toArray) (Nat.succ_ne_self _) (fun m => ?_) (by rw [List.size_toArray, r.length]) (fun i u d p e => r.at e (by simpa using p)), ⟨⟨_, hE⟩, hit, ⟨_, k _ _ ho, rfl, n, rfl⟩⟩, fun b m => ?_, fun b m => ?_, fun z_ q => nomatch q⟩
    · rcases List.mem_cons.mp m with m | m
      · exact Nat.succ_ne_self _ m
      · rw [← List.mem_singleton.mp m] at hlt; exact absurd hlt (Nat.not_lt.mpr (Nat.le_succ _))
    · rcases List.mem_cons.mp m with rfl | m
      · exact off _ _ f2 hE
      · rw [List.mem_singleton.mp m]; exact off _ _ f1 hoi
    · rcases List.mem_cons.mp m with rfl | m
      · exact .inl (.head _)
      · rcases List.mem_cons.mp m with rfl | m
        · exact .inl (.tail _ (.head _))
        · rw [List.mem_singleton.mp m]; exact .inr ⟨⟨_, ho⟩, .inl ⟨_, ez⟩⟩))⟩

theorem empty_dict {prog : Program} {w : World} {h : Heap} {a : Addr} {ep : Nat} (ho : h.get? a = some { cls := .type "dict", data := .dict #[] ep }) : h.DictAt (strKind prog w) a [] ep :=
  ⟨_, #[], ho, ⟨rfl, rfl, rfl⟩, rfl, fun e he => by simp at he, .nil, List.nodup_nil⟩
set_option tactic.hygienic true in
theorem it_items (hc : callOk o p pos 0 = true) (h : Ev B k sc v o st .dic0 st') : It B k sc v pairs (.Call (.Attribute o "items" p) [] [] pos) st [] none st' :=
  ⟨fun z_ z_ => rfl, fun A env s W R O => methodCall_ok (args := []) (kws := []) hc rfl rfl ((h A env s W R O).next O fun u s₁ W₁ O₁ S₁ r₁ pl => by
    cases r₁ with
    | @dic c ep ez hn =>
    have ho := O₁.g.hz _ _ ez
    have hD : s₁.heap.DictOf (strKind B.prog B.w) c [] := by
      obtain ⟨o, es, q1, q2, q3, q4⟩ := empty_dict (prog := B.prog) (w := B.w) ho
      exact ⟨o, es, _, q1, q2, q3, q4⟩
    refine getMethod_builtin hD.typeIs F.plainAttrs_dict F.slot_dict_items F.type_dict_items (fun b hb => by cases hb; exact ⟨_, ho, rfl⟩) ?_
    show wpAny _ _ (callWith pos (.builtin "dict.items") [.ref c] [] []) _ _ _
    refine method_meetsIn F.slot_dict_items F.entry_dict_items rfl (PySem.evalArgs_none ⟨rfl, hD.typeIs, F.args_dict_items_1 _, _, meets_dict_items (strKind B.prog B.w) c hn, ⟨[], hD⟩, ?_⟩)
    have k1 := keep_push (h := s₁.heap) { cls := .type "dict_items", data := .fields #[.ref c] }
    have ho' := k1 _ _ ho
    refine wpAny_pyIter_items (knd := strKind B.prog B.w) (kvs := []) ⟨_, Heap.get?_push_size _ rfl, rfl, rfl⟩ (empty_dict ho') (IterAt.from (S₁.trans (.keep k1 s₁.toks)) (iter_push (s := { s₁ with heap := s₁.heap.push { cls := .type "dict_items", data := .fields #[.ref c] } })
      (fp := [(s₁.heap.push { cls := .type "dict_items", data := .fields #[.ref c] }).objs.size, c]) (St := fun i h => i = 0 ∧ IsItemIter h _ c 0 0 ep .none .none ∧ h.get? c = some { cls := .type "dict", data := .dict #[] ep }) (O₁.g.keep k1) (fun z_ q => nomatch q) ⟨?_, ?_, ?_, ?_, ?_⟩ ⟨rfl, Heap.get?_push_size _ rfl, keep_push _ _ _ ho'⟩ fun b m => ?_))
    · rintro i h h' ⟨q1, q2, q3⟩ hk
      exact ⟨q1, hk _ (.head _) _ q2, hk _ (.tail _ (.head _)) _ q3⟩
    · rintro i h b ⟨_, q, _⟩ hb
      rw [List.mem_singleton.mp hb]; exact ⟨_, q⟩
    · intro i d s W st Q E t z_ hd
      exact nomatch hd
    · rintro s' Q E ⟨_, q2, q3⟩ hQ
      exact wpAny_pyNext_items_end (knd := strKind B.prog B.w) (kvs := []) R.h q2 (empty_dict q3) rfl fun h' he => hQ h' s'.toks fun b o hb e => he b o (fun h => hb (by simp [h])) e
    · rintro i s' Q E ⟨_, q2, _⟩ hQ
      exact kcp_self q2 hQ
    · rcases List.mem_cons.mp m with m | m
      · exact .inl m
      · rw [List.mem_singleton.mp m]; exact .inr ⟨⟨_, ho'⟩, .inl ⟨_, ez⟩⟩)⟩
end
end Mine
namespace Mine
open PySem PySem.W PyProof.Rows PySem.Calls

inductive FlR (B : Base) (W : Wd) : Flow → Fl → Prop
  | next : FlR B W .next .next
  | brk : FlR B W .brk .brk
  | cont : FlR B W .cont .cont
  | ret {u : Value} {d : D} : VR B.C W d u → FlR B W (.ret u) (.ret d)
inductive Ends (B : Base) (env : Env) (sc : Scope) (s : Shared) (W : Wd) (st : Sto) (Q : Fl → Vars → Sto → Prop) (fl : Flow) (s' : Shared) : Prop
  | mk (f : Fl) (v' : Vars) (st' : Sto) (W' : Wd) : OK B env sc v' s' W' st' → Step B (own env sc) s W st s' W' st' → FlR B W' fl f → Q f v' st' → Ends B env sc s W st Q fl s'
noncomputable def Rx (B : Base) (k : Nat) (sc : Scope) (v : Vars) (x : Stmt) (st : Sto) (Q : Fl → Vars → Sto → Prop) : Prop := ∀ A env s W, Room A k → OK B env sc v s W st → wpAny (model B.prog B.w) A (exec x env) (Ends B env sc s W st Q) NoE s
noncomputable def Ru (B : Base) (k : Nat) (sc : Scope) (v : Vars) (xs : List Stmt) (st : Sto) (Q : Fl → Vars → Sto → Prop) : Prop := ∀ A env s W, Room A k → OK B env sc v s W st → wpAny (model B.prog B.w) A (execs xs env) (Ends B env sc s W st Q) NoE s
set_option tactic.hygienic true in
noncomputable def Kt (B : Base) (k : Nat) (sc : Scope) (xs : List Stmt) (Q : Fl → Vars → Sto → Prop) : Fl → Vars → Sto → Prop
  | .next, v, st => Ru B k sc v xs st Q
  | f, v, st => Q f v st

noncomputable def bound1 (sc : Scope) (x : Str) : Bool := kindOf sc x == some .local || kindOf sc x == some .cell
inductive AsgL (sc : Scope) : List Expr → List D → Vars → Vars → Prop
  | nil (v : Vars) : AsgL sc [] [] v v
  | cons {x : Str} {p : Pos} {ts : List Expr} {d : D} {ds : List D} {v v' : Vars} : bound1 sc x = true → AsgL sc ts ds (setVar v x d) v' → AsgL sc (.Name x p :: ts) (d :: ds) v v'
inductive Asg (sc : Scope) : Expr → D → Vars → Vars → Prop
  | name {x : Str} {p : Pos} {d : D} {v : Vars} : bound1 sc x = true → Asg sc (.Name x p) d v (setVar v x d)
  | tup {ts : List Expr} {k : Nat} {p : Pos} {l : List D} {v v' : Vars} : AsgL sc ts l v v' → Asg sc (.Tuple ts k p) (.tup l) v v'

section
variable {B : Base} {k : Nat} {A : Around} {X : Addr → Prop} {env : Env} {sc : Scope} {v v' v₁ : Vars} {s s₁ s₂ : Shared} {W W₁ : Wd} {st st₁ st₂ st' : Sto} {a d : D} {ds : List D} {e o : Expr} {p q pos : Pos} {x : Str} {Q Q' : Fl → Vars → Sto → Prop} {y : Stmt} {xs b1 b2 : List Stmt} {t : Bool} {lk : Option Nat}
theorem bound1_of (h : bound1 sc x = true) : kindOf sc x = some .local ∨ kindOf sc x = some .cell := by
  unfold bound1 at h
  simpa using h
theorem Step.own (S : Step B Em s W st s₁ W₁ st₁) : Step B X s W st s₁ W₁ st₁ := S.up fun z_ h => h.elim
theorem Ends.from {fl : Flow} {s' : Shared} (S : Step B (Mine.own env sc) s W st s₁ W₁ st₁) (E : Ends B env sc s₁ W₁ st₁ Q fl s') : Ends B env sc s W st Q fl s' :=
  let ⟨f, v', st', W', O, S', r, q⟩ := E; ⟨f, v', st', W', O, S.trans S', r, q⟩
set_option tactic.hygienic true in
theorem ru_nil (hq : Q .next v st) : Ru B k sc v [] st Q := fun A env s W R O => wpAny_execs_nil ⟨_, _, _, W, O, .refl, .next, hq⟩
set_option tactic.hygienic true in
theorem ru_cons (h : Rx B k sc v y st (Kt B k sc xs Q)) : Ru B k sc v (y :: xs) st Q := fun A env s W R O => wpAny_execs_cons (wpAny_mono (h A env s W R O) (fun fl s₁ ⟨f, v₁, st₁, W₁, O₁, S₁, r, q⟩ => by
  cases r with
  | next => exact wpAny_mono (q A env s₁ W₁ R O₁) (fun fl s₂ E => E.from S₁) fun z_ z_ e => e
  | brk => exact ⟨_, _, _, W₁, O₁, S₁, .brk, q⟩
  | cont => exact ⟨_, _, _, W₁, O₁, S₁, .cont, q⟩
  | ret r => exact ⟨_, _, _, W₁, O₁, S₁, .ret r, q⟩) fun z_ z_ e => e)
theorem ru_mono (h : Ru B k sc v xs st Q') (hq : ∀ f v st, Q' f v st → Q f v st) : Ru B k sc v xs st Q := fun A env s W R O => wpAny_mono (h A env s W R O) (fun fl s₁ ⟨f, v₁, st₁, W₁, O₁, S₁, r, q⟩ => ⟨f, v₁, st₁, W₁, O₁, S₁, r, hq _ _ _ q⟩) fun z_ z_ e => e
set_option tactic.hygienic true in
theorem rx_expr (h : Ev B k sc v e st d st') (hn : ∀ env t line, swapsWith e t line env = pure false) (hq : Q .next v st') : Rx B k sc v (.Expr e pos) st Q := fun A env s W R O =>
  wpAny_Expr_any ((h A env s W R O).next O fun u s₁ W₁ O₁ S₁ r₁ => ⟨_, _, _, W₁, O₁, S₁.own, .next, hq⟩) (by unfold interactive; rw [O.e.kind]; rfl) (hn env _ _)
theorem rx_break (hq : Q .brk v st) : Rx B k sc v (.Break pos) st Q := fun A env s W R O => wpAny_Break ⟨_, _, _, W, O, .refl, .brk, hq⟩
set_option tactic.hygienic true in
theorem rx_ret (h : Ev B k sc v e st d st') (hq : Q (.ret d) v st') : Rx B k sc v (.Return (some e) pos) st Q := fun A env s W R O =>
  wpAny_Return_some ((h A env s W R O).next O fun u s₁ W₁ O₁ S₁ r₁ => ⟨_, _, _, W₁, O₁, S₁.own, .ret r₁, hq⟩)
set_option tactic.hygienic true in
theorem rx_set (hb : bound1 sc x = true) (h : Ev B k sc v e st d st') (hn : ∀ env t line, swapsWith e t line env = pure false) (hq : Q .next (setVar v x d) st') : Rx B k sc v (.Assign [.Name x p] e pos) st Q := fun A env s W R O =>
  wpAny_Assign_Name ((h A env s W R O).next O fun u s₁ W₁ O₁ S₁ r₁ => set_ok O₁ (bound1_of hb) r₁ fun s₂ O₂ S₂ => ⟨_, _, _, W₁, O₂, S₁.own.trans S₂, .next, hq⟩) (hn env _ _)
set_option tactic.hygienic true in
theorem rx_aug {i j : Int} (hb : bound1 sc x = true) (hv : varKind sc x = true) (hl : v.lookup x = some (.int i)) (h : Ev B k sc v e st (.int j) st') (hq : Q .next (setVar v x (.int (i + j))) st') : Rx B k sc v (.AugAssign (.Name x p) .Add e pos) st Q := fun A env s W R O => by
  obtain ⟨hk, h1, h2⟩ := varKind_of hv
  obtain ⟨u, r, hu⟩ := loadN_ok (M := model B.prog B.w) (A := A) O hk hl h2
  refine wpAny_AugAssign_Name (hu _ _ ((h A env s W R O).next O fun u₁ s₁ W₁ O₁ S₁ r₁ => ?_))
  obtain ⟨t, rfl⟩ := r.int'
  obtain ⟨t', rfl⟩ := VR.int' r₁
  refine wpAny_mono (iadd_int (Q := fun r s' => ∃ t tk, r = .int (i + j) t ∧ s' = { s₁ with toks := tk }) (E := NoE) ⟨_, _, rfl, rfl⟩) (fun r s₂ ⟨t, tk, hr, hs⟩ => ?_) fun z_ z_ e => e
  subst hr hs
  have S₂ : Step B Em s₁ W₁ st' { s₁ with toks := tk } W₁ st' := .keep (fun z_ z_ e => e) tk
  exact set_ok (O₁.step S₂ O₁.g) (bound1_of hb) (.int _ _) fun s₃ O₃ S₃ => ⟨_, _, _, W₁, O₃, (S₁.trans S₂).own.trans S₃, .next, hq⟩
set_option tactic.hygienic true in
theorem rx_if (h : Te B k sc v e st t st') (h1 : t = true → Ru B k sc v b1 st' Q) (h2 : t = false → Ru B k sc v b2 st' Q) : Rx B k sc v (.If e b1 b2 pos) st Q := fun A env s W R O =>
  wpAny_If ((h A env s W R O).next O fun c s₁ W₁ O₁ S₁ hc => by
    cases hc
    cases t with
    | true => exact wpAny_mono (h1 rfl A env s₁ W₁ R O₁) (fun fl s₂ E => E.from S₁.own) fun z_ z_ e => e
    | false => exact wpAny_mono (h2 rfl A env s₁ W₁ R O₁) (fun fl s₂ E => E.from S₁.own) fun z_ z_ e => e)
set_option tactic.hygienic true in
theorem rx_assert {m : Option Expr} (h : Te B k sc v e st true st') (hq : Q .next v st') : Rx B k sc v (.Assert e m pos) st Q := fun A env s W R O =>
  wpAny_Assert_holds ((h A env s W R O).next O fun c s₁ W₁ O₁ S₁ hc => ⟨hc, _, _, _, W₁, O₁, S₁.own, .next, hq⟩)

set_option tactic.hygienic true in
theorem rx_while (I : Nat → Vars → Sto → Prop) (n : Nat) (h0 : I n v st)
    (h : ∀ n v st, I n v st → ∃ t st', Te B k sc v e st t st' ∧ (t = false → Q .next v st') ∧ (t = true → Ru B k sc v b1 st' fun f v st => match f with | .next | .cont => ∃ m, m < n ∧ I m v st | .brk => Q .next v st | .ret d => Q (.ret d) v st)) :
    Rx B k sc v (.While e b1 [] pos) st Q := fun A env s W R O => by
  refine wpAny_While (codeAny_whileLoop (fun n s' => ∃ v₁ σ W', I n v₁ σ ∧ OK B env sc v₁ s' W' σ ∧ Step B (own env sc) s W st s' W' σ) ?_ n ⟨v, st, W, h0, O, .refl⟩)
  rintro n s' ⟨v₁, σ, W', hI, O', S'⟩
  obtain ⟨t, σ', ht, hf, hb⟩ := h n v₁ σ hI
  refine (ht A env s' W' R O').next O' fun c s₁ W₁ O₁ S₁ hc => ?_
  cases hc
  have S₂ := S'.trans (S₁.own)
  cases t with
  | false => exact wpAny_execs_nil ⟨_, _, _, W₁, O₁, S₂, .next, hf rfl⟩
  | true =>
    refine wpAny_mono (hb rfl A env s₁ W₁ R O₁) (fun fl s₂ ⟨f, v₂, σ₂, W₂, O₂, S₃, r, q⟩ => ?_) fun z_ z_ e => e.elim
    have S₄ := S₂.trans S₃
    cases r with
    | next => obtain ⟨m, hm, q⟩ := q; exact ⟨m, hm, v₂, σ₂, W₂, q, O₂, S₄⟩
    | cont => obtain ⟨m, hm, q⟩ := q; exact ⟨m, hm, v₂, σ₂, W₂, q, O₂, S₄⟩
    | brk => exact ⟨_, _, _, W₂, O₂, S₄, .next, q⟩
    | ret r => exact ⟨_, _, _, W₂, O₂, S₄, .ret r, q⟩

theorem asgL_ok {M : Model} {ts : List Expr} (h : AsgL sc ts ds v v') {us : List Value} {s : Shared} (O : OK B env sc v s W st) (r : VRs B.C W ds us) {Q : Unit → Shared → Prop} {E : Value → Shared → Prop} (hq : ∀ s', OK B env sc v' s' W st → Step B (own env sc) s W st s' W st → Q () s') :
    wpAny M A (assignInOrder ((assignEach ts env).map (·.2)) us) Q E s := by
  induction h generalizing us s with
  | nil v => cases r.nil'; exact wpAny_pure (hq s O .refl)
  | @cons x p ts d ds v v' hb h ih =>
    obtain ⟨u, us, a, r'⟩ := r.cons'
    show wpAny M A (do holding _ (assign (.Name x p) env _); assignInOrder _ _) Q E s
    exact wpAny_bind (wpAny_holding (wpAny_assign_Name (set_ok O (bound1_of hb) a fun s' O' S' => ih O' r' fun s'' O'' S'' => hq s'' O'' (S'.trans S''))))
theorem asgL_plain {ts : List Expr} (h : AsgL sc ts ds v v') : (assignEach ts env).findIdx? (·.1) = none ∧ (assignEach ts env).length = ds.length := by
  induction h with
  | nil v => exact ⟨rfl, rfl⟩
  | @cons x p ts d ds v v' hb h ih =>
    refine ⟨?_, congrArg (· + 1) ih.2⟩
    show List.findIdx? _ ((false, fun v => assign (.Name x p) env v) :: assignEach ts env) = _
    rw [List.findIdx?_cons]
    simp [ih.1]
theorem asg_ok {t : Expr} {u : Value} (hh : A.handled = none) (h : Asg sc t d v v') (O : OK B env sc v s W st) (r : VR B.C W d u) {Q : Unit → Shared → Prop} {E : Value → Shared → Prop} (hq : ∀ s', OK B env sc v' s' W st → Step B (own env sc) s W st s' W st → Q () s') :
    wpAny (model B.prog B.w) A (assign t env u) Q E s := by
  cases h with
  | name hb => exact wpAny_assign_Name (set_ok O (bound1_of hb) r hq)
  | tup h =>
    obtain ⟨c, vs, n, e, r', hl⟩ := r.tup'
    obtain ⟨p1, p2⟩ := asgL_plain (env := env) h
    refine wpAny_assign_Tuple hh (items := vs.toArray) ⟨_, O.g.hz _ _ e, rfl, n, rfl⟩ (by rw [p2, List.size_toArray, r'.length]) p1 fun h' hx => ?_
    have k : ∀ a o, s.heap.get? a = some o → h'.get? a = some o := fun a o q => hx a o (Nat.ne_of_lt (Heap.lt_size q)) q
    have S : Step B Em s W st { s with heap := h' } W st := .keep k s.toks
    exact asgL_ok h (O.step S (O.g.keep k)) r' fun s' O' S' => hq s' O' (S.own.trans S')

noncomputable def lockS (st : Sto) : Option Nat → Sto
  | none => st
  | some n => st.set n .dead
noncomputable def unlockS (st : Sto) (ds : List D) : Option Nat → Sto
  | none => st
  | some n => st.set n (.lst ds)
theorem Step.but' {h' : Heap} {tk : Nat} {wr : Addr → Prop} (S : Step B X s W st s₁ W₁ st₁) (k : ∀ b o, ¬ wr b → s₁.heap.get? b = some o → h'.get? b = some o) (hw : ∀ b, wr b → s.heap.get? b = none) : Step B X s W st { s₁ with heap := h', toks := tk } W₁ st₁ :=
  ⟨S.le, fun a o e => let q := S.kp a o e; have nw : ¬ wr a := fun w => (by rw [hw a w] at e; cases e); ⟨q.z, q.m, q.l, fun t p l => k a o nw (q.k t p l), let ⟨o', e'⟩ := q.e; ⟨o', k a o' nw e'⟩⟩, S.os, S.gens⟩
theorem Step.unlock {n : Nat} (x : Step B Em s W st s₁ W₁ st₁) {W₂ : Wd} (y : Step B X s₁ W₁ (st₁.set n .dead) s₂ W₂ st₂) (hl : st₁[n]? = some (.lst ds)) (ha : ∃ c, W₁.adr[n]? = some c) : Step B X s W st s₂ W₂ (st₂.set n (.lst ds)) := by
  refine ⟨x.le.trans y.le, fun a o e => ?_, y.os.trans x.os, y.gens.trans x.gens⟩
  have k := x.kp a o e
  obtain ⟨o', e'⟩ := k.e
  have q := y.kp a o' e'
  refine ⟨fun z => q.z (k.z z), fun m => k.m (q.m m), fun ⟨i, p, p'⟩ => k.l ?_, fun t p l => (y.kp a o (k.k t (fun c => c) l)).k t p fun l' => l (k.l (l'.set (.inl rfl))), q.e⟩
  by_cases c : i = n
  · subst c
    obtain ⟨b, hb⟩ := ha
    have := y.le.a _ _ hb
    rw [p] at this; cases this
    exact ⟨i, hb, by rw [hl]; nofun⟩
  · rw [List.getElem?_set_ne (Ne.symm c)] at p'
    exact (q.l ⟨i, p, p'⟩).set (.inl rfl)
structure Lp (B : Base) (env : Env) (sc : Scope) (St : Nat → Heap → Prop) (wr : List Addr) (s₁ : Shared) (W₁ : Wd) (st₁ : Sto) (i : Nat) (v : Vars) (s : Shared) (W : Wd) (st : Sto) : Prop where
  hst : St i s.heap
  ok : OK B env sc v s W st
  step : Step B (own env sc) s₁ W₁ st₁ s W st
  off : ∀ b ∈ wr, Off B s.heap W b
set_option tactic.hygienic true in
noncomputable def LpQ (I : Vars → Sto → Prop) (Q : Fl → Vars → Sto → Prop) : Fl → Vars → Sto → Prop
  | .next, v, st => I v st
  | .cont, v, st => I v st
  | .brk, v, st => Q .next v st
  | .ret d, v, st => Q (.ret d) v st
section loop
variable {pairs : Bool} {I : Addr} {wr fp : List Addr} {St : Nat → Heap → Prop} {i : Nat}
theorem Lp.move (L : Lp B env sc St wr s₁ W₁ st₁ i v s W st) (K : Wk B A pairs I wr fp ds St W₁) (hf : ∀ b ∈ fp, b ∈ wr ∨ ((∃ o, s₁.heap.get? b = some o) ∧ ¬ B.T b ∧ ¬ own env sc b ∧ ¬ Lv W₁ st₁ b)) (hw : ∀ b ∈ wr, ¬ X b) (hX : ∀ a o, X a → s₁.heap.get? a = some o → own env sc a)
    {s' : Shared} {W' : Wd} {st' : Sto} (O : OK B env sc v' s' W' st') (S : Step B X s W st s' W' st') : Lp B env sc St wr s₁ W₁ st₁ i v' s' W' st' := by
  have T := ((L.step.up (X' := fun a => own env sc a ∨ X a) fun z_ h => .inl h).trans (S.up fun z_ h => .inr h)).drop (X' := own env sc) fun a o h e => h.elim id fun m => hX a o m e
  refine ⟨K.frame i _ _ L.hst fun b m o e => ?_, O, T, fun b m => (L.off b m).step S⟩
  rcases hf b m with m | ⟨⟨o₁, e₁⟩, h1, h2, h3⟩
  · exact (L.off b m).kept S (hw b m) o e
  · have q1 := (L.step.kp b o₁ e₁).k h1 h2 h3
    have q2 := (T.kp b o₁ e₁).k h1 h2 h3
    rw [q1] at e; cases e; exact q2
theorem Lp.turn (L : Lp B env sc St wr s₁ W₁ st₁ i v s W st) (hw : ∀ b ∈ wr, s₁.heap.get? b = none) (hr : ∀ a, reach env a → a ∉ wr) {s' : Shared} {W' : Wd} (hst : St (i + 1) s'.heap) (G : Good B s'.heap W' st) (S : Step B (· ∈ wr) s W st s' W' st) : Lp B env sc St wr s₁ W₁ st₁ (i + 1) v s' W' st :=
  ⟨hst, ⟨G, L.ok.e, L.ok.f.step S hr⟩, ((L.step.up (X' := fun a => own env sc a ∨ a ∈ wr) fun z_ h => .inl h).trans (S.up fun z_ h => .inr h)).drop fun a o h e => h.elim id fun m => (by rw [hw a m] at e; cases e), fun b m => (L.off b m).step S⟩
theorem Lp.out (L : Lp B env sc St wr s₁ W₁ st₁ i v s W st) (hw : ∀ b ∈ wr, s₁.heap.get? b = none) (hr : ∀ a, reach env a → a ∉ wr) {h' : Heap} (tk : Nat) (hk : ∀ b o, b ∉ wr → s.heap.get? b = some o → h'.get? b = some o) :
    OK B env sc v { s with heap := h', toks := tk } W st ∧ Step B (own env sc) s₁ W₁ st₁ { s with heap := h', toks := tk } W st :=
  ⟨⟨L.ok.g.but (X := (· ∈ wr)) (fun b o e m => hk b o m e) fun b m => let f := L.off b m; ⟨f.z, f.m, f.t⟩, L.ok.e, ⟨L.ok.f.ns.up .refl fun o q => hk _ o (hr _ (.inl rfl)) q, fun y c k e => (L.ok.f.cl y c k e).up .refl fun o q => hk c o (hr c (.inr ⟨y, e⟩)) q,
    fun a r => let f := L.ok.f.off a r; ⟨f.z, f.m, f.t, let ⟨o, q⟩ := f.e; ⟨o, hk a o (hr a r) q⟩⟩⟩⟩, L.step.but' (tk := tk) (wr := (· ∈ wr)) hk hw⟩
end loop

theorem Step.grow (k : ∀ a o, s.heap.get? a = some o → s₁.heap.get? a = some o) (os : s₁.os = s.os) (gens : s₁.gens = s.gens) : Step B X s W st s₁ W st := ⟨.refl, fun a o e => ⟨id, id, id, fun z_ z_ z_ => k a o e, o, k a o e⟩, os, gens⟩
set_option tactic.hygienic true in
theorem rx_for {tg it : Expr} {orelse : List Stmt} (I : Nat → Vars → Sto → Prop) (hi : It B k sc v (isTuple tg) it st ds lk st₁) (h0 : I 0 v (lockS st₁ lk))
    (hb : ∀ i d v σ, ds[i]? = some d → I i v σ → ∃ v', Asg sc tg d v v' ∧ Ru B k sc v' b1 σ (LpQ (I (i + 1)) fun f v σ => Q f v (unlockS σ ds lk)))
    (he : ∀ v σ, I ds.length v σ → Ru B k sc v orelse σ fun f v σ => Q f v (unlockS σ ds lk)) : Rx B k sc v (.For tg it b1 orelse pos) st Q := fun A env s W R O => by
  refine wpAny_For (wpAny_mono (hi.run A env s W R O) (fun u s₁' h => wpAny_mono h (fun w s₂ h => ?_) fun z_ z_ e => e) fun z_ z_ e => e) (hi.fold env)
  obtain ⟨J, wr, fp, St, W₁, s₁, _, G₂, S₁, ⟨up, hos, hge⟩, K, hst, hwr, hfp, hlk⟩ := h
  have hw : ∀ b ∈ wr, s₁.heap.get? b = none := fun b m => (hwr b m).1
  have hr : ∀ a, reach env a → ∃ o, s₁.heap.get? a = some o := fun a r => ((O.f.off a r).step S₁).e
  have nr : ∀ a, reach env a → a ∉ wr := fun a r m => by obtain ⟨o, q⟩ := hr a r; rw [hw a m] at q; cases q
  have nw : ∀ b ∈ wr, ¬ own env sc b := fun b m c => nr b c.reach m
  have F₂ := (O.f.step S₁ fun z_ z_ x => x).step (Step.grow (X := Em) (st := st₁) up hos hge) fun z_ z_ x => x
  have O₂ : OK B env sc v s₂ W₁ (lockS st₁ lk) := ⟨by
    cases lk with
    | none => exact G₂
    | some n => exact G₂.lock (hlk n rfl).1, O.e, F₂⟩
  have oz : ∀ a, own env sc a → W₁.Z a = none ∧ a ∉ W₁.adr := fun a r => let f := F₂.off a r.reach; ⟨f.z, f.m⟩
  have hf : ∀ b ∈ fp, b ∈ wr ∨ ((∃ o, s₁.heap.get? b = some o) ∧ ¬ B.T b ∧ ¬ own env sc b ∧ ¬ Lv W₁ (lockS st₁ lk) b) := fun b m => (hfp b m).imp id fun ⟨hx, q⟩ => by
    rcases q with ⟨o, q⟩ | ⟨n, rfl, q⟩
    · exact ⟨hx, fun t => (by rw [(G₂.sepT b t).1] at q; cases q), fun c => (by rw [(oz b c).1] at q; cases q), fun ⟨j, l, _⟩ => by rw [G₂.sepA b (List.mem_of_getElem? l)] at q; cases q⟩
    · refine ⟨hx, fun t => (G₂.sepT b t).2 (List.mem_of_getElem? q), fun c => (oz b c).2 (List.mem_of_getElem? q), fun ⟨j, l, l'⟩ => l' ?_⟩
      cases G₂.inj _ _ _ l q
      exact List.getElem?_set_self (List.getElem?_eq_some_iff.mp (hlk _ rfl).1).1
  -- the way back
  have leave : ∀ {fl : Flow} {s' : Shared} {Q' : Fl → Vars → Sto → Prop} {f : Fl} {v' : Vars} {σ : Sto} {W' : Wd}, OK B env sc v' s' W' σ → Step B (own env sc) s₁ W₁ (lockS st₁ lk) s' W' σ → FlR B W' fl f → Q' f v' (unlockS σ ds lk) → Ends B env sc s W st Q' fl s' := fun {fl s' Q' f v' σ W'} O' S' r q => by
    cases lk with
    | none => exact ⟨_, _, _, _, O', S₁.own.trans S', r, q⟩
    | some n =>
      obtain ⟨hn, b, o, hb, eb⟩ := hlk n rfl
      obtain ⟨b', vs, m, h1, h2, h3, h4⟩ := G₂.lst hn
      rw [hb] at h1; cases h1
      have e2 := up _ _ eb
      rw [h2] at e2; cases e2
      have hA := List.mem_of_getElem? hb
      have e3 := (S'.kp b _ eb).k (fun t => (G₂.sepT b t).2 hA) (fun c => (oz b c).2 hA) fun ⟨j, l, l'⟩ => l' (by
        cases G₂.inj _ _ _ l hb
        exact List.getElem?_set_self (List.getElem?_eq_some_iff.mp hn).1)
      exact ⟨_, _, _, _, ⟨O'.g.put (S'.le.a _ _ hb) (fun z_ z_ z_ e => e) (.lst vs m e3 (h3.up S'.le) h4), O'.e, O'.f⟩, S₁.unlock S' hn ⟨b, hb⟩, r, q⟩
  refine codeAny_forLoop_any (fun n s' => ∃ i v₁ σ W', i ≤ ds.length ∧ n = ds.length + 1 - i ∧ I i v₁ σ ∧ Lp B env sc St wr s₁ W₁ (lockS st₁ lk) i v₁ s' W' σ) ?_ (ds.length + 1) ⟨0, v, _, W₁, Nat.zero_le _, rfl, h0, hst, O₂, .grow up hos hge, fun b m => (hwr b m).2⟩
  rintro n s' ⟨i, v₁, σ, W', hi, rfl, hI, L⟩
  have x := L.step.le
  by_cases hlt : i < ds.length
  · have hd : ds[i]? = some ds[i] := List.getElem?_eq_getElem hlt
    obtain ⟨v', ha, hrun⟩ := hb i _ v₁ σ hd hI
    refine wpAny_mono (K.item i _ s' W' σ (fun u s₂' => wpAny (model B.prog B.w) A (assign tg env u) (fun z_ s₃ => wpAny (model B.prog B.w) A (execs b1 env) (fun fl s₄ => match fl with
        | .next | .cont => ∃ m, m < ds.length + 1 - i ∧ ∃ i v₁ σ W', i ≤ ds.length ∧ m = ds.length + 1 - i ∧ I i v₁ σ ∧ Lp B env sc St wr s₁ W₁ (lockS st₁ lk) i v₁ s₄ W' σ
        | .brk => Ends B env sc s W st Q .next s₄
        | .ret u => Ends B env sc s W st Q (.ret u) s₄) NoE s₃) NoE s₂') NoE tg id hd L.hst x L.ok.g L.off fun u s₂' W₂ hst₂ G₂' S₂ ru => ?_) (fun r s₁' h => ?_) fun z_ z_ e => e.elim
    · have L₂ := L.turn hw nr hst₂ G₂' S₂
      refine asg_ok R.h ha L₂.ok ru fun s₃ O₃ S₃ => ?_
      have L₃ := L₂.move K hf nw (fun z_ z_ c z_ => c) O₃ S₃
      refine wpAny_mono (hrun A env s₃ W₂ R O₃) (fun fl s₄ ⟨f, v₄, σ₄, W₄, O₄, S₄, r₄, q⟩ => ?_) fun z_ z_ e => e
      have L₄ := L₃.move K hf nw (fun z_ z_ c z_ => c) O₄ S₄
      cases r₄ with
      | next => exact ⟨_, Nat.sub_lt_sub_left (Nat.lt_succ_of_lt hlt) (Nat.lt_succ_self i), i + 1, v₄, σ₄, W₄, hlt, rfl, q, L₄⟩
      | cont => exact ⟨_, Nat.sub_lt_sub_left (Nat.lt_succ_of_lt hlt) (Nat.lt_succ_self i), i + 1, v₄, σ₄, W₄, hlt, rfl, q, L₄⟩
      | brk => exact leave O₄ L₄.step .next q
      | ret r => exact leave O₄ L₄.step (.ret r) q
    · cases r with
      | none => exact h.elim
      | some u =>
        refine wpAny_mono h (fun z_ s₂' q => wpAny_mono q (fun z_ s₃ q' => wpAny_mono q' (fun fl s₄ x => ?_) fun z_ z_ e => e.elim) fun z_ z_ e => e.elim) fun z_ z_ e => e.elim
        cases fl <;> exact x
  · have hi' : i = ds.length := by omega
    subst hi'
    refine wpAny_mono (K.done s' (fun r s₁ => r = none ∧ ∃ h' tk', s₁ = { s' with heap := h', toks := tk' } ∧ ∀ b o, b ∉ wr → s'.heap.get? b = some o → h'.get? b = some o) NoE L.hst fun h' tk' hkk => ⟨rfl, h', tk', rfl, hkk⟩) (fun r s₁' ⟨hr', h', tk', hs, hkk⟩ => ?_) fun z_ z_ e => e.elim
    subst hr' hs
    obtain ⟨O₃, S₃⟩ := L.out hw nr tk' hkk
    refine wpAny_mono (he v₁ σ hI A env _ W' R O₃) (fun fl s₄ ⟨f, v₄, σ₄, W₄, O₄, S₄, r₄, q⟩ => ?_) fun z_ z_ e => e.elim
    exact leave O₄ (S₃.trans S₄) r₄ q
end
end Mine
namespace Mine
open PySem PySem.W PyProof.Rows PySem.Calls

noncomputable def closL (env : Env) : List (Str × NameKind) → List (Str × Addr) → List (Str × Addr)
  | [], acc => acc
  | (n, k) :: r, acc => closL env r (if k == .free then (match env.cells.lookup n with
    | some c => (n, c) :: acc
    | none => acc) else acc)

theorem closureFor_eq {env : Env} : ∀ (names : List (Str × NameKind)) (acc : List (Str × Addr)), (∀ p ∈ names, p.2 = .free → ∃ c, env.cells.lookup p.1 = some c) →
    (forIn names acc (fun (x : Str × NameKind) (cs : List (Str × Addr)) => (match x with
      | (name, kind) => if (kind == .free) = true then do
          let a ← cellOf env name
          pure (ForInStep.yield ((name, a) :: cs))
        else pure (ForInStep.yield cs) : Sem (ForInStep (List (Str × Addr))))) : Sem (List (Str × Addr))) = pure (closL env names acc)
  | [], acc, _ => rfl
  | (n, k) :: r, acc, h => by
    rw [List.forIn_cons]
    have ih := fun acc => closureFor_eq r acc fun p hp => h p (.tail _ hp)
    cases hk : k == NameKind.free with
    | false =>
      simp only [hk, Bool.false_eq_true, if_false, pure_bind]
      rw [ih]
      simp only [closL, hk, Bool.false_eq_true, if_false]
    | true =>
      obtain ⟨c, hc⟩ := h (n, k) (.head _) (eq_of_beq hk)
      have hcell : cellOf env n = pure c := by unfold cellOf; rw [hc]
      simp only [hk, if_true, hcell, pure_bind]
      rw [ih]
      simp only [closL, hk, if_true, hc]

theorem closure_ok {env : Env} {csc : Scope} (h : ∀ p ∈ csc.names, p.2 = .free → ∃ c, env.cells.lookup p.1 = some c) : closureFor csc env = pure (closL env csc.names []) := by
  have := closureFor_eq (env := env) csc.names [] h
  unfold closureFor
  simp only [bind_pure]
  first
    | exact this
    | (rw [← this]; congr 1; funext x cs; obtain ⟨n, k⟩ := x; cases k <;> rfl)

set_option tactic.hygienic true in
theorem closL_mem {env : Env} : ∀ {names : List (Str × NameKind)} {acc : List (Str × Addr)} {x : Str} {c : Addr}, (x, c) ∈ closL env names acc → (x, c) ∈ acc ∨ ((x, NameKind.free) ∈ names ∧ env.cells.lookup x = some c)
  | [], acc, x, c, h => .inl h
  | (n, k) :: r, acc, x, c, h => by
    simp only [closL] at h
    rcases closL_mem h with h | ⟨h1, h2⟩
    · cases hk : k == NameKind.free with
      | false => simp only [hk, Bool.false_eq_true, if_false] at h; exact .inl h
      | true =>
        simp only [hk, if_true] at h
        split at h
        · rename_i c' hc
          rcases List.mem_cons.mp h with e | h
          · cases e
            have := eq_of_beq hk
            subst this
            exact .inr ⟨.head _, hc⟩
          · exact .inl h
        · exact .inl h
    · exact .inr ⟨.tail _ h1, h2⟩
theorem closL_some {env : Env} : ∀ {names : List (Str × NameKind)} {acc : List (Str × Addr)} {x : Str}, ((∃ c, acc.lookup x = some c) ∨ ((x, NameKind.free) ∈ names ∧ ∃ c, env.cells.lookup x = some c)) → ∃ c, (closL env names acc).lookup x = some c
  | [], acc, x, h => by
    rcases h with h | ⟨h, _⟩
    · exact h
    · cases h
  | (n, k) :: r, acc, x, h => by
    simp only [closL]
    refine closL_some ?_
    rcases h with ⟨c, h⟩ | ⟨h, c, hc⟩
    · left
      split
      · split
        · rw [List.lookup_cons]
          split
          · exact ⟨_, rfl⟩
          · exact ⟨c, h⟩
        · exact ⟨c, h⟩
      · exact ⟨c, h⟩
    · rcases List.mem_cons.mp h with e | h
      · cases e
        left
        simp only [beq_self_eq_true, if_true, hc]
        exact ⟨c, by rw [List.lookup_cons, beq_self_eq_true]⟩
      · exact .inr ⟨h, c, hc⟩

theorem cellsFrom_app : ∀ (names : List (Str × NameKind)) (n : Nat) (acc : List (Str × Addr)), cellsFrom n names acc = cellsFrom n names [] ++ acc
  | [], n, acc => by simp [cellsFrom]
  | (x, k) :: r, n, acc => by
    unfold cellsFrom
    split
    · rw [cellsFrom_app r (n + 1) ((x, n) :: acc), cellsFrom_app r (n + 1) [(x, n)]]; simp
    · exact cellsFrom_app r n acc
set_option tactic.hygienic true in
theorem cellsFrom_mem : ∀ {names : List (Str × NameKind)} {n : Nat} {x : Str} {c : Addr}, (x, c) ∈ cellsFrom n names [] → (x, NameKind.cell) ∈ names
  | [], n, x, c, h => by simp [cellsFrom] at h
  | (y, k) :: r, n, x, c, h => by
    unfold cellsFrom at h
    split at h
    · rename_i hk
      rw [cellsFrom_app] at h
      rcases List.mem_append.mp h with h | h
      · exact .tail _ (cellsFrom_mem h)
      · cases List.mem_singleton.mp h
        rw [eq_of_beq hk]
        exact .head _
    · exact .tail _ (cellsFrom_mem h)
set_option tactic.hygienic true in
theorem cellsFrom_some : ∀ {names : List (Str × NameKind)} {n : Nat} {x : Str}, (x, NameKind.cell) ∈ names → ∃ c, (cellsFrom n names []).lookup x = some c
  | [], n, x, h => by cases h
  | (y, k) :: r, n, x, h => by
    have look : ∀ {l m : List (Str × Addr)} {x : Str} {c : Addr}, l.lookup x = some c → (l ++ m).lookup x = some c := by
      intro l m x c h
      induction l with
      | nil => cases h
      | cons p l ih =>
        rw [List.cons_append, List.lookup_cons]
        rw [List.lookup_cons] at h
        split <;> rename_i q <;> rw [q] at h
        · exact h
        · exact ih h
    have lookR : ∀ {l m : List (Str × Addr)} {x : Str} {c : Addr}, m.lookup x = some c → ∃ c', (l ++ m).lookup x = some c' := by
      intro l m x c h
      induction l with
      | nil => exact ⟨c, h⟩
      | cons p l ih =>
        rw [List.cons_append, List.lookup_cons]
        split
        · exact ⟨_, rfl⟩
        · exact ih
    unfold cellsFrom
    rcases List.mem_cons.mp h with e | h
    · cases e
      rw [if_pos (by decide), cellsFrom_app]
      exact lookR (c := n) (by rw [List.lookup_cons, beq_self_eq_true])
    · split
      · obtain ⟨c, hc⟩ := cellsFrom_some (n := n + 1) h
        exact ⟨c, by rw [cellsFrom_app]; exact look hc⟩
      · exact cellsFrom_some h

noncomputable def compEnv' (csc : Scope) (env : Env) (L : Addr) : Env :=
  { scope := csc, locals := L, globals := env.globals, cells := cellsFrom (L + 1) csc.names (closL env csc.names []), qual := env.qual, func := none, code := env.code, frame := env.frame, builtins := env.builtins }

theorem newEnv_ok {M : Model} {A : Around} {E : Value → Shared → Prop} {s : Shared} {csc : Scope} {env : Env} {Q : Env → Shared → Prop}
    (h : Q (compEnv' csc env s.heap.objs.size) { s with heap := pushCells (s.heap.push { cls := .type "dict", data := .dict #[] }) csc.names }) :
    wpAny M A (newFunctionEnv csc env.globals (closL env csc.names []) [] env.qual none .none (some env)) Q E s := by
  simp only [newFunctionEnv, Option.isSome_some, if_true]
  refine wpAny_bind (wpAny_alloc ?_)
  refine wpAny_bind (wpAny_layCells _ (fun name kind cells => by cases hkc : kind == NameKind.cell <;> simp [hkc]) _ _ _ _ ?_)
  rw [show ({ s with heap := s.heap.push { cls := .type "dict", data := .dict #[] } } : Shared).heap.objs.size = s.heap.objs.size + 1 from Heap.size_push ..]
  exact wpAny_bind (wpAny_pure (wpAny_pure h))
theorem relabel_lookup {csc : Scope} {env : Env} {x : Str} : (relabel csc env).names.lookup x = (csc.names.lookup x).map fun k => if (k == NameKind.free && env.scope.kind == .function && env.kindOf x == some .cell) then NameKind.cell else k := by
  unfold relabel
  show List.lookup x (csc.names.map _) = _
  induction csc.names with
  | nil => rfl
  | cons p r ih =>
    obtain ⟨n, k⟩ := p
    simp only [List.map_cons]
    cases hx : x == n with
    | true =>
      have := eq_of_beq hx
      subst this
      by_cases hc : (k == NameKind.free && env.scope.kind == .function && env.kindOf x == some .cell) = true
      · simp only [if_pos hc, List.lookup_cons, beq_self_eq_true, Option.map_some]
      · simp only [if_neg hc, List.lookup_cons, beq_self_eq_true, Option.map_some]
    | false =>
      by_cases hc : (k == NameKind.free && env.scope.kind == .function && env.kindOf n == some .cell) = true
      · simp only [if_pos hc, List.lookup_cons, hx]; exact ih
      · simp only [if_neg hc, List.lookup_cons, hx]; exact ih

end Mine
namespace Mine
open PySem PySem.W PyProof.Rows PySem.Calls

noncomputable def compVars (sc : Scope) (v : Vars) : Vars := v.filter fun p => kindOf sc p.1 == some .free
noncomputable def nameOk (sc csc : Scope) (p : Str × NameKind) : Bool := match p.2 with
  | .local => csc.names.lookup p.1 == some .local
  | .cell => csc.names.lookup p.1 == some .cell
  | .free => csc.names.lookup p.1 == some .free && (kindOf sc p.1 == some .cell || kindOf sc p.1 == some .free)
  | _ => true
noncomputable def compOk (sc csc : Scope) : Bool := (match csc.kind with | .function => true | _ => false) && (kindOf csc "QUESTION_MARK").isNone && csc.names.all (nameOk sc csc)
structure CompScope (sc csc : Scope) : Prop where
  kind : csc.kind = .function
  q : (kindOf csc "QUESTION_MARK").isSome = false
  loc : ∀ p ∈ csc.names, p.2 = .local → csc.names.lookup p.1 = some .local
  cell : ∀ p ∈ csc.names, p.2 = .cell → csc.names.lookup p.1 = some .cell
  free : ∀ p ∈ csc.names, p.2 = .free → csc.names.lookup p.1 = some .free ∧ (kindOf sc p.1 = some .cell ∨ kindOf sc p.1 = some .free)
theorem compOk_of {sc csc : Scope} (h : compOk sc csc = true) : CompScope sc csc := by
  unfold compOk at h
  rw [Bool.and_eq_true, Bool.and_eq_true] at h
  obtain ⟨⟨h1, hq⟩, h2⟩ := h
  have h2 := List.all_eq_true.mp h2
  refine ⟨?_, ?_, fun p hp hk => ?_, fun p hp hk => ?_, fun p hp hk => ?_⟩
  · cases hk : csc.kind <;> rw [hk] at h1 <;> first | rfl | cases h1
  · cases hk : kindOf csc "QUESTION_MARK" <;> rw [hk] at hq <;> first | rfl | cases hq
  all_goals
    have := h2 p hp
    unfold nameOk at this
    rw [hk] at this
  · exact eq_of_beq this
  · exact eq_of_beq this
  · have := Bool.and_eq_true_iff.mp this
    exact ⟨eq_of_beq this.1, (Bool.or_eq_true_iff.mp this.2).imp eq_of_beq eq_of_beq⟩
set_option tactic.hygienic true in
theorem compVars_lookup {csc : Scope} {v : Vars} {x : Str} {d : D} (h : (compVars csc v).lookup x = some d) : kindOf csc x = some .free ∧ v.lookup x = some d := by
  unfold compVars at h
  induction v with
  | nil => cases h
  | cons p r ih =>
    rw [List.filter_cons] at h
    rw [List.lookup_cons]
    split at h
    · rename_i hp
      rw [List.lookup_cons] at h
      cases hx : x == p.1 with
      | true =>
        rw [hx] at h
        cases h
        have := eq_of_beq hx
        subst this
        exact ⟨eq_of_beq hp, rfl⟩
      | false => rw [hx] at h; exact ih h
    · rename_i hp
      cases hx : x == p.1 with
      | true =>
        have := eq_of_beq hx
        subst this
        have := (ih h).1
        rw [this] at hp
        exact absurd rfl hp
      | false => exact ih h
set_option tactic.hygienic true in
theorem lk_app {l m : List (Str × Addr)} {x : Str} {c : Addr} (h : l.lookup x = some c) : (l ++ m).lookup x = some c := by
  induction l with
  | nil => cases h
  | cons p l ih =>
    rw [List.cons_append, List.lookup_cons]
    rw [List.lookup_cons] at h
    split <;> rename_i q <;> rw [q] at h
    · exact h
    · exact ih h
set_option tactic.hygienic true in
theorem lk_app' {l m : List (Str × Addr)} {x : Str} {c : Addr} (h : m.lookup x = some c) : ∃ c', (l ++ m).lookup x = some c' := by
  cases e : l.lookup x with
  | some c' => exact ⟨c', lk_app e⟩
  | none =>
    refine ⟨c, ?_⟩
    induction l with
    | nil => exact h
    | cons p l ih =>
      rw [List.lookup_cons] at e
      rw [List.cons_append, List.lookup_cons]
      split <;> rename_i q <;> rw [q] at e
      · cases e
      · exact ih e

section
variable {B : Base} {k : Nat} {A : Around} {X : Addr → Prop} {env : Env} {sc csc : Scope} {v v' : Vars} {s s₁ s₂ : Shared} {W W₁ : Wd} {st st₁ st₂ st' : Sto} {a d : D} {ds out : List D} {e elt it tg : Expr} {p pos spos : Pos} {y : Str} {ifs : List Expr} {Q : Fl → Vars → Sto → Prop} {t : Bool} {lk : Option Nat} {h : Heap}
noncomputable def cenvOf (csc : Scope) (env : Env) (L : Addr) : Env := { compEnv' csc env L with scope := relabel csc env }
theorem cell_split (C : CompScope sc csc) {L : Addr} {x : Str} {c : Addr} (e : (cenvOf csc env L).cells.lookup x = some c) : ((x, c) ∈ cellsFrom (L + 1) csc.names [] ∧ kindOf csc x = some .cell) ∨ (env.cells.lookup x = some c ∧ kindOf csc x = some .free) := by
  have hcells : (cenvOf csc env L).cells = cellsFrom (L + 1) csc.names [] ++ closL env csc.names [] := cellsFrom_app _ _ _
  rw [hcells] at e
  rcases List.mem_append.mp (mem_of_lookup e) with hm | hm
  · exact .inl ⟨hm, C.cell _ (cellsFrom_mem hm) rfl⟩
  · rcases closL_mem hm with hm | ⟨h1, h2⟩
    · cases hm
    · exact .inr ⟨h2, (C.free _ h1 rfl).1⟩
theorem comp_frame (C : CompScope sc csc) (O : OK B env sc v s W st) : OK B (cenvOf csc env s.heap.objs.size) csc (compVars csc v) { s with heap := pushCells (s.heap.push { cls := .type "dict", data := .dict #[] }) csc.names } W st ∧
    (∀ a, reach (cenvOf csc env s.heap.objs.size) a → s.heap.get? a = none ∨ reach env a) ∧ ∀ a, own (cenvOf csc env s.heap.objs.size) csc a → s.heap.get? a = none := by
  have up : ∀ a o, s.heap.get? a = some o → (pushCells (s.heap.push { cls := .type "dict", data := .dict #[] }) csc.names).get? a = some o := fun a o e => pushCells_keeps _ _ a o (Heap.get?_push_of_some _ e)
  have ok := cellsFrom_ok csc.names (s.heap.push { cls := .type "dict", data := .dict #[] }) (s.heap.objs.size + 1) [] ⟨fun z_ z_ hm => (nomatch hm), List.Pairwise.nil⟩ (by rw [Heap.size_push]; exact Nat.le_refl _)
  rw [Heap.size_push] at ok
  have none_of : ∀ {a : Addr}, s.heap.objs.size ≤ a → s.heap.get? a = none := fun {a} ha => Heap.get?_none_of_le ha
  have new : ∀ {x : Str} {c : Addr}, (x, c) ∈ cellsFrom (s.heap.objs.size + 1) csc.names [] → s.heap.objs.size < c := fun hm => (ok.empty _ _ hm).2
  have old : ∀ {x : Str} {c : Addr}, env.cells.lookup x = some c → c < s.heap.objs.size := fun e => let ⟨o, ho⟩ := (O.f.off _ (.inr ⟨_, e⟩)).e; Heap.lt_size ho
  have hcells : (cenvOf csc env s.heap.objs.size).cells = cellsFrom (s.heap.objs.size + 1) csc.names [] ++ closL env csc.names [] := cellsFrom_app _ _ _
  have hk : ∀ {x kd}, kindOf csc x = some kd → (relabel csc env).names.lookup x = some (if (kd == NameKind.free && env.scope.kind == .function && env.kindOf x == some .cell) then NameKind.cell else kd) := fun {x kd} q => by rw [relabel_lookup, show csc.names.lookup x = _ from q]; rfl
  have ns := (Heap.Ns.new s.heap (.type "dict")).keeps (pushCells_keeps csc.names (s.heap.push { cls := .type "dict", data := .dict #[] }))
  have reach_new : ∀ a, reach (cenvOf csc env s.heap.objs.size) a → s.heap.get? a = none ∨ reach env a := fun a r => by
    rcases r with rfl | ⟨x, e⟩
    · exact .inl (none_of (Nat.le_refl _))
    · rcases cell_split C e with ⟨hm, _⟩ | ⟨e', _⟩
      · exact .inl (none_of (Nat.le_of_lt (new hm)))
      · exact .inr (.inr ⟨x, e'⟩)
  refine ⟨⟨O.g.keep up, ⟨C.kind, O.e.glob, O.e.blt, fun q => (by rw [C.q] at q; cases q), fun x q => hk q, fun x q => hk q, fun x q => ?_, fun x q => hk q, fun x q => ?_, fun x c e => ?_, fun x z c e1 e2 => ?_⟩, ⟨⟨fun z_ => none, ns, fun x d q hl => ?_⟩, fun x c q e => ?_, fun a r => ?_⟩⟩, reach_new, fun a o => ?_⟩
  · have := hk q
    by_cases c : (NameKind.free == NameKind.free && env.scope.kind == .function && env.kindOf x == some .cell) = true
    · rw [if_pos c] at this; exact .inr this
    · rw [if_neg c] at this; exact .inl this
  · rw [hcells]
    rcases q with q | q
    · obtain ⟨c, hc⟩ := cellsFrom_some (n := s.heap.objs.size + 1) (mem_of_lookup q)
      exact ⟨c, lk_app hc⟩
    · obtain ⟨c, hc⟩ := O.e.has x (C.free _ (mem_of_lookup q) rfl).2
      obtain ⟨c', hc'⟩ := closL_some (env := env) (names := csc.names) (acc := []) (x := x) (.inr ⟨mem_of_lookup q, c, hc⟩)
      exact lk_app' hc'
  · rcases cell_split C e with ⟨hm, _⟩ | ⟨e', _⟩
    · exact Nat.ne_of_gt (new hm)
    · exact Nat.ne_of_lt (old e')
  · rcases cell_split C e1 with ⟨h1, _⟩ | ⟨h1, _⟩ <;> rcases cell_split C e2 with ⟨h2, _⟩ | ⟨h2, _⟩
    · exact name_of_addr ok.apart h1 h2
    · exact absurd (Nat.lt_trans (old h2) (new h1)) (Nat.lt_irrefl _)
    · exact absurd (Nat.lt_trans (old h1) (new h2)) (Nat.lt_irrefl _)
    · exact O.e.cinj x z c h1 h2
  · have := (compVars_lookup hl).1
    rw [q] at this; cases this
  · rcases cell_split C e with ⟨hm, q'⟩ | ⟨e', q'⟩
    · refine ⟨none, (ok.empty x c hm).1, fun d hl => ?_⟩
      have := (compVars_lookup hl).1
      rw [q'] at this; cases this
    · obtain ⟨ov, h1, h2⟩ := O.f.cl x c (C.free _ (mem_of_lookup q') rfl).2 e'
      obtain ⟨o, h3, h4⟩ := h1
      exact ⟨ov, ⟨o, up _ _ h3, h4⟩, fun d hl => h2 d (compVars_lookup hl).2⟩
  · rcases reach_new a r with q | q
    · have f := O.g.fresh q
      refine ⟨f.1, f.2.1, f.2.2, ?_⟩
      rcases r with rfl | ⟨x, e⟩
      · exact ⟨_, ns.choose_spec.choose_spec.choose_spec.1⟩
      · rcases cell_split C e with ⟨hm, _⟩ | ⟨e', _⟩
        · obtain ⟨o, ho, _⟩ := (ok.empty x a hm).1; exact ⟨o, ho⟩
        · rw [none_of] at q
          · obtain ⟨o, ho⟩ := (O.f.off a (.inr ⟨x, e'⟩)).e
            exact ⟨o, up _ _ ho⟩
          · exact Nat.le_of_not_lt fun c => by
              obtain ⟨o, ho⟩ := (O.f.off a (.inr ⟨x, e'⟩)).e
              rw [ho] at q; cases q
    · let f := O.f.off a q
      exact ⟨f.z, f.m, f.t, let ⟨o, q⟩ := f.e; ⟨o, up _ _ q⟩⟩
  · rcases o with rfl | ⟨x, q, e⟩
    · exact none_of (Nat.le_refl _)
    · rcases cell_split C e with ⟨hm, _⟩ | ⟨_, q'⟩
      · exact none_of (Nat.le_of_lt (new hm))
      · rw [q] at q'; cases q'
end
end Mine
namespace Mine
open PySem PySem.W PyProof.Rows PySem.Calls

set_option tactic.hygienic true in
theorem compTurn_last {elt target iter : Expr} {ifs : List Expr} {gens : List Comprehension} {scope : Scope} {pos : Pos} {d : Nat} {it acc : Value} {env : Env} (hg : gens[d]? = some ⟨target, iter, ifs, 0⟩) (h1 : gens[d + 1]? = none) :
    compTurn (.ListComp elt gens scope pos) d it acc env = (do
      standAt iter.pos
      match ← pyNext it with
      | none => pure (.done .next)
      | some v =>
        letOwnedTupleGo target it v
        assign target env v
        let mut ok := true
        for c in ifs do
          if ok then ok ← isTrue c env (eval c env)
        if ok then
          (do let _ ← call (.builtin "list.append") [acc, ← eval elt env])
        again (.compLoop (.ListComp elt gens scope pos) d it acc env)) := by
  unfold compTurn
  simp only [hg, h1]
  rfl
set_option tactic.hygienic true in
theorem compTurn_more {elt target iter target' iter' : Expr} {ifs ifs' : List Expr} {gens : List Comprehension} {scope : Scope} {pos : Pos} {d : Nat} {it acc : Value} {env : Env} (hg : gens[d]? = some ⟨target, iter, ifs, 0⟩) (h1 : gens[d + 1]? = some ⟨target', iter', ifs', 0⟩) :
    compTurn (.ListComp elt gens scope pos) d it acc env = (do
      standAt iter.pos
      match ← pyNext it with
      | none => pure (.done .next)
      | some v =>
        letOwnedTupleGo target it v
        assign target env v
        let mut ok := true
        for c in ifs do
          if ok then ok ← isTrue c env (eval c env)
        if ok then
          let x ← eval iter' env
          standAt iter'.pos
          let x ← foldedSetIterable iter' env x
          let _ ← runOwn (.compStart (.ListComp elt gens scope pos) (d + 1) (← holding [x] (pyIter x)) acc env) env
        again (.compLoop (.ListComp elt gens scope pos) d it acc env)) := by
  unfold compTurn
  simp only [hg, h1]
  rfl
noncomputable def tailC (elt : Expr) (gens : List Comprehension) (scope : Scope) (pos : Pos) (d : Nat) (acc : Value) (env : Env) : Sem Unit :=
  match gens[d + 1]? with
  | some g => do
    let x ← eval g.iter env
    standAt g.iter.pos
    let x ← foldedSetIterable g.iter env x
    let _ ← runOwn (.compStart (.ListComp elt gens scope pos) (d + 1) (← holding [x] (pyIter x)) acc env) env
  | none => do let _ ← call (.builtin "list.append") [acc, ← eval elt env]
noncomputable def plainG (gens : List Comprehension) : Bool := gens.all fun g => g.is_async == 0
theorem plain_at {gens : List Comprehension} (h : plainG gens = true) {d : Nat} {g : Comprehension} (e : gens[d]? = some g) : g.is_async = 0 := eq_of_beq (List.all_eq_true.mp h g (List.mem_of_getElem? e))
set_option tactic.hygienic true in
theorem compTurn_at {elt target iter : Expr} {ifs : List Expr} {gens : List Comprehension} {scope : Scope} {pos : Pos} {d : Nat} {it acc : Value} {env : Env} (hg : gens[d]? = some ⟨target, iter, ifs, 0⟩) (hp : plainG gens = true) :
    compTurn (.ListComp elt gens scope pos) d it acc env = (do
      standAt iter.pos
      match ← pyNext it with
      | none => pure (.done .next)
      | some v =>
        letOwnedTupleGo target it v
        assign target env v
        let ok ← forIn ifs true fun c r => if r = true then do let ok ← isTrue c env (eval c env); pure (ForInStep.yield ok) else pure (ForInStep.yield r)
        if ok = true then tailC elt gens scope pos d acc env >>= fun z_ => again (.compLoop (.ListComp elt gens scope pos) d it acc env)
        else again (.compLoop (.ListComp elt gens scope pos) d it acc env)) := by
  cases h1 : gens[d + 1]? with
  | none =>
    rw [compTurn_last hg h1]
    unfold tailC
    simp only [h1]
  | some g =>
    obtain ⟨tg, it', ifs', a⟩ := g
    have : a = 0 := plain_at hp h1
    subst this
    rw [compTurn_more hg h1]
    unfold tailC
    simp only [h1, bind_assoc, pure_bind]
theorem codeAny_compStart_at {prog : Program} {w : World} {A : Around} {R : Result → Shared → Prop} {s : Shared} {elt target iter : Expr} {ifs : List Expr} {gens : List Comprehension} {scope : Scope} {pos : Pos} {d : Nat} {it acc : Value} {env : Env} (hg : gens[d]? = some ⟨target, iter, ifs, 0⟩)
    (h0 : codeAny (model prog w) A (.compLoop (.ListComp elt gens scope pos) d it acc env) R s)
    (h : wpAny (model prog w) A (pyIter it) (fun it' s' => codeAny (model prog w) A (.compLoop (.ListComp elt gens scope pos) d it' acc env) R s') (notedBy (model prog w) A env fun x s' => R (.error x) s') s) :
    codeAny (model prog w) A (.compStart (.ListComp elt gens scope pos) d it acc env) R s := by
  refine codeAny_of_tree ?_
  show wpAny _ _ ((compStart (.ListComp elt gens scope pos) d it acc env).onRaise (fun x => do noteFrame x env; standAt theWindowsPlace)) _ _ s
  refine wpAny_notedAt ?_
  unfold compStart
  rw [show (clausesOf (.ListComp elt gens scope pos))[d]? = some ⟨target, iter, ifs, 0⟩ from hg]
  show wpAny _ _ (ask >>= _) _ _ s
  refine wpAny_bind (wpAny_askSetting (wpAny_ite ?_))
  split
  · first
      | exact wpAny_bind (wpAny_pure (wpAny_pure (And.intro rfl h0)))
      | exact wpAny_pure (And.intro rfl h0)
  · first
      | exact wpAny_bind (wpAny_rule (wpAny_bind (wpAny_standAt (wpAny_bind (wpAny_mono h (fun it' s' h' => wpAny_pure (And.intro rfl h')) fun z_ z_ x => x)))))
      | (refine wpAny_bind (wpAny_rule ?_); show wpAny _ _ (standAt iter.pos >>= _) _ _ s; exact wpAny_bind (wpAny_standAt (wpAny_bind (wpAny_mono h (fun it' s' h' => wpAny_pure (And.intro rfl h')) fun z_ z_ x => x))))
set_option tactic.hygienic true in
theorem compLoop_at {prog : Program} {w : World} {A : Around} {R : Result → Shared → Prop} {s : Shared} {elt target iter : Expr} {ifs : List Expr} {gens : List Comprehension} {scope : Scope} {pos : Pos} {d : Nat} {it acc : Value} {env : Env} (I : Nat → Shared → Prop)
    (hg : gens[d]? = some ⟨target, iter, ifs, 0⟩) (hp : plainG gens = true)
    (turn : ∀ n s, I n s → wpAny (model prog w) A (pyNext it) (fun r s₁ => match r with
      | none => R (.ok .next) s₁
      | some v => wpAny (model prog w) A (letOwnedTupleGo target it v) (fun z_ s₁' => wpAny (model prog w) A (assign target env v) (fun z_ s₂ =>
          wpAny (model prog w) A (forIn ifs true fun c r => if r = true then do let ok ← isTrue c env (eval c env); pure (ForInStep.yield ok) else pure (ForInStep.yield r)) (fun ok s₃ =>
            if ok = true then wpAny (model prog w) A (tailC elt gens scope pos d acc env) (fun z_ s₅ => ∃ m, m < n ∧ I m s₅) NoE s₃
            else ∃ m, m < n ∧ I m s₃) NoE s₂) NoE s₁') NoE s₁) NoE s)
    (n : Nat) (h : I n s) : codeAny (model prog w) A (.compLoop (.ListComp elt gens scope pos) d it acc env) R s := by
  refine codeAny_loop rfl I (fun n s hI => ?_) n h
  show wpAny _ A ((compTurn (.ListComp elt gens scope pos) d it acc env).onRaise (fun x => do noteFrame x env; theTreesLotGoes x)) _ _ s
  refine wpAny_noted ?_
  rw [compTurn_at hg hp]
  refine wpAny_bind (wpAny_standAt (wpAny_bind (wpAny_mono (turn n s hI) (fun r s₁ h₁ => ?_) fun z_ z_ h' => h'.elim)))
  cases r with
  | none => exact wpAny_pure h₁
  | some v =>
    refine wpAny_bind (wpAny_mono h₁ (fun z_ s₁' h₁' => ?_) fun z_ z_ h' => h'.elim)
    refine wpAny_bind (wpAny_mono h₁' (fun z_ s₂ h₂ => wpAny_bind (wpAny_mono h₂ (fun ok s₃ h₃ => ?_) fun z_ z_ h' => h'.elim)) fun z_ z_ h' => h'.elim)
    cases ok with
    | false => exact wpAny_pure ⟨rfl, h₃⟩
    | true => exact wpAny_bind (wpAny_mono h₃ (fun z_ s₅ h₅ => wpAny_pure ⟨rfl, h₅⟩) fun z_ z_ h' => h'.elim)

noncomputable def TeA (B : Base) (k : Nat) (sc : Scope) (v : Vars) (ifs : List Expr) (st : Sto) (b : Bool) (st' : Sto) : Prop :=
  ∀ A env s W, Room A k → OK B env sc v s W st → Gv B A (forIn ifs true fun c r => if r = true then do let ok ← isTrue c env (eval c env); pure (ForInStep.yield ok) else pure (ForInStep.yield r)) s W st st' (IsB b)
inductive Turn (B : Base) (k : Nat) (csc : Scope) (v : Vars) (tg : Expr) (ifs : List Expr) (elt : Expr) (d : D) (st : Sto) : List D → Prop
  | yes {v' : Vars} {x : D} : Asg csc tg d v v' → TeA B k csc v' ifs st true st → Ev B k csc v' elt st x st → Turn B k csc v tg ifs elt d st [x]
  | no {v' : Vars} : Asg csc tg d v v' → TeA B k csc v' ifs st false st → Turn B k csc v tg ifs elt d st []

section
variable {B : Base} {k : Nat} {A : Around} {X : Addr → Prop} {env : Env} {sc csc : Scope} {v v' : Vars} {s s' s₁ s₂ : Shared} {W W' W₁ : Wd} {st st₁ st₂ st' : Sto} {a d : D} {ds od : List D} {e elt it tg : Expr} {p pos spos : Pos} {x y : Str} {ifs : List Expr} {Q : Fl → Vars → Sto → Prop} {t : Bool} {lk : Option Nat} {h : Heap} {Da : Addr}
theorem tl_nil : TeA B k sc v [] st true st := fun A env s W R O => by
  unfold Gv
  rw [List.forIn_nil]
  exact wpAny_pure ⟨W, O.g, .refl, rfl⟩
set_option tactic.hygienic true in
theorem tl_one (h : Te B k sc v e st t st') : TeA B k sc v [e] st t st' := fun A env s W R O => by
  unfold Gv
  rw [List.forIn_cons]
  simp only [if_true]
  refine wpAny_bind (wpAny_bind ((h A env s W R O).next O fun c s₁ W₁ O₁ S₁ hc => wpAny_pure ?_))
  show wpAny _ _ (forIn [] c _) _ _ _
  rw [List.forIn_nil]
  exact wpAny_pure ⟨W₁, O₁.g, S₁, hc⟩
theorem asgL_sub {ts : List Expr} (h : AsgL sc ts ds v v') (hx : kindOf sc x = some .free) : v'.lookup x = v.lookup x := by
  induction h with
  | nil v => rfl
  | @cons y p ts d ds v v' hb h ih =>
    rw [ih, lookup_setVar, if_neg]
    rintro rfl
    rcases bound1_of hb with h | h <;> rw [hx] at h <;> cases h
theorem asg_sub (h : Asg csc tg d (compVars csc v) v') : ∀ x d, (compVars csc v).lookup x = some d → v'.lookup x = some d := fun x d₁ e => by
  have hx := (compVars_lookup e).1
  cases h with
  | name hb =>
    rw [lookup_setVar, if_neg]
    · exact e
    rintro rfl
    rcases bound1_of hb with h | h <;> rw [hx] at h <;> cases h
  | tup h => rw [asgL_sub h hx]; exact e
theorem OK.sub (O : OK B env sc v' s W st) (hs : ∀ x d, v.lookup x = some d → v'.lookup x = some d) : OK B env sc v s W st := by
  obtain ⟨m, hn, hm⟩ := O.f.ns
  exact ⟨O.g, O.e, ⟨⟨m, hn, fun y d hk hl => hm y d hk (hs y d hl)⟩, fun y c hk e => let ⟨ov, h1, q⟩ := O.f.cl y c hk e; ⟨ov, h1, fun d hl => q d (hs y d hl)⟩, O.f.off⟩⟩
structure Ac (B : Base) (Da : Addr) (od : List D) (s : Shared) (W : Wd) : Prop where
  off : Off B s.heap W Da
  l : ∃ us k, s.heap.get? Da = some (listO us k) ∧ VRs B.C W od us
theorem Ac.step (H : Ac B Da od s W) (S : Step B X s W st s' W' st') (h : ¬ X Da) : Ac B Da od s' W' :=
  let ⟨us, k, e, r⟩ := H.l; ⟨H.off.step S, us, k, H.off.kept S h _ e, r.up S.le⟩
theorem lock_unlock (h : ∀ n, lk = some n → st[n]? = some (.lst ds)) : unlockS (lockS st lk) ds lk = st := by
  cases lk with
  | none => rfl
  | some n =>
    have := h n rfl
    show (st.set n .dead).set n (.lst ds) = st
    rw [List.set_set]
    obtain ⟨hn, e⟩ := List.getElem?_eq_some_iff.mp this
    rw [← e, List.set_getElem_self]
noncomputable def outsTo (outs : Nat → List D) (n : Nat) : List D := (List.range n).flatMap outs
theorem outs_succ (outs : Nat → List D) (n : Nat) : outsTo outs (n + 1) = outsTo outs n ++ outs n := by unfold outsTo; rw [List.range_succ, List.flatMap_append]; simp
theorem outs_le (outs : Nat → List D) {i n : Nat} (h : i ≤ n) : (outsTo outs i).length ≤ (outsTo outs n).length := by
  induction h with
  | refl => exact Nat.le_refl _
  | step _ ih => rw [outs_succ, List.length_append]; omega

end
section
variable {B : Base} {k d : Nat} {A : Around} {P X : Addr → Prop} {env : Env} {sc csc : Scope} {v v' : Vars} {s s' s₁ s₂ : Shared} {W W' W₁ : Wd} {st st₁ st₂ st' : Sto} {ds od : List D} {x : D} {e elt it tg : Expr} {gens : List Comprehension} {p pos cpos spos : Pos} {y : Str} {ifs : List Expr} {Q : Fl → Vars → Sto → Prop} {t : Bool} {Da : Addr} {wr fp : List Addr} {St : Nat → Heap → Prop} {i : Nat} {pairs : Bool} {I : Addr}
structure LpX (B : Base) (P : Addr → Prop) (env : Env) (sc : Scope) (St : Nat → Heap → Prop) (wr : List Addr) (s₁ : Shared) (W₁ : Wd) (st : Sto) (i : Nat) (v : Vars) (s : Shared) (W : Wd) : Prop where
  hst : St i s.heap
  ok : OK B env sc v s W st
  step : Step B P s₁ W₁ st s W st
  off : ∀ b ∈ wr, Off B s.heap W b
theorem LpX.move (L : LpX B P env sc St wr s₁ W₁ st i v s W) (K : Wk B A pairs I wr fp ds St W₁) (hf : ∀ b ∈ fp, b ∈ wr ∨ ((∃ o, s₁.heap.get? b = some o) ∧ ¬ B.T b ∧ ¬ P b ∧ ¬ Lv W₁ st b)) (hw : ∀ b ∈ wr, ¬ X b) (hX : ∀ a o, X a → s₁.heap.get? a = some o → P a)
    {s' : Shared} {W' : Wd} (O : OK B env sc v' s' W' st) (S : Step B X s W st s' W' st) : LpX B P env sc St wr s₁ W₁ st i v' s' W' := by
  have T := ((L.step.up (X' := fun a => P a ∨ X a) fun z_ h => .inl h).trans (S.up fun z_ h => .inr h)).drop (X' := P) fun a o h e => h.elim id fun m => hX a o m e
  refine ⟨K.frame i _ _ L.hst fun b m o e => ?_, O, T, fun b m => (L.off b m).step S⟩
  rcases hf b m with m | ⟨⟨o₁, e₁⟩, h1, h2, h3⟩
  · exact (L.off b m).kept S (hw b m) o e
  · have q1 := (L.step.kp b o₁ e₁).k h1 h2 h3
    have q2 := (T.kp b o₁ e₁).k h1 h2 h3
    rw [q1] at e; cases e; exact q2
theorem LpX.turn (L : LpX B P env sc St wr s₁ W₁ st i v s W) (hw : ∀ b ∈ wr, s₁.heap.get? b = none) (hr : ∀ a, reach env a → a ∉ wr) {s' : Shared} {W' : Wd} (hst : St (i + 1) s'.heap) (G : Good B s'.heap W' st) (S : Step B (· ∈ wr) s W st s' W' st) : LpX B P env sc St wr s₁ W₁ st (i + 1) v s' W' :=
  ⟨hst, ⟨G, L.ok.e, L.ok.f.step S hr⟩, ((L.step.up (X' := fun a => P a ∨ a ∈ wr) fun z_ h => .inl h).trans (S.up fun z_ h => .inr h)).drop fun a o h e => h.elim id fun m => (by rw [hw a m] at e; cases e), fun b m => (L.off b m).step S⟩
theorem LpX.out (L : LpX B P env sc St wr s₁ W₁ st i v s W) (hw : ∀ b ∈ wr, s₁.heap.get? b = none) (hr : ∀ a, reach env a → a ∉ wr) {h' : Heap} (tk : Nat) (hk : ∀ b o, b ∉ wr → s.heap.get? b = some o → h'.get? b = some o) :
    OK B env sc v { s with heap := h', toks := tk } W st ∧ Step B P s₁ W₁ st { s with heap := h', toks := tk } W st :=
  ⟨⟨L.ok.g.but (X := (· ∈ wr)) (fun b o e m => hk b o m e) fun b m => let f := L.off b m; ⟨f.z, f.m, f.t⟩, L.ok.e, ⟨L.ok.f.ns.up .refl fun o q => hk _ o (hr _ (.inl rfl)) q, fun y c k e => (L.ok.f.cl y c k e).up .refl fun o q => hk c o (hr c (.inr ⟨y, e⟩)) q,
    fun a r => let f := L.ok.f.off a r; ⟨f.z, f.m, f.t, let ⟨o, q⟩ := f.e; ⟨o, hk a o (hr a r) q⟩⟩⟩⟩, L.step.but' (tk := tk) (wr := (· ∈ wr)) hk hw⟩

noncomputable def TailN (B : Base) (k : Nat) (csc : Scope) (v : Vars) (elt : Expr) (gens : List Comprehension) (pos : Pos) (d : Nat) (st : Sto) (outs : List D) : Prop :=
  ∀ A env s W Da od, Room A k → OK B env csc v s W st → Ac B Da od s W → (∀ a, reach env a → a ≠ Da) → od.length + outs.length ≤ LIM →
    wpAny (model B.prog B.w) A (tailC elt gens csc pos d (.ref Da) env) (fun z_ s' => ∃ W', OK B env csc v s' W' st ∧ Step B (fun a => a = Da ∨ own env csc a) s W st s' W' st ∧ Ac B Da (od ++ outs) s' W') NoE s
noncomputable def Ext (v v' : Vars) : Prop := ∀ x d, v.lookup x = some d → v'.lookup x = some d
inductive TurnN (B : Base) (k : Nat) (csc : Scope) (v : Vars) (tg : Expr) (ifs : List Expr) (elt : Expr) (gens : List Comprehension) (pos : Pos) (d : Nat) (st : Sto) (x : D) : List D → Prop
  | yes {v' : Vars} {o : List D} : Asg csc tg x v v' → Ext v v' → TeA B k csc v' ifs st true st → TailN B k csc v' elt gens pos d st o → TurnN B k csc v tg ifs elt gens pos d st x o
  | no {v' : Vars} : Asg csc tg x v v' → Ext v v' → TeA B k csc v' ifs st false st → TurnN B k csc v tg ifs elt gens pos d st x []
set_option tactic.hygienic true in
theorem compLoopN (outs : Nat → List D) {R₁ : Result → Shared → Prop} (R : Room A k) (hg : gens[d]? = some ⟨tg, it, ifs, 0⟩) (hp : plainG gens = true) (K : Wk B A (isTuple tg) I wr fp ds St W₁) (hw : ∀ b ∈ wr, s₁.heap.get? b = none) (nr : ∀ a, reach env a → a ∉ wr) (dw : Da ∉ wr) (nD : ∀ a, reach env a → a ≠ Da)
    (hf : ∀ b ∈ fp, b ∈ wr ∨ ((∃ o, s₁.heap.get? b = some o) ∧ ¬ B.T b ∧ ¬ P b ∧ ¬ Lv W₁ st b)) (hP : ∀ a, own env csc a → P a) (hD : ∀ o, s₁.heap.get? Da = some o → P Da)
    (ht : ∀ i x, ds[i]? = some x → TurnN B k csc v tg ifs elt gens pos d st x (outs i)) (hlen : od.length + (outsTo outs ds.length).length ≤ LIM)
    (L₀ : LpX B P env csc St wr s₁ W₁ st 0 v s W) (A₀ : Ac B Da od s W)
    (hR : ∀ s' W', OK B env csc v s' W' st → Step B P s₁ W₁ st s' W' st → Ac B Da (od ++ outsTo outs ds.length) s' W' → R₁ (.ok .next) s') :
    codeAny (model B.prog B.w) A (.compLoop (.ListComp elt gens csc pos) d (.ref I) (.ref Da) env) R₁ s := by
  refine compLoop_at (fun n s' => ∃ i W', i ≤ ds.length ∧ n = ds.length + 1 - i ∧ LpX B P env csc St wr s₁ W₁ st i v s' W' ∧ Ac B Da (od ++ outsTo outs i) s' W') hg hp ?_ (ds.length + 1) ⟨0, W, Nat.zero_le _, rfl, L₀, by rw [show outsTo outs 0 = [] from rfl, List.append_nil]; exact A₀⟩
  rintro n s' ⟨i, W', hi, rfl, L, H⟩
  by_cases hlt : i < ds.length
  · have hd : ds[i]? = some ds[i] := List.getElem?_eq_getElem hlt
    have T := ht i _ hd
    refine wpAny_mono (K.item i _ s' W' _ (fun u s₂ => wpAny (model B.prog B.w) A (assign tg env u) (fun z_ s₃ => wpAny (model B.prog B.w) A (forIn ifs true fun c r => if r = true then do let ok ← isTrue c env (eval c env); pure (ForInStep.yield ok) else pure (ForInStep.yield r)) (fun ok s₄ =>
        if ok = true then wpAny (model B.prog B.w) A (tailC elt gens csc pos d (.ref Da) env) (fun z_ s₆ => ∃ m, m < ds.length + 1 - i ∧ ∃ i W', i ≤ ds.length ∧ m = ds.length + 1 - i ∧ LpX B P env csc St wr s₁ W₁ st i v s₆ W' ∧ Ac B Da (od ++ outsTo outs i) s₆ W') NoE s₄
        else ∃ m, m < ds.length + 1 - i ∧ ∃ i W', i ≤ ds.length ∧ m = ds.length + 1 - i ∧ LpX B P env csc St wr s₁ W₁ st i v s₄ W' ∧ Ac B Da (od ++ outsTo outs i) s₄ W') NoE s₃) NoE s₂) NoE tg id hd L.hst L.step.le L.ok.g L.off fun u s₂' W₂ hst₂ G₂' S₂ ru => ?_) (fun r s₁' h => ?_) fun z_ z_ e => e
    · have L₂ := L.turn hw nr hst₂ G₂' S₂
      have H₂ := H.step S₂ dw
      have mv : ∀ {v' : Vars} {s₃ s₄ : Shared} {W₃ W₄ : Wd} {v₃ : Vars}, LpX B P env csc St wr s₁ W₁ st (i + 1) v₃ s₃ W₃ → OK B env csc v' s₄ W₄ st → Step B Em s₃ W₃ st s₄ W₄ st → LpX B P env csc St wr s₁ W₁ st (i + 1) v' s₄ W₄ :=
        fun L O S => L.move K hf (X := Em) (fun z_ z_ c => c) (fun z_ z_ c z_ => c.elim) O S
      generalize ho : outs i = oi at T
      cases T with
      | no ha hx hte =>
        refine asg_ok R.h ha L₂.ok ru fun s₃ O₃ S₃ => (hte A _ s₃ W₂ R O₃).next O₃ fun c s₄ W₄ O₄ S₄ hc => ?_
        cases hc
        have L₄ := mv (L₂.move K hf (fun b m c => nr b c.reach m) (fun a o c e => hP a c) O₃ S₃) O₄ S₄
        refine ⟨_, Nat.sub_lt_sub_left (Nat.lt_succ_of_lt hlt) (Nat.lt_succ_self i), i + 1, W₄, hlt, rfl, ⟨L₄.hst, L₄.ok.sub hx, L₄.step, L₄.off⟩, ?_⟩
        rw [outs_succ, ho, List.append_nil]
        exact (H₂.step S₃ fun c => nD Da c.reach rfl).step S₄ fun c => c
      | yes ha hx hte hev =>
        refine asg_ok R.h ha L₂.ok ru fun s₃ O₃ S₃ => (hte A _ s₃ W₂ R O₃).next O₃ fun c s₄ W₄ O₄ S₄ hc => ?_
        cases hc
        have L₄ := mv (L₂.move K hf (fun b m c => nr b c.reach m) (fun a o c e => hP a c) O₃ S₃) O₄ S₄
        have H₄ := (H₂.step S₃ fun c => nD Da c.reach rfl).step S₄ fun c => c
        have lim : (od ++ outsTo outs i).length + oi.length ≤ LIM := by
          have := outs_le outs (show i + 1 ≤ ds.length from hlt)
          rw [outs_succ, ho, List.length_append] at this
          rw [List.length_append]; omega
        refine wpAny_mono (hev A env s₄ W₄ Da _ R O₄ H₄ nD lim) (fun _ s₅ ⟨W₅, O₅, S₅, H₅⟩ => ?_) fun z_ z_ e => e
        refine ⟨_, Nat.sub_lt_sub_left (Nat.lt_succ_of_lt hlt) (Nat.lt_succ_self i), i + 1, W₅, hlt, rfl, ?_, by rw [outs_succ, ho, ← List.append_assoc]; exact H₅⟩
        exact L₄.move K hf (X := fun a => a = Da ∨ own env csc a) (fun b m c => c.elim (fun c => dw (c ▸ m)) fun c => nr b c.reach m) (fun a o c e => c.elim (fun c => by subst c; exact hD o e) (hP a)) (O₅.sub hx) S₅
    · cases r with
      | none => exact h.elim
      | some u => exact h
  · have hi' : i = ds.length := by omega
    subst hi'
    refine wpAny_mono (K.done s' (fun r s₁ => r = none ∧ ∃ h' tk', s₁ = { s' with heap := h', toks := tk' } ∧ ∀ b o, b ∉ wr → s'.heap.get? b = some o → h'.get? b = some o) NoE L.hst fun h' tk' hkk => ⟨rfl, h', tk', rfl, hkk⟩) (fun r s₁' ⟨hr', h', tk', hs, hkk⟩ => ?_) fun z_ z_ e => e
    subst hr' hs
    obtain ⟨O₅, S₅⟩ := L.out hw nr tk' hkk
    obtain ⟨us, kk, e5, r5⟩ := H.l
    exact hR _ W' O₅ S₅ ⟨⟨H.off.z, H.off.m, H.off.t, _, hkk _ _ dw e5⟩, us, kk, hkk _ _ dw e5, r5⟩
set_option tactic.hygienic true in
theorem tail_emit (h1 : gens[d + 1]? = none) (hev : Ev B k csc v elt st x st) : TailN B k csc v elt gens pos d st [x] := fun A env s W Da od R O H nD hl => by
  unfold tailC
  rw [h1]
  refine wpAny_bind ((hev A env s W R O).next O fun u₅ s₅ W₅ O₅ S₅ r₅ => wpAny_bind ?_)
  have H₅ := H.step S₅ fun c => c
  obtain ⟨us, kk, e5, r6⟩ := H₅.l
  have lim : us.length ≤ LIM := by rw [r6.length]; omega
  refine wpAny_list_append_plain (l := Da) (items := us.toArray) ⟨kk, e5⟩ (fun h₆ hp₆ hs₆ => ?_) (by rw [List.size_toArray, sizeLine_eq]; unfold LIM at lim; omega)
  obtain ⟨k6, q6⟩ := hp₆
  have q6 : h₆.get? Da = some (listO (us ++ [u₅]) k6) := by rw [q6]; unfold listO; simp
  have hne : ∀ b o, s₅.heap.get? b = some o → ¬ b = Da → h₆.get? b = some o := fun b o r q => (hs₆.2 b q).trans r
  have S₆ : Step B (· = Da) s₅ W₅ st { s₅ with heap := h₆ } W₅ st := .but hne (SameBut.live hs₆ ⟨_, q6⟩) s₅.toks
  have O₆ : OK B env csc v { s₅ with heap := h₆ } W₅ st :=
    ⟨O₅.g.but (X := (· = Da)) hne fun b c => (by rw [show b = Da from c]; exact ⟨H₅.off.z, H₅.off.m, H₅.off.t⟩), O₅.e, O₅.f.step S₆ fun a r c => nD a r c⟩
  refine wpAny_pure ⟨W₅, O₆, (S₅.up (X' := fun a => a = Da ∨ own env csc a) fun z_ c => c.elim).trans (S₆.up fun z_ c => .inl c), H₅.off.step S₆, _, k6, q6, ?_⟩
  exact VRs.append (.cons r₅ .nil) r6
theorem tail_more (outs : Nat → List D) (h1 : gens[d + 1]? = some ⟨tg, it, ifs, 0⟩) (hp : plainG gens = true) (hi : It B k csc v (isTuple tg) it st ds none st) (ht : ∀ i x, ds[i]? = some x → TurnN B k csc v tg ifs elt gens pos (d + 1) st x (outs i)) :
    TailN B k csc v elt gens pos d st (outsTo outs ds.length) := fun A env s W Da od R O H nD hl => by
  unfold tailC
  rw [h1]
  refine wpAny_bind (wpAny_mono (hi.run A env s W R O) (fun u s₀ h => wpAny_bind (wpAny_standAt (wpAny_bind (wpAny_of_eq (hi.fold env u) (wpAny_bind (wpAny_holding (wpAny_mono h (fun w s₂ X => wpAny_bind (wpAny_runOwn (h := none) ?_)) fun z_ z_ e => e.elim))))))) fun z_ z_ e => e.elim)
  obtain ⟨J, wr, fp, St, W₁, s₁, _, G₂, S₁, ⟨up, hos, hge⟩, K, hst, hwr, hfp, hlk⟩ := X
  have hw : ∀ b ∈ wr, s₁.heap.get? b = none := fun b m => (hwr b m).1
  have re : ∀ a, reach env a → ∃ o, s₁.heap.get? a = some o := fun a r => ((O.f.off a r).step S₁).e
  have nr : ∀ a, reach env a → a ∉ wr := fun a r m => by obtain ⟨o, q⟩ := re a r; rw [hw a m] at q; cases q
  have H₁ := H.step S₁ fun c => c
  have dw : Da ∉ wr := fun m => by obtain ⟨o, q⟩ := H₁.off.e; rw [hw Da m] at q; cases q
  have Sg : Step B Em s₁ W₁ st s₂ W₁ st := Step.grow up hos hge
  have F₂ := (O.f.step S₁ fun z_ z_ x => x).step Sg fun z_ z_ x => x
  have oz : ∀ a, own env csc a → W₁.Z a = none ∧ a ∉ W₁.adr := fun a r => let f := F₂.off a r.reach; ⟨f.z, f.m⟩
  have hf : ∀ b ∈ fp, b ∈ wr ∨ ((∃ o, s₁.heap.get? b = some o) ∧ ¬ B.T b ∧ ¬ (b = Da ∨ own env csc b) ∧ ¬ Lv W₁ st b) := fun b m => (hfp b m).imp id fun ⟨hx, q⟩ => by
    rcases q with ⟨o, q⟩ | ⟨n, q, _⟩
    · refine ⟨hx, fun t => (by rw [(G₂.sepT b t).1] at q; cases q), fun c => ?_, fun ⟨j, l, _⟩ => by rw [G₂.sepA b (List.mem_of_getElem? l)] at q; cases q⟩
      rcases c with rfl | c
      · rw [H₁.off.z] at q; cases q
      · rw [(oz b c).1] at q; cases q
    · cases q
  have L₀ : LpX B (fun a => a = Da ∨ own env csc a) env csc St wr s₁ W₁ st 0 v s₂ W₁ := ⟨hst, ⟨G₂, O.e, F₂⟩, Step.grow up hos hge, fun b m => (hwr b m).2⟩
  have main := compLoopN (R₁ := fun r s' => match r with
      | .ok f => wpAny (model B.prog B.w) A (pure ()) (fun z_ s' => ∃ W', OK B env csc v s' W' st ∧ Step B (fun a => a = Da ∨ own env csc a) s W st s' W' st ∧ Ac B Da (od ++ outsTo outs ds.length) s' W') NoE s'
      | .error e => cameBackBy (model B.prog B.w) A env NoE e s') outs R h1 hp K hw nr dw nD hf (fun z_ c => .inr c) (fun z_ z_ => .inl rfl) ht hl L₀ (H₁.step Sg fun c => c)
    fun s' W' O' S' H' => wpAny_pure ⟨W', O', (S₁.up fun z_ c => c.elim).trans S', H'⟩
  exact codeAny_compStart_at h1 main (K.self 0 _ _ _ hst main)
end
section
variable {B : Base} {k : Nat} {A : Around} {X : Addr → Prop} {env : Env} {sc csc : Scope} {v v' : Vars} {s s' s₁ s₂ : Shared} {W W' W₁ : Wd} {st st₁ st₂ st' : Sto} {a d : D} {ds od : List D} {e elt it tg : Expr} {p pos spos : Pos} {x y : Str} {ifs : List Expr} {gs : List Comprehension} {Q : Fl → Vars → Sto → Prop} {t : Bool} {lk : Option Nat} {h : Heap} {Da : Addr}
theorem turn_N {st : Sto} {o : List D} (h : Turn B k csc (compVars csc v) tg ifs elt d st o) : TurnN B k csc (compVars csc v) tg ifs elt [⟨tg, it, ifs, 0⟩] pos 0 st d o := by
  cases h with
  | yes ha hte hev => exact .yes ha (asg_sub ha) hte (tail_emit rfl hev)
  | no ha hte => exact .no ha (asg_sub ha) hte
set_option tactic.hygienic true in
theorem comp_blockN (outs : Nat → List D) {use : Option (Value → Sem Unit)} {QQ : Value → Shared → Prop} {E : Value → Shared → Prop} (R : Room A k) (C : CompScope sc csc) (O : OK B env sc v s W st) {I : Value} (X : IterAt B A (isTuple tg) s W st st₁ ds lk I s₂) (hp : plainG (⟨tg, it, ifs, 0⟩ :: gs) = true)
    (ht : ∀ i d, ds[i]? = some d → TurnN B k csc (compVars csc v) tg ifs elt (⟨tg, it, ifs, 0⟩ :: gs) pos 0 (lockS st₁ lk) d (outs i)) (hlen : (outsTo outs ds.length).length ≤ LIM)
    (hQ : ∀ Da L s₅ W₅, OK B env sc v s₅ W₅ st₁ → Step B Em s W st s₅ W₅ st₁ → VR B.C W₅ (.lst (outsTo outs ds.length)) (.ref Da) → s.heap.get? L = none → Off B s₅.heap W₅ L → (∃ m, s₅.heap.Ns L m) → compPost (model B.prog B.w) A E use QQ (.ref Da) L (.ok .next) s₅) :
    wpAny (model B.prog B.w) A (newList []) (fun acc s₃ => wpAny (model B.prog B.w) A (newFunctionEnv csc env.globals (closL env csc.names []) [] env.qual none .none (some env)) (fun cenv s₄ =>
      codeAny (model B.prog B.w) A (.compStart (.ListComp elt (⟨tg, it, ifs, 0⟩ :: gs) csc pos) 0 I acc { cenv with scope := relabel csc env }) (compPost (model B.prog B.w) A E use QQ acc cenv.locals) s₄) E s₃) E s₂ := by
  obtain ⟨J, wr, fp, St, W₁, s₁, _, G₂, S₁, ⟨up, hos, hge⟩, K, hst, hwr, hfp, hlk⟩ := X
  refine wpAny_newObj_type (newEnv_ok ?_)
  show codeAny (model B.prog B.w) A (.compStart (.ListComp elt (⟨tg, it, ifs, 0⟩ :: gs) csc pos) 0 (.ref J) (.ref s₂.heap.objs.size) (cenvOf csc env (s₂.heap.push (listO [] 0)).objs.size)) (compPost (model B.prog B.w) A E use QQ (.ref s₂.heap.objs.size) (s₂.heap.push (listO [] 0)).objs.size)
    { s₂ with heap := pushCells ((s₂.heap.push (listO [] 0)).push { cls := .type "dict", data := .dict #[] }) csc.names }
  have hw : ∀ b ∈ wr, s₁.heap.get? b = none := fun b m => (hwr b m).1
  have k3 := keep_push (h := s₂.heap) (listO [] 0)
  have dn := size_none s₂.heap
  have dD := Heap.get?_push_size s₂.heap (o := listO [] 0) rfl
  generalize s₂.heap.objs.size = Da at dn dD hQ ⊢
  -- the frame
  have up3 : ∀ a o, s₁.heap.get? a = some o → (s₂.heap.push (listO [] 0)).get? a = some o := fun a o e => k3 a o (up a o e)
  have G₃ : Good B (s₂.heap.push (listO [] 0)) W₁ (lockS st₁ lk) := by
    cases lk with
    | none => exact G₂.keep k3
    | some n => exact (G₂.keep k3).lock (hlk n rfl).1
  have O₃ : OK B env sc v { s₂ with heap := s₂.heap.push (listO [] 0) } W₁ (lockS st₁ lk) := ⟨G₃, O.e, (O.f.step S₁ fun z_ z_ x => x).step (Step.grow (X := Em) (st := st₁) (s₁ := { s₂ with heap := s₂.heap.push (listO [] 0) }) up3 hos hge) fun z_ z_ x => x⟩
  obtain ⟨O₄, rn, own4⟩ := comp_frame C O₃
  have k4 : ∀ a o, (s₂.heap.push (listO [] 0)).get? a = some o → (pushCells ((s₂.heap.push (listO [] 0)).push { cls := .type "dict", data := .dict #[] }) csc.names).get? a = some o := fun a o e => pushCells_keeps _ _ a o (Heap.get?_push_of_some _ e)
  have dL := size_none (s₂.heap.push (listO [] 0))
  generalize (s₂.heap.push (listO [] 0)).objs.size = La at O₄ rn own4 dL hQ ⊢
  replace rn : ∀ a, reach (cenvOf csc env La) a → (s₂.heap.push (listO [] 0)).get? a = none ∨ reach env a := rn
  generalize pushCells ((s₂.heap.push (listO [] 0)).push { cls := .type "dict", data := .dict #[] }) csc.names = H₄ at O₄ k4 ⊢
  have re : ∀ a, reach env a → ∃ o, s₁.heap.get? a = some o := fun a r => ((O.f.off a r).step S₁).e
  have none1 : ∀ {b}, (s₂.heap.push (listO [] 0)).get? b = none → s₁.heap.get? b = none := fun {b} q => by
    cases e : s₁.heap.get? b with
    | none => rfl
    | some o => rw [up3 b o e] at q; cases q
  have d1 : s₁.heap.get? Da = none := by
    cases e : s₁.heap.get? Da with
    | none => rfl
    | some o => rw [up Da o e] at dn; cases dn
  have nr : ∀ a, reach (cenvOf csc env La) a → a ∉ wr := fun a r m => by
    rcases rn a r with q | q
    · obtain ⟨o, e⟩ := (hwr a m).2.e
      rw [k3 a o e] at q; cases q
    · obtain ⟨o, e⟩ := re a q
      rw [hw a m] at e; cases e
  have nD : ∀ a, reach (cenvOf csc env La) a → a ≠ Da := fun a r c => by
    subst c
    rcases rn a r with q | q
    · rw [dD] at q; cases q
    · obtain ⟨o, e⟩ := re a q
      rw [d1] at e; cases e
  have dw : Da ∉ wr := fun m => by obtain ⟨o, e⟩ := (hwr Da m).2.e; rw [dn] at e; cases e
  have o1 : ∀ a o, own (cenvOf csc env La) csc a → s₁.heap.get? a = some o → False := fun a o c e => by rw [none1 (own4 a c)] at e; cases e
  have hf : ∀ b ∈ fp, b ∈ wr ∨ ((∃ o, s₁.heap.get? b = some o) ∧ ¬ B.T b ∧ ¬ own (cenvOf csc env La) csc b ∧ ¬ Lv W₁ (lockS st₁ lk) b) := fun b m => (hfp b m).imp id fun ⟨⟨o, hx⟩, q⟩ => by
    refine ⟨⟨o, hx⟩, ?_⟩
    rcases q with ⟨o, q⟩ | ⟨n, rfl, q⟩
    · exact ⟨fun t => (by rw [(G₂.sepT b t).1] at q; cases q), fun c => o1 _ _ c hx, fun ⟨j, l, _⟩ => by rw [G₂.sepA b (List.mem_of_getElem? l)] at q; cases q⟩
    · refine ⟨fun t => (G₂.sepT b t).2 (List.mem_of_getElem? q), fun c => o1 _ _ c hx, fun ⟨j, l, l'⟩ => l' ?_⟩
      cases G₂.inj _ _ _ l q
      exact List.getElem?_set_self (List.getElem?_eq_some_iff.mp (hlk _ rfl).1).1
  have fD := G₂.fresh dn
  have S₁' : Step B Em s W st s₁ W₁ st₁ := S₁
  -- what stands between the turns
  have L₀ : LpX B (own (cenvOf csc env La) csc) (cenvOf csc env La) csc St wr s₁ W₁ (lockS st₁ lk) 0 (compVars csc v) { s₂ with heap := H₄ } W₁ := ⟨K.frame 0 _ _ hst fun b z_ o e => k4 b o (k3 b o e), O₄, .grow (fun a o e => k4 a o (up3 a o e)) hos hge, fun b m => let f := (hwr b m).2; ⟨f.z, f.m, f.t, let ⟨o, e⟩ := f.e; ⟨o, k4 b o (k3 b o e)⟩⟩⟩
  have A₀ : Ac B Da [] { s₂ with heap := H₄ } W₁ := ⟨⟨fD.1, fD.2.1, fD.2.2, _, k4 _ _ dD⟩, [], 0, k4 _ _ dD, .nil⟩
  have main : codeAny (model B.prog B.w) A (.compLoop (.ListComp elt (⟨tg, it, ifs, 0⟩ :: gs) csc pos) 0 (.ref J) (.ref Da) (cenvOf csc env La)) (compPost (model B.prog B.w) A E use QQ (.ref Da) La) { s₂ with heap := H₄ } := by
    refine compLoopN outs R rfl hp K hw nr dw nD hf (fun z_ c => c) (fun o e => by rw [d1] at e; cases e) ht (by rw [List.length_nil, Nat.zero_add]; exact hlen) L₀ A₀ fun s' W' O₅ S₅ H => ?_
    rw [List.nil_append] at H
    obtain ⟨us, kk, e5, r5⟩ := H.l
    have S₆ := S₅.drop (X' := Em) fun a o c e => o1 a o c e
    -- the store is let go, the list stands
    have un : Good B s'.heap W' st₁ ∧ Step B Em s W st s' W' st₁ := by
      rw [← lock_unlock (lk := lk) fun n e => (hlk n e).1]
      cases lk with
      | none => exact ⟨O₅.g, S₁.trans S₆⟩
      | some n =>
        obtain ⟨hn, b, o, hb, eb⟩ := hlk n rfl
        obtain ⟨b', vs, m, h1, h2, h3, h4⟩ := G₂.lst hn
        rw [hb] at h1; cases h1
        have e2 := up _ _ eb
        rw [h2] at e2; cases e2
        have hA := List.mem_of_getElem? hb
        have e3 := (S₆.kp b _ eb).k (fun t => (G₂.sepT b t).2 hA) (fun c => c) fun ⟨j, l, l'⟩ => l' (by
          cases G₂.inj _ _ _ l hb
          exact List.getElem?_set_self (List.getElem?_eq_some_iff.mp hn).1)
        exact ⟨O₅.g.put (S₆.le.a _ _ hb) (fun z_ z_ z_ e => e) (.lst vs m e3 (h3.up S₆.le) h4), S₁.unlock S₆ hn ⟨b, hb⟩⟩
    have e6 := e5
    have sD := S₁.old_none d1
    have oL := O₅.f.off La (.inl rfl)
    have G₇ := un.1.add e6 H.off.z H.off.m H.off.t
    have S₇ := un.2.add (o := listO us kk) sD H.off.z
    have x7 := Wd.le_add (W := W') (o := listO us kk) H.off.z
    obtain ⟨m, hn, _⟩ := O₅.f.ns
    exact hQ Da La _ (W'.add Da (listO us kk)) (O.step S₇ G₇) S₇ (.lst Wd.add_self (r5.up x7) hlen) (S₁.old_none (none1 dL)) ⟨(Wd.add_ne (nD La (.inl rfl))).trans oL.z, oL.m, oL.t, oL.e⟩ ⟨m, hn⟩
  exact codeAny_compStart_at rfl main (K.self 0 { s₂ with heap := H₄ } _ _ L₀.hst main)
end
end Mine
namespace Mine
open PySem PySem.W PyProof.Rows PySem.Calls

section
variable {B : Base} {k : Nat} {A : Around} {X : Addr → Prop} {env : Env} {sc csc : Scope} {v v' : Vars} {s s' s₁ s₂ : Shared} {W W' W₁ : Wd} {st st₁ st₂ st' : Sto} {a d : D} {ds od : List D} {e elt it tg : Expr} {gs : List Comprehension} {p pos cpos spos : Pos} {x y : Str} {ifs : List Expr} {Q : Fl → Vars → Sto → Prop} {t : Bool} {lk : Option Nat} {h' : Heap} {L : Addr}
set_option tactic.hygienic true in
theorem comp_allN (outs : Nat → List D) {use : Option (Value → Sem Unit)} {QQ : Value → Shared → Prop} {E : Value → Shared → Prop} (hi : It B k sc v (isTuple tg) it st ds lk st₁) (hc : compOk sc csc = true) (hp : plainG (⟨tg, it, ifs, 0⟩ :: gs) = true) (R : Room A k) (O : OK B env sc v s W st)
    (ht : ∀ i x, ds[i]? = some x → TurnN B k csc (compVars csc v) tg ifs elt (⟨tg, it, ifs, 0⟩ :: gs) pos 0 (lockS st₁ lk) x (outs i)) (hlen : (outsTo outs ds.length).length ≤ LIM)
    (hQ : ∀ Da L s₅ W₅, OK B env sc v s₅ W₅ st₁ → Step B Em s W st s₅ W₅ st₁ → VR B.C W₅ (.lst (outsTo outs ds.length)) (.ref Da) → s.heap.get? L = none → Off B s₅.heap W₅ L → (∃ m, s₅.heap.Ns L m) → compPost (model B.prog B.w) A E use QQ (.ref Da) L (.ok .next) s₅) :
    wpAny (model B.prog B.w) A (comprehension (.ListComp elt (⟨tg, it, ifs, 0⟩ :: gs) csc pos) csc env cpos (newList []) false (eval it env) use) QQ E s := by
  have C := compOk_of hc
  refine wpAny_comprehension_free (g := ⟨tg, it, ifs, 0⟩) (gs := gs) rfl (hi.fold env) (closure_ok fun p hp hk => O.e.has p.1 (C.free p hp hk).2) C.kind C.loc ?_
  exact wpAny_mono (hi.run A env s W R O) (fun u s₁ h => wpAny_mono h (fun w s₂ X => comp_blockN outs R C O X hp ht hlen hQ) fun z_ z_ e => e.elim) fun z_ z_ e => e.elim
theorem OK.but (O : OK B env sc v s W st) (hs : Heap.SameBut L s.heap h') (f : Off B s.heap W L) (hL : ∀ a, reach env a → a ≠ L) : OK B env sc v { s with heap := h' } W st :=
  have k : ∀ b o, b ≠ L → s.heap.get? b = some o → h'.get? b = some o := fun b o q r => (hs.2 b q).trans r
  ⟨O.g.but (X := (· = L)) (fun b o e q => k b o q e) fun b c => (by rw [show b = L from c]; exact ⟨f.z, f.m, f.t⟩), O.e, ⟨O.f.ns.up .refl fun o q => k _ o (hL _ (.inl rfl)) q, fun y c hk e => (O.f.cl y c hk e).up .refl fun o q => k c o (hL c (.inr ⟨y, e⟩)) q,
    fun a r => let g := O.f.off a r; ⟨g.z, g.m, g.t, let ⟨o, q⟩ := g.e; ⟨o, k a o (hL a r) q⟩⟩⟩⟩
theorem Step.same (S : Step B X s W st s₁ W₁ st₁) (hs : Heap.SameBut L s₁.heap h') (hn : s.heap.get? L = none) : Step B X s W st { s₁ with heap := h' } W₁ st₁ :=
  S.but' (tk := s₁.toks) (wr := (· = L)) (fun b o q r => (hs.2 b q).trans r) fun b c => by rw [show b = L from c]; exact hn
theorem swaps_comp {gens : List Comprehension} {line : Nat} : ∃ c : Bool, swapsWith (.ListComp elt gens csc pos) (some (.Name y p)) line env = pure c := ⟨_, rfl⟩
theorem ev_compN (outs : Nat → List D) (hi : It B k sc v (isTuple tg) it st ds lk st₁) (hc : compOk sc csc = true) (hp : plainG (⟨tg, it, ifs, 0⟩ :: gs) = true) (ht : ∀ i x, ds[i]? = some x → TurnN B k csc (compVars csc v) tg ifs elt (⟨tg, it, ifs, 0⟩ :: gs) pos 0 (lockS st₁ lk) x (outs i)) (hlen : (outsTo outs ds.length).length ≤ LIM) :
    Ev B k sc v (.ListComp elt (⟨tg, it, ifs, 0⟩ :: gs) csc pos) st (.lst (outsTo outs ds.length)) st₁ := fun A env s W R O => by
  unfold Gv
  rw [arm_eval_ListComp]
  refine comp_allN outs (use := none) hi hc hp R O ht hlen fun Da L s₅ W₅ O₅ S r hn f hm => ?_
  obtain ⟨m, hm⟩ := hm
  exact ⟨m, hm, fun h' hs => ⟨W₅, O₅.g.but (X := (· = L)) (fun b o e q => (hs.2 b q).trans e) fun b c => (by rw [show b = L from c]; exact ⟨f.z, f.m, f.t⟩), S.same hs hn, r⟩⟩
set_option tactic.hygienic true in
theorem rx_setN (outs : Nat → List D) (hb : bound1 sc y = true) (hi : It B k sc v (isTuple tg) it st ds lk st₁) (hc : compOk sc csc = true) (hp : plainG (⟨tg, it, ifs, 0⟩ :: gs) = true) (ht : ∀ i x, ds[i]? = some x → TurnN B k csc (compVars csc v) tg ifs elt (⟨tg, it, ifs, 0⟩ :: gs) pos 0 (lockS st₁ lk) x (outs i)) (hlen : (outsTo outs ds.length).length ≤ LIM)
    (hq : Q .next (setVar v y (.lst (outsTo outs ds.length))) st₁) : Rx B k sc v (.Assign [.Name y p] (.ListComp elt (⟨tg, it, ifs, 0⟩ :: gs) csc pos) spos) st Q := fun A env s W R O => by
  obtain ⟨c, hsw⟩ := swaps_comp (env := env) (csc := csc) (elt := elt) (gens := ⟨tg, it, ifs, 0⟩ :: gs) (pos := pos) (p := p) (y := y) (line := spos.line)
  cases c with
  | false => exact wpAny_Assign_Name ((ev_compN outs hi hc hp ht hlen A env s W R O).next O fun u s₁ W₁ O₁ S₁ r₁ => set_ok O₁ (bound1_of hb) r₁ fun s₂ O₂ S₂ => ⟨_, _, _, W₁, O₂, S₁.own.trans S₂, .next, hq⟩) hsw
  | true =>
    rw [exec_Assign_Name_used _ _ _ _ hsw]
    refine wpAny_bind (wpAny_standAt (wpAny_bind ?_))
    show wpAny _ A (do let _ ← comprehension (.ListComp elt (⟨tg, it, ifs, 0⟩ :: gs) csc pos) csc env _ (newList []) false (eval it env) (some (assign (.Name y p) env))) _ _ s
    refine wpAny_bind (wpAny_mono (comp_allN outs (E := NoE) (QQ := fun z_ s' => Ends B env sc s W st Q .next s') (use := some (assign (.Name y p) env)) hi hc hp R O ht hlen fun Da L s₅ W₅ O₅ S r hn f hm => ?_) (fun z_ s' hq => wpAny_pure (wpAny_pure hq)) fun z_ z_ e => e)
    have hL : ∀ a, reach env a → a ≠ L := fun a r c => by
      obtain ⟨o, q⟩ := (O.f.off a r).e
      rw [c, hn] at q; cases q
    obtain ⟨m, o, es, ep, hm, rest⟩ := hm
    refine wpAny_assign_Name (set_ok O₅ (bound1_of hb) r fun s₆ O₆ S₆ => ⟨m, ⟨o, es, ep, f.kept S₆ (fun c => hL L c.reach rfl) o hm, rest⟩, fun h' hs => ?_⟩)
    exact ⟨_, _, _, W₅, O₆.but hs (f.step S₆) hL, (S.own.trans S₆).same hs hn, .next, hq⟩
theorem ev_comp (outs : Nat → List D) (hi : It B k sc v (isTuple tg) it st ds lk st₁) (hc : compOk sc csc = true) (ht : ∀ i d, ds[i]? = some d → Turn B k csc (compVars csc v) tg ifs elt d (lockS st₁ lk) (outs i)) (hlen : (outsTo outs ds.length).length ≤ LIM) :
    Ev B k sc v (.ListComp elt [⟨tg, it, ifs, 0⟩] csc pos) st (.lst (outsTo outs ds.length)) st₁ :=
  ev_compN outs hi hc rfl (fun i d e => turn_N (ht i d e)) hlen
set_option tactic.hygienic true in
theorem rx_setC (outs : Nat → List D) (hb : bound1 sc y = true) (hi : It B k sc v (isTuple tg) it st ds lk st₁) (hc : compOk sc csc = true) (ht : ∀ i d, ds[i]? = some d → Turn B k csc (compVars csc v) tg ifs elt d (lockS st₁ lk) (outs i)) (hlen : (outsTo outs ds.length).length ≤ LIM)
    (hq : Q .next (setVar v y (.lst (outsTo outs ds.length))) st₁) : Rx B k sc v (.Assign [.Name y p] (.ListComp elt [⟨tg, it, ifs, 0⟩] csc pos) spos) st Q :=
  rx_setN outs hb hi hc rfl (fun i d e => turn_N (ht i d e)) hlen hq
theorem ext_comp (h : Asg csc tg d (compVars csc v) v') : Ext (compVars csc v) v' := asg_sub h
theorem ext_new {z : Str} {w : Vars} (h : w.lookup z = none) : Ext w (setVar w z d) := fun x d' e => by
  rw [lookup_setVar, if_neg]
  · exact e
  rintro rfl; rw [h] at e; cases e
theorem new_comp {z : Str} (h : (kindOf csc z == some .free) = false) : (compVars csc v).lookup z = none := by
  cases e : (compVars csc v).lookup z with
  | none => rfl
  | some d => rw [(compVars_lookup e).1] at h; cases h
theorem new_set {z y : Str} {w : Vars} (h : (z == y) = false) (hw : w.lookup z = none) : (setVar w y d).lookup z = none := by
  rw [lookup_setVar, if_neg (fun c => by rw [c, beq_self_eq_true] at h; cases h)]; exact hw
end
end Mine
namespace Mine
open PySem PySem.W PyProof.Rows PySem.Calls

mutual
noncomputable def D.lt (n : Nat) : D → Bool
  | .ref m | .app m | .hdr m => decide (m < n)
  | .tup l | .lst l | .scr l => D.lts n l
  | .none | .bool _ | .int _ | .str _ | .dic0 | .pat _ | .hz _ => true
noncomputable def D.lts (n : Nat) : List D → Bool
  | [] => true
  | d :: r => D.lt n d && D.lts n r
end
noncomputable def Mo.lt (n : Nat) : Mo → Bool
  | .lst l => D.lts n l
  | _ => true
noncomputable def bindsOk (sc : Scope) (vars : Vars) : Bool := (vars.map (·.1)).Nodup && vars.all fun p => bound1 sc p.1
noncomputable def cellOk (sc : Scope) (p : Str × NameKind) : Bool := match p.2 with
  | .cell => sc.names.lookup p.1 == some .cell
  | .free => false
  | _ => true
noncomputable def scopeOk (sc : Scope) : Bool := sc.names.all (cellOk sc)
noncomputable def resOf : Fl → D
  | .ret d => d
  | _ => .none

structure FnAt (B : Base) (fa : Addr) (fd : FuncData) (sc : Scope) (body : List Stmt) : Prop where
  z : ∃ o, B.Z fa = some o ∧ o.data = .func fd
  scope : fd.scope = sc
  body : fd.body = .stmts body
  clos : fd.closure = []
  glob : fd.globals = mainGlobals
  blt : fd.builtins = builtinsNs
  rec' : ∀ h : Heap, (∀ a o, B.Z a = some o → h.get? a = some o) → h.CodeRec fd.code fd.qualname
  code : (kindOf sc "QUESTION_MARK").isSome = true → fd.code = B.lcode
  kind : sc.kind = .function
  gen : sc.isGenerator = false
  cor : sc.isCoroutine = false
noncomputable def BdOk (B : Base) (fd : FuncData) (ds : List D) (ks : List (Str × D)) (vars : Vars) : Prop := ∀ M A s W st us kus, Good B s.heap W st → VRs B.C W ds us → VRf B.C W ks kus →
  ∀ (Q : List (Str × Value) → Shared → Prop) E, (∀ binds s' W', Good B s'.heap W' st → Step B Em s W st s' W' st → VRf B.C W' vars binds → Q binds s') → wpAny M A (bindArgs fd ⟨us, kus⟩) Q E s

section
variable {B : Base} {k n : Nat} {A : Around} {C : Addr} {sc : Scope} {v vars : Vars} {s s₁ s' : Shared} {h : Heap} {W W' : Wd} {st st₁ st' : Sto} {d : D} {ds : List D} {ks : List (Str × D)} {fa : Addr} {fd : FuncData} {body : List Stmt} {Q : Fl → Vars → Sto → Prop} {x : Str} {u : Value}
theorem lts_pairs (n : Nat) : ∀ l : List (List Nat × List Nat), D.lts n (l.map pairD) = true
  | [] => rfl
  | _ :: l => lts_pairs n l
theorem VR.cut (hz : ∀ a o, W.Z a = some o → W'.Z a = some o) (ha : ∀ (i : Nat) a, i < n → W.adr[i]? = some a → W'.adr[i]? = some a) (r : VR C W d u) : d.lt n = true → VR C W' d u := by
  have hh : ∀ {a v}, HdrAt C W a v → HdrAt C W' a v := fun ⟨d, oa, od, h1, h2, h3, h4⟩ => ⟨d, oa, od, hz _ _ h1, h2, hz _ _ h3, h4⟩
  exact VR.rec (motive_1 := fun d v z_ => d.lt n = true → VR C W' d v) (motive_2 := fun d v z_ => D.lts n d = true → VRs C W' d v) (fun z_ => .none) (fun b z_ => .bool b) (fun i t z_ => .int i t) (fun s t l a b c z_ => .str s t l a b c) (fun e z_ b r p => .tup (hz _ _ e) (r p) b) (fun e z_ b r p => .lst (hz _ _ e) (r p) b)
    (fun e c d z_ b r p => .scr (hz _ _ e) c d (r p) b) (fun e p => .ref (ha _ _ (of_decide_eq_true p) e)) (fun e i p => .app (hz _ _ e) (ha _ _ (of_decide_eq_true p) i)) (fun e n z_ => .dic (hz _ _ e) n) (fun e e' c q z_ => .pat (hz _ _ e) (hz _ _ e') c q) (fun h q e p => .hdr (hh h) q (ha _ _ (of_decide_eq_true p) e)) (fun h q e z_ b r z_ => .hz (hh h) q (hz _ _ e) (r (lts_pairs _ _)) b)
    (fun z_ => .nil) (fun z_ z_ a r p => let q := Bool.and_eq_true_iff.mp p; .cons (a q.1) (r q.2)) r
theorem VRs.cut (hz : ∀ a o, W.Z a = some o → W'.Z a = some o) (ha : ∀ (i : Nat) a, i < n → W.adr[i]? = some a → W'.adr[i]? = some a) : ∀ {ds : List D} {us : List Value}, VRs C W ds us → D.lts n ds = true → VRs C W' ds us
  | [], _, r, _ => by cases r.nil'; exact .nil
  | d :: ds, _, r, p => by
    obtain ⟨u, us, a, r'⟩ := r.cons'
    have q := Bool.and_eq_true_iff.mp p
    exact .cons (a.cut hz ha q.1) (VRs.cut hz ha r' q.2)

theorem VRf.names {kus : List (Str × Value)} (r : VRf C W vars kus) : kus.map (·.1) = vars.map (·.1) := r.n.symm
theorem vrf_get : ∀ {vars : Vars} {binds : List (Str × Value)}, vars.map (·.1) = binds.map (·.1) → VRs C W (vars.map (·.2)) (binds.map (·.2)) → vars.lookup x = some d → ∃ u, binds.lookup x = some u ∧ VR C W d u
  | [], _, _, _, e => nomatch e
  | (y, d') :: vars, [], hn, _, _ => nomatch hn
  | (y, d') :: vars, (z, u) :: binds, hn, r, e => by
    injection hn with h1 h2
    have h1 : y = z := h1
    subst h1
    obtain ⟨u', us, a, r'⟩ := r.cons'
    rw [List.lookup_cons] at e ⊢
    cases q : x == y with
    | true => rw [q] at e; cases e; exact ⟨_, rfl, a⟩
    | false => rw [q] at e; exact vrf_get h2 r' e
theorem bindL_get {kf : Str → Option NameKind} (hk : kf x = some .local) : ∀ {binds : List (Str × Value)} {m : Str → Option Value}, (binds.map (·.1)).Nodup → bindL kf binds m x = (binds.lookup x <|> m x)
  | [], _, _ => rfl
  | (y, u) :: r, m, hn => by
    rw [List.map_cons, List.nodup_cons] at hn
    unfold bindL
    rw [bindL_get hk hn.2, List.lookup_cons]
    cases hx : x == y with
    | true =>
      have := eq_of_beq hx
      subst this
      have : r.lookup x = none := by
        cases e : r.lookup x with
        | none => rfl
        | some w => exact absurd (List.mem_map_of_mem (f := (·.1)) (mem_of_lookup e)) hn.1
      rw [this, if_pos hk]
      exact if_pos rfl
    | false =>
      have : x ≠ y := fun e => by rw [e, beq_self_eq_true] at hx; cases hx
      cases r.lookup x with
      | some w => rfl
      | none =>
        show (if kf y = some .local then _ else m) x = _
        split
        · exact if_neg this
        · rfl
theorem bindC_get {kf : Str → Option NameKind} (hk : kf x = some .cell) : ∀ {binds : List (Str × Value)} {m : Str → Option Value}, (binds.map (·.1)).Nodup → bindC kf binds m x = (binds.lookup x <|> m x)
  | [], _, _ => rfl
  | (y, u) :: r, m, hn => by
    rw [List.map_cons, List.nodup_cons] at hn
    unfold bindC
    rw [bindC_get hk hn.2, List.lookup_cons]
    cases hx : x == y with
    | true =>
      have := eq_of_beq hx
      subst this
      have : r.lookup x = none := by
        cases e : r.lookup x with
        | none => rfl
        | some w => exact absurd (List.mem_map_of_mem (f := (·.1)) (mem_of_lookup e)) hn.1
      rw [this, if_neg (by rw [hk]; decide)]
      exact if_pos rfl
    | false =>
      have : x ≠ y := fun e => by rw [e, beq_self_eq_true] at hx; cases hx
      cases r.lookup x with
      | some w => rfl
      | none =>
        show (if kf y = some .local then m else _) x = _
        split
        · rfl
        · exact if_neg this

noncomputable def callEnv' (sc : Scope) (L : Addr) (fd : FuncData) (fa : Addr) : Env := newEnv sc L mainGlobals (cellsFrom (L + 1) sc.names []) (fd.qualname ++ ".<locals>.") (some fa) fd.code none builtinsNs
theorem call_frame {binds : List (Str × Value)} (hcd : (kindOf sc "QUESTION_MARK").isSome = true → fd.code = B.lcode) (hk : sc.kind = .function) (hb : bindsOk sc vars = true) (hs : scopeOk sc = true) (G : Good B s.heap W st) (r : VRf B.C W vars binds)
    (x : InCallC s (callEnv' sc s.heap.objs.size fd fa).locals (bindL (callEnv' sc s.heap.objs.size fd fa).kindOf binds fun z_ => none) (callEnv' sc s.heap.objs.size fd fa).cells (bindC (callEnv' sc s.heap.objs.size fd fa).kindOf binds fun z_ => none) s₁) :
    OK B (callEnv' sc s.heap.objs.size fd fa) sc vars s₁ W st ∧ ∀ a, own (callEnv' sc s.heap.objs.size fd fa) sc a → s.heap.get? a = none := by
  have keep := x.toInCall.keep
  have hnod : (binds.map (·.1)).Nodup := by rw [r.names]; exact of_decide_eq_true (Bool.and_eq_true_iff.mp hb).1
  have none_of : ∀ {a : Addr}, s.heap.objs.size ≤ a → s.heap.get? a = none := fun {a} ha => Heap.get?_none_of_le ha
  have hcell : ∀ {y : Str} {c : Addr}, (callEnv' sc s.heap.objs.size fd fa).cells.lookup y = some c → s.heap.get? c = none := fun {y c} e => none_of (Nat.le_of_lt (x.above y c (mem_of_lookup e)))
  have hr : ∀ a, reach (callEnv' sc s.heap.objs.size fd fa) a → s.heap.get? a = none := fun a o => o.elim (fun e => e ▸ none_of (Nat.le_refl _)) fun ⟨y, e⟩ => hcell e
  obtain ⟨hnl, hns1, hns2, hns3, _⟩ := id x.toInCall.ns
  refine ⟨⟨G.keep keep, ⟨hk, rfl, rfl, hcd, fun y h => h, fun y h => h, fun y h => .inl h, fun y h => h, fun y hky => ?_, fun y c e => Nat.ne_of_gt (x.above y c (mem_of_lookup e)), fun y z c e1 e2 => name_of_addr x.apart (mem_of_lookup e1) (mem_of_lookup e2)⟩, ⟨⟨_, x.toInCall.ns, fun y dy hky hl => ?_⟩, fun y c hky e => ?_, fun a o => ?_⟩⟩, fun a o => hr a o.reach⟩
  · rcases hky with hky | hky
    · exact cellsFrom_some (n := s.heap.objs.size + 1) (mem_of_lookup hky)
    · have := List.all_eq_true.mp hs _ (mem_of_lookup hky)
      cases this
  · obtain ⟨u, e, a⟩ := vrf_get r.n r.r hl
    exact ⟨u, by rw [bindL_get (show (callEnv' sc s.heap.objs.size fd fa).kindOf y = some .local from hky) hnod, e]; rfl, a⟩
  · rcases hky with hky | hky
    · refine ⟨_, x.cell y c e, fun dy hl => ?_⟩
      obtain ⟨u, e, a⟩ := vrf_get r.n r.r hl
      exact ⟨u, by rw [bindC_get (show (callEnv' sc s.heap.objs.size fd fa).kindOf y = some .cell from hky) hnod, e]; rfl, a⟩
    · have := List.all_eq_true.mp hs _ (mem_of_lookup hky)
      cases this
  · have f := G.fresh (hr a o)
    refine ⟨f.1, f.2.1, f.2.2, ?_⟩
    rcases o with rfl | ⟨y, e⟩
    · exact ⟨_, hns3⟩
    · obtain ⟨o, ho, _⟩ := x.cell y a e; exact ⟨o, ho⟩
set_option tactic.hygienic true in
theorem call_fn (FA : FnAt B fa fd sc body) {us : List Value} {kus : List (Str × Value)} (R : Room A (k + 2)) (G : Good B s.heap W st) (ru : VRs B.C W ds us) (rk : VRf B.C W ks kus) (hb : BdOk B fd ds ks vars) (ho : (bindsOk sc vars && scopeOk sc) = true) (h : Ru B k sc vars body st Q) :
    wpAny (model B.prog B.w) A (call (.ref fa) us kus) (fun u s' => ∃ f v' σ W', Good B s'.heap W' σ ∧ Step B Em s W st s' W' σ ∧ VR B.C W' (resOf f) u ∧ Q f v' σ) NoE s := by
  obtain ⟨o, hz, hd⟩ := FA.z
  have hz' := fun a o e => G.hz a o (G.bz a o e)
  have h1 := FA.scope
  subst h1
  rw [Bool.and_eq_true] at ho
  refine wpAny_call (codeAny_call_function R.depth (hz' _ _ hz) hd FA.cor FA.gen FA.body (FA.rec' _ hz') ?_)
  rw [FA.clos, FA.glob, FA.blt]
  refine hb _ _ s W st us kus G ru rk _ _ fun binds s₁ W₁ G₁ S₁ r => ?_
  refine wpAny_mono (wpAny_newFunctionEnv_cells (E := NoE) (Q := fun env s₂ => env = callEnv' fd.scope s₁.heap.objs.size fd fa ∧ InCallC s₁ env.locals (bindL env.kindOf binds fun z_ => none) env.cells (bindC env.kindOf binds fun z_ => none) s₂) FA.kind (fun p hp => ?_) fun env he s' x => ⟨he, x⟩) (fun env s₂ ⟨he, x⟩ => ?_) fun z_ z_ e => e.elim
  · have hm : p.1 ∈ vars.map (·.1) := by rw [← r.names]; exact List.mem_map_of_mem hp
    obtain ⟨q, hq, hq'⟩ := List.mem_map.mp hm
    have := List.all_eq_true.mp (Bool.and_eq_true_iff.mp ho.1).2 q hq
    rw [hq'] at this
    refine (bound1_of this).imp id fun this => ⟨this, ?_⟩
    obtain ⟨c, hc⟩ := cellsFrom_some (n := s₁.heap.objs.size + 1) (mem_of_lookup this)
    rw [hc]; rfl
  · subst he
    obtain ⟨O₂, hown⟩ := call_frame FA.code FA.kind ho.1 ho.2 G₁ r x
    obtain ⟨h₂, tk₂', hs₂, _⟩ := x.done
    refine ⟨B.nolim _ fun a o e => O₂.g.hz a o (O₂.g.bz a o e), codeAny_func ?_⟩
    refine wpAny_mono (h _ _ _ _ (R.le (by omega : k + 1 ≤ k + 2)).deeper O₂) (fun fl s₃ ⟨f, v', σ, W', O₃, S₃, rf, q⟩ => ?_) fun z_ z_ e => e.elim
    have S₂ : Step B Em s₁ W₁ st s₂ W₁ st := .grow x.toInCall.keep (by rw [hs₂]) (by rw [hs₂])
    have S : Step B Em s W st s₃ W' σ := S₁.trans ((S₂.own.trans S₃).drop fun a o c e => by rw [hown a c] at e; cases e)
    cases rf with
    | next => exact ⟨.next, _, _, _, O₃.g, S, .none, q⟩
    | brk => exact ⟨.brk, _, _, _, O₃.g, S, .none, q⟩
    | cont => exact ⟨.cont, _, _, _, O₃.g, S, .none, q⟩
    | ret r => exact ⟨.ret _, _, _, _, O₃.g, S, r, q⟩
end
end Mine
namespace Mine
open PySem PySem.W PyProof.Rows PySem.Calls

inductive Res (n : Nat) (σ : Sto) : D → D → Prop
  | flat {d : D} : d.lt n = true → Res n σ d d
  | lst {m : Nat} {l : List D} : n ≤ m → σ[m]? = some (.lst l) → D.lts n l = true → Res n σ (.ref m) (.lst l)
inductive FnT (B : Base) (f : Str) (sc : Scope) (body : List Stmt) (bd : List D → List (Str × D) → Option Vars) : Prop
  | mk (fa : Addr) (fd : FuncData) : NmT B f (.ref fa) → FnAt B fa fd sc body → (∀ ds ks vars, bd ds ks = some vars → BdOk B fd ds ks vars) → FnT B f sc body bd
inductive MeT (B : Base) (m : Str) (sc : Scope) (body : List Stmt) (bd : List D → List (Str × D) → Option Vars) : Prop
  | mk (fa : Addr) (fd : FuncData) : (∀ A s W st u pl (Q : Value × List Value → Shared → Prop) E, Good B s.heap W st → HdrV B.C W u → (∀ tk, Q (.ref fa, [u]) { s with toks := tk }) → wpAny (model B.prog B.w) A (getMethod u m pl) Q E s) →
    FnAt B fa fd sc body → (∀ ds ks vars, bd ds ks = some vars → BdOk B fd ds ks vars) → MeT B m sc body bd

section
variable {B : Base} {k n : Nat} {A : Around} {C : Addr} {sc : Scope} {v vars : Vars} {s s₁ s' : Shared} {h : Heap} {W W' : Wd} {st st₀ st₁ st' σ : Sto} {d d₀ : D} {ds : List D} {ks : List (Str × D)} {fa : Addr} {fd : FuncData} {body : List Stmt} {Q : Fl → Vars → Sto → Prop} {f x : Str} {u : Value} {bd : List D → List (Str × D) → Option Vars}
theorem Good.nil (G : Good B h W st) : Good B h ⟨W.Z, []⟩ [] := ⟨G.hz, G.bz, G.tab, fun a t => ⟨(G.sepT a t).1, nofun⟩, (fun a m => nomatch m), rfl, (fun i a m e => nomatch e), (fun i j a e => nomatch e)⟩
theorem Good.exists (G : Good B h W st) {a : Addr} (m : a ∈ W.adr) : ∃ o, h.get? a = some o := by
  obtain ⟨i, hi, q⟩ := List.getElem_of_mem m
  obtain ⟨o, ho, _⟩ := G.obj (i := i) (a := a) (by rw [List.getElem?_eq_getElem hi, q])
  exact ⟨o, ho⟩
theorem lv_nil {Z : Addr → Option Obj} {a : Addr} : ¬ Lv ⟨Z, []⟩ [] a := fun ⟨_, e, _⟩ => nomatch e
theorem pure_back (G : Good B s.heap W st) (G' : Good B s'.heap W' σ) (S : Step B Em s ⟨W.Z, []⟩ [] s' W' σ) : Good B s'.heap ⟨W'.Z, W.adr⟩ st ∧ Step B Em s W st s' ⟨W'.Z, W.adr⟩ st := by
  have x : Le W ⟨W'.Z, W.adr⟩ := ⟨S.le.z, fun z_ z_ e => e⟩
  refine ⟨⟨G'.hz, G'.bz, G'.tab, fun a t => ⟨(G'.sepT a t).1, (G.sepT a t).2⟩, fun a m => ?_, G.len, fun i a m e e' => (G.ent i a m e e').up x fun o q => (S.kp a o q).k (fun t => (G.sepT a t).2 (List.mem_of_getElem? e)) (fun c => c) lv_nil, G.inj⟩,
    ⟨x, fun a o e => let q := S.kp a o e; ⟨q.z, id, id, fun t p l => q.k t p lv_nil, q.e⟩, S.os, S.gens⟩⟩
  obtain ⟨o, e⟩ := G.exists m
  exact (S.kp a o e).z (G.sepA a m)
theorem got_pure (G : Good B s.heap W st) (G' : Good B s'.heap W' σ) (S : Step B Em s ⟨W.Z, []⟩ [] s' W' σ) (r : VR B.C W' d₀ u) (R : Res 0 σ d₀ d) : Got B s W st st (IsD B d) u s' := by
  obtain ⟨G₁, S₁⟩ := pure_back G G' S
  cases R with
  | flat h => exact ⟨_, G₁, S₁, r.cut (n := 0) (W := W') (W' := ⟨W'.Z, W.adr⟩) (fun z_ z_ e => e) (fun i z_ h => absurd h (Nat.not_lt_zero i)) h⟩
  | lst _ hm hl =>
    obtain ⟨a, vs, j, e, q, r', lim⟩ := G'.lst hm
    obtain ⟨a', e'⟩ := r.ref'
    rw [e] at e'; cases e'
    have hA := List.mem_of_getElem? e
    have hn : s.heap.get? a = none := by
      cases p : s.heap.get? a with
      | none => rfl
      | some o => exact nomatch (S.kp a o p).m hA
    have hW : a ∉ W.adr := fun m => by obtain ⟨o, p⟩ := G.exists m; rw [hn] at p; cases p
    have z := G'.sepA a hA
    refine ⟨_, G₁.add q z hW fun t => (G'.sepT a t).2 hA, S₁.add (o := listO vs j) hn z, .lst Wd.add_self (VRs.cut (n := 0) ?_ (fun i z_ h => absurd h (Nat.not_lt_zero i)) r' hl) lim⟩
    intro b o p
    exact (Wd.add_ne fun c => by rw [c, z] at p; cases p).trans p

theorem got_cut (G : Good B s.heap W st) (G' : Good B s'.heap W' σ) (S : Step B Em s W st s' W' σ) (r : VR B.C W' d₀ u) (R : Res n σ d₀ d) (hn : st.length ≤ n) (hl : n ≤ σ.length) (ht : (σ.take n).all (Mo.lt n) = true) : Got B s W st (σ.take n) (IsD B d) u s' := by
  have hL := G'.len
  have hi : ∀ {i : Nat} {a : Addr}, W.adr[i]? = some a → i < n := fun e => Nat.lt_of_lt_of_le (G.len ▸ (List.getElem?_eq_some_iff.mp e).1) hn
  have tk : ∀ {i : Nat} {a : Addr}, (W'.adr.take n)[i]? = some a → i < n ∧ W'.adr[i]? = some a := fun {i a} e => by
    have h := (List.getElem?_eq_some_iff.mp e).1
    rw [List.length_take] at h
    have h : i < n := by omega
    rw [List.getElem?_take_of_lt h] at e
    exact ⟨h, e⟩
  have kt : ∀ {i : Nat} {a : Addr}, i < n → W'.adr[i]? = some a → (W'.adr.take n)[i]? = some a := fun h e => (List.getElem?_take_of_lt h).trans e
  have x : Le W ⟨W'.Z, W'.adr.take n⟩ := ⟨S.le.z, fun i a e => kt (hi e) (S.le.a i a e)⟩
  have mem : ∀ {a : Addr}, a ∈ W'.adr.take n → a ∈ W'.adr := fun m => List.mem_of_mem_take m
  have G₁ : Good B s'.heap ⟨W'.Z, W'.adr.take n⟩ (σ.take n) := by
    refine ⟨G'.hz, G'.bz, G'.tab, fun a t => ⟨(G'.sepT a t).1, fun m => (G'.sepT a t).2 (mem m)⟩, fun a m => G'.sepA a (mem m), (by show (W'.adr.take n).length = _; rw [List.length_take, List.length_take, hL]), fun i a m e e' => ?_, fun i j a e e' => G'.inj i j a (tk e).2 (tk e').2⟩
    obtain ⟨h1, h2⟩ := tk e
    have hm := List.all_eq_true.mp ht m (List.mem_of_getElem? e')
    rw [List.getElem?_take_of_lt h1] at e'
    cases G'.ent i a m h2 e' with
    | lst vs j q r l => exact .lst vs j q (r.cut (n := n) (W := W') (W' := ⟨W'.Z, W'.adr.take n⟩) (fun z_ z_ e => e) (fun z_ z_ h e => kt h e) hm) l
    | sent q => exact .sent q
    | dead vs j q => exact .dead vs j q
  have S₁ : Step B Em s W st s' ⟨W'.Z, W'.adr.take n⟩ (σ.take n) := ⟨x, fun a o e => let q := S.kp a o e; ⟨q.z, fun m => q.m (mem m), fun ⟨i, p, p'⟩ => q.l ⟨i, (tk p).2, fun c => p' ((List.getElem?_take_of_lt (tk p).1).trans c)⟩, q.k, q.e⟩, S.os, S.gens⟩
  cases R with
  | flat h => exact ⟨_, G₁, S₁, r.cut (n := n) (W := W') (W' := ⟨W'.Z, W'.adr.take n⟩) (fun z_ z_ e => e) (fun z_ z_ h e => kt h e) h⟩
  | @lst m l hnm hm hll =>
    obtain ⟨a, vs, j, e, q, r', lim⟩ := G'.lst hm
    obtain ⟨a', e'⟩ := r.ref'
    rw [e] at e'; cases e'
    have hA := List.mem_of_getElem? e
    have hN : s.heap.get? a = none := by
      cases p : s.heap.get? a with
      | none => rfl
      | some o =>
        obtain ⟨i, hi', p'⟩ := List.getElem_of_mem ((S.kp a o p).m hA)
        have p' : W.adr[i]? = some a := by rw [List.getElem?_eq_getElem hi', p']
        have := G'.inj i m a (S.le.a _ _ p') e
        have := hi p'
        omega
    have hW : a ∉ W'.adr.take n := fun m' => by
      obtain ⟨i, hi', p'⟩ := List.getElem_of_mem m'
      obtain ⟨h1, h2⟩ := tk (i := i) (a := a) (by rw [List.getElem?_eq_getElem hi', p'])
      have := G'.inj i m a h2 e
      omega
    have z := G'.sepA a hA
    refine ⟨_, G₁.add q z hW fun t => (G'.sepT a t).2 hA, S₁.add (o := listO vs j) hN z, .lst Wd.add_self (VRs.cut (n := n) ?_ (fun z_ z_ h e => kt h e) r' hll) lim⟩
    intro b o p
    exact (Wd.add_ne fun c => by rw [c, z] at p; cases p).trans p

noncomputable def ltK (n : Nat) (ks : List (Str × D)) : Bool := D.lts n (ks.map (·.2))
theorem pure_fn (FA : FnAt B fa fd sc body) (hb : BdOk B fd ds ks vars) (ho : (bindsOk sc vars && scopeOk sc) = true) (hp : (D.lts 0 ds && ltK 0 ks) = true) (h : Ru B k sc vars body [] fun f _ σ => Res 0 σ (resOf f) d) : CallOk B (k + 2) (.ref fa) ds ks st d st := fun A s W us kus R G ru rk => by
  rw [Bool.and_eq_true] at hp
  have c0 : ∀ (i : Nat) (a : Addr), i < 0 → W.adr[i]? = some a → (Wd.mk W.Z []).adr[i]? = some a := fun i z_ h => absurd h (Nat.not_lt_zero i)
  exact wpAny_mono (call_fn FA R G.nil (ru.cut (n := 0) (W := W) (W' := ⟨W.Z, []⟩) (fun z_ z_ e => e) c0 hp.1) ⟨rk.n, rk.r.cut (n := 0) (W := W) (W' := ⟨W.Z, []⟩) (fun z_ z_ e => e) c0 hp.2⟩ hb ho h) (fun u s' ⟨f, v', σ, W', G', S, r, q⟩ => got_pure G G' S r q) fun z_ z_ e => e
theorem st_fn (FA : FnAt B fa fd sc body) (hb : BdOk B fd ds ks vars) (ho : (bindsOk sc vars && scopeOk sc) = true) (h : Ru B k sc vars body st fun f _ σ => resOf f = d ∧ σ = st') : CallOk B (k + 2) (.ref fa) ds ks st d st' := fun A s W us kus R G ru rk =>
  wpAny_mono (call_fn FA R G ru rk hb ho h) (fun u s' ⟨f, v', σ, W', G', S, r, q⟩ => by obtain ⟨rfl, rfl⟩ := q; exact ⟨W', G', S, r⟩) fun z_ z_ e => e
theorem cut_fn (n : Nat) (FA : FnAt B fa fd sc body) (hb : BdOk B fd ds ks vars) (ho : (bindsOk sc vars && scopeOk sc) = true) (hn : st.length ≤ n) (h : Ru B k sc vars body st fun f _ σ => Res n σ (resOf f) d ∧ n ≤ σ.length ∧ σ.take n = st' ∧ st'.all (Mo.lt n) = true) : CallOk B (k + 2) (.ref fa) ds ks st d st' := fun A s W us kus R G ru rk =>
  wpAny_mono (call_fn FA R G ru rk hb ho h) (fun u s' ⟨f, v', σ, W', G', S, r, q1, q2, q3, q4⟩ => by subst q3; exact got_cut G G' S r q1 hn q2 q4) fun z_ z_ e => e
theorem fnAt_keep (FA : FnAt B fa fd sc body) : KeepT B (.ref fa) := fun M A s W st G => let ⟨o, hz, hd⟩ := FA.z; keep_func (G.hz _ _ (G.bz _ _ hz)) hd
theorem fn_pure (F : FnT B f sc body bd) (hb : bd ds ks = some vars) (ho : (bindsOk sc vars && scopeOk sc) = true) (hp : (D.lts 0 ds && ltK 0 ks) = true) (h : Ru B k sc vars body [] fun f _ σ => Res 0 σ (resOf f) d) : FnG B (k + 2) f ds ks st d st :=
  let ⟨_, _, hn, FA, b⟩ := F; ⟨_, hn, fnAt_keep FA, pure_fn FA (b _ _ _ hb) ho hp h⟩
theorem fn_st (F : FnT B f sc body bd) (hb : bd ds ks = some vars) (ho : (bindsOk sc vars && scopeOk sc) = true) (h : Ru B k sc vars body st fun f _ σ => resOf f = d ∧ σ = st') : FnG B (k + 2) f ds ks st d st' :=
  let ⟨_, _, hn, FA, b⟩ := F; ⟨_, hn, fnAt_keep FA, st_fn FA (b _ _ _ hb) ho h⟩
theorem fn_cut (n : Nat) (F : FnT B f sc body bd) (hb : bd ds ks = some vars) (ho : (bindsOk sc vars && scopeOk sc) = true) (hn : st.length ≤ n) (h : Ru B k sc vars body st fun f _ σ => Res n σ (resOf f) d ∧ n ≤ σ.length ∧ σ.take n = st' ∧ st'.all (Mo.lt n) = true) : FnG B (k + 2) f ds ks st d st' :=
  let ⟨_, _, hm, FA, b⟩ := F; ⟨_, hm, fnAt_keep FA, cut_fn n FA (b _ _ _ hb) ho hn h⟩
theorem VR.hdrV {m : Nat} {W : Wd} {u : Value} (r : VR C W (.hdr m) u) : HdrV C W u := by
  cases r with | hdr hh hi _ => exact ⟨_, _, hh, hi⟩
theorem me_pure {m : Nat} (F : MeT B f sc body bd) (hb : bd (.hdr m :: ds) ks = some vars) (ho : (bindsOk sc vars && scopeOk sc) = true) (h : Ru B k sc vars body st fun f _ σ => resOf f = d ∧ σ = st') : MtG B (k + 2) (.hdr m) f st₀ ds ks st d st' :=
  let ⟨_, _, hg, FA, b⟩ := F; ⟨_, fnAt_keep FA, fun A s W u pl Q E G r q => hg A s W _ u pl Q E G r.hdrV q, st_fn FA (b _ _ _ hb) ho h⟩
theorem me_cut {m : Nat} (n : Nat) (F : MeT B f sc body bd) (hb : bd (.hdr m :: ds) ks = some vars) (ho : (bindsOk sc vars && scopeOk sc) = true) (hn : st.length ≤ n) (h : Ru B k sc vars body st fun f _ σ => Res n σ (resOf f) d ∧ n ≤ σ.length ∧ σ.take n = st' ∧ st'.all (Mo.lt n) = true) : MtG B (k + 2) (.hdr m) f st₀ ds ks st d st' :=
  let ⟨_, _, hg, FA, b⟩ := F; ⟨_, fnAt_keep FA, fun A s W u pl Q E G r q => hg A s W _ u pl Q E G r.hdrV q, cut_fn n FA (b _ _ _ hb) ho hn h⟩
end
end Mine
namespace Mine
open PySem PySem.W PyProof.Rows PySem.Calls PySem.Builtin PySem.Builtin.Re

theorem rs_slot : Slot "re.Pattern" "sub" "re.Pattern.sub" :=
  .of (owner := "re.Pattern") (n := "sub") (by rw [typeLookup_type, builtinLookup_eq_fast]; kernel_rfl) (by decide +kernel) (by decide +kernel) (by decide +kernel)
    (by first | exact .inl (by decide +kernel) | exact .inr (by decide +kernel)) (by rw [isSubtype_type]; kernel_rfl)
theorem rs_type : typeOf (.builtin "re.Pattern.sub") = pure (.type "method_descriptor") := by show builtinType _ = _; rw [builtinType_eq_fast]; kernel_rfl
theorem rs_entry : entryFor table "re.Pattern.sub" = some Builtin.«re.Pattern.sub» := entryFor_of_tree (by kernel_rfl)
theorem rs_loop_entry : entryFor table "re.Pattern.sub.loop" = some Builtin.«re.Pattern.sub.loop» := entryFor_of_tree (by kernel_rfl)
theorem rs_args (a b c : Value) : argsOk "re.Pattern.sub" ⟨[a, b, c], []⟩ := by unfold argsOk; kernel_rfl
theorem rs_named (id f : String) (v w : Value) : reNamed id f ["repl", "string", "count"] 2 [v, w] [] = pure [some v, some w, none] := by
  unfold reNamed
  first
    | rfl
    | kernel_rfl
    | (simp; rfl)
theorem rs_called : typeLookup (.type "function") "__call__" = pure (some (.builtin "function.__call__")) := by
  rw [typeLookup_type, builtinLookup_eq_fast]; kernel_rfl
theorem rs_sub1 : isSubtype (.type "str") (.type "bytearray") = pure false := by rw [isSubtype_type]; kernel_rfl
theorem rs_get {M : Model} {A : Around} {E : Value → Shared → Prop} {s : Shared} {Q : Value × List Value → Shared → Prop} {pl : Sem Bool} {pa ca : Addr} {p : Str} {t u : Tok} {g : Int} (h1 : s.heap.get? pa = some (patO p t u g ca)) (h : Q (.builtin "re.Pattern.sub", [.ref pa]) s) :
    wpAny M A (getMethod (.ref pa) "sub" pl) Q E s :=
  getMethod_builtin ⟨_, h1, rfl⟩ re_plain rs_slot rs_type (fun b hb => by cases hb; exact ⟨_, h1, rfl⟩) h

section
variable {prog : Program} {w : World} {A : Around} {E : Value → Shared → Prop} {s : Shared} {pa ca : Addr} {p x : Str} {t u tx : Tok} {g : Int} {items : Array Value} {m : Nat} {code : Array Nat}

theorem whole_ok {M : Model} {Q : ReTarget → Shared → Prop} (hcode : (items.map reRawOf).map (·.toNat) = code) (h1 : s.heap.get? pa = some (patO p t u g ca)) (h2 : s.heap.get? ca = some { cls := .type "tuple", data := .seq items m })
    (h : ∀ gr, Q { pattern := .ref pa, string := .str x tx, code := code, text := x.cps, kind := 0, groups := gr, pos := 0, lim := x.cps.size } s) : wpAny M A (reWholeTarget (.ref pa) (.str x tx)) Q E s := by
  unfold reWholeTarget
  refine wpAny_bind (wpAny_fieldsOf h1 rfl ?_)
  have htext : reTextOf (.str x tx) = pure (x.cps, 0) := by first | rfl | kernel_rfl
  rw [htext]
  refine wpAny_bind (wpAny_pure ?_)
  refine KFB.if_not (by first | rfl | decide) ?_
  refine KFB.if_not (by first | rfl | decide) ?_
  refine wpAny_bind ?_
  have hcoll : reNoCollectionInside (.str x tx) 0 = pure () := by first | rfl | kernel_rfl
  rw [hcoll]
  refine wpAny_pure ?_
  refine wpAny_bind ?_
  show wpAny _ _ (reRawItems (.ref ca)) _ _ s
  unfold reRawItems
  refine wpAny_bind (wpAny_seqItems h2 rfl (wpAny_pure ?_))
  simp only [Option.getD_some, hcode]
  exact wpAny_pure (h _)

theorem next_none {M : Model} {Q : Option Sre.M → Shared → Prop} {gr : Nat} {pv sv : Value} (hset : ∀ m : Sre.M, m.code = code → m.hasFirstSet = true) (hx : NoneIn code x.cps.toList) (h : Q none s) :
    wpAny M A (reNextFound { pattern := pv, string := sv, code := code, text := x.cps, kind := 0, groups := gr, pos := 0, lim := x.cps.size } 0 false) Q E s := by
  unfold reNextFound
  obtain ⟨q1, q2, q3⟩ := search_none (code := code) (text := x.cps) (groups := gr) (lim := x.cps.size) (adv := false) hset hx (Nat.le_refl _)
  exact run_end q1 q2 q3 h

theorem extract_all (a : Array Nat) : a.extract 0 a.size = a := by simp
theorem loop_code {A : Around} {R : Result → Shared → Prop} {l : Addr} {fv : Value} (hcode : (items.map reRawOf).map (·.toNat) = code) (hset : ∀ m : Sre.M, m.code = code → m.hasFirstSet = true) (hx : NoneIn code x.cps.toList) (hsz : x.length ≤ 1048576)
    (h1 : s.heap.get? pa = some (patO p t u g ca)) (h2 : s.heap.get? ca = some { cls := .type "tuple", data := .seq items m }) (h3 : s.heap.get? l = some { cls := .type "list", data := .seq #[] })
    (h : ∀ h' tk tx', Heap.SameBut l s.heap h' → R (.ok (.ret (.str x tx'))) { s with heap := h', toks := tk }) :
    codeAny (model prog w) A (.builtin "re.Pattern.sub.loop" ⟨[.ref pa, .str x tx, fv, rawInt 1, rawInt 0, rawInt 0, rawInt 0, rawInt 0, .bool false, .ref l, .bool false], []⟩) R s := by
  refine codeAny_builtin rs_loop_entry ?_
  unfold Builtin.«re.Pattern.sub.loop»
  dsimp only [rawInt]
  refine wpAny_bind (whole_ok hcode h1 h2 fun gr => ?_)
  refine KFB.if_not (by first | rfl | decide) ?_
  refine wpAny_bind (m := (if ((0 : Int) != 0 && decide ((0 : Int) ≥ 0)) = true then pure none else reNextFound _ _ _)) ?_
  refine KFB.if_not (by first | rfl | decide) ?_
  refine next_none hset hx ?_
  have q0 : x.cps.size = x.length := rfl
  by_cases hs : 0 < x.cps.size
  · rw [if_pos (by exact hs)]
    refine wpAny_bind ?_
    unfold reSlice
    refine KFB.if_so rfl ?_
    refine wpAny_mkStr ?_ (by show _ ≤ sizeLine; rw [sizeLine_eq]; show (x.cps.extract 0 x.cps.size).size ≤ _; rw [extract_all]; omega)
    refine wpAny_bind (wpAny_updateSeq (xs := #[]) (n := 0) h3 rfl ?_)
    have e0 : ({ cps := x.cps.extract (Int.toNat 0) x.cps.size } : Str) = x := by show ({ cps := x.cps.extract 0 x.cps.size } : Str) = x; rw [extract_all]
    dsimp only
    rw [e0]
    have hu : (s.heap.update l (Obj.mapSeq fun y => y.push (.str x s.toks))).get? l = some { cls := .type "list", data := .seq #[.str x s.toks] 1 } := by
      rw [Heap.get?_update_self _ h3 (by rw [Obj.mapSeq_push_plain]; rfl), Obj.mapSeq_push_plain]; rfl
    have hb : Heap.SameBut l s.heap (s.heap.update l (Obj.mapSeq fun y => y.push (.str x s.toks))) := Heap.SameBut.update ..
    generalize s.heap.update l (Obj.mapSeq fun y => y.push (.str x s.toks)) = H at hu hb ⊢
    refine wpAny_bind (KFB.if_so rfl (wpAny_mkStr ?_ (by show _ ≤ sizeLine; rw [sizeLine_eq]; simp [Str.length])))
    refine wpAny_bind (wpAny_seqItems hu rfl ?_)
    refine KFB.if_not rfl ?_
    refine wpAny_bind (join_list (ys := [x]) ⟨_, hu, rfl, 1, rfl⟩ (.cons x _ .nil) ?_ fun t' k => ?_)
    · simp [Str.length]; simp [Str.length] at hsz; omega
    · refine KFB.if_not rfl (wpAny_pure ?_)
      exact h H _ _ hb
  · rw [if_neg (by exact hs)]
    have hx0 : x.cps = #[] := Array.eq_empty_of_size_eq_zero (by omega)
    refine wpAny_bind (KFB.if_so rfl (wpAny_mkStr ?_ (by show _ ≤ sizeLine; rw [sizeLine_eq]; simp [Str.length])))
    refine wpAny_bind (wpAny_seqItems h3 rfl ?_)
    refine KFB.if_so rfl (wpAny_bind (wpAny_pure (KFB.if_not rfl (wpAny_pure ?_))))
    have e0 : ({ cps := x.cps.extract 0 0 } : Str) = x := by
      obtain ⟨c⟩ := x
      simp only at hx0
      subst hx0; rfl
    dsimp only
    rw [e0]
    exact h s.heap _ _ ⟨rfl, fun z_ z_ => rfl⟩

theorem sub_call {Q : Value → Shared → Prop} {f : Addr} {fd : FuncData} (hcode : (items.map reRawOf).map (·.toNat) = code) (hset : ∀ m : Sre.M, m.code = code → m.hasFirstSet = true) (hx : NoneIn code x.cps.toList) (hsz : x.length ≤ 1048576)
    (h1 : s.heap.get? pa = some (patO p t u g ca)) (h2 : s.heap.get? ca = some { cls := .type "tuple", data := .seq items m }) (h3 : s.heap.get? f = some { cls := .type "function", data := .func fd })
    (h : ∀ h' tk tx', (∀ a o, s.heap.get? a = some o → h'.get? a = some o) → Q (.str x tx') { s with heap := h', toks := tk }) :
    wpAny (model prog w) A (call (.builtin "re.Pattern.sub") [.ref pa, .ref f, .str x tx]) Q E s := by
  refine wpAny_call (codeAny_call_builtin rs_slot.plain rs_entry (rs_slot.check _ _ _ _ _ _ _ _ ⟨_, h1, rfl⟩ (rs_args _ _ _) ?_))
  unfold Builtin.«re.Pattern.sub» reSubstitute
  dsimp only
  refine wpAny_bind ?_
  rw [rs_named]
  refine wpAny_pure ?_
  dsimp only
  refine wpAny_bind (wpAny_pure ?_)
  refine wpAny_bind (wpAny_specialOf ⟨_, h3, rfl⟩ rs_called ?_)
  refine KFB.if_so rfl (wpAny_bind (wpAny_pure ?_))
  refine KFB.if_so rfl (wpAny_bind (wpAny_pure ?_))
  refine wpAny_bind (wpAny_holding (whole_ok hcode h1 h2 fun gr => ?_))
  refine KFB.if_so rfl (wpAny_bind ?_)
  unfold reNotHeld
  refine wpAny_bind (wpAny_isInstance_val rfl rs_sub1 ?_)
  refine KFB.if_not rfl (wpAny_pure ?_)
  refine wpAny_bind (wpAny_newList ?_)
  refine wpAny_pure ⟨by first | rfl | kernel_rfl | simp [Code.quiet], ?_⟩
  have k : ∀ a o, s.heap.get? a = some o → (s.heap.push { cls := .type "list", data := .seq #[] }).get? a = some o := fun a o e => Heap.get?_push_of_some _ e
  refine loop_code hcode hset hx hsz (k _ _ h1) (k _ _ h2) (Heap.get?_push_size _ rfl) fun h' tk tx' hb => ?_
  refine h h' tk tx' fun a o e => ?_
  rw [hb.2 a (Nat.ne_of_lt (Heap.lt_size e))]
  exact k a o e
end
end Mine
namespace Mine
open PySem PySem.W PyProof.Rows PySem.Calls PySem.Builtin

theorem td_sub : isSubtype (.type "KeyError") (.type "LookupError") = pure true := by rw [isSubtype_type]; kernel_rfl
section
variable {prog : Program} {w : World} {A : Around} {E : Value → Shared → Prop} {s : Shared} {d : Addr} {f : Int → Option Value} {c : Nat}

theorem tab_look {Q : Str.Mapped → Shared → Prop} (hm : s.heap.MapOf (intKind prog w) d f) (hd : (d == sysModules) = false) (hh : A.handled = none)
    (h0 : f c = none → ∀ h' tk, (∀ a o, s.heap.get? a = some o → h'.get? a = some o) → Q .keep { s with heap := h', toks := tk })
    (h1 : ∀ v, f c = some v → ∃ y t, v = .str y t ∧ ∀ tk, Q (.text y) { s with toks := tk }) : wpAny (model prog w) A (Str.tableLookup (.ref d) c) Q E s := by
  unfold Str.tableLookup
  refine wpAny_bind (wpAny_attempt (wpAny_bind (wpAny_mkInt ?_)))
  cases hf : f c with
  | none =>
    refine wpAny_getItem_missing_of (k := (c : Int)) (intKind_is _ _ _ _) hd hh (f := f) hm hf fun h' e x => ?_
    obtain ⟨ob, t, he, hc, hdt⟩ := x.there
    refine wpAny_bind (wpAny_isInstance (T := "KeyError") ⟨ob, he, hc⟩ td_sub ?_)
    refine KFB.if_so rfl (wpAny_bind (wpAny_rule (wpAny_pure ?_)))
    exact h0 hf _ _ x.keeps
  | some v =>
    obtain ⟨y, t, rfl, hq⟩ := h1 v hf
    refine wpAny_getItem_of (k := (c : Int)) (intKind_is _ _ _ _) hm hf ?_
    dsimp only
    have e1 : asInt? (.str y t) = pure none := by first | rfl | kernel_rfl
    have e2 : asStr? (.str y t) = pure (some y) := by first | rfl | kernel_rfl
    rw [e1]
    refine wpAny_bind (wpAny_pure ?_)
    rw [e2]
    exact wpAny_bind (wpAny_pure (wpAny_pure (hq _)))

theorem translate_call {Q : Value → Shared → Prop} {x : Str} {t : Tok} (hx : x.cps.toList = [c]) (hc : c < 128) (hd : (d == sysModules) = false) (hh : A.handled = none) (hm : s.heap.MapOf (intKind prog w) d f)
    (h0 : f c = none → ∀ y h' tk tx, y.cps.toList = [c] → (∀ a o, s.heap.get? a = some o → h'.get? a = some o) → Q (.str y tx) { s with heap := h', toks := tk })
    (h1 : ∀ v, f c = some v → ∃ y t, v = .str y t ∧ y.cps.size = 2 ∧ ∀ z h' tk tx, z.cps.toList = y.cps.toList → (∀ a o, s.heap.get? a = some o → h'.get? a = some o) → Q (.str z tx) { s with heap := h', toks := tk }) :
    wpAny (model prog w) A (call (.builtin "str.translate") [.str x t, .ref d]) Q E s := by
  have hx' : x = ⟨#[c]⟩ := by
    obtain ⟨a⟩ := x
    simp only at hx
    have : a = #[c] := Array.toList_inj.mp hx
    rw [this]
  subst hx'
  refine wpAny_call_entry F.slot_str_translate (typeIs_str _ _ _) F.entry_str_translate ?_ (F.args_str_translate_2 _ _)
  unfold Builtin.«str.translate»
  have e1 : Str.strOneArg "translate" ⟨[.str ⟨#[c]⟩ t, .ref d], []⟩ = pure (.str ⟨#[c]⟩ t, ⟨#[c]⟩, .ref d) := by first | rfl | kernel_rfl
  rw [e1]
  refine wpAny_bind (wpAny_pure ?_)
  refine KFB.if_not (by first | rfl | decide) ?_
  have hall : (#[c].all fun x => decide (x < 128)) = true := by simp [hc]
  dsimp only
  rw [hall]
  rw [List.forIn_toArray, List.forIn_cons]
  refine wpAny_bind (wpAny_bind (KFB.if_not (by first | rfl | decide) ?_))
  rw [if_pos rfl]
  dsimp only [List.lookup]
  have hh' : A.in1.handled = none := hh
  have out : ∀ {z y : Str} {s' : Shared}, z.cps.toList = y.cps.toList → z.cps.size ≤ 2 → (∃ h' tk, s' = { s with heap := h', toks := tk } ∧ (∀ a o, s.heap.get? a = some o → h'.get? a = some o)) → (∀ tx h' tk, (∀ a o, s.heap.get? a = some o → h'.get? a = some o) → Q (.str z tx) { s with heap := h', toks := tk }) →
      wpAny (model prog w) A.in1 (retStr z) (fun fin s' => ∃ v, fin = Fin.done (.ret v) ∧ Q v s') E s' := fun {z y s'} e hsz ⟨h', tk, es, k⟩ hq => by
    subst es
    refine wpAny_bind (wpAny_mkStr (wpAny_pure ⟨_, rfl, hq _ _ _ k⟩) ?_)
    show z.cps.size ≤ sizeLine
    rw [sizeLine_eq]; omega
  refine wpAny_bind (tab_look hm hd hh' (fun hf h' tk k => ?_) fun v hv => ?_)
  · dsimp only
    refine wpAny_bind (wpAny_pure ?_)
    dsimp only
    refine wpAny_pure ?_
    dsimp only
    rw [List.forIn_nil]
    refine wpAny_pure ?_
    refine KFB.if_not (by first | rfl | decide) ?_
    exact out (z := ⟨#[c]⟩) (y := ⟨#[c]⟩) rfl (by simp) ⟨_, _, rfl, k⟩ fun tx h' tk k => h0 hf ⟨#[c]⟩ h' tk tx rfl k
  · obtain ⟨y, ty, rfl, hsz, hq⟩ := h1 v hv
    refine ⟨y, ty, rfl, fun tk => ?_⟩
    have hl : (y.length == 1 && y.cps.all fun x => decide (x < 128)) = false := by
      have : y.length = 2 := hsz
      rw [this]; rfl
    have hif : (if (y.length == 1 && y.cps.all fun x => decide (x < 128)) = true then some y.cps[0]? else none) = none := by rw [hl]; rfl
    dsimp only
    rw [hif]
    dsimp only
    refine wpAny_bind (wpAny_pure ?_)
    dsimp only
    refine wpAny_bind (wpAny_rule ?_)
    refine KFB.if_not rfl ?_
    refine wpAny_bind (tab_look (s := { s with toks := tk }) hm hd hh' (fun hf h' tk k => ?_) fun v hv' => ?_)
    · rw [hv] at hf; cases hf
    · rw [hv] at hv'; cases hv'
      refine ⟨y, ty, rfl, fun tk => ?_⟩
      dsimp only
      refine wpAny_pure ?_
      dsimp only
      rw [List.forIn_nil]
      refine wpAny_pure ?_
      dsimp only
      have hl2 : 0 + y.length = 2 := by show 0 + y.cps.size = 2; omega
      rw [hl2]
      refine KFB.if_not (by first | rfl | decide) ?_
      have hz : (List.foldl (fun (acc : Array Nat) (p : Str) => acc ++ p.cps) #[] [y].reverse).toList = y.cps.toList := by simp
      refine out (y := y) hz ?_ ⟨_, _, rfl, fun z_ z_ e => e⟩ fun tx h' tk k => hq _ h' tk tx hz k
      show (List.foldl (fun (acc : Array Nat) (p : Str) => acc ++ p.cps) #[] [y].reverse).size ≤ 2
      rw [← Array.length_toList, hz, Array.length_toList]; omega
end
end Mine
namespace Mine
open PySem PySem.W PyProof.Rows PySem.Calls

inductive LamT (B : Base) : Prop
  | mk (c P : Addr) : B.lcode = .ref c → B.T P → mainGlobals ≠ P → (∀ h : Heap, (∀ a o, B.Z a = some o → h.get? a = some o) → CodeHd h c P ∧ h.BuiltinsAt B.mg P) → LamT B
theorem closL_nofree {env : Env} : ∀ {names : List (Str × NameKind)} {acc : List (Str × Addr)}, (names.all fun p => !(p.2 == .free)) = true → closL env names acc = acc
  | [], acc, _ => rfl
  | (n, k) :: r, acc, h => by
    rw [List.all_cons, Bool.and_eq_true] at h
    have hk : (k == NameKind.free) = false := by simpa using h.1
    simp only [closL, hk, Bool.false_eq_true, if_false]
    exact closL_nofree h.2
section
variable {B : Base} {k : Nat} {A : Around} {env : Env} {sc ls : Scope} {v : Vars} {s : Shared} {W : Wd} {st st' : Sto} {h h' : Heap} {x r : Str} {e : Expr} {p q pos lp : Pos} {l : List Nat} {a7 a5 : List Expr} {body : Expr}
theorem Good.keepT (G : Good B h W st) (k : ∀ a o, h.get? a = some o → ¬ B.T a → h'.get? a = some o) (ht : ∀ P, B.T P → ∃ ps, h'.get? P = some (tabObj ps) ∧ TriplesOk ps.toList) : Good B h' W st :=
  ⟨fun a o e => k a o (G.hz a o e) fun t => (by rw [(G.sepT a t).1] at e; cases e), G.bz, ht, G.sepT, G.sepA, G.len, fun i a m e e' => (G.ent i a m e e').up .refl fun o q => k a o q fun t => (G.sepT a t).2 (List.mem_of_getElem? e), G.inj⟩
noncomputable def plainArgs (a : Arguments) : Bool := a.defaults.isEmpty && a.kw_defaults.isEmpty
theorem lambda_ok (L : LamT B) (O : OK B env sc v s W st) (hc : (kindOf sc "QUESTION_MARK").isSome = true) {params : Arguments} (h1 : plainArgs params = true) (h3 : (ls.names.all fun p => !(p.2 == .free)) = true) {Q : Value → Shared → Prop} {E : Value → Shared → Prop}
    (h : ∀ (f : Addr) (fd : FuncData) (s' : Shared), s.heap.get? f = none → s'.heap.get? f = some { cls := .type "function", data := .func fd } → Good B s'.heap W st → Step B Em s W st s' W st → Q (.ref f) s') :
    wpAny (model B.prog B.w) A (eval (.Lambda params body ls pos) env) Q E s := by
  obtain ⟨c, P, hl, hT, hgP, hx⟩ := L
  have hz := fun a o e => O.g.hz a o (O.g.bz a o e)
  obtain ⟨C, hb⟩ := hx _ hz
  obtain ⟨ps, hP, ht⟩ := O.g.tab P hT
  have hc := (O.e.code hc).trans hl
  have hdef : defaultsOf params env = ([], []) := by
    obtain ⟨a1, a2, a3, a4, a5, a6, a7⟩ := params
    obtain ⟨q1, q2⟩ := Bool.and_eq_true_iff.mp h1
    have e1 : a7 = [] := List.isEmpty_iff.mp q1
    have e2 : a5 = [] := List.isEmpty_iff.mp q2
    subst e1 e2
    rfl
  have hcl : closureFor ls env = pure [] := by
    rw [closure_ok (env := env) (csc := ls) fun p hp hk => ?_, closL_nofree h3]
    have := List.all_eq_true.mp h3 p hp
    rw [hk] at this
    exact absurd this (by decide)
  refine kla_eval hdef ?_
  have ext : ∀ {h' : Heap} {o : Obj} {tk : Nat}, Heap.ExtBut P s.heap h' → (∃ ps', h'.get? P = some (tabObj ps') ∧ TriplesOk ps'.toList) → Good B (h'.push o) W st ∧ Step B Em s W st { s with heap := h'.push o, toks := tk } W st := fun {h' o tk} hx ⟨ps', hp', ht'⟩ => by
    have k1 : ∀ a o, s.heap.get? a = some o → ¬ B.T a → h'.get? a = some o := fun a o e hn => hx a o (fun q => hn (q ▸ hT)) e
    refine ⟨(O.g.keepT k1 fun P' t => ?_).keep (keep_push o), ⟨.refl, fun a o e => ⟨id, id, id, fun t z_ z_ => keep_push _ _ _ (k1 a o e t), ?_⟩, rfl, rfl⟩⟩
    · by_cases q : P' = P
      · subst q; exact ⟨_, hp', ht'⟩
      · obtain ⟨ps, e, t'⟩ := O.g.tab P' t
        exact ⟨ps, hx P' _ q e, t'⟩
    · by_cases q : a = P
      · subst q; exact ⟨_, keep_push _ _ _ hp'⟩
      · exact ⟨o, keep_push _ _ _ (hx a o q e)⟩
  cases hf : codeAmong pos ps.toList with
  | none =>
    refine kla_makeFunction (mg := B.mg) hcl O.e.glob (B.g _ hz) hc C hP ht hf hgP hb fun c' ctv h' tk hx hge hlt hrec htb => ?_
    obtain ⟨G, S⟩ := ext hx ⟨_, htb, by simpa using TriplesOk_snoc _ _ _ _ ht⟩
    exact h _ _ _ (Heap.get?_none_of_le (Nat.le_trans hge (Nat.le_of_lt hlt))) (Heap.get?_push_size _ rfl) G S
  | some cv =>
    refine kla_makeFunctionHit (mg := B.mg) hcl O.e.glob (B.g _ hz) hc C hP ht hf hb fun ctv h' tk hk hsz => ?_
    obtain ⟨G, S⟩ := ext (fun b o z_ e => hk b o e) ⟨_, hk _ _ hP, ht⟩
    exact h _ _ _ (Heap.get?_none_of_le hsz) (Heap.get?_push_size _ rfl) G S
set_option tactic.hygienic true in
theorem ev_sub {params : Arguments} (L : LamT B) (hq : (kindOf sc "QUESTION_MARK").isSome = true) (hk : gloKind sc r = true) (hv : ConT B r (.pat 2)) (h1 : plainArgs params = true) (h3 : (ls.names.all fun p => !(p.2 == .free)) = true) (hs : isStar e = false) (hc : callOk (.Name r p) q pos 2 = true)
    (he : Ev B k sc v e st (.str l) st') (hl : (l.all fun c => c != 38 && c != 126 && c != 124) = true) : Ev B k sc v (.Call (.Attribute (.Name r p) "sub" q) [.Lambda params body ls lp, e] [] pos) st (.str l) st' := fun A env s W R O => by
  have hsL : starEach [.Lambda params body ls lp, e] env = [(false, eval (.Lambda params body ls lp) env), (false, eval e env)] := by
    rw [star_plain rfl, star_plain hs]; rfl
  obtain ⟨pv, hv, hpat⟩ := hv
  refine methodCall_ok (args := [.Lambda params body ls lp, e]) (kws := []) hc (by rw [hsL]; rfl) rfl (global_ok O hk hv fun pl => ?_)
  cases hpat W O.g.bz with
  | @pat pa ca pp t u g items mm k e1 e2 c q =>
  refine rs_get (O.g.hz _ _ e1) ?_
  rw [hsL]
  refine callWith_ok rfl rfl (spliced_cons (x := eval (.Lambda params body ls lp) env) (lambda_ok L O hq h1 h3 fun f fd s₁ hn hf G S => spliced_cons (x := eval e env) ((he A env s₁ W R (O.step S G)).next (O.step S G) fun u s₂ W₂ O₂ S₂ r₂ => spliced_nil ?_)))
  have hnil : evalAll (List.map (fun x => x.2) (backToKw pos (keywordEach [] env))) = pure [] := rfl
  rw [hnil]
  refine wpAny_pure (And.intro (keep_builtin _) ?_)
  show wpAny _ _ (call (.builtin "re.Pattern.sub") [.ref pa, .ref f, u]) _ _ _
  obtain ⟨x', tx, q1, l1, c1⟩ := VR.str' r₂
  have fr := O.g.fresh hn
  have g3 : s₂.heap.get? f = some { cls := .type "function", data := .func fd } := (S₂.kp f _ hf).k fr.2.2 (fun c => c) fun ⟨i, l, _⟩ => fr.2.1 (List.mem_of_getElem? l)
  refine sub_call c (set_of rfl) ?_ ?_ (O₂.g.hz _ _ (S₂.le.z _ _ e1)) (O₂.g.hz _ _ (S₂.le.z _ _ e2)) g3 fun h₃ tk₃ tx' k => ?_
  · rw [q1]; exact twin_none c1 hl
  · show x'.cps.size ≤ _
    rw [← Array.length_toList, q1]; exact l1
  · exact ⟨W₂, O₂.g.keep k, (S.trans S₂).trans (.keep k tk₃), .str _ _ _ q1 l1 c1⟩
end
end Mine
namespace Mine
open PySem PySem.W PyProof.Rows PySem.Calls

noncomputable def refAt : Option (Option Value) → Option Addr
  | some (some (.ref a)) => some a
  | _ => none
noncomputable def gAdr (K : Frag) (f : Str) : Addr := (refAt (nsIn K mainGlobals f)).getD 0
noncomputable def gRef (K : Frag) (f : Str) : Bool := (refAt (nsIn K mainGlobals f)).isSome
noncomputable def gNone (K : Frag) (f : Str) : Bool := match nsIn K mainGlobals f with
  | some v => v.isNone
  | none => false
noncomputable def mAdr (K : Frag) (m : Str) : Addr := (refAt (findIn K (.ref (gAdr K "Headers")) m)).getD 0
theorem refAt_of {x : Option (Option Value)} {a : Addr} (h : refAt x = some a) : x = some (some (.ref a)) := by
  unfold refAt at h
  split at h
  · cases h; rfl
  · cases h
noncomputable def funcOf (o : Option Obj) : Option FuncData := match o with
  | some o => (match o.data with | .func fd => some fd | _ => none)
  | none => none
noncomputable def fData (K : Frag) (a : Addr) : FuncData := (funcOf (K.lookup a)).getD default
noncomputable def vRef : Value → Option Addr
  | .ref a => some a
  | _ => none
noncomputable def vInt : Value → Option (Int × Tok)
  | .int i t => some (i, t)
  | _ => none
noncomputable def vStr : Value → Option Str
  | .str s _ => some s
  | _ => none
noncomputable def flds (o : Option Obj) : List Value := match o with
  | some o => (match o.data with | .fields vs => vs.toList | _ => [])
  | none => []
noncomputable def codeIn (K : Frag) (cd : Value) (q : Str) : Bool := match vRef cd with
  | some c => ((flds (K.lookup c))[1]?.bind vStr) == some q
  | none => false
noncomputable def isFun : ScopeKind → Bool
  | .function => true
  | _ => false
noncomputable def fGood (K : Frag) (a : Addr) : Bool := (funcOf (K.lookup a)).isSome && (fData K a).closure.isEmpty && (fData K a).globals == mainGlobals && (fData K a).builtins == builtinsNs && codeIn K (fData K a).code (fData K a).qualname &&
  isFun (fData K a).scope.kind && !(fData K a).scope.isGenerator && !(fData K a).scope.isCoroutine

structure Ctx (B : Base) (K : Frag) : Prop where
  hK : ∀ a o, K.lookup a = some o → B.Z a = some o
  hC : B.C = gAdr K "Headers"
  mg : ∀ x v, nsIn K mainGlobals x = some v → B.mg x = v

section
variable {B : Base} {K : Frag} {f m : Str} {a : Addr} {bd : List D → List (Str × D) → Option Vars} {sc : Scope} {body : List Stmt} {h : Heap} {fd : FuncData} {names : List Str} {x : Str} {ds : List D} {ks : List (Str × D)} {vars : Vars} {d : D}
theorem Ctx.in (X : Ctx B K) (hz : ∀ a o, B.Z a = some o → h.get? a = some o) : K.In h := fun a o e => hz a o (X.hK a o e)
theorem Ctx.ref (X : Ctx B K) (h : gRef K f = true) : B.mg f = some (.ref (gAdr K f)) := by
  unfold gRef at h
  cases e : refAt (nsIn K mainGlobals f) with
  | none => rw [e] at h; cases h
  | some a => unfold gAdr; rw [e]; exact X.mg _ _ (refAt_of e)
set_option tactic.hygienic true in
theorem Ctx.none (X : Ctx B K) (h : gNone K f = true) : B.mg f = none := by
  unfold gNone at h
  split at h
  · rename_i v hv
    rw [X.mg _ _ hv]; cases v <;> first | rfl | cases h
  · cases h
set_option tactic.hygienic true in
theorem func_of {o : Option Obj} (h : funcOf o = some fd) : ∃ o', o = some o' ∧ o'.data = .func fd := by
  unfold funcOf at h
  split at h
  · split at h
    · rename_i e; cases h; exact ⟨_, rfl, e⟩
    · cases h
  · cases h
theorem func_get (h : (funcOf (K.lookup a)).isSome = true) : ∃ o, K.lookup a = some o ∧ o.data = .func (fData K a) := by
  unfold fData
  cases e : funcOf (K.lookup a) with
  | none => rw [e] at h; cases h
  | some fd => exact func_of e
set_option tactic.hygienic true in
theorem codeRec_of {cd : Value} {q : Str} (X : K.In h) (e : codeIn K cd q = true) : h.CodeRec cd q := by
  unfold codeIn at e
  cases cd with
  | ref c =>
    have e := eq_of_beq (show (((flds (K.lookup c))[1]?.bind vStr) == some q) = true from e)
    unfold flds at e
    split at e
    · rename_i o ho
      split at e
      · rename_i vs hd
        obtain ⟨v, hv, e⟩ := Option.bind_eq_some_iff.mp e
        unfold vStr at e
        split at e
        · cases e
          exact ⟨c, o, vs, _, rfl, X _ _ ho, hd, by simpa using hv⟩
        · cases e
      · cases e
    · cases e
  | _ => cases e
theorem Ctx.fnAt (X : Ctx B K) (h : fGood K a = true) (h1 : (fData K a).scope = sc) (h2 : (fData K a).body = .stmts body) (hq : (kindOf sc "QUESTION_MARK").isSome = true → (fData K a).code = B.lcode) : FnAt B a (fData K a) sc body := by
  unfold fGood at h
  simp only [Bool.and_eq_true] at h
  obtain ⟨⟨⟨⟨⟨⟨⟨p0, p1⟩, p2⟩, p3⟩, p4⟩, p5⟩, p6⟩, p7⟩ := h
  subst h1
  obtain ⟨o, ho, hd⟩ := func_get p0
  refine ⟨⟨o, X.hK _ _ ho, hd⟩, rfl, h2, List.isEmpty_iff.mp p1, eq_of_beq p2, eq_of_beq p3, fun h hz => codeRec_of (X.in hz) p4, hq, ?_, by simpa using p6, by simpa using p7⟩
  cases hk : (fData K a).scope.kind <;> rw [hk] at p5 <;> first | rfl | cases p5
theorem Ctx.fn (X : Ctx B K) (hr : gRef K f = true) (h : fGood K (gAdr K f) = true) (h1 : (fData K (gAdr K f)).scope = sc) (h2 : (fData K (gAdr K f)).body = .stmts body) (hq : (kindOf sc "QUESTION_MARK").isSome = true → (fData K (gAdr K f)).code = B.lcode)
    (hb : ∀ ds ks vars, bd ds ks = some vars → BdOk B (fData K (gAdr K f)) ds ks vars) : FnT B f sc body bd := ⟨_, _, .inl (X.ref hr), X.fnAt h h1 h2 hq, hb⟩
noncomputable def mGood (K : Frag) (m : Str) : Bool := (refAt (findIn K (.ref (gAdr K "Headers")) m)).isSome && plainGet K (gAdr K "Headers") m && isFn K (.ref (mAdr K m)) && fGood K (mAdr K m) && !(m == ("_headers" : Str))
theorem Ctx.meth (X : Ctx B K) (h : mGood K m = true) (h1 : (fData K (mAdr K m)).scope = sc) (h2 : (fData K (mAdr K m)).body = .stmts body) (hq : (kindOf sc "QUESTION_MARK").isSome = false) (hb : ∀ ds ks vars, bd ds ks = some vars → BdOk B (fData K (mAdr K m)) ds ks vars) : MeT B m sc body bd := by
  unfold mGood at h
  simp only [Bool.and_eq_true] at h
  obtain ⟨⟨⟨⟨p1, p2⟩, p3⟩, p4⟩, p5⟩ := h
  refine ⟨_, _, fun A s W st u pl Q E G r h => ?_, X.fnAt p4 h1 h2 (fun q => by rw [hq] at q; cases q), hb⟩
  cases r with
  | mk a b hh hi =>
    obtain ⟨d, oa, od, q1, q2, q3, q4, q5, q6⟩ := hh.ex
    rw [X.hC] at q4
    have hf : findIn K (.ref (gAdr K "Headers")) m = some (some (.ref (mAdr K m))) := by
      unfold mAdr
      cases e : refAt (findIn K (.ref (gAdr K "Headers")) m) with
      | none => rw [e] at p1; cases p1
      | some a => exact refAt_of e
    exact method_fn (X.in fun a o e => G.hz a o (G.bz a o e)) (od := some od) ⟨G.hz _ _ q1, q4, q5, by rw [q2]; exact G.hz _ _ q3⟩ (plainGet_of p2).1 (plainGet_of p2).2 hf (beq_iff_eq.mp p3) (by show (lookIn m od).map _ = _; rw [q6, if_neg (by simpa using p5)]; rfl) (h s.toks)
noncomputable def hGood (K : Frag) : Bool := plainGet K (gAdr K "Headers") "_headers" && hasDictIn K (gAdr K "Headers") && (match findIn K (.ref (gAdr K "Headers")) "_headers" with | some v => v.isNone | none => false)
set_option tactic.hygienic true in
theorem Ctx.attr (X : Ctx B K) (h : hGood K = true) : AttrT B := fun A s W st a u G hh hi Q E q => by
  unfold hGood at h
  simp only [Bool.and_eq_true] at h
  obtain ⟨⟨h1, h2⟩, h3⟩ := h
  split at h3
  · rename_i v ha
    have : v = Option.none := by cases v <;> first | rfl | cases h3
    subst this
    obtain ⟨d, oa, od, q1, q2, q3, q4, q5, q6⟩ := hh.ex
    rw [X.hC] at q4
    exact get_value (X.in fun a o e => G.hz a o (G.bz a o e)) (od := some od) ⟨G.hz _ _ q1, q4, q5, by rw [q2]; exact G.hz _ _ q3⟩ (plainGet_of h1).1 (findObj_own h2 ha rfl (by rw [q6, if_pos rfl])) hi (q _)
  · cases h3

noncomputable def tupAt (K : Frag) (v : Value) : Option (List Value) := match vRef v with
  | some a => (match K.lookup a with
    | some o => if o.cls == .type "tuple" && o.dict.isNone && o.slots.isEmpty then (match o.data with | .seq items _ => some items.toList | _ => none) else none
    | none => none)
  | none => none
noncomputable def patAt (K : Frag) (v : Value) : Option (List Value) := match vRef v with
  | some a => (match K.lookup a with
    | some o => if o.cls == .type "re.Pattern" && o.dict.isNone && o.slots.isEmpty then (match o.data with | .fields fs => some fs.toList | _ => none) else none
    | none => none)
  | none => none
set_option tactic.hygienic true in
theorem tupAt_of {v : Value} {vs : List Value} (h : tupAt K v = some vs) : ∃ a n, v = .ref a ∧ K.lookup a = some (tupO vs n) := by
  unfold tupAt at h
  cases v with
  | ref a =>
    simp only [vRef] at h
    split at h
    · rename_i o ho
      split at h
      · rename_i hc
        obtain ⟨oc, od, da, sl⟩ := o
        simp only [Bool.and_eq_true, beq_iff_eq] at hc
        obtain ⟨⟨c1, c2⟩, c3⟩ := hc
        split at h
        · rename_i items n hd
          cases h
          refine ⟨a, n, rfl, ho.trans ?_⟩
          simp only at c1 c2 c3 hd
          have c2 : od = Option.none := by cases od <;> first | rfl | cases c2
          have c3 : sl = #[] := by simpa using c3
          subst c1 c2 c3 hd
          simp [tupO]
        · cases h
      · cases h
    · cases h
  | _ => cases h
set_option tactic.hygienic true in
theorem patAt_of {v : Value} {vs : List Value} (h : patAt K v = some vs) : ∃ a, v = .ref a ∧ K.lookup a = some { cls := .type "re.Pattern", data := .fields vs.toArray } := by
  unfold patAt at h
  cases v with
  | ref a =>
    simp only [vRef] at h
    split at h
    · rename_i o ho
      split at h
      · rename_i hc
        obtain ⟨oc, od, da, sl⟩ := o
        simp only [Bool.and_eq_true, beq_iff_eq] at hc
        obtain ⟨⟨c1, c2⟩, c3⟩ := hc
        split at h
        · rename_i fs hd
          cases h
          refine ⟨a, rfl, ho.trans ?_⟩
          simp only at c1 c2 c3 hd
          have c2 : od = Option.none := by cases od <;> first | rfl | cases c2
          have c3 : sl = #[] := by simpa using c3
          subst c1 c2 c3 hd
          simp
        · cases h
      · cases h
    · cases h
  | _ => cases h
noncomputable def readD (K : Frag) (n : Nat) : D → Value → Bool := n.rec (fun z_ z_ => false) fun z_ f d v => match d with
  | .int j => (vInt v).map (·.1) == some j
  | .str l => (vStr v).map (·.cps.toList) == some l && decide (l.length ≤ LIM) && ascii l
  | .tup ds => (match tupAt K v with | some vs => ds.length == vs.length && (ds.zip vs).all (fun p => f p.1 p.2) && decide (ds.length ≤ LIM) | none => false)
  | _ => false
theorem vrs_zip {C : Addr} {W : Wd} : ∀ {ds : List D} {vs : List Value}, ds.length = vs.length → (∀ p ∈ ds.zip vs, VR C W p.1 p.2) → VRs C W ds vs
  | [], [], _, _ => .nil
  | d :: ds, v :: vs, h, q => .cons (q (d, v) (.head _)) (vrs_zip (Nat.succ.inj h) fun p hp => q p (.tail _ hp))
set_option tactic.hygienic true in
theorem readD_ok {W : Wd} (hK : ∀ a o, K.lookup a = some o → W.Z a = some o) : ∀ (n : Nat) (d : D) (v : Value), readD K n d v = true → VR B.C W d v := by
  intro n
  induction n with
  | zero => intro d v e; cases e
  | succ n ih =>
    intro d v e
    cases d with
    | int j =>
      cases v with
      | int i t => rw [← show i = j from Option.some.inj (eq_of_beq e)]; exact .int i t
      | _ => cases e
    | str l =>
      have e := Bool.and_eq_true_iff.mp e
      have e1 := Bool.and_eq_true_iff.mp e.1
      cases v with
      | str s t => exact .str s t l (Option.some.inj (eq_of_beq e1.1)) (of_decide_eq_true e1.2) e.2
      | _ => cases e1.1
    | tup ds =>
      have e' : (match tupAt K v with | some vs => ds.length == vs.length && (ds.zip vs).all (fun p => readD K n p.1 p.2) && decide (ds.length ≤ LIM) | none => false) = true := e
      clear e
      split at e'
      · rename_i vs hv
        obtain ⟨a, m, rfl, ha⟩ := tupAt_of hv
        have e2 := Bool.and_eq_true_iff.mp e'
        have e1 := Bool.and_eq_true_iff.mp e2.1
        exact .tup (hK _ _ ha) (vrs_zip (eq_of_beq e1.1) fun p hp => ih _ _ (List.all_eq_true.mp e1.2 p hp)) (of_decide_eq_true e2.2)
      · cases e'
    | _ => cases e
noncomputable def gCon (K : Frag) (f : Str) (d : D) : Bool := match nsIn K mainGlobals f with
  | some (some v) => readD K 40 d v
  | _ => false
set_option tactic.hygienic true in
theorem Ctx.con (X : Ctx B K) (h : gCon K f d = true) : ConT B f d := by
  unfold gCon at h
  split at h
  · rename_i v hv
    exact ⟨v, X.mg _ _ hv, fun W hz => readD_ok (fun a o e => hz _ _ (X.hK _ _ e)) _ _ _ h⟩
  · cases h
noncomputable def patOk7 (K : Frag) (k : Nat) (v0 v1 v2 v3 v4 v5 v6 : Value) : Bool := (vStr v0).isSome && (vInt v1).map (·.1) == some 32 && (vInt v2).map (·.2) == some 0 && v3 == .none && v4 == .none && v6 == .int 0 0 && (decide (2 ≤ k) || (vInt v2).map (·.1) == some 0) &&
    ((tupAt K v5).map fun items => ((items.toArray.map Builtin.Re.reRawOf).map (·.toNat)).toList == (patCode k).toList) == some true
noncomputable def patOk (K : Frag) (k : Nat) (vs : List Value) : Bool := (vs.length == 7) && patOk7 K k (vs.getD 0 .none) (vs.getD 1 .none) (vs.getD 2 .none) (vs.getD 3 .none) (vs.getD 4 .none) (vs.getD 5 .none) (vs.getD 6 .none)
theorem vStr_some {v : Value} (h : (vStr v).isSome = true) : ∃ p t, v = .str p t := by
  cases v with | str p t => exact ⟨p, t, rfl⟩ | _ => cases h
theorem vInt_some {v : Value} {α : Type} {f : Int × Tok → α} {x : α} (h : (vInt v).map f = some x) : ∃ i t, v = .int i t ∧ f (i, t) = x := by
  cases v with | int i t => exact ⟨i, t, rfl, Option.some.inj h⟩ | _ => cases h
theorem seven {vs : List Value} (h : vs.length = 7) : ∃ a b c d e f g, vs = [a, b, c, d, e, f, g] := by
  have one : ∀ {n : Nat} {l : List Value}, l.length = n + 1 → ∃ a r, l = a :: r ∧ r.length = n := fun {n l} h => by
    cases l with
    | nil => cases h
    | cons a r => exact ⟨a, r, rfl, Nat.succ.inj h⟩
  obtain ⟨a, r1, e1, h1⟩ := one h
  obtain ⟨b, r2, e2, h2⟩ := one h1
  obtain ⟨c, r3, e3, h3⟩ := one h2
  obtain ⟨d, r4, e4, h4⟩ := one h3
  obtain ⟨e, r5, e5, h5⟩ := one h4
  obtain ⟨f, r6, e6, h6⟩ := one h5
  obtain ⟨g, r7, e7, h7⟩ := one h6
  rw [e1, e2, e3, e4, e5, e6, e7, List.length_eq_zero_iff.mp h7]
  exact ⟨a, b, c, d, e, f, g, rfl⟩
noncomputable def gPat (K : Frag) (f : Str) (k : Nat) : Bool := match nsIn K mainGlobals f with
  | some (some v) => (match patAt K v with | some vs => patOk K k vs | none => false)
  | _ => false
set_option tactic.hygienic true in
theorem Ctx.pat (X : Ctx B K) {k : Nat} (h : gPat K f k = true) : ConT B f (.pat k) := by
  unfold gPat at h
  split at h
  · rename_i v hv
    split at h
    · rename_i vs hp
      obtain ⟨a, rfl, ha⟩ := patAt_of hp
      unfold patOk at h
      rw [Bool.and_eq_true] at h
      obtain ⟨v0, v1, v2, v3, v4, v5, v6, rfl⟩ := seven (eq_of_beq h.1)
      have h2 : patOk7 K k v0 v1 v2 v3 v4 v5 v6 = true := h.2
      clear h hp
      unfold patOk7 at h2
      simp only [Bool.and_eq_true] at h2
      obtain ⟨⟨⟨⟨⟨⟨⟨q0, q1⟩, q2⟩, q3⟩, q4⟩, q6⟩, q7⟩, q8⟩ := h2
      obtain ⟨items, hi, q9⟩ := Option.map_eq_some_iff.mp (eq_of_beq q8)
      obtain ⟨ca, m, rfl, hc⟩ := tupAt_of hi
      obtain ⟨p, t, rfl⟩ := vStr_some q0
      obtain ⟨i, u, rfl, e1⟩ := vInt_some (eq_of_beq q1)
      obtain ⟨g, u2, rfl, e2⟩ := vInt_some (eq_of_beq q2)
      rw [eq_of_beq q3, eq_of_beq q4, eq_of_beq q6, show i = 32 from e1, show u2 = 0 from e2] at ha
      refine ⟨_, X.mg _ _ hv, fun W hz => .pat (p := p) (t := t) (u := u) (g := g) (ca := ca) (hz _ _ (X.hK _ _ ha)) (hz _ _ (X.hK _ _ hc)) (Array.toList_inj.mp (eq_of_beq q9)) fun hk => ?_⟩
      rcases Bool.or_eq_true_iff.mp q7 with q | q
      · exact absurd (of_decide_eq_true q) (Nat.not_le.mpr hk)
      · exact Option.some.inj (eq_of_beq q)
    · cases h
  · cases h

noncomputable def bdPos (names : List Str) : List D → List (Str × D) → Option Vars := fun ds ks => if ks.isEmpty && ds.length == names.length then some (names.zip ds) else none
set_option tactic.hygienic true in
theorem bd_pos (h7 : ∀ us : List Value, us.length = names.length → bindArgs fd ⟨us, []⟩ = pure (names.zip us)) : ∀ ds ks vars, bdPos names ds ks = some vars → BdOk B fd ds ks vars := fun ds ks vars hb M A s W st us kus G ru rk Q E h => by
  unfold bdPos at hb
  split at hb
  · rename_i hc
    cases hb
    rw [Bool.and_eq_true, beq_iff_eq] at hc
    have hks : ks = [] := List.isEmpty_iff.mp hc.1
    subst hks
    cases vrf_nil rk
    rw [h7 us (by rw [ru.length, hc.2])]
    exact wpAny_pure (h _ s W G .refl (ru.zip hc.2))
  · cases hb
theorem zip_snoc {C : Addr} {W : Wd} {us : List Value} {u : Value} (ru : VRs C W ds us) (a : VR C W d u) (h : ds.length = names.length) : VRf C W ((names ++ [x]).zip (ds ++ [d])) ((names ++ [x]).zip (us ++ [u])) := VRs.zip (VRs.append (.cons a .nil) ru) (by rw [List.length_append, List.length_append, h]; rfl)
noncomputable def bdDef (names : List Str) (x : Str) : List D → List (Str × D) → Option Vars := fun ds ks => if ks.isEmpty && ds.length == names.length then some ((names ++ [x]).zip (ds ++ [.none])) else none
noncomputable def noneIn (K : Frag) (t : Value) : Bool := match vRef t with
  | some a => (match (K.lookup a) with | some o => (match o.data with | .seq items _ => items.toList == [.none] | _ => false) | none => false)
  | none => false
set_option tactic.hygienic true in
theorem none_items {t : Value} (hn : noneIn K t = true) {M : Model} {A : Around} {s : Shared} {Q : Option (Array Value) → Shared → Prop} {E : Value → Shared → Prop} (i : K.In s.heap) (h : Q (some #[.none]) s) : wpAny M A (seqItems? t) Q E s := by
  unfold noneIn at hn
  cases t with
  | ref a =>
    simp only [vRef] at hn
    split at hn
    · rename_i o ho
      split at hn
      · rename_i items n hd
        have hi : items = #[.none] := Array.toList_inj.mp (eq_of_beq hn)
        subst hi
        exact wpAny_seqItems (i _ _ ho) hd h
      · cases hn
    · cases hn
  | _ => cases hn
set_option tactic.hygienic true in
theorem bd_def (X : Ctx B K) (hn : noneIn K fd.defaults = true) (h7 : ∀ us : List Value, us.length = names.length → ∃ G, bindArgs fd ⟨us, []⟩ = seqItems? fd.defaults >>= G ∧ G (some #[.none]) = pure ((names ++ [x]).zip (us ++ [.none]))) :
    ∀ ds ks vars, bdDef names x ds ks = some vars → BdOk B fd ds ks vars := fun ds ks vars hb M A s W st us kus G ru rk Q E h => by
  unfold bdDef at hb
  split at hb
  · rename_i hc
    cases hb
    rw [Bool.and_eq_true, beq_iff_eq] at hc
    have hks : ks = [] := List.isEmpty_iff.mp hc.1
    subst hks
    cases vrf_nil rk
    obtain ⟨g, g1, g2⟩ := h7 us (by rw [ru.length, hc.2])
    rw [g1]
    refine wpAny_bind (none_items hn (X.in fun a o e => G.hz a o (G.bz a o e)) ?_)
    rw [g2]
    exact wpAny_pure (h _ s W G .refl (zip_snoc ru .none hc.2))
  · cases hb
noncomputable def bdKw (names : List Str) (x : Str) : List D → List (Str × D) → Option Vars := fun ds ks => if ks.map (·.1) == [x] && ds.length == names.length then some ((names ++ [x]).zip (ds ++ ks.map (·.2))) else none
set_option tactic.hygienic true in
theorem bd_kw (h7 : ∀ (us : List Value) (u : Value), us.length = names.length → bindArgs fd ⟨us, [(x, u)]⟩ = pure ((names ++ [x]).zip (us ++ [u]))) : ∀ ds ks vars, bdKw names x ds ks = some vars → BdOk B fd ds ks vars := fun ds ks vars hb M A s W st us kus G ru rk Q E h => by
  unfold bdKw at hb
  split at hb
  · rename_i hc
    cases hb
    rw [Bool.and_eq_true, beq_iff_eq, beq_iff_eq] at hc
    obtain ⟨⟨y, u⟩, l, rfl, h1, h2⟩ := List.map_eq_cons_iff.mp (rk.n.symm.trans hc.1)
    cases List.map_eq_nil_iff.mp h2
    have h1 : y = x := h1
    subst h1
    rw [h7 us u (by rw [ru.length, hc.2])]
    exact wpAny_pure (h _ s W G .refl (VRs.zip (VRs.append rk.r ru) (by
      have := congrArg List.length hc.1
      rw [List.length_map] at this; rw [List.length_append, List.length_append, hc.2, List.length_map, this])))
  · cases hb
noncomputable def bdDict (names : List Str) (x : Str) : List D → List (Str × D) → Option Vars := fun ds ks => if ks.isEmpty && ds.length == names.length then some ((names ++ [x]).zip (ds ++ [.dic0])) else none
set_option tactic.hygienic true in
theorem bd_dict (h7 : ∀ us : List Value, us.length = names.length → bindArgs fd ⟨us, []⟩ = alloc emptyDict >>= fun d => pure ((names ++ [x]).zip (us ++ [.ref d]))) : ∀ ds ks vars, bdDict names x ds ks = some vars → BdOk B fd ds ks vars := fun ds ks vars hb M A s W st us kus G ru rk Q E h => by
  unfold bdDict at hb
  split at hb
  · rename_i hc
    cases hb
    rw [Bool.and_eq_true, beq_iff_eq] at hc
    have hks : ks = [] := List.isEmpty_iff.mp hc.1
    subst hks
    cases vrf_nil rk
    rw [h7 us (by rw [ru.length, hc.2])]
    refine wpAny_bind (wpAny_alloc (wpAny_pure ?_))
    have f := G.fresh (size_none s.heap)
    have hq : (s.heap.objs.size == sysModules) = false := by
      obtain ⟨mc, ⟨o, es, ep, e, _⟩, _⟩ := B.nolim _ fun a o e => G.hz a o (G.bz a o e)
      exact beq_eq_false_iff_ne.mpr (Nat.ne_of_gt (Nat.lt_trans (by decide) (Heap.lt_size e)))
    exact h _ { s with heap := s.heap.push emptyDict } (W.add s.heap.objs.size emptyDict) ((G.keep (keep_push _)).add (Heap.get?_push_size _ rfl) f.1 f.2.1 f.2.2) ((Step.keep (keep_push emptyDict) s.toks).add (size_none _) f.1) (zip_snoc (ru.up (Wd.le_add f.1)) (.dic (ep := 0) Wd.add_self hq) hc.2)
  · cases hb
end
end Mine
namespace Mine
open PySem PySem.W PyProof.Rows PySem.Calls

theorem Ns.kp {h h' : Heap} {a : Addr} {m : Str → Option Value} (n : h.Ns a m) (k : ∀ b o, h.get? b = some o → h'.get? b = some o) : h'.Ns a m := by
  obtain ⟨o, es, ep, e, r⟩ := n
  exact ⟨o, es, ep, k _ _ e, r⟩

section
variable {prog : Program} {w : World} {A : Around} {env : Env} {s : Shared} {h₀ : Heap} {m : Str → Option Value} {news : List (Addr × Obj)} {E : Value → Shared → Prop} {K : Frag} {C x dx : Addr}

set_option tactic.hygienic true in
theorem for_empty {t it : Expr} {body : List Stmt} {pos : Pos} {a : Addr} {Q : Flow → Shared → Prop} (hh : A.handled = none) (F : Fr h₀ env.locals s.heap m) (N : News h₀ env.locals s.heap news) (hL : s.heap.IsList a #[])
    (hv : ∀ (Q : Value → Shared → Prop) (E : Value → Shared → Prop), Q (.ref a) s → wpAny (model prog w) A (eval it env) Q E s) (hs : ∀ x, foldedSetIterable it env x = pure x)
    (h : ∀ h' tk, Fr h₀ env.locals h' m → News h₀ env.locals h' news → Q .next { s with heap := h', toks := tk }) : wpAny (model prog w) A (exec (.For t it body [] pos) env) Q E s := by
  have hne : a ≠ s.heap.objs.size := by
    obtain ⟨o, e, _⟩ := hL
    exact Nat.ne_of_lt (Heap.lt_size e)
  refine wpAny_For (hv _ _ (wpAny_pyIter_list hL ?_)) hs
  refine codeAny_forLoop_any (fun z_ s' => s' = { s with heap := s.heap.push { cls := .type "list_iterator", data := .fields #[.ref a, .int 0 0] } }) ?_ 0 rfl
  rintro n s' rfl
  refine (Walks.list hh s.heap.objs.size a hne #[]).done _ _ _ ⟨⟨_, Heap.get?_push_size _ rfl, rfl, rfl⟩, hL.push _⟩ fun h' tk k => ?_
  have nw : ∀ b o, s.heap.get? b = some o → h'.get? b = some o := fun b o e => k b o (fun m => by
    rw [List.mem_singleton.mp m] at e
    exact absurd (Heap.lt_size e) (Nat.lt_irrefl _)) (Heap.get?_push_of_some _ e)
  exact wpAny_execs_nil (h h' tk (F.keeps nw) (N.grown nw))

set_option tactic.hygienic true in
theorem init_walk {mg mb : Str → Option Value} {p1 p2 p3 p4 p5 p6 p7 p8 q1 q2 q3 q4 q5 q6 r1 r2 r3 r4 u1 u2 u3 u4 : Pos} {kc kd : Nat} {tgt : Expr} {b1 b2 : List Stmt} {Q : Flow → Shared → Prop}
    (hk : env.scope.kind = .function) (hh : A.handled = none) (hgl : env.globals = mainGlobals) (hbl : env.builtins = builtinsNs)
    (k1 : env.kindOf "headers" = some .local) (k2 : env.kindOf "self" = some .local) (k3 : env.kindOf "type" = some .globalImplicit) (k4 : env.kindOf "list" = some .globalImplicit)
    (F : Fr h₀ env.locals s.heap m) (N : News h₀ env.locals s.heap [(x, instObj C dx), (dx, emptyDict)]) (hxd : x ≠ dx) (X : K.In h₀) (hmh : m "headers" = some .none) (hms : m "self" = some (.ref x))
    (hG : h₀.Ns mainGlobals mg) (hB : h₀.Ns builtinsNs mb) (g3 : mg "type" = none) (g4 : mg "list" = none) (hbb : ∀ y : Str, y ≠ "__name__" → mb y = bootBuiltins y)
    (hs : findIn K (.ref C) "__setattr__" = some (some (.builtin "object.__setattr__"))) (hp : plainOver K C = true) (ht : takerIn K C "_headers" = some none) (hd : hasDictIn K C = true)
    (h : ∀ h' tk l od, Fr h₀ env.locals h' (fun y => if y = "headers" then some (.ref l) else m y) → News h₀ env.locals h' [(l, listO [] 0), (x, instObj C dx), (dx, od)] →
      (∀ y, lookIn y od = if y = "_headers" then some (some (.ref l)) else some none) → l ≠ x → l ≠ dx → Q .next { s with heap := h', toks := tk }) :
    wpAny (model prog w) A (execs [
      .Assign [.Name "headers" p1] (.IfExp (.Compare (.Name "headers" p2) [.IsNot] [.Constant .none kc p3] p4) (.Name "headers" p5) (.List [] p6) p7) p8,
      .If (.Compare (.Call (.Name "type" q1) [.Name "headers" q2] [] q3) [.IsNot] [.Name "list" q4] q5) b1 [] q6,
      .Assign [.Attribute (.Name "self" r1) "_headers" r2] (.Name "headers" r3) r4,
      .If (.Constant (.bool true) kd u1) [.For tgt (.Name "headers" u2) b2 [] u3] [] u4] env) Q E s := by
  refine wpAny_execs_cons (wpAny_Assign_Name (wpAny_IfExp (wpAny_isTrue_Compare1 (wpAny_Name (wpAny_loadName_local hk k1 F.ns hmh (wpAny_Constant_none (wpAny_isNot_self rfl (wpAny_truthy_bool ?_))))))) ?_)
  · show wpAny _ _ (eval (.List [] p6) env) _ _ _
    rw [arm_eval_List]
    refine wpAny_bind (wpAny_standAt (wpAny_bind (spliced_nil (newList_N F N (fun h1 F1 N1 => ?_)))))
    refine wpAny_storeName_local k1 F1.ns (fun h2 n2 s2 => ?_) (by rw [hk]; rfl)
    have F2 := F1.set n2 s2
    have N2 := N1.set s2
    generalize hl : s.heap.objs.size = l at N2 F2
    have hlx : l ≠ x := by
      rw [← hl]; exact N.fresh_ne _ (.head _)
    have hld : l ≠ dx := by
      rw [← hl]; exact N.fresh_ne _ (.tail _ (.head _))
    have e1 : (fun y => if y = ("headers" : Str) then some (Value.ref l) else m y) "headers" = some (.ref l) := if_pos rfl
    have e2 : (fun y => if y = ("headers" : Str) then some (Value.ref l) else m y) "self" = some (.ref x) := by
      show (if ("self" : Str) = "headers" then _ else _) = _
      rw [if_neg (by decide)]; exact hms
    have glob : ∀ {M : Model} {A : Around} {h' : Heap} {tk : Nat} {f : Str} {p : Pos} {fv : Value} {m' : Str → Option Value} {Q : Value → Shared → Prop} {E : Value → Shared → Prop}, Fr h₀ env.locals h' m' → env.kindOf f = some .globalImplicit → (f == ("__debug__" : Str)) = false → mg f = none → bootBuiltins f = some fv → f ≠ "__name__" →
        Q fv { s with heap := h', toks := tk } → wpAny M A (eval (.Name f p) env) Q E { s with heap := h', toks := tk } := fun F' kf df mf bf nf q =>
      Name_function_global hk kf (loadGlobal_builtin (mg := mg) (mb := mb) (by rw [hgl]; exact Ns.kp hG F'.keep) mf (by rw [hbl]; exact Ns.kp hB F'.keep) ((hbb _ nf).trans bf) q) df
    refine wpAny_execs_cons (wpAny_If (wpAny_isTrue_Compare1 (wpAny_Call_NameR (glob F2 k3 (by decide) g3 bb_type (by decide) ?_)) rfl))
    refine callWith_ok rfl rfl (spliced_cons (wpAny_Name (wpAny_loadName_local hk k1 F2.ns e1 (spliced_nil (evalAll_nil ⟨keep_type _, ?_⟩)))))
    refine call_type_of (x := .ref l) (Tx := "list") ?_ (by decide) ?_
    · exact Heap.IsList.typeIs (items := #[]) ⟨_, (N2 _ (.head _)).1, rfl, 0, rfl⟩
    refine glob F2 k4 (by decide) g4 (by kernel_rfl) (by decide) (wpAny_isNot_self rfl (wpAny_truthy_bool ?_))
    refine wpAny_execs_nil ?_
    refine wpAny_execs_cons (plainObj_wpAny_Assign_Attribute (wpAny_Name (wpAny_loadName_local hk k1 F2.ns e1 (wpAny_Name (wpAny_loadName_local hk k2 F2.ns e2 ?_)))))
    refine set_dict (C := C) (es := []) (n := 0) F2 X N2 (.of_news N2 (.tail _ (.head _)) (.tail _ (.tail _ (.head _)))) rfl hs hp ht hd rfl rfl (.tail hld (.tail hxd (.head fun p hp => by cases hp))) (show 1 ≤ 1000 by decide) fun h3 F3 N3 => ?_
    have e1' := e1
    refine wpAny_execs_cons (wpAny_If (wpAny_isTrue_value ?_))
    refine Constant_bool (wpAny_truthy_bool ?_)
    refine wpAny_execs_cons (for_empty hh F3 N3 ⟨_, (N3 _ (.head _)).1, rfl, 0, rfl⟩ (fun Q E q => wpAny_Name (wpAny_loadName_local hk k1 F3.ns e1 q)) (fun z_ => rfl) fun h4 tk F4 N4 => wpAny_execs_nil (wpAny_execs_nil ?_))
    refine h h4 tk l _ F4 N4 (fun y => ?_) hlx hld
    show getL y [⟨_, .str "_headers" _, .ref l⟩] = _
    unfold getL
    by_cases hy : y = "_headers"
    · subst hy; rfl
    · rw [if_neg hy]
      have hf : (("_headers" : Str) == y) = false := beq_eq_false_iff_ne.mpr fun e => hy e.symm
      simp only [List.find?_cons, Value.isStr, hf, List.find?_nil]
      rfl
  · rfl
end

theorem Room.make {A : Around} {k : Nat} {C : Addr} (r : Room A (k + 1)) : Room (A.under (.builtin "type.__call__" ⟨[.ref C], []⟩)) k :=
  ⟨r.h, by have := r.d; show A.depth + 1 + k < 900; omega, by have := r.u; show A.units + 1 + 4 * k < 9800; omega⟩
noncomputable def iGood (K : Frag) : Bool := makesIn K (gAdr K "Headers") && gRef K "Headers" && (refAt (findIn K (.ref (gAdr K "Headers")) "__init__")).isSome && typeIn K (.ref (mAdr K "__init__")) == some (.type "function") && fGood K (mAdr K "__init__") &&
  gNone K "type" && gNone K "list" && findIn K (.ref (gAdr K "Headers")) "__setattr__" == some (some (.builtin "object.__setattr__")) && plainOver K (gAdr K "Headers") && takerIn K (gAdr K "Headers") "_headers" == some none && hasDictIn K (gAdr K "Headers") &&
  (clsIn K (gAdr K "Headers")).isSome && specialIn K (.ref (gAdr K "Headers")) "__call__" == some (some (.builtin "type.__call__")) && noneIn K (fData K (mAdr K "__init__")).defaults
set_option tactic.hygienic true in
theorem keep_cls {B : Base} {K : Frag} {C : Addr} (X : Ctx B K) (hc : (clsIn K C).isSome = true) (hs : specialIn K (.ref C) "__call__" = some (some (.builtin "type.__call__"))) : KeepT B (.ref C) := fun M A s W st G Q E h => by
  have hK : K.In s.heap := X.in fun a o e => G.hz a o (G.bz a o e)
  unfold clsIn at hc
  split at hc
  · rename_i oc od cd sl ho
    unfold keeperOf
    refine wpAny_bind (wpAny_load (hK _ _ ho) ?_)
    refine wpAny_bind ((looks_specialIn hK hs).here ?_)
    exact wpAny_pure (h _ (.inr rfl))
  · cases hc
theorem headers_ok {B : Base} {K : Frag} {k : Nat} {st : Sto} {p1 p2 p3 p4 p5 p6 p7 p8 q1 q2 q3 q4 q5 q6 r1 r2 r3 r4 u1 u2 u3 u4 : Pos} {kc kd : Nat} {tgt : Expr} {b1 b2 : List Stmt}
    (X : Ctx B K) (hi : iGood K = true)
    (hba : ∀ u : Value, ∃ G, bindArgs (fData K (mAdr K "__init__")) ⟨[u], []⟩ = seqItems? (fData K (mAdr K "__init__")).defaults >>= G ∧ G (some #[.none]) = pure [((("self" : Str)), u), ((("headers" : Str)), Value.none)])
    (hbody : (fData K (mAdr K "__init__")).body = .stmts [
      .Assign [.Name "headers" p1] (.IfExp (.Compare (.Name "headers" p2) [.IsNot] [.Constant .none kc p3] p4) (.Name "headers" p5) (.List [] p6) p7) p8,
      .If (.Compare (.Call (.Name "type" q1) [.Name "headers" q2] [] q3) [.IsNot] [.Name "list" q4] q5) b1 [] q6,
      .Assign [.Attribute (.Name "self" r1) "_headers" r2] (.Name "headers" r3) r4,
      .If (.Constant (.bool true) kd u1) [.For tgt (.Name "headers" u2) b2 [] u3] [] u4])
    (k1 : kindOf (fData K (mAdr K "__init__")).scope "headers" = some .local) (k2 : kindOf (fData K (mAdr K "__init__")).scope "self" = some .local) (k3 : kindOf (fData K (mAdr K "__init__")).scope "type" = some .globalImplicit) (k4 : kindOf (fData K (mAdr K "__init__")).scope "list" = some .globalImplicit) :
    FnG B (k + 4) "Headers" [] [] st (.hdr st.length) (st ++ [.lst []]) := by
  unfold iGood at hi
  simp only [Bool.and_eq_true, beq_iff_eq] at hi
  obtain ⟨⟨⟨⟨⟨⟨⟨⟨⟨⟨⟨⟨⟨hm, hr⟩, hin⟩, hf⟩, hfn⟩, g3⟩, g4⟩, hs⟩, hp⟩, ht⟩, hd⟩, hcl⟩, hsp⟩, hnn⟩ := hi
  have hi : findIn K (.ref (gAdr K "Headers")) "__init__" = some (some (.ref (mAdr K "__init__"))) := by
    unfold mAdr
    cases e : refAt (findIn K (.ref (gAdr K "Headers")) "__init__") with
    | none => rw [e] at hin; cases hin
    | some a => exact refAt_of e
  refine ⟨_, .inl (X.ref hr), keep_cls X hcl hsp, fun A s W us kus R G ru rk => ?_⟩
  cases ru.nil'
  cases vrf_nil rk
  generalize hfd : fData K (mAdr K "__init__") = fd at *
  unfold fGood at hfn
  simp only [Bool.and_eq_true] at hfn
  obtain ⟨⟨⟨⟨⟨⟨⟨w0, w1⟩, w2⟩, w3⟩, w4⟩, w5⟩, w6⟩, w7⟩ := hfn
  obtain ⟨of, ho, hof⟩ := func_get w0
  rw [hfd] at w1 w2 w3 w4 w5 w6 w7 hof
  have hk : fd.scope.kind = .function := by cases hk : fd.scope.kind <;> rw [hk] at w5 <;> first | rfl | cases w5
  have hz := fun a o e => G.hz a o (G.bz a o e)
  have XK := X.in hz
  obtain ⟨hh, g, dr, tok, os⟩ := s
  refine wpAny_call (make_core (makes_of XK hm) (looks_findIn XK hi) (fun self => bind_fn XK self hf) (.inl rfl) ?_)
  have kp1 : ∀ b o, hh.get? b = some o → ((hh.push emptyDict).push (instObj (gAdr K "Headers") hh.objs.size)).get? b = some o := fun b o e => Heap.get?_push_of_some _ (Heap.get?_push_of_some _ e)
  have X1 := XK.keeps kp1
  have R1 : Room (A.under (.builtin "type.__call__" ⟨[.ref (gAdr K "Headers")], []⟩)) (k + 3) := R.make
  obtain ⟨GG, ga, gb⟩ := hba (.ref (hh.objs.size + 1))
  refine codeAny_call_function R1.depth (X1 _ _ ho) hof (by simpa using w7) (by simpa using w6) hbody (codeRec_of X1 w4) ?_
  rw [ga]
  refine wpAny_bind (none_items hnn X1 ?_)
  rw [gb, List.isEmpty_iff.mp w1, eq_of_beq w2, eq_of_beq w3]
  refine wpAny_pure (wpAny_newFunctionEnv_cells hk (fun p hp => ?_) fun env he s2 x => ?_)
  · rcases List.mem_cons.mp hp with rfl | hp
    · exact .inl k2
    · rw [List.mem_singleton.mp hp]; exact .inl k1
  · subst he
    have keep := x.toInCall.keep
    obtain ⟨h2, tk2, hs2, _⟩ := x.toInCall.done
    subst hs2
    have hsz : ((hh.push emptyDict).push (instObj (gAdr K "Headers") hh.objs.size)).objs.size = hh.objs.size + 2 := by rw [Heap.size_push, Heap.size_push]
    have F : Fr hh ((hh.push emptyDict).push (instObj (gAdr K "Headers") hh.objs.size)).objs.size h2 _ := ⟨x.toInCall.ns, fun b o e => keep _ _ (kp1 _ _ e), by rw [hsz]; omega⟩
    have ha : ((hh.push emptyDict).push (instObj (gAdr K "Headers") hh.objs.size)).get? (hh.objs.size + 1) = some (instObj (gAdr K "Headers") hh.objs.size) := by heap_get
    have hb : ((hh.push emptyDict).push (instObj (gAdr K "Headers") hh.objs.size)).get? hh.objs.size = some emptyDict := by heap_get
    have N : News hh ((hh.push emptyDict).push (instObj (gAdr K "Headers") hh.objs.size)).objs.size h2 [(hh.objs.size + 1, instObj (gAdr K "Headers") hh.objs.size), (hh.objs.size, emptyDict)] := fun p hp => by
      rcases List.mem_cons.mp hp with rfl | hp
      · exact ⟨keep _ _ ha, by rw [hsz]; show hh.objs.size + 1 ≠ _; omega, Heap.get?_none_of_le (Nat.le_succ _)⟩
      · rw [List.mem_singleton.mp hp]
        exact ⟨keep _ _ hb, by rw [hsz]; show hh.objs.size ≠ _; omega, Heap.get?_none_of_le (Nat.le_refl _)⟩
    refine ⟨B.nolim _ fun a o e => F.keep a o (hz a o e), codeAny_func ?_⟩
    obtain ⟨mb, hB, hbb⟩ := B.b _ hz
    refine init_walk (env := callEnv' fd.scope ((hh.push emptyDict).push (instObj (gAdr K "Headers") hh.objs.size)).objs.size fd (mAdr K "__init__")) hk R.h rfl rfl k1 k2 k3 k4 F N (Nat.succ_ne_self _) XK ?_ ?_ (B.g _ hz) hB (X.none g3) (X.none g4) hbb hs hp ht hd fun h3 tk3 l od F3 N3 hl hlx hld => ?_
    · show bindL (kindOf fd.scope) _ _ _ = _
      unfold bindL bindL bindL
      rw [if_pos k2, if_pos k1]
      exact if_pos rfl
    · show bindL (kindOf fd.scope) _ _ _ = _
      unfold bindL bindL bindL
      rw [if_pos k2, if_pos k1]
      exact (if_neg (by decide)).trans (if_pos rfl)
    · refine ⟨rfl, ?_⟩
      obtain ⟨gl, nl, fl⟩ := N3 _ (.head _)
      obtain ⟨gx, nx, fx⟩ := N3 _ (.tail _ (.head _))
      obtain ⟨gd, nd, fd'⟩ := N3 _ (.tail _ (.tail _ (.head _)))
      have Gk := G.keep F3.keep
      have f1 := G.fresh fx
      have f2 := G.fresh fd'
      have f3 := G.fresh fl
      have dne : hh.objs.size ≠ hh.objs.size + 1 := Nat.ne_of_lt (Nat.lt_succ_self _)
      have zd : (W.add (hh.objs.size + 1) (instObj (gAdr K "Headers") hh.objs.size)).Z hh.objs.size = none := (Wd.add_ne dne).trans f2.1
      have G2 := (Gk.add gx f1.1 f1.2.1 f1.2.2).add gd zd f2.2.1 f2.2.2
      have zl : ((W.add (hh.objs.size + 1) (instObj (gAdr K "Headers") hh.objs.size)).add hh.objs.size od).Z l = none := (Wd.add_ne hld).trans ((Wd.add_ne hlx).trans f3.1)
      have S2 : Step B Em ⟨hh, g, dr, tok, os⟩ W st ⟨h3, g, dr, tk3, os⟩ ((W.add (hh.objs.size + 1) (instObj (gAdr K "Headers") hh.objs.size)).add hh.objs.size od) st := ((Step.keep F3.keep tk3).add fx f1.1).add fd' zd
      refine ⟨_, G2.ext ⟨zl, f3.2.1, f3.2.2⟩ (m := .lst []) (.lst [] 0 gl .nil (Nat.zero_le _)), S2.ext G2 fl, .hdr ⟨hh.objs.size, instObj (gAdr K "Headers") hh.objs.size, od, ?_, rfl, Wd.add_self, by rw [X.hC], rfl, hl⟩ rfl (Wd.ext_last G2)⟩
      exact (Wd.add_ne (Nat.succ_ne_self _)).trans Wd.add_self
end Mine
namespace Mine
open PySem PySem.W PyProof.Rows PySem.Calls

noncomputable def escKeys : List Nat := [40, 41, 91, 93, 123, 125, 63, 42, 43, 45, 124, 94, 36, 92, 46, 38, 126, 35, 32, 9, 10, 13, 11, 12]
noncomputable def escC (c : Nat) : List Nat := if escKeys.contains c then [92, c] else [c]
noncomputable def escEntry (e : DictEntry) : Option Nat := match vInt e.key, vStr e.val with
  | some (i, _), some y => if e.hash == hashInt i && decide (0 ≤ i) && y.cps.toList == [92, i.toNat] then some i.toNat else none
  | _, _ => none
inductive EscT (B : Base) : Prop
  | mk (a : Addr) : B.mg "_special_chars_map" = some (.ref a) → (a == sysModules) = false → (∀ h : Heap, (∀ a o, B.Z a = some o → h.get? a = some o) → ∃ f, h.MapOf (intKind B.prog B.w) a f ∧ ∀ c : Nat, (escKeys.contains c = false → f c = none) ∧ (escKeys.contains c = true → ∃ y u, f c = some (.str y u) ∧ y.cps.toList = [92, c])) → EscT B
set_option tactic.hygienic true in
theorem escEntry_of {e : DictEntry} {c : Nat} (h : escEntry e = some c) : ∃ t y u, e.key = .int c t ∧ e.val = .str y u ∧ y.cps.toList = [92, c] ∧ e.hash = hashInt c := by
  unfold escEntry at h
  split at h
  · rename_i i t y h1 h2
    split at h
    · rename_i hc
      cases h
      simp only [Bool.and_eq_true, beq_iff_eq, decide_eq_true_eq] at hc
      have q : ((i.toNat : Nat) : Int) = i := Int.toNat_of_nonneg hc.1.2
      unfold vInt at h1
      unfold vStr at h2
      split at h1
      · rename_i k1
        cases h1
        split at h2
        · rename_i k2; cases h2
          exact ⟨t, y, _, by rw [q]; exact k1, k2, hc.2, by rw [q]; exact hc.1.1⟩
        · cases h2
      · cases h1
    · cases h
  · cases h
theorem escMap {prog : Program} {w : World} {h : Heap} {a : Addr} {es : Array DictEntry} {ep : Nat} (X : h.get? a = some { cls := .type "dict", data := .dict es ep }) (e2 : es.toList.map escEntry = escKeys.map some) :
    ∃ f, h.MapOf (intKind prog w) a f ∧ ∀ c : Nat, (escKeys.contains c = false → f c = none) ∧ (escKeys.contains c = true → ∃ y u, f c = some (.str y u) ∧ y.cps.toList = [92, c]) := by
  have hall : ∀ x ∈ es.toList, ∃ c ∈ escKeys, escEntry x = some c := fun x hx => by
    have : escEntry x ∈ escKeys.map some := e2 ▸ List.mem_map_of_mem hx
    obtain ⟨c, hc, q⟩ := List.mem_map.mp this
    exact ⟨c, hc, q.symm⟩
  have find : ∀ c : Nat, ∀ x ∈ es.toList, Value.isInt (c : Int) x.key = true → ∃ y u, escKeys.contains c = true ∧ x.val = .str y u ∧ y.cps.toList = [92, c] := fun c x hx hk => by
    obtain ⟨c', hc', q⟩ := hall x hx
    obtain ⟨t, y, u, q1, q2, q3, q4⟩ := escEntry_of q
    obtain ⟨t', q5⟩ := Value.isInt_shape hk
    rw [q1] at q5
    have : c' = c := by injection q5 with q5; exact Int.ofNat.inj q5
    subst this
    exact ⟨y, u, by simpa using hc', q2, q3⟩
  refine ⟨fun k => findBy Value.isInt es k, ⟨_, es, ep, X, ⟨rfl, rfl, rfl⟩, rfl, fun x hx => ?_, fun z_ => rfl⟩, fun c => ⟨fun hc => ?_, fun hc => ?_⟩⟩
  · obtain ⟨c, _, q⟩ := hall x (by simpa using hx)
    obtain ⟨t, y, u, q1, q2, q3, q4⟩ := escEntry_of q
    exact ⟨(c : Int), by rw [q1]; exact intKind_is _ _ _ _, q4⟩
  · show findBy Value.isInt es (c : Int) = none
    unfold findBy
    rw [Option.map_eq_none_iff, Array.find?_eq_none]
    intro x hx hk
    obtain ⟨y, u, q, _⟩ := find c x (by simpa using hx) hk
    rw [hc] at q; cases q
  · show ∃ y u, findBy Value.isInt es (c : Int) = some (.str y u) ∧ _
    have hm : some c ∈ es.toList.map escEntry := by rw [e2]; exact List.mem_map_of_mem (by simpa using hc)
    obtain ⟨x, hx, q⟩ := List.mem_map.mp hm
    obtain ⟨t, y, u, q1, q2, q3, q4⟩ := escEntry_of q
    unfold findBy
    cases hf : es.find? (fun e => Value.isInt (c : Int) e.key) with
    | none =>
      rw [Array.find?_eq_none] at hf
      have := hf x (by simpa using hx)
      rw [q1] at this
      exact absurd (by simp [Value.isInt]) this
    | some x' =>
      obtain ⟨y, u, _, q2, q3⟩ := find c x' (by simpa using Array.mem_of_find?_eq_some hf) (Array.find?_some (p := fun (e : DictEntry) => Value.isInt (c : Int) e.key) hf)
      exact ⟨y, u, by rw [Option.map_some, q2], q3⟩
noncomputable def escIn (K : Frag) (a : Addr) : Bool := match K.lookup a with
  | some o => o.cls == .type "dict" && o.dict.isNone && o.slots.isEmpty && (match o.data with | .dict es _ => es.toList.map escEntry == escKeys.map some | _ => false) && !(a == sysModules)
  | none => false
theorem gm_translate {M : Model} {A : Around} {E : Value → Shared → Prop} {s : Shared} {x : Str} {t : Tok} {pl : Sem Bool} {Q : Value × List Value → Shared → Prop} (h : Q (.builtin "str.translate", [.str x t]) s) : wpAny M A (getMethod (.str x t) "translate" pl) Q E s := by
  with_reducible exact GM.of (.str x t) (typeIs_str _ _ _) F.slot_str_translate F.type_str_translate GM.noRef h
theorem bb_isinstance : bootBuiltins ("isinstance" : Str) = some (.builtin "isinstance") := by kernel_rfl
section
variable {B : Base} {K : Frag} {k : Nat} {A : Around} {sc : Scope} {v : Vars} {s : Shared} {W : Wd} {st st₀ st' : Sto} {o e : Expr} {p q p3 pos : Pos} {c : Nat} {w : List Nat}
set_option tactic.hygienic true in
theorem Ctx.esc (X : Ctx B K) (hr : gRef K "_special_chars_map" = true) (h : escIn K (gAdr K "_special_chars_map") = true) : EscT B := by
  unfold escIn at h
  split at h
  · rename_i o ho
    obtain ⟨oc, od, da, sl⟩ := o
    simp only [Bool.and_eq_true, beq_iff_eq] at h
    obtain ⟨⟨⟨⟨c1, c2⟩, c3⟩, c4⟩, c5⟩ := h
    have c2 : od = Option.none := by cases od <;> first | rfl | cases c2
    have c3 : sl = #[] := by simpa using c3
    subst c1 c2 c3
    cases da with
    | dict es ep => exact ⟨_, X.ref hr, by simpa using c5, fun h hz => escMap (X.in hz _ _ ho) (eq_of_beq c4)⟩
    | _ => cases c4
  · cases h
set_option tactic.hygienic true in
theorem isinst_ok (ho : isStar e = false) (h : Ev B k sc v e st (.str w) st') (hk : gloKind sc "isinstance" = true) (hk3 : gloKind sc "str" = true) (h1 : B.mg "isinstance" = none) (h2 : B.mg "str" = none) : Te B k sc v (.Call (.Name "isinstance" p) [e, .Name "str" p3] [] q) st true st' := fun A env s W R O => by
  refine isTrue_plain (wpAny_Call_Name_kw (builtin_name O hk h1 bb_isinstance (by decide) ?_))
  have hsL : starEach [e, .Name "str" p3] env = [(false, eval e env), (false, eval (.Name "str" p3) env)] := by rw [star_plain ho]; rfl
  rw [hsL]
  refine callWith_ok rfl rfl (spliced_cons (x := eval e env) ((h A env s W R O).next O fun u s₁ W₁ O₁ S₁ r₁ => spliced_cons (x := eval (.Name "str" p3) env) (builtin_name O₁ hk3 h2 bb_str (by decide) (spliced_nil ?_))))
  have hnil : evalAll (List.map (fun x => x.2) (backToKw q (keywordEach [] env))) = pure [] := rfl
  rw [hnil]
  refine wpAny_pure (And.intro (keep_builtin _) ?_)
  obtain ⟨x, tx, e1, l1, c1⟩ := VR.str' r₁
  exact IsiPair.str_str (wpAny_truthy_bool ⟨W₁, O₁.g, S₁, rfl⟩)
set_option tactic.hygienic true in
theorem esc_ok (E : EscT B) (hc : c < 128) (hk : gloKind sc "_special_chars_map" = true) (hcall : callOk o p pos 1 = true) (h : Ev B k sc v o st (.str [c]) st') : Ev B k sc v (.Call (.Attribute o "translate" p) [.Name "_special_chars_map" q] [] pos) st (.str (escC c)) st' := fun A env s W R O => by
  obtain ⟨a, hm, hsys, hf⟩ := E
  have hsL : starEach [.Name "_special_chars_map" q] env = [(false, eval (.Name "_special_chars_map" q) env)] := rfl
  refine methodCall_ok (args := [.Name "_special_chars_map" q]) (kws := []) hcall (by rw [hsL]; rfl) rfl ((h A env s W R O).next O fun u s₁ W₁ O₁ S₁ r₁ pl => ?_)
  obtain ⟨x, tx, e1, l1, c1⟩ := VR.str' r₁
  refine gm_translate ?_
  rw [hsL]
  refine callWith_ok rfl rfl (spliced_cons (x := eval (.Name "_special_chars_map" q) env) (global_ok O₁ hk hm (spliced_nil ?_)))
  have hnil : evalAll (List.map (fun x => x.2) (backToKw pos (keywordEach [] env))) = pure [] := rfl
  rw [hnil]
  refine wpAny_pure (And.intro (keep_builtin _) ?_)
  obtain ⟨f, hf, hcs⟩ := hf _ fun a o e => O₁.g.hz a o (O₁.g.bz a o e)
  have fin : ∀ (y : Str) h' tk ty, y.cps.toList = escC c → (∀ a o, s₁.heap.get? a = some o → h'.get? a = some o) → Got B s W st st' (IsD B (.str (escC c))) (.str y ty) { s₁ with heap := h', toks := tk } := fun y h' tk ty ey k =>
    ⟨W₁, O₁.g.keep k, S₁.trans (.keep k tk), .str _ _ _ ey (by unfold escC LIM; split <;> simp) (by unfold escC ascii; split <;> simp [hc])⟩
  refine translate_call e1 hc hsys R.h hf (fun hn y h' tk ty ey k => fin y h' tk ty ?_ k) fun v hv => ?_
  · rw [ey]; unfold escC
    cases hcc : escKeys.contains c with
    | true =>
      obtain ⟨y, u, q, _⟩ := (hcs c).2 hcc
      rw [hn] at q; cases q
    | false => rfl
  · cases hcc : escKeys.contains c with
    | false =>
      have := (hcs c).1 hcc
      rw [hv] at this; cases this
    | true =>
      obtain ⟨y, u, q, q'⟩ := (hcs c).2 hcc
      rw [hv] at q; cases q
      have q' : y.cps.toList = escC c := by rw [q']; unfold escC; rw [hcc]; rfl
      exact ⟨y, u, rfl, by rw [← Array.length_toList, q']; unfold escC; rw [hcc]; rfl, fun z h' tk tz ez k => fin z h' tk tz (ez.trans q') k⟩
end
end Mine
namespace Mine
open PySem PySem.W PyProof.Rows PySem.Calls

section
variable {prog : Program} {w : World} {mg mb : Str → Option Value} {s₁ : Shared} {tabs : List Addr} {K : Frag} {f : Str}
noncomputable def zOf (h : Heap) (tabs : List Addr) (a : Addr) : Option Obj := if tabs.contains a then none else h.get? a
theorem z_of {h : Heap} {a : Addr} {o : Obj} (e : h.get? a = some o) (hn : a ∉ tabs) : zOf h tabs a = some o := (if_neg (by simpa using hn)).trans e
theorem of_z {h : Heap} {a : Addr} {o : Obj} (e : zOf h tabs a = some o) : h.get? a = some o := by
  unfold zOf at e
  split at e
  · cases e
  · exact e
noncomputable def baseOf (prog : Program) (w : World) (mg mb : Str → Option Value) (h₁ : Heap) (tabs : List Addr) (C : Addr) (lcode : Value) (hg : h₁.Ns mainGlobals mg) (hb : h₁.Ns builtinsNs mb) (hbb : ∀ x : Str, x ≠ "__name__" → mb x = bootBuiltins x) (hn : h₁.NoLimit)
    (h3 : mainGlobals ∉ tabs) (h0 : builtinsNs ∉ tabs) (h2 : cStatics ∉ tabs) : Base where
  prog := prog
  w := w
  mg := mg
  Z := zOf h₁ tabs
  T := fun a => a ∈ tabs
  C := C
  lcode := lcode
  g := fun h k => by
    obtain ⟨o, es, ep, e, r⟩ := hg
    exact ⟨o, es, ep, k _ _ (z_of e h3), r⟩
  b := fun h k => by
    refine ⟨mb, ?_, hbb⟩
    obtain ⟨o, es, ep, e, r⟩ := hb
    exact ⟨o, es, ep, k _ _ (z_of e h0), r⟩
  nolim := fun h k => by
    obtain ⟨mc, ⟨o, es, ep, e, r⟩, q⟩ := hn
    exact ⟨mc, ⟨o, es, ep, k _ _ (z_of e h2), r⟩, q⟩
theorem K_notab (X : K.In s₁.heap) (hK : noTabs K = true) (ht : ∀ P ∈ tabs, s₁.heap.get? P = some (tabObj #[])) {a : Addr} {o : Obj} (e : K.lookup a = some o) : a ∉ tabs := fun m => by
  have e1 := X a o e
  rw [ht a m] at e1
  cases e1
  have h2 := List.all_eq_true.mp hK _ (mem_of_lookupK e)
  exact absurd (show false = true from h2) Bool.false_ne_true
noncomputable def lamCode (K : Frag) : Value := (fData K (gAdr K "_translate")).code
variable {hg : s₁.heap.Ns mainGlobals mg} {hb : s₁.heap.Ns builtinsNs mb} {hbb : ∀ x : Str, x ≠ "__name__" → mb x = bootBuiltins x} {hn : s₁.heap.NoLimit} {h3 : mainGlobals ∉ tabs} {h0 : builtinsNs ∉ tabs} {h2 : cStatics ∉ tabs}
set_option tactic.hygienic true in
theorem ctx_of (X : K.In s₁.heap) (hK : noTabs K = true) (ht : ∀ P ∈ tabs, s₁.heap.get? P = some (tabObj #[])) : Ctx (baseOf prog w mg mb s₁.heap tabs (gAdr K "Headers") (lamCode K) hg hb hbb hn h3 h0 h2) K := by
  refine ⟨fun a o e => z_of (X a o e) (K_notab X hK ht e), rfl, fun x v e => ?_⟩
  show mg x = v
  obtain ⟨o, es, ep, ho, hd, _, hf⟩ := hg
  unfold nsIn at e
  split at e
  · rename_i c d es' n' sl q
    have := X _ _ q
    rw [ho] at this
    cases this
    cases hd
    have hx := hf x
    unfold nsFind findBy at hx
    rw [← Array.find?_toList] at hx
    rw [← hx]
    split at e
    · rename_i en he; cases e; rw [he]; rfl
    · rename_i he
      rw [he]
      split at e
      · cases e
      · cases e; rfl
  · cases e
noncomputable def lamGood (K : Frag) (tabs : List Addr) : Bool := match tabIn K "_translate" with
  | some (c, P) => tabs.all (· == P) && tabs.contains P && codeHdIn K c P && vRef (lamCode K) == some c
  | none => false
set_option tactic.hygienic true in
theorem lam_of (X : K.In s₁.heap) (hK : noTabs K = true) (ht : ∀ P ∈ tabs, s₁.heap.get? P = some (tabObj #[])) (hl : lamGood K tabs = true) (bm : ∃ bm ob, mg "__builtins__" = some (.ref bm) ∧ bm ≠ builtinsNs ∧ s₁.heap.get? bm = some ob ∧ ob.cls = .type "module" ∧ ob.dict = some builtinsNs ∧ ob.data = .plain) :
    LamT (baseOf prog w mg mb s₁.heap tabs (gAdr K "Headers") (lamCode K) hg hb hbb hn h3 h0 h2) ∧ ∀ P ∈ tabs, isCodeTable s₁.heap P := by
  unfold lamGood at hl
  split at hl
  · rename_i c P hcP
    simp only [Bool.and_eq_true] at hl
    obtain ⟨⟨⟨l0, l1⟩, l2⟩, l3⟩ := hl
    have l1 : P ∈ tabs := by simpa using l1
    have hc : lamCode K = .ref c := by
      have l3 := eq_of_beq l3
      unfold vRef at l3
      split at l3
      · rename_i a ha; cases l3; exact ha
      · cases l3
    obtain ⟨bm, ob, b1, b2, b3, b4, b5, b6⟩ := bm
    have b7 : bm ∉ tabs := fun m => by
      rw [ht bm m] at b3; cases b3; cases b4
    have b8 : bm ≠ mainGlobals := fun q => by
      obtain ⟨o, es, ep, e, hd, _⟩ := hg
      rw [q, e] at b3; cases b3; rw [hd] at b6; cases b6
    refine ⟨⟨c, P, hc, l1, fun q => h3 (q ▸ l1), fun h hz => ⟨codeHd_of_K (fun a o e => hz a o (z_of (X a o e) (K_notab X hK ht e))) l2, bm, ob, b1, b2, b8, fun q => b7 (q ▸ l1), hz _ _ (z_of b3 b7), b4, b5, b6⟩⟩, fun P' hP => ?_⟩
    have : P' = P := eq_of_beq (List.all_eq_true.mp l0 P' hP)
    subst this
    exact ((codeHd_of_K X l2).tab (ht _ hP)).isCodeTable
  · cases hl
theorem ints_vr {C : Addr} {W : Wd} : ∀ {vs : List Value} {ns : List Int}, IntsAre vs ns → VRs C W (ns.map .int) vs
  | _, _, .nil => .nil
  | _, _, .cons i t r => .cons (.int i t) (ints_vr r)
theorem law_end {fa sa : Addr} {vs : List Value} {ns : List Int} {k : Nat} {c : ClaimW} {cl : Str → Option Addr} {mean : ExcName → Option Value} {args : List WData} {st' : Sto} (ht : ∀ P ∈ tabs, s₁.heap.get? P = some (tabObj #[])) (hct : ∀ P ∈ tabs, isCodeTable s₁.heap P) (hgens : s₁.gens = #[])
    (H : FnG (baseOf prog w mg mb s₁.heap tabs (gAdr K "Headers") (lamCode K) hg hb hbb hn h3 h0 h2) k "law" [.scr (ns.map .int)] [] [] (.bool true) st') (hk : k ≤ 500) (hm : mg "law" = some (.ref fa)) (hL : s₁.heap.IsList sa vs.toArray) (hI : IntsAre vs ns) (hlen : ns.length ≤ 63)
    (hr : ∀ cls, c.raises args cls = false) (hp : c.post args (.bool true) args = true) :
    wpAny (model prog w) callerA (call (.ref fa) [.ref sa]) (fun v s' => GoodWG c cl mean args s₁ (.ok (.ret v)) s') (fun e s' => GoodWG c cl mean args s₁ (.error e) s') s₁ := by
  obtain ⟨fv, hm', _, H⟩ := H
  have hm' : fv = .ref fa := by
    rcases hm' with q | q
    · exact Option.some.inj (q.symm.trans hm)
    · have q := q.1.symm.trans hm; cases q
  subst hm'
  obtain ⟨o, ho, hc, n, hd⟩ := hL
  have hsa : sa ∉ tabs := fun m => by
    rw [ht sa m] at ho; cases ho; cases hc
  have G : Good (baseOf prog w mg mb s₁.heap tabs (gAdr K "Headers") (lamCode K) hg hb hbb hn h3 h0 h2) s₁.heap ⟨zOf s₁.heap tabs, []⟩ [] :=
    ⟨fun a o e => of_z e, fun z_ z_ e => e, fun P t => ⟨#[], ht P t, trivial⟩, fun a (t : a ∈ tabs) => ⟨if_pos (by simpa using t), nofun⟩, (fun a m => nomatch m), rfl, (fun i a m e => nomatch e), (fun i j a e => nomatch e)⟩
  refine wpAny_mono (H callerA s₁ ⟨zOf s₁.heap tabs, []⟩ [.ref sa] [] ⟨rfl, ?_, ?_⟩ G (.cons (.scr (z_of ho hsa) hc hd (ints_vr hI) (by rw [List.length_map]; unfold LIM; omega)) .nil) ⟨rfl, .nil⟩) (fun v s' ⟨W', G', S, r⟩ => ?_) fun z_ z_ e => e.elim
  · show 1 + claimMargin + k < 900
    have : claimMargin = 300 := rfl
    omega
  · show 4 + 4 * k < 9800
    omega
  · cases VR.bool' r
    refine ⟨.inl ⟨_, .bool true, [], rfl, hr, .bool true, hp, fun z_ => ⟨List.nodup_nil, fun a ha => by cases ha⟩⟩, ⟨fun b o e => ?_, fun b o e => (S.kp b o e).e⟩, S.os, .of_eq (S.gens.trans hgens)⟩
    by_cases hb' : b ∈ tabs
    · obtain ⟨ps, e', _⟩ := G'.tab b hb'
      have := ht b hb'
      rw [e] at this
      cases this
      exact .inr (.inl ⟨hct b hb', rfl, #[], ps, rfl, by rw [e']; simp⟩)
    · exact .inl ((S.kp b o e).k hb' (fun c => c) lv_nil)
end
end Mine
namespace Mine
open PySem PySem.W PyProof.Rows PySem.Calls

theorem dn_lt {n j m : Nat} (h : n + j = m) (h2 : j < m) : n - 1 < n := Nat.sub_lt (Nat.pos_of_ne_zero fun e => Nat.ne_of_lt h2 (by rw [← h, e, Nat.zero_add])) Nat.one_pos
theorem dn_eq {n j m : Nat} (h : n + j = m) (h2 : j < m) : n - 1 + (j + 1) = m := by
  cases n with
  | zero => rw [Nat.zero_add] at h; exact absurd h (Nat.ne_of_lt h2)
  | succ n => rw [← h]; exact (Nat.succ_add_eq_add_succ n j).symm
theorem dn_end {n j m : Nat} (h : n + j = m) (h2 : ¬j < m) : j = m := Nat.le_antisymm (h ▸ Nat.le_add_left j n) (Nat.not_lt.mp h2)
theorem in_w {L X Y w a : Nat} (h : L = X + (w + 2) + Y) (ha : a ≤ w) : X + (a + 1) < L := by
  rw [h, Nat.add_assoc]; exact Nat.add_lt_add_left (Nat.lt_of_lt_of_le (Nat.succ_lt_succ (Nat.lt_succ_of_le ha)) (Nat.le_add_right _ _)) X
theorem neg_last (j : Nat) : (-1 : Int) + ((j + 1 : Nat) : Int) = j := by
  rw [Int.add_comm]; exact Int.add_neg_cancel_right (j : Int) 1
theorem lk_here {β : Type} {x : Str} {d : β} {l : List (Str × β)} : List.lookup x ((x, d) :: l) = some d := by rw [List.lookup_cons, beq_self_eq_true]
theorem lk_there {β : Type} {x k : Str} {d' : β} {o : Option β} {l : List (Str × β)} (h : (x == k) = false) (hl : List.lookup x l = o) : List.lookup x ((k, d') :: l) = o := by rw [List.lookup_cons, h]; exact hl
theorem lk_set {x : Str} {d : D} {v : Vars} : (setVar v x d).lookup x = some d := by rw [lookup_setVar, if_pos rfl]
theorem lk_put {x y : Str} {d : D} {e : Option D} {v : Vars} (h : (y == x) = false) (hl : v.lookup y = e) : (setVar v x d).lookup y = e := by
  rw [lookup_setVar, if_neg fun c => by rw [c, beq_self_eq_true] at h; cases h]; exact hl
theorem lk_comp {csc : Scope} {v : Vars} {x : Str} {e : Option D} (h : (kindOf csc x == some .free) = true) (hl : v.lookup x = e) : (compVars csc v).lookup x = e := by
  unfold compVars
  rw [← hl]
  clear hl
  induction v with
  | nil => rfl
  | cons p v ih =>
    obtain ⟨k, d⟩ := p
    rw [List.filter_cons, List.lookup_cons]
    by_cases hk : x = k
    · subst hk
      rw [if_pos h, List.lookup_cons, beq_self_eq_true]
    · rw [beq_false_of_ne hk]
      split
      · rw [List.lookup_cons, beq_false_of_ne hk]; exact ih
      · exact ih
abbrev Has (v : Vars) (x : Str) (d : D) : Prop := List.lookup x v = some d
theorem st_last {st : Sto} {m : Mo} : (st ++ [m])[st.length]? = some m := by simp
theorem st_left {st : Sto} {i : Nat} {m m' : Mo} (h : st[i]? = some m) : (st ++ [m'])[i]? = some m := by
  rw [List.getElem?_append_left (List.getElem?_eq_some_iff.mp h).1]; exact h
theorem st_same {st : Sto} {i : Nat} {m m' : Mo} (h : st[i]? = some m) : (st.set i m')[i]? = some m' := List.getElem?_set_self (List.getElem?_eq_some_iff.mp h).1
theorem st_ne {st : Sto} {i j : Nat} {m m' : Mo} (hne : j ≠ i) (h : st[i]? = some m) : (st.set j m')[i]? = some m := by rw [List.getElem?_set_ne hne]; exact h
theorem st_lt {st : Sto} {i : Nat} {m : Mo} (h : st[i]? = some m) : i < st.length := (List.getElem?_eq_some_iff.mp h).1

theorem set_all {p : Mo → Bool} {st : Sto} {n : Nat} {m : Mo} (h : st.all p = true) (hm : p m = true) : (st.set n m).all p = true := List.all_eq_true.mpr fun x hx => (List.mem_or_eq_of_mem_set hx).elim (List.all_eq_true.mp h x) fun e => e ▸ hm
theorem lts_app {n : Nat} {l r : List D} : D.lts n (l ++ r) = (D.lts n l && D.lts n r) := by
  induction l with
  | nil => rfl
  | cons d l ih => show (D.lt n d && D.lts n (l ++ r)) = _; rw [ih, ← Bool.and_assoc]; rfl
theorem lts_map {n : Nat} {α : Type} {f : α → D} {l : List α} (h : ∀ a ∈ l, (f a).lt n = true) : D.lts n (l.map f) = true := by
  induction l with
  | nil => rfl
  | cons a l ih => exact Bool.and_eq_true_iff.mpr ⟨h a (.head _), ih fun b hb => h b (.tail _ hb)⟩
theorem take_grown {st : Sto} {i n : Nat} {a b m : Mo} (hi : st.length ≤ i) : (((st ++ [a]).set i b).set n m).take st.length = st.set n m := by
  rw [List.take_set, List.take_set, List.take_left, List.set_eq_of_length_le (l := st) (i := i) hi]

inductive StrL : List D → List (List Nat) → Prop
  | nil : StrL [] []
  | cons {w : List Nat} {ds : List D} {ls : List (List Nat)} : StrL ds ls → StrL (.str w :: ds) (w :: ls)
theorem StrL.eq {ds : List D} {ls : List (List Nat)} (h : StrL ds ls) : ds = ls.map .str := by
  induction h with
  | nil => rfl
  | cons _ ih => rw [ih]; rfl
theorem StrL.map {α : Type} {f : α → List Nat} : ∀ {l : List α}, StrL (l.map fun a => .str (f a)) (l.map f)
  | [] => .nil
  | _ :: _ => .cons .map
theorem join_ok' {B : Base} {k : Nat} {st₀ st : Sto} {w : List Nat} {a : D} {ds : List D} {ls : List (List Nat)} (I : Items st a ds) (h : StrL ds ls) (hl : (joinS w ls).length ≤ LIM) : MtG B k (.str w) "join" st₀ [a] [] st (.str (joinS w ls)) st := join_ok (h.eq ▸ I) hl

theorem short {n : Nat} (h : Nat.ble n 1000 = true) : n ≤ LIM := Nat.le_trans (Nat.le_of_ble_eq_true h) (by decide)

theorem joinS_nil : ∀ ls : List (List Nat), joinS [] ls = ls.flatten
  | [] => rfl
  | [s] => by show s = _; simp
  | s :: t :: r => by show s ++ [] ++ joinS [] (t :: r) = _; rw [joinS_nil (t :: r), List.append_nil]; rfl
theorem joinS_chars (l : List Nat) : joinS [] (l.map fun c => [c]) = l := by rw [joinS_nil, ← List.flatMap_def, List.flatMap_singleton']

section
variable {B : Base} {k : Nat} {sc csc : Scope} {v v₁ : Vars} {st st₁ st' : Sto} {d : D} {ds : List D} {e elt it tg : Expr} {p pos : Pos} {x : Str} {Q Q' : Fl → Vars → Sto → Prop} {y : Stmt} {xs b1 b2 : List Stmt} {t t' : Bool} {lk : Option Nat} {ifs : List Expr}
set_option tactic.hygienic true in
theorem kt_next (h : Ru B k sc v xs st Q) : Kt B k sc xs Q .next v st := h
theorem kt_ret (h : Q (.ret d) v st) : Kt B k sc xs Q (.ret d) v st := h
theorem kt_brk (h : Q .brk v st) : Kt B k sc xs Q .brk v st := h
theorem rx_ift (h : Te B k sc v e st t st') (ht : t = true) (h1 : Ru B k sc v b1 st' Q) : Rx B k sc v (.If e b1 b2 pos) st Q := rx_if h (fun z_ => h1) fun q => (by rw [ht] at q; cases q)
theorem rx_iff (h : Te B k sc v e st t st') (ht : t = false) (h1 : Ru B k sc v b2 st' Q) : Rx B k sc v (.If e b1 b2 pos) st Q := rx_if h (fun q => by rw [ht] at q; cases q) fun z_ => h1
theorem ev_ift {l r : Expr} (h : Te B k sc v e st t st₁) (ht : t = true) (h1 : Ev B k sc v l st₁ d st') : Ev B k sc v (.IfExp e l r pos) st d st' := ev_if h (fun z_ => h1) fun q => (by rw [ht] at q; cases q)
theorem ev_iff {l r : Expr} (h : Te B k sc v e st t st₁) (ht : t = false) (h1 : Ev B k sc v r st₁ d st') : Ev B k sc v (.IfExp e l r pos) st d st' := ev_if h (fun q => by rw [ht] at q; cases q) fun z_ => h1
set_option tactic.hygienic true in
theorem rx_grow {es : List Expr} {q : Pos} (gs : List Str) (hg : gs.contains x = true) (hb : bound1 sc x = true) (h : Evs B k sc v es st ds st') (hl : ds.length ≤ LIM) (hq : Q .next (setVar v x (.ref st'.length)) (st' ++ [.lst ds])) : Rx B k sc v (.Assign [.Name x p] (.List es q) pos) st Q :=
  rx_set hb (ev_grow h hl) (fun z_ z_ z_ => rfl) hq
theorem oe_some {i : Int} (h : Ev B k sc v e st (.int i) st') : optEv B k sc v st (some i) st' (some e) := ⟨i, rfl, h⟩
theorem oe_none : optEv B k sc v st none st none := ⟨rfl, rfl⟩
set_option tactic.hygienic true in
theorem rx_asrt {m : Option Expr} (h : Te B k sc v e st t st') (ht : t = true) (hq : Q .next v st') : Rx B k sc v (.Assert e m pos) st Q := by subst ht; exact rx_assert h hq
theorem lockS_none : lockS st none = st := rfl
noncomputable def pick {α : Type} (pr : α → Bool) (f : α → D) (a : α) : List D := if pr a then [f a] else []
theorem outs_filter {α : Type} {l : List α} {f : α → D} {pr : α → Bool} : outsTo (fun i => ((l.map (pick pr f))[i]?).getD []) l.length = (l.filter pr).map f := by
  unfold outsTo
  rw [List.flatMap_def]
  have : (List.range l.length).map (fun i => ((l.map (pick pr f))[i]?).getD []) = l.map (pick pr f) := by
    apply List.ext_getElem
    · simp
    · intro i h1 h2
      have h3 : i < l.length := by simpa using h1
      simp [h3]
  rw [this]
  clear this
  induction l with
  | nil => rfl
  | cons a l ih =>
    rw [List.map_cons, List.flatten_cons, ih, List.filter_cons]
    unfold pick
    cases pr a <;> rfl
theorem ev_filter {α : Type} {l : List α} {g f : α → D} {pr : α → Bool} (hc : compOk sc csc = true) (hi : It B k sc v (isTuple tg) it st (l.map g) lk st₁) (ht : ∀ a ∈ l, ∃ v', Asg csc tg (g a) (compVars csc v) v' ∧ TeA B k csc v' ifs (lockS st₁ lk) (pr a) (lockS st₁ lk) ∧ (pr a = true → Ev B k csc v' elt (lockS st₁ lk) (f a) (lockS st₁ lk))) (hlen : l.length ≤ LIM) :
    Ev B k sc v (.ListComp elt [⟨tg, it, ifs, 0⟩] csc pos) st (.lst ((l.filter pr).map f)) st₁ := by
  have := ev_comp (pos := pos) (elt := elt) (ifs := ifs) (fun i => ((l.map (pick pr f))[i]?).getD []) hi hc (fun i d e => ?_) (by rw [List.length_map, outs_filter, List.length_map]; exact Nat.le_trans (List.length_filter_le _ _) hlen)
  · rw [List.length_map, outs_filter] at this; exact this
  · rw [List.getElem?_map] at e
    obtain ⟨a, e', rfl⟩ := Option.map_eq_some_iff.mp e
    rw [List.getElem?_map, e']
    obtain ⟨v', h1, h2, h3⟩ := ht a (List.mem_of_getElem? e')
    show Turn _ _ _ _ _ _ _ _ _ (pick pr f a)
    unfold pick
    cases hp : pr a with
    | true => rw [hp] at h2; exact .yes h1 h2 (h3 hp)
    | false => rw [hp] at h2; exact .no h1 h2
set_option tactic.hygienic true in
theorem rx_filter {α : Type} {l : List α} {g f : α → D} {pr : α → Bool} {spos : Pos} (hb : bound1 sc x = true) (hc : compOk sc csc = true) (hi : It B k sc v (isTuple tg) it st (l.map g) lk st₁) (ht : ∀ a ∈ l, ∃ v', Asg csc tg (g a) (compVars csc v) v' ∧ TeA B k csc v' ifs (lockS st₁ lk) (pr a) (lockS st₁ lk) ∧ (pr a = true → Ev B k csc v' elt (lockS st₁ lk) (f a) (lockS st₁ lk))) (hlen : l.length ≤ LIM)
    (hq : Q .next (setVar v x (.lst ((l.filter pr).map f))) st₁) : Rx B k sc v (.Assign [.Name x p] (.ListComp elt [⟨tg, it, ifs, 0⟩] csc pos) spos) st Q := by
  refine rx_setC (fun i => ((l.map (pick pr f))[i]?).getD []) hb hi hc (fun i d e => ?_) (by rw [List.length_map, outs_filter, List.length_map]; exact Nat.le_trans (List.length_filter_le _ _) hlen) (by rw [List.length_map, outs_filter]; exact hq)
  rw [List.getElem?_map] at e
  obtain ⟨a, e', rfl⟩ := Option.map_eq_some_iff.mp e
  rw [List.getElem?_map, e']
  obtain ⟨v', h1, h2, h3⟩ := ht a (List.mem_of_getElem? e')
  show Turn _ _ _ _ _ _ _ _ _ (pick pr f a)
  unfold pick
  cases hp : pr a with
  | true => rw [hp] at h2; exact .yes h1 h2 (h3 hp)
  | false => rw [hp] at h2; exact .no h1 h2
theorem filter_all {α : Type} {l : List α} : l.filter (fun z_ => true) = l := List.filter_eq_self.mpr fun z_ z_ => rfl
theorem ev_map {α : Type} {l : List α} {g f : α → D} (hc : compOk sc csc = true) (hi : It B k sc v (isTuple tg) it st (l.map g) lk st₁) (ht : ∀ a ∈ l, ∃ v', Asg csc tg (g a) (compVars csc v) v' ∧ Ev B k csc v' elt (lockS st₁ lk) (f a) (lockS st₁ lk)) (hlen : l.length ≤ LIM) : Ev B k sc v (.ListComp elt [⟨tg, it, [], 0⟩] csc pos) st (.lst (l.map f)) st₁ := by
  have := ev_filter (pos := pos) (pr := fun z_ => true) (ifs := []) hc hi (fun a ha => let ⟨v', h1, h2⟩ := ht a ha; ⟨v', h1, tl_nil, fun z_ => h2⟩) hlen
  rw [filter_all] at this; exact this
set_option tactic.hygienic true in
theorem rx_map {α : Type} {l : List α} {g f : α → D} {spos : Pos} (hb : bound1 sc x = true) (hc : compOk sc csc = true) (hi : It B k sc v (isTuple tg) it st (l.map g) lk st₁) (ht : ∀ a ∈ l, ∃ v', Asg csc tg (g a) (compVars csc v) v' ∧ Ev B k csc v' elt (lockS st₁ lk) (f a) (lockS st₁ lk)) (hlen : l.length ≤ LIM) (hq : Q .next (setVar v x (.lst (l.map f))) st₁) :
    Rx B k sc v (.Assign [.Name x p] (.ListComp elt [⟨tg, it, [], 0⟩] csc pos) spos) st Q :=
  rx_filter (pr := fun z_ => true) (f := f) (ifs := []) hb hc hi (fun a ha => let ⟨v', h1, h2⟩ := ht a ha; ⟨v', h1, tl_nil, fun z_ => h2⟩) hlen (by rw [filter_all]; exact hq)
theorem rx_for0 (hi : It B k sc v (isTuple tg) it st [] none st₁) (h : Ru B k sc v b2 st₁ Q) : Rx B k sc v (.For tg it b1 b2 pos) st Q :=
  rx_for (fun _ v' σ => v' = v ∧ σ = st₁) hi ⟨rfl, rfl⟩ (fun i d v σ e => nomatch e) fun v' σ ⟨h1, h2⟩ => by subst h1 h2; exact h
set_option tactic.hygienic true in
theorem rx_each {α : Type} {tg it : Expr} {l : List α} {g : α → D} (I : Nat → Vars → Sto → Prop) (hi : It B k sc v (isTuple tg) it st (l.map g) none st₁) (h0 : I 0 v st₁)
    (hb : ∀ i a v σ, l[i]? = some a → I i v σ → ∃ v', Asg sc tg (g a) v v' ∧ Ru B k sc v' b1 σ fun f v σ => f = .next ∧ I (i + 1) v σ) (he : ∀ v σ, I l.length v σ → Q .next v σ) : Rx B k sc v (.For tg it b1 [] pos) st Q := by
  refine rx_for I hi h0 (fun i d v σ e hI => ?_) fun v σ hI => ru_nil (he v σ (by rw [List.length_map] at hI; exact hI))
  rw [List.getElem?_map] at e
  obtain ⟨a, e', rfl⟩ := Option.map_eq_some_iff.mp e
  obtain ⟨v', ha, hr⟩ := hb i a v σ e' hI
  exact ⟨v', ha, ru_mono hr fun f v σ ⟨hf, hI⟩ => by subst hf; exact hI⟩
set_option tactic.hygienic true in
theorem rx_forbrk {α : Type} {tg it : Expr} {l : List α} {g : α → D} (I : Vars → Prop) (pr : α → Bool) (S : α → Sto) (hi : It B k sc v (isTuple tg) it st (l.map g) none st₁) (h0 : I v)
    (hb : ∀ a v, a ∈ l → I v → ∃ v', Asg sc tg (g a) v v' ∧ Ru B k sc v' b1 st₁ fun f v2 σ => I v2 ∧ ((pr a = true ∧ f = .brk ∧ σ = S a) ∨ (pr a = false ∧ f = .next ∧ σ = st₁)))
    (h2 : ∀ v, I v → l.find? pr = none → Ru B k sc v b2 st₁ Q) (h3 : ∀ v a, I v → l.find? pr = some a → Q .next v (S a)) : Rx B k sc v (.For tg it b1 b2 pos) st Q := by
  refine rx_for (fun i v σ => σ = st₁ ∧ I v ∧ (l.take i).find? pr = none) hi ⟨rfl, h0, rfl⟩ (fun i d v σ e ⟨hs, hI, hn⟩ => ?_) fun v σ ⟨hs, hI, hn⟩ => ?_
  · subst hs
    rw [List.getElem?_map] at e
    obtain ⟨a, e', rfl⟩ := Option.map_eq_some_iff.mp e
    obtain ⟨v', ha, hr⟩ := hb a v (List.mem_of_getElem? e') hI
    refine ⟨v', ha, ru_mono hr fun f v2 σ ⟨hI2, hc⟩ => ?_⟩
    have hi' := (List.getElem?_eq_some_iff.mp e').1
    have hl : l = l.take i ++ a :: l.drop (i + 1) := by
      conv => lhs; rw [← List.take_append_drop i l]
      rw [List.drop_eq_getElem_cons hi', (List.getElem?_eq_some_iff.mp e').2]
    rcases hc with ⟨hp, hf, hs⟩ | ⟨hp, hf, hs⟩
    · subst hf hs
      refine h3 _ a hI2 ?_
      rw [hl, List.find?_append, hn, List.find?_cons, hp]; rfl
    · subst hf hs
      refine ⟨rfl, hI2, ?_⟩
      rw [List.take_add_one, e', List.find?_append, hn]
      show [a].find? pr = none
      rw [List.find?_cons, hp]; rfl
  · subst hs
    rw [List.length_map, List.take_length] at hn
    exact h2 _ hI hn
end
end Mine
namespace Mine
open PySem PySem.W PyProof.Rows PySem.Calls

noncomputable def nameAt (sc : Scope) (line : Nat) : Expr → Option Str
  | .Name id pos => if kindOf sc id == some .local && pos.line == line then some id else none
  | _ => none
noncomputable def lineOf : List Expr → Nat
  | t :: _ => t.pos.line
  | [] => 0
noncomputable def swapOk (sc : Scope) (ts es : List Expr) (names : List Str) : Bool :=
  ts.filterMap (nameAt sc (lineOf ts)) == names && (ts.length == 2 || ts.length == 3) && es.length == ts.length && names.length == ts.length && names.eraseDups.length == names.length && !(es.any isStar) && !(es.all (foldedForSure 8)) && !(es.all (constantsAlone 8))
noncomputable def bindAll : List Str → List D → Vars → Vars
  | x :: xs, d :: ds, v => bindAll xs ds (setVar v x d)
  | _, _, v => v

section
variable {B : Base} {k : Nat} {A : Around} {env : Env} {sc : Scope} {v : Vars} {s : Shared} {W : Wd} {st st' : Sto} {ds : List D} {pos p p' : Pos} {Q : Fl → Vars → Sto → Prop} {ts es : List Expr} {names : List Str} {i j : Nat}
theorem bindAll_ok {M : Model} {xs : List Str} {us : List Value} (hx : ∀ x ∈ xs, kindOf sc x = some .local) (hl : xs.length = ds.length) (O : OK B env sc v s W st) (r : VRs B.C W ds us)
    {Q : Unit → Shared → Prop} {E : Value → Shared → Prop} (h : ∀ s', OK B env sc (bindAll xs ds v) s' W st → Step B (own env sc) s W st s' W st → Q () s') : wpAny M A (assignInOrder (xs.map fun n => bindName env n) us) Q E s := by
  induction xs generalizing ds us v s with
  | nil =>
    cases ds with
    | nil => cases r.nil'; exact wpAny_pure (h s O .refl)
    | cons => cases hl
  | cons x xs ih =>
    cases ds with
    | nil => cases hl
    | cons d ds =>
      obtain ⟨u, us, a, r'⟩ := r.cons'
      rw [List.map_cons]
      show wpAny M A (do holding _ (bindName env x _); assignInOrder _ _) Q E s
      exact wpAny_bind (wpAny_holding (wpAny_bindName (set_ok O (.inl (hx x (.head _))) a fun s' O' S' => ih (fun y hy => hx y (.tail _ hy)) (Nat.succ.inj hl) O' r' fun s'' O'' S'' => h s'' O'' (S'.trans S''))))
theorem filterMap_eq {α β : Type} {f g : α → Option β} (hfg : ∀ a b, f a = some b → g a = some b) : ∀ {l : List α}, (l.filterMap f).length = l.length → l.filterMap g = l.filterMap f
  | [], _ => rfl
  | a :: l, h => by
    cases hf : f a with
    | none =>
      rw [List.filterMap_cons_none hf] at h
      have := List.length_filterMap_le f l
      simp at h
      omega
    | some b =>
      rw [List.filterMap_cons_some hf] at h ⊢
      rw [List.filterMap_cons_some (hfg a b hf), filterMap_eq hfg (by simpa using h)]
set_option tactic.hygienic true in
theorem swap_ok (O : OK B env sc v s W st) (h : swapOk sc ts es names = true) : swappedStores [.Tuple ts i p] (.Tuple es j p') env = pure (some names) ∧ (∀ x ∈ names, kindOf sc x = some .local) ∧ names.length = es.length := by
  unfold swapOk at h
  simp only [Bool.and_eq_true, Bool.or_eq_true, Bool.not_eq_true', beq_iff_eq] at h
  obtain ⟨⟨⟨⟨⟨⟨⟨c0, c1⟩, c2⟩, c3⟩, c4⟩, c5⟩, c6⟩, c7⟩ := h
  have hline : (ts.head?.map (·.pos.line)).getD 0 = lineOf ts := by cases ts <;> rfl
  have hfg : ts.filterMap (fun x => match x with
      | .Name id pos => if (env.kindOf id == some .local && pos.line == (ts.head?.map (·.pos.line)).getD 0) = true then some id else none
      | _ => none) = names := by
    refine (filterMap_eq (fun a b h => ?_) (by rw [c0]; exact c3)).trans c0
    cases a with
    | Name id pos =>
      simp only [nameAt] at h ⊢
      split at h
      · rename_i hk
        cases h
        rw [Bool.and_eq_true] at hk
        rw [if_pos]
        rw [Bool.and_eq_true, hline]
        exact ⟨by rw [O.e.loc b (eq_of_beq hk.1)]; rfl, hk.2⟩
      · cases h
    | _ => cases h
  refine ⟨?_, fun x hx => ?_, ?_⟩
  · have hblk : (env.blockKind != .function) = false := by unfold Env.blockKind; rw [O.e.kind]; rfl
    have hlen : (!(ts.length == 2 || ts.length == 3) || es.length != ts.length || env.blockKind != .function) = false := by
      rw [hblk, bne, c2]
      rcases c1 with c1 | c1 <;> rw [c1] <;> rfl
    unfold swappedStores
    have e1 : (names.length != ts.length || names.eraseDups.length != names.length) = false := by
      rw [bne, bne, c4, c3]; simp
    have gen : ∀ g : Expr → Option Str, ts.filterMap g = names →
        (if (!(ts.length == 2 || ts.length == 3) || es.length != ts.length || env.blockKind != ScopeKind.function) = true then (pure none : Sem (Option (List Str)))
          else if (es.any isStar) = true then pure none
          else if ((ts.filterMap g).length != ts.length || (ts.filterMap g).eraseDups.length != (ts.filterMap g).length) = true then pure none
          else if es.all (foldedForSure 8) = true then pure none
          else if es.all (constantsAlone 8) = true then (do
            let _ ← (unsupported "assign.tuple-of-constant-expressions:order-of-the-stores" : Sem Unit)
            pure (some (ts.filterMap g)))
          else pure (some (ts.filterMap g))) = pure (some names) := by
      intro g hg
      rw [hg, if_neg (by rw [hlen]; exact Bool.false_ne_true), if_neg (by rw [c5]; exact Bool.false_ne_true), if_neg (by rw [e1]; exact Bool.false_ne_true), if_neg (by rw [c6]; exact Bool.false_ne_true), if_neg (by rw [c7]; exact Bool.false_ne_true)]
    exact gen _ hfg
  · rw [← c0] at hx
    obtain ⟨a, ha, hx⟩ := List.mem_filterMap.mp hx
    cases a with
    | Name id pos =>
      simp only [nameAt] at hx
      split at hx
      · rename_i hk
        cases hx
        rw [Bool.and_eq_true] at hk
        exact eq_of_beq hk.1
      · cases hx
    | _ => cases hx
  · rw [c3, c2]
theorem VRs.rev {C : Addr} : ∀ {ds : List D} {us : List Value} {ds' : List D} {us' : List Value}, VRs C W ds us → VRs C W ds' us' → VRs C W (ds.reverse ++ ds') (us.reverse ++ us')
  | [], _, _, _, r, q => by cases r.nil'; exact q
  | d :: ds, _, _, _, r, q => by
    obtain ⟨u, us, a, r'⟩ := r.cons'
    rw [List.reverse_cons, List.reverse_cons, List.append_assoc, List.append_assoc]
    exact VRs.rev r' (.cons a q)
set_option tactic.hygienic true in
theorem rx_swap (hn : swapOk sc ts es names = true) (h : Evs B k sc v es st ds st') (hl : ds.length ≤ LIM) (hq : Q .next (bindAll names.reverse ds.reverse v) st') : Rx B k sc v (.Assign [.Tuple ts i p] (.Tuple es j p') pos) st Q := fun A env s W R O => by
  obtain ⟨hw, hloc, hlen⟩ := swap_ok (i := i) (j := j) (p := p) (p' := p') O hn
  refine Assign_Tuple_swapped ?_ rfl hw
  refine (ev_tuple (n := j) (pos := p') h hl A env s W R O).next O fun u s₁ W₁ O₁ S₁ r₁ => ?_
  obtain ⟨a, vs, m, ez, r, b⟩ := VR.tup' r₁
  have hsz : names.length = vs.toArray.size := by rw [List.size_toArray, r.length, hlen, h.len]
  rw [hsz]
  refine wpAny_unpackItems_tuple R.h (items := vs.toArray) ⟨_, O₁.g.hz _ _ ez, rfl, m, rfl⟩ fun h' hx => ?_
  have k₁ : ∀ a o, s₁.heap.get? a = some o → h'.get? a = some o := fun a o q => hx a o (Nat.ne_of_lt (Heap.lt_size q)) q
  have S₂ : Step B Em s₁ W₁ st' { s₁ with heap := h' } W₁ st' := .keep k₁ s₁.toks
  have rr := VRs.rev r .nil
  rw [List.append_nil, List.append_nil] at rr
  exact bindAll_ok (fun x hx => hloc x (List.mem_reverse.mp hx)) (by rw [List.length_reverse, List.length_reverse, hlen, h.len]) (O₁.step S₂ (O₁.g.keep k₁)) rr fun s' O' S' => ⟨_, _, _, W₁, O', (S₁.trans S₂).own.trans S', .next, hq⟩
end
end Mine
namespace Mine
open PySem PySem.W PyProof.Rows PySem.Calls PySem.Builtin

theorem occ_nil {x : Str} {c : Nat} (h : c ∉ x.cps.toList) (n : Nat) : Builtin.Str.occurrences x ⟨#[c]⟩ 0 x.length (n + 1) = [] := by
  rcases StrLaws.occ_head x ⟨#[c]⟩ (n + 1) (by omega) with ⟨h1, _⟩ | ⟨i, r, _, hi, _⟩
  · exact h1
  · exfalso
    have := StrLaws.found_one x c
    rw [decide_eq_false h] at this
    have h2 := (StrLaws.found_iff x ⟨#[c]⟩).mpr ⟨i, hi.1, hi.2⟩
    rw [this] at h2
    cases h2
theorem repl_ok {B : Base} {k : Nat} {st₀ st : Sto} {w z : List Nat} {c : Nat} (h : c ∉ w) : MtG B k (.str w) "replace" st₀ [.str [c], .str z] [] st (.str w) st := by
  refine ⟨.builtin "str.replace", fun z_ z_ z_ z_ z_ z_ => keep_builtin _, fun A s W u pl Q E G r h => ?_, fun A s W us kus R G ru rk => ?_⟩
  · obtain ⟨x, t, _, _, _⟩ := r.str'
    exact GM.replace (h s.toks)
  · obtain ⟨u1, us1, r1, ru1⟩ := ru.cons'
    obtain ⟨u2, us2, r2, ru2⟩ := ru1.cons'
    obtain ⟨u3, rfl, r3⟩ := ru2.one'
    cases vrf_nil rk
    obtain ⟨x, t, e1, l1, c1⟩ := r1.str'
    obtain ⟨y, u, e2, l2, c2⟩ := r2.str'
    obtain ⟨y3, u3, e3, l3, c3⟩ := r3.str'
    have hy := one_sign e2
    subst hy
    have ho : (Builtin.Str.occurrences x ⟨#[c]⟩ 0 x.length (x.length + 1)).isEmpty = true := by rw [occ_nil (by rw [e1]; exact h)]; rfl
    refine call_gives F.slot_str_replace (typeIs_str _ _ _) F.entry_str_replace (F.args_str_replace_3 _ _ _) (gives_str_replace x ⟨#[c]⟩ y3 t u u3 fun h => ?_) ?_
    · rw [ho, Bool.true_or] at h; cases h
    · rw [ho, Bool.true_or, if_pos rfl]
      exact ⟨W, G, .refl, .str _ _ _ e1 l1 c1⟩

inductive Tk where
  | q
  | c (x : Nat)
  | set (w : List Nat)
  | star
noncomputable def Tk.txt : Tk → List Nat
  | .q => [63]
  | .c x => [x]
  | .set w => 91 :: (w ++ [93])
  | .star => [42]
noncomputable def Tk.out : Tk → D
  | .q => .str [46]
  | .c x => .str (escC x)
  | .set w => .str (91 :: (w ++ [93]))
  | .star => .ref 0
noncomputable def setC (c : Nat) : Bool := decide (c < 128) && c != 93 && c != 45 && c != 92 && c != 38 && c != 126 && c != 124 && c != 33 && c != 94 && c != 91
noncomputable def Tk.ok : Tk → Bool
  | .q | .star => true
  | .c x => decide (x < 128) && x != 42 && x != 63 && x != 91
  | .set w => !w.isEmpty && w.all setC
noncomputable def Tk.isStar : Tk → Bool
  | .star => true
  | _ => false
noncomputable def noTwo : List Tk → Bool
  | [] => true
  | [_] => true
  | a :: b :: r => !(a.isStar && b.isStar) && noTwo (b :: r)
noncomputable def txts (ts : List Tk) : List Nat := ts.flatMap Tk.txt
theorem txt_pos (t : Tk) : 0 < t.txt.length := by cases t <;> simp [Tk.txt]
theorem take_txts {ts : List Tk} {j : Nat} {t : Tk} (h : ts[j]? = some t) : txts (ts.take (j + 1)) = txts (ts.take j) ++ t.txt := by
  rw [List.take_add_one, h]; unfold txts; rw [List.flatMap_append]; simp
theorem split_txts {ts : List Tk} {j : Nat} {t : Tk} (h : ts[j]? = some t) : txts ts = txts (ts.take j) ++ (t.txt ++ txts (ts.drop (j + 1))) := by
  have hi := (List.getElem?_eq_some_iff.mp h).1
  have : ts = ts.take j ++ t :: ts.drop (j + 1) := by
    conv => lhs; rw [← List.take_append_drop j ts]
    rw [List.drop_eq_getElem_cons hi, (List.getElem?_eq_some_iff.mp h).2]
  conv => lhs; rw [this]
  unfold txts; rw [List.flatMap_append, List.flatMap_cons]
theorem ix_ok {i n : Nat} (h : i < n) : seqIndex? (i : Int) n = some i := by
  unfold seqIndex?
  have h1 : ¬ ((i : Int) < 0) := by omega
  simp only [h1, if_false]
  rw [if_pos (by simp; omega)]; simp
theorem ix_at {i : Int} {n m : Nat} (h : m < n) (e : i = m) : seqIndex? i n = some m := e ▸ ix_ok h
theorem noTwo_at : ∀ {ts : List Tk} {j : Nat}, noTwo ts = true → ts[j + 1]? = some .star → ∃ t, ts[j]? = some t ∧ t.isStar = false
  | [], _, _, h => nomatch h
  | [a], _, _, h => nomatch h
  | a :: b :: r, 0, h, e => by
    cases e
    have := (Bool.and_eq_true_iff.mp h).1
    exact ⟨a, rfl, by cases a <;> first | rfl | cases this⟩
  | a :: b :: r, j + 1, h, e => noTwo_at (ts := b :: r) (j := j) (Bool.and_eq_true_iff.mp h).2 e
end Mine
namespace Mine
open PySem PySem.W PyProof.Rows PySem.Calls

inductive SpT (B : Base) (P : Addr → Prop) (sc : Scope) (body : List Stmt) (bd : List D → List (Str × D) → Option Vars) : Prop
  | mk (fa : Addr) (fd : FuncData) : P fa → FnAt B fa fd sc body → (∀ ds ks vars, bd ds ks = some vars → BdOk B fd ds ks vars) → SpT B P sc body bd
inductive SpG (B : Base) (P : Addr → Prop) (k : Nat) (ds : List D) (st st' : Sto) : Prop
  | mk (fa : Addr) : P fa → CallOk B k (.ref fa) ds [] st .none st' → SpG B P k ds st st'
section
variable {B : Base} {k n : Nat} {A : Around} {sc : Scope} {v vars : Vars} {s : Shared} {W : Wd} {st st₁ st₂ st₃ st' : Sto} {d i : D} {ds l : List D} {e o ie : Expr} {p q pos : Pos} {Q : Fl → Vars → Sto → Prop} {P : Addr → Prop} {body : List Stmt} {bd : List D → List (Str × D) → Option Vars}
theorem bb_min : bootBuiltins ("min" : Str) = some (.builtin "min") := by kernel_rfl
theorem bb_max : bootBuiltins ("max" : Str) = some (.builtin "max") := by kernel_rfl
theorem bb_zip : bootBuiltins ("zip" : Str) = some (.type "zip") := by kernel_rfl
theorem min2_ok {i j : Int} : CallOk B k (.builtin "min") [.int i, .int j] [] st (.int (min i j)) st := call2 fun A s W u w R G ru rw => by
  obtain ⟨t, rfl⟩ := ru.int'
  obtain ⟨t', rfl⟩ := rw.int'
  refine min_two_ints R.h fun h' tk hk => gv_keep G (R := IsD B _) ?_ tk hk
  by_cases h : j < i
  · rw [if_pos h, Int.min_eq_right (Int.le_of_lt h)]; exact .int _ _
  · rw [if_neg h, Int.min_eq_left (Int.not_lt.mp h)]; exact .int _ _
theorem intItems_of (xs : List (Int × Tok)) : intItems xs.toArray = (xs.map fun p => Value.int p.1 p.2).toArray := by simp [intItems]
theorem min_ok {a : D} {ns : List Int} {m : Int} (I : Items st a (ns.map .int)) (hm : m ∈ ns) (hle : ∀ x ∈ ns, m ≤ x) : CallOk B k (.builtin "min") [a] [] st (.int m) st := call1 fun A s W u R G r => by
  obtain ⟨c, vs, n, e, q, hl⟩ := I.at G r
  obtain ⟨xs, rfl, rfl⟩ := ints_of q
  have hne : 0 < xs.length := by
    cases xs with
    | nil => cases hm
    | cons => exact Nat.succ_pos _
  refine min_intList R.h (xs := xs.toArray) ⟨_, e, rfl, n, by rw [intItems_of]; rfl⟩ (by simpa using hne) fun v h' tk hv hk => gv_keep G (R := IsD B _) ?_ tk hk
  obtain ⟨t, rfl⟩ := intItems_at hv
  obtain ⟨h1, h2⟩ := argBest_lt (numAt xs.toArray) (xs.toArray.size - 1)
  have num : ∀ i < xs.length, numAt xs.toArray i ∈ xs.map (·.1) := fun i hi => by
    unfold numAt
    simp only [List.getElem?_toArray, List.getElem?_eq_getElem hi]
    exact List.mem_map_of_mem (List.getElem_mem hi)
  rw [List.size_toArray] at *
  generalize argBest (fun i j => decide (numAt xs.toArray i < numAt xs.toArray j)) (xs.length - 1) = z at *
  have hb := hle _ (num z (by omega))
  obtain ⟨p, hp, rfl⟩ := List.mem_map.mp hm
  obtain ⟨i, hi, rfl⟩ := List.getElem_of_mem hp
  have h3 := h2 i (by omega)
  have h4 : numAt xs.toArray i = xs[i].1 := by
    unfold numAt
    simp only [List.getElem?_toArray, List.getElem?_eq_getElem hi]; rfl
  rw [h4] at h3
  rw [Int.le_antisymm hb h3]
  exact .int _ _
end
end Mine
namespace Mine
open PySem PySem.W PyProof.Rows PySem.Calls

structure ZAp (z TI TO i1 i2 : Addr) (fp1 fp2 : List Addr) : Prop where
  z1 : z ∉ fp1
  z2 : z ∉ fp2
  o1 : TO ∉ fp1
  o2 : TO ∉ fp2
  x12 : i1 ∉ fp2
  x21 : i2 ∉ fp1
  TIz : TI ≠ z
  TOz : TO ≠ z
  TITO : TI ≠ TO
  TIi1 : TI ≠ i1
  TIi2 : TI ≠ i2
  TOi1 : TO ≠ i1
  TOi2 : TO ≠ i2
  i1z : i1 ≠ z
  i2z : i2 ≠ z
section
variable {prog : Program} {w : World} {A : Around} {E : Value → Shared → Prop} {s : Shared} {z TI TO i1 i2 : Addr} {fp1 fp2 : List Addr} {n1 n2 k : Nat} {P1 P2 : Nat → Value → Prop} {S1 S2 : Nat → Heap → Prop} {a b : Value}
theorem Draws.but (D : Draws prog w A i1 fp1 n1 P1 S1) {h h' : Heap} {c : Addr} (st : S1 k h) (hs : Heap.SameBut c h h') (hc : c ∉ fp1) : S1 k h' := D.frame _ _ _ st fun b hb o q => (hs.2 b fun r => hc (r ▸ hb)).trans q
theorem zip_item (D1 : Draws prog w A i1 fp1 n1 P1 S1) (D2 : Draws prog w A i2 fp2 n2 P2 S2) (D : ZAp z TI TO i1 i2 fp1 fp2) (hz : IsZip s.heap z TI TO .none) (hTI : IsPair s.heap TI (.ref i1) (.ref i2)) (hTO : IsPair s.heap TO a b) (h1 : S1 k s.heap) (h2 : S2 k s.heap) (hk1 : k < n1) (hk2 : k < n2) {Q : Value → Shared → Prop}
    (hQ : ∀ x y h' tk, P1 k x → P2 k y → IsZip h' z TI TO (rawInt s.heap.objs.size) → IsPair h' TO x y → S1 (k + 1) h' → S2 (k + 1) h' → IsPair h' s.heap.objs.size x y → (∀ c o, c ∉ [z, TO, i1, i2] → s.heap.get? c = some o → h'.get? c = some o) → Q (.ref s.heap.objs.size) { s with heap := h', toks := tk }) :
    wpAny (model prog w) A (Builtin.«zip.__next__» ⟨[.ref z], []⟩) (fun fin s' => ∃ v, fin = .done (.ret v) ∧ Q v s') E s := by
  show wpAny _ _ (field (.ref z) 2 >>= _) _ _ _
  refine wpAny_bind (wpAny_field hz rfl (x := .bool false) rfl ?_)
  show wpAny _ _ (field (.ref z) 3 >>= _) _ _ _
  refine wpAny_bind (wpAny_field hz rfl (x := .ref TI) rfl ?_)
  refine wpAny_bind (wpAny_seqItems hTI rfl ?_)
  show wpAny _ _ (Builtin.SmallTypes.ownedTupleIsFree (.ref z) >>= _) _ _ _
  refine wpAny_bind ?_
  unfold Builtin.SmallTypes.ownedTupleIsFree
  refine wpAny_bind (wpAny_field hz rfl (x := .none) rfl (wpAny_pure ?_))
  simp only [if_true]
  refine wpAny_bind (wpAny_rule ?_)
  refine wpAny_bind (wpAny_field hz rfl (x := .ref TO) rfl ?_)
  refine wpAny_bind (wpAny_setField_rec hz (by simp) fun h₁ hz₁ hs₁ => ?_)
  replace hz₁ : IsZip h₁ z TI TO .ellipsis := hz₁
  refine wpAny_bind ?_
  simp only [List.zipIdx_cons, List.zipIdx_nil, List.forIn_cons, List.forIn_nil]
  refine wpAny_bind (wpAny_bind (wpAny_onRaise ?_))
  show wpAny _ _ (Builtin.SmallTypes.nextOf (.ref i1) >>= _) _ _ _
  refine wpAny_bind (D1.item k { s with heap := h₁ } _ _ hk1 (Draws.but D1 h1 hs₁ D.z1) fun x h₂ tk₂ p1 h1₂ hs₂ => wpAny_pure ?_)
  have hTO₂ : IsPair h₂ TO a b := hs₂.extBut _ _ D.TOi1 (hs₁.extBut _ _ D.TOz hTO)
  refine wpAny_bind (wpAny_seqItems hTO₂ rfl ?_)
  refine wpAny_bind (wpAny_updateSeq_pair hTO₂ fun h₃ hTO₃ hs₃ => ?_)
  replace hTO₃ : IsPair h₃ TO x b := hTO₃
  refine wpAny_bind (wpAny_letGo (wpAny_pure ?_))
  refine wpAny_bind (wpAny_bind (wpAny_onRaise ?_))
  show wpAny _ _ (Builtin.SmallTypes.nextOf (.ref i2) >>= _) _ _ _
  refine wpAny_bind (D2.item k { s with heap := h₃, toks := tk₂ } _ _ hk2 (Draws.but D2 (Draws.but D2 (Draws.but D2 h2 hs₁ D.z2) hs₂ D.x12) hs₃ D.o2) fun y h₄ tk₄ p2 h2₄ hs₄ => wpAny_pure ?_)
  have hTO₄ : IsPair h₄ TO x b := hs₄.extBut _ _ D.TOi2 hTO₃
  refine wpAny_bind (wpAny_seqItems hTO₄ rfl ?_)
  refine wpAny_bind (wpAny_updateSeq_pair hTO₄ fun h₅ hTO₅ hs₅ => ?_)
  replace hTO₅ : IsPair h₅ TO x y := hTO₅
  refine wpAny_bind (wpAny_letGo (wpAny_pure (wpAny_pure ?_)))
  refine wpAny_bind (wpAny_seqItems hTO₅ rfl ?_)
  refine wpAny_bind (wpAny_newTuple ?_)
  have hsz : h₅.objs.size = s.heap.objs.size := by rw [hs₅.1, hs₄.1, hs₃.1, hs₂.1, hs₁.1]
  have hz₅ : IsZip h₅ z TI TO .ellipsis := hs₅.extBut _ _ D.TOz.symm (hs₄.extBut _ _ D.i2z.symm (hs₃.extBut _ _ D.TOz.symm (hs₂.extBut _ _ D.i1z.symm hz₁)))
  have hk₅ : ∀ c o, c ∉ [z, TO, i1, i2] → s.heap.get? c = some o → h₅.get? c = some o := fun c o hc e => by
    simp only [List.mem_cons, List.not_mem_nil, or_false, not_or] at hc
    exact hs₅.extBut _ _ hc.2.1 (hs₄.extBut _ _ hc.2.2.2 (hs₃.extBut _ _ hc.2.1 (hs₂.extBut _ _ hc.2.2.1 (hs₁.extBut _ _ hc.1 e))))
  have hzlt : z < h₅.objs.size := Heap.lt_size hz₅
  show wpAny _ _ (Builtin.SmallTypes.ownedTupleHandOut (.ref z) (.ref h₅.objs.size) >>= _) _ _ _
  refine wpAny_bind ?_
  unfold Builtin.SmallTypes.ownedTupleHandOut
  have hz₆ : IsZip (h₅.push { cls := .type "tuple", data := .seq #[x, y] }) z TI TO .ellipsis := Heap.get?_push_of_some _ hz₅
  refine wpAny_bind (wpAny_setField_rec hz₆ (by simp) fun h₇ hz₇ hs₇ => ?_)
  replace hz₇ : IsZip h₇ z TI TO (rawInt h₅.objs.size) := hz₇
  refine wpAny_setField_rec hz₇ (by simp) fun h₈ hz₈ hs₈ => ?_
  replace hz₈ : IsZip h₈ z TI TO (rawInt h₅.objs.size) := hz₈
  have up : ∀ c o, c ≠ z → h₅.get? c = some o → h₈.get? c = some o := fun c o c1 e => hs₈.extBut _ _ c1 (hs₇.extBut _ _ c1 (Heap.get?_push_of_some _ e))
  have hT₈ : IsPair h₈ h₅.objs.size x y := hs₈.extBut _ _ (Nat.ne_of_gt hzlt) (hs₇.extBut _ _ (Nat.ne_of_gt hzlt) (Heap.get?_push_size _ rfl))
  rw [hsz] at hz₈ hT₈
  refine wpAny_pure ⟨_, rfl, ?_⟩
  show Q (.ref h₅.objs.size) _
  rw [hsz]
  refine hQ x y h₈ tk₄ p1 p2 hz₈ (up _ _ D.TOz hTO₅) ?_ ?_ hT₈ fun c o hc e => up c o (fun r => hc (by simp [r])) (hk₅ c o hc e)
  · exact D1.frame _ _ _ (Draws.but D1 (Draws.but D1 (Draws.but D1 h1₂ hs₃ D.o1) hs₄ D.x21) hs₅ D.o1) fun c hc o q => up c o (fun r => D.z1 (r ▸ hc)) q
  · exact D2.frame _ _ _ (Draws.but D2 h2₄ hs₅ D.o2) fun c hc o q => up c o (fun r => D.z2 (r ▸ hc)) q
theorem zip_end (D1 : Draws prog w A i1 fp1 n1 P1 S1) (D : ZAp z TI TO i1 i2 fp1 fp2) (hz : IsZip s.heap z TI TO .none) (hTI : IsPair s.heap TI (.ref i1) (.ref i2)) (h1 : S1 n1 s.heap) {Q : Fin → Shared → Prop}
    (hE : ∀ h' e, (∀ c o, c ∉ [z, TO, i1, i2] → s.heap.get? c = some o → h'.get? c = some o) → (∃ o, h'.get? e = some o ∧ o.cls = .type "StopIteration") → E (.ref e) { s with heap := h' }) :
    wpAny (model prog w) A (Builtin.«zip.__next__» ⟨[.ref z], []⟩) Q E s := by
  show wpAny _ _ (field (.ref z) 2 >>= _) _ _ _
  refine wpAny_bind (wpAny_field hz rfl (x := .bool false) rfl ?_)
  show wpAny _ _ (field (.ref z) 3 >>= _) _ _ _
  refine wpAny_bind (wpAny_field hz rfl (x := .ref TI) rfl ?_)
  refine wpAny_bind (wpAny_seqItems hTI rfl ?_)
  show wpAny _ _ (Builtin.SmallTypes.ownedTupleIsFree (.ref z) >>= _) _ _ _
  refine wpAny_bind ?_
  unfold Builtin.SmallTypes.ownedTupleIsFree
  refine wpAny_bind (wpAny_field hz rfl (x := .none) rfl (wpAny_pure ?_))
  simp only [if_true]
  refine wpAny_bind (wpAny_rule ?_)
  refine wpAny_bind (wpAny_field hz rfl (x := .ref TO) rfl ?_)
  refine wpAny_bind (wpAny_setField_rec hz (by simp) fun h₁ hz₁ hs₁ => ?_)
  replace hz₁ : IsZip h₁ z TI TO .ellipsis := hz₁
  refine wpAny_bind ?_
  simp only [List.zipIdx_cons, List.zipIdx_nil, List.forIn_cons, List.forIn_nil]
  refine wpAny_bind (wpAny_bind (wpAny_onRaise ?_))
  show wpAny _ _ (Builtin.SmallTypes.nextOf (.ref i1) >>= _) _ _ _
  refine wpAny_bind (D1.done { s with heap := h₁ } _ _ (Draws.but D1 h1 hs₁ D.z1) fun h₂ e hs₂ he => ?_)
  obtain ⟨oe, hoe, hce⟩ := he
  have hz₂ : IsZip h₂ z TI TO .ellipsis := hs₂ _ _ D.i1z.symm hz₁
  have hez : e ≠ z := fun x => by subst x; rw [hz₂] at hoe; cases hoe; simp at hce
  exact wpAny_setField_rec hz₂ (by simp) fun h₃ z_ hs₃ => hE h₃ e (fun c o hc x => hs₃.extBut _ _ (fun r => hc (by simp [r])) (hs₂ _ _ (fun r => hc (by simp [r])) (hs₁.extBut _ _ (fun r => hc (by simp [r])) x))) ⟨oe, hs₃.extBut _ _ hez hoe, hce⟩
noncomputable def PI (v : Value) (o : Obj) (h : Heap) : Prop := ∀ (prog : Program) (w : World) (A : Around) (Q : Value → Shared → Prop) (E : Value → Shared → Prop) (s : Shared), s.heap = h → Q (.ref h.objs.size) { s with heap := h.push o } → wpAny (model prog w) A (pyIter v) Q E s
noncomputable def zH (h : Heap) (o1 o2 : Obj) : Heap := ((((h.push o1).push o2).push { cls := .type "tuple", data := .seq #[.ref h.objs.size, .ref (h.push o1).objs.size] }).push { cls := .type "tuple", data := .seq #[.none, .none] }).push
  { cls := .type "zip", data := .fields #[.none, .bool false, .bool false, .ref ((h.push o1).push o2).objs.size, .ref (((h.push o1).push o2).push { cls := .type "tuple", data := .seq #[.ref h.objs.size, .ref (h.push o1).objs.size] }).objs.size] }
theorem zip_new (u v : Value) (o1 o2 : Obj) : Meets (Builtin.«zip.__new__» ⟨[.type "zip", u, v], []⟩) (fun z_ R s => PI u o1 s.heap ∧ PI v o2 (s.heap.push o1) ∧ R (.ok (.ret (.ref ((((s.heap.push o1).push o2).push { cls := .type "tuple", data := .seq #[.ref s.heap.objs.size, .ref (s.heap.push o1).objs.size] }).push { cls := .type "tuple", data := .seq #[.none, .none] }).objs.size))) { s with heap := zH s.heap o1 o2 }) :=
  .of_wp fun prog w A R s h => by
    obtain ⟨hp, g, d, tk, os⟩ := s; obtain ⟨p1, p2, h⟩ := h
    have hsub := sub_zip
    have q1 := fun A Q E => p1 prog w A Q E ⟨hp, g, d, tk, os⟩ rfl
    have q2 := fun A Q E => p2 prog w A Q E ⟨hp.push o1, g, d, tk, os⟩ rfl
    wp_walk using q1 _ _ _, q2 _ _ _
    exact ⟨_, rfl, h⟩
end
end Mine
namespace Mine
open PySem PySem.W PyProof.Rows PySem.Calls

noncomputable abbrev zipD (l r : List D) : List D := List.zipWith (fun a b => D.tup [a, b]) l r
inductive Drw (B : Base) (W : Wd) (ds : List D) (u : Value) : Prop
  | mk (o : Obj) (fp : List Addr) (P : Nat → Value → Prop) (S : Addr → Nat → Heap → Prop) : (∀ h, (∀ a o, W.Z a = some o → h.get? a = some o) → PI u o h) → (∀ (prog : Program) (w : World) A it, A.handled = none → it ∉ fp → Draws prog w A it (it :: fp) ds.length P (S it)) →
    (∀ i x d, P i x → ds[i]? = some d → VR B.C W d x) → (∀ it h, h.get? it = some o → (∀ a o, W.Z a = some o → h.get? a = some o) → S it 0 h) → (∀ b ∈ fp, ∃ o, W.Z b = some o) → o.isFreed = false → Drw B W ds u
section
variable {B : Base} {k : Nat} {A : Around} {env : Env} {sc : Scope} {v : Vars} {s : Shared} {W : Wd} {st st₁ st' : Sto} {ds ds' : List D} {u : Value} {w : List Nat}
theorem drw_lst (r : VR B.C W (.lst ds) u) : Drw B W ds u := by
  obtain ⟨c, vs, n, e, q, hl⟩ := r.lst'
  have L : ∀ h : Heap, (∀ a o, W.Z a = some o → h.get? a = some o) → h.IsList c vs.toArray := fun h hz => ⟨_, hz _ _ e, rfl, n, rfl⟩
  refine ⟨{ cls := .type "list_iterator", data := .fields #[.ref c, .int 0 0] }, [c], fun i v => vs.toArray[i]? = some v, fun it i h => h.IsListIter it c i ∧ h.IsList c vs.toArray, fun h hz prog w A Q E s hs hq => ?_, fun prog w A it hh hne => ?_, fun i x d hp e => q.at e (by simpa using hp), fun it h ho hz => ⟨⟨_, ho, rfl, rfl⟩, L h hz⟩, fun b hb => by cases List.mem_singleton.mp hb; exact ⟨_, e⟩, rfl⟩
  · subst hs; exact wpAny_pyIter_list (L _ hz) hq
  · rw [← q.length, ← List.size_toArray]
    exact Draws.list hh it c (fun r => hne (List.mem_singleton.mpr r.symm)) vs.toArray
theorem z4 {z TI TO i1 i2 c : Addr} (r : c ∈ [z, TO, i1, i2]) : c ∈ [z, TI, TO, i1, i2] := by
  simp only [List.mem_cons, List.not_mem_nil, or_false] at r ⊢
  rcases r with r | r | r | r <;> simp [r]
set_option tactic.hygienic true in
theorem Wk.zip {z TI TO i1 i2 : Addr} {fp1 fp2 : List Addr} {P1 P2 : Nat → Value → Prop} {S1 S2 : Nat → Heap → Prop} (D1 : Draws B.prog B.w A.in1 i1 (i1 :: fp1) ds.length P1 S1) (D2 : Draws B.prog B.w A.in1 i2 (i2 :: fp2) ds'.length P2 S2) (D : ZAp z TI TO i1 i2 (i1 :: fp1) (i2 :: fp2)) (hl : ds.length ≤ ds'.length)
    (hP1 : ∀ i x d, P1 i x → ds[i]? = some d → VR B.C W d x) (hP2 : ∀ i x d, P2 i x → ds'[i]? = some d → VR B.C W d x) : Wk B A true z [z, TI, TO, i1, i2] (z :: TI :: TO :: ((i1 :: fp1) ++ (i2 :: fp2))) (zipD ds ds')
      (fun i h => IsZip h z TI TO .none ∧ IsPair h TI (.ref i1) (.ref i2) ∧ (∃ a b, IsPair h TO a b) ∧ S1 i h ∧ S2 i h) W where
  frame := fun i h h' ⟨hz, hTI, ⟨a, b, hTO⟩, h1, h2⟩ hk => ⟨hk z (by simp) _ hz, hk TI (by simp) _ hTI, ⟨a, b, hk TO (by simp) _ hTO⟩, D1.frame _ _ _ h1 fun b hb => hk b (.tail _ (.tail _ (.tail _ (List.mem_append_left _ hb)))), D2.frame _ _ _ h2 fun b hb => hk b (.tail _ (.tail _ (.tail _ (List.mem_append_right _ hb))))⟩
  live := fun i h c ⟨hz, hTI, ⟨a, b, hTO⟩, h1, h2⟩ hb => by
    simp only [List.mem_cons, List.not_mem_nil, or_false] at hb
    rcases hb with rfl | rfl | rfl | rfl | rfl
    · exact ⟨_, hz⟩
    · exact ⟨_, hTI⟩
    · exact ⟨_, hTO⟩
    · exact D1.live _ _ h1
    · exact D2.live _ _ h2
  item := fun i d s W' st Q E target ht hd ⟨hz, hTI, ⟨a, b, hTO⟩, h1, h2⟩ x G hof hQ => by
    obtain ⟨d1, d2, e1, e2, rfl⟩ : ∃ d1 d2, ds[i]? = some d1 ∧ ds'[i]? = some d2 ∧ d = .tup [d1, d2] := by
      rw [List.getElem?_zipWith] at hd
      split at hd
      · rename_i d1 d2 e1 e2; cases hd; exact ⟨d1, d2, e1, e2, rfl⟩
      · cases hd
    have hT : s.TypeIs (.ref z) "zip" := ⟨_, hz, rfl⟩
    unfold pyNext
    refine wpAny_bind (wpAny_attempt (wpAny_callSpecial?_slot (name := Str.ofString "__next__") hT F.slot_zip_next (wpAny_call_entry F.slot_zip_next hT F.entry_zip_next
      (zip_item D1 D2 D hz hTI hTO h1 h2 (List.getElem?_eq_some_iff.mp e1).1 (List.getElem?_eq_some_iff.mp e2).1 fun u1 u2 h' tk p1 p2 a1 a2 a3 a4 a5 hk => wpAny_pure ?_) (F.args_zip_next_1 _))))
    cases target with
    | Tuple ts j pos =>
      refine wpAny_letOwnedTupleGo_zip a1 fun h₂ hz₂ hs₂ => ?_
      have lt : ∀ {c o}, s.heap.get? c = some o → s.heap.objs.size ≠ c := fun e => Nat.ne_of_gt (Heap.lt_size e)
      have up : ∀ c o, c ∉ [z, TI, TO, i1, i2] → s.heap.get? c = some o → h₂.get? c = some o := fun c o hc e => (hs₂.2 _ (fun r => hc (by simp [r]))).trans (hk c o (fun r => hc (z4 r)) e)
      have f := G.fresh (size_none s.heap)
      have st1 : S1 (i + 1) h₂ := Draws.but D1 a3 hs₂ D.z1
      have st2 : S2 (i + 1) h₂ := Draws.but D2 a4 hs₂ D.z2
      have kTI : IsPair h₂ TI (.ref i1) (.ref i2) := (hs₂.2 _ D.TIz).trans (hk TI _ (by simp [D.TIz, D.TITO, D.TIi1, D.TIi2]) hTI)
      have kTO : IsPair h₂ TO u1 u2 := (hs₂.2 _ D.TOz).trans a2
      have G₂ : Good B h₂ W' st := G.but (X := (· ∈ [z, TI, TO, i1, i2])) (fun b o q m => up b o m q) fun b m => let f := hof b m; ⟨f.z, f.m, f.t⟩
      have S₂ : Step B (· ∈ [z, TI, TO, i1, i2]) s W' st { s with heap := h₂, toks := tk } W' st := .but (fun b o q m => up b o m q) (fun c o q => by
        by_cases hb : c ∈ [z, TI, TO, i1, i2]
        · simp only [List.mem_cons, List.not_mem_nil, or_false] at hb
          rcases hb with rfl | rfl | rfl | rfl | rfl
          · exact ⟨_, hz₂⟩
          · exact ⟨_, kTI⟩
          · exact ⟨_, kTO⟩
          · exact D1.live _ _ st1
          · exact D2.live _ _ st2
        · exact ⟨o, up c o hb q⟩) tk
      refine hQ _ { s with heap := h₂, toks := tk } (W'.add s.heap.objs.size (tupO [u1, u2] 0)) ⟨hz₂, kTI, ⟨_, _, kTO⟩, st1, st2⟩ (G₂.add ((hs₂.2 _ (lt hz)).trans a5) f.1 f.2.1 f.2.2) (S₂.add (size_none _) f.1) ?_
      exact .tup (vs := [u1, u2]) (n := 0) Wd.add_self (.cons ((hP1 i u1 d1 p1 e1).up (x.trans (Wd.le_add f.1))) (.cons ((hP2 i u2 d2 p2 e2).up (x.trans (Wd.le_add f.1))) .nil)) (by show 2 ≤ LIM; decide)
    | _ => exact absurd (ht rfl) (by simp [isTuple])
  done := fun s Q E ⟨hz, hTI, ⟨a, b, hTO⟩, h1, h2⟩ hQ => by
    have hT : s.TypeIs (.ref z) "zip" := ⟨_, hz, rfl⟩
    rw [List.length_zipWith, Nat.min_eq_left hl] at h1
    unfold pyNext
    refine wpAny_bind (wpAny_attempt (wpAny_callSpecial?_slot (name := Str.ofString "__next__") hT F.slot_zip_next
      (wpAny_call_entry F.slot_zip_next hT F.entry_zip_next (zip_end D1 D hz hTI h1 fun h' e hk he => ?_) (F.args_zip_next_1 _))))
    obtain ⟨o, ho, hc⟩ := he
    refine wpAny_bind (wpAny_isInstance (T := "StopIteration") (b := true) ⟨o, ho, hc⟩ isSubtype_stop ?_)
    exact wpAny_pure (hQ h' s.toks fun b o hb q => hk b o (fun r => hb (z4 r)) q)
  self := fun i s Q E ⟨hz, _⟩ hQ => wpAny_pyIter_zip hz hQ
noncomputable def DrT (B : Base) (a : D) (ds : List D) : Prop := ∀ W u, VR B.C W a u → Drw B W ds u
theorem dr_lst {l : List D} : DrT B (.lst l) l := fun z_ z_ r => drw_lst r
theorem walk_zip {u' : Value} (hh : A.handled = none) (G : Good B s.heap W st) (r1 : Drw B W ds u) (r2 : Drw B W ds' u') (hl : ds.length ≤ ds'.length) : wpAny (model B.prog B.w) A (call (.type "zip") [u, u']) (fun v s₁ => wpAny (model B.prog B.w) A (pyIter v) (IterAt B A true s W st st (zipD ds ds') none) NoE s₁) NoE s := by
  obtain ⟨o1, fp1, P1, S1, a1, b1, c1, d1, e1, f1⟩ := r1
  obtain ⟨o2, fp2, P2, S2, a2, b2, c2, d2, e2, f2⟩ := r2
  have k1 := keep_push (h := s.heap) o1
  refine callType_new F.called_zip (by decide) (F.typeCall_zip_2 _ _) (F.newCall_zip_2 _ _) (fun obj => F.args_object_init_3 obj _ _) F.entry_zip_new (zip_new u u' o1 o2) ⟨a1 _ G.hz, a2 _ fun a o e => k1 _ _ (G.hz a o e), ?_⟩
  generalize hN : s.heap.objs.size = N
  have z1 : (s.heap.push o1).objs.size = N + 1 := by rw [Heap.size_push, hN]
  have z2 : ((s.heap.push o1).push o2).objs.size = N + 2 := by rw [Heap.size_push, z1]
  rw [z1]
  have z3 : (((s.heap.push o1).push o2).push { cls := .type "tuple", data := .seq #[.ref N, .ref (N + 1)] }).objs.size = N + 3 := by rw [Heap.size_push, z2]
  have z4 : ((((s.heap.push o1).push o2).push { cls := .type "tuple", data := .seq #[.ref N, .ref (N + 1)] }).push { cls := .type "tuple", data := .seq #[.none, .none] }).objs.size = N + 4 := by rw [Heap.size_push, z3]
  rw [z4]
  have hH : zH s.heap o1 o2 = ((((s.heap.push o1).push o2).push { cls := .type "tuple", data := .seq #[.ref N, .ref (N + 1)] }).push { cls := .type "tuple", data := .seq #[.none, .none] }).push { cls := .type "zip", data := .fields #[.none, .bool false, .bool false, .ref (N + 2), .ref (N + 3)] } := by
    unfold zH; rw [hN, z1, z2, z3]
  generalize hh' : zH s.heap o1 o2 = h' at hH
  have up1 : ∀ a o, (s.heap.push o1).get? a = some o → h'.get? a = some o := fun a o e => hH ▸ Heap.get?_push_of_some _ (Heap.get?_push_of_some _ (Heap.get?_push_of_some _ (Heap.get?_push_of_some _ e)))
  have up : ∀ a o, s.heap.get? a = some o → h'.get? a = some o := fun a o e => up1 a o (Heap.get?_push_of_some _ e)
  have g5 : IsZip h' (N + 4) (N + 2) (N + 3) .none := by
    have := Heap.get?_push_size ((((s.heap.push o1).push o2).push { cls := .type "tuple", data := .seq #[.ref N, .ref (N + 1)] }).push { cls := .type "tuple", data := .seq #[.none, .none] }) (o := { cls := .type "zip", data := .fields #[.none, .bool false, .bool false, .ref (N + 2), .ref (N + 3)] }) rfl
    rw [z4, ← hH] at this; exact this
  have g4 : IsPair h' (N + 3) .none .none := by
    have := Heap.get?_push_size (((s.heap.push o1).push o2).push { cls := .type "tuple", data := .seq #[.ref N, .ref (N + 1)] }) (o := { cls := .type "tuple", data := .seq #[.none, .none] }) rfl
    rw [z3] at this
    rw [hH]; exact Heap.get?_push_of_some _ this
  have g3 : IsPair h' (N + 2) (.ref N) (.ref (N + 1)) := by
    have := Heap.get?_push_size ((s.heap.push o1).push o2) (o := { cls := .type "tuple", data := .seq #[.ref N, .ref (N + 1)] }) rfl
    rw [z2] at this
    rw [hH]; exact Heap.get?_push_of_some _ (Heap.get?_push_of_some _ this)
  have g2 : h'.get? (N + 1) = some o2 := by
    have := Heap.get?_push_size (s.heap.push o1) f2
    rw [z1] at this
    rw [hH]; exact Heap.get?_push_of_some _ (Heap.get?_push_of_some _ (Heap.get?_push_of_some _ this))
  have g1 : h'.get? N = some o1 := by
    have := Heap.get?_push_size s.heap f1
    rw [hN] at this
    exact up1 _ _ this
  have hz' : ∀ a o, W.Z a = some o → h'.get? a = some o := fun a o e => up a o (G.hz a o e)
  have nw : ∀ {b : Addr}, N ≤ b → s.heap.get? b = none := fun hb => Heap.get?_none_of_le (hN ▸ hb)
  have ap : ∀ {fp : List Addr} {b : Addr}, (∀ b ∈ fp, ∃ o, W.Z b = some o) → N ≤ b → b ∉ fp := fun h hb m => by
    obtain ⟨o, e⟩ := h _ m
    have := G.hz _ _ e
    rw [nw hb] at this; cases this
  have ne : ∀ i j : Nat, i ≠ j → (N + i : Nat) ≠ N + j := fun i j h e => h (Nat.add_left_cancel e)
  have le : ∀ i, N ≤ N + i := fun i => Nat.le_add_right N i
  have cns : ∀ {x y : Addr} {fp : List Addr}, x ≠ y → x ∉ fp → x ∉ y :: fp := fun a b m => (List.mem_cons.mp m).elim a b
  have DD : ZAp (N + 4) (N + 2) (N + 3) N (N + 1) (N :: fp1) ((N + 1) :: fp2) :=
    ⟨cns (ne 4 0 (by decide)) (ap e1 (le 4)), cns (ne 4 1 (by decide)) (ap e2 (le 4)), cns (ne 3 0 (by decide)) (ap e1 (le 3)), cns (ne 3 1 (by decide)) (ap e2 (le 3)), cns (ne 0 1 (by decide)) (ap e2 (le 0)), cns (ne 1 0 (by decide)) (ap e1 (le 1)), (ne 2 4 (by decide)), (ne 3 4 (by decide)), (ne 2 3 (by decide)), (ne 2 0 (by decide)), (ne 2 1 (by decide)), (ne 3 0 (by decide)), (ne 3 1 (by decide)), (ne 0 4 (by decide)), (ne 1 4 (by decide))⟩
  refine ⟨⟨_, g5, rfl⟩, wpAny_pyIter_zip g5 ?_⟩
  refine ⟨N + 4, [N + 4, N + 2, N + 3, N, N + 1], _, _, W, s, _, G.keep up, .refl, ⟨up, rfl, rfl⟩, Wk.zip (b1 B.prog B.w A.in1 N hh (ap e1 (Nat.le_refl _))) (b2 B.prog B.w A.in1 (N + 1) hh (ap e2 (Nat.le_succ _))) DD hl c1 c2, ⟨g5, g3, ⟨_, _, g4⟩, d1 _ _ g1 hz', d2 _ _ g2 hz'⟩, fun b m => ?_, fun b m => ?_, fun z_ q => nomatch q⟩
  · have hb : N ≤ b ∧ ∃ o, h'.get? b = some o := by
      simp only [List.mem_cons, List.not_mem_nil, or_false] at m
      rcases m with rfl | rfl | rfl | rfl | rfl
      · exact ⟨le 4, _, g5⟩
      · exact ⟨le 2, _, g3⟩
      · exact ⟨le 3, _, g4⟩
      · exact ⟨Nat.le_refl _, _, g1⟩
      · exact ⟨le 1, _, g2⟩
    have f := G.fresh (nw hb.1)
    exact ⟨nw hb.1, f.1, f.2.1, f.2.2, hb.2⟩
  · have old : ∀ {fp : List Addr}, (∀ b ∈ fp, ∃ o, W.Z b = some o) → b ∈ fp → (∃ o, s.heap.get? b = some o) ∧ ((∃ o, W.Z b = some o) ∨ ∃ n, (none : Option Nat) = some n ∧ W.adr[n]? = some b) := fun h m => let ⟨o, e⟩ := h b m; ⟨⟨o, G.hz _ _ e⟩, .inl ⟨o, e⟩⟩
    rcases List.mem_cons.mp m with rfl | m
    · exact .inl (.head _)
    · rcases List.mem_cons.mp m with rfl | m
      · exact .inl (.tail _ (.head _))
      · rcases List.mem_cons.mp m with rfl | m
        · exact .inl (.tail _ (.tail _ (.head _)))
        · rcases List.mem_append.mp m with m | m
          · rcases List.mem_cons.mp m with rfl | m
            · exact .inl (.tail _ (.tail _ (.tail _ (.head _))))
            · exact .inr (old e1 m)
          · rcases List.mem_cons.mp m with rfl | m
            · exact .inl (.tail _ (.tail _ (.tail _ (.tail _ (.head _)))))
            · exact .inr (old e2 m)
theorem it_zip {e e' : Expr} {a b : D} {p q : Pos} {pairs : Bool} {f : List D} (hp : pairs = true) (hk : gloKind sc "zip" = true) (hm : B.mg "zip" = none) (hb : bootBuiltins ("zip" : Str) = some (.type "zip")) (hs : isStar e = false) (hs' : isStar e' = false) (h : Ev B k sc v e st a st₁) (h' : Ev B k sc v e' st₁ b st') (d1 : DrT B a ds) (d2 : DrT B b ds') (hl : ds.length ≤ ds'.length) (hf : zipD ds ds' = f) :
    It B k sc v pairs (.Call (.Name "zip" p) [e, e'] [] q) st f none st' :=
  ⟨fun z_ z_ => rfl, fun A env s W R O => wpAny_Call_Name_kw (builtin_name O hk hm hb (by decide) (args_ok (es_cons hs h (es_cons hs' h' es_nil)) ek_nil R O (fun z_ z_ z_ z_ => keep_type _) fun us kus s₁ W₁ O₁ S₁ r₁ rk => by
    subst hp hf
    obtain ⟨u, us, r₂, r₃⟩ := r₁.cons'
    obtain ⟨u', rfl, r₄⟩ := r₃.one'
    cases vrf_nil rk
    exact wpAny_mono (walk_zip R.h O₁.g (d1 _ _ r₂) (d2 _ _ r₄) hl) (fun z_ z_ h => wpAny_mono h (fun z_ z_ x => x.from S₁) fun z_ z_ e => e) fun z_ z_ e => e))⟩
end
end Mine
namespace Mine
open PySem PySem.W PyProof.Rows PySem.Calls
section
variable {B : Base} {k : Nat} {sc : Scope} {v : Vars} {st st₁ st' : Sto} {e : Expr} {p q : Pos} {pairs : Bool}
theorem ints0 {n : Nat} : intsD 0 n = (List.range n).map fun (i : Nat) => D.int i := by
  unfold intsD
  exact List.map_congr_left fun i z_ => congrArg D.int (Int.zero_add _)
theorem it_rng {n : Nat} {b : Int} (hk : gloKind sc "range" = true) (hm : B.mg "range" = none) (hs : isStar e = false) (h : Ev B k sc v e st (.int b) st') (hb : b.natAbs ≤ LIM) (hn : b.toNat = n) : It B k sc v pairs (.Call (.Name "range" p) [e] [] q) st ((List.range n).map fun (i : Nat) => D.int i) none st' := by
  rw [← ints0, ← hn]; exact it_range hk hm hs h hb
theorem rg_im {j n : Nat} {f : Nat → D} (h : j < n) : ItOk B st (.lst ((List.range n).map f)) (.int j) (f j) := by
  refine im_lst (Items.lst _) (ix_ok (by rw [List.length_map, List.length_range]; exact h)) ?_
  rw [List.getElem?_map, List.getElem?_range h]; rfl
theorem eqv_nil {l : List D} : PyData.eqv (D.lst l).toP (D.lst []).toP = l.isEmpty := by cases l <;> rfl
theorem cp_ne_nil {l : List D} (h : l.all (D.ok 15) = true) : CmpOk B .NotEq st (.lst l) (.lst []) (!l.isEmpty) := eqv_nil ▸ cp_ne (.flat h) (.flat rfl)
theorem any_ints {l : List Nat} {j : Nat} : ((D.toPs (l.map fun (i : Nat) => D.int i)).any fun y => PyData.eqv y (D.int j).toP) = l.contains j := by
  induction l with
  | nil => rfl
  | cons a l ih =>
    rw [List.contains_cons, ← ih]
    show (((a : Int) == (j : Int)) || _) = _
    congr 1
    by_cases h : a = j
    · subst h; simp
    · have h' : ¬ ((a : Int) = (j : Int)) := fun e => h (Int.ofNat.inj e)
      rw [beq_eq_false_iff_ne.mpr h', beq_eq_false_iff_ne.mpr (Ne.symm h)]
theorem ok_ints {n : Nat} {l : List Nat} : (l.map fun (i : Nat) => D.int i).all (D.ok n) = true := by
  rw [List.all_map]; exact List.all_eq_true.mpr fun z_ z_ => by cases n <;> rfl
theorem cp_in_ints {l : List Nat} {j : Nat} : CmpOk B .In st (.int j) (.lst (l.map fun (i : Nat) => D.int i)) (l.contains j) := any_ints ▸ cp_in_lst (.flat rfl) (Items.lst _) ok_ints
theorem cp_notin_ints {l : List Nat} {j : Nat} : CmpOk B .NotIn st (.int j) (.lst (l.map fun (i : Nat) => D.int i)) (!l.contains j) := any_ints ▸ cp_notin_lst (.flat rfl) (Items.lst _) ok_ints
end
abbrev natsD (l : List Nat) : D := .lst (l.map fun (i : Nat) => D.int i)
theorem natsD_lt {l : List Nat} {n : Nat} : (natsD l).lt n = true := (lts_map fun z_ z_ => rfl : D.lts n _ = true)
theorem getD_some {l : List Nat} {k n : Nat} (h : k < l.length) : l[k]? = some (l.getD k n) := by
  rw [List.getD_eq_getElem?_getD, List.getElem?_eq_getElem h]; rfl
theorem sum_map {B : Base} {k : Nat} {st : Sto} {α : Type} {l : List α} {f : α → Int} : CallOk B k (.builtin "sum") [.lst (l.map fun a => .int (f a))] [] st (.int (l.map f).sum) st :=
  sum_ok (by have := Items.lst (st := st) ((l.map f).map D.int); rw [List.map_map] at this; rw [List.map_map]; exact this)
theorem sum_cast {α : Type} {f : α → Nat} : ∀ {l : List α}, (l.map fun a => ((f a : Nat) : Int)).sum = ((l.map f).sum : Nat)
  | [] => rfl
  | a :: l => by rw [List.map_cons, List.sum_cons, sum_cast, List.map_cons, List.sum_cons]; push_cast; rfl
theorem sum_nat {B : Base} {k : Nat} {st : Sto} {α : Type} {l : List α} {f : α → Nat} : CallOk B k (.builtin "sum") [.lst (l.map fun a => .int (f a))] [] st (.int ((l.map f).sum : Nat)) st := sum_cast (l := l) (f := f) ▸ sum_map
theorem le_lim {n : Nat} (h : n ≤ 1000) : n ≤ LIM := Nat.le_trans h (by decide)
theorem cp_leN {B : Base} {st : Sto} {i j : Int} : CmpOk B .LtE st (.int i) (.int j) (decide (i ≤ j)) := cp_le
theorem map_at {α β : Type} (f : α → β) (d : α) : ∀ (l : List α) (n : Nat), l.length = n → l.map f = (List.range n).map fun k => f (l.getD k d)
  | [], n, h => by cases h; rfl
  | a :: l, n, h => by
    cases h
    rw [List.length_cons, List.range_succ_eq_map, List.map_cons, List.map_cons, List.map_map, map_at f d l _ rfl]; rfl
section
variable {B : Base} {st : Sto} {a : D} {p : PyData}
theorem cp_eq_self (ha : Rd st a p) : CmpOk B .Eq st a a true := fun A s W u w R G ru rw Q E h => by
  have x := ha.at G ru
  exact cp_eq ha ha A s W u w R G ru rw Q E (by rw [SeqAt.eqv_refl p x.c]; exact h)
theorem cut_take {α : Type} {l : List α} {n : Nat} : cutI l none (some (n : Int)) = l.take n := by
  show (l.drop 0).take (clipAt l.length n - 0) = _
  rw [List.drop_zero, Nat.sub_zero, clip_le]
  exact List.take_eq_take_min.symm
theorem cut_drop {α : Type} {l : List α} {n : Nat} : cutI l (some (n : Int)) none = l.drop n := by
  show (l.drop (clipAt l.length n)).take (l.length - clipAt l.length n) = _
  rw [clip_le]
  by_cases h : n ≤ l.length
  · rw [Nat.min_eq_left h, List.take_of_length_le (by rw [List.length_drop]; exact Nat.le_refl _)]
  · rw [Nat.min_eq_right (Nat.le_of_not_le h), List.drop_length, List.take_nil, List.drop_eq_nil_of_le (Nat.le_of_not_le h)]
theorem sl_take {s : List Int} {n : Nat} : SlOk B st (.scr (s.map .int)) none (some (n : Int)) (.lst ((s.take n).map .int)) := by
  rw [List.map_take, ← cut_take]; exact cut_scr
theorem sl_drop {s : List Int} {n : Nat} : SlOk B st (.lst (s.map .int)) (some (n : Int)) none (.lst ((s.drop n).map .int)) := by
  rw [List.map_drop, ← cut_drop]; exact sl_lst (Items.lst _)
end
end Mine
namespace Mine
open PySem PySem.W PyProof.Rows PySem.Calls
section
variable {B : Base} {k : Nat} {st : Sto}
theorem max_ok {a : D} {ns : List Int} {m : Int} (I : Items st a (ns.map .int)) (hm : m ∈ ns) (hle : ∀ x ∈ ns, x ≤ m) : CallOk B k (.builtin "max") [a] [] st (.int m) st := call1 fun A s W u R G r => by
  obtain ⟨c, vs, n, e, q, hl⟩ := I.at G r
  obtain ⟨xs, rfl, rfl⟩ := ints_of q
  have hne : 0 < xs.length := by
    cases xs with
    | nil => cases hm
    | cons => exact Nat.succ_pos _
  refine max_intList R.h (xs := xs.toArray) ⟨_, e, rfl, n, by rw [intItems_of]; rfl⟩ (by simpa using hne) fun v h' tk hv hk => gv_keep G (R := IsD B _) ?_ tk hk
  obtain ⟨t, rfl⟩ := intItems_at hv
  obtain ⟨h1, h2⟩ := argBest_gt (numAt xs.toArray) (xs.toArray.size - 1)
  have num : ∀ i < xs.length, numAt xs.toArray i ∈ xs.map (·.1) := fun i hi => by
    unfold numAt
    simp only [List.getElem?_toArray, List.getElem?_eq_getElem hi]
    exact List.mem_map_of_mem (List.getElem_mem hi)
  rw [List.size_toArray] at *
  generalize argBest (fun i j => decide (numAt xs.toArray i > numAt xs.toArray j)) (xs.length - 1) = z at *
  have hb := hle _ (num z (by omega))
  obtain ⟨p, hp, rfl⟩ := List.mem_map.mp hm
  obtain ⟨i, hi, rfl⟩ := List.getElem_of_mem hp
  have h3 := h2 i (by omega)
  have h4 : numAt xs.toArray i = xs[i].1 := by
    unfold numAt
    simp only [List.getElem?_toArray, List.getElem?_eq_getElem hi]; rfl
  rw [h4] at h3
  rw [Int.le_antisymm h3 hb]
  exact .int _ _
variable {sc : Scope} {v v' : Vars} {st' : Sto} {Q : Fl → Vars → Sto → Prop} {x y : Str} {p p1 p2 p' pos : Pos} {i j : Nat} {e1 e2 : Expr} {d e : D}
end
end Mine
namespace Mine
open PySem PySem.W PyProof.Rows PySem.Calls PySem.Builtin
theorem idx_le {x : Nat} : ∀ {l : List Nat} {k : Nat}, l[k]? = some x → l.idxOf x ≤ k
  | [], _, h => nomatch h
  | a :: l, k, h => by
    rw [List.idxOf_cons]
    cases q : a == x with
    | true => exact Nat.zero_le _
    | false =>
      cases k with
      | zero => cases h; rw [beq_self_eq_true] at q; cases q
      | succ k => exact Nat.succ_le_succ (idx_le (l := l) (k := k) h)
section
variable {B : Base} {k n : Nat} {A : Around} {env : Env} {sc : Scope} {v : Vars} {s : Shared} {W : Wd} {st st₀ st₁ st' : Sto} {a d : D} {l es : List D} {e e' o : Expr} {p q q' pos : Pos} {w : List Nat} {c : Nat}
noncomputable def fnd (w : List Nat) (c : Nat) : Int := if c ∈ w then (w.idxOf c : Nat) else -1
theorem fnd_ok {x : Str} : (match Builtin.Str.occurrences x ⟨#[c]⟩ 0 x.length 1 with | i :: _ => (i : Int) | [] => -1) = fnd x.cps.toList c := by
  unfold fnd
  rcases StrLaws.occ_head x ⟨#[c]⟩ 1 (Nat.le_refl _) with ⟨h1, h2⟩ | ⟨i, r, h1, h2, h3⟩
  · rw [h1, if_neg]
    intro hm
    obtain ⟨i, hi⟩ := List.mem_iff_getElem?.mp hm
    exact h2 i ((StrLaws.subAt_one x c i).mpr hi)
  · have hi := (StrLaws.subAt_one x c i).mp h2
    have hm := List.mem_of_getElem? hi
    rw [h1, if_pos hm]
    have hl := List.idxOf_lt_length_iff.mpr hm
    have hx : x.cps.toList[x.cps.toList.idxOf c]? = some c := by rw [List.getElem?_eq_getElem hl, List.getElem_idxOf hl]
    have h4 := idx_le hi
    have h5 : ¬ x.cps.toList.idxOf c < i := fun h => h3 _ h ((StrLaws.subAt_one x c _).mpr hx)
    rw [show x.cps.toList.idxOf c = i by omega]
theorem find_ok : MtG B k (.str w) "find" st₀ [.str [c]] [] st (.int (fnd w c)) st := by
  refine ⟨.builtin "str.find", fun z_ z_ z_ z_ z_ z_ => keep_builtin _, fun A s W u pl Q E G r h => ?_, call2 fun A s W u z R G r ra => ?_⟩
  · obtain ⟨x, t, _, _, _⟩ := r.str'
    exact GM.of _ (typeIs_str _ x t) F.slot_str_find F.type_str_find (fun z_ h => nomatch h) (h s.toks)
  · obtain ⟨x, t, rfl, l1, c1⟩ := r.str'
    obtain ⟨y, t', e2, l2, c2⟩ := ra.str'
    rw [one_sign e2, ← fnd_ok]
    exact gv_tok (R := IsD B _) G (.int _ s.toks) fun Q E h => SC.find h
end
end Mine
namespace Mine
open PySem PySem.W PyProof.Rows PySem.Calls
section
variable {B : Base} {k : Nat} {sc : Scope} {v : Vars} {st st₁ st₂ st' : Sto} {o x y : Expr} {p pos : Pos} {w w' : List Nat} {i j : Int}
end
end Mine
namespace Mine
open PySem PySem.W PyProof.Rows PySem.Calls

section
variable {α : Type} {B : Base} {k d : Nat} {sc csc : Scope} {v v' : Vars} {st st₁ : Sto} {x o : List D} {e elt it tg : Expr} {gens gs : List Comprehension} {p pos spos : Pos} {y : Str} {ifs : List Expr} {Q : Fl → Vars → Sto → Prop} {z : D}
theorem outs_flat {l : List α} {F : α → List D} : outsTo (fun i => ((l.map F)[i]?).getD []) l.length = l.flatMap F := by
  unfold outsTo
  have key : (List.range l.length).map (fun i => ((l.map F)[i]?).getD []) = l.map F := by
    refine List.ext_getElem? fun i => ?_
    rw [List.getElem?_map]
    by_cases h : i < l.length
    · rw [List.getElem?_range h]
      simp [List.getElem?_map, List.getElem?_eq_getElem h]
    · rw [List.getElem?_eq_none (by rw [List.length_range]; omega), List.getElem?_eq_none (by rw [List.length_map]; omega)]; rfl
  rw [List.flatMap_def, key, List.flatMap_def]
theorem turns_flat {l : List α} {g : α → D} {F : α → List D} {T : D → List D → Prop} (ht : ∀ a ∈ l, T (g a) (F a)) : ∀ (i : Nat) (x : D), (l.map g)[i]? = some x → T x (((l.map F)[i]?).getD []) := fun i x e => by
  rw [List.getElem?_map] at e
  obtain ⟨a, e', rfl⟩ := Option.map_eq_some_iff.mp e
  rw [List.getElem?_map, e']
  exact ht a (List.mem_of_getElem? e')
theorem ev_flat {l : List α} {g : α → D} {F : α → List D} (hc : compOk sc csc = true) (hp : plainG (⟨tg, it, ifs, 0⟩ :: gs) = true) (hi : It B k sc v (isTuple tg) it st (l.map g) none st₁) (ht : ∀ a ∈ l, TurnN B k csc (compVars csc v) tg ifs elt (⟨tg, it, ifs, 0⟩ :: gs) pos 0 st₁ (g a) (F a)) (hlen : (l.flatMap F).length ≤ LIM) :
    Ev B k sc v (.ListComp elt (⟨tg, it, ifs, 0⟩ :: gs) csc pos) st (.lst (l.flatMap F)) st₁ := by
  have := ev_compN (pos := pos) (elt := elt) (fun i => ((l.map F)[i]?).getD []) hi hc hp (turns_flat ht) (by rw [List.length_map, outs_flat]; exact hlen)
  rw [List.length_map, outs_flat] at this; exact this
theorem tail_flat {l : List α} {g : α → D} {F : α → List D} (h1 : gens[d + 1]? = some ⟨tg, it, ifs, 0⟩) (hp : plainG gens = true) (hi : It B k csc v (isTuple tg) it st (l.map g) none st) (ht : ∀ a ∈ l, TurnN B k csc v tg ifs elt gens pos (d + 1) st (g a) (F a)) : TailN B k csc v elt gens pos d st (l.flatMap F) := by
  have := tail_more (gens := gens) (pos := pos) (elt := elt) (fun i => ((l.map F)[i]?).getD []) h1 hp hi (turns_flat ht)
  rw [List.length_map, outs_flat] at this; exact this
theorem turn_top {x : Str} (hb : bound1 csc x = true) {w : Vars} (hw : w = compVars csc v) (hT : TailN B k csc (setVar w x z) elt gens pos d st o) : TurnN B k csc w (.Name x p) [] elt gens pos d st z o := by
  subst hw
  exact .yes (.name hb) (ext_comp (tg := .Name x p) (.name hb)) tl_nil hT
theorem turn_new {x : Str} (hb : bound1 csc x = true) {w : Vars} (hn : w.lookup x = none) (hT : TailN B k csc (setVar w x z) elt gens pos d st o) : TurnN B k csc w (.Name x p) [] elt gens pos d st z o :=
  .yes (.name hb) (ext_new hn) tl_nil hT
theorem turn_if {x : Str} {pr : Bool} {c : Expr} {r : D} (hb : bound1 csc x = true) {w : Vars} (hn : w.lookup x = none) (h1 : gens[d + 1]? = none) (ht : Te B k csc (setVar w x z) c st pr st) (he : Ev B k csc (setVar w x z) elt st r st) :
    TurnN B k csc w (.Name x p) [c] elt gens pos d st z (if pr then [r] else []) := by
  cases pr with
  | true => exact .yes (.name hb) (ext_new hn) (tl_one ht) (tail_emit h1 he)
  | false => exact .no (.name hb) (ext_new hn) (tl_one ht)
end
end Mine
namespace Mine
open PySem PySem.W PyProof.Rows PySem.Calls PySem.Builtin
section
variable {B : Base} {k n j : Nat} {st st₀ : Sto} {d : D} {l l₀ : List D}
end
end Mine
namespace Mine
open PySem PySem.W PyProof.Rows PySem.Calls PySem.Builtin
section
variable {B : Base} {k n : Nat} {A : Around} {env : Env} {sc : Scope} {v v' vars : Vars} {s s' : Shared} {W W' : Wd} {st st₀ st₁ st' σ : Sto} {a d d₀ : D} {l ds : List D} {es ts : List Expr} {e e' o : Expr} {p q q' p' pos : Pos} {i j : Nat} {x f : Str} {Q : Fl → Vars → Sto → Prop} {u : Value} {body : List Stmt} {bd : List D → List (Str × D) → Option Vars} {ks : List (Str × D)}
theorem swap_cell (hx : ∃ y p, Expr.Name y p ∈ ts ∧ env.kindOf y = some .cell) : swappedStores [.Tuple ts i p] (.Tuple es j p') env = pure none := by
  have less : ∀ g : Expr → Option Str, (∀ y p, env.kindOf y = some .cell → g (.Name y p) = none) → ((ts.filterMap g).length != ts.length) = true := fun g hg => by
    obtain ⟨y, py, hy, hc⟩ := hx
    have h0 := hg y py hc
    have : (ts.filterMap g).length < ts.length := by
      induction ts with
      | nil => cases hy
      | cons a ts ih =>
        rcases List.mem_cons.mp hy with rfl | hy
        · rw [List.filterMap_cons_none h0]
          exact Nat.lt_succ_of_le (List.length_filterMap_le g ts)
        · cases hga : g a with
          | none =>
            rw [List.filterMap_cons_none hga]
            exact Nat.lt_succ_of_le (List.length_filterMap_le g ts)
          | some b =>
            rw [List.filterMap_cons_some hga]
            exact Nat.succ_lt_succ (ih hy)
    exact bne_iff_ne.mpr (Nat.ne_of_lt this)
  have gen : ∀ g : Expr → Option Str, (∀ y p, env.kindOf y = some .cell → g (.Name y p) = none) →
      (if (!(ts.length == 2 || ts.length == 3) || es.length != ts.length || env.blockKind != ScopeKind.function) = true then (pure none : Sem (Option (List Str)))
        else if (es.any isStar) = true then pure none
        else if ((ts.filterMap g).length != ts.length || (ts.filterMap g).eraseDups.length != (ts.filterMap g).length) = true then pure none
        else if es.all (foldedForSure 8) = true then pure none
        else if es.all (constantsAlone 8) = true then (do
          let _ ← (unsupported "assign.tuple-of-constant-expressions:order-of-the-stores" : Sem Unit)
          pure (some (ts.filterMap g)))
        else pure (some (ts.filterMap g))) = pure none := by
    intro g hg
    have h := less g hg
    by_cases c1 : (!(ts.length == 2 || ts.length == 3) || es.length != ts.length || env.blockKind != ScopeKind.function) = true
    · rw [if_pos c1]
    · rw [if_neg c1]
      by_cases c2 : (es.any isStar) = true
      · rw [if_pos c2]
      · rw [if_neg c2, if_pos (by rw [h]; rfl)]
  unfold swappedStores
  refine gen _ fun y p hc => ?_
  have h0 : (env.kindOf y == some NameKind.local) = false := by rw [hc]; rfl
  simp only [h0, Bool.false_and]
  rfl
set_option tactic.hygienic true in
theorem rx_row {y : Str} {py : Pos} (hy : Expr.Name y py ∈ ts) (hc : kindOf sc y = some .cell) (h : Evs B k sc v es st ds st') (hl : ds.length ≤ LIM) (ha : AsgL sc ts ds v v') (hq : Q .next v' st') : Rx B k sc v (.Assign [.Tuple ts i p] (.Tuple es j p') pos) st Q := fun A env s W R O => by
  refine Assign_Tuple ((ev_tuple (n := j) (pos := p') h hl A env s W R O).next O fun u s₁ W₁ O₁ S₁ r₁ => asg_ok R.h (.tup ha) O₁ r₁ fun s₂ O₂ S₂ => ⟨_, _, _, W₁, O₂, S₁.own.trans S₂, .next, hq⟩) rfl (swap_cell ⟨y, py, hy, O.e.cell y hc⟩)
end
end Mine
namespace Mine
open PySem PySem.W PyProof.Rows PySem.Calls PySem.Builtin
section
variable {B : Base} {k n : Nat} {A : Around} {env : Env} {sc : Scope} {v v' : Vars} {s : Shared} {W : Wd} {st st₀ st₁ st' : Sto} {a d x : D} {l ds : List D} {e e' o : Expr} {p q q' pos : Pos} {i j : Nat} {Q : Fl → Vars → Sto → Prop} {w u : List Nat} {c : Nat}
noncomputable def rstL (c : Nat) (w : List Nat) : List Nat := w.take (w.length - (w.reverse.takeWhile fun y => y == c).length)
theorem rst_ok : MtG B k (.str w) "rstrip" st₀ [.str [c]] [] st (.str (rstL c w)) st := by
  refine ⟨.builtin "str.rstrip", fun z_ z_ z_ z_ z_ z_ => keep_builtin _, fun A s W u pl Q E G r h => ?_, call2 fun A s W u z R G r ra => ?_⟩
  · obtain ⟨x, t, _, _, _⟩ := r.str'
    exact GM.rstrip (h s.toks)
  · obtain ⟨x, t, rfl, l1, c1⟩ := r.str'
    obtain ⟨y, t', e2, l2, c2⟩ := ra.str'
    rw [one_sign e2]
    have hg : (Array.contains #[c]) = fun y => y == c := by
      funext y
      simp only [List.contains_toArray, List.contains_cons, List.contains_nil, Bool.or_false]
    have hs : (PySem.stripped (Array.contains #[c]) false true x).cps.toList = rstL c x.cps.toList := by
      unfold PySem.stripped PySem.stripHi PySem.stripLo rstL PySem.Builtin.Str.strSub
      rw [hg]
      simp [Str.length]
    have hlen : (rstL c x.cps.toList).length ≤ x.cps.toList.length := by
      unfold rstL
      rw [List.length_take]
      exact Nat.min_le_right _ _
    have hsub : ascii (rstL c x.cps.toList) = true := List.all_eq_true.mpr fun z hz => List.all_eq_true.mp c1 z (List.mem_of_mem_take hz)
    have g := gives_str_rstrip_chars x ⟨#[c]⟩ t t'
    by_cases hS : stripSame (Array.contains #[c]) false true x = true
    · rw [if_pos hS] at g
      have e3 : PySem.stripped (Array.contains #[c]) false true x = x := by
        have := stripBy_eq (Array.contains #[c]) false true x
        unfold Txt.stripBy at this
        rw [if_pos hS] at this
        exact this.symm
      rw [e3] at hs
      exact gv_now (R := IsD B _) G (.str _ _ _ hs (Nat.le_trans hlen l1) hsub) fun Q E h => call_gives F.slot_str_rstrip (typeIs_str _ _ _) F.entry_str_rstrip (F.args_str_rstrip_2 _ _) g h
    · rw [if_neg hS] at g
      exact gv_tok (R := IsD B _) G (.str _ s.toks _ hs (Nat.le_trans hlen l1) hsub) fun Q E h => call_gives F.slot_str_rstrip (typeIs_str _ _ _) F.entry_str_rstrip (F.args_str_rstrip_2 _ _) g ⟨by rw [str_len hs]; exact lim_fits (Nat.le_trans hlen l1), h⟩
theorem cnt_ok {p : PyData} (I₀ : Items st₀ a l) (I : Items st a ds) (hx : Rd st x p) (hd : ds.all (D.ok 15) = true) : MtG B k a "count" st₀ [x] [] st (.int (((D.toPs ds).countP fun y => PyData.eqv y p : Nat))) st := by
  refine ⟨.builtin "list.count", fun z_ z_ z_ z_ z_ z_ => keep_builtin _, fun A s W u pl Q E G r h => ?_, call2 fun A s W u w R G r ra => ?_⟩
  · obtain ⟨c, vs, n, e, q, hl⟩ := I₀.at G r
    exact getMethod_builtin ⟨_, e, rfl⟩ F.plainAttrs_list F.slot_list_count F.type_list_count (fun b hb => by cases hb; exact ⟨_, e, rfl⟩) (h s.toks)
  · obtain ⟨c, vs, n, e, r', hl⟩ := I.at G r
    have y := hx.at G ra
    obtain ⟨_, r2⟩ := y.r
    obtain ⟨⟨as, q1⟩, c', p'⟩ := r'.reads G.hz hd
    have hl0 : PyData.canLayAll0 (D.toPs ds) = true := c'
    have hcnt : vs.toArray.toList.countP (fun y => PyData.eqv (SeqAt.readOf s.heap y) p) = (D.toPs ds).countP fun y => PyData.eqv y p := by
      have := SeqAt.readsAll_map (D.toPs ds) vs as hl0 q1
      rw [← this, List.countP_map]; rfl
    rw [← hcnt]
    exact call_meets PySem.F.slot_list_count ⟨_, e, rfl⟩ PySem.F.entry_list_count (PySem.F.args_list_count_2 _ _) (SeqAt.list_countAt c vs.toArray n none #[] w fun y => PyData.eqv (SeqAt.readOf s.heap y) p)
      ⟨e, SeqAt.items_eqAt q1 r2 hl0 y.c (in_room (R.le (Nat.zero_le _)) y), gv_keep G (R := IsD B _) (.int _ _) (s.toks + 1) fun z_ z_ e => e⟩
set_option tactic.hygienic true in
theorem rx_unpL {ts : List Expr} {i : Nat} (hs : ∀ env line, swapsWithSole [.Tuple ts i p] e line env = pure false) (hw : ∀ env, swappedStores [.Tuple ts i p] e env = pure none) (h1 : Ev B k sc v e st (.lst ds) st') (h2 : AsgL sc ts ds v v') (hq : Q .next v' st') : Rx B k sc v (.Assign [.Tuple ts i p] e pos) st Q := fun A env s W R O =>
  Assign_Tuple ((h1 A env s W R O).next O fun u s₁ W₁ O₁ S₁ r₁ => by
    obtain ⟨c, vs, n, ec, r', hl⟩ := r₁.lst'
    obtain ⟨p1, p2⟩ := asgL_plain (env := env) h2
    rw [assign_Tuple]
    refine wpAny_bind (wpAny_standAt ?_)
    unfold unpack
    rw [p1, show (assignEach ts env).length = vs.toArray.size by rw [p2, List.size_toArray, r'.length]]
    refine wpAny_bind (wpAny_holding (kun_itemsOf R.h ⟨_, O₁.g.hz _ _ ec, rfl, n, rfl⟩ fun h' hx => ?_))
    have k : ∀ a o, s₁.heap.get? a = some o → h'.get? a = some o := fun a o q => hx a o (Nat.ne_of_lt (Heap.lt_size q)) q
    have S : Step B Em s₁ W₁ st' { s₁ with heap := h' } W₁ st' := .keep k s₁.toks
    exact asgL_ok h2 (O₁.step S (O₁.g.keep k)) r' fun s' O' S' => ⟨_, _, _, W₁, O', (S₁.trans S).own.trans S', .next, hq⟩) (hs env _) (hw env)
end
end Mine
namespace Mine

noncomputable def mkT (i : Nat) : Nat → Nat
  | 0 => 0
  | n + 1 => if n < i then 0 else if n = i then 2 ^ (2 ^ i) * (2 ^ (2 ^ i) - 1) else 2 ^ (2 ^ n) * mkT i n + mkT i n
set_option tactic.hygienic true in
theorem mk_lt (i : Nat) : ∀ n, mkT i n < 2 ^ (2 ^ n)
  | 0 => by show 0 < _; exact Nat.two_pow_pos _
  | n + 1 => by
    have ih := mk_lt i n
    have e : 2 ^ (2 ^ (n + 1)) = 2 ^ (2 ^ n) * 2 ^ (2 ^ n) := by rw [← Nat.pow_add, Nat.pow_succ]; congr 1; omega
    unfold mkT
    split
    · exact Nat.two_pow_pos _
    · split
      · rename_i h
        subst h
        rw [e]
        exact Nat.mul_lt_mul_of_pos_left (Nat.sub_lt (Nat.two_pow_pos _) Nat.one_pos) (Nat.two_pow_pos _)
      · rw [e]
        have h1 : mkT i n + 1 ≤ 2 ^ (2 ^ n) := ih
        have := Nat.mul_le_mul_left (2 ^ (2 ^ n)) h1
        rw [Nat.mul_add, Nat.mul_one] at this
        omega
theorem mk_bit (i : Nat) : ∀ n, i < n → ∀ g, g < 2 ^ n → (mkT i n).testBit g = g.testBit i
  | 0, h, _, _ => absurd h (Nat.not_lt_zero _)
  | n + 1, h, g, hg => by
    unfold mkT
    rw [if_neg (by omega)]
    have hg2 : 2 ^ (n + 1) = 2 ^ n + 2 ^ n := by rw [Nat.pow_succ]; omega
    by_cases hi : n = i
    · subst hi
      rw [if_pos rfl]
      have := Nat.testBit_two_pow_mul_add (2 ^ (2 ^ n) - 1) (Nat.two_pow_pos (2 ^ n)) g
      rw [Nat.add_zero] at this
      rw [this]
      by_cases hgn : g < 2 ^ n
      · rw [if_pos hgn, Nat.zero_testBit, Nat.testBit_lt_two_pow hgn]
      · rw [if_neg hgn, Nat.testBit_two_pow_sub_one, decide_eq_true (by omega)]
        have e : g = 2 ^ n * 1 + (g - 2 ^ n) := by omega
        rw [e, Nat.testBit_two_pow_mul_add 1 (by omega), if_neg (Nat.lt_irrefl n), Nat.sub_self]; rfl
    · rw [if_neg hi, Nat.testBit_two_pow_mul_add _ (mk_lt i n)]
      by_cases hgn : g < 2 ^ n
      · rw [if_pos hgn]; exact mk_bit i n (by omega) g hgn
      · rw [if_neg hgn, mk_bit i n (by omega) (g - 2 ^ n) (by omega)]
        have e : g = 2 ^ n * 1 + (g - 2 ^ n) := by omega
        conv => rhs; rw [e]
        rw [Nat.testBit_two_pow_mul_add 1 (by omega), if_pos (by omega)]
structure BA (α : Type) where
  tt : α
  ff : α
  an : α → α → α
  or : α → α → α
  no : α → α
  x : Nat → α
noncomputable def bB (e : Nat → Bool) : BA Bool := ⟨true, false, fun a b => a && b, fun a b => a || b, fun a => !a, e⟩
noncomputable def oneT : Nat := 2 ^ 32768 - 1
noncomputable def bT : BA Nat := ⟨oneT, 0, fun a b => Nat.land a b, fun a b => Nat.lor a b, fun a => Nat.xor a oneT, fun i => mkT i 15⟩
section
variable {α : Type} (A : BA α)
noncomputable def all6 (f : Nat → α) : α := A.an (f 0) (A.an (f 1) (A.an (f 2) (A.an (f 3) (A.an (f 4) (f 5)))))
noncomputable def any6 (f : Nat → α) : α := A.or (f 0) (A.or (f 1) (A.or (f 2) (A.or (f 3) (A.or (f 4) (f 5)))))
noncomputable def eIx (k j : Nat) : Nat := [0, 0, 1, 2, 3, 4, 0, 0, 5, 6, 7, 8, 1, 5, 0, 9, 10, 11, 2, 6, 9, 0, 12, 13, 3, 7, 10, 12, 0, 14, 4, 8, 11, 13, 14, 0].getD (6 * k + j) 0
noncomputable def adA (k j : Nat) : α := if Nat.beq k j then A.tt else A.x (eIx k j)
noncomputable def dmA (L : Nat → α) (k m : Nat) : α := all6 A fun j => A.or (A.no (L j)) (A.or (A.no (adA A k j)) (adA A m j))
noncomputable def gnA (L : Nat → α) (x : Nat) : α := A.an (L x) (any6 A fun m => A.an (L m) (A.an (dmA A L x m) (A.no (dmA A L m x))))
noncomputable def nxA (L : Nat → α) (x : Nat) : α := A.an (L x) (A.no (gnA A L x))
noncomputable def w0A (c r : Nat) : α := if Nat.beq c r then A.tt else A.ff
noncomputable def wnA (W : Nat → Nat → α) (c r : Nat) : α := any6 A fun d => A.an (adA A c d) (if Nat.beq r d then A.tt else all6 A fun q => A.or (A.no (adA A r q)) (W d q))
noncomputable def l0 (x : Nat) : α := A.tt
noncomputable def l1 : Nat → α := nxA A (l0 A)
noncomputable def l2 : Nat → α := nxA A (l1 A)
noncomputable def w1 : Nat → Nat → α := wnA A (w0A A)
noncomputable def w2 : Nat → Nat → α := wnA A (w1 A)
noncomputable def w3 : Nat → Nat → α := wnA A (w2 A)
noncomputable def w4 : Nat → Nat → α := wnA A (w3 A)
noncomputable def w5 : Nat → Nat → α := wnA A (w4 A)
end
end Mine
namespace Mine
noncomputable def Rb (g v : Nat) (b : Bool) : Prop := v.testBit g = b
structure Sim (g : Nat) (e : Nat → Bool) (A : BA Nat) : Prop where
  an : ∀ {a b : Nat} {a' b' : Bool}, Rb g a a' → Rb g b b' → Rb g (A.an a b) (a' && b')
  or : ∀ {a b : Nat} {a' b' : Bool}, Rb g a a' → Rb g b b' → Rb g (A.or a b) (a' || b')
  no : ∀ {a : Nat} {a' : Bool}, Rb g a a' → Rb g (A.no a) (!a')
  tt : Rb g A.tt true
  ff : Rb g A.ff false
  x : ∀ i < 15, Rb g (A.x i) (e i)
section
variable {g : Nat} {e : Nat → Bool} {A : BA Nat} (S : Sim g e A)
include S
variable {L : Nat → Nat} {L' : Nat → Bool} (hL : ∀ i < 6, Rb g (L i) (L' i)) {W V : Nat → Nat → Nat} {W' V' : Nat → Nat → Bool} (hW : ∀ c < 6, ∀ r < 6, Rb g (W c r) (W' c r)) (hV : ∀ c < 6, ∀ r < 6, Rb g (V c r) (V' c r))
include hL in
end
section
variable {g : Nat} {e : Nat → Bool} {A : BA Nat} (S : Sim g e A)
include S
end
theorem one_bit {g : Nat} (hg : g < 32768) : oneT.testBit g = true := by
  unfold oneT
  rw [Nat.testBit_two_pow_sub_one]
  exact decide_eq_true hg
theorem sim_T {g : Nat} {e : Nat → Bool} (hg : g < 32768) (he : ∀ i < 15, g.testBit i = e i) : Sim g e bT := by
  refine ⟨fun h k => ?_, fun h k => ?_, fun h => ?_, one_bit hg, Nat.zero_testBit g, fun i hi => ?_⟩
  · exact (Nat.testBit_and ..).trans (by rw [h, k])
  · exact (Nat.testBit_or ..).trans (by rw [h, k])
  · refine (Nat.testBit_xor ..).trans ?_
    rw [h, one_bit hg]
    exact Bool.xor_true _
  · exact (mk_bit i 15 hi g hg).trans (he i hi)
noncomputable def gN (e : Nat → Bool) : Nat → Nat
  | 0 => 0
  | n + 1 => 2 ^ n * (if e n then 1 else 0) + gN e n
theorem gN_bits {e : Nat → Bool} : ∀ n, gN e n < 2 ^ n ∧ ∀ i < n, (gN e n).testBit i = e i
  | 0 => ⟨Nat.one_pos, nofun⟩
  | n + 1 => by
    obtain ⟨h1, h2⟩ := gN_bits (e := e) n
    have h3 : 2 ^ (n + 1) = 2 ^ n + 2 ^ n := by rw [Nat.pow_succ]; omega
    refine ⟨?_, fun i hi => ?_⟩
    · unfold gN
      rw [h3]
      cases e n
      · simp; omega
      · simp; omega
    · unfold gN
      rw [Nat.testBit_two_pow_mul_add _ h1]
      by_cases hin : i < n
      · rw [if_pos hin]; exact h2 i hin
      · have : i = n := by omega
        subst this
        rw [if_neg hin, Nat.sub_self]
        cases e i <;> rfl
theorem of_tab {v : Nat} {b : Bool} {g : Nat} (hg : g < 32768) (h : Nat.beq v oneT = true) (r : Rb g v b) : b = true := by
  have e := Nat.eq_of_beq_eq_true h
  unfold Rb at r
  rw [e, one_bit hg] at r
  exact r.symm
end Mine
namespace Mine

theorem lcons {α : Type} {n : Nat} {l : List α} (h : l.length = n + 1) : ∃ a r, l = a :: r ∧ r.length = n := by
  cases l with
  | nil => cases h
  | cons a r => exact ⟨a, r, rfl, Nat.succ.inj h⟩
noncomputable def setsL : List (List Nat) := ((List.range 6).map fun k => [k]) ++ ((List.range 6).map fun x => (List.range 6).filter fun k => !decide (k = x)) ++ ((List.range 6).flatMap fun c => (List.range c).flatMap fun b => (List.range b).map fun a => [a, b, c])
noncomputable def rmL (S : List Nat) (i : Nat) : List Nat := S.take i ++ S.drop (i + 1)
section
variable {α : Type} (A : BA α)
noncomputable def xoA (a b : α) : α := A.or (A.an a (A.no b)) (A.an (A.no a) b)
noncomputable def allL (l : List Nat) (f : Nat → α) : α := l.foldr (fun i a => A.an (f i) a) A.tt
noncomputable def beA (x y : Nat) : α := if Nat.blt y x then A.x (eIx x y) else A.no (A.x (eIx x y))
noncomputable def n1A (l : List Nat) : α := xoA A (beA A (l.getD 0 0) (l.getD 1 0)) (beA A (l.getD 2 0) (l.getD 3 0))
noncomputable def n2A (l : List Nat) : α := A.no (xoA A (beA A (l.getD 0 0) (l.getD 2 0)) (beA A (l.getD 1 0) (l.getD 3 0)))
noncomputable def n3A (l : List Nat) : α := xoA A (beA A (l.getD 0 0) (l.getD 3 0)) (beA A (l.getD 1 0) (l.getD 2 0))
noncomputable def tnA (l : List Nat) : α := if Nat.blt l.length 4 then (if l.isEmpty then A.ff else A.no (beA A (l.getD 0 0) (l.getD 1 0))) else A.or (A.an (n1A A l) (n2A A l)) (A.or (A.an (n1A A l) (n3A A l)) (A.an (n2A A l) (n3A A l)))
noncomputable def tbA (l : List Nat) : α := if Nat.blt l.length 4 then A.ff else A.or (A.an (n1A A l) (A.an (n2A A l) (n3A A l))) (A.an (A.no (n1A A l)) (A.an (A.no (n2A A l)) (A.no (n3A A l))))
noncomputable def wgA (S : List Nat) (i : Nat) : α := if Nat.beq (i % 2) 1 then A.no (tnA A (rmL S i)) else tnA A (rmL S i)
noncomputable def muA (c a b : α) : α := A.or (A.an c a) (A.an (A.no c) b)
noncomputable def thrA : List (α × α) → Nat → α
  | [], s => if Nat.blt s 15 then A.tt else A.ff
  | p :: l, s => muA A p.1 (muA A p.2 (thrA l (s + 3)) (thrA l (s - 3))) (muA A p.2 (thrA l (s + 1)) (thrA l (s - 1)))
noncomputable def outL (S : List Nat) : List Nat := (List.range 6).filter fun x => !S.contains x
noncomputable def pairsA (S : List Nat) (x : Nat) : List (α × α) := (List.range S.length).map fun i => (tbA A (rmL S i), beA A x (S.getD i 0))
noncomputable def fairA (S : List Nat) : α := A.an (A.or (allL A (List.range S.length) fun i => A.no (wgA A S i)) (allL A (List.range S.length) (wgA A S))) (allL A (outL S) fun x => thrA A (pairsA A S x) 15)
noncomputable def noneA : List (List Nat) → α
  | [] => A.tt
  | S :: l => A.an (A.no (fairA A S)) (noneA l)
noncomputable def oneA : List (List Nat) → α
  | [] => A.ff
  | S :: l => muA A (fairA A S) (noneA A l) (oneA l)
end
theorem one_T : Nat.beq (oneA bT setsL) oneT = true := by decide +kernel
end Mine
namespace Mine
section
variable {g : Nat} {e : Nat → Bool} {A : BA Nat} (S : Sim g e A)
include S
theorem R_xo {a b : Nat} {a' b' : Bool} (h : Rb g a a') (k : Rb g b b') : Rb g (xoA A a b) (xoA (bB e) a' b') := S.or (S.an h (S.no k)) (S.an (S.no h) k)
theorem R_allL {f : Nat → Nat} {f' : Nat → Bool} : ∀ l : List Nat, (∀ i ∈ l, Rb g (f i) (f' i)) → Rb g (allL A l f) (allL (bB e) l f')
  | [], _ => S.tt
  | i :: l, h => S.an (h i (.head _)) (R_allL l fun j hj => h j (.tail _ hj))
theorem R_be {x y : Nat} (hx : x < 6) (hy : y < 6) : Rb g (beA A x y) (beA (bB e) x y) := by
  have hi : ∀ k < 6, ∀ j < 6, eIx k j < 15 := by decide +kernel
  unfold beA
  cases Nat.blt y x with
  | true => exact S.x _ (hi x hx y hy)
  | false => exact S.no (S.x _ (hi x hx y hy))
omit S in
theorem g6 {l : List Nat} (h : ∀ x ∈ l, x < 6) (i : Nat) : l.getD i 0 < 6 := by
  rw [List.getD_eq_getElem?_getD]
  cases hg : l[i]? with
  | none => exact Nat.zero_lt_succ _
  | some x => exact h x (List.mem_of_getElem? hg)
variable {l : List Nat} (h : ∀ x ∈ l, x < 6)
include h
theorem R_n1 : Rb g (n1A A l) (n1A (bB e) l) := R_xo S (R_be S (g6 h _) (g6 h _)) (R_be S (g6 h _) (g6 h _))
theorem R_n2 : Rb g (n2A A l) (n2A (bB e) l) := S.no (R_xo S (R_be S (g6 h _) (g6 h _)) (R_be S (g6 h _) (g6 h _)))
theorem R_n3 : Rb g (n3A A l) (n3A (bB e) l) := R_xo S (R_be S (g6 h _) (g6 h _)) (R_be S (g6 h _) (g6 h _))
theorem R_tn : Rb g (tnA A l) (tnA (bB e) l) := by
  unfold tnA
  cases Nat.blt l.length 4 with
  | true =>
    cases l.isEmpty with
    | true => exact S.ff
    | false => exact S.no (R_be S (g6 h _) (g6 h _))
  | false => exact S.or (S.an (R_n1 S h) (R_n2 S h)) (S.or (S.an (R_n1 S h) (R_n3 S h)) (S.an (R_n2 S h) (R_n3 S h)))
theorem R_tb : Rb g (tbA A l) (tbA (bB e) l) := by
  unfold tbA
  cases Nat.blt l.length 4 with
  | true => exact S.ff
  | false => exact S.or (S.an (R_n1 S h) (S.an (R_n2 S h) (R_n3 S h))) (S.an (S.no (R_n1 S h)) (S.an (S.no (R_n2 S h)) (S.no (R_n3 S h))))
omit S in
theorem rm6 (i : Nat) : ∀ x ∈ rmL l i, x < 6 := fun x hx => by
  unfold rmL at hx
  rcases List.mem_append.mp hx with hx | hx
  · exact h x (List.mem_of_mem_take hx)
  · exact h x (List.mem_of_mem_drop hx)
theorem R_wg (i : Nat) : Rb g (wgA A l i) (wgA (bB e) l i) := by
  unfold wgA
  cases Nat.beq (i % 2) 1 with
  | true => exact S.no (R_tn S (rm6 h i))
  | false => exact R_tn S (rm6 h i)
omit h
theorem R_mu {c a b : Nat} {c' a' b' : Bool} (hc : Rb g c c') (ha : Rb g a a') (hb : Rb g b b') : Rb g (muA A c a b) (muA (bB e) c' a' b') := S.or (S.an hc ha) (S.an (S.no hc) hb)
theorem R_thr {f : Nat → Nat × Nat} {f' : Nat → Bool × Bool} : ∀ (l : List Nat), (∀ i ∈ l, Rb g (f i).1 (f' i).1 ∧ Rb g (f i).2 (f' i).2) → ∀ s, Rb g (thrA A (l.map f) s) (thrA (bB e) (l.map f') s)
  | [], _, s => by
    show Rb g (if Nat.blt s 15 then A.tt else A.ff) (if Nat.blt s 15 then true else false)
    cases Nat.blt s 15 with
    | true => exact S.tt
    | false => exact S.ff
  | i :: l, h, s => by
    have ih := R_thr l fun j hj => h j (.tail _ hj)
    obtain ⟨h1, h2⟩ := h i (.head _)
    exact R_mu S h1 (R_mu S h2 (ih _) (ih _)) (R_mu S h2 (ih _) (ih _))
omit S in
theorem out6 {x : Nat} (hx : x ∈ outL l) : x < 6 := List.mem_range.mp (List.mem_filter.mp hx).1
include h
theorem R_fair : Rb g (fairA A l) (fairA (bB e) l) :=
  S.an (S.or (R_allL S _ fun i z_ => S.no (R_wg S h i)) (R_allL S _ fun i z_ => R_wg S h i)) (R_allL S _ fun x hx => R_thr S _ (fun i z_ => ⟨R_tb S (rm6 h i), R_be S (List.mem_range.mp (List.mem_filter.mp hx).1) (g6 h i)⟩) _)
end
section
variable {g : Nat} {e : Nat → Bool} {A : BA Nat} (S : Sim g e A)
include S
theorem R_none : ∀ L : List (List Nat), (∀ l ∈ L, ∀ x ∈ l, x < 6) → Rb g (noneA A L) (noneA (bB e) L)
  | [], _ => S.tt
  | l :: L, h => S.an (S.no (R_fair S (h l (.head _)))) (R_none L fun m hm => h m (.tail _ hm))
theorem R_one : ∀ L : List (List Nat), (∀ l ∈ L, ∀ x ∈ l, x < 6) → Rb g (oneA A L) (oneA (bB e) L)
  | [], _ => S.ff
  | l :: L, h => R_mu S (R_fair S (h l (.head _))) (R_none S L fun m hm => h m (.tail _ hm)) (R_one L fun m hm => h m (.tail _ hm))
end
theorem sets6 : ∀ l ∈ setsL, ∀ x ∈ l, x < 6 := by decide +kernel
theorem one_all (e : Nat → Bool) : oneA (bB e) setsL = true := by
  obtain ⟨hg, he⟩ := gN_bits (e := e) 15
  have hg2 : gN e 15 < 32768 := Nat.lt_of_lt_of_le hg (by decide)
  exact of_tab hg2 one_T (R_one (sim_T hg2 he) _ sets6)
theorem none_filter {e : Nat → Bool} : ∀ L, noneA (bB e) L = true → L.filter (fairA (bB e)) = []
  | [], _ => rfl
  | l :: L, h => by
    have h : (!fairA (bB e) l && noneA (bB e) L) = true := h
    rw [Bool.and_eq_true, Bool.not_eq_true'] at h
    rw [List.filter_cons, h.1]
    exact none_filter L h.2
theorem one_filter {e : Nat → Bool} : ∀ L, oneA (bB e) L = true → ∃ l ∈ L, L.filter (fairA (bB e)) = [l] ∧ fairA (bB e) l = true
  | [], h => absurd h Bool.false_ne_true
  | l :: L, h => by
    have h : ((fairA (bB e) l && noneA (bB e) L) || (!fairA (bB e) l && oneA (bB e) L)) = true := h
    rw [List.filter_cons]
    cases hf : fairA (bB e) l with
    | true =>
      rw [hf] at h
      have h : noneA (bB e) L = true := by simpa using h
      exact ⟨l, .head _, by rw [none_filter L h]; rfl, hf⟩
    | false =>
      rw [hf] at h
      have h : oneA (bB e) L = true := by simpa using h
      obtain ⟨m, h1, h2, h3⟩ := one_filter L h
      exact ⟨m, .tail _ h1, h2, h3⟩
end Mine
namespace Mine
noncomputable def mxI : List Int → Int
  | [] => 0
  | [a] => a
  | a :: b :: l => max a (mxI (b :: l))
noncomputable def mnI : List Int → Int
  | [] => 0
  | [a] => a
  | a :: b :: l => min a (mnI (b :: l))
theorem mx_facts : ∀ l : List Int, l ≠ [] → mxI l ∈ l ∧ ∀ x ∈ l, x ≤ mxI l
  | [], h => absurd rfl h
  | [a], _ => ⟨.head _, fun x hx => by rcases List.mem_singleton.mp hx with rfl; exact Int.le_refl _⟩
  | a :: b :: l, _ => by
    obtain ⟨h1, h2⟩ := mx_facts (b :: l) (by simp)
    show max a (mxI (b :: l)) ∈ _ ∧ ∀ x ∈ _, x ≤ max a (mxI (b :: l))
    refine ⟨?_, fun x hx => ?_⟩
    · rcases Int.le_total a (mxI (b :: l)) with h | h
      · rw [Int.max_eq_right h]; exact .tail _ h1
      · rw [Int.max_eq_left h]; exact .head _
    · rcases List.mem_cons.mp hx with rfl | hx
      · exact Int.le_max_left ..
      · exact Int.le_trans (h2 x hx) (Int.le_max_right ..)
theorem mn_facts : ∀ l : List Int, l ≠ [] → mnI l ∈ l ∧ ∀ x ∈ l, mnI l ≤ x
  | [], h => absurd rfl h
  | [a], _ => ⟨.head _, fun x hx => by rcases List.mem_singleton.mp hx with rfl; exact Int.le_refl _⟩
  | a :: b :: l, _ => by
    obtain ⟨h1, h2⟩ := mn_facts (b :: l) (by simp)
    show min a (mnI (b :: l)) ∈ _ ∧ ∀ x ∈ _, min a (mnI (b :: l)) ≤ x
    refine ⟨?_, fun x hx => ?_⟩
    · rcases Int.le_total a (mnI (b :: l)) with h | h
      · rw [Int.min_eq_left h]; exact .head _
      · rw [Int.min_eq_right h]; exact .tail _ h1
    · rcases List.mem_cons.mp hx with rfl | hx
      · exact Int.min_le_left ..
      · exact Int.le_trans (Int.min_le_right ..) (h2 x hx)
noncomputable def sgI (b : Bool) : Int := if b then 1 else -1
noncomputable def toldI (d : Nat → Nat → Int) (l : List Nat) : Int := if l.length < 4 then (if l = [] then 1 else d (l.getD 0 0) (l.getD 1 0)) else d (l.getD 0 0) (l.getD 1 0) * d (l.getD 2 0) (l.getD 3 0) - d (l.getD 0 0) (l.getD 2 0) * d (l.getD 1 0) (l.getD 3 0) + d (l.getD 0 0) (l.getD 3 0) * d (l.getD 1 0) (l.getD 2 0)
noncomputable def w0I (d : Nat → Nat → Int) (S : List Nat) : List Int := (List.range S.length).map fun i => (-1 : Int) ^ i * toldI d (rmL S i)
noncomputable def wsI (d : Nat → Nat → Int) (S : List Nat) : List Int := if 0 < mxI (w0I d S) then w0I d S else (w0I d S).map fun x => -x
noncomputable def sumI (d : Nat → Nat → Int) (ws : List Int) (S : List Nat) (x : Nat) : Int := ((ws.zip S).map fun p => p.1 * d x p.2).sum
noncomputable def fairI (d : Nat → Nat → Int) (S : List Nat) : Bool := if mnI (wsI d S) ≤ 0 then false else decide (mxI ((outL S).map (sumI d (wsI d S) S)) < 0)
noncomputable def magI (b : Bool) : Int := if b then 3 else 1
noncomputable def valI (n b : Bool) : Int := if n then - magI b else magI b
theorem mag_pos (b : Bool) : 1 ≤ magI b ∧ magI b ≤ 3 := by cases b <;> decide
theorem mu_bool {e : Nat → Bool} {c a b : Bool} : muA (bB e) c a b = if c then a else b := by cases c <;> cases a <;> cases b <;> rfl
theorem thr_step {s s' : Nat} {v X : Int} (h : (s' : Int) = s + v) : decide ((s' : Int) - 15 + X < 0) = decide ((s : Int) - 15 + (v + X) < 0) := by
  have : (s' : Int) - 15 + X = s - 15 + (v + X) := by omega
  rw [this]
theorem thr_bool {e : Nat → Bool} : ∀ (l : List (Bool × Bool)) (s : Nat), 3 * l.length ≤ s → thrA (bB e) l s = decide ((s : Int) - 15 + (l.map fun p => magI p.1 * sgI p.2).sum < 0)
  | [], s, _ => by
    show (if Nat.blt s 15 then true else false) = _
    rw [List.map_nil, List.sum_nil]
    cases hb : Nat.blt s 15 with
    | true =>
      rw [Nat.blt_eq] at hb
      exact (decide_eq_true (by omega)).symm
    | false =>
      have hb : ¬ s < 15 := fun q => by
        rw [← Nat.blt_eq, hb] at q; cases q
      exact (decide_eq_false (by omega)).symm
  | (m, b) :: l, s, h => by
    have hl : ∀ s', s - 3 ≤ s' → 3 * l.length ≤ s' := fun s' hs => by
      rw [List.length_cons] at h; omega
    have h3 : 3 ≤ s := by rw [List.length_cons] at h; omega
    have ih := fun s' hs => thr_bool (e := e) l s' (hl s' hs)
    show muA (bB e) m (muA (bB e) b (thrA (bB e) l (s + 3)) (thrA (bB e) l (s - 3))) (muA (bB e) b (thrA (bB e) l (s + 1)) (thrA (bB e) l (s - 1))) = _
    rw [mu_bool, mu_bool, mu_bool, List.map_cons, List.sum_cons]
    have e3 : ((s - 3 : Nat) : Int) = (s : Int) + magI true * sgI false := by
      show _ = (s : Int) + 3 * (-1); omega
    have e1 : ((s - 1 : Nat) : Int) = (s : Int) + magI false * sgI false := by
      show _ = (s : Int) + 1 * (-1); omega
    cases m with
    | true =>
      cases b with
      | true => exact (ih (s + 3) (Nat.le_trans (Nat.sub_le _ _) (Nat.le_add_right _ _))).trans (thr_step rfl)
      | false => exact (ih (s - 3) (Nat.le_refl _)).trans (thr_step e3)
    | false =>
      cases b with
      | true => exact (ih (s + 1) (Nat.le_trans (Nat.sub_le _ _) (Nat.le_add_right _ _))).trans (thr_step rfl)
      | false => exact (ih (s - 1) (Nat.sub_le_sub_left (by decide) s)).trans (thr_step e1)
theorem allL_bool {e : Nat → Bool} {f : Nat → Bool} : ∀ l : List Nat, allL (bB e) l f = l.all f
  | [] => rfl
  | i :: l => by
    show (f i && allL (bB e) l f) = (f i && l.all f)
    rw [allL_bool l]
theorem rm_ok : ∀ S ∈ setsL, S.length ≤ 5 ∧ S ≠ [] ∧ outL S ≠ [] ∧ S.Nodup ∧ ∀ i < S.length, (rmL S i).Nodup ∧ ((rmL S i).length = 0 ∨ (rmL S i).length = 2 ∨ (rmL S i).length = 4) := by decide +kernel
section
variable {d : Nat → Nat → Int} {e : Nat → Bool} (hd : ∀ x < 6, ∀ y < 6, x ≠ y → d x y = sgI (beA (bB e) x y))
include hd
theorem told_val {l : List Nat} (h6 : ∀ x ∈ l, x < 6) (hn : l.Nodup) (hl : l.length = 0 ∨ l.length = 2 ∨ l.length = 4) : toldI d l = valI (tnA (bB e) l) (tbA (bB e) l) := by
  rcases hl with h | h | h
  · rw [List.length_eq_zero_iff] at h
    subst h
    rfl
  · obtain ⟨x, r0_, rfl, hq0_⟩ := lcons h
    obtain ⟨y, r1_, rfl, hq1_⟩ := lcons hq0_
    obtain rfl := List.length_eq_zero_iff.mp hq1_
    have := hd x (h6 x (.head _)) y (h6 y (.tail _ (.head _))) (by intro he; subst he; simp at hn)
    show d x y = valI (!beA (bB e) x y) false
    rw [this]
    cases beA (bB e) x y <;> rfl
  · obtain ⟨p, r0_, rfl, hq0_⟩ := lcons h
    obtain ⟨q, r1_, rfl, hq1_⟩ := lcons hq0_
    obtain ⟨r, r2_, rfl, hq2_⟩ := lcons hq1_
    obtain ⟨s, r3_, rfl, hq3_⟩ := lcons hq2_
    obtain rfl := List.length_eq_zero_iff.mp hq3_
    have hp := h6 p (by simp)
    have hq := h6 q (by simp)
    have hr := h6 r (by simp)
    have hs := h6 s (by simp)
    simp only [List.nodup_cons, List.mem_cons, List.not_mem_nil, or_false, not_or] at hn
    obtain ⟨⟨n1, n2, n3⟩, ⟨n4, n5⟩, n6, _⟩ := hn
    show d p q * d r s - d p r * d q s + d p s * d q r = valI (((n1A (bB e) [p, q, r, s] && n2A (bB e) [p, q, r, s])) || ((n1A (bB e) [p, q, r, s] && n3A (bB e) [p, q, r, s]) || (n2A (bB e) [p, q, r, s] && n3A (bB e) [p, q, r, s]))) ((n1A (bB e) [p, q, r, s] && (n2A (bB e) [p, q, r, s] && n3A (bB e) [p, q, r, s])) || (!n1A (bB e) [p, q, r, s] && (!n2A (bB e) [p, q, r, s] && !n3A (bB e) [p, q, r, s])))
    have e1 : n1A (bB e) [p, q, r, s] = ((beA (bB e) p q && !beA (bB e) r s) || (!beA (bB e) p q && beA (bB e) r s)) := rfl
    have e2 : n2A (bB e) [p, q, r, s] = !((beA (bB e) p r && !beA (bB e) q s) || (!beA (bB e) p r && beA (bB e) q s)) := rfl
    have e3 : n3A (bB e) [p, q, r, s] = ((beA (bB e) p s && !beA (bB e) q r) || (!beA (bB e) p s && beA (bB e) q r)) := rfl
    rw [e1, e2, e3, hd p hp q hq n1, hd r hr s hs n6, hd p hp r hr n2, hd q hq s hs n5, hd p hp s hs n3, hd q hq r hr n4]
    generalize beA (bB e) p q = b1
    generalize beA (bB e) r s = b2
    generalize beA (bB e) p r = b3
    generalize beA (bB e) q s = b4
    generalize beA (bB e) p s = b5
    generalize beA (bB e) q r = b6
    clear hd e1 e2 e3 h6 n1 n2 n3 n4 n5 n6 hp hq hr hs
    revert b1 b2 b3 b4 b5 b6
    decide
theorem w0_val {S : List Nat} (hS : S ∈ setsL) : w0I d S = (List.range S.length).map fun i => valI (wgA (bB e) S i) (tbA (bB e) (rmL S i)) := by
  obtain ⟨h5, _, _, _, hr⟩ := rm_ok S hS
  unfold w0I
  refine List.map_congr_left fun i hi => ?_
  have hi := List.mem_range.mp hi
  obtain ⟨h1, h2⟩ := hr i hi
  rw [told_val hd (rm6 (sets6 S hS) i) h1 h2]
  have hp : ∀ i < 6, (-1 : Int) ^ i = if Nat.beq (i % 2) 1 then -1 else 1 := by decide
  rw [hp i (by omega)]
  unfold wgA
  cases Nat.beq (i % 2) 1 with
  | false =>
    show 1 * valI _ _ = valI _ _
    rw [Int.one_mul]; rfl
  | true =>
    show -1 * valI _ _ = valI (!tnA (bB e) (rmL S i)) _
    cases tnA (bB e) (rmL S i) <;> cases tbA (bB e) (rmL S i) <;> rfl
end
end Mine
namespace Mine
theorem range_ne {n : Nat} (h : 0 < n) {α : Type} {f : Nat → α} : (List.range n).map f ≠ [] := by
  intro e
  have := congrArg List.length e
  rw [List.length_map, List.length_range, List.length_nil] at this
  omega
theorem val_pos {n b : Bool} : (0 < valI n b) = (n = false) := by cases n <;> cases b <;> decide
theorem val_mag {n b : Bool} : (n = false → valI n b = magI b) ∧ (n = true → - valI n b = magI b) := by cases n <;> cases b <;> decide
section
variable {d : Nat → Nat → Int} {e : Nat → Bool} (hd : ∀ x < 6, ∀ y < 6, x ≠ y → d x y = sgI (beA (bB e) x y))
include hd
theorem ws_same {S : List Nat} (hS : S ∈ setsL) (h : ((List.range S.length).all fun i => !wgA (bB e) S i) = true ∨ (List.range S.length).all (wgA (bB e) S) = true) : wsI d S = (List.range S.length).map fun i => magI (tbA (bB e) (rmL S i)) := by
  obtain ⟨h5, h0, _, _, _⟩ := rm_ok S hS
  have hn : 0 < S.length := List.length_pos_iff.mpr h0
  have hv := w0_val hd hS
  obtain ⟨m1, m2⟩ := mx_facts (w0I d S) (by rw [hv]; exact range_ne hn)
  unfold wsI
  rcases h with h | h
  · have h := fun i (hi : i < S.length) => List.all_eq_true.mp h i (List.mem_range.mpr hi)
    have hp : 0 < mxI (w0I d S) := by
      have h1 := h 0 hn
      have h2 : valI (wgA (bB e) S 0) (tbA (bB e) (rmL S 0)) ∈ w0I d S := by rw [hv]; exact List.mem_map.mpr ⟨0, List.mem_range.mpr hn, rfl⟩
      have h3 := m2 _ h2
      have h4 : 0 < valI (wgA (bB e) S 0) (tbA (bB e) (rmL S 0)) := by rw [val_pos]; simpa using h1
      omega
    rw [if_pos hp, hv]
    exact List.map_congr_left fun i hi => val_mag.1 (by simpa using h i (List.mem_range.mp hi))
  · have h := fun i (hi : i < S.length) => List.all_eq_true.mp h i (List.mem_range.mpr hi)
    have hp : ¬ 0 < mxI (w0I d S) := by
      rw [hv] at m1
      obtain ⟨i, hi, he⟩ := List.mem_map.mp m1
      rw [hv, ← he, val_pos, h i (List.mem_range.mp hi)]
      exact Bool.noConfusion
    rw [if_neg hp, hv, List.map_map]
    exact List.map_congr_left fun i hi => val_mag.2 (h i (List.mem_range.mp hi))
theorem ws_diff {S : List Nat} (hS : S ∈ setsL) (h1 : ¬ ((List.range S.length).all fun i => !wgA (bB e) S i) = true) (h2 : ¬ (List.range S.length).all (wgA (bB e) S) = true) : mnI (wsI d S) ≤ 0 := by
  obtain ⟨h5, h0, _, _, _⟩ := rm_ok S hS
  have hn : 0 < S.length := List.length_pos_iff.mpr h0
  have hv := w0_val hd hS
  obtain ⟨m1, m2⟩ := mx_facts (w0I d S) (by rw [hv]; exact range_ne hn)
  obtain ⟨m3, m4⟩ := mn_facts (w0I d S) (by rw [hv]; exact range_ne hn)
  rw [Bool.not_eq_true, List.all_eq_false] at h1 h2
  obtain ⟨i, hi, hi2⟩ := h1
  obtain ⟨j, hj, hj2⟩ := h2
  have hi2 : wgA (bB e) S i = true := by simpa using hi2
  have hj2 : wgA (bB e) S j = false := by simpa using hj2
  have a1 : valI (wgA (bB e) S i) (tbA (bB e) (rmL S i)) ∈ w0I d S := by rw [hv]; exact List.mem_map.mpr ⟨i, hi, rfl⟩
  have a2 : valI (wgA (bB e) S j) (tbA (bB e) (rmL S j)) ∈ w0I d S := by rw [hv]; exact List.mem_map.mpr ⟨j, hj, rfl⟩
  have b1 : ¬ 0 < valI (wgA (bB e) S i) (tbA (bB e) (rmL S i)) := by rw [val_pos, hi2]; exact Bool.noConfusion
  have b2 : 0 < valI (wgA (bB e) S j) (tbA (bB e) (rmL S j)) := by rw [val_pos, hj2]
  have c1 := m2 _ a2
  have c2 := m4 _ a1
  unfold wsI
  rw [if_pos (by omega)]
  omega
theorem sum_thr {S : List Nat} (hS : S ∈ setsL) {x : Nat} (hx : x ∈ outL S) : sumI d ((List.range S.length).map fun i => magI (tbA (bB e) (rmL S i))) S x = ((pairsA (bB e) S x).map fun p => magI p.1 * sgI p.2).sum := by
  have h6 := sets6 S hS
  have hx6 := out6 hx
  have hs : S = (List.range S.length).map fun i => S.getD i 0 := by
    have := map_at (fun x => x) 0 S S.length rfl
    rw [List.map_id'] at this
    exact this
  unfold sumI pairsA
  conv => lhs; rw [show ((List.range S.length).map fun i => magI (tbA (bB e) (rmL S i))).zip S = ((List.range S.length).map fun i => magI (tbA (bB e) (rmL S i))).zip ((List.range S.length).map fun i => S.getD i 0) from by rw [← hs], List.zip_map', List.map_map]
  rw [List.map_map]
  congr 1
  refine List.map_congr_left fun i hi => ?_
  have hi := List.mem_range.mp hi
  have hm : S.getD i 0 ∈ S := by rw [List.getD_eq_getElem?_getD, List.getElem?_eq_getElem hi]; exact List.getElem_mem hi
  show magI _ * d x (S.getD i 0) = magI _ * sgI (beA (bB e) x (S.getD i 0))
  rw [hd x hx6 _ (h6 _ hm)]
  intro he
  have := (List.mem_filter.mp hx).2
  rw [he, List.contains_iff_mem.mpr hm] at this
  exact absurd this (by decide)
theorem fair_val {S : List Nat} (hS : S ∈ setsL) : fairI d S = fairA (bB e) S := by
  obtain ⟨h5, h0, ho, _, _⟩ := rm_ok S hS
  have hn : 0 < S.length := List.length_pos_iff.mpr h0
  have e0 : fairA (bB e) S = ((allL (bB e) (List.range S.length) (fun i => !wgA (bB e) S i) || allL (bB e) (List.range S.length) (wgA (bB e) S)) && allL (bB e) (outL S) fun x => thrA (bB e) (pairsA (bB e) S x) 15) := rfl
  rw [e0, allL_bool, allL_bool, allL_bool]
  unfold fairI
  by_cases h : ((List.range S.length).all fun i => !wgA (bB e) S i) = true ∨ (List.range S.length).all (wgA (bB e) S) = true
  · have hw := ws_same hd hS h
    obtain ⟨m3, m4⟩ := mn_facts (wsI d S) (by rw [hw]; exact range_ne hn)
    have hp : ¬ mnI (wsI d S) ≤ 0 := by
      rw [hw] at m3
      obtain ⟨i, hi, he⟩ := List.mem_map.mp m3
      rw [hw, ← he]
      have := (mag_pos (tbA (bB e) (rmL S i))).1
      omega
    rw [if_neg hp, Bool.or_eq_true_iff.mpr h, Bool.true_and, hw]
    obtain ⟨m1, m2⟩ := mx_facts ((outL S).map (sumI d ((List.range S.length).map fun i => magI (tbA (bB e) (rmL S i))) S)) (by intro he; exact ho (List.map_eq_nil_iff.mp he))
    have ht : ∀ x ∈ outL S, thrA (bB e) (pairsA (bB e) S x) 15 = decide (sumI d ((List.range S.length).map fun i => magI (tbA (bB e) (rmL S i))) S x < 0) := fun x hx => by
      rw [thr_bool _ _ (by unfold pairsA; rw [List.length_map, List.length_range]; omega), ← sum_thr hd hS hx]
      exact decide_eq_decide.mpr (by omega)
    rw [Bool.eq_iff_iff, decide_eq_true_eq, List.all_eq_true]
    constructor
    · intro hlt x hx
      rw [ht x hx, decide_eq_true_eq]
      have := m2 _ (List.mem_map.mpr ⟨x, hx, rfl⟩)
      omega
    · intro hall
      obtain ⟨x, hx, he⟩ := List.mem_map.mp m1
      have := hall x hx
      rw [ht x hx, decide_eq_true_eq] at this
      rw [← he]; exact this
  · have h1 : ¬ ((List.range S.length).all fun i => !wgA (bB e) S i) = true := fun q => h (.inl q)
    have h2 : ¬ (List.range S.length).all (wgA (bB e) S) = true := fun q => h (.inr q)
    rw [if_pos (ws_diff hd hS h1 h2), Bool.eq_false_iff.mpr h1, Bool.eq_false_iff.mpr h2]; rfl
theorem one_fair : ∃ S ∈ setsL, setsL.filter (fairI d) = [S] ∧ (∀ w ∈ wsI d S, 1 ≤ w ∧ w ≤ 3) ∧ (∀ x ∈ outL S, sumI d (wsI d S) S x < 0) := by
  obtain ⟨S, hS, hf, hS2⟩ := one_filter (e := e) setsL (one_all e)
  refine ⟨S, hS, ?_, ?_⟩
  · rw [← hf]
    exact List.filter_congr fun T hT => fair_val hd hT
  · have hfi := fair_val hd hS
    rw [hS2] at hfi
    obtain ⟨h5, h0, ho, _, _⟩ := rm_ok S hS
    have hn : 0 < S.length := List.length_pos_iff.mpr h0
    have e0 : fairA (bB e) S = ((allL (bB e) (List.range S.length) (fun i => !wgA (bB e) S i) || allL (bB e) (List.range S.length) (wgA (bB e) S)) && allL (bB e) (outL S) fun x => thrA (bB e) (pairsA (bB e) S x) 15) := rfl
    rw [e0, allL_bool, allL_bool, allL_bool, Bool.and_eq_true, Bool.or_eq_true_iff] at hS2
    have hw := ws_same hd hS hS2.1
    constructor
    · intro w hww
      rw [hw] at hww
      obtain ⟨i, _, rfl⟩ := List.mem_map.mp hww
      exact mag_pos _
    · intro x hx
      unfold fairI at hfi
      by_cases hm : mnI (wsI d S) ≤ 0
      · rw [if_pos hm] at hfi; cases hfi
      · rw [if_neg hm, decide_eq_true_eq] at hfi
        have := (mx_facts ((outL S).map (sumI d (wsI d S) S)) (by intro he; exact ho (List.map_eq_nil_iff.mp he))).2 _ (List.mem_map.mpr ⟨x, hx, rfl⟩)
        omega
end
end Mine
set_option maxHeartbeats 4000000
namespace Mine
open PySem PySem.W PyProof.Rows PySem.Calls PySem.Challenge

abbrev BS := List Stmt × Scope
noncomputable def defAt (p : Program) (i : Nat) : BS := match p.main.body[i]? with
  | some (.FunctionDef _ _ b _ _ _ sc _ _ _) => (b, sc)
  | _ => ([], { kind := .module, names := [], isGenerator := false, isCoroutine := false })
noncomputable def methAt (p : Program) (i j : Nat) : BS := match p.main.body[i]? with
  | some (.ClassDef _ _ _ b _ _ _ _ _ _ _) => (match b[j]? with
    | some (.FunctionDef _ _ b _ _ _ sc _ _ _) => (b, sc)
    | _ => ([], { kind := .module, names := [], isGenerator := false, isCoroutine := false }))
  | _ => ([], { kind := .module, names := [], isGenerator := false, isCoroutine := false })
noncomputable abbrev b_conv : { b : BS // methAt pw_kt0068_03 7 1 = b } := ⟨_, by (conv => lhs; whnf)⟩
noncomputable abbrev b_get : { b : BS // methAt pw_kt0068_03 7 8 = b } := ⟨_, by (conv => lhs; whnf)⟩
noncomputable abbrev b_add : { b : BS // methAt pw_kt0068_03 7 16 = b } := ⟨_, by (conv => lhs; whnf)⟩
noncomputable abbrev b_values : { b : BS // methAt pw_kt0068_03 7 10 = b } := ⟨_, by (conv => lhs; whnf)⟩
noncomputable abbrev b_getall : { b : BS // methAt pw_kt0068_03 7 7 = b } := ⟨_, by (conv => lhs; whnf)⟩
noncomputable abbrev b_translate : { b : BS // defAt pw_kt0068_03 10 = b } := ⟨_, by (conv => lhs; whnf)⟩
noncomputable abbrev b_escape : { b : BS // defAt pw_kt0068_03 13 = b } := ⟨_, by (conv => lhs; whnf)⟩
noncomputable abbrev b_tr : { b : BS // defAt pw_kt0068_03 15 = b } := ⟨_, by (conv => lhs; whnf)⟩
noncomputable abbrev b_join : { b : BS // defAt pw_kt0068_03 16 = b } := ⟨_, by (conv => lhs; whnf)⟩
noncomputable abbrev b_ifmt : { b : BS // defAt pw_kt0068_03 18 = b } := ⟨_, by (conv => lhs; whnf)⟩
noncomputable abbrev b_filemode : { b : BS // defAt pw_kt0068_03 39 = b } := ⟨_, by (conv => lhs; whnf)⟩
noncomputable def fmTab : List D := [.tup [.tup [.int 40960, .str [108]], .tup [.int 49152, .str [115]], .tup [.int 32768, .str [45]], .tup [.int 24576, .str [98]], .tup [.int 16384, .str [100]], .tup [.int 8192, .str [99]], .tup [.int 4096, .str [112]]],
  .tup [.tup [.int 256, .str [114]]], .tup [.tup [.int 128, .str [119]]], .tup [.tup [.int 2112, .str [115]], .tup [.int 2048, .str [83]], .tup [.int 64, .str [120]]],
  .tup [.tup [.int 32, .str [114]]], .tup [.tup [.int 16, .str [119]]], .tup [.tup [.int 1032, .str [115]], .tup [.int 1024, .str [83]], .tup [.int 8, .str [120]]],
  .tup [.tup [.int 4, .str [114]]], .tup [.tup [.int 2, .str [119]]], .tup [.tup [.int 513, .str [116]], .tup [.int 512, .str [84]], .tup [.int 1, .str [120]]]]
noncomputable def growNames : List Str := ["parts", "res", "fixed", "perm", "due"]
noncomputable def usedNames : List Str := ["len", "range", "sum", "object", "enumerate", "type", "str", "isinstance", "max", "min", "zip"]
structure LawB (B : Base) : Prop where
  none : ∀ f, f ∈ usedNames → B.mg f = Option.none
  attr : AttrT B
  lam : LamT B
  esc : EscT B
  c_name : ConT B "_name_disallowed_re" (.pat 0)
  c_value : ConT B "_value_disallowed_re" (.pat 1)
  c_twin : ConT B "_twin_re_1" (.pat 2)
  c_fm : ConT B "_filemode_table" (.tup fmTab)
  headers : ∀ k st, FnG B (k + 4) "Headers" [] [] st (.hdr st.length) (st ++ [.lst []])
  conv : MeT B "_convert_string_type" b_conv.1.2 b_conv.1.1 (bdKw ["self", "value"] "name")
  get : MeT B "get" b_get.1.2 b_get.1.1 (bdDef ["self", "name"] "default")
  add : MeT B "add_header" b_add.1.2 b_add.1.1 (bdDict ["self", "_name", "_value"] "_params")
  values : MeT B "values" b_values.1.2 b_values.1.1 (bdPos ["self"])
  getall : MeT B "get_all" b_getall.1.2 b_getall.1.1 (bdPos ["self", "name"])
  ifmt : FnT B "S_IFMT" b_ifmt.1.2 b_ifmt.1.1 (bdPos ["mode"])
  filemode : FnT B "filemode" b_filemode.1.2 b_filemode.1.1 (bdPos ["mode"])
  escape : FnT B "escape" b_escape.1.2 b_escape.1.1 (bdPos ["pattern"])
  tr : FnT B "_translate" b_tr.1.2 b_tr.1.1 (bdPos ["pat", "STAR", "QUESTION_MARK"])
  join : FnT B "_join_translated_parts" b_join.1.2 b_join.1.1 (bdPos ["inp", "STAR"])
  translate : FnT B "translate" b_translate.1.2 b_translate.1.1 (bdPos ["pat"])
local macro_rules | `(tactic| walk_at "lk") => `(tactic| first
  | with_reducible exact lk_here
  | with_reducible exact lk_set
  | ((with_reducible apply lk_there); (focus decide +kernel); walk_at "lk")
  | ((with_reducible apply lk_put); (focus decide +kernel); walk_at "lk")
  | ((with_reducible apply lk_comp); (focus decide +kernel); walk_at "lk")
  | with_reducible assumption)
local macro_rules | `(tactic| walk_at "st") => `(tactic| first
  | with_reducible assumption
  | exact st_last
  | ((with_reducible apply st_left); walk_at "st")
  | ((with_reducible apply st_same); walk_at "st")
  | ((with_reducible refine st_ne ?_ ?_); (focus (first | assumption | omega)); walk_at "st")
  | rfl)
local macro_rules | `(tactic| walk_at "items") => `(tactic| first
  | with_reducible exact Items.lst _
  | exact Items.ref (by walk_at "st"))
local macro_rules | `(tactic| walk_at "strs") => `(tactic| first
  | assumption
  | exact StrL.nil
  | (apply StrL.cons; walk_at "strs")
  | exact StrL.map)
local macro_rules | `(tactic| walk_at "con") => `(tactic| first
  | with_reducible assumption
  | with_reducible exact LawB.c_name (by assumption)
  | with_reducible exact LawB.c_value (by assumption)
  | with_reducible exact LawB.c_fm (by assumption))
local macro_rules | `(tactic| walk_at "fn") => `(tactic| first
  | ((with_reducible apply search_ok); (focus decide); assumption)
  | ((with_reducible apply app_meth); (focus walk_at "st"); (focus walk_at "st"); (first | assumption | decide | omega))
  | ((with_reducible apply join_ok'); (focus walk_at "items"); (focus walk_at "strs"); (first | assumption | decide | omega))
  | with_reducible exact lower_ok
  | ((with_reducible apply fn_type bb_object (by decide) (LawB.none (by assumption) _ (by decide))); with_reducible exact object_ok)
  | ((with_reducible apply fn_builtin bb_len (by decide) (LawB.none (by assumption) _ (by decide))); (first | with_reducible exact len_str_ok | exact len_lst_ok (by walk_at "items")))
  | with_reducible assumption)
local macro_rules | `(tactic| walk_at "op") => `(tactic| first
  | with_reducible exact op_add
  | with_reducible exact op_sub
  | ((with_reducible apply op_mod); (first | decide | assumption | omega))
  | ((with_reducible apply op_div) <;> (first | decide | assumption | omega))
  | ((with_reducible apply op_mul); (first | decide | omega))
  | ((with_reducible apply op_pow) <;> (first | decide | assumption | omega))
  | ((with_reducible apply op_cat); (first | decide | assumption | (simp only [List.length_append]; omega)))
  | with_reducible exact op_and
  | with_reducible exact cp_lt
  | with_reducible exact cp_ge
  | with_reducible exact cp_is
  | with_reducible exact cp_isnot
  | with_reducible exact cp_str_isnot_ref
  | with_reducible exact cp_str_isnot_none
  | with_reducible exact cp_eq (.flat rfl) (.flat rfl)
  | with_reducible exact tr_bool
  | with_reducible exact tr_none
  | with_reducible exact tr_str
  | exact tr_lst (by walk_at "items")
  | with_reducible exact sl_str
  | with_reducible assumption)
local macro_rules | `(tactic| walk_at "im") => `(tactic| first
  | with_reducible assumption
  | ((with_reducible apply im_str) <;> (first | assumption | rfl | decide))
  | ((with_reducible apply im_tup) <;> (first | assumption | rfl | decide))
  | ((with_reducible apply im_lst) <;> (first | walk_at "items" | assumption | rfl | decide)))
local macro_rules | `(tactic| walk_at "go") => `(tactic| first
  | with_reducible assumption
  | with_reducible exact ev_none
  | with_reducible exact ev_bool
  | with_reducible exact ev_int
  | ((with_reducible apply ev_str); decide +kernel)
  | ((with_reducible apply ev_var); (focus decide +kernel); walk_at "lk")
  | ((with_reducible apply ev_con); (focus decide +kernel); walk_at "con")
  | ((with_reducible apply ev_bin); (focus walk_at "go"); (focus walk_at "go"); walk_at "op")
  | ((with_reducible apply ev_cmp); (focus walk_at "go"); (focus walk_at "go"); (focus walk_at "op"); rfl)
  | ((with_reducible apply te_type); (focus decide +kernel); (focus decide +kernel); (focus exact LawB.none (by assumption) _ (by decide)); (focus exact LawB.none (by assumption) _ (by decide)); (focus rfl); walk_at "go")
  | ((with_reducible apply te_cmp); (focus walk_at "go"); (focus walk_at "go"); (focus walk_at "op"); rfl)
  | ((with_reducible apply te_not); walk_at "go")
  | ((with_reducible apply te_bool); walk_at "go")
  | ((with_reducible apply isinst_ok); (focus rfl); (focus walk_at "go"); (focus decide +kernel); (focus decide +kernel); (focus exact LawB.none (by assumption) _ (by decide)); exact LawB.none (by assumption) _ (by decide))
  | ((with_reducible apply te_plain); (focus walk_at "go"); (focus walk_at "op"); (intro z_; rfl))
  | ((with_reducible apply ev_slice); (focus walk_at "go"); (focus walk_at "go"); (focus walk_at "go"); walk_at "op")
  | ((with_reducible apply oe_some); walk_at "go")
  | with_reducible exact oe_none
  | ((with_reducible apply ev_item); (focus walk_at "go"); (focus walk_at "go"); (focus walk_at "im"); (intro z_ z_; exact ⟨_, rfl⟩))
  | ((with_reducible apply ev_ift); (focus walk_at "go"); (focus (first | rfl | assumption | decide)); walk_at "go")
  | ((with_reducible apply ev_iff); (focus walk_at "go"); (focus (first | rfl | assumption | decide)); walk_at "go")
  | ((with_reducible apply ev_neg); walk_at "go")
  | ((with_reducible apply ev_tuple); (focus walk_at "go"); exact short rfl)
  | ((with_reducible apply ev_list); (focus walk_at "go"); exact short rfl)
  | with_reducible exact es_nil
  | ((with_reducible apply es_cons); (focus rfl); (focus walk_at "go"); walk_at "go")
  | with_reducible exact ek_nil
  | ((with_reducible apply ek_cons); (focus walk_at "go"); walk_at "go")
  | with_reducible exact ta_nil
  | ((with_reducible apply ev_fmt); walk_at "go")
  | ((with_reducible apply ev_joined); (focus walk_at "go"); (first | decide | assumption | omega))
  | with_reducible exact pt_nil
  | ((with_reducible apply pt_cons); (focus walk_at "go"); walk_at "go")
  | ((with_reducible apply ev_hdr); (focus exact LawB.attr (by assumption)); (focus rfl); walk_at "go")
  | ((with_reducible apply ev_append); (focus rfl); (focus walk_at "go"); walk_at "st")
  | ((with_reducible apply ev_meth); (focus decide +kernel); (focus walk_at "go"); (focus walk_at "go"); (focus walk_at "go"); walk_at "fn")
  | ((with_reducible apply ev_callA); (focus decide +kernel); (focus walk_at "lk"); (focus walk_at "go"); (apply app_ok; (focus walk_at "st"); (first | assumption | decide | omega)))
  | ((with_reducible apply ev_call); (focus decide +kernel); (focus walk_at "go"); (focus walk_at "go"); walk_at "fn")
  | ((with_reducible apply it_items); (focus decide +kernel); walk_at "go")
  | ((with_reducible apply it_enum); (focus rfl); (focus decide +kernel); (focus exact LawB.none (by assumption) _ (by decide)); (focus rfl); walk_at "go")
  | ((with_reducible apply it_ev); (focus walk_at "go"); (focus (first | with_reducible exact wk_lst | with_reducible exact wk_tup | exact wk_ref (by walk_at "st"))); (intro z_ z_; rfl)))
local macro_rules | `(tactic| walk_at "run") => `(tactic| first
  | ((with_reducible apply kt_next); walk_at "run")
  | ((with_reducible apply kt_ret); walk_at "run")
  | ((with_reducible apply kt_brk); walk_at "run")
  | ((with_reducible apply ru_nil); walk_at "run")
  | ((with_reducible apply ru_cons); walk_at "run")
  | ((with_reducible apply rx_grow growNames); (focus decide +kernel); (focus decide +kernel); (focus walk_at "go"); (focus exact short rfl); walk_at "run")
  | ((with_reducible apply rx_set); (focus decide +kernel); (focus walk_at "go"); (focus (intro z_ z_ z_; rfl)); walk_at "run")
  | ((with_reducible apply rx_ret); (focus walk_at "go"); walk_at "run")
  | ((with_reducible apply rx_expr); (focus walk_at "go"); (focus (intro z_ z_ z_; rfl)); walk_at "run")
  | ((with_reducible apply rx_aug); (focus decide +kernel); (focus decide +kernel); (focus walk_at "lk"); (focus walk_at "go"); walk_at "run")
  | ((with_reducible apply rx_asrt); (focus walk_at "go"); (focus (first | rfl | assumption | decide)); walk_at "run")
  | ((with_reducible apply rx_break); walk_at "run")
  | ((with_reducible apply rx_ift); (focus walk_at "go"); (focus (first | rfl | assumption | decide)); walk_at "run")
  | ((with_reducible apply rx_iff); (focus walk_at "go"); (focus (first | rfl | assumption | decide)); walk_at "run")
  | ((with_reducible apply rx_for0); (focus ((with_reducible apply it_items); (focus decide +kernel); walk_at "go")); walk_at "run")
  | ((with_reducible refine And.intro ?_ ?_) <;> rfl)
  | skip)
section
variable {B : Base} {k n : Nat} {st st₀ : Sto}
theorem conv_ok (L : LawB B) {l : List Nat} {b : Bool} (h : printable l = true) : MtG B (k + 2) (.hdr n) "_convert_string_type" st₀ [.str l] [("name", .bool b)] st (.str l) st := by
  refine me_pure (vars := [("self", .hdr n), ("value", .str l), ("name", .bool b)]) L.conv rfl (by rfl) ?_
  cases b
  · walk_at "run"
  · walk_at "run"
end
local macro_rules | `(tactic| walk_at "fn") => `(tactic| ((with_reducible apply conv_ok) <;> assumption))
section
variable {B : Base} {k n : Nat} {st st₀ : Sto}

abbrev HD (p : List Nat × List Nat) : D := .tup [.str p.1, .str p.2]
theorem eqv_str {a b : List Nat} : PyData.eqv (D.str a).toP (D.str b).toP = decide (a = b) := by
  show ((⟨a.toArray⟩ : Str) == ⟨b.toArray⟩) = decide (a = b)
  rw [Bool.eq_iff_iff, beq_iff_eq, decide_eq_true_iff]
  constructor
  · intro h; simpa using congrArg (fun x => x.cps.toList) h
  · intro h; rw [h]
theorem cp_eq_str {a b : List Nat} : CmpOk B .Eq st (.str a) (.str b) (decide (a = b)) := eqv_str ▸ cp_eq (.flat rfl) (.flat rfl)
theorem cp_ne_str {a b : List Nat} : CmpOk B .NotEq st (.str a) (.str b) (!decide (a = b)) := eqv_str ▸ cp_ne (.flat rfl) (.flat rfl)
end
local macro_rules | `(tactic| walk_at "op") => `(tactic| with_reducible exact cp_eq_str)
section
variable {B : Base} {k n : Nat} {st st₀ : Sto}
end
section
variable {B : Base} {k n : Nat} {st st₀ : Sto}
end
section
variable {B : Base} {k n : Nat} {st st₀ : Sto}

theorem values_ok (L : LawB B) {l : List (List Nat × List Nat)} (hl : l.length ≤ LIM) (hs : st[n]? = some (.lst (l.map HD))) : MtG B (k + 2) (.hdr n) "values" st₀ [] [] st (.lst (l.map fun p => .str p.2)) st := by
  refine me_pure (vars := [("self", .hdr n)]) L.values rfl (by rfl) ?_
  apply ru_cons
  apply rx_ret
  · refine ev_map (l := l) (g := HD) (f := fun p => .str p.2) (by decide +kernel) (by walk_at "go") (fun a ha => ⟨_, .tup (.cons (by decide +kernel) (.cons (by decide +kernel) (.nil _))), ?_⟩) hl
    walk_at "go"
  · walk_at "run"
end
section
variable {B : Base} {k n : Nat} {st st₀ : Sto}

theorem add_ok (L : LawB B) {l : List D} {w x : List Nat} (hk : printable w = true) (hx : printable x = true) (hl : l.length < LIM) (hs : st[n]? = some (.lst l)) (hp : st.all (Mo.lt st.length) = true) (hpl : D.lts st.length l = true) (hll : x.length ≤ LIM) :
    MtG B (k + 4) (.hdr n) "add_header" st₀ [.str w, .str x] [] st .none (st.set n (.lst (l ++ [.tup [.str w, .str x]]))) := by
  refine me_cut st.length (vars := [("self", .hdr n), ("_name", .str w), ("_value", .str x), ("_params", .dic0)]) L.add rfl (by rfl) (Nat.le_refl _) ?_
  have hn := st_lt hs
  walk_at "run"
  refine ⟨.flat rfl, ?_, take_grown (Nat.le_refl _), set_all hp ?_⟩
  · simp
  · show D.lts _ _ = true
    rw [lts_app, hpl]; rfl
end

noncomputable def fmI : List (Int × List (Int × Nat)) := [(0, [(40960, 108), (49152, 115), (32768, 45), (24576, 98), (16384, 100), (8192, 99), (4096, 112)]), (1, [(256, 114)]), (2, [(128, 119)]), (3, [(2112, 115), (2048, 83), (64, 120)]),
  (4, [(32, 114)]), (5, [(16, 119)]), (6, [(1032, 115), (1024, 83), (8, 120)]), (7, [(4, 114)]), (8, [(2, 119)]), (9, [(513, 116), (512, 84), (1, 120)])]
abbrev rowD (p : Int × Nat) : D := .tup [.int p.1, .str [p.2]]
abbrev tabD (p : Int × List (Int × Nat)) : D := .tup [.int p.1, .tup (p.2.map rowD)]
noncomputable def hit (m i : Int) (p : Int × Nat) : Bool := if i = 0 then decide (Builtin.bitAnd m 61440 = p.1) else decide (Builtin.bitAnd m p.1 = p.1)
noncomputable def charN (m : Int) (p : Int × List (Int × Nat)) : Nat := ((p.2.find? (hit m p.1)).map (·.2)).getD (if p.1 = 0 then 63 else 45)
noncomputable def filemodeL (m : Int) : List Nat := fmI.map (charN m)
section
variable {B : Base} {k n : Nat} {st st₀ : Sto}
theorem cp_eq_int {i j : Int} : CmpOk B .Eq st (.int i) (.int j) (decide (i = j)) := (show PyData.eqv (D.int i).toP (D.int j).toP = decide (i = j) from by show (i == j) = _; rfl) ▸ cp_eq (.flat rfl) (.flat rfl)
theorem cp_ne_int {i j : Int} : CmpOk B .NotEq st (.int i) (.int j) (!decide (i = j)) := (show PyData.eqv (D.int i).toP (D.int j).toP = decide (i = j) from by show (i == j) = _; rfl) ▸ cp_ne (.flat rfl) (.flat rfl)
end
local macro_rules | `(tactic| walk_at "op") => `(tactic| with_reducible exact cp_eq_int)
section
variable {B : Base} {k n : Nat} {st st₀ : Sto}
end
section
variable {B : Base} {k n : Nat} {st st₀ : Sto}
theorem ifmt_ok (L : LawB B) {m : Int} : FnG B (k + 2) "S_IFMT" [.int m] [] st (.int (Builtin.bitAnd m 61440)) st := by
  refine fn_pure (vars := [("mode", .int m)]) L.ifmt rfl (by rfl) rfl ?_
  walk_at "run"
  exact .flat rfl
end
local macro_rules | `(tactic| walk_at "fn") => `(tactic| ((with_reducible apply ifmt_ok); assumption))
section
variable {B : Base} {k n : Nat} {st st₀ : Sto}
theorem filemode_ok (L : LawB B) {m : Int} : FnG B (k + 4) "filemode" [.int m] [] st (.str (filemodeL m)) st := by
  refine fn_pure (vars := [("mode", .int m)]) L.filemode rfl (by rfl) rfl ?_
  walk_at "run"
  have he : enumD 0 fmTab = fmI.map tabD := by rfl
  refine rx_each (l := fmI) (g := tabD) (st₁ := [] ++ [.lst []]) (fun i v s => s = [.lst (((fmI.take i).map (charN m)).map fun c => .str [c])] ∧ Has v "perm" (.ref 0) ∧ Has v "mode" (.int m)) ?_ ⟨rfl, ?_, ?_⟩ ?_ ?_
  · rw [← he]; walk_at "go"
  · exact lk_set
  · walk_at "lk"
  · rintro j ⟨i, rows⟩ v s hd ⟨rfl, hp, hm⟩
    have hj : j < 10 := (List.getElem?_eq_some_iff.mp hd).1
    have hlen : (((fmI.take j).map (charN m)).map fun c => D.str [c]).length < LIM := by
      rw [List.length_map, List.length_map, List.length_take]; unfold LIM; omega
    have hnext : ∀ c, charN m (i, rows) = c → [Mo.lst ((((fmI.take j).map (charN m)).map fun c => D.str [c]) ++ [.str [c]])] = [Mo.lst (((fmI.take (j + 1)).map (charN m)).map fun c => .str [c])] := fun c hc => by
      rw [List.take_add_one, hd, List.map_append, List.map_append]
      show _ = [Mo.lst (_ ++ [.str [charN m (i, rows)]])]
      rw [hc]
    refine ⟨_, .tup (.cons (by decide +kernel) (.cons (by decide +kernel) (.nil _))), ?_⟩
    apply ru_cons
    refine rx_forbrk (l := rows) (g := rowD) (st₁ := [Mo.lst (((fmI.take j).map (charN m)).map fun c => .str [c])]) (fun v => Has v "perm" (.ref 0) ∧ Has v "mode" (.int m) ∧ Has v "index" (.int i)) (hit m i) (fun p => [Mo.lst ((((fmI.take j).map (charN m)).map fun c => D.str [c]) ++ [.str [p.2]])]) ?_ ⟨?_, ?_, ?_⟩ ?_ ?_ ?_
    · walk_at "go"
    · walk_at "lk"
    · walk_at "lk"
    · walk_at "lk"
    · rintro ⟨b, c⟩ v _ ⟨hp, hm, hi⟩
      refine ⟨_, .tup (.cons (by decide +kernel) (.cons (by decide +kernel) (.nil _))), ?_⟩
      apply ru_cons
      apply rx_if
      · walk_at "go"
      all_goals
        intro h
        apply ru_cons
        apply rx_if
        · walk_at "go"
        · intro h2
          walk_at "run"
          refine And.intro ⟨by walk_at "lk", by walk_at "lk", by walk_at "lk"⟩ (.inl ⟨?_, rfl, rfl⟩)
          first | exact (if_pos (of_decide_eq_true h)).trans h2 | exact (if_neg (of_decide_eq_false h)).trans h2
        · intro h2
          walk_at "run"
          refine And.intro ⟨by walk_at "lk", by walk_at "lk", by walk_at "lk"⟩ (.inr ⟨?_, rfl, rfl⟩)
          first | exact (if_pos (of_decide_eq_true h)).trans h2 | exact (if_neg (of_decide_eq_false h)).trans h2
    · rintro v ⟨hp, hm, hi⟩ hnone
      apply ru_cons
      apply rx_if
      · walk_at "go"
      all_goals
        intro h
        walk_at "run"
        refine ⟨rfl, hnext _ ?_, by walk_at "lk", by walk_at "lk"⟩
        unfold charN
        rw [hnone]
      · exact if_pos (of_decide_eq_true h)
      · exact if_neg (of_decide_eq_false h)
    · rintro v ⟨b, c⟩ ⟨hp, hm, hi⟩ hsome
      walk_at "run"
      refine ⟨rfl, hnext c ?_, hp, hm⟩
      unfold charN
      rw [hsome]; rfl
  · rintro v s ⟨rfl, hp, hm⟩
    apply kt_next
    apply ru_cons
    apply rx_ret (d := .str (filemodeL m))
    · apply ev_meth
      · decide +kernel
      · walk_at "go"
      · walk_at "go"
      · walk_at "go"
      · have hl : (joinS [] ((filemodeL m).map fun c => [c])).length ≤ LIM := by rw [joinS_chars]; unfold filemodeL; rw [List.length_map]; exact short rfl
        have := join_ok' (B := B) (k := k + 2) (st := [.lst ((filemodeL m).map fun c => .str [c])]) (st₀ := [.lst ((filemodeL m).map fun c => .str [c])]) (w := []) (Items.ref (n := 0) rfl) StrL.map hl
        rw [joinS_chars] at this
        exact this
    · exact .flat rfl
end
section
variable {B : Base} {k n : Nat} {st st₀ : Sto}
theorem fm_rows : fmI.all (fun p => p.2.all fun r => decide (32 ≤ r.2) && decide (r.2 < 127)) = true := by decide +kernel
theorem fm_print {m : Int} : printable (filemodeL m) = true := by
  unfold printable filemodeL
  rw [List.all_map, List.all_eq_true]
  rintro ⟨i, rows⟩ hd
  have h1 := List.all_eq_true.mp fm_rows _ hd
  show (decide (32 ≤ charN m (i, rows)) && decide (charN m (i, rows) < 127)) = true
  unfold charN
  cases hf : rows.find? (hit m i) with
  | some r => exact List.all_eq_true.mp h1 r (List.mem_of_find?_eq_some hf)
  | none =>
    show (decide (32 ≤ if i = 0 then 63 else 45) && decide ((if i = 0 then 63 else 45) < 127)) = true
    split <;> rfl
theorem fm_len {m : Int} : (filemodeL m).length = 10 := by unfold filemodeL; rw [List.length_map]; rfl
end
section
variable {B : Base} {k : Nat} {sc : Scope} {v : Vars} {st st₁ st' : Sto} {e : Expr} {es : List Expr} {t c : Bool}
theorem ta_t (h1 : Te B k sc v e st t st₁) (ht : t = true) (h2 : TeB B k .And sc v es st₁ c st') : TeB B k .And sc v (e :: es) st c st' := ta_cons h1 (fun z_ => h2) fun q => by rw [ht] at q; cases q
theorem ta_f (h1 : Te B k sc v e st t st₁) (ht : t = false) : TeB B k .And sc v (e :: es) st false st₁ := ta_cons h1 (fun q => by rw [ht] at q; cases q) fun q => ⟨rfl, rfl⟩
theorem ta_one (h1 : Te B k sc v e st t st₁) : TeB B k .And sc v [e] st t st₁ := by
  cases t
  · exact ta_f h1 rfl
  · exact ta_t h1 rfl ta_nil
theorem to_f (h1 : Te B k sc v e st t st₁) (ht : t = false) (h2 : TeB B k .Or sc v es st₁ c st') : TeB B k .Or sc v (e :: es) st c st' := to_cons h1 (fun z_ => h2) fun q => by rw [ht] at q; cases q
theorem to_t (h1 : Te B k sc v e st t st₁) (ht : t = true) : TeB B k .Or sc v (e :: es) st true st₁ := to_cons h1 (fun q => by rw [ht] at q; cases q) fun q => ⟨rfl, rfl⟩
theorem cp_in2 {w a b : List Nat} : CmpOk B .In st (.str w) (.tup [.str a, .str b]) (decide (a = w) || (decide (b = w) || false)) := by
  have := cp_in_tup (B := B) (st := st) (a := .str w) (ds := [.str a, .str b]) (.flat rfl) rfl
  rw [show ((D.toPs [D.str a, D.str b]).any fun y => PyData.eqv y (D.str w).toP) = (decide (a = w) || (decide (b = w) || false)) from by
    show (PyData.eqv (D.str a).toP (D.str w).toP || (PyData.eqv (D.str b).toP (D.str w).toP || false)) = _
    rw [eqv_str, eqv_str]] at this
  exact this
end
local macro_rules | `(tactic| walk_at "op") => `(tactic| with_reducible exact cp_in2)
local macro_rules | `(tactic| walk_at "go") => `(tactic| ((with_reducible apply ta_one); walk_at "go"))
local macro_rules | `(tactic| walk_at "go") => `(tactic| ((with_reducible apply to_f); (focus walk_at "go"); (focus (first | rfl | assumption | (with_reducible decide))); walk_at "go"))
local macro_rules | `(tactic| walk_at "go") => `(tactic| ((with_reducible apply to_t); (focus walk_at "go"); (first | rfl | assumption | (with_reducible decide))))
local macro_rules | `(tactic| walk_at "go") => `(tactic| ((with_reducible apply ta_t); (focus walk_at "go"); (focus (first | rfl | assumption | (with_reducible decide))); walk_at "go"))
local macro_rules | `(tactic| walk_at "go") => `(tactic| ((with_reducible apply ta_f); (focus walk_at "go"); (first | rfl | assumption | (with_reducible decide))))
local macro_rules | `(tactic| walk_at "go") => `(tactic| ((with_reducible apply esc_ok); (focus exact LawB.esc (by assumption)); (focus assumption); (focus decide +kernel); (focus decide +kernel); walk_at "go"))
local macro_rules | `(tactic| walk_at "go") => `(tactic| ((with_reducible apply ev_sub); (focus exact LawB.lam (by assumption)); (focus decide +kernel); (focus decide +kernel); (focus with_reducible exact LawB.c_twin (by assumption)); (focus rfl); (focus rfl); (focus rfl); (focus decide +kernel); (focus walk_at "go"); assumption))
local macro_rules | `(tactic| walk_at "fn") => `(tactic| ((with_reducible apply repl_ok); assumption))
section
variable {B : Base} {k n : Nat} {st st₀ : Sto}
theorem escape_ok (L : LawB B) {c : Nat} (hc : c < 128) : FnG B (k + 2) "escape" [.str [c]] [] st (.str (escC c)) st := by
  refine fn_pure (vars := [("pattern", .str [c])]) L.escape rfl (by rfl) rfl ?_
  walk_at "run"
  exact .flat rfl
end
local macro_rules | `(tactic| walk_at "fn") => `(tactic| ((with_reducible apply escape_ok) <;> assumption))
section
variable {B : Base} {k n : Nat} {st st₀ : Sto}

noncomputable def whileAt (l : List Stmt) (i : Nat) : List Stmt := match l[i]? with
  | some (.While _ b _ _) => b
  | _ => []
noncomputable abbrev b_trw : { b : List Stmt // whileAt b_tr.1.1 3 = b } := ⟨_, by (conv => lhs; whnf)⟩
structure TV (ts : List Tk) (i : Int) (v : Vars) : Prop where
  pat : Has v "pat" (.str (txts ts))
  star : Has v "STAR" (.ref 0)
  q : Has v "QUESTION_MARK" (.str [46])
  res : Has v "res" (.ref 1)
  add : Has v "add" (.app 1)
  n : Has v "n" (.int (txts ts).length)
  i : Has v "i" (.int i)
noncomputable def at_ (ts : List Tk) (j : Nat) : Int := (txts (ts.take j)).length
noncomputable def tS (ts : List Tk) (j : Nat) : Sto := [.sent, .lst ((ts.take j).map Tk.out)]
theorem len_txts : ∀ ts : List Tk, ts.length ≤ (txts ts).length
  | [] => Nat.le_refl _
  | t :: ts => by
    have := len_txts ts
    have := txt_pos t
    show ts.length + 1 ≤ (List.flatMap Tk.txt (t :: ts)).length
    rw [List.flatMap_cons, List.length_append]
    unfold txts at *
    omega
theorem ne_dec {x y : Nat} {l : List Nat} (h : x ≠ y) : decide (x :: l = [y]) = false := decide_eq_false fun e => h (List.cons.inj e).1
theorem clip_at {n m : Nat} {i : Int} (h : m ≤ n) (e : i = m) : clipAt n i = m := by
  subst e
  exact clip_le.trans (Nat.min_eq_left h)
set_option tactic.hygienic true in
theorem tr_turn (L : LawB B) {ts : List Tk} {j : Nat} {t : Tk} {v : Vars} {Q : Fl → Vars → Sto → Prop} (ht : ts[j]? = some t) (ho : t.ok = true) (h2 : noTwo ts = true) (hlen : (txts ts).length ≤ 1000) (V : TV ts (at_ ts j) v) (hq : ∀ v, TV ts (at_ ts (j + 1)) v → Q .next v (tS ts (j + 1))) :
    Ru B (k + 2) b_tr.1.2 v b_trw.1 (tS ts j) Q := by
  have sp := split_txts ht
  have tk := take_txts ht
  obtain ⟨V1, V2, V3, V4, V5, V6, V7⟩ := V
  have hlt : (txts (ts.take j)).length < (txts ts).length := by
    have := txt_pos t
    rw [sp, List.length_append, List.length_append]; omega
  have hix := ix_ok hlt
  have happ : ((ts.take j).map Tk.out).length < LIM := by
    rw [List.length_map, List.length_take]
    have : j < ts.length := (List.getElem?_eq_some_iff.mp ht).1
    have := len_txts ts
    have : (1000:Nat) < LIM := by decide
    exact Nat.lt_of_le_of_lt (Nat.le_trans (Nat.min_le_right _ _) (Nat.le_trans (by assumption) hlen)) this
  have hnx : ∀ d, t.out = d → (tS ts j).set 1 (.lst ((ts.take j).map Tk.out ++ [d])) = tS ts (j + 1) := fun d e => by
    subst e
    unfold tS
    rw [List.take_add_one, ht, List.map_append]; rfl
  have hl : (tS ts j)[1]? = some (.lst ((ts.take j).map Tk.out)) := rfl
  have hget : ∀ i x, t.txt[i]? = some x → (txts ts)[(txts (ts.take j)).length + i]? = some x := fun i x e => by
    rw [sp, List.getElem?_append_right (by omega), Nat.add_sub_cancel_left, List.getElem?_append_left (List.getElem?_eq_some_iff.mp e).1]; exact e
  have hnxt : at_ ts (j + 1) = ↑(txts (ts.take j)).length + ↑t.txt.length := by unfold at_; rw [tk, List.length_append]; rfl
  have hone : ∀ m : Nat, t.txt.length = m → at_ ts (j + 1) = at_ ts j + (m : Int) := fun m e => e ▸ hnxt
  cases t with
  | q =>
    have hc := hget 0 63 rfl
    have e1 : at_ ts (j + 1) = at_ ts j + 1 := hone 1 rfl
    walk_at "run"
    rw [hnx (.str [46]) rfl]
    refine hq _ ⟨?_, ?_, ?_, ?_, ?_, ?_, ?_⟩
    all_goals first | walk_at "lk" | (rw [e1]; walk_at "lk")
  | c x =>
    have hc := hget 0 x rfl
    have e1 : at_ ts (j + 1) = at_ ts j + 1 := hone 1 rfl
    have ho' := ho
    simp only [Tk.ok, Bool.and_eq_true, decide_eq_true_eq, bne_iff_ne] at ho'
    obtain ⟨⟨⟨h4, h1⟩, h5⟩, h3⟩ := ho'
    replace h1 : decide ([x] = [42]) = false := ne_dec h1
    replace h5 : decide ([x] = [63]) = false := ne_dec h5
    replace h3 : decide ([x] = [91]) = false := ne_dec h3
    walk_at "run"
    rw [hnx (.str (escC x)) rfl]
    refine hq _ ⟨?_, ?_, ?_, ?_, ?_, ?_, ?_⟩
    all_goals first | walk_at "lk" | (rw [e1]; walk_at "lk")
  | star =>
    have hc := hget 0 42 rfl
    have e1 : at_ ts (j + 1) = at_ ts j + 1 := hone 1 rfl
    have fin : ∀ {v : Vars}, TV ts (at_ ts (j + 1)) v → Q .next v (tS ts (j + 1)) := fun h => hq _ h
    walk_at "run"
    by_cases hj : j = 0
    · have h0 : (!(!((ts.take j).map Tk.out).isEmpty)) = true := by subst hj; rfl
      walk_at "run"
      rw [hnx (.ref 0) rfl]
      refine hq _ ⟨?_, ?_, ?_, ?_, ?_, ?_, ?_⟩
      all_goals first | walk_at "lk" | (rw [e1]; walk_at "lk")
    · obtain ⟨j', rfl⟩ : ∃ j', j = j' + 1 := ⟨j - 1, (Nat.sub_one_add_one (by assumption)).symm⟩
      obtain ⟨t', ht', hs⟩ := noTwo_at h2 ht
      have hlast : seqIndex? (-1) ((ts.take (j' + 1)).map Tk.out).length = some j' := by
        rw [List.length_map, List.length_take, Nat.min_eq_left (by have := (List.getElem?_eq_some_iff.mp ht).1; omega)]
        unfold seqIndex?
        rw [if_pos (show (-1 : Int) < 0 by decide), if_pos (by rw [neg_last]; first | (simp; done) | (simp; omega))]
        rw [neg_last]; rfl
      have hgl : ((ts.take (j' + 1)).map Tk.out)[j']? = some t'.out := by rw [List.getElem?_map, List.getElem?_take, if_pos (Nat.lt_succ_self _), ht']; rfl
      have h0 : (!(!((ts.take (j' + 1)).map Tk.out).isEmpty)) = false := by
        rw [Bool.not_not]
        cases hh : (ts.take (j' + 1)).map Tk.out with
        | nil => rw [hh] at hgl; cases hgl
        | cons _ _ => rfl
      obtain ⟨l, hl'⟩ : ∃ l, t'.out = .str l := by cases t' <;> first | exact ⟨_, rfl⟩ | cases hs
      rw [hl'] at hgl
      walk_at "run"
      rw [hnx (.ref 0) rfl]
      refine hq _ ⟨?_, ?_, ?_, ?_, ?_, ?_, ?_⟩
      all_goals first | walk_at "lk" | (rw [e1]; walk_at "lk")
  | set w =>
    have hc := hget 0 91 rfl
    have ho' := ho
    simp only [Tk.ok, Bool.and_eq_true, Bool.not_eq_true'] at ho'
    obtain ⟨hne, hall⟩ := ho'
    obtain ⟨c0, w', rfl⟩ : ∃ c w', w = c :: w' := by cases w with | nil => cases hne | cons c w' => exact ⟨c, w', rfl⟩
    have hcs : ∀ c ∈ c0 :: w', c < 128 ∧ c ≠ 93 ∧ c ≠ 45 ∧ c ≠ 92 ∧ c ≠ 38 ∧ c ≠ 126 ∧ c ≠ 124 ∧ c ≠ 33 ∧ c ≠ 94 ∧ c ≠ 91 := fun c h => by
      have := List.all_eq_true.mp hall c h
      simp only [setC, Bool.and_eq_true, decide_eq_true_eq, bne_iff_ne] at this
      obtain ⟨⟨⟨⟨⟨⟨⟨⟨⟨a1, a2⟩, a3⟩, a4⟩, a5⟩, a6⟩, a7⟩, a8⟩, a9⟩, a10⟩ := this
      exact ⟨a1, a2, a3, a4, a5, a6, a7, a8, a9, a10⟩
    generalize hw : c0 :: w' = w at *
    have hw0 : w[0]? = some c0 := by rw [← hw]; rfl
    have hc0 := hcs c0 (List.mem_of_getElem? hw0)
    have hP : at_ ts j = ((txts (ts.take j)).length : Int) := rfl
    have hln : (txts ts).length = (txts (ts.take j)).length + (w.length + 2) + (txts (ts.drop (j + 1))).length := by
      rw [sp, List.length_append, List.length_append]
      show _ + ((91 :: (w ++ [93])).length + _) = _
      rw [List.length_cons, List.length_append]; exact (Nat.add_assoc _ _ _).symm
    have hin : ∀ a : Nat, a ≤ w.length → seqIndex? (at_ ts j + 1 + (a : Int)) (txts ts).length = some ((txts (ts.take j)).length + (a + 1)) := fun a h => ix_at (in_w hln h) (by rw [hP, Int.add_assoc, Int.add_comm 1]; rfl)
    have hch : ∀ (a c : Nat), w[a]? = some c → (txts ts)[(txts (ts.take j)).length + (a + 1)]? = some c := fun a c h => hget (a + 1) c (by
      show (91 :: (w ++ [93]))[a + 1]? = _
      rw [List.getElem?_cons_succ, List.getElem?_append_left (List.getElem?_eq_some_iff.mp h).1]; exact h)
    have hce : (txts ts)[(txts (ts.take j)).length + (w.length + 1)]? = some 93 := hget (w.length + 1) 93 (by
      show (91 :: (w ++ [93]))[w.length + 1]? = _
      rw [List.getElem?_cons_succ, List.getElem?_append_right (Nat.le_refl _), Nat.sub_self]; rfl)
    have hi0 : seqIndex? (at_ ts j + 1) (txts ts).length = some ((txts (ts.take j)).length + (0 + 1)) := hin 0 (Nat.zero_le _)
    have hk0 := hch 0 c0 hw0
    have q1 : decide (at_ ts j + 1 < ((txts ts).length : Int)) = true := decide_eq_true (by rw [hP]; exact Int.ofNat_lt.mpr (in_w hln (Nat.zero_le _)))
    have q2 : decide ([c0] = [33]) = false := ne_dec hc0.2.2.2.2.2.2.2.1
    have q3 : decide ([c0] = [93]) = false := ne_dec hc0.2.1
    walk_at "run"
    refine rx_while (fun n v st => st = tS ts j ∧ TV ts (at_ ts j + 1) v ∧ ∃ a : Nat, n + a = w.length ∧ Has v "j" (.int (at_ ts j + 1 + (a : Int)))) w.length ⟨rfl, ⟨?_, ?_, ?_, ?_, ?_, ?_, ?_⟩, 0, rfl, ?_⟩ ?_
    all_goals first | walk_at "lk" | skip
    · rw [show at_ ts j + 1 + ((0 : Nat) : Int) = at_ ts j + 1 from Int.add_zero _]; walk_at "lk"
    rintro n v st ⟨rfl, ⟨V1, V2, V3, V4, V5, V6, V7⟩, a, hna, Vj⟩
    have q4 : decide (at_ ts j + 1 + (a : Int) < ((txts ts).length : Int)) = true := decide_eq_true (by rw [hP, Int.add_assoc, Int.add_comm 1]; exact Int.ofNat_lt.mpr (in_w hln (hna ▸ Nat.le_add_left a n)))
    have hia := hin a (hna ▸ Nat.le_add_left a n)
    by_cases ha : a < w.length
    · have hka := hch a _ (List.getElem?_eq_getElem ha)
      have q5 : (!decide ([w[a]] = [93])) = true := by rw [ne_dec (hcs _ (List.getElem_mem ha)).2.1]; rfl
      refine ⟨!decide ([w[a]] = [93]), tS ts j, ?_, fun q => (by rw [q5] at q; cases q), fun z_ => ?_⟩
      · refine te_bool (ta_t (st₁ := tS ts j) ?_ q4 (ta_one ?_))
        · walk_at "go"
        · apply te_cmp
          · walk_at "go"
          · walk_at "go"
          · exact cp_ne_str
          · rfl
      · walk_at "run"
        refine ⟨n - 1, dn_lt hna ha, rfl, ⟨?_, ?_, ?_, ?_, ?_, ?_, ?_⟩, a + 1, dn_eq hna ha, ?_⟩
        all_goals first | walk_at "lk" | skip
        rw [show at_ ts j + 1 + ((a + 1 : Nat) : Int) = at_ ts j + 1 + (a : Int) + 1 from (show at_ ts j + 1 + ((a : Int) + 1) = _ from (Int.add_assoc _ _ _).symm)]; walk_at "lk"
    · have ea : a = w.length := dn_end hna ha
      subst ea
      refine ⟨!decide ([93] = [93]), tS ts j, te_bool (ta_t (st₁ := tS ts j) (by walk_at "go") q4 (ta_one (by apply te_cmp <;> first | walk_at "go" | exact cp_ne_str | rfl))), fun z_ => ?_, fun q => (by simp at q)⟩
      have q6 : decide ((at_ ts j + 1 + (w.length : Int)) ≥ ((txts ts).length : Int)) = false := decide_eq_false (Int.not_le.mpr (by rw [hP, Int.add_assoc, Int.add_comm 1]; exact Int.ofNat_lt.mpr (in_w hln (Nat.le_refl _))))
      have q7 : (!decide (45 ∈ w)) = true := by rw [decide_eq_false fun h => (hcs _ h).2.2.1 rfl]; rfl
      have q8 : 92 ∉ w := fun h => (hcs _ h).2.2.2.1 rfl
      have q9 : (w.all fun c => c != 38 && c != 126 && c != 124) = true := List.all_eq_true.mpr fun c h => by
        have := hcs c h
        simp only [Bool.and_eq_true, bne_iff_ne]
        exact ⟨⟨this.2.2.2.2.1, this.2.2.2.2.2.1⟩, this.2.2.2.2.2.2.1⟩
      have q10 : (!(!w.isEmpty)) = false := by rw [← hw]; rfl
      have q11 : decide (w = [33]) = false := by rw [← hw]; exact ne_dec hc0.2.2.2.2.2.2.2.1
      have q12 : seqIndex? 0 w.length = some 0 := ix_ok (i := 0) (by rw [← hw]; exact Nat.succ_pos _)
      have q13 : (decide ([94] = [c0]) || (decide ([91] = [c0]) || false)) = false := by
        rw [ne_dec (Ne.symm hc0.2.2.2.2.2.2.2.2.1), ne_dec (Ne.symm hc0.2.2.2.2.2.2.2.2.2)]; rfl
      have hcut : cutI (txts ts) (some (at_ ts j + 1)) (some (at_ ts j + 1 + (w.length : Int))) = w := by
        have c1 : clipAt (txts ts).length (at_ ts j + 1) = (txts (ts.take j)).length + 1 := clip_at (Nat.le_of_lt (in_w hln (Nat.zero_le _))) (by rw [hP]; push_cast; rfl)
        have c2 : clipAt (txts ts).length (at_ ts j + 1 + (w.length : Int)) = (txts (ts.take j)).length + 1 + w.length := clip_at (by rw [Nat.add_assoc, Nat.add_comm 1]; exact Nat.le_of_lt (in_w hln (Nat.le_refl _))) (by rw [hP]; push_cast; rfl)
        unfold cutI
        show (List.drop (clipAt _ _) _).take (clipAt _ _ - clipAt _ _) = w
        rw [c1, c2, Nat.add_sub_cancel_left, sp, ← List.append_assoc]
        show List.take _ (List.drop _ (_ ++ (91 :: (w ++ [93])) ++ _)) = w
        rw [List.append_assoc, ← List.drop_drop, List.drop_left]
        show List.take w.length ((w ++ [93]) ++ _) = w
        rw [List.append_assoc, List.take_left]
      walk_at "run"
      rw [hcut]
      apply rx_ift (ht := q7)
      · apply te_cmp
        · walk_at "go"
        · walk_at "go"
        · exact cp_notin
        · rfl
      walk_at "run"
      apply rx_set
      · decide +kernel
      · apply ev_meth
        · decide +kernel
        · walk_at "go"
        · walk_at "go"
        · walk_at "go"
        · apply repl_ok
          exact q8
      · intro z_ z_ z_; rfl
      have q14 : ((Str.ofString "[").cps.toList ++ (w ++ ((Str.ofString "]").cps.toList ++ []))).length ≤ LIM := by
        show (91 :: (w ++ [93])).length ≤ LIM
        have : (1000 : Nat) < LIM := by decide
        rw [List.length_cons, List.length_append, List.length_singleton]
        exact Nat.le_trans (show w.length + 1 + 1 ≤ (txts ts).length by rw [hln]; exact Nat.le_trans (Nat.le_add_left _ _) (Nat.le_add_right _ _)) (Nat.le_trans hlen (Nat.le_of_lt this))
      have q15 := hnx (.str ((Str.ofString "[").cps.toList ++ (w ++ ((Str.ofString "]").cps.toList ++ [])))) rfl
      walk_at "run"
      rw [q15]
      refine hq _ ⟨?_, ?_, ?_, ?_, ?_, ?_, ?_⟩
      all_goals first | walk_at "lk" | skip
      rw [hone (w.length + 2) (by show (91 :: (w ++ [93])).length = _; rw [List.length_cons, List.length_append]; rfl), show at_ ts j + ((w.length + 2 : Nat) : Int) = at_ ts j + 1 + (w.length : Int) + 1 from by rw [Int.add_assoc (at_ ts j) 1, Int.add_comm 1, Int.add_assoc]; rfl]
      walk_at "lk"
end
section
variable {B : Base} {k n : Nat} {st st₀ : Sto}
set_option tactic.hygienic true in
theorem rx_swap2 {sc : Scope} {v : Vars} {ts es : List Expr} {i j : Nat} {p p' pos : Pos} {st st' : Sto} {d e : D} {x y : Str} {Q : Fl → Vars → Sto → Prop} (hn : swapOk sc ts es [x, y] = true) (h : Evs B k sc v es st [d, e] st') (hq : Q .next (setVar (setVar v y e) x d) st') : Rx B k sc v (.Assign [.Tuple ts i p] (.Tuple es j p') pos) st Q := rx_swap hn h (short rfl) hq
theorem take_len {ts : List Tk} : at_ ts ts.length = ((txts ts).length : Int) := by unfold at_; rw [List.take_length]
theorem tr_ok (L : LawB B) {ts : List Tk} (hk : ts.all Tk.ok = true) (h2 : noTwo ts = true) (hlen : (txts ts).length ≤ 1000) : FnG B (k + 4) "_translate" [.str (txts ts), .ref 0, .str [46]] [] [.sent] (.lst (ts.map Tk.out)) [.sent] := by
  refine fn_cut 1 (vars := [("pat", .str (txts ts)), ("STAR", .ref 0), ("QUESTION_MARK", .str [46])]) L.tr rfl (by rfl) (Nat.le_refl _) ?_
  walk_at "run"
  apply rx_swap2 (x := "i") (y := "n")
  · decide +kernel
  · walk_at "go"
  walk_at "run"
  refine rx_while (fun n v st => ∃ j, n + j = ts.length ∧ st = tS ts j ∧ TV ts (at_ ts j) v) ts.length ⟨0, rfl, rfl, ⟨?_, ?_, ?_, ?_, ?_, ?_, ?_⟩⟩ ?_
  all_goals first | walk_at "lk" | (show Has _ _ (.ref [Mo.sent].length); walk_at "lk") | (show Has _ _ (.app [Mo.sent].length); walk_at "lk") | (show Has _ _ (.int 0); walk_at "lk") | skip
  rintro n v st ⟨j, hn, rfl, V⟩
  obtain ⟨V1, V2, V3, V4, V5, V6, V7⟩ := V
  by_cases hj : j < ts.length
  · refine ⟨decide (at_ ts j < ((txts ts).length : Int)), tS ts j, by walk_at "go", fun q => ?_, fun z_ => ?_⟩
    · have := of_decide_eq_false q
      have h3 := split_txts (List.getElem?_eq_getElem hj)
      have := txt_pos ts[j]
      have h4 := congrArg List.length h3
      rw [List.length_append, List.length_append] at h4
      unfold at_ at *
      omega
    · exact tr_turn (k := k) L (List.getElem?_eq_getElem hj) (List.all_eq_true.mp hk _ (List.getElem_mem hj)) h2 hlen ⟨V1, V2, V3, V4, V5, V6, V7⟩ fun v V => ⟨n - 1, dn_lt hn hj, j + 1, dn_eq hn hj, rfl, V⟩
  · have e : j = ts.length := dn_end hn hj
    subst e
    refine ⟨decide (at_ ts ts.length < ((txts ts).length : Int)), tS ts ts.length, by walk_at "go", fun q => ?_, fun q => ?_⟩
    · have hd : decide (at_ ts ts.length = ((txts ts).length : Int)) = true := decide_eq_true take_len
      walk_at "run"
      refine ⟨.lst (Nat.le_refl 1) (by show some (Mo.lst ((ts.take ts.length).map Tk.out)) = _; rw [List.take_length]) (lts_map fun t z_ => by cases t <;> rfl), Nat.le_succ 1, rfl, rfl⟩
    · rw [take_len] at q; have := of_decide_eq_true q; omega
structure JV (l : List (List Nat)) (i : Int) (v : Vars) : Prop where
  inp : Has v "inp" (.lst (l.map .str ++ [.ref 0]))
  star : Has v "STAR" (.ref 0)
  res : Has v "res" (.ref 1)
  add : Has v "add" (.app 1)
  n : Has v "n" (.int (l.map D.str ++ [D.ref 0]).length)
  i : Has v "i" (.int i)
noncomputable def jS (l : List (List Nat)) (j : Nat) : Sto := [.sent, .lst ((l.take j).map .str)]
noncomputable def parts (l : List (List Nat)) : List Nat := [40, 63, 115, 58] ++ (l.flatten ++ [46, 42]) ++ [41, 92, 90]
theorem jn_ok (L : LawB B) {l : List (List Nat)} (hlen : l.flatten.length ≤ 2000) (hl : l.length ≤ 1000) : FnG B (k + 4) "_join_translated_parts" [.lst (l.map .str ++ [.ref 0]), .ref 0] [] [.sent] (.str (parts l)) [.sent] := by
  refine fn_cut 1 (vars := [("inp", .lst (l.map .str ++ [.ref 0])), ("STAR", .ref 0)]) L.join rfl (by rfl) (Nat.le_refl _) ?_
  walk_at "run"
  apply rx_swap2 (x := "i") (y := "n")
  · decide +kernel
  · walk_at "go"
  have hln : ((l.map D.str ++ [D.ref 0]).length : Int) = (l.length : Int) + 1 := by rw [List.length_append, List.length_map]; rfl
  have hln' : (l.map D.str ++ [D.ref 0]).length = l.length + 1 := by rw [List.length_append, List.length_map]; rfl
  walk_at "run"
  refine rx_while (fun n v st => ∃ j : Nat, n + j = l.length ∧ st = jS l j ∧ JV l j v) l.length ⟨0, rfl, rfl, ⟨?_, ?_, ?_, ?_, ?_, ?_⟩⟩ ?_
  all_goals first | walk_at "lk" | (show Has _ _ (.ref [Mo.sent].length); walk_at "lk") | (show Has _ _ (.app [Mo.sent].length); walk_at "lk") | (show Has _ _ (.int 0); walk_at "lk") | skip
  rintro n v st ⟨j, hn, rfl, V⟩
  obtain ⟨V1, V2, V3, V4, V5, V6⟩ := V
  have hst : (jS l j)[1]? = some (.lst ((l.take j).map .str)) := rfl
  have hsz : ((l.take j).map D.str).length < LIM := by
    have : (1000 : Nat) < LIM := by decide
    rw [List.length_map, List.length_take]; exact Nat.lt_of_le_of_lt (Nat.le_trans (Nat.min_le_right _ _) (by assumption)) this
  have hlt : decide ((j : Int) < ((l.map D.str ++ [D.ref 0]).length : Int)) = true := decide_eq_true (by rw [hln]; exact Int.ofNat_lt.mpr (Nat.lt_succ_of_le (hn ▸ Nat.le_add_left j n)))
  have hix : seqIndex? (j : Int) (l.map D.str ++ [D.ref 0]).length = some j := ix_ok (by rw [hln']; exact Nat.lt_succ_of_le (hn ▸ Nat.le_add_left j n))
  by_cases hj : j < l.length
  · have hat : (l.map D.str ++ [D.ref 0])[j]? = some (.str l[j]) := by
      rw [List.getElem?_append_left (by rw [List.length_map]; exact hj), List.getElem?_map, List.getElem?_eq_getElem hj]; rfl
    refine ⟨true, jS l j, by walk_at "go", fun q => (by cases q), fun z_ => ?_⟩
    walk_at "run"
    refine ⟨n - 1, dn_lt hn hj, j + 1, dn_eq hn hj, ?_, ⟨?_, ?_, ?_, ?_, ?_, ?_⟩⟩
    all_goals first | walk_at "lk" | (show Has _ _ (.int ((j : Int) + 1)); walk_at "lk") | skip
    show [Mo.sent, Mo.lst _] = [Mo.sent, Mo.lst _]
    rw [List.take_add_one, List.getElem?_eq_getElem hj, List.map_append]; rfl
  · have e : j = l.length := dn_end hn hj
    subst e
    have hat : (l.map D.str ++ [D.ref 0])[l.length]? = some (.ref 0) := by
      rw [List.getElem?_append_right (by rw [List.length_map]; exact Nat.le_refl _), List.length_map, Nat.sub_self]; rfl
    refine ⟨!decide (0 = 0), jS l l.length, by walk_at "go", fun q => ?_, fun q => (by simp at q)⟩
    clear q
    walk_at "run"
    refine rx_while (fun n v st => st = jS l l.length ∧ JV l l.length v) 0 ⟨rfl, ⟨V1, V2, V3, V4, V5, V6⟩⟩ ?_
    rintro n v st ⟨rfl, V1, V2, V3, V4, V5, V6⟩
    refine ⟨_, jS l l.length, by walk_at "go", fun q => (by rw [hlt] at q; cases q), fun q => ?_⟩
    have h0 : decide (0 = 0) = true := rfl
    have heq : decide ((l.length : Int) + 1 = ((l.map D.str ++ [D.ref 0]).length : Int)) = true := decide_eq_true (by rw [hln])
    walk_at "run"
    have hs : (jS l l.length).set 1 (.lst ((l.take l.length).map .str ++ [.str (Str.ofString ".*").cps.toList])) = [.sent, .lst ((l ++ [[46, 42]]).map .str)] := by
      show [Mo.sent, Mo.lst _] = [Mo.sent, Mo.lst _]
      rw [List.take_length, List.map_append]; rfl
    rw [hs]
    have hj : joinS [] (l ++ [[46, 42]]) = l.flatten ++ [46, 42] := by rw [joinS_nil, List.flatten_append]; rfl
    have hL : (l.flatten ++ [46, 42]).length ≤ LIM := by
      have : (2002 : Nat) ≤ LIM := by decide
      rw [List.length_append, List.length_cons, List.length_singleton]; omega
    have hL2 : ((Str.ofString "(?s:").cps.toList ++ ((l.flatten ++ [46, 42]) ++ ((Str.ofString ")\\Z").cps.toList ++ []))).length ≤ LIM := by
      show ([40, 63, 115, 58] ++ ((l.flatten ++ [46, 42]) ++ [41, 92, 90])).length ≤ LIM
      have : (2012 : Nat) ≤ LIM := by decide
      simp only [List.length_append, List.length_cons, List.length_nil]; omega
    apply rx_set (d := .str (l.flatten ++ [46, 42]))
    · decide +kernel
    · apply ev_meth
      · decide +kernel
      · walk_at "go"
      · walk_at "go"
      · walk_at "go"
      · have := join_ok (B := B) (k := k + 2) (st := [.sent, .lst ((l ++ [[46, 42]]).map .str)]) (st₀ := [.sent, .lst ((l ++ [[46, 42]]).map .str)]) (w := []) (Items.ref (n := 1) rfl) (by rw [hj]; exact hL)
        rw [hj] at this
        exact this
    · intro z_ z_ z_; rfl
    · walk_at "run"
      exact ⟨.flat rfl, Nat.le_succ 1, rfl, rfl⟩
noncomputable def Tk.outL : Tk → List Nat
  | .q => [46]
  | .c x => escC x
  | .set w => 91 :: (w ++ [93])
  | .star => []
theorem outs_parts {ts : List Tk} (h : ts.all (fun t => !t.isStar) = true) : (ts ++ [Tk.star]).map Tk.out = (ts.map Tk.outL).map .str ++ [.ref 0] := by
  rw [List.map_append, List.map_map]
  congr 1
  refine List.map_congr_left fun t ht => ?_
  have := List.all_eq_true.mp h t ht
  cases t <;> first | rfl | cases this
theorem trans_ok (L : LawB B) {ts : List Tk} (hk : ts.all Tk.ok = true) (hs : ts.all (fun t => !t.isStar) = true) (h2 : noTwo (ts ++ [Tk.star]) = true) (hlen : (txts (ts ++ [Tk.star])).length ≤ 1000) (hl2 : (ts.map Tk.outL).flatten.length ≤ 2000) :
    FnG B (k + 6) "translate" [.str (txts (ts ++ [Tk.star]))] [] st (.str (parts (ts.map Tk.outL))) st := by
  have h1 : (ts ++ [Tk.star]).all Tk.ok = true := by rw [List.all_append, hk]; rfl
  have hn : (ts.map Tk.outL).length ≤ 1000 := by
    have := len_txts (ts ++ [Tk.star])
    rw [List.length_append] at this
    rw [List.length_map]
    have : [Tk.star].length = 1 := rfl
    omega
  have e1 := tr_ok (k := k) L h1 h2 hlen
  have e2 := jn_ok (k := k) L hl2 hn
  rw [outs_parts hs] at e1
  refine fn_pure (vars := [("pat", .str (txts (ts ++ [Tk.star])))]) L.translate rfl (by rfl) rfl ?_
  walk_at "run"
  apply rx_set
  · decide +kernel
  · apply ev_call
    · decide +kernel
    · walk_at "go"
    · walk_at "go"
    · exact e1
  · intro z_ z_ z_; rfl
  apply kt_next
  apply ru_cons
  apply rx_ret
  · apply ev_call
    · decide +kernel
    · walk_at "go"
    · walk_at "go"
    · exact e2
  · exact .flat rfl
end
local macro_rules | `(tactic| walk_at "go") => `(tactic| ((with_reducible apply it_rng); (focus decide +kernel); (focus exact LawB.none (by assumption) _ (by decide)); (focus rfl); (focus walk_at "go"); (focus decide); rfl))
section
variable {B : Base} {k n : Nat} {st st₀ : Sto}
theorem te_and2 {sc : Scope} {v : Vars} {e₁ e₂ : Expr} {pos : Pos} {t u : Bool} (h1 : Te B k sc v e₁ st t st) (h2 : Te B k sc v e₂ st u st) : Te B k sc v (.BoolOp .And [e₁, e₂] pos) st (t && u) st := te_bool (ta_cons h1 (fun h => by subst h; exact ta_one h2) fun h => by subst h; exact ⟨rfl, rfl⟩)
noncomputable def allH (l : List (List Nat × List Nat)) (w : List Nat) : List (List Nat) := (l.filter fun p => decide (p.1.map lowerC = w.map lowerC)).map (·.2)
theorem getall_ok (L : LawB B) {l : List (List Nat × List Nat)} {w : List Nat} (hl : l.length ≤ LIM) (hp : printable (w.map lowerC) = true) (hs : st[n]? = some (.lst (l.map HD))) : MtG B (k + 4) (.hdr n) "get_all" st₀ [.str w] [] st (.lst ((allH l w).map .str)) st := by
  refine me_pure (vars := [("self", .hdr n), ("name", .str w)]) L.getall rfl (by rfl) ?_
  walk_at "run"
  apply rx_ret (d := .lst ((allH l w).map .str))
  · unfold allH
    rw [List.map_map]
    apply ev_filter (l := l) (g := HD) (f := fun p => .str p.2) (pr := fun p => decide (p.1.map lowerC = w.map lowerC)) (lk := some n)
    · decide +kernel
    · walk_at "go"
    · rintro ⟨a, b⟩ _
      refine ⟨_, .name (by decide +kernel), tl_one ?_, fun z_ => ?_⟩
      · walk_at "go"
      · walk_at "go"
    · exact hl
  · walk_at "run"
theorem te_or2 {sc : Scope} {v : Vars} {e₁ e₂ : Expr} {pos : Pos} {t u : Bool} (h1 : Te B k sc v e₁ st t st) (h2 : Te B k sc v e₂ st u st) : Te B k sc v (.BoolOp .Or [e₁, e₂] pos) st (t || u) st := te_bool (to_cons h1 (fun h => by subst h; exact to_cons h2 (fun h => by subst h; exact to_nil) fun h => by subst h; exact ⟨rfl, rfl⟩) fun h => by subst h; exact ⟨rfl, rfl⟩)
theorem range_at {n k' a : Nat} (hd : (List.range n)[k']? = some a) : k' < n ∧ a = k' := by
  obtain ⟨h1, h2⟩ := List.getElem?_eq_some_iff.mp hd
  rw [List.getElem_range] at h2
  exact ⟨by simpa using h1, h2.symm⟩
theorem natD_im {l : List Nat} {a m : Nat} (hn : l.length = m) (ha : a < m) : ItOk B st (natsD l) (.int a) (.int (l.getD a 0 : Nat)) :=
  im_lst (Items.lst _) (ix_ok (by rw [List.length_map, hn]; exact ha)) (by rw [List.getElem?_map, getD_some (n := 0) (by omega)]; rfl)
theorem max2_ok {i j : Int} : CallOk B k (.builtin "max") [.int i, .int j] [] st (.int (max i j)) st := call2 fun A s W u w R G ru rw => by
  obtain ⟨t, rfl⟩ := ru.int'
  obtain ⟨t', rfl⟩ := rw.int'
  refine max_two_ints R.h fun h' tk hk => gv_keep G (R := IsD B _) ?_ tk hk
  by_cases h : j > i
  · rw [if_pos h, Int.max_eq_right (Int.le_of_lt h)]; exact .int _ _
  · rw [if_neg h, Int.max_eq_left (Int.not_lt.mp h)]; exact .int _ _
theorem sl_takeR {a : D} {l : List D} {m : Nat} (I : Items st a l) : SlOk B st a none (some (m : Int)) (.lst (l.take m)) := by
  rw [← cut_take]; exact sl_lst I
theorem sl_dropR {a : D} {l : List D} {m : Nat} (I : Items st a l) : SlOk B st a (some (m : Int)) none (.lst (l.drop m)) := by
  rw [← cut_drop]; exact sl_lst I
theorem cp_eq_bool {a b : Bool} : CmpOk B .Eq st (.bool a) (.bool b) (a == b) := (show PyData.eqv (D.bool a).toP (D.bool b).toP = (a == b) by cases a <;> cases b <;> rfl) ▸ cp_eq (.flat rfl) (.flat rfl)
end
noncomputable abbrev b_beaten : { b : BS // defAt pw_kt0068_03 41 = b } := ⟨_, by (conv => lhs; whnf)⟩
noncomputable abbrev b_row : { b : BS // defAt pw_kt0068_03 42 = b } := ⟨_, by (conv => lhs; whnf)⟩
noncomputable abbrev b_text : { b : BS // defAt pw_kt0068_03 43 = b } := ⟨_, by (conv => lhs; whnf)⟩
noncomputable abbrev b_takes : { b : BS // defAt pw_kt0068_03 44 = b } := ⟨_, by (conv => lhs; whnf)⟩
noncomputable abbrev b_told : { b : BS // defAt pw_kt0068_03 45 = b } := ⟨_, by (conv => lhs; whnf)⟩
noncomputable abbrev b_weights : { b : BS // defAt pw_kt0068_03 46 = b } := ⟨_, by (conv => lhs; whnf)⟩
noncomputable abbrev b_fair : { b : BS // defAt pw_kt0068_03 47 = b } := ⟨_, by (conv => lhs; whnf)⟩
noncomputable abbrev b_sets : { b : BS // defAt pw_kt0068_03 48 = b } := ⟨_, by (conv => lhs; whnf)⟩
noncomputable abbrev b_drum : { b : BS // defAt pw_kt0068_03 49 = b } := ⟨_, by (conv => lhs; whnf)⟩
noncomputable abbrev b_law : { b : BS // defAt pw_kt0068_03 50 = b } := ⟨_, by (conv => lhs; whnf)⟩
structure LawT (B : Base) : Prop where
  beaten : FnT B "_law_beaten" b_beaten.1.2 b_beaten.1.1 (bdPos ["numbers"])
  row : FnT B "_law_row" b_row.1.2 b_row.1.1 (bdPos ["number", "files"])
  text : FnT B "_law_text" b_text.1.2 b_text.1.1 (bdPos ["files"])
  takes : FnT B "_law_takes" b_takes.1.2 b_takes.1.1 (bdPos ["text", "row"])
  told : FnT B "_law_told" b_told.1.2 b_told.1.1 (bdPos ["duels", "files"])
  weights : FnT B "_law_weights" b_weights.1.2 b_weights.1.1 (bdPos ["duels", "files"])
  fair : FnT B "_law_fair" b_fair.1.2 b_fair.1.1 (bdPos ["duels", "files"])
  sets : FnT B "_law_sets" b_sets.1.2 b_sets.1.1 (bdPos [])
  drum : FnT B "_law_drum" b_drum.1.2 b_drum.1.1 (bdPos ["rows", "files", "weights"])
  law : FnT B "law" b_law.1.2 b_law.1.1 (bdPos ["script"])
section
variable {B : Base} {k n : Nat} {st st₀ : Sto}

theorem pw_facts : ∀ i : Nat, i < 6 → ((2 : Int) ^ (8 - (i : Int)).toNat ≠ 0 ∧ ((2 : Int) ^ (8 - (i : Int)).toNat).natAbs < 1073741824) := by decide
theorem min_cast (j k : Nat) : min (j : Int) (k : Int) = ((min j k : Nat) : Int) := by omega
theorem max_cast (j k : Nat) : max (j : Int) (k : Int) = ((max j k : Nat) : Int) := by omega
noncomputable def bitV (ns : List Nat) (j k : Nat) : Int := (((ns.getD (max j k) 0 : Nat) : Int).fdiv ((2 : Int) ^ (8 - ((min j k : Nat) : Int)).toNat)).fmod 2
noncomputable def dueB (ns : List Nat) (j k : Nat) : Bool := !decide ((k : Int) = (j : Int)) && (decide (bitV ns j k = 1) == decide ((j : Int) < (k : Int)))
noncomputable def dueL (ns : List Nat) (j : Nat) : List Nat := (List.range 6).filter (dueB ns j)
noncomputable abbrev natsL (f : Nat → List Nat) (i : Nat) : List D := (List.range i).map fun j => natsD (f j)
theorem lts_nats {f : Nat → List Nat} {i : Nat} : D.lts 0 (natsL f i) = true := lts_map fun z_ z_ => natsD_lt
theorem rg_at {f : Nat → D} {i j : Nat} (h : j < i) : ItOk B st (.lst ((List.range i).map f)) (.int (j : Int)) (f j) := rg_im h
theorem beaten_ok (L : LawB B) (T : LawT B) {ns : List Nat} (hn : ns.length = 6) : FnG B (k + 4) "_law_beaten" [natsD ns] [] st (.lst (natsL (dueL ns) 6)) st := by
  refine fn_pure (vars := [("numbers", natsD ns)]) T.beaten rfl (by rfl) (by
    show ((D.lt 0 (natsD ns) && true) && true) = true
    rw [natsD_lt]; rfl) ?_
  apply ru_cons
  apply rx_grow growNames (ds := []) (st' := [])
  · decide +kernel
  · decide +kernel
  · walk_at "go"
  · exact short rfl
  apply kt_next
  apply ru_cons
  show Rx _ _ _ (setVar _ _ (.ref 0)) _ [.lst []] _
  refine rx_each (l := List.range 6) (g := fun (i : Nat) => .int i) (st₁ := [.lst []]) (fun i v s => s = [.lst (natsL (dueL ns) i)] ∧ Has v "numbers" (natsD ns) ∧ Has v "due" (.ref 0)) (by walk_at "go") ⟨rfl, by walk_at "lk", by walk_at "lk"⟩ ?_ ?_
  · rintro k' a v s hd ⟨rfl, hnn, hs⟩
    obtain ⟨ha, rfl⟩ := range_at hd
    refine ⟨_, .name (by decide +kernel), ?_⟩
    apply ru_cons
    apply rx_map (l := List.range 6) (g := fun (i : Nat) => .int i) (f := fun j => .int (bitV ns a j)) (lk := none) (st₁ := [.lst (natsL (dueL ns) a)])
    · decide +kernel
    · decide +kernel
    · walk_at "go"
    · intro j hj
      have hj := List.mem_range.mp hj
      have hmn : min a j < 6 := by omega
      have hmx : max a j < 6 := by omega
      obtain ⟨p1, p2⟩ := pw_facts (min a j) hmn
      refine ⟨_, .name (by decide +kernel), ?_⟩
      unfold bitV
      apply ev_bin
      · apply ev_bin (a := .int (ns.getD (max a j) 0 : Nat)) (b := .int ((2 : Int) ^ (8 - ((min a j : Nat) : Int)).toNat))
        · apply ev_item (b := .int ((max a j : Nat) : Int))
          · walk_at "go"
          · rw [← max_cast]
            apply ev_call (ds := [.int a, .int j])
            · decide +kernel
            · walk_at "go"
            · walk_at "go"
            · apply fn_builtin bb_max (by decide) (L.none _ (by decide))
              exact max2_ok
          · exact natD_im hn hmx
          · intro z_ z_; exact ⟨_, rfl⟩
        · have q1 : (0 : Int) ≤ 8 - ((min a j : Nat) : Int) := by omega
          have q2 : (8 : Int) - ((min a j : Nat) : Int) ≤ 64 := by omega
          apply ev_bin (a := .int 2) (b := .int (8 - ((min a j : Nat) : Int)))
          · walk_at "go"
          · apply ev_bin (a := .int 8) (b := .int ((min a j : Nat) : Int))
            · walk_at "go"
            · rw [← min_cast]
              apply ev_call (ds := [.int a, .int j])
              · decide +kernel
              · walk_at "go"
              · walk_at "go"
              · apply fn_builtin bb_min (by decide) (L.none _ (by decide))
                exact min2_ok
            · walk_at "op"
          · exact op_pow q1 q2 (by decide)
        · exact op_div p1 p2
      · walk_at "go"
      · walk_at "op"
    · decide
    apply kt_next
    apply ru_cons
    have hst : (natsL (dueL ns) a).length < LIM := by rw [List.length_map, List.length_range]; exact Nat.lt_trans ha (by decide)
    apply rx_expr (st' := [.lst (natsL (dueL ns) a ++ [natsD (dueL ns a)])])
    · apply ev_meth (ds := [natsD (dueL ns a)]) (st₁ := [.lst (natsL (dueL ns) a)])
      · decide +kernel
      · walk_at "go"
      · refine es_cons (st₁ := [.lst (natsL (dueL ns) a)]) rfl ?_ es_nil
        apply ev_filter (l := List.range 6) (g := fun (i : Nat) => .int i) (f := fun (i : Nat) => .int i) (pr := dueB ns a) (lk := none)
        · decide +kernel
        · walk_at "go"
        · intro j hj
          have hj := List.mem_range.mp hj
          refine ⟨_, .name (by decide +kernel), tl_one ?_, fun z_ => ?_⟩
          · unfold dueB
            apply te_and2
            · apply te_cmp (a := .int (j : Int)) (b := .int (a : Int))
              · walk_at "go"
              · walk_at "go"
              · exact cp_ne_int
              · rfl
            · apply te_cmp (a := .bool (decide (bitV ns a j = 1))) (b := .bool (decide ((a : Int) < (j : Int))))
              · apply ev_cmp (a := .int (bitV ns a j)) (b := .int 1)
                · apply ev_item (b := .int (j : Int))
                  · walk_at "go"
                  · walk_at "go"
                  · exact rg_at (f := fun j => .int (bitV ns a j)) hj
                  · intro z_ z_; exact ⟨_, rfl⟩
                · walk_at "go"
                · exact cp_eq_int
                · rfl
              · apply ev_cmp (a := .int (j : Int)) (b := .int (a : Int))
                · walk_at "go"
                · walk_at "go"
                · exact cp_gt
                · rfl
              · exact cp_eq_bool
              · rfl
          · walk_at "go"
        · decide
      · walk_at "go"
      · exact app_meth (n := 0) rfl rfl hst
    · intro z_ z_ z_; rfl
    apply kt_next
    apply ru_nil
    refine ⟨rfl, ?_, by walk_at "lk", by walk_at "lk"⟩
    unfold natsL
    rw [List.range_succ, List.map_append]; rfl
  · rintro v s ⟨rfl, hnn, hs⟩
    apply kt_next
    apply ru_cons
    apply rx_ret (d := .ref 0)
    · walk_at "go"
    · refine .lst (Nat.zero_le _) ?_ lts_nats
      show some (Mo.lst _) = some (Mo.lst _)
      rw [List.length_range]

noncomputable def pw8 (j : Nat) : Int := (2 : Int) ^ (8 - (j : Int)).toNat
noncomputable def modeR (n : Int) (fs : List Nat) : Int := n.fdiv 512 * 512 + (fs.map pw8).sum + n.fmod 8
theorem row_ok (L : LawB B) (T : LawT B) {n : Int} {fs : List Nat} (h6 : ∀ j ∈ fs, j < 6) (hl : fs.length ≤ 6) : FnG B (k + 6) "_law_row" [.int n, natsD fs] [] st (.str (filemodeL (modeR n fs))) st := by
  refine fn_pure (vars := [("number", .int n), ("files", natsD fs)]) T.row rfl (by rfl) (by
    show ((true && (D.lt 0 (natsD fs) && true)) && true) = true
    rw [natsD_lt]; rfl) ?_
  apply ru_cons
  apply rx_ret (d := .str (filemodeL (modeR n fs)))
  · apply ev_call (ds := [.int (modeR n fs)])
    · decide +kernel
    · refine es_cons (st₁ := []) rfl ?_ es_nil
      unfold modeR
      apply ev_bin
      · apply ev_bin
        · walk_at "go"
        · apply ev_call (ds := [.lst (fs.map fun j => .int (pw8 j))])
          · decide +kernel
          · refine es_cons (st₁ := []) rfl ?_ es_nil
            apply ev_map (l := fs) (g := fun (j : Nat) => .int j) (f := fun j => .int (pw8 j)) (lk := none)
            · decide +kernel
            · walk_at "go"
            · intro j hj
              have hj := h6 j hj
              have q1 : (0 : Int) ≤ 8 - (j : Int) := by omega
              have q2 : (8 : Int) - (j : Int) ≤ 64 := by omega
              refine ⟨_, .name (by decide +kernel), ?_⟩
              unfold pw8
              walk_at "go"
            · exact le_lim (by omega)
          · walk_at "go"
          · apply fn_builtin bb_sum (by decide) (L.none _ (by decide))
            exact sum_map
        · walk_at "op"
      · walk_at "go"
      · walk_at "op"
    · walk_at "go"
    · exact filemode_ok (k := k) L
  · exact .flat rfl
end
section
variable {B : Base} {k n : Nat} {st st₀ : Sto}

noncomputable def kT : Nat → Tk
  | 0 => .q
  | 1 => .c 114
  | 2 => .c 119
  | _ => .set [120, 115]
noncomputable def pcJ (j : Nat) : Nat := [1, 2, 3, 1, 2, 3].getD j 0
noncomputable def pN (files : List Nat) (j : Nat) : Nat := if files.contains j then pcJ j else 0
noncomputable def psN (files : List Nat) : List Nat := 0 :: rstL 0 ((List.range 6).map (pN files))
theorem noTwo_of : ∀ {ts : List Tk}, ts.all (fun t => !t.isStar) = true → noTwo (ts ++ [Tk.star]) = true
  | [], _ => rfl
  | [a], h => by
    rw [List.all_cons, Bool.and_eq_true] at h
    have : a.isStar = false := by simpa using h.1
    show (!(a.isStar && Tk.star.isStar) && noTwo [Tk.star]) = true
    rw [this]; rfl
  | a :: b :: r, h => by
    rw [List.all_cons, Bool.and_eq_true] at h
    show (!(a.isStar && b.isStar) && noTwo (b :: (r ++ [Tk.star]))) = true
    rw [show b :: (r ++ [Tk.star]) = (b :: r) ++ [Tk.star] from rfl, noTwo_of h.2]
    have : a.isStar = false := by simpa using h.1
    rw [this]; rfl
theorem kT_ok (p : Nat) : (kT p).ok = true ∧ (!(kT p).isStar) = true ∧ (kT p).txt.length ≤ 6 ∧ (kT p).outL.length ≤ 6 := by
  unfold kT
  split <;> exact ⟨by decide +kernel, rfl, by decide, by decide +kernel⟩
theorem flat_le {α : Type} {f : α → List Nat} {m : Nat} (h : ∀ a, (f a).length ≤ m) : ∀ l : List α, (l.map f).flatten.length ≤ l.length * m
  | [] => Nat.zero_le _
  | a :: l => by
    have := flat_le h l
    have := h a
    rw [List.map_cons, List.flatten_cons, List.length_append, List.length_cons, Nat.succ_mul]; omega

noncomputable def ptx (ps : List Nat) : List Nat := [40, 63, 115, 58] ++ (((ps.map kT).map Tk.outL).flatten ++ [46, 42]) ++ [41, 92, 90]
theorem tr_ps (L : LawB B) {ps : List Nat} (hl : ps.length ≤ 100) : FnG B (k + 6) "translate" [.str (txts (ps.map kT) ++ [42])] [] st (.str (ptx ps)) st := by
  have hs : (ps.map kT).all (fun t => !t.isStar) = true := by
    rw [List.all_map]; exact List.all_eq_true.mpr fun p z_ => (kT_ok p).2.1
  have e1 : txts (ps.map kT ++ [Tk.star]) = txts (ps.map kT) ++ [42] := by unfold txts; rw [List.flatMap_append]; rfl
  have h1 : (txts (ps.map kT)).length ≤ ps.length * 6 := by
    have := flat_le (f := fun p => (kT p).txt) (m := 6) (fun p => (kT_ok p).2.2.1) ps
    unfold txts
    rw [List.flatMap_def, List.map_map]
    exact this
  have h2 : ((ps.map kT).map Tk.outL).flatten.length ≤ ps.length * 6 := by
    have := flat_le (f := fun p => (kT p).outL) (m := 6) (fun p => (kT_ok p).2.2.2) ps
    rw [List.map_map]
    exact this
  have := trans_ok (k := k) (st := st) L (by rw [List.all_map]; exact List.all_eq_true.mpr fun p z_ => (kT_ok p).1) hs (noTwo_of hs) (by rw [e1, List.length_append, List.length_singleton]; omega) (by omega)
  rw [e1] at this
  exact this

theorem rst_same {c : Nat} {w : List Nat} : rstL c (w ++ [c]) = rstL c w := by
  unfold rstL
  rw [List.reverse_append, List.reverse_singleton, List.singleton_append, List.takeWhile_cons, if_pos (by simp), List.length_append, List.length_cons, List.length_cons, List.length_nil, Nat.add_sub_add_right, List.take_append_of_le_length (Nat.sub_le _ _)]
theorem rst_ne {c a : Nat} {w : List Nat} (h : a ≠ c) : rstL c (w ++ [a]) = w ++ [a] := by
  unfold rstL
  rw [List.reverse_append, List.reverse_singleton, List.singleton_append, List.takeWhile_cons, if_neg (by simpa using h), List.length_nil, Nat.sub_zero, List.take_length]
theorem txt_end : ∀ p : Nat, p ≠ 0 → ∃ u z, (kT p).txt = u ++ [z] ∧ z ≠ 63
  | 0, h => absurd rfl h
  | 1, _ => ⟨[], 114, rfl, by decide⟩
  | 2, _ => ⟨[], 119, rfl, by decide⟩
  | _ + 3, _ => ⟨[91, 120, 115], 93, rfl, by decide⟩
theorem rst_txts (r : List Nat) : rstL 63 (txts (r.reverse.map kT)) = txts ((rstL 0 r.reverse).map kT) := by
  induction r with
  | nil => rfl
  | cons p r ih =>
    rw [List.reverse_cons, List.map_append]
    have e : txts (r.reverse.map kT ++ [p].map kT) = txts (r.reverse.map kT) ++ (kT p).txt := by
      unfold txts
      rw [List.flatMap_append]
      show _ ++ ((kT p).txt ++ []) = _
      rw [List.append_nil]
    rw [e]
    by_cases h : p = 0
    · subst h
      rw [rst_same]
      exact (rst_same (c := 63)).trans ih
    · obtain ⟨u, z, e2, hz⟩ := txt_end p h
      rw [rst_ne h, e2, ← List.append_assoc, rst_ne hz, List.append_assoc, ← e2, ← e, ← List.map_append]
theorem rst_txt (l : List Nat) : rstL 63 (txts (l.map kT)) = txts ((rstL 0 l).map kT) := by
  have := rst_txts l.reverse
  rw [List.reverse_reverse] at this
  exact this
theorem rst_le {c : Nat} {w : List Nat} : (rstL c w).length ≤ w.length := by
  unfold rstL
  rw [List.length_take]; omega
theorem psN_len {files : List Nat} : 1 ≤ (psN files).length ∧ (psN files).length ≤ 7 := by
  unfold psN
  rw [List.length_cons]
  have := rst_le (c := 0) (w := (List.range 6).map (pN files))
  rw [List.length_map, List.length_range] at this
  omega
theorem pcJ_lt : ∀ j < 6, pcJ j < 4 := by decide
theorem psN_lt {files : List Nat} : ∀ i, (psN files).getD i 0 < 4 := fun i => by
  have h : ∀ p ∈ psN files, p < 4 := fun p hp => by
    unfold psN rstL at hp
    rcases List.mem_cons.mp hp with rfl | hp
    · exact Nat.succ_pos _
    · obtain ⟨j, hj, rfl⟩ := List.mem_map.mp (List.mem_of_mem_take hp)
      unfold pN
      split
      · exact pcJ_lt j (List.mem_range.mp hj)
      · exact Nat.succ_pos _
  rw [List.getD_eq_getElem?_getD]
  cases hg : (psN files)[i]? with
  | none => exact Nat.succ_pos _
  | some p => exact h p (List.mem_of_getElem? hg)
theorem sg3_im {j : Nat} (h : j < 6) : ItOk B st (.lst [.str [114], .str [119], .str [91, 120, 115, 93]]) (.int ((j % 3 : Nat) : Int)) (.str (kT (pcJ j)).txt) := by
  have := (by decide : ∀ j < 6, j = 0 ∨ j = 1 ∨ j = 2 ∨ j = 3 ∨ j = 4 ∨ j = 5) j h
  rcases this with rfl | rfl | rfl | rfl | rfl | rfl
  · exact im_lst (m := 0) (Items.lst _) rfl rfl
  · exact im_lst (m := 1) (Items.lst _) rfl rfl
  · exact im_lst (m := 2) (Items.lst _) rfl rfl
  · exact im_lst (m := 0) (Items.lst _) rfl rfl
  · exact im_lst (m := 1) (Items.lst _) rfl rfl
  · exact im_lst (m := 2) (Items.lst _) rfl rfl
theorem text_ok (L : LawB B) (T : LawT B) {files : List Nat} : FnG B (k + 8) "_law_text" [natsD files] [] st (.str (ptx (psN files))) st := by
  refine fn_pure (vars := [("files", natsD files)]) T.text rfl (by rfl) (by
    show ((D.lt 0 (natsD files) && true) && true) = true
    rw [natsD_lt]; rfl) ?_
  have e1 : joinS [] ((List.range 6).map fun j => (kT (pN files j)).txt) = txts (((List.range 6).map (pN files)).map kT) := by
    rw [joinS_nil]
    unfold txts
    rw [List.flatMap_def, List.map_map, List.map_map]; rfl
  have hl : (txts (((List.range 6).map (pN files)).map kT)).length ≤ 36 := by
    rw [← e1, joinS_nil]
    exact flat_le (fun j => (kT_ok _).2.2.1) (List.range 6)
  have hl2 : (rstL 63 (txts (((List.range 6).map (pN files)).map kT))).length ≤ 36 := Nat.le_trans rst_le hl
  have e2 : [63] ++ rstL 63 (txts (((List.range 6).map (pN files)).map kT)) ++ [42] = txts ((psN files).map kT) ++ [42] := by
    rw [rst_txt]; rfl
  apply ru_cons
  apply rx_map (l := List.range 6) (g := fun (i : Nat) => .int i) (f := fun j => .str (kT (pN files j)).txt) (lk := none) (st₁ := [])
  · decide +kernel
  · decide +kernel
  · walk_at "go"
  · intro j hj
    have hj := List.mem_range.mp hj
    refine ⟨_, .name (by decide +kernel), ?_⟩
    rw [lockS_none]
    have em : ((j : Nat) : Int).fmod 3 = ((j % 3 : Nat) : Int) := by rw [Int.fmod_eq_emod_of_nonneg _ (by decide)]; omega
    apply ev_if (t := files.contains j) (st₁ := [])
    · apply te_cmp (a := .int (j : Int)) (b := natsD files)
      · walk_at "go"
      · walk_at "go"
      · exact cp_in_ints
      · rfl
    · intro h
      unfold pN
      rw [if_pos h]
      apply ev_item (a := .lst [.str [114], .str [119], .str [91, 120, 115, 93]]) (b := .int ((j % 3 : Nat) : Int))
      · refine ev_list (es_cons rfl (ev_str (by decide +kernel)) (es_cons rfl (ev_str (by decide +kernel)) (es_cons rfl (ev_str (by decide +kernel)) es_nil))) (short rfl)
      · rw [← em]
        walk_at "go"
      · exact sg3_im hj
      · intro z_ z_; exact ⟨_, rfl⟩
    · intro h
      unfold pN
      rw [if_neg (by rw [h]; exact Bool.false_ne_true)]
      exact ev_str (by decide +kernel)
  · decide
  apply kt_next
  apply ru_cons
  apply rx_ret (d := .str (ptx (psN files)))
  · apply ev_call (ds := [.str (txts ((psN files).map kT) ++ [42])])
    · decide +kernel
    · refine es_cons (st₁ := []) rfl ?_ es_nil
      rw [← e2]
      apply ev_bin
      · apply ev_bin (a := .str [63]) (b := .str (rstL 63 (txts (((List.range 6).map (pN files)).map kT))))
        · exact ev_str (by decide +kernel)
        · apply ev_meth (ds := [.str [63]]) (a := .str (txts (((List.range 6).map (pN files)).map kT)))
          · decide +kernel
          · apply ev_meth (ds := [.lst ((List.range 6).map fun j => .str (kT (pN files j)).txt)])
            · decide +kernel
            · walk_at "go"
            · walk_at "go"
            · walk_at "go"
            · have := join_ok' (B := B) (k := k + 6) (st := []) (st₀ := []) (w := []) (Items.lst ((List.range 6).map fun j => D.str (kT (pN files j)).txt)) StrL.map (by rw [e1]; exact le_lim (by omega))
              rw [e1] at this
              exact this
          · exact es_cons rfl (ev_str (by decide +kernel)) es_nil
          · walk_at "go"
          · exact rst_ok
        · exact op_cat (x := [63]) (le_lim (by rw [List.length_append]; show 1 + _ ≤ _; omega))
      · exact ev_str (by decide +kernel)
      · exact op_cat (y := [42]) (le_lim (by simp only [List.length_append, List.length_cons, List.length_nil]; omega))
    · walk_at "go"
    · exact tr_ps L (by have := (psN_len (files := files)).2; omega)
  · exact .flat rfl
noncomputable def fitT (p c : Nat) : Bool := if p = 0 then true else decide (c ∈ (kT p).outL)
noncomputable def takesB (ps w : List Nat) : Bool := (List.range ps.length).all fun j => fitT (ps.getD j 0) (w.getD j 0)
noncomputable def restL (ps : List Nat) (j : Nat) : List Nat := (((ps.drop j).map kT).map Tk.outL).flatten
theorem restL_len {ps : List Nat} {j : Nat} : (restL ps j).length ≤ (ps.length - j) * 6 := by
  unfold restL
  rw [List.map_map]
  have := flat_le (f := Tk.outL ∘ kT) (m := 6) (fun p => (kT_ok p).2.2.2) (ps.drop j)
  rw [List.length_drop] at this
  exact this
theorem restL_at {ps : List Nat} {j : Nat} (h : j < ps.length) : restL ps j = (kT (ps.getD j 0)).outL ++ restL ps (j + 1) := by
  unfold restL
  rw [List.drop_eq_getElem_cons h, List.getD_eq_getElem?_getD, List.getElem?_eq_getElem h]; rfl
theorem restL_end {ps : List Nat} : restL ps ps.length = [] := by unfold restL; rw [List.drop_length]; rfl
theorem clip_neg {n m : Nat} {i : Int} (hi : i < 0) (h : (m : Int) = i + n) : clipAt n i = m := by
  have := clipAt_cast n i
  rw [if_pos hi] at this
  omega
theorem cut_in {x y z : List Nat} {i j : Int} (hi : i = x.length) (hj : j < 0) (hz : j = - (z.length : Int)) : cutI (x ++ (y ++ z)) (some i) (some j) = y := by
  subst hi hz
  show (List.drop (clipAt _ (x.length : Int)) _).take (clipAt _ (-(z.length : Int)) - clipAt _ (x.length : Int)) = _
  have h1 : (x ++ (y ++ z)).length = x.length + (y.length + z.length) := by rw [List.length_append, List.length_append]
  rw [clip_neg (m := x.length + y.length) hj (by rw [h1]; push_cast; omega), clip_le, Nat.min_eq_left (by rw [h1]; omega), List.drop_left, show x.length + y.length - x.length = y.length by omega, List.take_left]
theorem ptx_eq {ps : List Nat} : ptx ps = [40, 63, 115, 58] ++ (restL ps 0 ++ [46, 42, 41, 92, 90]) := by
  unfold ptx restL
  rw [List.drop_zero, List.append_assoc, List.append_assoc]; rfl
theorem ev_cut {sc : Scope} {v : Vars} {o : Expr} {p pos : Pos} {x y : Option Expr} {lo hi : Option Int} {w u : List Nat} (h : Ev B k sc v o st (.str w) st) (h1 : optEv B k sc v st lo st x) (h2 : optEv B k sc v st hi st y) (e : cutI w lo hi = u) : Ev B k sc v (.Subscript o (.Slice x y none p) pos) st (.str u) st := e ▸ ev_slice h h1 h2 sl_str
theorem dot_ok : ∀ p < 4, decide ((kT p).outL = [46]) = decide (p = 0) := by decide +kernel
theorem out_head : ∀ p < 4, ∃ r0 o, (kT p).outL = r0 :: o ∧ ∀ R, (if r0 = 91 then fnd (r0 :: (o ++ R)) 93 + 1 else 1) = (((kT p).outL.length : Nat) : Int) := fun p hp => by
  have : p = 0 ∨ p = 1 ∨ p = 2 ∨ p = 3 := by omega
  rcases this with rfl | rfl | rfl | rfl
  · exact ⟨46, [], rfl, fun R => rfl⟩
  · exact ⟨114, [], rfl, fun R => rfl⟩
  · exact ⟨119, [], rfl, fun R => rfl⟩
  · refine ⟨91, [120, 115, 93], rfl, fun R => ?_⟩
    rw [if_pos rfl]
    show fnd (91 :: 120 :: 115 :: 93 :: R) 93 + 1 = 4
    unfold fnd
    rw [if_pos (by simp)]
    simp [List.idxOf_cons]
theorem takes_ok (L : LawB B) (T : LawT B) {ps w : List Nat} {m : Nat} (hl : ps.length = m) (hm : m ≤ 7) (hp : ∀ j, ps.getD j 0 < 4) (hw : w.length = 10) : FnG B (k + 2) "_law_takes" [.str (ptx ps), .str w] [] st (.bool (takesB ps w)) st := by
  refine fn_pure (vars := [("text", .str (ptx ps)), ("row", .str w)]) T.takes rfl (by rfl) rfl ?_
  have hr0 : (restL ps 0).length ≤ 42 := by have := restL_len (ps := ps) (j := 0); rw [hl] at this; omega
  have hcut : cutI (ptx ps) (some 4) (some (-5)) = restL ps 0 := by rw [ptx_eq]; exact cut_in rfl (by decide) rfl
  have hrend : restL ps m = [] := by rw [← hl]; exact restL_end
  have hrat := fun j (hj : j < m) => restL_at (ps := ps) (j := j) (by rw [hl]; exact hj)
  have r2 : ptx ps = [40, 63, 115, 58] ++ restL ps 0 ++ [46, 42, 41, 92, 90] := by rw [ptx_eq, List.append_assoc]
  apply ru_cons
  apply rx_swap2 (x := "rest") (y := "place") (d := .str (restL ps 0)) (e := .int 0) (st' := [])
  · decide +kernel
  · refine es_cons rfl (ev_cut (lo := some 4) (hi := some (-5)) ?_ ?_ ?_ hcut) (es_cons rfl ev_int es_nil)
    · walk_at "go"
    · walk_at "go"
    · walk_at "go"
  apply kt_next
  apply ru_cons
  apply rx_iff (t := !decide (ptx ps = [40, 63, 115, 58] ++ restL ps 0 ++ [46, 42, 41, 92, 90]))
  · apply te_cmp
    · walk_at "go"
    · apply ev_bin
      · apply ev_bin
        · walk_at "go"
        · walk_at "go"
        · exact op_cat (x := [40, 63, 115, 58]) (le_lim (by simp only [List.length_append, List.length_cons, List.length_nil]; omega))
      · walk_at "go"
      · exact op_cat (y := [46, 42, 41, 92, 90]) (le_lim (by simp only [List.length_append, List.length_cons, List.length_nil]; omega))
    · exact cp_ne_str
    · rfl
  · rw [decide_eq_true r2]; rfl
  apply ru_nil
  apply kt_next
  apply ru_cons
  refine rx_while (fun n v st => ∃ j, n + j = m ∧ st = [] ∧ Has v "row" (.str w) ∧ Has v "rest" (.str (restL ps j)) ∧ Has v "place" (.int j) ∧ ((List.range j).all fun j => fitT (ps.getD j 0) (w.getD j 0)) = true) m ⟨0, rfl, rfl, by walk_at "lk", by walk_at "lk", (by show Has _ _ (.int 0); walk_at "lk"), rfl⟩ ?_
  rintro n v st ⟨j, hn, rfl, hv1, hv2, hv3, hall⟩
  by_cases hj : j < m
  · have hpj := hp j
    have hdot := dot_ok _ hpj
    obtain ⟨r0, o, ho, hsz⟩ := out_head _ hpj
    have hR := hrat j hj
    have hsucc : ((List.range (j + 1)).all fun j => fitT (ps.getD j 0) (w.getD j 0)) = fitT (ps.getD j 0) (w.getD j 0) := by
      rw [List.range_succ, List.all_append, hall]; simp
    have hcut1 : cutI (restL ps j) none (some (((kT (ps.getD j 0)).outL.length : Nat) : Int)) = (kT (ps.getD j 0)).outL := by rw [cut_take, hR, List.take_left]
    have hcut2 : cutI (restL ps j) (some (((kT (ps.getD j 0)).outL.length : Nat) : Int)) none = restL ps (j + 1) := by rw [cut_drop, hR, List.drop_left]
    have hsz' := hsz (restL ps (j + 1))
    have hR' : restL ps j = r0 :: (o ++ restL ps (j + 1)) := by rw [hR, ho]; rfl
    refine ⟨true, [], ?_, fun q => (by cases q), fun z_ => ?_⟩
    · have e : (true : Bool) = !decide (restL ps j = []) := by rw [hR', decide_eq_false (by simp)]; rfl
      rw [e]
      apply te_cmp (a := .str (restL ps j)) (b := .str [])
      · walk_at "go"
      · exact ev_str (by decide +kernel)
      · exact cp_ne_str
      · rfl
    · rw [hR'] at hv2 hcut1 hcut2
      generalize hz : (kT (ps.getD j 0)).outL.length = z at *
      apply ru_cons
      apply rx_set (d := .int (z : Int))
      · decide +kernel
      · rw [← hsz']
        apply ev_if (t := decide ([r0] = [91]))
        · apply te_cmp
          · apply ev_item
            · walk_at "go"
            · walk_at "go"
            · exact im_str (l := r0 :: (o ++ restL ps (j + 1))) (m := 0) (c := r0) (ix_at (m := 0) (Nat.succ_pos _) rfl) rfl
            · intro z_ z_; exact ⟨_, rfl⟩
          · exact ev_str (by decide +kernel)
          · exact cp_eq_str
          · rfl
        · intro h
          rw [if_pos (by simpa using of_decide_eq_true h)]
          apply ev_bin (a := .int (fnd (r0 :: (o ++ restL ps (j + 1))) 93)) (b := .int 1)
          · apply ev_meth (ds := [.str [93]])
            · decide +kernel
            · walk_at "go"
            · exact es_cons rfl (ev_str (by decide +kernel)) es_nil
            · walk_at "go"
            · exact find_ok
          · walk_at "go"
          · walk_at "op"
        · intro h
          rw [if_neg (by simpa using of_decide_eq_false h)]
          walk_at "go"
      · intro z_ z_ z_; rfl
      apply kt_next
      apply ru_cons
      apply rx_if (t := !fitT (ps.getD j 0) (w.getD j 0))
      · have e1 : (!fitT (ps.getD j 0) (w.getD j 0)) = (!decide (ps.getD j 0 = 0) && !decide (w.getD j 0 ∈ (kT (ps.getD j 0)).outL)) := by
          unfold fitT
          by_cases h : ps.getD j 0 = 0
          · rw [if_pos h, decide_eq_true h]; rfl
          · rw [if_neg h, decide_eq_false h]; simp
        rw [e1, ← hdot]
        apply te_and2
        · apply te_cmp (a := .str (kT (ps.getD j 0)).outL) (b := .str [46])
          · exact ev_cut (lo := none) (hi := some (z : Int)) (by walk_at "go") (by walk_at "go") (by walk_at "go") hcut1
          · exact ev_str (by decide +kernel)
          · exact cp_ne_str
          · rfl
        · apply te_cmp (a := .str [w.getD j 0]) (b := .str (kT (ps.getD j 0)).outL)
          · apply ev_item
            · walk_at "go"
            · walk_at "go"
            · exact im_str (l := w) (m := j) (c := w.getD j 0) (ix_ok (by rw [hw]; omega)) (getD_some (by rw [hw]; omega))
            · intro z_ z_; exact ⟨_, rfl⟩
          · exact ev_cut (lo := none) (hi := some (z : Int)) (by walk_at "go") (by walk_at "go") (by walk_at "go") hcut1
          · exact cp_notin
          · rfl
      · intro h
        apply ru_cons
        apply rx_ret (d := .bool (takesB ps w))
        · have e : takesB ps w = false := by
            unfold takesB
            rw [List.all_eq_false]
            exact ⟨j, by rw [List.mem_range, hl]; exact hj, by simpa using h⟩
          rw [e]
          walk_at "go"
        · exact .flat rfl
      · intro h
        apply ru_nil
        apply kt_next
        apply ru_cons
        apply rx_swap2 (x := "rest") (y := "place") (d := .str (restL ps (j + 1))) (e := .int ((j : Int) + 1)) (st' := [])
        · decide +kernel
        · refine es_cons (st₁ := []) rfl (ev_cut (lo := some (z : Int)) (hi := none) (by walk_at "go") (by walk_at "go") (by walk_at "go") hcut2) (es_cons (st₁ := []) rfl ?_ es_nil)
          walk_at "go"
        apply kt_next
        apply ru_nil
        refine ⟨n - 1, by omega, j + 1, by omega, rfl, by walk_at "lk", by walk_at "lk", (by show Has _ _ (.int ((j : Int) + 1)); walk_at "lk"), ?_⟩
        rw [hsucc]; simpa using h
  · have e : j = m := by omega
    subst e
    refine ⟨!decide (restL ps j = []), [], ?_, fun z_ => ?_, fun q => (by rw [hrend] at q; cases q)⟩
    · apply te_cmp (a := .str (restL ps j)) (b := .str [])
      · walk_at "go"
      · exact ev_str (by decide +kernel)
      · exact cp_ne_str
      · rfl
    · apply kt_next
      apply ru_cons
      have e : takesB ps w = true := by unfold takesB; rw [hl]; exact hall
      rw [e]
      apply rx_ret (d := .bool true)
      · walk_at "go"
      · exact .flat rfl
end
section
variable {B : Base} {k n : Nat} {st st₀ : Sto}

noncomputable abbrev duR (d : Nat → Nat → Int) (x : Nat) : D := .lst ((List.range 6).map fun y => .int (d x y))
noncomputable abbrev duD (d : Nat → Nat → Int) : D := .lst ((List.range 6).map (duR d))
theorem duD_lt {d : Nat → Nat → Int} : (duD d).lt 0 = true := (lts_map fun z_ z_ => lts_map fun z_ z_ => rfl : D.lts 0 ((List.range 6).map (duR d)) = true)
theorem ev_du {sc : Scope} {v : Vars} {d : Nat → Nat → Int} {e₁ e₂ e₃ : Expr} {p q : Pos} {x y : Nat} (h1 : Ev B k sc v e₁ st (duD d) st) (h2 : Ev B k sc v e₂ st (.int x) st) (h3 : Ev B k sc v e₃ st (.int y) st) (hx : x < 6) (hy : y < 6)
    (h4 : ∀ o' i', ∃ vs, subscripted e₂ false o' i' = operate vs (getItem o' i')) (h5 : ∀ o' i', ∃ vs, subscripted e₃ false o' i' = operate vs (getItem o' i')) : Ev B k sc v (.Subscript (.Subscript e₁ e₂ p) e₃ q) st (.int (d x y)) st :=
  ev_item (ev_item h1 h2 (rg_at (f := duR d) hx) h4) h3 (rg_at (f := fun y => .int (d x y)) hy) h5
theorem told_ok (L : LawB B) (T : LawT B) {d : Nat → Nat → Int} (hb : ∀ x y, (d x y).natAbs ≤ 1) {l : List Nat} (h6 : ∀ x ∈ l, x < 6) (hl : l.length = 0 ∨ l.length = 2 ∨ l.length = 4) : FnG B (k + 2) "_law_told" [duD d, natsD l] [] st (.int (toldI d l)) st := by
  refine fn_pure (vars := [("duels", duD d), ("files", natsD l)]) T.told rfl (by rfl) (by
    show ((D.lt 0 (duD d) && (D.lt 0 (natsD l) && true)) && true) = true
    rw [natsD_lt, duD_lt]; rfl) ?_
  have hlen : ∀ {kk : Nat} {σ : Sto}, CallOk B kk (.builtin "len") [natsD l] [] σ (.int (l.length : Nat)) σ := fun {kk σ} => by
    have := len_lst_ok (B := B) (k := kk) (st := σ) (Items.lst (l.map fun (i : Nat) => D.int i))
    rw [List.length_map] at this
    exact this
  apply ru_cons
  apply rx_if (t := decide ((l.length : Int) < 4)) (st' := [])
  · apply te_cmp (a := .int (l.length : Nat)) (b := .int 4)
    · apply ev_call (ds := [natsD l])
      · decide +kernel
      · walk_at "go"
      · walk_at "go"
      · apply fn_builtin bb_len (by decide) (L.none _ (by decide))
        exact hlen
    · walk_at "go"
    · exact cp_lt
    · rfl
  · intro h
    have h := of_decide_eq_true h
    apply ru_cons
    apply rx_ret (d := .int (toldI d l))
    · unfold toldI
      rw [if_pos (by omega)]
      apply ev_if (t := !l.isEmpty) (st₁ := [])
      · rw [← List.isEmpty_map (f := fun (i : Nat) => D.int i)]
        apply te_cmp (a := natsD l) (b := .lst [])
        · walk_at "go"
        · walk_at "go"
        · exact cp_ne_nil ok_ints
        · rfl
      · intro h0
        have h0 : l ≠ [] := by intro e; subst e; cases h0
        have h2 : l.length = 2 := by
          have := List.length_pos_iff.mpr h0
          omega
        rw [if_neg h0]
        refine ev_du (e₂ := _) (x := l.getD 0 0) (y := l.getD 1 0) ?_ ?_ ?_ ?_ ?_ ?_ ?_
        · walk_at "go"
        · apply ev_item
          · walk_at "go"
          · walk_at "go"
          · exact natD_im (a := 0) h2 (by decide)
          · intro z_ z_; exact ⟨_, rfl⟩
        · apply ev_item
          · walk_at "go"
          · walk_at "go"
          · exact natD_im (a := 1) h2 (by decide)
          · intro z_ z_; exact ⟨_, rfl⟩
        · exact h6 _ (by rw [List.getD_eq_getElem?_getD, List.getElem?_eq_getElem (show 0 < l.length by omega)]; exact List.getElem_mem _)
        · exact h6 _ (by rw [List.getD_eq_getElem?_getD, List.getElem?_eq_getElem (show 1 < l.length by omega)]; exact List.getElem_mem _)
        · intro z_ z_; exact ⟨_, rfl⟩
        · intro z_ z_; exact ⟨_, rfl⟩
      · intro h0
        have h0 : l = [] := by cases l with | nil => rfl | cons => cases h0
        rw [if_pos h0]
        walk_at "go"
    · exact .flat rfl
  · intro h
    have h := of_decide_eq_false h
    have h4 : l.length = 4 := by omega
    obtain ⟨p, r1_, rfl, hq0_⟩ := lcons h4
    obtain ⟨q, r2_, rfl, hq1_⟩ := lcons hq0_
    obtain ⟨r, r3_, rfl, hq2_⟩ := lcons hq1_
    obtain ⟨s, r4_, rfl, hq3_⟩ := lcons hq2_
    obtain rfl := List.length_eq_zero_iff.mp hq3_
    have hp := h6 p (by simp)
    have hq := h6 q (by simp)
    have hr := h6 r (by simp)
    have hs := h6 s (by simp)
    apply ru_nil
    apply kt_next
    apply ru_cons
    refine rx_unpL (ds := [.int p, .int q, .int r, .int s]) (st' := []) (fun z_ z_ => rfl) (fun z_ => rfl) (ev_var (by decide +kernel) (show Has _ _ (natsD [p, q, r, s]) by walk_at "lk")) (.cons ?_ (.cons ?_ (.cons ?_ (.cons ?_ (.nil _))))) ?_
    · decide +kernel
    · decide +kernel
    · decide +kernel
    · decide +kernel
    apply kt_next
    apply ru_cons
    apply rx_ret (d := .int (d p q * d r s - d p r * d q s + d p s * d q r))
    · have hm : ∀ (x y x' y' : Nat), OpOk B .Mult [] (.int (d x y)) (.int (d x' y')) (.int (d x y * d x' y')) := fun x y x' y' => op_mul (.inl (by have := hb x' y'; omega))
      apply ev_bin
      · apply ev_bin
        · apply ev_bin (a := .int (d p q)) (b := .int (d r s)) (st₁ := [])
          · exact ev_du (by walk_at "go") (by walk_at "go") (by walk_at "go") hp hq (fun z_ z_ => ⟨_, rfl⟩) fun z_ z_ => ⟨_, rfl⟩
          · exact ev_du (by walk_at "go") (by walk_at "go") (by walk_at "go") hr hs (fun z_ z_ => ⟨_, rfl⟩) fun z_ z_ => ⟨_, rfl⟩
          · exact hm _ _ _ _
        · apply ev_bin (a := .int (d p r)) (b := .int (d q s)) (st₁ := [])
          · exact ev_du (by walk_at "go") (by walk_at "go") (by walk_at "go") hp hr (fun z_ z_ => ⟨_, rfl⟩) fun z_ z_ => ⟨_, rfl⟩
          · exact ev_du (by walk_at "go") (by walk_at "go") (by walk_at "go") hq hs (fun z_ z_ => ⟨_, rfl⟩) fun z_ z_ => ⟨_, rfl⟩
          · exact hm _ _ _ _
        · walk_at "op"
      · apply ev_bin (a := .int (d p s)) (b := .int (d q r)) (st₁ := [])
        · exact ev_du (by walk_at "go") (by walk_at "go") (by walk_at "go") hp hs (fun z_ z_ => ⟨_, rfl⟩) fun z_ z_ => ⟨_, rfl⟩
        · exact ev_du (by walk_at "go") (by walk_at "go") (by walk_at "go") hq hr (fun z_ z_ => ⟨_, rfl⟩) fun z_ z_ => ⟨_, rfl⟩
        · exact hm _ _ _ _
      · walk_at "op"
    · exact .flat rfl

theorem max_is {l : List Int} (h : l ≠ []) : CallOk B k (.builtin "max") [.lst (l.map .int)] [] st (.int (mxI l)) st := max_ok (Items.lst _) (mx_facts l h).1 (mx_facts l h).2
theorem min_is {l : List Int} (h : l ≠ []) : CallOk B k (.builtin "min") [.lst (l.map .int)] [] st (.int (mnI l)) st := min_ok (Items.lst _) (mn_facts l h).1 (mn_facts l h).2
theorem neg_pw : ∀ i < 6, ((-1 : Int) ^ i).natAbs < 1073741824 := by decide
theorem w0_ne {d : Nat → Nat → Int} {S : List Nat} (hS : S ∈ setsL) : w0I d S ≠ [] := range_ne (List.length_pos_iff.mpr (rm_ok S hS).2.1)
theorem ws_len {d : Nat → Nat → Int} {S : List Nat} : (wsI d S).length = S.length := by
  unfold wsI w0I
  split <;> simp
theorem ws_ne {d : Nat → Nat → Int} {S : List Nat} (hS : S ∈ setsL) : wsI d S ≠ [] := by
  intro e
  have := ws_len (d := d) (S := S)
  rw [e] at this
  exact (rm_ok S hS).2.1 (List.length_eq_zero_iff.mp this.symm)
theorem weights_ok (L : LawB B) (T : LawT B) {d : Nat → Nat → Int} (hb : ∀ x y, (d x y).natAbs ≤ 1) {S : List Nat} (hS : S ∈ setsL) : FnG B (k + 4) "_law_weights" [duD d, natsD S] [] st (.lst ((wsI d S).map .int)) st := by
  refine fn_pure (vars := [("duels", duD d), ("files", natsD S)]) T.weights rfl (by rfl) (by
    show ((D.lt 0 (duD d) && (D.lt 0 (natsD S) && true)) && true) = true
    rw [natsD_lt, duD_lt]; rfl) ?_
  obtain ⟨h5, h0, ho, _, hr⟩ := rm_ok S hS
  have h6 := sets6 S hS
  have hw : (D.lst ((List.range S.length).map fun i => .int ((-1 : Int) ^ i * toldI d (rmL S i)))) = .lst ((w0I d S).map .int) := by
    unfold w0I
    rw [List.map_map]; rfl
  apply ru_cons
  apply rx_map (l := List.range S.length) (g := fun (i : Nat) => .int i) (f := fun i => .int ((-1 : Int) ^ i * toldI d (rmL S i))) (lk := none) (st₁ := [])
  · decide +kernel
  · decide +kernel
  · apply it_rng (b := (S.length : Int))
    · decide +kernel
    · exact L.none _ (by decide)
    · rfl
    · apply ev_call (ds := [natsD S])
      · decide +kernel
      · walk_at "go"
      · walk_at "go"
      · apply fn_builtin bb_len (by decide) (L.none _ (by decide))
        have := len_lst_ok (B := B) (k := k + 2) (st := []) (Items.lst (S.map fun (i : Nat) => D.int i))
        rw [List.length_map] at this
        exact this
    · exact le_lim (by omega)
    · exact Int.toNat_natCast _
  · intro i hi
    have hi := List.mem_range.mp hi
    obtain ⟨r1, r2⟩ := hr i hi
    have q1 : (0 : Int) ≤ (i : Int) := Int.natCast_nonneg _
    have q2 : (i : Int) ≤ 64 := by omega
    have er : natsD (rmL S i) = .lst ((S.map fun (j : Nat) => D.int j).take i ++ (S.map fun (j : Nat) => D.int j).drop (i + 1)) := by
      unfold natsD rmL
      rw [List.map_append, List.map_take, List.map_drop]
    refine ⟨_, .name (by decide +kernel), ?_⟩
    rw [lockS_none]
    apply ev_bin (a := .int ((-1 : Int) ^ i)) (b := .int (toldI d (rmL S i))) (st₁ := [])
    · show Ev _ _ _ _ _ _ (.int ((-1 : Int) ^ ((i : Int)).toNat)) _
      apply ev_bin
      · walk_at "go"
      · walk_at "go"
      · exact op_pow q1 q2 (by decide)
    · apply ev_call (ds := [duD d, natsD (rmL S i)])
      · decide +kernel
      · refine es_cons (st₁ := []) rfl ?_ (es_cons (st₁ := []) rfl ?_ es_nil)
        · walk_at "go"
        · rw [er]
          apply ev_bin (a := .lst ((S.map fun (j : Nat) => D.int j).take i)) (b := .lst ((S.map fun (j : Nat) => D.int j).drop (i + 1))) (st₁ := [])
          · apply ev_slice (lo := none) (hi := some (i : Int))
            · walk_at "go"
            · walk_at "go"
            · walk_at "go"
            · exact sl_takeR (Items.lst _)
          · apply ev_slice (lo := some ((i + 1 : Nat) : Int)) (hi := none)
            · walk_at "go"
            · show optEv _ _ _ _ _ (some ((i : Int) + 1)) _ _
              walk_at "go"
            · walk_at "go"
            · exact sl_dropR (Items.lst _)
          · exact op_add_lst (Items.lst _) (Items.lst _) (le_lim (by rw [List.length_append, List.length_take, List.length_drop, List.length_map]; omega))
      · walk_at "go"
      · exact told_ok (k := k) L T hb (rm6 h6 i) r2
    · exact op_mul (.inr (neg_pw i (by omega)))
  · rw [List.length_range]; exact le_lim (by omega)
  rw [hw]
  clear hw
  apply kt_next
  apply ru_cons
  apply rx_ret (d := .lst ((wsI d S).map .int))
  · apply ev_if (t := decide (0 < mxI (w0I d S))) (st₁ := [])
    · apply te_cmp (a := .int (mxI (w0I d S))) (b := .int 0)
      · apply ev_call (ds := [.lst ((w0I d S).map .int)])
        · decide +kernel
        · walk_at "go"
        · walk_at "go"
        · apply fn_builtin bb_max (by decide) (L.none _ (by decide))
          exact max_is (w0_ne hS)
      · walk_at "go"
      · exact cp_gt
      · rfl
    · intro h
      unfold wsI
      rw [if_pos (of_decide_eq_true h)]
      walk_at "go"
    · intro h
      unfold wsI
      rw [if_neg (of_decide_eq_false h), List.map_map]
      apply ev_map (l := w0I d S) (g := .int) (lk := none)
      · decide +kernel
      · walk_at "go"
      · intro x z_
        refine ⟨_, .name (by decide +kernel), ?_⟩
        rw [lockS_none]
        apply ev_neg
        walk_at "go"
      · unfold w0I; rw [List.length_map, List.length_range]; exact le_lim (by omega)
  · exact .flat (lts_map fun z_ z_ => rfl : D.lts 0 _ = true)

noncomputable abbrev PD (p : Int × Nat) : D := .tup [.int p.1, .int p.2]
theorem zip_pd : ∀ {ws : List Int} {S : List Nat}, zipD (ws.map .int) (S.map fun (j : Nat) => D.int j) = (ws.zip S).map PD
  | [], _ => rfl
  | _ :: _, [] => rfl
  | w :: ws, s :: S => by
    have ih := zip_pd (ws := ws) (S := S)
    show D.tup [.int w, .int s] :: zipD _ _ = _
    rw [ih]; rfl
theorem fair_ok (L : LawB B) (T : LawT B) {d : Nat → Nat → Int} (hb : ∀ x y, (d x y).natAbs ≤ 1) {S : List Nat} (hS : S ∈ setsL) : FnG B (k + 6) "_law_fair" [duD d, natsD S] [] st (.bool (fairI d S)) st := by
  refine fn_pure (vars := [("duels", duD d), ("files", natsD S)]) T.fair rfl (by rfl) (by
    show ((D.lt 0 (duD d) && (D.lt 0 (natsD S) && true)) && true) = true
    rw [natsD_lt, duD_lt]; rfl) ?_
  obtain ⟨h5, h0, ho, _, hr⟩ := rm_ok S hS
  have h6 := sets6 S hS
  have hwl := ws_len (d := d) (S := S)
  apply ru_cons
  apply rx_set (d := .lst ((wsI d S).map .int))
  · decide +kernel
  · apply ev_call (ds := [duD d, natsD S])
    · decide +kernel
    · walk_at "go"
    · walk_at "go"
    · exact weights_ok (k := k) L T hb hS
  · intro z_ z_ z_; rfl
  apply kt_next
  apply ru_cons
  apply rx_if (t := decide (mnI (wsI d S) ≤ 0)) (st' := [])
  · apply te_cmp (a := .int (mnI (wsI d S))) (b := .int 0)
    · apply ev_call (ds := [.lst ((wsI d S).map .int)])
      · decide +kernel
      · walk_at "go"
      · walk_at "go"
      · apply fn_builtin bb_min (by decide) (L.none _ (by decide))
        exact min_is (ws_ne hS)
    · walk_at "go"
    · exact cp_leN
    · rfl
  · intro h
    apply ru_cons
    apply rx_ret (d := .bool (fairI d S))
    · unfold fairI
      rw [if_pos (of_decide_eq_true h)]
      walk_at "go"
    · exact .flat rfl
  · intro h
    apply ru_nil
    apply kt_next
    apply ru_cons
    apply rx_filter (l := List.range 6) (g := fun (i : Nat) => .int i) (f := fun (i : Nat) => .int i) (pr := fun x => !S.contains x) (lk := none) (st₁ := [])
    · decide +kernel
    · decide +kernel
    · walk_at "go"
    · intro x z_
      refine ⟨_, .name (by decide +kernel), tl_one ?_, fun z_ => ?_⟩
      · apply te_cmp (a := .int (x : Int)) (b := natsD S)
        · walk_at "go"
        · walk_at "go"
        · exact cp_notin_ints
        · rfl
      · walk_at "go"
    · decide
    apply kt_next
    apply ru_cons
    apply rx_map (l := outL S) (g := fun (i : Nat) => .int i) (f := fun x => .int (sumI d (wsI d S) S x)) (lk := none) (st₁ := [])
    · decide +kernel
    · decide +kernel
    · show It _ _ _ _ _ _ _ (((List.range 6).filter _).map _) _ _
      walk_at "go"
    · intro x hx
      have hx := out6 hx
      refine ⟨_, .name (by decide +kernel), ?_⟩
      rw [lockS_none]
      unfold sumI
      apply ev_call (ds := [.lst ((((wsI d S).zip S)).map fun p => .int (p.1 * d x p.2))])
      · decide +kernel
      · refine es_cons (st₁ := []) rfl ?_ es_nil
        apply ev_map (l := (wsI d S).zip S) (g := PD) (f := fun p => .int (p.1 * d x p.2)) (lk := none)
        · decide +kernel
        · apply it_zip (a := .lst ((wsI d S).map .int)) (b := natsD S) (st₁ := [])
          · rfl
          · decide +kernel
          · exact L.none _ (by decide)
          · exact bb_zip
          · rfl
          · rfl
          · walk_at "go"
          · walk_at "go"
          · exact dr_lst
          · exact dr_lst
          · rw [List.length_map, List.length_map, hwl]; exact Nat.le_refl _
          · exact zip_pd
        · intro p hp
          have hp2 : p.2 < 6 := h6 _ (List.of_mem_zip hp).2
          refine ⟨_, .tup (.cons (by decide +kernel) (.cons (by decide +kernel) (.nil _))), ?_⟩
          rw [lockS_none]
          apply ev_bin (a := .int p.1) (b := .int (d x p.2)) (st₁ := [])
          · walk_at "go"
          · exact ev_du (by walk_at "go") (by walk_at "go") (by walk_at "go") hx hp2 (fun z_ z_ => ⟨_, rfl⟩) fun z_ z_ => ⟨_, rfl⟩
          · exact op_mul (.inl (by have := hb x p.2; omega))
        · rw [List.length_zip]; exact le_lim (by omega)
      · walk_at "go"
      · apply fn_builtin bb_sum (by decide) (L.none _ (by decide))
        exact sum_map
    · exact Nat.le_trans (List.length_filter_le _ _) (by decide)
    have hm : (D.lst ((outL S).map fun x => .int (sumI d (wsI d S) S x))) = .lst (((outL S).map (sumI d (wsI d S) S)).map .int) := by rw [List.map_map]; rfl
    rw [hm]
    clear hm
    apply kt_next
    apply ru_cons
    apply rx_ret (d := .bool (fairI d S))
    · unfold fairI
      rw [if_neg (of_decide_eq_false h)]
      apply ev_cmp (a := .int (mxI ((outL S).map (sumI d (wsI d S) S)))) (b := .int 0)
      · apply ev_call (ds := [.lst (((outL S).map (sumI d (wsI d S) S)).map .int)])
        · decide +kernel
        · walk_at "go"
        · walk_at "go"
        · apply fn_builtin bb_max (by decide) (L.none _ (by decide))
          exact max_is (by intro he; exact ho (List.map_eq_nil_iff.mp he))
      · walk_at "go"
      · exact cp_lt
      · rfl
    · exact .flat rfl

noncomputable abbrev setsD : D := .lst (setsL.map natsD)
theorem sets_eq : (((List.range 6).map fun k => natsD [k]) ++ ((List.range 6).map fun (x : Nat) => natsD ((List.range 6).filter fun (k : Nat) => !decide ((k : Int) = (x : Int))))) ++ ((List.range 6).flatMap fun c => (List.range c).flatMap fun b => (List.range b).flatMap fun a => [natsD [a, b, c]]) = setsL.map natsD := by rfl
theorem it_rgN {sc : Scope} {v : Vars} {pairs : Bool} {e : Expr} {p q : Pos} {n : Nat} (hk : gloKind sc "range" = true) (hm : B.mg "range" = none) (hs : isStar e = false) (h : Ev B k sc v e st (.int (n : Int)) st) (hn : n ≤ 1000) : It B k sc v pairs (.Call (.Name "range" p) [e] [] q) st ((List.range n).map fun (i : Nat) => D.int i) none st :=
  it_rng hk hm hs h (le_lim (by omega)) (Int.toNat_natCast _)
theorem sets_ok (L : LawB B) (T : LawT B) : FnG B (k + 2) "_law_sets" [] [] st setsD st := by
  refine fn_pure (vars := []) T.sets rfl (by rfl) rfl ?_
  apply ru_cons
  apply rx_set (d := .lst (((List.range 6).map fun k => natsD [k]) ++ ((List.range 6).map fun (x : Nat) => natsD ((List.range 6).filter fun (k : Nat) => !decide ((k : Int) = (x : Int))))))
  · decide +kernel
  · apply ev_bin (st₁ := [])
    · apply ev_map (l := List.range 6) (g := fun (i : Nat) => .int i) (f := fun k => natsD [k]) (lk := none)
      · decide +kernel
      · walk_at "go"
      · intro j z_
        refine ⟨_, .name (by decide +kernel), ?_⟩
        show Ev _ _ _ _ _ _ (.lst [.int (j : Int)]) _
        walk_at "go"
      · decide
    · apply ev_map (l := List.range 6) (g := fun (i : Nat) => .int i) (f := fun (x : Nat) => natsD ((List.range 6).filter fun (k : Nat) => !decide ((k : Int) = (x : Int)))) (lk := none)
      · decide +kernel
      · walk_at "go"
      · intro x z_
        refine ⟨_, .name (by decide +kernel), ?_⟩
        rw [lockS_none]
        apply ev_filter (l := List.range 6) (g := fun (i : Nat) => .int i) (f := fun (i : Nat) => .int i) (pr := fun j => !decide ((j : Int) = (x : Int))) (lk := none)
        · decide +kernel
        · walk_at "go"
        · intro j z_
          refine ⟨_, .name (by decide +kernel), tl_one ?_, fun z_ => ?_⟩
          · apply te_cmp (a := .int (j : Int)) (b := .int (x : Int))
            · walk_at "go"
            · walk_at "go"
            · exact cp_ne_int
            · rfl
          · walk_at "go"
        · decide
      · decide
    · exact op_add_lst (Items.lst _) (Items.lst _) (short rfl)
  · intro z_ z_ z_; rfl
  apply kt_next
  apply ru_cons
  refine rx_ret (d := setsD) (st' := []) ?_ ?_
  · show Ev _ _ _ _ _ _ (.lst (setsL.map natsD)) _
    rw [← sets_eq]
    apply ev_bin (st₁ := [])
    · walk_at "go"
    · refine ev_flat (l := List.range 6) (g := fun (a : Nat) => .int a) (F := fun c => (List.range c).flatMap fun b => (List.range b).flatMap fun a => [natsD [a, b, c]]) ?_ ?_ ?_ ?_ ?_
      · decide +kernel
      · rfl
      · walk_at "go"
      · intro c hc
        have hc := List.mem_range.mp hc
        refine turn_top (by decide +kernel) rfl ?_
        refine tail_flat (l := List.range c) (g := fun (b : Nat) => .int b) (by rfl) (by rfl) ?_ fun b hb => ?_
        · exact it_rgN (n := c) (by decide +kernel) (L.none _ (by decide)) rfl (by walk_at "go") (by omega)
        have hb := List.mem_range.mp hb
        refine turn_new (by decide +kernel) (new_set (by decide) (new_comp (by decide +kernel))) ?_
        refine tail_flat (l := List.range b) (g := fun (a : Nat) => .int a) (by rfl) (by rfl) ?_ fun a ha => ?_
        · exact it_rgN (n := b) (by decide +kernel) (L.none _ (by decide)) rfl (by walk_at "go") (by omega)
        refine turn_new (by decide +kernel) (new_set (by decide) (new_set (by decide) (new_comp (by decide +kernel)))) ?_
        refine tail_emit (by rfl) ?_
        show Ev _ _ _ _ _ _ (.lst [.int (a : Int), .int (b : Int), .int (c : Int)]) _
        walk_at "go"
      · exact short rfl
    · exact op_add_lst (Items.lst _) (Items.lst _) (short rfl)
  · exact .flat rfl
end
section
variable {B : Base} {k n : Nat} {st st₀ : Sto}

noncomputable def letD (t k : Nat) : Nat := [97, 98, 99, 100, 101, 102, 65, 66, 67, 68, 69, 70].getD (k + t % 2 * 6) 0
noncomputable def drE (rw : Nat → List Nat) (t : Nat) (p : Int × Nat) : List Nat × List Nat := ([letD t p.2], rw p.2)
noncomputable def turnL (rw : Nat → List Nat) (l : List (Int × Nat)) (t : Nat) : List (List Nat × List Nat) := (l.filter fun p => decide ((t : Int) < p.1)).map (drE rw t)
noncomputable def drumL (rw : Nat → List Nat) (l : List (Int × Nat)) : Nat → List (List Nat × List Nat)
  | 0 => []
  | t + 1 => drumL rw l t ++ turnL rw l t
theorem turn_len {rw : Nat → List Nat} {l : List (Int × Nat)} {t : Nat} : (turnL rw l t).length ≤ l.length := by
  unfold turnL
  rw [List.length_map]
  exact List.length_filter_le _ _
theorem drum_len {rw : Nat → List Nat} {l : List (Int × Nat)} : ∀ t, (drumL rw l t).length ≤ t * l.length
  | 0 => Nat.zero_le _
  | t + 1 => by
    have h1 := drum_len (rw := rw) (l := l) t
    have h2 := turn_len (rw := rw) (l := l) (t := t)
    show (drumL rw l t ++ turnL rw l t).length ≤ _
    rw [List.length_append, Nat.succ_mul]; omega
noncomputable abbrev rowsD (rw : Nat → List Nat) : D := .lst ((List.range 6).map fun k => .str (rw k))
theorem let_ok : ∀ t < 2, ∀ k < 6, k + t * 6 < 12 ∧ printable [[97, 98, 99, 100, 101, 102, 65, 66, 67, 68, 69, 70].getD (k + t * 6) 0] = true := by decide
theorem drum_ok (L : LawB B) (T : LawT B) {rw : Nat → List Nat} (hrl : ∀ k, (rw k).length = 10) (hpr : ∀ k, printable (rw k) = true) {ws : List Int} {S : List Nat} (h6 : ∀ x ∈ S, x < 6) (hl : ws.length = S.length) (h5 : S.length ≤ 5) (hw0 : ws ≠ []) (hw : ∀ w ∈ ws, 1 ≤ w ∧ w ≤ 3) :
    FnG B (k + 8) "_law_drum" [rowsD rw, natsD S, .lst (ws.map .int)] [] [] (.hdr 0) [.lst ((drumL rw (ws.zip S) (mxI ws).toNat).map HD)] := by
  refine fn_st (vars := [("rows", rowsD rw), ("files", natsD S), ("weights", .lst (ws.map .int))]) T.drum rfl (by rfl) ?_
  have hmx := hw _ (mx_facts ws hw0).1
  have hzl : (ws.zip S).length ≤ 5 := by rw [List.length_zip]; omega
  apply ru_cons
  apply rx_set (d := .hdr 0) (st' := [.lst []])
  · decide +kernel
  · apply ev_call
    · decide +kernel
    · walk_at "go"
    · walk_at "go"
    · exact L.headers (k + 2) []
  · intro z_ z_ z_; rfl
  apply kt_next
  apply ru_cons
  refine rx_each (l := List.range (mxI ws).toNat) (g := fun (i : Nat) => .int i) (st₁ := [.lst []]) (fun i v s => s = [.lst ((drumL rw (ws.zip S) i).map HD)] ∧ Has v "drum" (.hdr 0) ∧ Has v "rows" (rowsD rw) ∧ Has v "files" (natsD S) ∧ Has v "weights" (.lst (ws.map .int))) ?_ ⟨rfl, by walk_at "lk", by walk_at "lk", by walk_at "lk", by walk_at "lk"⟩ ?_ ?_
  · apply it_rng (b := mxI ws)
    · decide +kernel
    · exact L.none _ (by decide)
    · rfl
    · apply ev_call (ds := [.lst (ws.map .int)])
      · decide +kernel
      · walk_at "go"
      · walk_at "go"
      · apply fn_builtin bb_max (by decide) (L.none _ (by decide))
        exact max_is hw0
    · exact le_lim (by omega)
    · rfl
  · rintro k' t v s hd ⟨rfl, hdr, hro, hfi, hwe⟩
    obtain ⟨ht, rfl⟩ := range_at hd
    refine ⟨_, .name (by decide +kernel), ?_⟩
    apply ru_cons
    have hdl := drum_len (rw := rw) (l := ws.zip S) t
    have hml : t * (ws.zip S).length ≤ 2 * 5 := Nat.mul_le_mul (by omega) hzl
    generalize hD0 : drumL rw (ws.zip S) t = D0 at *
    refine rx_each (l := ws.zip S) (g := PD) (st₁ := [.lst (D0.map HD)]) (fun i v s => s = [.lst ((D0 ++ turnL rw ((ws.zip S).take i) t).map HD)] ∧ Has v "drum" (.hdr 0) ∧ Has v "rows" (rowsD rw) ∧ Has v "files" (natsD S) ∧ Has v "weights" (.lst (ws.map .int)) ∧ Has v "turn" (.int t)) ?_ ⟨by (rw [List.take_zero]; show _ = [Mo.lst ((D0 ++ []).map HD)]; rw [List.append_nil]), by walk_at "lk", by walk_at "lk", by walk_at "lk", by walk_at "lk", by walk_at "lk"⟩ ?_ ?_
    · apply it_zip (a := .lst (ws.map .int)) (b := natsD S) (st₁ := [.lst (D0.map HD)])
      · rfl
      · decide +kernel
      · exact L.none _ (by decide)
      · exact bb_zip
      · rfl
      · rfl
      · walk_at "go"
      · walk_at "go"
      · exact dr_lst
      · exact dr_lst
      · rw [List.length_map, List.length_map, hl]; exact Nat.le_refl _
      · exact zip_pd
    · rintro i p v s hp ⟨rfl, hdr, hro, hfi, hwe, htu⟩
      have hpm := List.mem_of_getElem? hp
      have hp6 : p.2 < 6 := h6 _ (List.of_mem_zip hpm).2
      have htk : (ws.zip S).take (i + 1) = (ws.zip S).take i ++ [p] := by rw [List.take_add_one, hp]; rfl
      have htl := turn_len (rw := rw) (l := (ws.zip S).take i) (t := t)
      have hnx : turnL rw ((ws.zip S).take (i + 1)) t = turnL rw ((ws.zip S).take i) t ++ (if decide ((t : Int) < p.1) then [drE rw t p] else []) := by
        rw [htk]
        unfold turnL
        rw [List.filter_append, List.map_append, List.filter_cons, List.filter_nil]
        split <;> rfl
      rw [List.length_take] at htl
      have hsl : ((D0 ++ turnL rw ((ws.zip S).take i) t).map HD).length < LIM := by
        rw [List.length_map, List.length_append]
        exact Nat.lt_of_le_of_lt (show _ ≤ 20 by omega) (by decide)
      have hlt : D.lts 1 ((D0 ++ turnL rw ((ws.zip S).take i) t).map HD) = true := lts_map fun z_ z_ => rfl
      generalize hD1 : D0 ++ turnL rw ((ws.zip S).take i) t = D1 at *
      have hD2 : D0 ++ turnL rw ((ws.zip S).take (i + 1)) t = D1 ++ (if decide ((t : Int) < p.1) then [drE rw t p] else []) := by rw [hnx, ← List.append_assoc, hD1]
      obtain ⟨l1, l2⟩ := let_ok (t % 2) (Nat.mod_lt _ (by decide)) p.2 hp6
      have em : ((t : Nat) : Int).fmod 2 = ((t % 2 : Nat) : Int) := by rw [Int.fmod_eq_emod_of_nonneg _ (by decide)]; omega
      refine ⟨_, .tup (.cons (by decide +kernel) (.cons (by decide +kernel) (.nil _))), ?_⟩
      apply ru_cons
      apply rx_if (t := decide ((t : Int) < p.1)) (st' := [.lst (D1.map HD)])
      · apply te_cmp (a := .int p.1) (b := .int (t : Int))
        · walk_at "go"
        · walk_at "go"
        · exact cp_gt
        · rfl
      · intro h
        rw [h] at hD2
        have hD2 : D0 ++ turnL rw ((ws.zip S).take (i + 1)) t = D1 ++ [drE rw t p] := hD2
        have q4 : (rw p.2).length ≤ LIM := by rw [hrl]; decide
        apply ru_cons
        apply rx_expr (st' := [.lst ((D1 ++ [drE rw t p]).map HD)])
        · apply ev_meth (ds := [.str [letD t p.2], .str (rw p.2)]) (st₁ := [.lst (D1.map HD)])
          · decide +kernel
          · walk_at "go"
          · refine es_cons (st₁ := [.lst (D1.map HD)]) rfl ?_ (es_cons (st₁ := [.lst (D1.map HD)]) rfl ?_ es_nil)
            · apply ev_item (a := .str [97, 98, 99, 100, 101, 102, 65, 66, 67, 68, 69, 70]) (b := .int ((p.2 + t % 2 * 6 : Nat) : Int))
              · exact ev_str (by decide +kernel)
              · have e9 : ((p.2 + t % 2 * 6 : Nat) : Int) = (p.2 : Int) + ((t : Nat) : Int).fmod 2 * 6 := by rw [em]; push_cast; rfl
                rw [e9]
                apply ev_bin
                · walk_at "go"
                · apply ev_bin
                  · walk_at "go"
                  · walk_at "go"
                  · exact op_mul (.inl (by decide))
                · walk_at "op"
              · exact im_str (l := [97, 98, 99, 100, 101, 102, 65, 66, 67, 68, 69, 70]) (m := p.2 + t % 2 * 6) (c := letD t p.2) (ix_ok l1) (getD_some l1)
              · intro z_ z_; exact ⟨_, rfl⟩
            · apply ev_item (a := rowsD rw) (b := .int (p.2 : Int))
              · walk_at "go"
              · walk_at "go"
              · exact rg_at (f := fun k => .str (rw k)) hp6
              · intro z_ z_; exact ⟨_, rfl⟩
          · walk_at "go"
          · have e : ([.lst ((D1 ++ [drE rw t p]).map HD)] : Sto) = ([.lst (D1.map HD)] : Sto).set 0 (.lst (D1.map HD ++ [.tup [.str [letD t p.2], .str (rw p.2)]])) := by rw [List.map_append]; rfl
            rw [e]
            exact add_ok (n := 0) (st := [.lst (D1.map HD)]) L l2 (hpr p.2) hsl rfl (by show (D.lts 1 _ && true) = true; rw [hlt]; rfl) hlt q4
        · intro z_ z_ z_; rfl
        apply kt_next
        apply ru_nil
        apply kt_next
        apply ru_nil
        exact ⟨rfl, by rw [hD2], by walk_at "lk", by walk_at "lk", by walk_at "lk", by walk_at "lk", by walk_at "lk"⟩
      · intro h
        rw [h] at hD2
        have hD2 : D0 ++ turnL rw ((ws.zip S).take (i + 1)) t = D1 ++ [] := hD2
        rw [List.append_nil] at hD2
        apply ru_nil
        apply kt_next
        apply ru_nil
        exact ⟨rfl, by rw [hD2], by walk_at "lk", by walk_at "lk", by walk_at "lk", by walk_at "lk", by walk_at "lk"⟩
    · rintro v s ⟨rfl, hdr, hro, hfi, hwe, htu⟩
      apply kt_next
      apply ru_nil
      refine ⟨rfl, ?_, by walk_at "lk", by walk_at "lk", by walk_at "lk", by walk_at "lk"⟩
      rw [List.take_length, ← hD0]; rfl
  · rintro v s ⟨rfl, hdr, hro, hfi, hwe⟩
    rw [List.length_range]
    apply kt_next
    apply ru_cons
    apply rx_ret (d := .hdr 0)
    · walk_at "go"
    · exact ⟨rfl, rfl⟩
end
section
variable {B : Base} {k n : Nat} {st st₀ : Sto}
noncomputable def dflt : List Int := [34821, 19457, 41730, 5124, 51651, 8481]
noncomputable def fill (s : List Int) : List Int := s.take 6 ++ dflt.drop s.length
noncomputable def xsL (s : List Int) : List Nat := (fill s).map fun x => (x.fmod 65536).toNat
theorem fill_len {s : List Int} : (fill s).length = 6 := by
  unfold fill; rw [List.length_append, List.length_take, List.length_drop, show dflt.length = 6 from rfl]; omega
theorem xs_len {s : List Int} : (xsL s).length = 6 := by unfold xsL; rw [List.length_map, fill_len]
theorem natsD_map {α : Type} {l : List α} {f : α → Nat} : natsD (l.map f) = .lst (l.map fun a => D.int (f a)) := by unfold natsD; rw [List.map_map]; rfl
noncomputable def wonL (ns : List Nat) (k : Nat) : List Nat := (List.range 6).filter fun j => (dueL ns j).contains k
noncomputable def rwF (ns : List Nat) (k : Nat) : List Nat := filemodeL (modeR ((ns.getD k 0 : Nat) : Int) (wonL ns k))
noncomputable def tkB (files row : List Nat) : Bool := takesB (psN files) row
noncomputable def ovL (ns : List Nat) (j : Nat) : List Nat := (List.range 6).filter fun k => tkB [j] (rwF ns k)
noncomputable def dI (ns : List Nat) (k j : Nat) : Int := ((dueL ns j).count k : Nat) - ((dueL ns k).count j : Nat)
noncomputable def bigL (k : Nat) : Nat := [65, 98, 67, 100, 69, 102].getD k 0
noncomputable def tickL (ns S : List Nat) : List (List Nat × List Nat) := drumL (rwF ns) ((wsI (dI ns) S).zip S) (mxI (wsI (dI ns) S)).toNat
noncomputable def heldN (ns S : List Nat) (k : Nat) : Nat := (allH (tickL ns S) [bigL k]).length
noncomputable def cntN (ns S : List Nat) (k : Nat) : Nat := ((tickL ns S).map (·.2)).countP fun t => decide (t = rwF ns k)
noncomputable def lostN (ns S : List Nat) (j : Nat) : Nat := ((dueL ns j).map (cntN ns S)).sum
noncomputable def wonN (ns S : List Nat) (j : Nat) : Nat := (((List.range 6).filter fun k => (dueL ns k).contains j).map (heldN ns S)).sum
noncomputable def covL (ns : List Nat) (k : Nat) : List Nat := (List.range 6).filter fun j => decide ((j : Int) = (k : Int)) || (dueL ns j).contains k
noncomputable def badB (ns S : List Nat) (j : Nat) : Bool := decide ((lostN ns S j : Int) < (wonN ns S j : Int)) || (decide ((wonN ns S j : Int) < (lostN ns S j : Int)) == S.contains j)
theorem rwF_len {ns : List Nat} {k : Nat} : (rwF ns k).length = 10 := fm_len
theorem rwF_pr {ns : List Nat} {k : Nat} : printable (rwF ns k) = true := fm_print
theorem due6 {ns : List Nat} {j : Nat} : (dueL ns j).length ≤ 6 ∧ ∀ x ∈ dueL ns j, x < 6 :=
  ⟨Nat.le_trans (List.length_filter_le _ _) (by decide), fun z_ h => List.mem_range.mp (List.mem_filter.mp h).1⟩
theorem cnt_ints {l : List Nat} {x : Nat} : ((D.toPs (l.map fun (i : Nat) => D.int i)).countP fun y => PyData.eqv y (D.int x).toP) = l.count x := by
  induction l with
  | nil => rfl
  | cons a l ih =>
    have e : PyData.eqv (D.int (a : Int)).toP (D.int (x : Int)).toP = (a == x) := by
      show ((a : Int) == (x : Int)) = _
      rw [Bool.eq_iff_iff, beq_iff_eq, beq_iff_eq]; omega
    show List.countP _ ((D.int (a : Int)).toP :: D.toPs (l.map fun (i : Nat) => D.int i)) = _
    rw [List.countP_cons, ih, List.count_cons, e]
theorem cnt_strs {l : List (List Nat)} {w : List Nat} : ((D.toPs (l.map D.str)).countP fun y => PyData.eqv y (D.str w).toP) = l.countP fun t => decide (t = w) := by
  induction l with
  | nil => rfl
  | cons a l ih =>
    have e : PyData.eqv (D.str a).toP (D.str w).toP = decide (a = w) := eqv_str
    show List.countP _ ((D.str a).toP :: D.toPs (l.map D.str)) = _
    rw [List.countP_cons, ih, List.countP_cons, e]
theorem ok_strs {l : List (List Nat)} : (l.map D.str).all (D.ok 15) = true := by
  rw [List.all_map]; exact List.all_eq_true.mpr fun z_ z_ => rfl
theorem dI_le {ns : List Nat} : ∀ x y, (dI ns x y).natAbs ≤ 1 := fun x y => by
  have h : ∀ j k, (dueL ns j).count k ≤ 1 := fun j k => List.nodup_iff_count.mp (List.Nodup.sublist List.filter_sublist List.nodup_range) k
  have := h x y
  have := h y x
  unfold dI; omega
theorem big_pr : ∀ k < 6, printable ([bigL k].map lowerC) = true := by decide
theorem one_im {d : D} : ItOk B st (.lst [d]) (.int 0) d := im_lst (m := 0) (Items.lst _) rfl rfl
noncomputable abbrev dfltP : List (Int × Pos) := [(34821, ⟨292, 48, 292, 53⟩), (19457, ⟨292, 55, 292, 60⟩), (41730, ⟨292, 62, 292, 67⟩), (5124, ⟨292, 69, 292, 73⟩), (51651, ⟨292, 75, 292, 80⟩), (8481, ⟨292, 82, 292, 86⟩)]
theorem ev_ints {sc : Scope} {v : Vars} {pos : Pos} (L : List (Int × Pos)) (hl : L.length ≤ LIM) : Ev B k sc v (.List (L.map fun p => .Constant (.int p.1) 0 p.2) pos) st (.lst (L.map fun p => .int p.1)) st := by
  refine ev_list ?_ (by rw [List.length_map]; exact hl)
  clear hl
  induction L with
  | nil => exact es_nil
  | cons p L ih => exact es_cons rfl ev_int ih
theorem law_ok (L : LawB B) (T : LawT B) {s : List Int} {S : List Nat} (hs : s.length ≤ 63) (hS : S ∈ setsL)
    (ho : ∀ j < 6, ovL (xsL s) j = dueL (xsL s) j) (hf : setsL.filter (fairI (dI (xsL s))) = [S]) (hw : ∀ w ∈ wsI (dI (xsL s)) S, 1 ≤ w ∧ w ≤ 3)
    (hb : ∀ j < 6, badB (xsL s) S j = false) (hc : ∀ k ∈ S, ∀ x < 6, tkB (covL (xsL s) k) (rwF (xsL s) x) = false) :
    FnG B (k + 14) "law" [.scr (s.map .int)] [] st (.bool true) st := by
  refine fn_pure (vars := [("script", .scr (s.map .int))]) T.law rfl (by rfl) (by
    show ((D.lts 0 (s.map .int) && true) && true) = true
    rw [lts_map fun z_ z_ => rfl]; rfl) ?_
  have hx : (xsL s).length = 6 := xs_len
  have ex : natsD (xsL s) = .lst ((fill s).map fun x => .int ((x.fmod 65536).toNat : Int)) := natsD_map
  have h0 := @ev_ints B (k + 12) [] b_law.1.2 [("script", .scr (s.map .int))] ⟨292, 47, 292, 87⟩ dfltP (by decide)
  refine ru_cons ?_
  refine rx_map (l := fill s) (g := .int) (f := fun x => .int ((x.fmod 65536).toNat : Int)) (lk := none) (st₁ := []) ?_ ?_ ?_ ?_ ?_ ?_
  · decide +kernel
  · decide +kernel
  · refine it_ev (a := .lst ((fill s).map .int)) ?_ wk_lst fun z_ z_ => rfl
    have e0 : D.lst ((fill s).map .int) = .lst ((s.take 6).map .int ++ (dflt.drop s.length).map .int) := by unfold fill; rw [List.map_append]
    rw [e0]
    have h1 : Ev B (k + 12) b_law.1.2 [("script", .scr (s.map .int))] _ [] (.lst (dflt.map .int)) [] := h0
    simp only [List.map_cons, List.map_nil] at h1
    refine ev_bin (a := .lst ((s.take 6).map .int)) (b := .lst ((dflt.drop s.length).map .int)) (st₁ := []) ?_ ?_ ?_
    · apply ev_slice (lo := none) (hi := some 6)
      · walk_at "go"
      · walk_at "go"
      · walk_at "go"
      · exact sl_take (n := 6)
    · refine ev_slice (lo := some (s.length : Int)) (hi := none) (a := .lst (dflt.map .int)) (st₁ := []) (st₂ := []) ?_ ?_ ?_ ?_
      · assumption
      · apply oe_some
        apply ev_call
        · decide +kernel
        · walk_at "go"
        · walk_at "go"
        · apply fn_builtin bb_len (by decide) (L.none _ (by decide))
          have := len_scr_ok (B := B) (k := k + 12) (st := []) (l := s.map .int)
          rw [List.length_map] at this
          exact this
      · walk_at "go"
      · exact sl_drop (s := dflt)
    · apply op_add_lst (Items.lst _) (Items.lst _)
      rw [← List.map_append, List.length_map, show s.take 6 ++ dflt.drop s.length = fill s from rfl, fill_len]; decide
  · intro x z_
    refine ⟨_, .name (by decide +kernel), ?_⟩
    rw [Int.toNat_of_nonneg (Int.fmod_nonneg_of_pos _ (by decide))]
    walk_at "go"
  · rw [fill_len]; decide
  rw [← ex]
  clear ex h0
  generalize xsL s = ns at *
  obtain ⟨hS5, hS0, _, _, _⟩ := rm_ok S hS
  have hS6 := sets6 S hS
  apply kt_next
  apply ru_cons
  apply rx_set (d := .lst (natsL (dueL ns) 6)) (st' := [])
  · decide +kernel
  · apply ev_call (ds := [natsD ns])
    · decide +kernel
    · walk_at "go"
    · walk_at "go"
    · exact beaten_ok (k := k + 8) L T hx
  · intro z_ z_ z_; rfl
  apply kt_next
  apply ru_cons
  apply rx_map (l := List.range 6) (g := fun (i : Nat) => .int i) (f := fun k' => .str (rwF ns k')) (lk := none) (st₁ := [])
  · decide +kernel
  · decide +kernel
  · walk_at "go"
  · intro i hi
    have hi := List.mem_range.mp hi
    refine ⟨_, .name (by decide +kernel), ?_⟩
    rw [lockS_none]
    apply ev_call (ds := [.int (ns.getD i 0 : Nat), natsD (wonL ns i)])
    · decide +kernel
    · refine es_cons (st₁ := []) rfl ?_ (es_cons (st₁ := []) rfl ?_ es_nil)
      · apply ev_item (b := .int (i : Int))
        · walk_at "go"
        · walk_at "go"
        · exact natD_im hx hi
        · intro z_ z_; exact ⟨_, rfl⟩
      · unfold wonL
        apply ev_filter (l := List.range 6) (g := fun (i : Nat) => .int i) (f := fun (i : Nat) => .int i) (pr := fun j => (dueL ns j).contains i) (lk := none)
        · decide +kernel
        · walk_at "go"
        · intro j hj
          have hj := List.mem_range.mp hj
          refine ⟨_, .name (by decide +kernel), tl_one ?_, fun z_ => ?_⟩
          · rw [lockS_none]
            apply te_cmp (a := .int (i : Int)) (b := natsD (dueL ns j))
            · walk_at "go"
            · apply ev_item (b := .int (j : Int))
              · walk_at "go"
              · walk_at "go"
              · exact rg_at (f := fun j => natsD (dueL ns j)) hj
              · intro z_ z_; exact ⟨_, rfl⟩
            · exact cp_in_ints
            · rfl
          · walk_at "go"
        · decide
    · walk_at "go"
    · exact row_ok (k := k + 6) L T (fun z_ h => List.mem_range.mp (List.mem_filter.mp h).1) (Nat.le_trans (List.length_filter_le _ _) (by decide))
  · decide
  apply kt_next
  apply ru_cons
  apply rx_map (l := List.range 6) (g := fun (i : Nat) => .int i) (f := fun j => .str (ptx (psN [j]))) (lk := none) (st₁ := [])
  · decide +kernel
  · decide +kernel
  · walk_at "go"
  · intro j hj
    refine ⟨_, .name (by decide +kernel), ?_⟩
    rw [lockS_none]
    apply ev_call (ds := [natsD [j]])
    · decide +kernel
    · refine es_cons (st₁ := []) rfl ?_ es_nil
      show Ev _ _ _ _ _ _ (.lst [.int (j : Int)]) _
      walk_at "go"
    · walk_at "go"
    · exact text_ok (k := k + 4) L T
  · decide
  apply kt_next
  apply ru_cons
  apply rx_map (l := List.range 6) (g := fun j => .str (ptx (psN [j]))) (f := fun j => natsD (ovL ns j)) (lk := none) (st₁ := [])
  · decide +kernel
  · decide +kernel
  · walk_at "go"
  · intro j hj
    refine ⟨_, .name (by decide +kernel), ?_⟩
    rw [lockS_none]
    unfold ovL
    apply ev_filter (l := List.range 6) (g := fun (i : Nat) => .int i) (f := fun (i : Nat) => .int i) (pr := fun k' => tkB [j] (rwF ns k')) (lk := none)
    · decide +kernel
    · walk_at "go"
    · intro i hi
      have hi := List.mem_range.mp hi
      refine ⟨_, .name (by decide +kernel), tl_one ?_, fun z_ => ?_⟩
      · rw [lockS_none]
        apply te_plain (a := .bool (tkB [j] (rwF ns i)))
        · apply ev_call (ds := [.str (ptx (psN [j])), .str (rwF ns i)])
          · decide +kernel
          · refine es_cons (st₁ := []) rfl ?_ (es_cons (st₁ := []) rfl ?_ es_nil)
            · walk_at "go"
            · apply ev_item (b := .int (i : Int))
              · walk_at "go"
              · walk_at "go"
              · exact rg_at (f := fun k' => .str (rwF ns k')) hi
              · intro z_ z_; exact ⟨_, rfl⟩
          · walk_at "go"
          · exact takes_ok (k := k + 10) L T rfl psN_len.2 psN_lt rwF_len
        · exact tr_bool
        · intro z_; rfl
      · walk_at "go"
    · decide
  · decide
  have hov : (D.lst ((List.range 6).map fun j => natsD (ovL ns j))) = .lst (natsL (dueL ns) 6) := by
    congr 1
    exact List.map_congr_left fun j hj => by rw [ho j (List.mem_range.mp hj)]
  rw [hov]
  clear hov
  apply kt_next
  apply ru_cons
  apply rx_map (l := List.range 6) (g := fun (i : Nat) => .int i) (f := duR (dI ns)) (lk := none) (st₁ := [])
  · decide +kernel
  · decide +kernel
  · walk_at "go"
  · intro x hx'
    have hx' := List.mem_range.mp hx'
    refine ⟨_, .name (by decide +kernel), ?_⟩
    rw [lockS_none]
    apply ev_map (l := List.range 6) (g := fun (i : Nat) => .int i) (f := fun y => .int (dI ns x y)) (lk := none)
    · decide +kernel
    · walk_at "go"
    · intro y hy
      have hy := List.mem_range.mp hy
      refine ⟨_, .name (by decide +kernel), ?_⟩
      rw [lockS_none]
      unfold dI
      have hct : ∀ {kk : Nat} {σ : Sto} (a b : Nat), MtG B kk (natsD (dueL ns a)) "count" σ [.int (b : Int)] [] σ (.int ((dueL ns a).count b : Nat)) σ := fun {kk σ} a b => by
        have := cnt_ok (B := B) (k := kk) (st₀ := σ) (st := σ) (x := .int (b : Int)) (Items.lst ((dueL ns a).map fun (i : Nat) => D.int i)) (Items.lst _) (.flat rfl) ok_ints
        rw [cnt_ints] at this
        exact this
      apply ev_bin (a := .int ((dueL ns y).count x : Nat)) (b := .int ((dueL ns x).count y : Nat)) (st₁ := [])
      · apply ev_meth (ds := [.int (x : Int)])
        · decide +kernel
        · apply ev_item (b := .int (y : Int))
          · walk_at "go"
          · walk_at "go"
          · exact rg_at (f := fun j => natsD (dueL ns j)) hy
          · intro z_ z_; exact ⟨_, rfl⟩
        · walk_at "go"
        · walk_at "go"
        · exact hct y x
      · apply ev_meth (ds := [.int (y : Int)])
        · decide +kernel
        · apply ev_item (b := .int (x : Int))
          · walk_at "go"
          · walk_at "go"
          · exact rg_at (f := fun j => natsD (dueL ns j)) hx'
          · intro z_ z_; exact ⟨_, rfl⟩
        · walk_at "go"
        · walk_at "go"
        · exact hct x y
      · walk_at "op"
    · decide
  · decide
  apply kt_next
  apply ru_cons
  have hdl := dI_le (ns := ns)
  apply rx_filter (l := setsL) (g := natsD) (f := natsD) (pr := fairI (dI ns)) (lk := none) (st₁ := [])
  · decide +kernel
  · decide +kernel
  · refine it_ev (a := setsD) ?_ wk_lst fun z_ z_ => rfl
    apply ev_call (ds := [])
    · decide +kernel
    · walk_at "go"
    · walk_at "go"
    · exact sets_ok (k := k + 10) L T
  · intro U hU
    refine ⟨_, .name (by decide +kernel), tl_one ?_, fun z_ => ?_⟩
    · rw [lockS_none]
      apply te_plain (a := .bool (fairI (dI ns) U))
      · apply ev_call (ds := [duD (dI ns), natsD U])
        · decide +kernel
        · walk_at "go"
        · walk_at "go"
        · exact fair_ok (k := k + 6) L T hdl hU
      · exact tr_bool
      · intro z_; rfl
    · walk_at "go"
  · decide
  rw [hf, show D.lst ([S].map natsD) = .lst [natsD S] from rfl]
  apply kt_next
  apply ru_cons
  apply rx_iff (t := !decide ((1 : Int) = 1)) (st' := [])
  · apply te_cmp (a := .int 1) (b := .int 1)
    · apply ev_call (ds := [.lst [natsD S]])
      · decide +kernel
      · walk_at "go"
      · walk_at "go"
      · apply fn_builtin bb_len (by decide) (L.none _ (by decide))
        exact len_lst_ok (Items.lst [natsD S])
    · walk_at "go"
    · exact cp_ne_int
    · rfl
  · rfl
  apply ru_nil
  apply kt_next
  apply ru_cons
  have hdr := drum_ok (k := k + 4) L T (rw := rwF ns) (fun z_ => rwF_len) (fun z_ => rwF_pr) hS6 ws_len hS5 (ws_ne hS) hw
  have htl : (tickL ns S).length ≤ 15 := by
    have h1 := drum_len (rw := rwF ns) (l := (wsI (dI ns) S).zip S) (mxI (wsI (dI ns) S)).toNat
    have h2 := hw _ (mx_facts _ (ws_ne hS)).1
    have h3 : ((wsI (dI ns) S).zip S).length ≤ 5 := by rw [List.length_zip]; omega
    have h4 : (mxI (wsI (dI ns) S)).toNat * ((wsI (dI ns) S).zip S).length ≤ 3 * 5 := Nat.mul_le_mul (by omega) h3
    exact Nat.le_trans h1 h4
  have hdr : FnG B (k + 12) "_law_drum" [rowsD (rwF ns), natsD S, .lst ((wsI (dI ns) S).map .int)] [] [] (.hdr 0) [.lst ((tickL ns S).map HD)] := hdr
  generalize hS0' : ([Mo.lst ((tickL ns S).map HD)] : Sto) = σ at hdr
  have hσ : σ[0]? = some (.lst ((tickL ns S).map HD)) := by rw [← hS0']; rfl
  apply rx_set (d := .hdr 0) (st' := σ)
  · decide +kernel
  · apply ev_call (ds := [rowsD (rwF ns), natsD S, .lst ((wsI (dI ns) S).map .int)]) (st₁ := [])
    · decide +kernel
    · refine es_cons (st₁ := []) rfl ?_ (es_cons (st₁ := []) rfl ?_ (es_cons (st₁ := []) rfl ?_ es_nil))
      · walk_at "go"
      · apply ev_item (b := .int 0)
        · walk_at "go"
        · walk_at "go"
        · exact one_im
        · intro z_ z_; exact ⟨_, rfl⟩
      · apply ev_call (ds := [duD (dI ns), natsD S])
        · decide +kernel
        · refine es_cons (st₁ := []) rfl ?_ (es_cons (st₁ := []) rfl ?_ es_nil)
          · walk_at "go"
          · apply ev_item (b := .int 0)
            · walk_at "go"
            · walk_at "go"
            · exact one_im
            · intro z_ z_; exact ⟨_, rfl⟩
        · walk_at "go"
        · exact weights_ok (k := k + 8) L T hdl hS
    · walk_at "go"
    · exact hdr
  · intro z_ z_ z_; rfl
  clear hdr
  apply kt_next
  apply ru_cons
  refine rx_row (y := "held") (ds := [.lst ((List.range 6).map fun k' => .int (heldN ns S k' : Nat)), .lst ((tickL ns S).map fun p => .str p.2)]) (st' := σ) (.head _) ?_ ?_ (short rfl) (.cons ?_ (.cons ?_ (.nil _))) ?_
  · decide +kernel
  · refine es_cons (st₁ := σ) rfl ?_ (es_cons (st₁ := σ) rfl ?_ es_nil)
    · apply ev_map (l := List.range 6) (g := fun (i : Nat) => .int i) (f := fun k' => .int (heldN ns S k' : Nat)) (lk := none)
      · decide +kernel
      · walk_at "go"
      · intro i hi
        have hi := List.mem_range.mp hi
        refine ⟨_, .name (by decide +kernel), ?_⟩
        rw [lockS_none]
        unfold heldN
        apply ev_call (ds := [.lst ((allH (tickL ns S) [bigL i]).map .str)])
        · decide +kernel
        · refine es_cons (st₁ := σ) rfl ?_ es_nil
          apply ev_meth (ds := [.str [bigL i]])
          · decide +kernel
          · walk_at "go"
          · refine es_cons (st₁ := σ) rfl ?_ es_nil
            apply ev_item (a := .str [65, 98, 67, 100, 69, 102]) (b := .int (i : Int))
            · exact ev_str (by decide +kernel)
            · walk_at "go"
            · exact im_str (l := [65, 98, 67, 100, 69, 102]) (m := i) (c := bigL i) (ix_ok hi) (getD_some hi)
            · intro z_ z_; exact ⟨_, rfl⟩
          · walk_at "go"
          · exact getall_ok (k := k + 8) L (le_lim (by omega)) (big_pr i hi) hσ
        · walk_at "go"
        · apply fn_builtin bb_len (by decide) (L.none _ (by decide))
          have := len_lst_ok (B := B) (k := k + 12) (st := σ) (Items.lst ((allH (tickL ns S) [bigL i]).map D.str))
          rw [List.length_map] at this
          exact this
      · decide
    · apply ev_meth (ds := [])
      · decide +kernel
      · walk_at "go"
      · walk_at "go"
      · walk_at "go"
      · exact values_ok (k := k + 10) L (le_lim (by omega)) hσ
  · decide +kernel
  · decide +kernel
  have htk : (D.lst ((tickL ns S).map fun p => .str p.2)) = .lst (((tickL ns S).map (·.2)).map D.str) := by rw [List.map_map]; rfl
  rw [htk]
  clear htk
  apply kt_next
  apply ru_cons
  refine rx_each (l := List.range 6) (g := fun (i : Nat) => .int i) (st₁ := σ) (fun i v s => s = σ ∧ Has v "over" (.lst (natsL (dueL ns) 6)) ∧ Has v "due" (.lst (natsL (dueL ns) 6)) ∧ Has v "rows" (rowsD (rwF ns)) ∧ Has v "fair" (.lst [natsD S]) ∧ Has v "held" (.lst ((List.range 6).map fun k' => .int (heldN ns S k' : Nat))) ∧ Has v "tickets" (.lst (((tickL ns S).map (·.2)).map D.str))) (by walk_at "go") ⟨rfl, by walk_at "lk", by walk_at "lk", by walk_at "lk", by walk_at "lk", by walk_at "lk", by walk_at "lk"⟩ ?_ ?_
  · rintro k' j v s' hd ⟨rfl, h1, h2, h3, h4, h5, h6⟩
    obtain ⟨hj, rfl⟩ := range_at hd
    refine ⟨_, .name (by decide +kernel), ?_⟩
    apply ru_cons
    apply rx_set (d := .int (lostN ns S j : Nat)) (st' := s')
    · decide +kernel
    · unfold lostN
      apply ev_call (ds := [.lst ((dueL ns j).map fun k' => .int (cntN ns S k' : Nat))])
      · decide +kernel
      · refine es_cons (st₁ := s') rfl ?_ es_nil
        apply ev_map (l := dueL ns j) (g := fun (i : Nat) => .int i) (f := fun k' => .int (cntN ns S k' : Nat)) (lk := none)
        · decide +kernel
        · refine it_ev (a := natsD (dueL ns j)) ?_ wk_lst fun z_ z_ => rfl
          apply ev_item (b := .int (j : Int))
          · walk_at "go"
          · walk_at "go"
          · exact rg_at (f := fun j => natsD (dueL ns j)) hj
          · intro z_ z_; exact ⟨_, rfl⟩
        · intro i hi
          have hi := due6.2 i hi
          refine ⟨_, .name (by decide +kernel), ?_⟩
          rw [lockS_none]
          unfold cntN
          apply ev_meth (ds := [.str (rwF ns i)])
          · decide +kernel
          · walk_at "go"
          · refine es_cons (st₁ := s') rfl ?_ es_nil
            apply ev_item (b := .int (i : Int))
            · walk_at "go"
            · walk_at "go"
            · exact rg_at (f := fun k' => .str (rwF ns k')) hi
            · intro z_ z_; exact ⟨_, rfl⟩
          · walk_at "go"
          · have := cnt_ok (B := B) (k := k + 12) (st₀ := s') (st := s') (x := .str (rwF ns i)) (Items.lst (((tickL ns S).map (·.2)).map D.str)) (Items.lst _) (.flat rfl) ok_strs
            rw [cnt_strs] at this
            exact this
        · exact Nat.le_trans due6.1 (by decide)
      · walk_at "go"
      · apply fn_builtin bb_sum (by decide) (L.none _ (by decide))
        exact sum_nat
    · intro z_ z_ z_; rfl
    apply kt_next
    apply ru_cons
    apply rx_set (d := .int (wonN ns S j : Nat)) (st' := s')
    · decide +kernel
    · unfold wonN
      apply ev_call (ds := [.lst (((List.range 6).filter fun k => (dueL ns k).contains j).map fun k' => .int (heldN ns S k' : Nat))])
      · decide +kernel
      · refine es_cons (st₁ := s') rfl ?_ es_nil
        apply ev_filter (l := List.range 6) (g := fun (i : Nat) => .int i) (f := fun k' => .int (heldN ns S k' : Nat)) (pr := fun k' => (dueL ns k').contains j) (lk := none)
        · decide +kernel
        · walk_at "go"
        · intro i hi
          have hi := List.mem_range.mp hi
          refine ⟨_, .name (by decide +kernel), tl_one ?_, fun z_ => ?_⟩
          · rw [lockS_none]
            apply te_cmp (a := .int (j : Int)) (b := natsD (dueL ns i))
            · walk_at "go"
            · apply ev_item (b := .int (i : Int))
              · walk_at "go"
              · walk_at "go"
              · exact rg_at (f := fun j => natsD (dueL ns j)) hi
              · intro z_ z_; exact ⟨_, rfl⟩
            · exact cp_in_ints
            · rfl
          · rw [lockS_none]
            apply ev_item (b := .int (i : Int))
            · walk_at "go"
            · walk_at "go"
            · exact rg_at (f := fun k' => .int (heldN ns S k' : Nat)) hi
            · intro z_ z_; exact ⟨_, rfl⟩
        · decide
      · walk_at "go"
      · apply fn_builtin bb_sum (by decide) (L.none _ (by decide))
        exact sum_nat
    · intro z_ z_ z_; rfl
    apply kt_next
    apply ru_cons
    apply rx_iff (t := badB ns S j) (st' := s')
    · unfold badB
      apply te_or2
      · apply te_cmp (a := .int (lostN ns S j : Nat)) (b := .int (wonN ns S j : Nat))
        · walk_at "go"
        · walk_at "go"
        · exact cp_lt
        · rfl
      · apply te_cmp (a := .bool (decide ((wonN ns S j : Int) < (lostN ns S j : Int)))) (b := .bool (S.contains j))
        · apply ev_cmp (a := .int (lostN ns S j : Nat)) (b := .int (wonN ns S j : Nat))
          · walk_at "go"
          · walk_at "go"
          · exact cp_gt
          · rfl
        · apply ev_cmp (a := .int (j : Int)) (b := natsD S)
          · walk_at "go"
          · apply ev_item (b := .int 0)
            · walk_at "go"
            · walk_at "go"
            · exact one_im
            · intro z_ z_; exact ⟨_, rfl⟩
          · exact cp_in_ints
          · rfl
        · exact cp_eq_bool
        · rfl
    · exact hb j hj
    apply ru_nil
    apply kt_next
    apply ru_nil
    exact ⟨rfl, rfl, by walk_at "lk", by walk_at "lk", by walk_at "lk", by walk_at "lk", by walk_at "lk", by walk_at "lk"⟩
  rintro v s' ⟨es, h1, h2, h3, h4, h5, h6⟩
  subst es
  apply kt_next
  apply ru_cons
  apply rx_map (l := S) (g := fun (i : Nat) => .int i) (f := fun k' => .str (ptx (psN (covL ns k')))) (lk := none) (st₁ := s')
  · decide +kernel
  · decide +kernel
  · refine it_ev (a := natsD S) ?_ wk_lst fun z_ z_ => rfl
    apply ev_item (b := .int 0)
    · walk_at "go"
    · walk_at "go"
    · exact one_im
    · intro z_ z_; exact ⟨_, rfl⟩
  · intro i z_
    refine ⟨_, .name (by decide +kernel), ?_⟩
    rw [lockS_none]
    apply ev_call (ds := [natsD (covL ns i)])
    · decide +kernel
    · refine es_cons (st₁ := s') rfl ?_ es_nil
      unfold covL
      apply ev_filter (l := List.range 6) (g := fun (i : Nat) => .int i) (f := fun (i : Nat) => .int i) (pr := fun j => decide ((j : Int) = (i : Int)) || (dueL ns j).contains i) (lk := none)
      · decide +kernel
      · walk_at "go"
      · intro j hj
        have hj := List.mem_range.mp hj
        refine ⟨_, .name (by decide +kernel), tl_one ?_, fun z_ => ?_⟩
        · rw [lockS_none]
          apply te_or2
          · apply te_cmp (a := .int (j : Int)) (b := .int (i : Int))
            · walk_at "go"
            · walk_at "go"
            · exact cp_eq_int
            · rfl
          · apply te_cmp (a := .int (i : Int)) (b := natsD (dueL ns j))
            · walk_at "go"
            · apply ev_item (b := .int (j : Int))
              · walk_at "go"
              · walk_at "go"
              · exact rg_at (f := fun j => natsD (dueL ns j)) hj
              · intro z_ z_; exact ⟨_, rfl⟩
            · exact cp_in_ints
            · rfl
        · walk_at "go"
      · decide
    · walk_at "go"
    · exact text_ok (k := k + 4) L T
  · exact le_lim (by omega)
  have hno : (S.flatMap fun k' => (List.range 6).flatMap fun x => if tkB (covL ns k') (rwF ns x) then [D.str (ptx (psN (covL ns k')))] else []) = [] := by
    rw [List.flatMap_eq_nil_iff]
    intro k' hk'
    rw [List.flatMap_eq_nil_iff]
    intro x hx'
    rw [hc k' hk' x (List.mem_range.mp hx')]; rfl
  apply kt_next
  apply ru_cons
  apply rx_iff (t := !([] : List D).isEmpty) (st' := s')
  · apply te_cmp (a := .lst []) (b := .lst [])
    · rw [← hno]
      refine ev_flat (st₁ := s') (l := S) (g := fun k' => .str (ptx (psN (covL ns k')))) (F := fun k' => (List.range 6).flatMap fun x => if tkB (covL ns k') (rwF ns x) then [D.str (ptx (psN (covL ns k')))] else []) ?_ ?_ ?_ ?_ ?_
      · decide +kernel
      · rfl
      · walk_at "go"
      · intro i hi
        refine turn_top (by decide +kernel) rfl ?_
        refine tail_flat (l := List.range 6) (g := fun x => .str (rwF ns x)) (by rfl) (by rfl) ?_ fun x hx' => ?_
        · walk_at "go"
        refine turn_if (by decide +kernel) (new_set (by decide) (new_comp (by decide +kernel))) rfl ?_ ?_
        · apply te_plain (a := .bool (tkB (covL ns i) (rwF ns x)))
          · apply ev_call (ds := [.str (ptx (psN (covL ns i))), .str (rwF ns x)])
            · decide +kernel
            · walk_at "go"
            · walk_at "go"
            · exact takes_ok (k := k + 10) L T rfl psN_len.2 psN_lt rwF_len
          · exact tr_bool
          · intro z_; rfl
        · walk_at "go"
      · rw [hno]; exact short rfl
    · walk_at "go"
    · exact cp_ne_nil (l := []) rfl
    · rfl
  · rfl
  apply ru_nil
  apply kt_next
  apply ru_cons
  apply rx_ret (d := .bool true)
  · apply ev_cmp (a := .lst (natsL (dueL ns) 6)) (b := .lst (natsL (dueL ns) 6))
    · walk_at "go"
    · walk_at "go"
    · exact cp_eq_self (.flat (by
        show (natsL (dueL ns) 6).all (D.ok 15) = true
        rw [List.all_map]
        exact List.all_eq_true.mpr fun j z_ => (ok_ints (n := 14) : (natsD (dueL ns j)).ok 15 = true)))
    · rfl
  · exact .flat rfl
end
end Mine
namespace Mine
open PySem

theorem ba_nat {m : Int} (hm : 0 ≤ m) (b : Nat) : Builtin.bitAnd m (b : Int) = ((m.toNat &&& b : Nat) : Int) := by
  unfold Builtin.bitAnd
  simp [hm]
theorem ba_beq {m : Int} (hm : 0 ≤ m) (b : Nat) : (Builtin.bitAnd m (b : Int) == (b : Int)) = (m.toNat &&& b == b) := by
  rw [ba_nat hm]
  by_cases h : m.toNat &&& b = b
  · rw [h]; simp
  · have : ¬ (((m.toNat &&& b : Nat) : Int) = (b : Int)) := fun e => h (Int.ofNat.inj e)
    rw [beq_eq_false_iff_ne.mpr h, beq_eq_false_iff_ne.mpr this]
theorem and_p2 (x i : Nat) : (x &&& 2 ^ i == 2 ^ i) = x.testBit i := by
  cases h : x.testBit i with
  | true =>
    refine beq_iff_eq.mpr (Nat.eq_of_testBit_eq fun j => ?_)
    rw [Nat.testBit_and, Nat.testBit_two_pow]
    by_cases hj : i = j
    · subst hj; simp [h]
    · simp [hj]
  | false =>
    refine beq_eq_false_iff_ne.mpr fun e => ?_
    have := congrArg (fun y => y.testBit i) e
    simp [Nat.testBit_and, h, Nat.testBit_two_pow_self] at this
theorem and_two (x i j : Nat) (c : Nat) (hc : c = 2 ^ i ||| 2 ^ j) : (x &&& c == c) = (x.testBit i && x.testBit j) := by
  subst hc
  have e1 := and_p2 x i
  have e2 := and_p2 x j
  by_cases h1 : x &&& 2 ^ i = 2 ^ i
  · by_cases h2 : x &&& 2 ^ j = 2 ^ j
    · have : x &&& (2 ^ i ||| 2 ^ j) = 2 ^ i ||| 2 ^ j := by rw [Nat.and_or_distrib_left, h1, h2]
      rw [this, ← e1, ← e2, h1, h2]; simp
    · have t2 : x.testBit j = false := by rw [← e2]; exact beq_eq_false_iff_ne.mpr h2
      rw [t2, Bool.and_false]
      refine beq_eq_false_iff_ne.mpr fun e => ?_
      have := congrArg (fun y => y.testBit j) e
      simp [Nat.testBit_and, Nat.testBit_or, t2, Nat.testBit_two_pow_self] at this
  · have t1 : x.testBit i = false := by rw [← e1]; exact beq_eq_false_iff_ne.mpr h1
    rw [t1, Bool.false_and]
    refine beq_eq_false_iff_ne.mpr fun e => ?_
    have := congrArg (fun y => y.testBit i) e
    simp [Nat.testBit_and, Nat.testBit_or, t1, Nat.testBit_two_pow_self] at this

noncomputable def permN (m : Int) (j : Nat) : Nat := (filemodeL m).getD (j + 1) 0
theorem bit_beq {m : Int} (hm : 0 ≤ m) (i : Nat) (c : Int) (hc : c = ((2 ^ i : Nat) : Int)) : (Builtin.bitAnd m c == c) = m.toNat.testBit i := by
  rw [hc, ba_beq hm, and_p2]
theorem bit_beq2 {m : Int} (hm : 0 ≤ m) (i j : Nat) (c : Int) (hc : c = ((2 ^ i ||| 2 ^ j : Nat) : Int)) : (Builtin.bitAnd m c == c) = (m.toNat.testBit i && m.toNat.testBit j) := by
  rw [hc, ba_beq hm, and_two _ i j _ rfl]
theorem char_one {m : Int} (hm : 0 ≤ m) {i c : Int} {k n : Nat} (hi : i ≠ 0) (hc : c = ((2 ^ k : Nat) : Int)) : charN m (i, [(c, n)]) = if m.toNat.testBit k then n else 45 := by
  have e : charN m (i, [(c, n)]) = (([(c, n)].find? (hit m i)).map (·.2)).getD (if i = 0 then 63 else 45) := rfl
  have h : hit m i (c, n) = m.toNat.testBit k := by
    show (if i = 0 then decide (Builtin.bitAnd m 61440 = c) else decide (Builtin.bitAnd m c = c)) = _
    rw [if_neg hi]; exact (bit_beq hm k c hc)
  rw [e, List.find?_cons, h]
  cases m.toNat.testBit k with
  | true => rfl
  | false => simp [hi]
theorem char_three {m : Int} (hm : 0 ≤ m) {i c1 c2 c3 : Int} {k l n1 n2 n3 : Nat} (hi : i ≠ 0) (h1 : c1 = ((2 ^ k ||| 2 ^ l : Nat) : Int)) (h2 : c2 = ((2 ^ k : Nat) : Int)) (h3 : c3 = ((2 ^ l : Nat) : Int)) :
    charN m (i, [(c1, n1), (c2, n2), (c3, n3)]) = if m.toNat.testBit k then (if m.toNat.testBit l then n1 else n2) else if m.toNat.testBit l then n3 else 45 := by
  have e : charN m (i, [(c1, n1), (c2, n2), (c3, n3)]) = (([(c1, n1), (c2, n2), (c3, n3)].find? (hit m i)).map (·.2)).getD (if i = 0 then 63 else 45) := rfl
  have g1 : hit m i (c1, n1) = (m.toNat.testBit k && m.toNat.testBit l) := by
    show (if i = 0 then decide (Builtin.bitAnd m 61440 = c1) else decide (Builtin.bitAnd m c1 = c1)) = _
    rw [if_neg hi]; exact (bit_beq2 hm k l c1 h1)
  have g2 : hit m i (c2, n2) = m.toNat.testBit k := by
    show (if i = 0 then decide (Builtin.bitAnd m 61440 = c2) else decide (Builtin.bitAnd m c2 = c2)) = _
    rw [if_neg hi]; exact (bit_beq hm k c2 h2)
  have g3 : hit m i (c3, n3) = m.toNat.testBit l := by
    show (if i = 0 then decide (Builtin.bitAnd m 61440 = c3) else decide (Builtin.bitAnd m c3 = c3)) = _
    rw [if_neg hi]; exact (bit_beq hm l c3 h3)
  rw [e, List.find?_cons, g1, List.find?_cons, g2, List.find?_cons, g3]
  cases m.toNat.testBit k <;> cases m.toNat.testBit l <;> simp [hi]
theorem perm_r {m : Int} (hm : 0 ≤ m) : permN m 0 = (if m.toNat.testBit 8 then 114 else 45) ∧ permN m 1 = (if m.toNat.testBit 7 then 119 else 45) ∧ permN m 3 = (if m.toNat.testBit 5 then 114 else 45) ∧ permN m 4 = (if m.toNat.testBit 4 then 119 else 45) ∧
    permN m 6 = (if m.toNat.testBit 2 then 114 else 45) ∧ permN m 7 = (if m.toNat.testBit 1 then 119 else 45) :=
  ⟨char_one hm (i := 1) (c := 256) (by decide) (by decide), char_one hm (i := 2) (c := 128) (by decide) (by decide), char_one hm (i := 4) (c := 32) (by decide) (by decide), char_one hm (i := 5) (c := 16) (by decide) (by decide), char_one hm (i := 7) (c := 4) (by decide) (by decide), char_one hm (i := 8) (c := 2) (by decide) (by decide)⟩
theorem perm_x {m : Int} (hm : 0 ≤ m) : permN m 2 = (if m.toNat.testBit 11 then (if m.toNat.testBit 6 then 115 else 83) else if m.toNat.testBit 6 then 120 else 45) ∧
    permN m 5 = (if m.toNat.testBit 10 then (if m.toNat.testBit 3 then 115 else 83) else if m.toNat.testBit 3 then 120 else 45) ∧
    permN m 8 = (if m.toNat.testBit 9 then (if m.toNat.testBit 0 then 116 else 84) else if m.toNat.testBit 0 then 120 else 45) :=
  ⟨char_three hm (i := 3) (c1 := 2112) (c2 := 2048) (c3 := 64) (by decide) (by decide) (by decide) (by decide), char_three hm (i := 6) (c1 := 1032) (c2 := 1024) (c3 := 8) (by decide) (by decide) (by decide) (by decide), char_three hm (i := 9) (c1 := 513) (c2 := 512) (c3 := 1) (by decide) (by decide) (by decide) (by decide)⟩
end Mine
namespace Mine
open PySem

theorem six : ∀ {j : Nat}, j < 6 → j = 0 ∨ j = 1 ∨ j = 2 ∨ j = 3 ∨ j = 4 ∨ j = 5 := by decide
theorem filter_sum {p : Nat → Bool} {f : Nat → Nat} : ∀ l : List Nat, ((l.filter p).map f).sum = (l.map fun j => if p j then f j else 0).sum
  | [] => rfl
  | a :: l => by
    have ih := filter_sum (p := p) (f := f) l
    rw [List.filter_cons, List.map_cons, List.sum_cons, ← ih]
    cases p a
    · simp
    · simp
noncomputable def lowT (p : Nat → Bool) : Nat → Nat
  | 0 => 0
  | k + 1 => (if p (5 - k) then 2 ^ k else 0) + lowT p k
theorem low_bits {p : Nat → Bool} : ∀ k, lowT p k < 2 ^ k ∧ ∀ i < k, (lowT p k).testBit i = p (5 - i)
  | 0 => ⟨Nat.one_pos, nofun⟩
  | k + 1 => by
    obtain ⟨h1, h2⟩ := low_bits (p := p) k
    have e : lowT p (k + 1) = 2 ^ k * (if p (5 - k) then 1 else 0) + lowT p k := by
      show (if p (5 - k) then 2 ^ k else 0) + lowT p k = _
      cases p (5 - k) <;> simp
    have h3 : 2 ^ (k + 1) = 2 ^ k + 2 ^ k := by rw [Nat.pow_succ]; omega
    refine ⟨?_, fun i hi => ?_⟩
    · rw [e, h3]
      cases p (5 - k)
      · simp; omega
      · simp; omega
    · rw [e, Nat.testBit_two_pow_mul_add _ h1]
      by_cases hik : i < k
      · rw [if_pos hik]; exact h2 i hik
      · have : i = k := by omega
        subst this
        rw [if_neg hik, Nat.sub_self]
        cases p (5 - i) <;> rfl
theorem sum_bits {p : Nat → Bool} : (((List.range 6).filter p).map fun j => 2 ^ (5 - j)).sum < 64 ∧ ∀ j < 6, ((((List.range 6).filter p).map fun j => 2 ^ (5 - j)).sum).testBit (5 - j) = p j := by
  have e : (((List.range 6).filter p).map fun j => 2 ^ (5 - j)).sum = lowT p 6 := by rw [filter_sum]; rfl
  obtain ⟨h1, h2⟩ := low_bits (p := p) 6
  rw [e]
  exact ⟨h1, fun j hj => by rw [h2 _ (by omega), show 5 - (5 - j) = j by omega]⟩
noncomputable def sumR (ns : List Nat) (k : Nat) : Nat := ((wonL ns k).map fun j => 2 ^ (5 - j)).sum
noncomputable def mdN (ns : List Nat) (k : Nat) : Nat := 2 ^ 9 * (ns.getD k 0 / 512) + (2 ^ 3 * sumR ns k + ns.getD k 0 % 8)
theorem pw8_sum : ∀ l : List Nat, (∀ j ∈ l, j < 6) → (l.map pw8).sum = ((8 * (l.map fun j => 2 ^ (5 - j)).sum : Nat) : Int)
  | [], _ => rfl
  | a :: l, h => by
    have ih := pw8_sum l fun j hj => h j (.tail _ hj)
    have e : ∀ j < 6, pw8 j = ((8 * 2 ^ (5 - j) : Nat) : Int) := by unfold pw8; decide
    rw [List.map_cons, List.sum_cons, ih, e a (h a (.head _)), List.map_cons, List.sum_cons, Nat.mul_add]
    push_cast; rfl
theorem won6 {ns : List Nat} {k : Nat} : ∀ j ∈ wonL ns k, j < 6 := fun j hj => List.mem_range.mp (List.mem_filter.mp hj).1
theorem rwF_eq {ns : List Nat} {k : Nat} : rwF ns k = filemodeL ((mdN ns k : Nat) : Int) := by
  unfold rwF modeR mdN
  rw [pw8_sum _ won6]
  show filemodeL (_ + ((8 * sumR ns k : Nat) : Int) + _) = _
  congr 1
  generalize sumR ns k = s
  generalize ns.getD k 0 = n
  rw [Int.fdiv_eq_ediv_of_nonneg _ (by decide), Int.fmod_eq_emod_of_nonneg _ (by decide)]
  omega
theorem md_bits {ns : List Nat} {k j : Nat} (hj : j < 6) : (mdN ns k).testBit (8 - j) = (dueL ns j).contains k := by
  obtain ⟨h1, h2⟩ := sum_bits (p := fun j => (dueL ns j).contains k)
  have h1 : sumR ns k < 64 := h1
  have b8 : ns.getD k 0 % 8 < 2 ^ 3 := Nat.mod_lt _ (by decide)
  have b9 : 2 ^ 3 * sumR ns k + ns.getD k 0 % 8 < 2 ^ 9 := by omega
  have h2 : (sumR ns k).testBit (5 - j) = _ := h2 j hj
  unfold mdN
  rw [Nat.testBit_two_pow_mul_add _ b9, if_pos (by omega), Nat.testBit_two_pow_mul_add _ b8, if_neg (by omega), ← h2]
  congr 1; omega
theorem row_tell {ns : List Nat} {k j : Nat} (hj : j < 6) : fitT (pcJ j) ((rwF ns k).getD (j + 1) 0) = (dueL ns j).contains k := by
  obtain ⟨r0, r1, r3, r4, _, _⟩ := perm_r (m := ((mdN ns k : Nat) : Int)) (Int.natCast_nonneg _)
  obtain ⟨p0, p1, _⟩ := perm_x (m := ((mdN ns k : Nat) : Int)) (Int.natCast_nonneg _)
  rw [Int.toNat_natCast] at r0 r1 r3 r4 p0 p1
  rw [rwF_eq]
  have hb := md_bits (ns := ns) (k := k) hj
  show fitT (pcJ j) (permN ((mdN ns k : Nat) : Int) j) = _
  rw [← hb]
  rcases six hj with rfl | rfl | rfl | rfl | rfl | rfl
  · rw [r0]; cases (mdN ns k).testBit 8 <;> rfl
  · rw [r1]; cases (mdN ns k).testBit 7 <;> rfl
  · rw [p0]; cases (mdN ns k).testBit 11 <;> cases (mdN ns k).testBit 6 <;> rfl
  · rw [r3]; cases (mdN ns k).testBit 5 <;> rfl
  · rw [r4]; cases (mdN ns k).testBit 4 <;> rfl
  · rw [p1]; cases (mdN ns k).testBit 10 <;> cases (mdN ns k).testBit 3 <;> rfl
theorem rst_getR {c j : Nat} : ∀ r : List Nat, (rstL c r.reverse).getD j c = r.reverse.getD j c
  | [] => rfl
  | a :: r => by
    have ih := rst_getR (c := c) (j := j) r
    rw [List.reverse_cons]
    by_cases h : a = c
    · subst h
      rw [rst_same, ih, List.getD_eq_getElem?_getD, List.getD_eq_getElem?_getD]
      by_cases hj : j < r.reverse.length
      · rw [List.getElem?_append_left hj]
      · rw [List.getElem?_append_right (by omega), List.getElem?_eq_none (by omega)]
        by_cases h0 : j - r.reverse.length = 0
        · rw [h0]; rfl
        · rw [List.getElem?_eq_none (by rw [List.length_singleton]; omega)]
    · rw [rst_ne h]
theorem rst_get {c j : Nat} {l : List Nat} : (rstL c l).getD j c = l.getD j c := by
  have := rst_getR (c := c) (j := j) l.reverse
  rw [List.reverse_reverse] at this
  exact this
theorem takes_iff {ps w : List Nat} : takesB ps w = true ↔ ∀ j, fitT (ps.getD j 0) (w.getD j 0) = true := by
  unfold takesB
  rw [List.all_eq_true]
  constructor
  · intro h j
    by_cases hj : j < ps.length
    · exact h j (List.mem_range.mpr hj)
    · rw [List.getD_eq_getElem?_getD, List.getElem?_eq_none (by omega)]; rfl
  · intro h j z_
    exact h j
set_option tactic.hygienic true in
theorem tk_is {ns files : List Nat} {k : Nat} : tkB files (rwF ns k) = true ↔ ∀ j < 6, j ∈ files → (dueL ns j).contains k = true := by
  unfold tkB psN
  rw [takes_iff]
  have e : ∀ j < 6, ((List.range 6).map (pN files)).getD j 0 = pN files j := fun j hj => by
    rw [List.getD_eq_getElem?_getD, List.getElem?_map, List.getElem?_range hj]; rfl
  constructor
  · intro h j hj hm
    have h1 := h (j + 1)
    rw [List.getD_cons_succ, rst_get, e j hj] at h1
    unfold pN at h1
    rw [if_pos (List.contains_iff_mem.mpr hm), row_tell hj] at h1
    exact h1
  · intro h j
    cases j with
    | zero => rfl
    | succ j =>
      rw [List.getD_cons_succ, rst_get]
      by_cases hj : j < 6
      · rw [e j hj]
        unfold pN
        split
        · rename_i hm
          rw [row_tell hj]
          exact h j hj (List.contains_iff_mem.mp hm)
        · rfl
      · rw [List.getD_eq_getElem?_getD, List.getElem?_eq_none (by rw [List.length_map, List.length_range]; omega)]; rfl
end Mine
namespace Mine
open PySem

theorem bitV_sym {ns : List Nat} {j k : Nat} : bitV ns j k = bitV ns k j := by
  unfold bitV
  rw [Nat.max_comm, Nat.min_comm]
theorem due_self {ns : List Nat} {j : Nat} : dueB ns j j = false := by
  unfold dueB
  rw [decide_eq_true rfl]; rfl
theorem due_anti {ns : List Nat} {j k : Nat} (h : j ≠ k) : dueB ns j k = !dueB ns k j := by
  unfold dueB
  rw [bitV_sym, decide_eq_false (show ¬ (k : Int) = (j : Int) by omega), decide_eq_false (show ¬ (j : Int) = (k : Int) by omega)]
  by_cases h1 : j < k
  · rw [decide_eq_true (show (j : Int) < (k : Int) by omega), decide_eq_false (show ¬ (k : Int) < (j : Int) by omega)]
    cases decide (bitV ns k j = 1) <;> rfl
  · rw [decide_eq_false (show ¬ (j : Int) < (k : Int) by omega), decide_eq_true (show (k : Int) < (j : Int) by omega)]
    cases decide (bitV ns k j = 1) <;> rfl
theorem due_has {ns : List Nat} {j k : Nat} (hk : k < 6) : (dueL ns j).contains k = dueB ns j k := by
  unfold dueL
  rw [Bool.eq_iff_iff, List.contains_iff_mem, List.mem_filter, List.mem_range]
  exact ⟨fun h => h.2, fun h => ⟨hk, h⟩⟩
theorem cnt_due {ns : List Nat} {j k : Nat} (hk : k < 6) : (dueL ns j).count k = if dueB ns j k then 1 else 0 := by
  have hn : (dueL ns j).Nodup := List.Nodup.sublist List.filter_sublist List.nodup_range
  rw [hn.count, ← due_has hk]
  cases h : (dueL ns j).contains k with
  | true => rw [if_pos (List.contains_iff_mem.mp h)]; rfl
  | false => rw [if_neg (fun q => by rw [List.contains_iff_mem.mpr q] at h; cases h)]; rfl
noncomputable def eOf (ns : List Nat) (i : Nat) : Bool := dueB ns ([0, 0, 0, 0, 0, 1, 1, 1, 1, 2, 2, 2, 3, 3, 4].getD i 0) ([1, 2, 3, 4, 5, 2, 3, 4, 5, 3, 4, 5, 4, 5, 5].getD i 0)
theorem e_key : ∀ x < 6, ∀ y < x, [0, 0, 0, 0, 0, 1, 1, 1, 1, 2, 2, 2, 3, 3, 4].getD (eIx x y) 0 = y ∧ [1, 2, 3, 4, 5, 2, 3, 4, 5, 3, 4, 5, 4, 5, 5].getD (eIx x y) 0 = x ∧ eIx y x = eIx x y := by decide +kernel
theorem be_due {ns : List Nat} {x y : Nat} (hx : x < 6) (hy : y < 6) (h : x ≠ y) : beA (bB (eOf ns)) x y = dueB ns y x := by
  unfold beA
  by_cases hl : y < x
  · obtain ⟨e1, e2, _⟩ := e_key x hx y hl
    have hb : Nat.blt y x = true := by rw [Nat.blt_eq]; exact hl
    rw [hb]
    show eOf ns (eIx x y) = _
    unfold eOf
    rw [e1, e2]
  · have hl' : x < y := by omega
    obtain ⟨e1, e2, e3⟩ := e_key y hy x hl'
    have hb : Nat.blt y x = false := by
      cases hb : Nat.blt y x with
      | false => rfl
      | true => rw [Nat.blt_eq] at hb; omega
    rw [hb]
    show (!eOf ns (eIx x y)) = _
    unfold eOf
    rw [e3, e1, e2, due_anti h, Bool.not_not]
theorem dI_val {ns : List Nat} {x y : Nat} (hx : x < 6) (hy : y < 6) (h : x ≠ y) : dI ns x y = sgI (dueB ns y x) := by
  unfold dI
  rw [cnt_due hx, cnt_due hy, due_anti h]
  cases dueB ns y x <;> rfl
theorem dI_sg {ns : List Nat} : ∀ x < 6, ∀ y < 6, x ≠ y → dI ns x y = sgI (beA (bB (eOf ns)) x y) := fun x hx y hy h => by rw [dI_val hx hy h, be_due hx hy h]
theorem dI_self {ns : List Nat} (x : Nat) : dI ns x x = 0 := by unfold dI; omega
theorem dI_anti {ns : List Nat} (x y : Nat) : dI ns x y = - dI ns y x := by unfold dI; omega
theorem sum_neg {d : Nat → Nat → Int} {x : Nat} : ∀ (ws : List Int) (S : List Nat), sumI d (ws.map fun w => -w) S x = - sumI d ws S x
  | [], _ => by unfold sumI; rfl
  | _ :: _, [] => by unfold sumI; rfl
  | w :: ws, s :: S => by
    have ih := sum_neg (d := d) (x := x) ws S
    unfold sumI at ih ⊢
    rw [List.map_cons, List.zip_cons_cons, List.map_cons, List.sum_cons, ih, List.zip_cons_cons, List.map_cons, List.sum_cons, Int.neg_add, Int.neg_mul]
noncomputable def pf3 (e1 e2 e3 r0 r1 r2 : Int) : Int := (-1 : Int) ^ 0 * e3 * r0 + ((-1 : Int) ^ 1 * e2 * r1 + ((-1 : Int) ^ 2 * e1 * r2 + 0))
noncomputable def pf5 (e1 e2 e3 e4 e5 e6 e7 e8 e9 e0 r0 r1 r2 r3 r4 : Int) : Int := (-1 : Int) ^ 0 * (e5 * e0 - e6 * e9 + e7 * e8) * r0 + ((-1 : Int) ^ 1 * (e2 * e0 - e3 * e9 + e4 * e8) * r1 + ((-1 : Int) ^ 2 * (e1 * e0 - e3 * e7 + e4 * e6) * r2 + ((-1 : Int) ^ 3 * (e1 * e9 - e2 * e7 + e4 * e5) * r3 + ((-1 : Int) ^ 4 * (e1 * e8 - e2 * e6 + e3 * e5) * r4 + 0))))
theorem pf5_0 : ∀ b1 b2 b3 b4 b5 b6 b7 b8 b9 b0 : Bool, pf5 (sgI b1) (sgI b2) (sgI b3) (sgI b4) (sgI b5) (sgI b6) (sgI b7) (sgI b8) (sgI b9) (sgI b0) 0 (sgI b1) (sgI b2) (sgI b3) (sgI b4) = 0 ∧ pf5 (sgI b1) (sgI b2) (sgI b3) (sgI b4) (sgI b5) (sgI b6) (sgI b7) (sgI b8) (sgI b9) (sgI b0) (-(sgI b1)) 0 (sgI b5) (sgI b6) (sgI b7) = 0 ∧ pf5 (sgI b1) (sgI b2) (sgI b3) (sgI b4) (sgI b5) (sgI b6) (sgI b7) (sgI b8) (sgI b9) (sgI b0) (-(sgI b2)) (-(sgI b5)) 0 (sgI b8) (sgI b9) = 0 ∧ pf5 (sgI b1) (sgI b2) (sgI b3) (sgI b4) (sgI b5) (sgI b6) (sgI b7) (sgI b8) (sgI b9) (sgI b0) (-(sgI b3)) (-(sgI b6)) (-(sgI b8)) 0 (sgI b0) = 0 ∧ pf5 (sgI b1) (sgI b2) (sgI b3) (sgI b4) (sgI b5) (sgI b6) (sgI b7) (sgI b8) (sgI b9) (sgI b0) (-(sgI b4)) (-(sgI b7)) (-(sgI b9)) (-(sgI b0)) 0 = 0 := by decide +kernel
theorem pf3_0 : ∀ b1 b2 b3 : Bool, pf3 (sgI b1) (sgI b2) (sgI b3) 0 (sgI b1) (sgI b2) = 0 ∧ pf3 (sgI b1) (sgI b2) (sgI b3) (-(sgI b1)) 0 (sgI b3) = 0 ∧ pf3 (sgI b1) (sgI b2) (sgI b3) (-(sgI b2)) (-(sgI b3)) 0 = 0 := by decide +kernel
theorem bal_w0 {d : Nat → Nat → Int} (h0 : ∀ x, d x x = 0) (ha : ∀ x y, d x y = - d y x) {S : List Nat} (h1 : ∀ x ∈ S, ∀ y ∈ S, x ≠ y → ∃ b, d x y = sgI b) (hn : S.Nodup) (hl : S.length = 1 ∨ S.length = 3 ∨ S.length = 5) {x : Nat} (hx : x ∈ S) : sumI d (w0I d S) S x = 0 := by
  rcases hl with h | h | h
  · obtain ⟨a, r0_, rfl, hq0_⟩ := lcons h
    obtain rfl := List.length_eq_zero_iff.mp hq0_
    have hx := List.mem_singleton.mp hx
    subst hx
    show (-1 : Int) ^ 0 * 1 * d x x + 0 = 0
    rw [h0]; rfl
  · obtain ⟨a, r0_, rfl, hq0_⟩ := lcons h
    obtain ⟨b, r1_, rfl, hq1_⟩ := lcons hq0_
    obtain ⟨c, r2_, rfl, hq2_⟩ := lcons hq1_
    obtain rfl := List.length_eq_zero_iff.mp hq2_
    show pf3 (d a b) (d a c) (d b c) (d x a) (d x b) (d x c) = 0
    simp only [List.mem_cons, List.not_mem_nil, or_false] at hx
    simp only [List.nodup_cons, List.mem_cons, List.not_mem_nil, or_false, not_or] at hn
    obtain ⟨⟨n1, n2⟩, n3, _⟩ := hn
    obtain ⟨b1, e1⟩ := h1 a (.head _) b (.tail _ (.head _)) n1
    obtain ⟨b2, e2⟩ := h1 a (.head _) c (.tail _ (.tail _ (.head _))) n2
    obtain ⟨b3, e3⟩ := h1 b (.tail _ (.head _)) c (.tail _ (.tail _ (.head _))) n3
    obtain ⟨q0, q1, q2⟩ := pf3_0 b1 b2 b3
    rw [e1, e2, e3]
    rcases hx with rfl | rfl | rfl
    · rw [h0 x, e1, e2]; exact q0
    · rw [ha x a, e1, h0 x, e3]; exact q1
    · rw [ha x a, e2, ha x b, e3, h0 x]; exact q2
  · obtain ⟨a, r0_, rfl, hq0_⟩ := lcons h
    obtain ⟨b, r1_, rfl, hq1_⟩ := lcons hq0_
    obtain ⟨c, r2_, rfl, hq2_⟩ := lcons hq1_
    obtain ⟨p, r3_, rfl, hq3_⟩ := lcons hq2_
    obtain ⟨q, r4_, rfl, hq4_⟩ := lcons hq3_
    obtain rfl := List.length_eq_zero_iff.mp hq4_
    show pf5 (d a b) (d a c) (d a p) (d a q) (d b c) (d b p) (d b q) (d c p) (d c q) (d p q) (d x a) (d x b) (d x c) (d x p) (d x q) = 0
    simp only [List.mem_cons, List.not_mem_nil, or_false] at hx
    simp only [List.nodup_cons, List.mem_cons, List.not_mem_nil, or_false, not_or] at hn
    obtain ⟨⟨n1, n2, n3, n4⟩, ⟨n5, n6, n7⟩, ⟨n8, n9⟩, n10, _⟩ := hn
    have ma : a ∈ [a, b, c, p, q] := .head _
    have mb : b ∈ [a, b, c, p, q] := .tail _ (.head _)
    have mc : c ∈ [a, b, c, p, q] := .tail _ (.tail _ (.head _))
    have mp : p ∈ [a, b, c, p, q] := .tail _ (.tail _ (.tail _ (.head _)))
    have mq : q ∈ [a, b, c, p, q] := .tail _ (.tail _ (.tail _ (.tail _ (.head _))))
    obtain ⟨b1, e1⟩ := h1 a ma b mb n1
    obtain ⟨b2, e2⟩ := h1 a ma c mc n2
    obtain ⟨b3, e3⟩ := h1 a ma p mp n3
    obtain ⟨b4, e4⟩ := h1 a ma q mq n4
    obtain ⟨b5, e5⟩ := h1 b mb c mc n5
    obtain ⟨b6, e6⟩ := h1 b mb p mp n6
    obtain ⟨b7, e7⟩ := h1 b mb q mq n7
    obtain ⟨b8, e8⟩ := h1 c mc p mp n8
    obtain ⟨b9, e9⟩ := h1 c mc q mq n9
    obtain ⟨b0, e0⟩ := h1 p mp q mq n10
    obtain ⟨q0, q1, q2, q3, q4⟩ := pf5_0 b1 b2 b3 b4 b5 b6 b7 b8 b9 b0
    rw [e1, e2, e3, e4, e5, e6, e7, e8, e9, e0]
    rcases hx with rfl | rfl | rfl | rfl | rfl
    · rw [h0 x, e1, e2, e3, e4]; exact q0
    · rw [ha x a, e1, h0 x, e5, e6, e7]; exact q1
    · rw [ha x a, e2, ha x b, e5, h0 x, e8, e9]; exact q2
    · rw [ha x a, e3, ha x b, e6, ha x c, e8, h0 x, e0]; exact q3
    · rw [ha x a, e4, ha x b, e7, ha x c, e9, ha x p, e0, h0 x]; exact q4
theorem sets_odd : ∀ S ∈ setsL, S.length = 1 ∨ S.length = 3 ∨ S.length = 5 := by decide +kernel
theorem bal_ws {d : Nat → Nat → Int} (h0 : ∀ x, d x x = 0) (ha : ∀ x y, d x y = - d y x) (h1 : ∀ x < 6, ∀ y < 6, x ≠ y → ∃ b, d x y = sgI b) {S : List Nat} (hS : S ∈ setsL) {x : Nat} (hx : x ∈ S) : sumI d (wsI d S) S x = 0 := by
  have h6 := sets6 S hS
  have h := bal_w0 h0 ha (fun x hx y hy => h1 x (h6 x hx) y (h6 y hy)) (rm_ok S hS).2.2.2.1 (sets_odd S hS) hx
  unfold wsI
  split
  · exact h
  · rw [sum_neg, h]; rfl
theorem dI_b {ns : List Nat} : ∀ x < 6, ∀ y < 6, x ≠ y → ∃ b, dI ns x y = sgI b := fun x hx y hy h => ⟨_, dI_val hx hy h⟩
end Mine
namespace Mine
open PySem

noncomputable def tkN (l : List (Int × Nat)) (k : Nat) : Nat := (l.map fun p => if p.2 = k then p.1.toNat else 0).sum
noncomputable def tkT (l : List (Int × Nat)) (k t : Nat) : Nat := (l.map fun p => if p.2 = k then min p.1.toNat t else 0).sum
section
variable {rw : Nat → List Nat} {q : List Nat × List Nat → Bool} {k t : Nat}
theorem turn_one (a : Int) (t : Nat) : min a.toNat t + (if decide ((t : Int) < a) = true then 1 else 0) = min a.toNat (t + 1) := by
  by_cases h : (t : Int) < a
  · rw [decide_eq_true h, if_pos rfl, Nat.min_eq_right (by omega), Nat.min_eq_right (by omega)]
  · rw [decide_eq_false h, if_neg Bool.false_ne_true, Nat.min_eq_left (by omega), Nat.min_eq_left (by omega), Nat.add_zero]
theorem turn_cnt : ∀ l : List (Int × Nat), (∀ p ∈ l, q (drE rw t p) = decide (p.2 = k)) → tkT l k t + (turnL rw l t).countP q = tkT l k (t + 1)
  | [], _ => rfl
  | p :: l, h => by
    have ih := turn_cnt l fun p hp => h p (.tail _ hp)
    have h0 := h p (.head _)
    have e1 : ∀ t, tkT (p :: l) k t = (if p.2 = k then min p.1.toNat t else 0) + tkT l k t := fun z_ => rfl
    have e2 : (turnL rw (p :: l) t).countP q = (if p.2 = k then (if decide ((t : Int) < p.1) = true then 1 else 0) else 0) + (turnL rw l t).countP q := by
      unfold turnL
      rw [List.filter_cons]
      cases decide ((t : Int) < p.1) with
      | true =>
        rw [if_pos rfl, List.map_cons, List.countP_cons, h0, Nat.add_comm]
        by_cases hk : p.2 = k
        · rw [if_pos hk, decide_eq_true hk, if_pos rfl]
        · rw [if_neg hk, decide_eq_false hk, if_neg Bool.false_ne_true]
      | false =>
        rw [if_neg Bool.false_ne_true, if_neg Bool.false_ne_true]
        split <;> exact (Nat.zero_add _).symm
    rw [e1, e1, e2, ← ih]
    by_cases hk : p.2 = k
    · rw [if_pos hk, if_pos hk, if_pos hk, ← turn_one p.1 t]
      exact Nat.add_add_add_comm _ _ _ _
    · rw [if_neg hk, if_neg hk, if_neg hk, Nat.zero_add, Nat.zero_add, Nat.zero_add]
theorem drum_cnt {l : List (Int × Nat)} (h : ∀ t, ∀ p ∈ l, q (drE rw t p) = decide (p.2 = k)) : ∀ t, (drumL rw l t).countP q = tkT l k t
  | 0 => by
    have : ∀ l : List (Int × Nat), tkT l k 0 = 0 := fun l => by
      induction l with
      | nil => rfl
      | cons a l ih =>
        unfold tkT at ih ⊢
        rw [List.map_cons, List.sum_cons, ih]
        split <;> omega
    rw [this]; rfl
  | t + 1 => by
    have ih := drum_cnt h t
    have h2 := turn_cnt (rw := rw) (q := q) (k := k) (t := t) l (h t)
    show (drumL rw l t ++ turnL rw l t).countP q = _
    rw [List.countP_append]; omega
theorem tk_all {l : List (Int × Nat)} (h : ∀ p ∈ l, p.1.toNat ≤ t) : tkT l k t = tkN l k := by
  unfold tkT tkN
  congr 1
  exact List.map_congr_left fun p hp => by rw [Nat.min_eq_left (h p hp)]
end
theorem let_is : ∀ t < 2, ∀ a < 6, ∀ k < 6, decide ([[97, 98, 99, 100, 101, 102, 65, 66, 67, 68, 69, 70].getD (a + t * 6) 0].map lowerC = [bigL k].map lowerC) = decide (a = k) := by decide
theorem row_inj {ns : List Nat} {a b : Nat} (ha : a < 6) (hb : b < 6) (h : rwF ns a = rwF ns b) : a = b := by
  by_cases hn : a = b
  · exact hn
  · have h1 : (dueL ns a).contains b = (dueL ns a).contains a := by rw [← row_tell ha, ← row_tell ha, h]
    have h2 : (dueL ns b).contains b = (dueL ns b).contains a := by rw [← row_tell hb, ← row_tell hb, h]
    rw [due_has hb, due_has ha, due_self] at h1
    rw [due_has hb, due_has ha, due_self, due_anti (Ne.symm hn), h1] at h2
    cases h2
section
variable {ns S : List Nat} (h6 : ∀ x ∈ S, x < 6) (hw : ∀ w ∈ wsI (dI ns) S, 1 ≤ w ∧ w ≤ 3)
include h6 hw
theorem mx_all : ∀ p ∈ (wsI (dI ns) S).zip S, p.1.toNat ≤ (mxI (wsI (dI ns) S)).toNat := fun p hp => by
  have hm := (List.of_mem_zip hp).1
  have := (mx_facts _ (List.ne_nil_of_mem hm)).2 _ hm
  omega
theorem held_is {k : Nat} (hk : k < 6) : heldN ns S k = tkN ((wsI (dI ns) S).zip S) k := by
  unfold heldN allH tickL
  rw [List.length_map, ← List.countP_eq_length_filter, drum_cnt (k := k) fun t p hp => ?_, tk_all (mx_all h6 hw)]
  exact let_is (t % 2) (Nat.mod_lt _ (by decide)) p.2 (h6 _ (List.of_mem_zip hp).2) k hk
theorem cnt_is {k : Nat} (hk : k < 6) : cntN ns S k = tkN ((wsI (dI ns) S).zip S) k := by
  unfold cntN tickL
  rw [List.countP_map, drum_cnt (k := k) fun t p hp => ?_, tk_all (mx_all h6 hw)]
  have hp := h6 _ (List.of_mem_zip hp).2
  show decide (rwF ns p.2 = rwF ns k) = _
  exact decide_eq_decide.mpr ⟨fun h => row_inj hp hk h, fun h => by rw [h]⟩
end
theorem sum_sub {a b : Nat → Nat} {c : Nat → Int} : ∀ L : List Nat, (∀ k ∈ L, (a k : Int) - b k = c k) → (((L.map a).sum : Nat) : Int) - ((L.map b).sum : Nat) = (L.map c).sum
  | [], _ => rfl
  | k :: L, h => by
    have ih := sum_sub L fun k hk => h k (.tail _ hk)
    have := h k (.head _)
    rw [List.map_cons, List.sum_cons, List.map_cons, List.sum_cons, List.map_cons, List.sum_cons]
    omega
theorem pick_n {f : Nat → Int} {w : Int} {a : Nat} : ∀ n, ((List.range n).map fun k => (if a = k then w else 0) * f k).sum = if a < n then w * f a else 0
  | 0 => rfl
  | n + 1 => by
    rw [List.range_succ, List.map_append, List.sum_append, pick_n n, List.map_singleton, List.sum_singleton]
    by_cases h : a = n
    · subst h
      rw [if_neg (Nat.lt_irrefl _), if_pos rfl, if_pos (Nat.lt_succ_self _), Int.zero_add]
    · rw [if_neg h, Int.zero_mul, Int.add_zero]
      by_cases h2 : a < n
      · rw [if_pos h2, if_pos (Nat.lt_succ_of_lt h2)]
      · rw [if_neg h2, if_neg (by omega)]
theorem pick_six {a : Nat} (ha : a < 6) {f : Nat → Int} {w : Int} : ((List.range 6).map fun k => (if a = k then w else 0) * f k).sum = w * f a := (pick_n 6).trans (if_pos ha)
theorem sum_add {a b : Nat → Int} : ∀ L : List Nat, (L.map fun k => a k + b k).sum = (L.map a).sum + (L.map b).sum
  | [] => rfl
  | k :: L => by
    have ih := sum_add (a := a) (b := b) L
    rw [List.map_cons, List.sum_cons, List.map_cons, List.sum_cons, List.map_cons, List.sum_cons, ih]
    omega
theorem exch {f : Nat → Int} : ∀ l : List (Int × Nat), (∀ p ∈ l, p.2 < 6 ∧ 0 ≤ p.1) → ((List.range 6).map fun k => (tkN l k : Int) * f k).sum = (l.map fun p => p.1 * f p.2).sum
  | [], _ => by
    show (0 : Int) * f 0 + (0 * f 1 + (0 * f 2 + (0 * f 3 + (0 * f 4 + (0 * f 5 + 0))))) = 0
    simp
  | p :: l, h => by
    have ih := exch (f := f) l fun p hp => h p (.tail _ hp)
    obtain ⟨h1, h2⟩ := h p (.head _)
    rw [List.map_cons, List.sum_cons, ← ih, ← pick_six h1, ← sum_add]
    congr 1
    refine List.map_congr_left fun k z_ => ?_
    rw [← Int.add_mul]
    congr 1
    unfold tkN
    rw [List.map_cons, List.sum_cons]
    split <;> omega
theorem zip_lt {f g : Nat → Int} : ∀ l : List (Int × Nat), (∀ p ∈ l, 1 ≤ p.1 ∧ f p.2 ≤ g p.2) → (l.map fun p => p.1 * f p.2).sum ≤ (l.map fun p => p.1 * g p.2).sum ∧ ((∃ p ∈ l, f p.2 < g p.2) → (l.map fun p => p.1 * f p.2).sum < (l.map fun p => p.1 * g p.2).sum)
  | [], _ => ⟨Int.le_refl _, fun ⟨_, h, _⟩ => nomatch h⟩
  | p :: l, h => by
    obtain ⟨i1, i2⟩ := zip_lt l fun p hp => h p (.tail _ hp)
    obtain ⟨h1, h2⟩ := h p (.head _)
    have h3 : p.1 * f p.2 ≤ p.1 * g p.2 := Int.mul_le_mul_of_nonneg_left h2 (by omega)
    rw [List.map_cons, List.sum_cons, List.map_cons, List.sum_cons]
    refine ⟨by omega, ?_⟩
    rintro ⟨r, hr, hlt⟩
    rcases List.mem_cons.mp hr with rfl | hr
    · have : r.1 * f r.2 < r.1 * g r.2 := Int.mul_lt_mul_of_pos_left hlt (by omega)
      omega
    · have := i2 ⟨r, hr, hlt⟩
      omega
theorem dI_bits {ns : List Nat} {x y : Nat} (hx : x < 6) (hy : y < 6) : dI ns x y = (if dueB ns y x then 1 else 0 : Nat) - (if dueB ns x y then 1 else 0 : Nat) := by
  unfold dI
  rw [cnt_due hx, cnt_due hy]
section
variable {ns S : List Nat} (hS : S ∈ setsL) (hw : ∀ w ∈ wsI (dI ns) S, 1 ≤ w ∧ w ≤ 3) (ho : ∀ x ∈ outL S, sumI (dI ns) (wsI (dI ns) S) S x < 0)
include hS hw
theorem lost_won {j : Nat} (hj : j < 6) : (lostN ns S j : Int) - (wonN ns S j : Int) = - sumI (dI ns) (wsI (dI ns) S) S j := by
  have h6 := sets6 S hS
  have e1 : lostN ns S j = ((List.range 6).map fun k => if dueB ns j k then cntN ns S k else 0).sum := filter_sum _
  have e2 : wonN ns S j = ((List.range 6).map fun k => if (dueL ns k).contains j then heldN ns S k else 0).sum := filter_sum _
  have e3 := sum_sub (a := fun k => if dueB ns j k then cntN ns S k else 0) (b := fun k => if (dueL ns k).contains j then heldN ns S k else 0) (c := fun k => (tkN ((wsI (dI ns) S).zip S) k : Int) * dI ns k j) (List.range 6) (by
    intro k hk
    have hk := List.mem_range.mp hk
    rw [cnt_is h6 hw hk, held_is h6 hw hk, due_has hj, dI_bits hk hj]
    cases dueB ns j k <;> cases dueB ns k j <;> simp)
  rw [e1, e2, e3, exch _ (by
    intro p hp
    have hp := List.of_mem_zip hp
    have := hw _ hp.1
    exact ⟨h6 _ hp.2, by omega⟩)]
  unfold sumI
  generalize (wsI (dI ns) S).zip S = l
  induction l with
  | nil => rfl
  | cons a l ih =>
    rw [List.map_cons, List.sum_cons, List.map_cons, List.sum_cons, ih, dI_anti a.2 j, Int.mul_neg]; omega
include ho
theorem bad_no {j : Nat} (hj : j < 6) : badB ns S j = false := by
  have h := lost_won hS hw hj
  unfold badB
  by_cases hm : j ∈ S
  · rw [bal_ws dI_self dI_anti dI_b hS hm] at h
    rw [decide_eq_false (by omega), decide_eq_false (by omega), List.contains_iff_mem.mpr hm]; rfl
  · have hc : S.contains j = false := by
      cases hc : S.contains j with
      | false => rfl
      | true => exact absurd (List.contains_iff_mem.mp hc) hm
    have := ho j (List.mem_filter.mpr ⟨List.mem_range.mpr hj, by rw [hc]; rfl⟩)
    rw [decide_eq_false (by omega), decide_eq_true (by omega), hc]; rfl
theorem cov_no {k x : Nat} (hk : k ∈ S) (hx : x < 6) : tkB (covL ns k) (rwF ns x) = false := by
  have h6 := sets6 S hS
  have hk6 := h6 k hk
  cases ht : tkB (covL ns k) (rwF ns x) with
  | false => rfl
  | true =>
    exfalso
    have h := tk_is.mp ht
    have hc : ∀ j < 6, (j = k ∨ dueB ns j k = true) → dueB ns j x = true := fun j hj hh => by
      rw [← due_has hx]
      refine h j hj (List.mem_filter.mpr ⟨List.mem_range.mpr hj, ?_⟩)
      rw [Bool.or_eq_true, due_has hk6, decide_eq_true_eq]
      exact hh.imp (fun e => by rw [e]) id
    have hkx := hc k hk6 (.inl rfl)
    have hne : k ≠ x := fun e => by subst e; rw [due_self] at hkx; cases hkx
    have hge : ∀ y < 6, dI ns k y ≤ dI ns x y := fun y hy => by
      rw [dI_bits hk6 hy, dI_bits hx hy]
      cases h1 : dueB ns y k with
      | true =>
        have h2 := hc y hy (.inr h1)
        rw [h2]
        have h3 : dueB ns x y = false := by
          rw [due_anti (fun e => by subst e; rw [due_self] at h2; cases h2), h2]; rfl
        rw [h3]
        cases dueB ns k y <;> decide
      | false =>
        by_cases hyk : y = k
        · subst hyk
          rw [hkx, due_self, due_anti (Ne.symm hne), hkx]; decide
        · rw [due_anti (j := k) (k := y) (Ne.symm hyk), h1]
          cases dueB ns y x <;> cases dueB ns x y <;> decide
    have hlt : dI ns k k < dI ns x k := by
      rw [dI_bits hk6 hk6, dI_bits hx hk6, hkx, due_self, due_anti (Ne.symm hne), hkx]; decide
    have hl : ((wsI (dI ns) S).zip S).map Prod.snd = S := List.map_snd_zip (by rw [ws_len]; exact Nat.le_refl _)
    obtain ⟨p, hp, e⟩ : ∃ p ∈ (wsI (dI ns) S).zip S, p.2 = k := by
      have hk' := hk
      rw [← hl] at hk'
      exact List.mem_map.mp hk'
    have hs : sumI (dI ns) (wsI (dI ns) S) S k < sumI (dI ns) (wsI (dI ns) S) S x :=
      (zip_lt (f := dI ns k) (g := dI ns x) _ fun p hp => ⟨(hw _ (List.of_mem_zip hp).1).1, hge _ (h6 _ (List.of_mem_zip hp).2)⟩).2 ⟨p, hp, by rw [e]; exact hlt⟩
    rw [bal_ws dI_self dI_anti dI_b hS hk] at hs
    by_cases hm : x ∈ S
    · rw [bal_ws dI_self dI_anti dI_b hS hm] at hs; omega
    · have hcn : S.contains x = false := by
        cases hc : S.contains x with
        | false => rfl
        | true => exact absurd (List.contains_iff_mem.mp hc) hm
      have := ho x (List.mem_filter.mpr ⟨List.mem_range.mpr hx, by rw [hcn]; rfl⟩)
      omega
end
theorem ov_due {ns : List Nat} : ∀ j < 6, ovL ns j = dueL ns j := fun j hj => by
  unfold ovL dueL
  refine List.filter_congr fun k hk => ?_
  have hk := List.mem_range.mp hk
  rw [Bool.eq_iff_iff, tk_is, ← due_has hk]
  exact ⟨fun h => h j hj (.head _), fun h i z_ hi => by rw [List.mem_singleton.mp hi]; exact h⟩
theorem law_true {B : Base} {k : Nat} {st : Sto} (L : LawB B) (T : LawT B) {s : List Int} (hs : s.length ≤ 63) : FnG B (k + 14) "law" [.scr (s.map .int)] [] st (.bool true) st := by
  obtain ⟨S, hS, hf, hw, ho⟩ := one_fair (d := dI (xsL s)) dI_sg
  exact law_ok L T hs hS ov_due hf hw (fun j hj => bad_no hS hw ho hj) (fun k hk x hx => cov_no hS hw ho hk hx)
end Mine
set_option maxHeartbeats 4000000
namespace Mine
open PySem PySem.W PyProof.Rows PySem.Calls PySem.Challenge
noncomputable abbrev b_init : { b : BS // methAt pw_kt0068_03 7 0 = b } := ⟨_, by (conv => lhs; whnf)⟩
noncomputable def argsAt (p : Program) (i j : Nat) : Option Arguments := match p.main.body[i]? with
  | some (.ClassDef _ _ _ b _ _ _ _ _ _ _) => (match b[j]? with
    | some (.FunctionDef _ a _ _ _ _ _ _ _ _) => some a
    | _ => none)
  | _ => none
noncomputable abbrev a_get : { a : Arguments // argsAt pw_kt0068_03 7 8 = some a } := ⟨_, by (conv => lhs; whnf)⟩
noncomputable abbrev a_init : { a : Arguments // argsAt pw_kt0068_03 7 0 = some a } := ⟨_, by (conv => lhs; whnf)⟩
theorem binds_get {fd : FuncData} (hp : fd.params = a_get.1) (a b : Value) : ∃ G, bindArgs fd ⟨[a, b], []⟩ = seqItems? fd.defaults >>= G ∧ G (some #[.none]) = pure [((("self" : Str)), a), ((("name" : Str)), b), ((("default" : Str)), Value.none)] := by
  cases fd
  cases hp
  exact ⟨_, rfl, rfl⟩
theorem binds_init {fd : FuncData} (hp : fd.params = a_init.1) (a : Value) : ∃ G, bindArgs fd ⟨[a], []⟩ = seqItems? fd.defaults >>= G ∧ G (some #[.none]) = pure [((("self" : Str)), a), ((("headers" : Str)), Value.none)] := by
  cases fd
  cases hp
  exact ⟨_, rfl, rfl⟩
structure FnK (K : Frag) (f : Str) (bs : BS) (names : List Str) : Prop where
  r : gRef K f = true
  g : fGood K (gAdr K f) = true
  s : (fData K (gAdr K f)).scope = bs.2
  b : (fData K (gAdr K f)).body = .stmts bs.1
  n : ∀ us : List Value, us.length = names.length → bindArgs (fData K (gAdr K f)) ⟨us, []⟩ = pure (names.zip us)
structure MeK (K : Frag) (m : Str) (bs : BS) : Prop where
  g : mGood K m = true
  s : (fData K (mAdr K m)).scope = bs.2
  b : (fData K (mAdr K m)).body = .stmts bs.1
structure KF (K : Frag) : Prop where
  none : usedNames.all (gNone K) = true
  hg : hGood K = true
  ig : iGood K = true
  esc1 : gRef K "_special_chars_map" = true
  esc2 : escIn K (gAdr K "_special_chars_map") = true
  c_name : gPat K "_name_disallowed_re" 0 = true
  c_value : gPat K "_value_disallowed_re" 1 = true
  c_twin : gPat K "_twin_re_1" 2 = true
  c_fm : gCon K "_filemode_table" (.tup fmTab) = true
  ib : (fData K (mAdr K "__init__")).body = .stmts b_init.1.1
  is : (fData K (mAdr K "__init__")).scope = b_init.1.2
  ia : (fData K (mAdr K "__init__")).params = a_init.1
  conv : MeK K "_convert_string_type" b_conv.1
  conv' : ∀ (a b u : Value), bindArgs (fData K (mAdr K "_convert_string_type")) ⟨[a, b], [(("name" : Str), u)]⟩ = pure [(("self" : Str), a), (("value" : Str), b), (("name" : Str), u)]
  get : MeK K "get" b_get.1
  get1 : noneIn K (fData K (mAdr K "get")).defaults = true
  get2 : (fData K (mAdr K "get")).params = a_get.1
  add : MeK K "add_header" b_add.1
  add' : ∀ a b c : Value, bindArgs (fData K (mAdr K "add_header")) ⟨[a, b, c], []⟩ = alloc emptyDict >>= fun d => pure [(("self" : Str), a), (("_name" : Str), b), (("_value" : Str), c), (("_params" : Str), .ref d)]
  values : MeK K "values" b_values.1
  values' : ∀ a : Value, bindArgs (fData K (mAdr K "values")) ⟨[a], []⟩ = pure [(("self" : Str), a)]
  getall : MeK K "get_all" b_getall.1
  getall' : ∀ a b : Value, bindArgs (fData K (mAdr K "get_all")) ⟨[a, b], []⟩ = pure [(("self" : Str), a), (("name" : Str), b)]
  ifmt : FnK K "S_IFMT" b_ifmt.1 ["mode"]
  filemode : FnK K "filemode" b_filemode.1 ["mode"]
  escape : FnK K "escape" b_escape.1 ["pattern"]
  tr : FnK K "_translate" b_tr.1 ["pat", "STAR", "QUESTION_MARK"]
  join : FnK K "_join_translated_parts" b_join.1 ["inp", "STAR"]
  translate : FnK K "translate" b_translate.1 ["pat"]
  beaten : FnK K "_law_beaten" b_beaten.1 ["numbers"]
  row : FnK K "_law_row" b_row.1 ["number", "files"]
  text : FnK K "_law_text" b_text.1 ["files"]
  takes : FnK K "_law_takes" b_takes.1 ["text", "row"]
  told : FnK K "_law_told" b_told.1 ["duels", "files"]
  weights : FnK K "_law_weights" b_weights.1 ["duels", "files"]
  fair : FnK K "_law_fair" b_fair.1 ["duels", "files"]
  sets : FnK K "_law_sets" b_sets.1 []
  drum : FnK K "_law_drum" b_drum.1 ["rows", "files", "weights"]
  law : FnK K "law" b_law.1 ["script"]
section
variable {B : Base} {K : Frag} {f m : Str} {bs : BS} {names : List Str}
theorem len1 {us : List Value} (h : us.length = 1) : ∃ a, us = [a] := by
  cases us with | nil => cases h | cons a us => exact ⟨a, by rw [List.length_eq_zero_iff.mp (Nat.succ.inj h)]⟩
theorem len2 {us : List Value} (h : us.length = 2) : ∃ a b, us = [a, b] := by
  cases us with | nil => cases h | cons a us => obtain ⟨b, e⟩ := len1 (Nat.succ.inj h); exact ⟨a, b, by rw [e]⟩
theorem len3 {us : List Value} (h : us.length = 3) : ∃ a b c, us = [a, b, c] := by
  cases us with | nil => cases h | cons a us => obtain ⟨b, c, e⟩ := len2 (Nat.succ.inj h); exact ⟨a, b, c, by rw [e]⟩
theorem FnK.ok (F : FnK K f bs names) (X : Ctx B K) (hq : (kindOf bs.2 "QUESTION_MARK").isSome = false) : FnT B f bs.2 bs.1 (bdPos names) := X.fn F.r F.g F.s F.b (fun q => by rw [hq] at q; cases q) (bd_pos F.n)
theorem lawB_of (X : Ctx B K) (L : LamT B) (F : KF K) (hl : B.lcode = lamCode K) : LawB B where
  none f hf := X.none (List.all_eq_true.mp F.none f hf)
  attr := X.attr F.hg
  lam := L
  esc := X.esc F.esc1 F.esc2
  c_name := X.pat F.c_name
  c_value := X.pat F.c_value
  c_twin := X.pat F.c_twin
  c_fm := X.con F.c_fm
  headers k st := headers_ok X F.ig (binds_init F.ia) F.ib (by rw [F.is]; rfl) (by rw [F.is]; rfl) (by rw [F.is]; rfl) (by rw [F.is]; rfl)
  conv := X.meth F.conv.g F.conv.s F.conv.b (by rfl) (bd_kw fun us u h => by obtain ⟨a, b, rfl⟩ := len2 h; exact F.conv' a b u)
  get := X.meth F.get.g F.get.s F.get.b (by rfl) (bd_def X F.get1 fun us h => by obtain ⟨a, b, rfl⟩ := len2 h; exact binds_get F.get2 a b)
  add := X.meth F.add.g F.add.s F.add.b (by rfl) (bd_dict fun us h => by obtain ⟨a, b, c, rfl⟩ := len3 h; exact F.add' a b c)
  values := X.meth F.values.g F.values.s F.values.b (by rfl) (bd_pos fun us h => by obtain ⟨a, rfl⟩ := len1 h; exact F.values' a)
  getall := X.meth F.getall.g F.getall.s F.getall.b (by rfl) (bd_pos fun us h => by obtain ⟨a, b, rfl⟩ := len2 h; exact F.getall' a b)
  ifmt := F.ifmt.ok X (by rfl)
  filemode := F.filemode.ok X (by rfl)
  escape := F.escape.ok X (by rfl)
  tr := X.fn F.tr.r F.tr.g F.tr.s F.tr.b (fun z_ => hl.symm) (bd_pos F.tr.n)
  join := F.join.ok X (by rfl)
  translate := F.translate.ok X (by rfl)
theorem lawT_of (X : Ctx B K) (F : KF K) : LawT B where
  beaten := F.beaten.ok X (by rfl)
  row := F.row.ok X (by rfl)
  text := F.text.ok X (by rfl)
  takes := F.takes.ok X (by rfl)
  told := F.told.ok X (by rfl)
  weights := F.weights.ok X (by rfl)
  fair := F.fair.ok X (by rfl)
  sets := F.sets.ok X (by rfl)
  drum := F.drum.ok X (by rfl)
  law := F.law.ok X (by rfl)
end
end Mine
open PySem PySem.W PyProof.Rows
set_option maxHeartbeats 8000000
theorem Mine.top.tw10001883323181062329 : True := trivial
theorem Mine.top.tw10005945817407372193 : True := trivial
theorem Mine.top.tw10006222313960134694 : True := trivial
theorem Mine.top.tw10090393231696489298 : True := trivial
theorem Mine.top.tw10187264123177260123 : True := trivial
theorem Mine.top.tw10187724287525710026 : True := trivial
theorem Mine.top.tw10275075744731209649 : True := trivial
theorem Mine.top.tw10327409571362585415 : True := trivial
theorem Mine.top.tw10341860258655708415 : True := trivial
theorem Mine.top.tw10407176745677716521 : True := trivial
theorem Mine.top.tw104434173382791472 : True := trivial
theorem Mine.top.tw10448899703829047738 : True := trivial
theorem Mine.top.tw1047907039808853306 : True := trivial
theorem Mine.top.tw10501702545626575530 : True := trivial
theorem Mine.top.tw10548783162686979305 : True := trivial
theorem Mine.top.tw10567129059001840431 : True := trivial
theorem Mine.top.tw10579768621468169598 : True := trivial
theorem Mine.top.tw10617020205504526918 : True := trivial
theorem Mine.top.tw10648311167861321448 : True := trivial
theorem Mine.top.tw10657950659306570408 : True := trivial
theorem Mine.top.tw1068965626710143233 : True := trivial
theorem Mine.top.tw10706379575450619462 : True := trivial
theorem Mine.top.tw10773188271377071773 : True := trivial
theorem Mine.top.tw10783980745131425670 : True := trivial
theorem Mine.top.tw10797620697341660853 : True := trivial
theorem Mine.top.tw10801874191123338550 : True := trivial
theorem Mine.top.tw10864713392326063847 : True := trivial
theorem Mine.top.tw1088946173253831356 : True := trivial
theorem Mine.top.tw10915162052029792233 : True := trivial
theorem Mine.top.tw10936122117785486979 : True := trivial
theorem Mine.top.tw10956490626425055710 : True := trivial
theorem Mine.top.tw10987319290404115282 : True := trivial
theorem Mine.top.tw10996937224433265937 : True := trivial
theorem Mine.top.tw1108800333578037850 : True := trivial
theorem Mine.top.tw1112988674713690477 : True := trivial
theorem Mine.top.tw11133666699803404755 : True := trivial
theorem Mine.top.tw11199532085631943738 : True := trivial
theorem Mine.top.tw11199710921928265848 : True := trivial
theorem Mine.top.tw11240886729373846589 : True := trivial
theorem Mine.top.tw1124271682379634556 : True := trivial
theorem Mine.top.tw11279390925490393535 : True := trivial
theorem Mine.top.tw11334350811105764591 : True := trivial
theorem Mine.top.tw11334415319851112604 : True := trivial
theorem Mine.top.tw1139600151236580504 : True := trivial
theorem Mine.top.tw11412556874285065688 : True := trivial
theorem Mine.top.tw11423202765487971197 : True := trivial
theorem Mine.top.tw11430207588045935325 : True := trivial
theorem Mine.top.tw11443710868159068359 : True := trivial
theorem Mine.top.tw11459358961799972967 : True := trivial
theorem Mine.top.tw11466170419677230873 : True := trivial
theorem Mine.top.tw11466823199061654653 : True := trivial
theorem Mine.top.tw1149218181149386328 : True := trivial
theorem Mine.top.tw11520865232209809239 : True := trivial
theorem Mine.top.tw11542710104232473196 : True := trivial
theorem Mine.top.tw11582926029173025856 : True := trivial
theorem Mine.top.tw11613256710310857696 : True := trivial
theorem Mine.top.tw11762496359356365647 : True := trivial
theorem Mine.top.tw11828255723225261569 : True := trivial
theorem Mine.top.tw11916724111330402815 : True := trivial
theorem Mine.top.tw11922380849998532372 : True := trivial
theorem Mine.top.tw1195175773429642966 : True := trivial
theorem Mine.top.tw11960245374511038805 : True := trivial
theorem Mine.top.tw12012865196380796599 : True := trivial
theorem Mine.top.tw12080426169559351053 : True := trivial
theorem Mine.top.tw12094960947251128927 : True := trivial
theorem Mine.top.tw12105128591322288922 : True := trivial
theorem Mine.top.tw1212798325632107971 : True := trivial
theorem Mine.top.tw12166907935582030026 : True := trivial
theorem Mine.top.tw12216630987165489725 : True := trivial
theorem Mine.top.tw12318557346453588183 : True := trivial
theorem Mine.top.tw12342655685612074800 : True := trivial
theorem Mine.top.tw12376051458212225564 : True := trivial
theorem Mine.top.tw12385144161495827662 : True := trivial
theorem Mine.top.tw12425085872883035938 : True := trivial
theorem Mine.top.tw12427389293880184781 : True := trivial
theorem Mine.top.tw1245559373397905713 : True := trivial
theorem Mine.top.tw12483720753089274532 : True := trivial
theorem Mine.top.tw12535971307161669396 : True := trivial
theorem Mine.top.tw12540527436937284434 : True := trivial
theorem Mine.top.tw12622177474791663080 : True := trivial
theorem Mine.top.tw12643491718579748851 : True := trivial
theorem Mine.top.tw1275901062530889299 : True := trivial
theorem Mine.top.tw12764151676501842404 : True := trivial
theorem Mine.top.tw12772138429114895339 : True := trivial
theorem Mine.top.tw12819366960792805191 : True := trivial
theorem Mine.top.tw1284575025550258836 : True := trivial
theorem Mine.top.tw1291508964198565346 : True := trivial
theorem Mine.top.tw1294077662247117797 : True := trivial
theorem Mine.top.tw12945667359872996184 : True := trivial
theorem Mine.top.tw13012589842206080548 : True := trivial
theorem Mine.top.tw13053811720870088431 : True := trivial
theorem Mine.top.tw13068111086705522682 : True := trivial
theorem Mine.top.tw13134186033006778460 : True := trivial
theorem Mine.top.tw13223034962123697568 : True := trivial
theorem Mine.top.tw13264354339760550358 : True := trivial
theorem Mine.top.tw13290321428070320777 : True := trivial
theorem Mine.top.tw13303987763403120937 : True := trivial
theorem Mine.top.tw13307591127769906961 : True := trivial
theorem Mine.top.tw13326734554550294991 : True := trivial
theorem Mine.top.tw13359135706311490777 : True := trivial
theorem Mine.top.tw13369591340354186047 : True := trivial
theorem Mine.top.tw13370750898655102155 : True := trivial
theorem Mine.top.tw13420762306968818387 : True := trivial
theorem Mine.top.tw13501252493785611398 : True := trivial
theorem Mine.top.tw13562833436174130633 : True := trivial
theorem Mine.top.tw13590904457321055897 : True := trivial
theorem Mine.top.tw13706816188851595723 : True := trivial
theorem Mine.top.tw13710211086531791108 : True := trivial
theorem Mine.top.tw13889309363888878346 : True := trivial
theorem Mine.top.tw13889484949932952446 : True := trivial
theorem Mine.top.tw13896958669275611876 : True := trivial
theorem Mine.top.tw13928562000808390012 : True := trivial
theorem Mine.top.tw1400011881503588481 : True := trivial
theorem Mine.top.tw14014627428706714315 : True := trivial
theorem Mine.top.tw14143961605325424613 : True := trivial
theorem Mine.top.tw14263998999751124003 : True := trivial
theorem Mine.top.tw14282377253939248939 : True := trivial
theorem Mine.top.tw14349089067433371257 : True := trivial
theorem Mine.top.tw14350114072222175982 : True := trivial
theorem Mine.top.tw14371913498598963198 : True := trivial
theorem Mine.top.tw14372152842798730730 : True := trivial
theorem Mine.top.tw14390669486469195807 : True := trivial
theorem Mine.top.tw14399976873020721970 : True := trivial
theorem Mine.top.tw14402358008270493973 : True := trivial
theorem Mine.top.tw14436450140739016385 : True := trivial
theorem Mine.top.tw14453841093610474573 : True := trivial
theorem Mine.top.tw14459580976405569124 : True := trivial
theorem Mine.top.tw14502225709538309166 : True := trivial
theorem Mine.top.tw14608685727046917156 : True := trivial
theorem Mine.top.tw14611434983143301774 : True := trivial
theorem Mine.top.tw14632489290957082403 : True := trivial
theorem Mine.top.tw14657780768301432306 : True := trivial
theorem Mine.top.tw146815374380898660 : True := trivial
theorem Mine.top.tw14697636140705633519 : True := trivial
theorem Mine.top.tw14724332232928298890 : True := trivial
theorem Mine.top.tw14747140909534839006 : True := trivial
theorem Mine.top.tw14762295962024373759 : True := trivial
theorem Mine.top.tw14789260269991461300 : True := trivial
theorem Mine.top.tw14796646475526232899 : True := trivial
theorem Mine.top.tw14823308797102314842 : True := trivial
theorem Mine.top.tw14826035006057030972 : True := trivial
theorem Mine.top.tw1483126911874232274 : True := trivial
theorem Mine.top.tw14851680436948445374 : True := trivial
theorem Mine.top.tw14861896470697024400 : True := trivial
theorem Mine.top.tw14901070454687303710 : True := trivial
theorem Mine.top.tw14917401599646851644 : True := trivial
theorem Mine.top.tw1492452104121835379 : True := trivial
theorem Mine.top.tw14987219478266130788 : True := trivial
theorem Mine.top.tw15058813355848621054 : True := trivial
theorem Mine.top.tw15092371282622821202 : True := trivial
theorem Mine.top.tw1516213087968936877 : True := trivial
theorem Mine.top.tw15169761463676818070 : True := trivial
theorem Mine.top.tw15177526630643400193 : True := trivial
theorem Mine.top.tw15240379268576122478 : True := trivial
theorem Mine.top.tw15245507539482535896 : True := trivial
theorem Mine.top.tw15254643099363442306 : True := trivial
theorem Mine.top.tw15286249088069653756 : True := trivial
theorem Mine.top.tw15299407806266782574 : True := trivial
theorem Mine.top.tw15362295582089109014 : True := trivial
theorem Mine.top.tw15503665604740900718 : True := trivial
theorem Mine.top.tw15569959144833144457 : True := trivial
theorem Mine.top.tw15646934709686841381 : True := trivial
theorem Mine.top.tw15740088241188596515 : True := trivial
theorem Mine.top.tw15865747894454325196 : True := trivial
theorem Mine.top.tw15878805988109762761 : True := trivial
theorem Mine.top.tw15918733279669447828 : True := trivial
theorem Mine.top.tw15985961358823992270 : True := trivial
theorem Mine.top.tw16004416686337608138 : True := trivial
theorem Mine.top.tw1601500998369573665 : True := trivial
theorem Mine.top.tw16054190913257422852 : True := trivial
theorem Mine.top.tw16058212318047004132 : True := trivial
theorem Mine.top.tw16104615914030681952 : True := trivial
theorem Mine.top.tw16123964013534891561 : True := trivial
theorem Mine.top.tw16155163154822807229 : True := trivial
theorem Mine.top.tw16174758807025615021 : True := trivial
theorem Mine.top.tw16196420915677631385 : True := trivial
theorem Mine.top.tw16204670001084760307 : True := trivial
theorem Mine.top.tw16273406610938067001 : True := trivial
theorem Mine.top.tw16352630495959832749 : True := trivial
theorem Mine.top.tw1638113669730673903 : True := trivial
theorem Mine.top.tw16394108629617908822 : True := trivial
theorem Mine.top.tw16415559393655328363 : True := trivial
theorem Mine.top.tw16420938139371093754 : True := trivial
theorem Mine.top.tw16453443671601555132 : True := trivial
theorem Mine.top.tw16541100652227675460 : True := trivial
theorem Mine.top.tw16550210197400561554 : True := trivial
theorem Mine.top.tw16580785732701462914 : True := trivial
theorem Mine.top.tw16597617366809209970 : True := trivial
theorem Mine.top.tw16719718919923625709 : True := trivial
theorem Mine.top.tw16759092144687519636 : True := trivial
theorem Mine.top.tw1676862907878916244 : True := trivial
theorem Mine.top.tw16782997733028217545 : True := trivial
theorem Mine.top.tw16795567611416646642 : True := trivial
theorem Mine.top.tw16821654228018055803 : True := trivial
theorem Mine.top.tw16840627104734473223 : True := trivial
theorem Mine.top.tw16878204669230926818 : True := trivial
theorem Mine.top.tw16885616592811714743 : True := trivial
theorem Mine.top.tw16900427199656544559 : True := trivial
theorem Mine.top.tw16926593981545840131 : True := trivial
theorem Mine.top.tw16938921287264067795 : True := trivial
theorem Mine.top.tw1696336161484641427 : True := trivial
theorem Mine.top.tw17089494485692210459 : True := trivial
theorem Mine.top.tw17103177528636943170 : True := trivial
theorem Mine.top.tw17103585973383926153 : True := trivial
theorem Mine.top.tw17177869089781658578 : True := trivial
theorem Mine.top.tw17219337458794519322 : True := trivial
theorem Mine.top.tw17310873084034124589 : True := trivial
theorem Mine.top.tw17315540178315561739 : True := trivial
theorem Mine.top.tw1732150942055357024 : True := trivial
theorem Mine.top.tw17323899518341599180 : True := trivial
theorem Mine.top.tw17342085116792181814 : True := trivial
theorem Mine.top.tw17355269125676882429 : True := trivial
theorem Mine.top.tw17371467147965452787 : True := trivial
theorem Mine.top.tw17408102787539135390 : True := trivial
theorem Mine.top.tw17428532607074087071 : True := trivial
theorem Mine.top.tw17469865338272021226 : True := trivial
theorem Mine.top.tw17470836177267949868 : True := trivial
theorem Mine.top.tw17477299271862717648 : True := trivial
theorem Mine.top.tw17486766287000646611 : True := trivial
theorem Mine.top.tw17492772389151264855 : True := trivial
theorem Mine.top.tw1754339480302792767 : True := trivial
theorem Mine.top.tw17555251805378815213 : True := trivial
theorem Mine.top.tw17668190388876275730 : True := trivial
theorem Mine.top.tw17810072253543177317 : True := trivial
theorem Mine.top.tw17953984050398360512 : True := trivial
theorem Mine.top.tw18008055252877512497 : True := trivial
theorem Mine.top.tw18034075008235765660 : True := trivial
theorem Mine.top.tw18064794426631996164 : True := trivial
theorem Mine.top.tw18085771088847121727 : True := trivial
theorem Mine.top.tw18086089286151905521 : True := trivial
theorem Mine.top.tw1814787853859245837 : True := trivial
theorem Mine.top.tw18177719399980262173 : True := trivial
theorem Mine.top.tw18245740138792012028 : True := trivial
theorem Mine.top.tw18289109515434150305 : True := trivial
theorem Mine.top.tw18367679650794681301 : True := trivial
theorem Mine.top.tw18387569698083125528 : True := trivial
theorem Mine.top.tw1843344800811705456 : True := trivial
theorem Mine.top.tw1869187583165140508 : True := trivial
theorem Mine.top.tw1886144042066472794 : True := trivial
theorem Mine.top.tw196536941598035525 : True := trivial
theorem Mine.top.tw1988063486488863061 : True := trivial
theorem Mine.top.tw2007660962349395123 : True := trivial
theorem Mine.top.tw2121648611389393487 : True := trivial
theorem Mine.top.tw2126296398998916975 : True := trivial
theorem Mine.top.tw2145171640123136144 : True := trivial
theorem Mine.top.tw216529984938456764 : True := trivial
theorem Mine.top.tw2218668502564051296 : True := trivial
theorem Mine.top.tw2220570432770164149 : True := trivial
theorem Mine.top.tw2249405535684624136 : True := trivial
theorem Mine.top.tw2287823674025257028 : True := trivial
theorem Mine.top.tw2312856594315299383 : True := trivial
theorem Mine.top.tw2327409098240617249 : True := trivial
theorem Mine.top.tw2349764873487006267 : True := trivial
theorem Mine.top.tw2369445192022557226 : True := trivial
theorem Mine.top.tw2405475915293451298 : True := trivial
theorem Mine.top.tw2464713573024523455 : True := trivial
theorem Mine.top.tw2506305409684761478 : True := trivial
theorem Mine.top.tw2514443458684651071 : True := trivial
theorem Mine.top.tw2544169868661182894 : True := trivial
theorem Mine.top.tw2555065506035805374 : True := trivial
theorem Mine.top.tw2665807947273092163 : True := trivial
theorem Mine.top.tw2683898200743741643 : True := trivial
theorem Mine.top.tw2686433634493928565 : True := trivial
theorem Mine.top.tw2727672472851901052 : True := trivial
theorem Mine.top.tw2731995056826638727 : True := trivial
theorem Mine.top.tw2732273902793177162 : True := trivial
theorem Mine.top.tw2741389259953327712 : True := trivial
theorem Mine.top.tw2758071753971750899 : True := trivial
theorem Mine.top.tw2782073688633401757 : True := trivial
theorem Mine.top.tw2812155379371279736 : True := trivial
theorem Mine.top.tw2822501910515967889 : True := trivial
theorem Mine.top.tw2867133514656366558 : True := trivial
theorem Mine.top.tw2907113945770861938 : True := trivial
theorem Mine.top.tw2985252069258134486 : True := trivial
theorem Mine.top.tw3002795768020413707 : True := trivial
theorem Mine.top.tw3195522803047326042 : True := trivial
theorem Mine.top.tw3195968871104189447 : True := trivial
theorem Mine.top.tw3207569582813703071 : True := trivial
theorem Mine.top.tw3217022616335106338 : True := trivial
theorem Mine.top.tw3254097082911018636 : True := trivial
theorem Mine.top.tw3261557481417251176 : True := trivial
theorem Mine.top.tw3315250197877816394 : True := trivial
theorem Mine.top.tw3337584539547039419 : True := trivial
theorem Mine.top.tw3358723557356789334 : True := trivial
theorem Mine.top.tw339143206060000330 : True := trivial
theorem Mine.top.tw342308947776675178 : True := trivial
theorem Mine.top.tw3561193834555079511 : True := trivial
theorem Mine.top.tw3669314199184481253 : True := trivial
theorem Mine.top.tw370947364307004932 : True := trivial
theorem Mine.top.tw3712731000106771831 : True := trivial
theorem Mine.top.tw3776753064480771068 : True := trivial
theorem Mine.top.tw381845443943030031 : True := trivial
theorem Mine.top.tw3844969445664438809 : True := trivial
theorem Mine.top.tw3871027444623705763 : True := trivial
theorem Mine.top.tw390997316461189296 : True := trivial
theorem Mine.top.tw3969286963782609292 : True := trivial
theorem Mine.top.tw3976154599441133093 : True := trivial
theorem Mine.top.tw4058662728301269685 : True := trivial
theorem Mine.top.tw4076138812419527698 : True := trivial
theorem Mine.top.tw4134505453457115739 : True := trivial
theorem Mine.top.tw4159251561096739476 : True := trivial
theorem Mine.top.tw4166218997396506358 : True := trivial
theorem Mine.top.tw4177254973167742082 : True := trivial
theorem Mine.top.tw4186445540838780016 : True := trivial
theorem Mine.top.tw4205137553216949640 : True := trivial
theorem Mine.top.tw4213018616267185653 : True := trivial
theorem Mine.top.tw427269002284569659 : True := trivial
theorem Mine.top.tw427420600052151026 : True := trivial
theorem Mine.top.tw4299629679881509495 : True := trivial
theorem Mine.top.tw4321519831107876412 : True := trivial
theorem Mine.top.tw4331257952254489624 : True := trivial
theorem Mine.top.tw4347277040485782778 : True := trivial
theorem Mine.top.tw4498253355057717688 : True := trivial
theorem Mine.top.tw4526881389914513428 : True := trivial
theorem Mine.top.tw453181688931711583 : True := trivial
theorem Mine.top.tw4655869559712951663 : True := trivial
theorem Mine.top.tw4656485037274611717 : True := trivial
theorem Mine.top.tw4671429814451907529 : True := trivial
theorem Mine.top.tw4713442408853163898 : True := trivial
theorem Mine.top.tw4736427724481360342 : True := trivial
theorem Mine.top.tw4784893810139332661 : True := trivial
theorem Mine.top.tw4828031223510198475 : True := trivial
theorem Mine.top.tw4835499133494076262 : True := trivial
theorem Mine.top.tw4840481374290595910 : True := trivial
theorem Mine.top.tw4859757453598101857 : True := trivial
theorem Mine.top.tw5088376156974544275 : True := trivial
theorem Mine.top.tw5105846836358774362 : True := trivial
theorem Mine.top.tw5118827330378232414 : True := trivial
theorem Mine.top.tw517144808224063464 : True := trivial
theorem Mine.top.tw5225153198818245361 : True := trivial
theorem Mine.top.tw5225916559131626549 : True := trivial
theorem Mine.top.tw5244899138074338376 : True := trivial
theorem Mine.top.tw53344730913325255 : True := trivial
theorem Mine.top.tw5398424786039705171 : True := trivial
theorem Mine.top.tw5405092056839124451 : True := trivial
theorem Mine.top.tw5523086135645875356 : True := trivial
theorem Mine.top.tw5604026686304666287 : True := trivial
theorem Mine.top.tw5609151216138764652 : True := trivial
theorem Mine.top.tw5667650583090716360 : True := trivial
theorem Mine.top.tw575894324575664597 : True := trivial
theorem Mine.top.tw5766051744304087583 : True := trivial
theorem Mine.top.tw5839659824258004927 : True := trivial
theorem Mine.top.tw5860347150701562758 : True := trivial
theorem Mine.top.tw5889316905344633881 : True := trivial
theorem Mine.top.tw5938664839603501006 : True := trivial
theorem Mine.top.tw594810645892935528 : True := trivial
theorem Mine.top.tw5969682004907312646 : True := trivial
theorem Mine.top.tw6127594578889010139 : True := trivial
theorem Mine.top.tw6176384092110617959 : True := trivial
theorem Mine.top.tw6187478851450931391 : True := trivial
theorem Mine.top.tw6189502492464219833 : True := trivial
theorem Mine.top.tw6211089042160764376 : True := trivial
theorem Mine.top.tw6240723676877644813 : True := trivial
theorem Mine.top.tw6286779285267259847 : True := trivial
theorem Mine.top.tw6333448901615975916 : True := trivial
theorem Mine.top.tw6430265229019958763 : True := trivial
theorem Mine.top.tw6431110157172167083 : True := trivial
theorem Mine.top.tw6438537300738474071 : True := trivial
theorem Mine.top.tw6442268759946869923 : True := trivial
theorem Mine.top.tw6491118196486620199 : True := trivial
theorem Mine.top.tw649594095290182367 : True := trivial
theorem Mine.top.tw6505410396798821541 : True := trivial
theorem Mine.top.tw6520327441239513222 : True := trivial
theorem Mine.top.tw6572447435987645144 : True := trivial
theorem Mine.top.tw6624316729101989866 : True := trivial
theorem Mine.top.tw6664487174759623829 : True := trivial
theorem Mine.top.tw6674990990233134667 : True := trivial
theorem Mine.top.tw6749217079512962374 : True := trivial
theorem Mine.top.tw6756868429301003459 : True := trivial
theorem Mine.top.tw6761616313442571491 : True := trivial
theorem Mine.top.tw6812286434817487243 : True := trivial
theorem Mine.top.tw681777741448182936 : True := trivial
theorem Mine.top.tw6859976401760118174 : True := trivial
theorem Mine.top.tw6898770573198911631 : True := trivial
theorem Mine.top.tw6919701780365589675 : True := trivial
theorem Mine.top.tw6928471195768313730 : True := trivial
theorem Mine.top.tw7008692893051332821 : True := trivial
theorem Mine.top.tw7069510175615937415 : True := trivial
theorem Mine.top.tw708234853630380328 : True := trivial
theorem Mine.top.tw7204493036743257322 : True := trivial
theorem Mine.top.tw72247145696351765 : True := trivial
theorem Mine.top.tw7250933059871147345 : True := trivial
theorem Mine.top.tw7283922848111610138 : True := trivial
theorem Mine.top.tw728428047077509346 : True := trivial
theorem Mine.top.tw7313339093194340965 : True := trivial
theorem Mine.top.tw7386116660499605909 : True := trivial
theorem Mine.top.tw7386611806772748645 : True := trivial
theorem Mine.top.tw7414872774492366064 : True := trivial
theorem Mine.top.tw7429413206186439793 : True := trivial
theorem Mine.top.tw7458633546980236471 : True := trivial
theorem Mine.top.tw7527032243904285869 : True := trivial
theorem Mine.top.tw753989350850391506 : True := trivial
theorem Mine.top.tw7557910624720293991 : True := trivial
theorem Mine.top.tw7600245330811189008 : True := trivial
theorem Mine.top.tw7622788414804475640 : True := trivial
theorem Mine.top.tw76412952228603488 : True := trivial
theorem Mine.top.tw7671549972530922468 : True := trivial
theorem Mine.top.tw7681529838311687354 : True := trivial
theorem Mine.top.tw7715697345341360870 : True := trivial
theorem Mine.top.tw7740461459972228597 : True := trivial
theorem Mine.top.tw775762912060472103 : True := trivial
theorem Mine.top.tw7830913209206220567 : True := trivial
theorem Mine.top.tw7831570452890611150 : True := trivial
theorem Mine.top.tw7847650389618582240 : True := trivial
theorem Mine.top.tw7855079511596107753 : True := trivial
theorem Mine.top.tw788273225186049534 : True := trivial
theorem Mine.top.tw795583310449317561 : True := trivial
theorem Mine.top.tw7990429038631628895 : True := trivial
theorem Mine.top.tw8025738503920905074 : True := trivial
theorem Mine.top.tw8043003576528973991 : True := trivial
theorem Mine.top.tw8107780213005350392 : True := trivial
theorem Mine.top.tw8143265674769528471 : True := trivial
theorem Mine.top.tw8148004212497801138 : True := trivial
theorem Mine.top.tw81815255157605957 : True := trivial
theorem Mine.top.tw820453102255633130 : True := trivial
theorem Mine.top.tw8212240652046128837 : True := trivial
theorem Mine.top.tw8237333600419904120 : True := trivial
theorem Mine.top.tw8265191368974092141 : True := trivial
theorem Mine.top.tw8265311939077410998 : True := trivial
theorem Mine.top.tw8281120267493503204 : True := trivial
theorem Mine.top.tw8311017846404947139 : True := trivial
theorem Mine.top.tw8321918168302905379 : True := trivial
theorem Mine.top.tw832561496525075734 : True := trivial
theorem Mine.top.tw8345894832289464959 : True := trivial
theorem Mine.top.tw8363718466572441477 : True := trivial
theorem Mine.top.tw8410488445778877200 : True := trivial
theorem Mine.top.tw84136930442132756 : True := trivial
theorem Mine.top.tw8435561252592420358 : True := trivial
theorem Mine.top.tw8507776931139520737 : True := trivial
theorem Mine.top.tw8523463495250067690 : True := trivial
theorem Mine.top.tw8538268897159353584 : True := trivial
theorem Mine.top.tw8560541052185303311 : True := trivial
theorem Mine.top.tw8598144960395782539 : True := trivial
theorem Mine.top.tw860223938195835975 : True := trivial
theorem Mine.top.tw8614468785067065375 : True := trivial
theorem Mine.top.tw8640399195822439974 : True := trivial
theorem Mine.top.tw8645369167282567922 : True := trivial
theorem Mine.top.tw864819663365544661 : True := trivial
theorem Mine.top.tw8657480035899644758 : True := trivial
theorem Mine.top.tw8689318265317240412 : True := trivial
theorem Mine.top.tw8729362747519067210 : True := trivial
theorem Mine.top.tw8735323631387419056 : True := trivial
theorem Mine.top.tw877433047237710547 : True := trivial
theorem Mine.top.tw8810280945414196856 : True := trivial
theorem Mine.top.tw8813761850579938390 : True := trivial
theorem Mine.top.tw8874702517807110003 : True := trivial
theorem Mine.top.tw887695700811335699 : True := trivial
theorem Mine.top.tw8892184565913893157 : True := trivial
theorem Mine.top.tw8965418945004540065 : True := trivial
theorem Mine.top.tw8968299171318014206 : True := trivial
theorem Mine.top.tw9059672392935016618 : True := trivial
theorem Mine.top.tw9063741608606530840 : True := trivial
theorem Mine.top.tw908825868028484722 : True := trivial
theorem Mine.top.tw9108098604805947806 : True := trivial
theorem Mine.top.tw9165953624949470791 : True := trivial
theorem Mine.top.tw9178861053002065721 : True := trivial
theorem Mine.top.tw9227057690007400460 : True := trivial
theorem Mine.top.tw9229161468869434483 : True := trivial
theorem Mine.top.tw9233335307524088747 : True := trivial
theorem Mine.top.tw9259421805112917234 : True := trivial
theorem Mine.top.tw9272544492142499777 : True := trivial
theorem Mine.top.tw9305691244287143441 : True := trivial
theorem Mine.top.tw9366391650621772374 : True := trivial
theorem Mine.top.tw9382581127745807760 : True := trivial
theorem Mine.top.tw9503340733035011235 : True := trivial
theorem Mine.top.tw956942650209027819 : True := trivial
theorem Mine.top.tw9589608677651300831 : True := trivial
theorem Mine.top.tw9601329371697537090 : True := trivial
theorem Mine.top.tw9614876229902214918 : True := trivial
theorem Mine.top.tw9631074621892390191 : True := trivial
theorem Mine.top.tw9739860059890490050 : True := trivial
theorem Mine.top.tw9759319705405543751 : True := trivial
theorem Mine.top.tw9768079942903668216 : True := trivial
theorem Mine.top.tw9779110368921367113 : True := trivial
theorem Mine.top.tw9800703332001039478 : True := trivial
theorem Mine.top.tw9843447840031818808 : True := trivial
theorem Mine.top.tw9851269098105209369 : True := trivial
theorem Mine.top.tw987869383939708018 : True := trivial
theorem Mine.top.tw9883271218011376521 : True := trivial
theorem Mine.top.tw9919435345466941130 : True := trivial
theorem Mine.top.tw9951221954081769418 : True := trivial
theorem Mine.top.tw9953747333497923681 : True := trivial
theorem Mine.top.tw9962302188120564619 : True := trivial
theorem Mine.kf_of {K : Frag} {h : Heap} (KX : K.In h) (F : Mine.KF K) : Mine.KF K := F
set_option Elab.async true
set_option tactic.hygienic true in
theorem Mine.top : PySem.Challenge.rw_kt0068_03.Holds := by
  (w_on; o_law; k_head; (case hw => w_witness2))
  k_fill
  intro w s₀ s₁ mg mb G y fa o pm cd doc dV kV ho hdd hcd hD hmg hg args vals as hpre hlay hrd hwl hlo
  have KX := km_in_of y
  have KT := km_tabs_of y
  have F := Mine.kf_of KX {
    none := by kernel_rfl,
    hg := by kernel_rfl,
    ig := by kernel_rfl,
    esc1 := by kernel_rfl,
    esc2 := by kernel_rfl,
    c_name := by kernel_rfl,
    c_value := by kernel_rfl,
    c_twin := by kernel_rfl,
    c_fm := by kernel_rfl,
    ib := by kernel_rfl,
    is := by kernel_rfl,
    ia := by kernel_rfl,
    conv := ⟨by kernel_rfl, by kernel_rfl, by kernel_rfl⟩,
    conv' := fun a b u => by kernel_rfl,
    get := ⟨by kernel_rfl, by kernel_rfl, by kernel_rfl⟩,
    get1 := by kernel_rfl,
    get2 := by kernel_rfl,
    add := ⟨by kernel_rfl, by kernel_rfl, by kernel_rfl⟩,
    add' := fun a b c => by kernel_rfl,
    values := ⟨by kernel_rfl, by kernel_rfl, by kernel_rfl⟩,
    values' := fun a => by kernel_rfl,
    getall := ⟨by kernel_rfl, by kernel_rfl, by kernel_rfl⟩,
    getall' := fun a b => by kernel_rfl,
    ifmt := ⟨by kernel_rfl, by kernel_rfl, by kernel_rfl, by kernel_rfl, fun us h => by obtain ⟨a, rfl⟩ := Mine.len1 h; kernel_rfl⟩,
    filemode := ⟨by kernel_rfl, by kernel_rfl, by kernel_rfl, by kernel_rfl, fun us h => by obtain ⟨a, rfl⟩ := Mine.len1 h; kernel_rfl⟩,
    escape := ⟨by kernel_rfl, by kernel_rfl, by kernel_rfl, by kernel_rfl, fun us h => by obtain ⟨a, rfl⟩ := Mine.len1 h; kernel_rfl⟩,
    tr := ⟨by kernel_rfl, by kernel_rfl, by kernel_rfl, by kernel_rfl, fun us h => by obtain ⟨a, b, c, rfl⟩ := Mine.len3 h; kernel_rfl⟩,
    join := ⟨by kernel_rfl, by kernel_rfl, by kernel_rfl, by kernel_rfl, fun us h => by obtain ⟨a, b, rfl⟩ := Mine.len2 h; kernel_rfl⟩,
    translate := ⟨by kernel_rfl, by kernel_rfl, by kernel_rfl, by kernel_rfl, fun us h => by obtain ⟨a, rfl⟩ := Mine.len1 h; kernel_rfl⟩,
    beaten := ⟨by kernel_rfl, by kernel_rfl, by kernel_rfl, by kernel_rfl, fun us h => by obtain ⟨a, rfl⟩ := Mine.len1 h; kernel_rfl⟩,
    row := ⟨by kernel_rfl, by kernel_rfl, by kernel_rfl, by kernel_rfl, fun us h => by obtain ⟨a, b, rfl⟩ := Mine.len2 h; kernel_rfl⟩,
    text := ⟨by kernel_rfl, by kernel_rfl, by kernel_rfl, by kernel_rfl, fun us h => by obtain ⟨a, rfl⟩ := Mine.len1 h; kernel_rfl⟩,
    takes := ⟨by kernel_rfl, by kernel_rfl, by kernel_rfl, by kernel_rfl, fun us h => by obtain ⟨a, b, rfl⟩ := Mine.len2 h; kernel_rfl⟩,
    told := ⟨by kernel_rfl, by kernel_rfl, by kernel_rfl, by kernel_rfl, fun us h => by obtain ⟨a, b, rfl⟩ := Mine.len2 h; kernel_rfl⟩,
    weights := ⟨by kernel_rfl, by kernel_rfl, by kernel_rfl, by kernel_rfl, fun us h => by obtain ⟨a, b, rfl⟩ := Mine.len2 h; kernel_rfl⟩,
    fair := ⟨by kernel_rfl, by kernel_rfl, by kernel_rfl, by kernel_rfl, fun us h => by obtain ⟨a, b, rfl⟩ := Mine.len2 h; kernel_rfl⟩,
    sets := ⟨by kernel_rfl, by kernel_rfl, by kernel_rfl, by kernel_rfl, fun us h => by obtain rfl := List.length_eq_zero_iff.mp h; kernel_rfl⟩,
    drum := ⟨by kernel_rfl, by kernel_rfl, by kernel_rfl, by kernel_rfl, fun us h => by obtain ⟨a, b, c, rfl⟩ := Mine.len3 h; kernel_rfl⟩,
    law := ⟨by kernel_rfl, by kernel_rfl, by kernel_rfl, by kernel_rfl, fun us h => by obtain ⟨a, rfl⟩ := Mine.len1 h; kernel_rfl⟩ }
  refine Ground.open G ?_
  intro T B D TE TW
  clear hcd hD
  wrow_args hpre hlay hrd hwl hlo
  rename_i ns _ _ _ _ _ _ _ sa vs _ hL _ _ _ hI _ hlen _
  have h3 : mainGlobals ∉ ([212] : List Addr) := by decide
  have h0 : builtinsNs ∉ ([212] : List Addr) := by decide
  have h2 : cStatics ∉ ([212] : List Addr) := by decide
  have X := Mine.ctx_of (prog := PySem.Challenge.rw_kt0068_03.row.prog) (w := w) (hg := T.g) (hb := T.b) (hbb := T.builtins) (hn := T.nolimit) (h3 := h3) (h0 := h0) (h2 := h2) KX (by kernel_rfl) KT
  have bm : ∃ bm ob, mg "__builtins__" = some (.ref bm) ∧ bm ≠ builtinsNs ∧ s₁.heap.get? bm = some ob ∧ ob.cls = .type "module" ∧ ob.dict = some builtinsNs ∧ ob.data = .plain := T.bmain
  obtain ⟨L, hct⟩ := Mine.lam_of (prog := PySem.Challenge.rw_kt0068_03.row.prog) (w := w) (hg := T.g) (hb := T.b) (hbb := T.builtins) (hn := T.nolimit) (h3 := h3) (h0 := h0) (h2 := h2) KX (by kernel_rfl) KT (by kernel_rfl) bm
  have H := Mine.law_true (k := 0) (st := []) (Mine.lawB_of X L F rfl) (Mine.lawT_of X F) (s := ns) (by omega)
  exact Mine.law_end KT hct hg H (by decide) hmg hL hI (by omega) (fun z_ => rfl) (by wrow_post)
theorem PySem.Challenge.cw_kt0068_03_holds : PySem.Challenge.rw_kt0068_03.Holds := by
  exact Mine.top
