import PyProof.Rows.All
import Wide.All
import OpenK.AllK
import Wide.FinOn
import PySem.Challenge.RW_wf0026_01
set_option Elab.async false

section
open PySem PySem.Calls PySem.W PyProof.Rows
set_option maxRecDepth 100000
set_option autoImplicit false
set_option linter.all false
namespace Mine

/-! ## what a call keeps -/
abbrev Keeps (h h' : Heap) : Prop := ∀ b o, h.get? b = some o → h'.get? b = some o
theorem keeps_refl (h : Heap) : Keeps h h := fun _ _ e => e
theorem Keeps.trans' {a b c : Heap} (x : Keeps a b) (y : Keeps b c) : Keeps a c := fun _ _ e => y _ _ (x _ _ e)

structure Gx (s s' : Shared) : Prop where
  gens : ∀ (i : Nat) (x : GenState), s.gens[i]? = some x → s'.gens[i]? = some x
  bare : AllBare s.gens → AllBare s'.gens
  os : s'.os = s.os
theorem Gx.refl (s : Shared) : Gx s s := ⟨fun _ _ e => e, fun x => x, rfl⟩
theorem Gx.trans {a b c : Shared} (x : Gx a b) (y : Gx b c) : Gx a c := ⟨fun _ _ e => y.gens _ _ (x.gens _ _ e), fun z => y.bare (x.bare z), y.os.trans x.os⟩
theorem Gx.heap {a : Shared} {h : Heap} {t : Nat} : Gx a { a with heap := h, toks := t } := ⟨fun _ _ e => e, fun x => x, rfl⟩

structure Done (s s' : Shared) : Prop where
  keep : Keeps s.heap s'.heap
  g : Gx s s'
theorem Done.refl (s : Shared) : Done s s := ⟨keeps_refl _, .refl _⟩
theorem Done.trans {a b c : Shared} (x : Done a b) (y : Done b c) : Done a c := ⟨x.keep.trans' y.keep, x.g.trans y.g⟩

/-! ## the frame at hand: B is kept, L holds the locals, own are the objects that may change -/
abbrev Spec := Addr × (Obj → Prop)
structure Cx (B : Heap) (s₀ : Shared) (L : Addr) (m : Str → Option Value) (own : List Spec) (s : Shared) : Prop where
  keep : Keeps B s.heap
  ns : s.heap.Ns L m
  has : ∀ p ∈ own, ∃ o, s.heap.get? p.1 = some o ∧ p.2 o
  offL : B.get? L = none
  off : ∀ p ∈ own, B.get? p.1 = none ∧ p.1 ≠ L
  nd : (own.map (·.1)).Nodup
  g : Gx s₀ s

def upd (m : Str → Option Value) (x : Str) (v : Value) : Str → Option Value := fun y => if y = x then some v else m y
theorem upd_same {m : Str → Option Value} {x : Str} {v : Value} : upd m x v x = some v := if_pos rfl
theorem upd_ne {m : Str → Option Value} {x y : Str} {v : Value} {r : Option Value} (h : m y = r) (hn : y ≠ x) : upd m x v y = r := (if_neg hn).trans h

section
variable {B : Heap} {s₀ s : Shared} {L : Addr} {m : Str → Option Value} {own : List Spec}

theorem Cx.lt (C : Cx B s₀ L m own s) {p : Spec} (hp : p ∈ own) : p.1 < s.heap.objs.size := let ⟨_, ho, _⟩ := C.has p hp; Heap.lt_size ho
theorem Cx.ltL (C : Cx B s₀ L m own s) : L < s.heap.objs.size := C.ns.lt

/-- only tokens, objects put on -/
theorem Cx.ext (C : Cx B s₀ L m own s) {s' : Shared} (k : Keeps s.heap s'.heap) (g : Gx s s') : Cx B s₀ L m own s' :=
  ⟨C.keep.trans' k, C.ns.keeps k, fun p hp => let ⟨o, ho, h⟩ := C.has p hp; ⟨o, k _ _ ho, h⟩, C.offL, C.off, C.nd, C.g.trans g⟩
theorem Cx.tok (C : Cx B s₀ L m own s) (t : Nat) : Cx B s₀ L m own { s with toks := t } := C.ext (keeps_refl _) (Gx.heap (a := s) (h := s.heap))

theorem Cx.setL (C : Cx B s₀ L m own s) {h' : Heap} {m' : Str → Option Value} {t : Nat} (hn : h'.Ns L m') (hs : Heap.SameBut L s.heap h') : Cx B s₀ L m' own { s with heap := h', toks := t } :=
  ⟨fun b o e => (hs.2 b (fun q => by rw [q, C.offL] at e; cases e)).trans (C.keep b o e), hn,
   fun p hp => let ⟨o, ho, h⟩ := C.has p hp; ⟨o, (hs.2 _ (C.off p hp).2).trans ho, h⟩, C.offL, C.off, C.nd, C.g.trans Gx.heap⟩

theorem nodup_get {l : List Addr} (h : l.Nodup) {i j : Nat} {a : Addr} (hi : l[i]? = some a) (hj : l[j]? = some a) : i = j := by
  obtain ⟨h1, e1⟩ := List.getElem?_eq_some_iff.mp hi
  obtain ⟨h2, e2⟩ := List.getElem?_eq_some_iff.mp hj
  have P := List.pairwise_iff_getElem.mp h
  rcases Nat.lt_trichotomy i j with q | q | q
  · exact absurd (e1.trans e2.symm) (P i j h1 h2 q)
  · exact q
  · exact absurd (e2.trans e1.symm) (P j i h2 h1 q)

theorem Cx.upd (C : Cx B s₀ L m own s) (i : Nat) {a : Addr} {P P' : Obj → Prop} (hi : own[i]? = some (a, P)) {h' : Heap} {t : Nat} (hs : Heap.SameBut a s.heap h') (ho : ∃ o, h'.get? a = some o ∧ P' o) :
    Cx B s₀ L m (own.set i (a, P')) { s with heap := h', toks := t } := by
  have hm : (a, P) ∈ own := List.mem_of_getElem? hi
  have emap : (own.set i (a, P')).map (·.1) = own.map (·.1) := by
    rw [List.map_set]
    apply List.ext_getElem?
    intro j
    rw [List.getElem?_set]
    split
    · rename_i e; subst e
      rw [List.getElem?_map, hi]
      split
      · rfl
      · rename_i h; simp only [List.length_map] at h
        have := (List.getElem?_eq_some_iff.mp hi).1; exact absurd this h
    · rfl
  have sub : ∀ p ∈ own.set i (a, P'), p = (a, P') ∨ (p ∈ own ∧ p.1 ≠ a) := by
    intro p hp
    obtain ⟨j, hj⟩ := List.getElem?_of_mem hp
    rw [List.getElem?_set] at hj
    split at hj
    · split at hj
      · exact .inl (Option.some.inj hj).symm
      · cases hj
    · rename_i hij
      refine .inr ⟨List.mem_of_getElem? hj, fun e => hij ?_⟩
      exact nodup_get C.nd (a := a) (by rw [List.getElem?_map, hi]; rfl) (by rw [List.getElem?_map, hj]; exact congrArg some e)
  refine ⟨fun b o e => (hs.2 b (fun q => by rw [q, (C.off _ hm).1] at e; cases e)).trans (C.keep b o e), C.ns.sameBut hs (fun q => (C.off _ hm).2 q.symm), fun p hp => ?_, C.offL, fun p hp => ?_, by rw [emap]; exact C.nd, C.g.trans Gx.heap⟩
  · rcases sub p hp with rfl | ⟨hp', hne⟩
    · exact ho
    · obtain ⟨o, ho', h⟩ := C.has p hp'; exact ⟨o, (hs.2 _ hne).trans ho', h⟩
  · rcases sub p hp with rfl | ⟨hp', _⟩
    · exact C.off (a, P) hm
    · exact C.off p hp'

theorem Cx.push (C : Cx B s₀ L m own s) (o : Obj) (hf : o.isFreed = false) {P : Obj → Prop} (hP : P o) : Cx B s₀ L m ((s.heap.objs.size, P) :: own) { s with heap := s.heap.push o } := by
  have hB : B.get? s.heap.objs.size = none := by
    cases q : B.get? s.heap.objs.size with
    | none => rfl
    | some o' => exact absurd (Heap.lt_size (C.keep _ _ q)) (Nat.lt_irrefl _)
  refine ⟨fun b o' e => Heap.get?_push_of_some _ (C.keep b o' e), C.ns.push _, fun p hp => ?_, C.offL, fun p hp => ?_, ?_, C.g.trans (Gx.heap (t := s.toks))⟩
  · rcases List.mem_cons.mp hp with rfl | hp
    · exact ⟨o, Heap.get?_push_size _ hf, hP⟩
    · obtain ⟨o', ho', h⟩ := C.has p hp; exact ⟨o', Heap.get?_push_of_some _ ho', h⟩
  · rcases List.mem_cons.mp hp with rfl | hp
    · exact ⟨hB, Nat.ne_of_gt C.ltL⟩
    · exact C.off p hp
  · rw [List.map_cons, List.nodup_cons]
    refine ⟨fun hm => ?_, C.nd⟩
    obtain ⟨p, hp, e⟩ := List.mem_map.mp hm
    exact Nat.lt_irrefl _ (e ▸ C.lt hp)

theorem Cx.sub (C : Cx B s₀ L m own s) {own' : List Spec} (h : own'.Sublist own) : Cx B s₀ L m own' s :=
  ⟨C.keep, C.ns, fun p hp => C.has p (h.subset hp), C.offL, fun p hp => C.off p (h.subset hp), (h.map _).nodup C.nd, C.g⟩
/-- what a call brought stands from now on -/
theorem Cx.call (C : Cx B s₀ L m own s) {s' : Shared} (D : Done s s') :
    ∃ B', Keeps B B' ∧ Cx B' s₀ L m own s' ∧ (∀ b o, s.heap.objs.size ≤ b → s'.heap.get? b = some o → B'.get? b = some o) := by
  have hne : ∀ b ∈ (L :: own.map (·.1)), b < s.heap.objs.size ∧ B.get? b = none := by
    intro b hb
    rcases List.mem_cons.mp hb with rfl | hb
    · exact ⟨C.ltL, C.offL⟩
    · obtain ⟨p, hp, rfl⟩ := List.mem_map.mp hb; exact ⟨C.lt hp, (C.off p hp).1⟩
  have C' := C.ext D.keep D.g
  refine ⟨hideAll s'.heap (L :: own.map (·.1)), fun b o e => hideAll_get _ (C'.keep b o e) fun q => ?_, ⟨fun b o e => of_hideAll _ e, C'.ns, C'.has, hideAll_none _ (.head _), fun p hp => ⟨hideAll_none _ (.tail _ (List.mem_map_of_mem hp)), (C.off p hp).2⟩, C.nd, C'.g⟩, fun b o hb e => hideAll_get _ e fun q => ?_⟩
  · rw [(hne b q).2] at e; cases e
  · exact absurd (hne b q).1 (Nat.not_lt.mpr hb)

/-- an own object that will not change any more -/
theorem Cx.freeze {a : Addr} {P : Obj → Prop} (C : Cx B s₀ L m ((a, P) :: own) s) :
    ∃ B', Keeps B B' ∧ Cx B' s₀ L m own s ∧ ∃ o, B'.get? a = some o ∧ P o := by
  have C0 := C.sub (own' := own) (List.sublist_cons_self _ _)
  have hne : ∀ b ∈ (L :: own.map (·.1)), B.get? b = none ∧ b ≠ a := by
    intro b hb
    rcases List.mem_cons.mp hb with rfl | hb
    · exact ⟨C.offL, fun q => (C.off (a, P) (.head _)).2 q.symm⟩
    · obtain ⟨p, hp, rfl⟩ := List.mem_map.mp hb
      have := C.nd
      rw [List.map_cons, List.nodup_cons] at this
      exact ⟨(C0.off p hp).1, fun q => this.1 (q ▸ hb)⟩
  obtain ⟨o, ho, hP⟩ := C.has (a, P) (.head _)
  refine ⟨hideAll s.heap (L :: own.map (·.1)), fun b o e => hideAll_get _ (C.keep b o e) fun q => ?_, ⟨fun b o e => of_hideAll _ e, C.ns, C0.has, hideAll_none _ (.head _), fun p hp => ⟨hideAll_none _ (.tail _ (List.mem_map_of_mem hp)), (C0.off p hp).2⟩, C0.nd, C.g⟩, o, hideAll_get _ ho fun q => ?_, hP⟩
  · rw [(hne b q).1] at e; cases e
  · exact (hne a q).2 rfl

theorem Cx.get (C : Cx B s₀ L m own s) (i : Nat) {a : Addr} {P : Obj → Prop} (hi : own[i]? = some (a, P)) : ∃ o, s.heap.get? a = some o ∧ P o := C.has (a, P) (List.mem_of_getElem? hi)
theorem Cx.done (C : Cx B s₀ L m own s) (h : Keeps s₀.heap B) : Done s₀ s := ⟨h.trans' C.keep, C.g⟩
end

/-! ## kinds of own objects -/
def ListO (items : Array Value) : Obj → Prop := fun o => ∃ n, o = listOf items n
def LsAt (h : Heap) (a : Addr) (items : Array Value) : Prop := ∃ n, h.get? a = some (listOf items n)
theorem LsAt.isList {h : Heap} {a : Addr} {items : Array Value} (x : LsAt h a items) : h.IsList a items := let ⟨n, e⟩ := x; ⟨_, e, rfl, n, rfl⟩
theorem LsAt.keeps {h h' : Heap} {a : Addr} {items : Array Value} (x : LsAt h a items) (k : Keeps h h') : LsAt h' a items := let ⟨n, e⟩ := x; ⟨n, k _ _ e⟩
theorem LsAt.lt {h : Heap} {a : Addr} {items : Array Value} (x : LsAt h a items) : a < h.objs.size := let ⟨_, e⟩ := x; Heap.lt_size e
def CellO (v : Option Value) : Obj → Prop := fun o => o.data = .cell v
def ListIterO (l : Addr) (i : Nat) : Obj → Prop := fun o => o.cls = .type "list_iterator" ∧ o.data = .fields #[.ref l, .int i 0]
def AnyO : Obj → Prop := fun _ => True
section
variable {B : Heap} {s₀ s : Shared} {L : Addr} {m : Str → Option Value} {own : List Spec}
theorem Cx.list (C : Cx B s₀ L m own s) (i : Nat) {a : Addr} {items : Array Value} (hi : own[i]? = some (a, ListO items)) : LsAt s.heap a items := let ⟨_, e, n, q⟩ := C.get i hi; ⟨n, q ▸ e⟩
theorem Cx.cell (C : Cx B s₀ L m own s) (i : Nat) {a : Addr} {v : Option Value} (hi : own[i]? = some (a, CellO v)) : s.heap.IsCell a v := C.get i hi
theorem Cx.listIter (C : Cx B s₀ L m own s) (i : Nat) {a l : Addr} {k : Nat} (hi : own[i]? = some (a, ListIterO l k)) : s.heap.IsListIter a l k := C.get i hi
end
end Mine
end

section
open PySem PySem.Calls PySem.W PyProof.Rows
set_option maxRecDepth 100000
set_option autoImplicit false
set_option linter.all false
namespace Mine

/-! ## the text's own defs, by their place -/
def defAt (k : Nat) : Arguments × List Stmt × Scope := match PySem.Challenge.pw_wf0026_01.main.body.drop k with
  | .FunctionDef _ a b _ _ _ sc _ _ _ :: _ => (a, b, sc)
  | _ => default
def nameAt (k : Nat) : Str := match PySem.Challenge.pw_wf0026_01.main.body.drop k with
  | .FunctionDef n .. :: _ => n
  | _ => Str.empty
abbrev fd (k : Nat) (dV kV pm cd : Value) : FuncData := fnOf (nameAt k) (nameAt k) (defAt k).1 (defAt k).2.1 (defAt k).2.2 dV kV .none pm none cd .none
def FnAt (h : Heap) (f : Addr) (F : FuncData) : Prop := h.get? f = some ⟨.type "function", none, .func F, #[]⟩ ∧ h.CodeRec F.code F.qualname
theorem FnAt.keeps {h h' : Heap} {f : Addr} {F : FuncData} (x : FnAt h f F) (k : Keeps h h') : FnAt h' f F := ⟨k _ _ x.1, x.2.keeps k⟩

def globTab : List (Str × Option Value) := [("insort_left", some (.ref 23)), ("bisect_left", some (.ref 32)), ("_iter_escaped_chars", some (.ref 39)), ("_strip_quoted_realnames", some (.ref 46)), ("_check_parenthesis", some (.ref 53)),
  ("_strxfrm", some (.ref 60)), ("_grouping_intervals", some (.ref 67)), ("_law_pair", some (.ref 74)), ("_law_steps", some (.ref 79)), ("_law_orders", some (.ref 84)), ("_law_stays", some (.ref 91)), ("_law_text", some (.ref 96)),
  ("_law_heights", some (.ref 103)), ("_law_front", some (.ref 110)), ("_law_swept", some (.ref 115)), ("_law_room", some (.ref 122)),
  ("len", none), ("range", none), ("enumerate", none), ("zip", none), ("int", none), ("sum", none), ("max", none), ("sorted", none)]
def bltTab : List (Str × Value) := [("len", .builtin "len"), ("range", .type "range"), ("enumerate", .type "enumerate"), ("zip", .type "zip"), ("int", .type "int"), ("sum", .builtin "sum"), ("max", .builtin "max"), ("sorted", .builtin "sorted")]

structure GL (h : Heap) : Prop where
  lim : h.NoLimit
  gl : ∃ mg, h.Ns mainGlobals mg ∧ ∀ (i : Nat) x v, globTab[i]? = some (x, v) → mg x = v
  charMax : ∃ mg t, h.Ns mainGlobals mg ∧ mg "CHAR_MAX" = some (.int 127 t)
  bl : ∃ mb, h.Ns builtinsNs mb ∧ ∀ (i : Nat) x v, bltTab[i]? = some (x, v) → mb x = some v
  fInsort : ∃ pm cd, FnAt h 23 (fd 1 (.ref 15) (.ref 16) pm cd)
  fBisect : ∃ pm cd, FnAt h 32 (fd 2 (.ref 24) (.ref 25) pm cd)
  fIter : ∃ pm cd, FnAt h 39 (fd 4 .none .none pm cd)
  fStrip : ∃ pm cd, FnAt h 46 (fd 5 .none .none pm cd)
  fCheck : ∃ pm cd, FnAt h 53 (fd 6 .none .none pm cd)
  fXfrm : ∃ pm cd, FnAt h 60 (fd 8 .none .none pm cd)
  fGroup : ∃ pm cd, FnAt h 67 (fd 10 .none .none pm cd)
  fPair : ∃ pm cd, FnAt h 74 (fd 12 .none .none pm cd)
  fSteps : ∃ pm cd, FnAt h 79 (fd 13 .none .none pm cd)
  fOrders : ∃ pm cd, FnAt h 84 (fd 14 .none .none pm cd)
  fStays : ∃ pm cd, FnAt h 91 (fd 15 .none .none pm cd)
  fText : ∃ pm cd, FnAt h 96 (fd 16 .none .none pm cd)
  fHeights : ∃ pm cd, FnAt h 103 (fd 17 .none .none pm cd)
  fFront : ∃ pm cd, FnAt h 110 (fd 18 .none .none pm cd)
  fSwept : ∃ pm cd, FnAt h 115 (fd 19 .none .none pm cd)
  fRoom : ∃ pm cd, FnAt h 122 (fd 20 .none .none pm cd)
  dInsort : ∃ t ns, h.get? 15 = some ⟨.type "tuple", none, .seq #[.int 0 t, .none] 0, #[]⟩ ∧ h.Ns 16 ns ∧ ns "key" = some .none
  dBisect : ∃ t ns, h.get? 24 = some ⟨.type "tuple", none, .seq #[.int 0 t, .none] 0, #[]⟩ ∧ h.Ns 25 ns ∧ ns "key" = some .none

theorem FnAt.keepsE {h h' : Heap} {f : Addr} {F : Value → Value → FuncData} (x : ∃ pm cd, FnAt h f (F pm cd)) (k : Keeps h h') : ∃ pm cd, FnAt h' f (F pm cd) := let ⟨a, b, c⟩ := x; ⟨a, b, c.keeps k⟩
theorem GL.keeps {h h' : Heap} (x : GL h) (k : Keeps h h') : GL h' where
  lim := x.lim.keeps k
  gl := let ⟨a, b, c⟩ := x.gl; ⟨a, b.keeps k, c⟩
  charMax := let ⟨a, t, b, c⟩ := x.charMax; ⟨a, t, b.keeps k, c⟩
  bl := let ⟨a, b, c⟩ := x.bl; ⟨a, b.keeps k, c⟩
  fInsort := FnAt.keepsE x.fInsort k
  fBisect := FnAt.keepsE x.fBisect k
  fIter := FnAt.keepsE x.fIter k
  fStrip := FnAt.keepsE x.fStrip k
  fCheck := FnAt.keepsE x.fCheck k
  fXfrm := FnAt.keepsE x.fXfrm k
  fGroup := FnAt.keepsE x.fGroup k
  fPair := FnAt.keepsE x.fPair k
  fSteps := FnAt.keepsE x.fSteps k
  fOrders := FnAt.keepsE x.fOrders k
  fStays := FnAt.keepsE x.fStays k
  fText := FnAt.keepsE x.fText k
  fHeights := FnAt.keepsE x.fHeights k
  fFront := FnAt.keepsE x.fFront k
  fSwept := FnAt.keepsE x.fSwept k
  fRoom := FnAt.keepsE x.fRoom k
  dInsort := let ⟨t, a, b, c, d⟩ := x.dInsort; ⟨t, a, k _ _ b, c.keeps k, d⟩
  dBisect := let ⟨t, a, b, c, d⟩ := x.dBisect; ⟨t, a, k _ _ b, c.keeps k, d⟩

def retOf : Flow → Value
  | .ret v => v
  | _ => .none

section
variable {prog : Program} {w : World} {A : Around} {E : Value → Shared → Prop} {s : Shared}

abbrev envAt (k : Nat) (L f : Addr) (cd : Value) : Env := envOf (nameAt k) (defAt k).2.2 L f cd

theorem callDef {k : Nat} {dV kV pm cd : Value} {f : Addr} {args : List Value} {kw : List (Str × Value)} {binds : List (Str × Value)} {Q : Value → Shared → Prop}
    (lim : s.heap.NoLimit) (hf : FnAt s.heap f (fd k dV kV pm cd)) (hroom : A.depth < recursionLimit) (hbind : BindsTo s (fd k dV kV pm cd) ⟨args, kw⟩ binds)
    (h : ∀ L s₁, s.heap.objs.size ≤ L → Cx s.heap s L (fun x => binds.reverse.lookup x) [] s₁ → wpAny (model prog w) (A.deeper (envAt k L f cd)) (execs (defAt k).2.1 (envAt k L f cd)) (fun fl s' => Q (retOf fl) s') (fun _ _ => False) s₁)
    (hloc : ∀ x ∈ binds, (defAt k).2.2.names.lookup x.1 = some .local := by exact locs (by kernel_rfl!))
    (hco : (defAt k).2.2.isCoroutine = false := by rfl) (hgen : (defAt k).2.2.isGenerator = false := by rfl) (hk : (defAt k).2.2.kind = .function := by rfl)
    (hcell : ∀ x ∈ (defAt k).2.2.names, x.2 ≠ .cell := by decide) : wpAny (model prog w) A (call (.ref f) args kw) Q E s := by
  refine wpAny_call (codeAny_call_function (fd := fd k dV kV pm cd) hroom hf.1 rfl hco hgen rfl hf.2 ?_)
  refine hbind _ _ _ _ (wpAny_newFunctionEnv hcell hloc (fun h₁ hns hsb => ⟨lim.fresh _ hsb, ?_⟩) hk)
  show codeAny _ _ (.func (defAt k).2.1 (envAt k s.heap.objs.size f cd)) _ _
  refine codeAny_func (wpAny_mono (h s.heap.objs.size _ (Nat.le_refl _) ⟨fun b o e => ?_, hns, fun _ hp => (nomatch hp), ?_, fun _ hp => (nomatch hp), List.nodup_nil, ?_⟩) (fun fl s' hq => ?_) (fun _ _ x => x.elim))
  · exact hsb.extBut b o (Nat.ne_of_lt (Heap.lt_size e)) (Heap.get?_push_of_some _ e)
  · cases q : s.heap.get? s.heap.objs.size with
    | none => rfl
    | some o' => exact absurd (Heap.lt_size q) (Nat.lt_irrefl _)
  · exact Gx.heap
  · cases fl <;> exact hq
theorem cells_fst : ∀ (names : List (Str × NameKind)) (n n' : Nat) (acc acc' : List (Str × Addr)), acc.map (·.1) = acc'.map (·.1) → (cellsFrom n names acc).map (·.1) = (cellsFrom n' names acc').map (·.1)
  | [], _, _, _, _, h => h
  | (x, k) :: r, n, n', acc, acc', h => by
    unfold cellsFrom
    split
    · exact cells_fst r _ _ _ _ (by rw [List.map_cons, List.map_cons, h])
    · exact cells_fst r _ _ _ _ h
theorem lookup_of_nodup : ∀ {l : List (Str × Addr)}, (l.map (·.1)).Nodup → ∀ {n : Str} {c : Addr}, (n, c) ∈ l → l.lookup n = some c
  | (x, d) :: r, h, n, c, hm => by
    rw [List.map_cons, List.nodup_cons] at h
    rw [List.lookup_cons]
    rcases List.mem_cons.mp hm with e | hm2
    · cases e; simp
    · have hne : (n == x) = false := by
        cases q : n == x with
        | false => rfl
        | true =>
          have := beq_iff_eq.mp q
          subst this
          have hm' : n ∈ r.map (·.1) := List.mem_map_of_mem (f := (·.1)) hm2
          exact absurd hm' h.1
      rw [hne]; exact lookup_of_nodup h.2 hm2
/-- the same where a comprehension reads names of the frame: they lie in cells -/
abbrev envAtC (k : Nat) (L f : Addr) (cd : Value) : Env := newEnv (defAt k).2.2 L mainGlobals (cellsFrom (L + 1) (defAt k).2.2.names []) (nameAt k ++ ".<locals>.") (some f) cd none builtinsNs
theorem callDefC {k : Nat} {dV kV pm cd : Value} {f : Addr} {args : List Value} {kw : List (Str × Value)} {binds : List (Str × Value)} {Q : Value → Shared → Prop}
    (lim : s.heap.NoLimit) (hf : FnAt s.heap f (fd k dV kV pm cd)) (hroom : A.depth < recursionLimit) (hbind : BindsTo s (fd k dV kV pm cd) ⟨args, kw⟩ binds)
    (h : ∀ L s₁, s.heap.objs.size ≤ L → Cx s.heap s L (bindL (envAtC k L f cd).kindOf binds fun _ => none) ((cellsFrom (L + 1) (defAt k).2.2.names []).map fun p => (p.2, CellO (bindC (envAtC k L f cd).kindOf binds (fun _ => none) p.1))) s₁ →
      wpAny (model prog w) (A.deeper (envAtC k L f cd)) (execs (defAt k).2.1 (envAtC k L f cd)) (fun fl s' => Q (retOf fl) s') (fun _ _ => False) s₁)
    (hkind : (binds.all fun y => (defAt k).2.2.names.lookup y.1 == some .local || (defAt k).2.2.names.lookup y.1 == some .cell) = true := by kernel_rfl!)
    (hnd : ((cellsFrom 0 (defAt k).2.2.names []).map (·.1)).Nodup := by decide)
    (hco : (defAt k).2.2.isCoroutine = false := by rfl) (hgen : (defAt k).2.2.isGenerator = false := by rfl) (hk : (defAt k).2.2.kind = .function := by rfl) :
    wpAny (model prog w) A (call (.ref f) args kw) Q E s := by
  refine wpAny_call (codeAny_call_function (fd := fd k dV kV pm cd) hroom hf.1 rfl hco hgen rfl hf.2 ?_)
  refine hbind _ _ _ _ (wpAny_newFunctionEnv_cells hk (kindsX hkind _) fun env he s₁ X => ?_)
  have hen : env = envAtC k s.heap.objs.size f cd := he
  subst hen
  refine ⟨lim.keeps X.toInCall.keep, ?_⟩
  show codeAny _ _ (.func (defAt k).2.1 (envAtC k s.heap.objs.size f cd)) _ _
  have hno : ∀ b, s.heap.objs.size ≤ b → s.heap.get? b = none := fun b hb => by
    cases q : s.heap.get? b with
    | none => rfl
    | some o' => exact absurd (Heap.lt_size q) (Nat.not_lt.mpr hb)
  have hlk : ∀ n c, (n, c) ∈ cellsFrom (s.heap.objs.size + 1) (defAt k).2.2.names [] → (cellsFrom (s.heap.objs.size + 1) (defAt k).2.2.names []).lookup n = some c :=
    fun n c hm => lookup_of_nodup (by rw [cells_fst _ _ 0 [] [] rfl]; exact hnd) hm
  refine codeAny_func (wpAny_mono (h s.heap.objs.size s₁ (Nat.le_refl _) ⟨X.toInCall.keep, X.toInCall.ns, fun p hp => ?_, hno _ (Nat.le_refl _), fun p hp => ?_, ?_, ?_⟩) (fun fl s' hq => ?_) (fun _ _ x => x.elim))
  · obtain ⟨⟨n, c⟩, hm, rfl⟩ := List.mem_map.mp hp
    exact X.cell n c (hlk n c hm)
  · obtain ⟨⟨n, c⟩, hm, rfl⟩ := List.mem_map.mp hp
    have := X.above n c hm
    exact ⟨hno _ (Nat.le_of_lt this), Nat.ne_of_gt this⟩
  · rw [List.map_map]
    exact List.pairwise_map.mpr X.apart
  · obtain ⟨h', tk, e⟩ := X.toInCall.same
    rw [e]; exact Gx.heap
  · cases fl <;> exact hq
end

/-! ## names -/
section
variable {prog : Program} {w : World} {M : Model} {A : Around} {E : Value → Shared → Prop} {s s₀ : Shared} {B : Heap} {L : Addr} {m : Str → Option Value} {own : List Spec} {env : Env}

theorem ldM {x : Str} {v : Value} {Q : Value → Shared → Prop} (C : Cx B s₀ L m own s) (hv : m x = some v) (h : Q v s)
    (hk : env.scope.kind = .function := by rfl) (hl : env.kindOf x = some .local := by kernel_rfl!) (hL : env.locals = L := by rfl) :
    wpAny M A (loadName env x) Q E s := wpAny_loadName_local hk hl (hL ▸ C.ns) hv h
theorem ldN {x : Str} {pos : Pos} {v : Value} {Q : Value → Shared → Prop} (C : Cx B s₀ L m own s) (hv : m x = some v) (h : Q v s)
    (hk : env.scope.kind = .function := by rfl) (hl : env.kindOf x = some .local := by kernel_rfl!) (hL : env.locals = L := by rfl) (hd : (x == ("__debug__" : Str)) = false := by decide) :
    wpAny M A (eval (.Name x pos) env) Q E s := wpAny_Name (ldM C hv h hk hl hL) hd
theorem stM {x : Str} {v : Value} {Q : Unit → Shared → Prop} (C : Cx B s₀ L m own s) (h : ∀ s', Cx B s₀ L (upd m x v) own s' → Q () s')
    (hk : env.scope.kind = .function := by rfl) (hl : env.kindOf x = some .local := by kernel_rfl!) (hL : env.locals = L := by rfl) :
    wpAny M A (storeName env x v) Q E s := by
  subst hL
  exact wpAny_storeName_local hl C.ns (fun _ hn hs => h _ (C.setL hn hs)) (by rw [hk]; rfl)
theorem asN {x : Str} {pos : Pos} {v : Value} {Q : Unit → Shared → Prop} (C : Cx B s₀ L m own s) (h : ∀ s', Cx B s₀ L (upd m x v) own s' → Q () s')
    (hk : env.scope.kind = .function := by rfl) (hl : env.kindOf x = some .local := by kernel_rfl!) (hL : env.locals = L := by rfl) :
    wpAny M A (assign (.Name x pos) env v) Q E s := by
  show wpAny M A (standAt pos >>= fun _ => bindName env x v) Q E s
  exact wpAny_bind (wpAny_standAt (wpAny_bindName (stM C h hk hl hL)))
/-- a name that a comprehension reads too: it lies in a cell -/
theorem ldCM {x : Str} {v : Value} {c : Addr} {Q : Value → Shared → Prop} (C : Cx B s₀ L m own s) (i : Nat) (hi : own[i]? = some (c, CellO (some v))) (h : Q v s)
    (hc : env.cells.lookup x = some c := by kernel_rfl!) (hk : env.scope.kind = .function := by rfl) (hl : env.kindOf x = some .cell := by kernel_rfl!) :
    wpAny M A (loadName env x) Q E s := wpAny_loadName_cell hk hl hc (C.cell i hi) h
theorem ldCN {x : Str} {pos : Pos} {v : Value} {c : Addr} {Q : Value → Shared → Prop} (C : Cx B s₀ L m own s) (i : Nat) (hi : own[i]? = some (c, CellO (some v))) (h : Q v s)
    (hc : env.cells.lookup x = some c := by kernel_rfl!) (hk : env.scope.kind = .function := by rfl) (hl : env.kindOf x = some .cell := by kernel_rfl!) (hd : (x == ("__debug__" : Str)) = false := by decide) :
    wpAny M A (eval (.Name x pos) env) Q E s := wpAny_Name (ldCM C i hi h hc hk hl) hd
theorem stCM {x : Str} {v : Value} {v₀ : Option Value} {c : Addr} {Q : Unit → Shared → Prop} (C : Cx B s₀ L m own s) (i : Nat) (hi : own[i]? = some (c, CellO v₀)) (h : ∀ s', Cx B s₀ L m (own.set i (c, CellO (some v))) s' → Q () s')
    (hc : env.cells.lookup x = some c := by kernel_rfl!) (hk : env.scope.kind = .function := by rfl) (hl : env.kindOf x = some .cell := by kernel_rfl!) :
    wpAny M A (storeName env x v) Q E s := wpAny_storeName_cell hk hl hc (C.cell i hi) fun _ hc' hs => h _ (C.upd i hi hs (t := s.toks) hc')
theorem asCN {x : Str} {pos : Pos} {v : Value} {v₀ : Option Value} {c : Addr} {Q : Unit → Shared → Prop} (C : Cx B s₀ L m own s) (i : Nat) (hi : own[i]? = some (c, CellO v₀)) (h : ∀ s', Cx B s₀ L m (own.set i (c, CellO (some v))) s' → Q () s')
    (hc : env.cells.lookup x = some c := by kernel_rfl!) (hk : env.scope.kind = .function := by rfl) (hl : env.kindOf x = some .cell := by kernel_rfl!) :
    wpAny M A (assign (.Name x pos) env v) Q E s := by
  show wpAny M A (standAt pos >>= fun _ => bindName env x v) Q E s
  exact wpAny_bind (wpAny_standAt (wpAny_bindName (stCM C i hi h hc hk hl)))
theorem ldG {x : Str} {pos : Pos} {v : Value} {Q : Value → Shared → Prop} (G : GL s.heap) (i : Nat) (hi : globTab[i]? = some (x, some v)) (h : Q v s)
    (hk : env.scope.kind = .function := by rfl) (hl : env.kindOf x = some .globalImplicit := by kernel_rfl!) (hd : (x == ("__debug__" : Str)) = false := by decide) (hg : env.globals = mainGlobals := by rfl) :
    wpAny M A (eval (.Name x pos) env) Q E s := by
  obtain ⟨mg, hn, hm⟩ := G.gl
  exact Name_function_global hk hl (loadGlobal_global (hg ▸ hn) (hm i x _ hi) h) hd
theorem ldB {x : Str} {pos : Pos} {v : Value} {Q : Value → Shared → Prop} (G : GL s.heap) (i j : Nat) (hi : globTab[i]? = some (x, none)) (hj : bltTab[j]? = some (x, v)) (h : Q v s)
    (hk : env.scope.kind = .function := by rfl) (hl : env.kindOf x = some .globalImplicit := by kernel_rfl!) (hd : (x == ("__debug__" : Str)) = false := by decide) (hg : env.globals = mainGlobals := by rfl) (hb : env.builtins = builtinsNs := by rfl) :
    wpAny M A (eval (.Name x pos) env) Q E s := by
  obtain ⟨mg, hn, hm⟩ := G.gl
  obtain ⟨mb, hbn, hm'⟩ := G.bl
  exact Name_function_global hk hl (loadGlobal_builtin (hg ▸ hn) (hm i x _ hi) (hb ▸ hbn) (hm' j x _ hj) h) hd
end

/-! ## lists of ints -/
def IL (h : Heap) (a : Addr) (xs : List Int) : Prop := ∃ vs : List Value, LsAt h a vs.toArray ∧ IntsAre vs xs
theorem IL.keeps {h h' : Heap} {a : Addr} {xs : List Int} (x : IL h a xs) (k : Keeps h h') : IL h' a xs := let ⟨vs, l, c⟩ := x; ⟨vs, l.keeps k, c⟩
theorem intsAre_get : ∀ {vs : List Value} {xs : List Int} {i : Nat} {x : Int}, IntsAre vs xs → xs[i]? = some x → ∃ t, vs[i]? = some (.int x t)
  | [], _, i, x, h, e => by cases h; simp at e
  | v :: vs, _, i, x, h, e => by
    cases h with
    | cons _ _ h =>
      cases i with
      | zero => simp at e; subst e; exact ⟨_, rfl⟩
      | succ i => simpa using intsAre_get h (by simpa using e)
theorem intsAre_at : ∀ {vs : List Value} {xs : List Int} {i : Nat} {v : Value}, IntsAre vs xs → vs[i]? = some v → ∃ x t, xs[i]? = some x ∧ v = .int x t
  | [], _, i, x, h, e => by simp at e
  | v :: vs, _, i, x, h, e => by
    cases h with
    | cons _ _ h =>
      cases i with
      | zero => simp at e; subst e; exact ⟨_, _, rfl, rfl⟩
      | succ i => simpa using intsAre_at h (by simpa using e)
theorem drop_at {α : Type} {xs : List α} {k : Nat} {x : α} (h : xs[k]? = some x) : xs.drop k = x :: xs.drop (k + 1) := by
  obtain ⟨h1, h2⟩ := List.getElem?_eq_some_iff.mp h
  rw [List.drop_eq_getElem_cons h1, h2]
end Mine
end

section
open PySem PySem.Calls PySem.W PyProof.Rows
set_option maxRecDepth 100000
set_option autoImplicit false
set_option linter.all false
namespace Mine
abbrev NoE : Value → Shared → Prop := fun _ _ => False
section
variable {prog : Program} {w : World} {A : Around} {E : Value → Shared → Prop} {s s₀ : Shared} {B : Heap} {L : Addr} {m : Str → Option Value} {own : List Spec} {env : Env}

theorem noE {α : Type} {M : Model} {t : Sem α} {Q : α → Shared → Prop} (h : wpAny M A t Q NoE s) : wpAny M A t Q E s := wpAny_mono h (fun _ _ x => x) fun _ _ x => x.elim

/-- what a turn leaves: the loop's own word at the next place -/
def Turn (s₀ : Shared) (L : Addr) (B : Heap) (it : Addr) (P : Obj → Prop) (I : Heap → (Str → Option Value) → List Spec → Prop) (R : Value → Shared → Prop) (fl : Flow) (s' : Shared) : Prop := match fl with
  | .next => ∃ B' m' own', Keeps B B' ∧ Cx B' s₀ L m' ((it, P) :: own') s' ∧ I B' m' own'
  | .cont => ∃ B' m' own', Keeps B B' ∧ Cx B' s₀ L m' ((it, P) :: own') s' ∧ I B' m' own'
  | .brk => False
  | .ret v => R v s'

theorem for_list {x : Str} {px pos : Pos} {iter : Expr} {body : List Stmt} {a : Addr} {vs : List Value} {Q : Flow → Shared → Prop}
    (C : Cx B s₀ L m own s) (hl : B.IsList a vs.toArray) (hh : A.handled = none)
    (hiter : ∀ {Q' : Value → Shared → Prop}, Q' (.ref a) s → wpAny (model prog w) A (eval iter env) Q' NoE s)
    (I : Nat → Heap → (Str → Option Value) → List Spec → Prop) (h0 : I 0 B m own)
    (turn : ∀ (k : Nat) v B' m' own' it s', vs[k]? = some v → Keeps B B' → I k B' m' own' → Cx B' s₀ L (upd m' x v) ((it, ListIterO a (k + 1)) :: own') s' →
      wpAny (model prog w) A (execs body env) (Turn s₀ L B' it (ListIterO a (k + 1)) (I (k + 1)) fun v s'' => Q (.ret v) s'') NoE s')
    (fin : ∀ B' m' own' s', Keeps B B' → I vs.length B' m' own' → Cx B' s₀ L m' own' s' → Q .next s')
    (hs : ∀ y, foldedSetIterable iter env y = pure y := by intro _; rfl)
    (hk : env.scope.kind = .function := by rfl) (hx : env.kindOf x = some .local := by kernel_rfl!) (hL : env.locals = L := by rfl) :
    wpAny (model prog w) A (exec (.For (.Name x px) iter body [] pos) env) Q NoE s := by
  refine wpAny_For (hiter (wpAny_pyIter_list (by obtain ⟨o, ho, r⟩ := hl; exact ⟨o, C.keep _ _ ho, r⟩) ?_)) hs
  have C1 := C.push { cls := .type "list_iterator", data := .fields #[.ref a, .int 0 0] } rfl (P := ListIterO a 0) ⟨rfl, rfl⟩
  generalize s.heap.objs.size = it at C1 ⊢
  refine codeAny_forLoop_any (fun n s' => ∃ k B' m' own', n = vs.length - k ∧ k ≤ vs.length ∧ Keeps B B' ∧ I k B' m' own' ∧ Cx B' s₀ L m' ((it, ListIterO a k) :: own') s') ?_ vs.length ⟨0, B, m, own, rfl, Nat.zero_le _, keeps_refl _, h0, C1⟩
  rintro n s' ⟨k, B', m', own', rfl, hk', kB, hI, C'⟩
  have hl' : s'.heap.IsList a vs.toArray := by obtain ⟨o, ho, r⟩ := hl; exact ⟨o, C'.keep _ _ (kB _ _ ho), r⟩
  have hit := C'.listIter 0 rfl
  cases hv : vs[k]? with
  | none =>
    have hkl : k = vs.length := by have := List.getElem?_eq_none_iff.mp hv; omega
    subst hkl
    refine wpAny_pyNext_list_end hh hit hl' (by simp) fun h' hs' => ?_
    refine noE (wpAny_execs_nil (fin B' m' own' _ kB hI ?_))
    have C2 := C'.sub (own' := own') (List.sublist_cons_self _ _)
    have off := C'.off _ (.head _)
    refine ⟨fun b o e => hs' b o (fun q => by rw [q, off.1] at e; cases e) (C2.keep b o e), C2.ns.extBut hs' (fun q => off.2 q.symm), fun p hp => ?_, C2.offL, C2.off, C2.nd, C2.g.trans (Gx.heap (t := s'.toks))⟩
    obtain ⟨o, ho, hP⟩ := C2.has p hp
    refine ⟨o, hs' _ _ (fun q => ?_) ho, hP⟩
    have := C'.nd
    rw [List.map_cons, List.nodup_cons] at this
    have hm : p.1 ∈ own'.map (·.1) := List.mem_map_of_mem hp
    exact this.1 (by rw [← q]; exact hm)
  | some v =>
    have hkl : k < vs.length := (List.getElem?_eq_some_iff.mp hv).1
    refine wpAny_pyNext_list_item hit hl' (by simpa using hv) fun h' hi' hs' => ?_
    have C2 : Cx B' s₀ L m' ((it, ListIterO a (k + 1)) :: own') { s' with heap := h' } := C'.upd 0 rfl hs' (t := s'.toks) hi'
    refine wpAny_pure ?_
    refine asN C2 (fun s2 C3 => ?_) hk hx hL
    refine wpAny_mono (turn k v B' m' own' it s2 hv kB hI C3) (fun fl s3 h3 => ?_) (fun _ _ x => x.elim)
    cases fl with
    | next => obtain ⟨B3, m3, own3, k3, C3, I3⟩ := h3; exact ⟨vs.length - (k + 1), by omega, k + 1, B3, m3, own3, rfl, hkl, kB.trans' k3, I3, C3⟩
    | cont => obtain ⟨B3, m3, own3, k3, C3, I3⟩ := h3; exact ⟨vs.length - (k + 1), by omega, k + 1, B3, m3, own3, rfl, hkl, kB.trans' k3, I3, C3⟩
    | brk => exact h3.elim
    | ret v => exact h3
end
end Mine
end

section
open PySem PySem.Calls PySem.W PyProof.Rows
set_option maxRecDepth 100000
set_option autoImplicit false
set_option linter.all false
namespace Mine
def staysFrom : Int → List Int → Bool
  | _, [] => true
  | h, x :: xs => if h + x < 0 then false else staysFrom (h + x) xs
section
variable {prog : Program} {w : World} {A : Around} {E : Value → Shared → Prop} {s : Shared}
theorem stays_spec {a : Addr} {xs : List Int} {Q : Value → Shared → Prop} (G : GL s.heap) (hl : IL s.heap a xs) (hd : A.depth < recursionLimit) (hh : A.handled = none)
    (h : ∀ s', Done s s' → Q (.bool (staysFrom 0 xs)) s') : wpAny (model prog w) A (call (.ref 91) [.ref a]) Q E s := by
  obtain ⟨pm, cd, hf⟩ := G.fStays
  refine callDef G.lim hf hd (BindsTo.of_eq (binds := [("order", .ref a)]) (by kernel_rfl!)) fun L s₁ nL C => ?_
  have e : (defAt 15).2.1 = (defAt 15).2.1 := rfl
  conv at e => lhs; whnf
  rw [← e]; clear e
  obtain ⟨vs, hl, hi⟩ := hl
  refine wpAny_execs_cons (wpAny_Assign_Name (wpAny_Constant_int (stM (C.tok _) fun s2 C2 => ?_)))
  refine wpAny_execs_cons (for_list C2 hl.isList hh (fun h => ldN C2 (by rfl) h)
    (fun k B' m own => B' = s.heap ∧ own = [] ∧ ∃ z t, m "height" = some (.int z t) ∧ staysFrom 0 xs = staysFrom z (xs.drop k)) ⟨rfl, rfl, 0, _, upd_same, rfl⟩ ?_ ?_)
  · rintro k v B' m own it s3 hv - ⟨rfl, rfl, z, t, hz, hs⟩ C3
    obtain ⟨x, t', hx, rfl⟩ := intsAre_at hi hv
    refine wpAny_execs_cons (wpAny_AugAssign_Name (ldM C3 (upd_ne hz (by decide)) (ldN C3 upd_same (iadd_int (stM (C3.tok _) fun s4 C4 => ?_)))))
    refine wpAny_execs_cons (wpAny_If (wpAny_isTrue_Compare1 (ldN C4 upd_same (wpAny_Constant_int (lt_int (wpAny_truthy_bool ?_))))))
    rw [drop_at hx] at hs
    by_cases hlt : z + x < 0
    · rw [if_pos (by simpa using hlt)]
      refine wpAny_execs_cons (wpAny_Return_some (wpAny_Constant_bool ?_))
      have : staysFrom 0 xs = false := by rw [hs, staysFrom, if_pos hlt]
      rw [this] at h
      exact h _ ((C4.tok _).done (keeps_refl _))
    · rw [if_neg (by simpa using hlt)]
      refine wpAny_execs_nil (wpAny_execs_nil ⟨s.heap, _, [], keeps_refl _, C4.tok _, rfl, rfl, z + x, _, upd_same, ?_⟩)
      rw [hs, staysFrom, if_neg hlt]
  · rintro B' m own s3 - ⟨rfl, rfl, z, t, hz, hs⟩ C3
    refine wpAny_execs_cons (wpAny_Return_some (wpAny_Constant_bool ?_))
    have : staysFrom 0 xs = true := by rw [hs, List.drop_eq_nil_of_le (by have := hi.length; omega)]; rfl
    rw [this] at h
    exact h _ (C3.done (keeps_refl _))
end
end Mine
end

section
open PySem PySem.Calls PySem.W PyProof.Rows
set_option maxRecDepth 100000
set_option autoImplicit false
set_option linter.all false
namespace Mine
theorem keeps_fresh {h h' : Heap} (x : Heap.ExtBut h.objs.size h h') : Keeps h h' := fun b o e => x b o (Nat.ne_of_lt (Heap.lt_size e)) e
theorem isTuple_push {h : Heap} {vs : List Value} : (h.push { cls := .type "tuple", data := .seq vs.toArray }).IsTuple h.objs.size vs.toArray := ⟨_, Heap.get?_push_size _ rfl, rfl, 0, rfl⟩
theorem size_small {n : Nat} (h : Nat.ble n 1000 = true) : n ≤ sizeLine := Nat.le_trans (Nat.le_of_ble_eq_true h) (by decide)
section
variable {prog : Program} {w : World} {A : Around} {E : Value → Shared → Prop} {s s₀ : Shared} {B : Heap} {L : Addr} {m : Str → Option Value} {own : List Spec} {env : Env}

theorem Cx.pushAny (C : Cx B s₀ L m own s) (o : Obj) : Cx B s₀ L m own { s with heap := s.heap.push o } :=
  C.ext (s' := { s with heap := s.heap.push o }) (fun _ _ e => Heap.get?_push_of_some _ e) (Gx.heap (t := s.toks))

/-- two names out of a tuple -/
theorem as2 {x y : Str} {px py pos : Pos} {k : Nat} {t : Addr} {v1 v2 : Value} {Q : Unit → Shared → Prop} (C : Cx B s₀ L m own s) (hh : A.handled = none) (ht : s.heap.IsTuple t #[v1, v2])
    (h : ∀ s', Cx B s₀ L (upd (upd m x v1) y v2) own s' → Q () s')
    (hk : env.scope.kind = .function := by rfl) (hx : env.kindOf x = some .local := by kernel_rfl!) (hy : env.kindOf y = some .local := by kernel_rfl!) (hL : env.locals = L := by rfl) :
    wpAny (model prog w) A (assign (.Tuple [.Name x px, .Name y py] k pos) env (.ref t)) Q E s := by
  refine wpAny_assign_Tuple hh ht rfl rfl fun h' hx' => ?_
  have C1 := C.ext (s' := { s with heap := h' }) (keeps_fresh hx') (Gx.heap (t := s.toks))
  show wpAny _ _ (holding [v2] (assign (.Name x px) _ v1) >>= fun _ => holding [] (assign (.Name y py) _ v2) >>= fun _ => assignInOrder [] []) Q E _
  refine wpAny_bind (wpAny_holding (asN C1 (fun s2 C2 => ?_) hk hx hL))
  refine wpAny_bind (wpAny_holding (asN C2 (fun s3 C3 => ?_) hk hy hL))
  exact wpAny_pure (h _ C3)

def plainE : PySem.Expr → Bool
  | .Starred .. => false
  | _ => true
theorem star_nil (env : Env) : starEach [] env = [] := rfl
theorem star_cons {e : PySem.Expr} {rest : List PySem.Expr} {env : Env} (h : plainE e = true) : starEach (e :: rest) env = (false, eval e env) :: starEach rest env := by
  cases e <;> first | rfl | cases h
theorem items_cons {e : PySem.Expr} {rest : List PySem.Expr} {pos : Pos} {Q : List Value → Shared → Prop}
    (h : wpAny (model prog w) A (eval e env) (fun v s₁ => wpAny (model prog w) A (spliced (backTo pos (starEach rest env))) (fun vs s₂ => Q (v :: vs) s₂) E s₁) E s)
    (he : plainE e = true := by kernel_rfl!) : wpAny (model prog w) A (spliced (backTo pos (starEach (e :: rest) env))) Q E s := by
  rw [star_cons he]
  exact spliced_cons h
theorem items_nil {pos : Pos} {Q : List Value → Shared → Prop} (h : Q [] s) : wpAny (model prog w) A (spliced (backTo pos (starEach [] env))) Q E s := spliced_nil h
theorem items2 {e1 e2 : PySem.Expr} {pos : Pos} {Q : List Value → Shared → Prop}
    (h : wpAny (model prog w) A (eval e1 env) (fun v1 s1 => wpAny (model prog w) A (eval e2 env) (fun v2 s2 => Q [v1, v2] s2) E s1) E s)
    (h1 : plainE e1 = true := by kernel_rfl!) (h2 : plainE e2 = true := by kernel_rfl!) : wpAny (model prog w) A (spliced (backTo pos (starEach [e1, e2] env))) Q E s :=
  items_cons (wpAny_mono h (fun _ _ x => items_cons (wpAny_mono x (fun _ _ y => items_nil y) fun _ _ y => y) h2) fun _ _ y => y) h1
end
end Mine
end

section
open PySem PySem.Calls PySem.W PyProof.Rows
set_option maxRecDepth 100000
set_option autoImplicit false
set_option linter.all false
namespace Mine
def roomFrom : Int → Int → List Int → Int
  | r, _, [] => r
  | r, u, x :: xs => if 0 < x then roomFrom r (u + 1) xs else roomFrom (r + u) u xs
section
variable {prog : Program} {w : World} {A : Around} {E : Value → Shared → Prop} {s : Shared}
theorem room_spec {a : Addr} {xs : List Int} {Q : Value → Shared → Prop} (G : GL s.heap) (hl : IL s.heap a xs) (hd : A.depth < recursionLimit) (hh : A.handled = none)
    (h : ∀ s' t, Done s s' → Q (.int (roomFrom 0 0 xs) t) s') : wpAny (model prog w) A (call (.ref 122) [.ref a]) Q E s := by
  obtain ⟨pm, cd, hf⟩ := G.fRoom
  refine callDef G.lim hf hd (BindsTo.of_eq (binds := [("order", .ref a)]) (by kernel_rfl!)) fun L s₁ nL C => ?_
  have e : (defAt 20).2.1 = (defAt 20).2.1 := rfl
  conv at e => lhs; whnf
  rw [← e]; clear e
  obtain ⟨vs, hl, hi⟩ := hl
  refine wpAny_execs_cons (Assign_Tuple (wpAny_Tuple (items2 (wpAny_Constant_int (wpAny_Constant_int ⟨size_small rfl, ?_⟩)))))
  refine as2 ((C.tok _).tok _ |>.pushAny _) hh isTuple_push fun s2 C2 => ?_
  refine wpAny_execs_cons (for_list C2 hl.isList hh (fun h => ldN C2 (by rfl) h)
    (fun k B' m own => B' = s.heap ∧ own = [] ∧ ∃ r t u t', m "room" = some (.int r t) ∧ m "ups" = some (.int u t') ∧ roomFrom 0 0 xs = roomFrom r u (xs.drop k)) ⟨rfl, rfl, 0, _, 0, _, upd_ne upd_same (by decide), upd_same, rfl⟩ ?_ ?_)
  · rintro k v B' m own it s3 hv - ⟨rfl, rfl, r, t, u, t', hr, hu, hs⟩ C3
    obtain ⟨x, t', hx, rfl⟩ := intsAre_at hi hv
    rw [drop_at hx] at hs
    refine wpAny_execs_cons (wpAny_If (wpAny_isTrue_Compare1 (ldN C3 upd_same (wpAny_Constant_int (gt_int (wpAny_truthy_bool ?_))))))
    by_cases hlt : 0 < x
    · rw [if_pos (by simpa using hlt)]
      refine wpAny_execs_cons (wpAny_AugAssign_Name (ldM (C3.tok _) (upd_ne hu (by decide)) (wpAny_Constant_int (iadd_int (stM (((C3.tok _).tok _).tok _) fun s4 C4 => ?_)))))
      refine wpAny_execs_nil (wpAny_execs_nil ⟨s.heap, _, [], keeps_refl _, C4, rfl, rfl, r, _, u + 1, _, upd_ne (upd_ne hr (by decide)) (by decide), upd_same, ?_⟩)
      rw [hs, roomFrom, if_pos hlt]
    · rw [if_neg (by simpa using hlt)]
      refine wpAny_execs_cons (wpAny_AugAssign_Name (ldM (C3.tok _) (upd_ne hr (by decide)) (ldN (C3.tok _) (upd_ne hu (by decide)) (iadd_int (stM ((C3.tok _).tok _) fun s4 C4 => ?_)))))
      refine wpAny_execs_nil (wpAny_execs_nil ⟨s.heap, _, [], keeps_refl _, C4, rfl, rfl, r + u, _, u, _, upd_same, upd_ne (upd_ne hu (by decide)) (by decide), ?_⟩)
      rw [hs, roomFrom, if_neg hlt]
  · rintro B' m own s3 - ⟨rfl, rfl, r, t, u, t', hr, hu, hs⟩ C3
    refine wpAny_execs_cons (wpAny_Return_some (ldN C3 hr ?_))
    have : roomFrom 0 0 xs = r := by rw [hs, List.drop_eq_nil_of_le (by have := hi.length; omega)]; rfl
    rw [this] at h
    exact h _ _ (C3.done (keeps_refl _))
end
end Mine
end

section
open PySem PySem.Calls PySem.W PyProof.Rows
set_option maxRecDepth 100000
set_option autoImplicit false
set_option linter.all false
namespace Mine
section
variable {prog : Program} {w : World} {A : Around} {E : Value → Shared → Prop} {s s₀ : Shared} {B : Heap} {L : Addr} {m : Str → Option Value} {own : List Spec} {env : Env}

/-- an item at a written or reckoned place -/
theorem ixL {value slice : PySem.Expr} {l : Addr} {items : Array Value} {k : Int} {t : Tok} {x : Value} {Q : Value → Shared → Prop} (hl : s.heap.IsList l items) (h0 : 0 ≤ k) (hb : k < 2 ^ 63) (hx : items[k.toNat]? = some x) (h : Q x s)
    (hs : subscripted slice false (.ref l) (.int k t) = operate [.ref l, .int k t] (getItem (.ref l) (.int k t)) := by rfl) :
    wpAny (model prog w) A (subscriptTail value slice (.ref l) (.int k t)) Q E s :=
  tail_any hl.typeIs slot_list_getitem.lookup (wpAny_getItem_list hl h0 hb hx h) hs

/-- a function of the text (or of a local name): callee first, then one argument -/
theorem callE1 {fe e1 : PySem.Expr} {pos : Pos} {g : Addr} {F : FuncData} {Q : Value → Shared → Prop} (hf : FnAt B g F)
    (h : wpAny (model prog w) A (eval fe env) (fun v0 s0 => v0 = .ref g ∧ wpAny (model prog w) A (eval e1 env) (fun v s1 => Keeps B s1.heap ∧ wpAny (model prog w) A (call (.ref g) [v] []) Q E s1) E s0) E s)
    (hc : eval (.Call fe [e1] [] pos) env = (eval fe env >>= fun v => callWith pos v [] (backTo pos (starEach [e1] env)) (backToKw pos (keywordEach [] env))) := by kernel_rfl!)
    (h1 : plainE e1 = true := by kernel_rfl!) :
    wpAny (model prog w) A (eval (.Call fe [e1] [] pos) env) Q E s := by
  rw [hc, star_cons h1, star_nil]
  refine wpAny_bind (wpAny_mono h (fun v0 s0 h0 => ?_) fun _ _ x => x)
  obtain ⟨rfl, h0⟩ := h0
  show wpAny _ _ (callWith pos (.ref g) [] [(false, eval e1 env)] []) Q E s0
  exact callWith_function (o := ⟨.type "function", none, .func F, #[]⟩) (fd := F) (evalArgs_plain (spliced_cons (wpAny_mono h0 (fun v s1 h1 => spliced_nil ⟨⟨h1.1 _ _ hf.1, rfl⟩, h1.2⟩) fun _ _ x => x)))
theorem callE2 {fe e1 e2 : PySem.Expr} {pos : Pos} {g : Addr} {F : FuncData} {Q : Value → Shared → Prop} (hf : FnAt B g F)
    (h : wpAny (model prog w) A (eval fe env) (fun v0 s0 => v0 = .ref g ∧ wpAny (model prog w) A (eval e1 env) (fun v s1 => wpAny (model prog w) A (eval e2 env) (fun u s2 => Keeps B s2.heap ∧ wpAny (model prog w) A (call (.ref g) [v, u] []) Q E s2) E s1) E s0) E s)
    (hc : eval (.Call fe [e1, e2] [] pos) env = (eval fe env >>= fun v => callWith pos v [] (backTo pos (starEach [e1, e2] env)) (backToKw pos (keywordEach [] env))) := by kernel_rfl!)
    (h1 : plainE e1 = true := by kernel_rfl!) (h2 : plainE e2 = true := by kernel_rfl!) :
    wpAny (model prog w) A (eval (.Call fe [e1, e2] [] pos) env) Q E s := by
  rw [hc, star_cons h1, star_cons h2, star_nil]
  refine wpAny_bind (wpAny_mono h (fun v0 s0 h0 => ?_) fun _ _ x => x)
  obtain ⟨rfl, h0⟩ := h0
  show wpAny _ _ (callWith pos (.ref g) [] [(false, eval e1 env), (false, eval e2 env)] []) Q E s0
  exact callWith_function (o := ⟨.type "function", none, .func F, #[]⟩) (fd := F) (evalArgs_plain (spliced_cons (wpAny_mono h0 (fun v s1 h1 => spliced_cons (wpAny_mono h1 (fun u s2 h2 => spliced_nil ⟨⟨h2.1 _ _ hf.1, rfl⟩, h2.2⟩) fun _ _ x => x)) fun _ _ x => x)))
end

section
variable {prog : Program} {w : World} {A : Around} {E : Value → Shared → Prop} {s : Shared}
theorem xfrm_spec {v : Value} {Q : Value → Shared → Prop} (G : GL s.heap) (hd : A.depth < recursionLimit) (h : ∀ s', Done s s' → Q v s') : wpAny (model prog w) A (call (.ref 60) [v]) Q E s := by
  obtain ⟨pm, cd, hf⟩ := G.fXfrm
  refine callDef G.lim hf hd (BindsTo.of_eq (binds := [("s", v)]) (by kernel_rfl!)) fun L s₁ nL C => ?_
  have e : (defAt 8).2.1 = (defAt 8).2.1 := rfl
  conv at e => lhs; whnf
  rw [← e]; clear e
  exact wpAny_execs_cons (wpAny_Return_some (ldN C (by rfl) (h _ (C.done (keeps_refl _)))))

theorem front_spec {p : Addr} {items : Array Value} {v : Value} {Q : Value → Shared → Prop} (G : GL s.heap) (hl : s.heap.IsList p items) (hv : items[0]? = some v) (hd : A.depth + 1 < recursionLimit)
    (h : ∀ s', Done s s' → Q v s') : wpAny (model prog w) A (call (.ref 110) [.ref p]) Q E s := by
  obtain ⟨pm, cd, hf⟩ := G.fFront
  obtain ⟨pm', cd', hx⟩ := G.fXfrm
  refine callDef G.lim hf (by omega) (BindsTo.of_eq (binds := [("pair", .ref p)]) (by kernel_rfl!)) fun L s₁ nL C => ?_
  have e : (defAt 18).2.1 = (defAt 18).2.1 := rfl
  conv at e => lhs; whnf
  rw [← e]; clear e
  have G1 := G.keeps C.keep
  refine wpAny_execs_cons (wpAny_Return_some (callE1 hx (ldG G1 5 rfl ⟨rfl, Subscript_ (ldN C (by rfl) (wpAny_Constant_int (ixL (hl.at (C.keep _)) (by decide) (by decide) hv ⟨C.keep, ?_⟩)))⟩)))
  exact xfrm_spec (G1.keeps (keeps_refl _)) hd fun s' D => h _ ((C.tok _).done (keeps_refl _) |>.trans D)
end
end Mine
end

section
open PySem PySem.Calls PySem.W PyProof.Rows
set_option maxRecDepth 100000
set_option autoImplicit false
set_option linter.all false
namespace Mine
theorem IL.fresh {h B' : Heap} {n : Nat} {a : Addr} {xs : List Int} (x : IL h a xs) (hn : n ≤ a) (k : ∀ b o, n ≤ b → h.get? b = some o → B'.get? b = some o) : IL B' a xs := let ⟨vs, ⟨n, e⟩, c⟩ := x; ⟨vs, ⟨n, k _ _ hn e⟩, c⟩
section
variable {prog : Program} {w : World} {A : Around} {E : Value → Shared → Prop} {s s₀ : Shared} {B : Heap} {L : Addr} {m : Str → Option Value} {own : List Spec} {env : Env}

def AllocL (Q : Value → Shared → Prop) (vs : List Value) (s : Shared) : Prop :=
  vs.length ≤ sizeLine ∧ Q (.ref s.heap.objs.size) { s with heap := s.heap.push { cls := .type "list", data := .seq vs.toArray } }
theorem listE {elts : List PySem.Expr} {pos : Pos} {Q : Value → Shared → Prop} (h : wpAny (model prog w) A (spliced (backTo pos (starEach elts env))) (AllocL Q) E s) : wpAny (model prog w) A (eval (.List elts pos) env) Q E s := wpAny_List h
/-- a new list, from now on part of what is kept -/
theorem Cx.newList {vs : List Value} {Q : Value → Shared → Prop} (C : Cx B s₀ L m own s) (hsz : Nat.ble vs.length 1000 = true)
    (h : ∀ B' s' a, Keeps B B' → Cx B' s₀ L m own s' → LsAt B' a vs.toArray → L < a → Q (.ref a) s') :
    AllocL Q vs s := by
  obtain ⟨B', k, C', _, ho, n, rfl⟩ := (C.push { cls := .type "list", data := .seq vs.toArray } rfl (P := ListO vs.toArray) ⟨0, rfl⟩).freeze
  exact ⟨size_small hsz, h B' _ _ k C' ⟨n, ho⟩ C.ltL⟩

theorem lit2 {i j : Int} {p q pos : Pos} {a b : Nat} {Q : Value → Shared → Prop} (C : Cx B s₀ L m own s)
    (h : ∀ B' s' c, Keeps B B' → Cx B' s₀ L m own s' → IL B' c [i, j] → L < c → Q (.ref c) s') :
    wpAny (model prog w) A (eval (.List [.Constant (.int i) a p, .Constant (.int j) b q] pos) env) Q E s := by
  refine listE (items2 (wpAny_Constant_int (wpAny_Constant_int ?_)))
  refine ((C.tok (s.toks + 1)).tok (s.toks + 1 + 1)).newList rfl fun B' s' c k C' hl hc => h B' s' c k C' ⟨_, hl, .cons _ _ (.cons _ _ .nil)⟩ hc
end

def pairTab : List (List Int) := [[3, 4], [2, 3], [4, 3], [3, 3], [2, 5], [3, 2], [5, 2], [2, 4], [4, 2]]
section
variable {prog : Program} {w : World} {A : Around} {E : Value → Shared → Prop} {s : Shared}
set_option maxHeartbeats 400000 in
theorem pair_spec {d : Int} {t : Tok} {Q : Value → Shared → Prop} (G : GL s.heap) (h0 : 0 ≤ d) (hd : A.depth < recursionLimit)
    (h : ∀ s' a, Done s s' → IL s'.heap a (pairTab.getD (d % 9).toNat []) → s.heap.objs.size ≤ a → Q (.ref a) s') : wpAny (model prog w) A (call (.ref 74) [.int d t]) Q E s := by
  obtain ⟨pm, cd, hf⟩ := G.fPair
  refine callDef G.lim hf hd (BindsTo.of_eq (binds := [("draw", .int d t)]) (by kernel_rfl!)) fun L s₁ nL C => ?_
  have e : (defAt 12).2.1 = (defAt 12).2.1 := rfl
  conv at e => lhs; whnf
  rw [← e]; clear e
  refine wpAny_execs_cons ?_
  refine wpAny_Return_some ?_
  refine Subscript_ ?_
  refine listE ?_
  with_reducible refine items_cons (lit2 C fun B1 s1 a1 k1 C1 l1 n1 => ?_)
  with_reducible refine items_cons (lit2 C1 fun B2 s2 a2 k2 C2 l2 n2 => ?_)
  with_reducible refine items_cons (lit2 C2 fun B3 s3 a3 k3 C3 l3 n3 => ?_)
  with_reducible refine items_cons (lit2 C3 fun B4 s4 a4 k4 C4 l4 n4 => ?_)
  with_reducible refine items_cons (lit2 C4 fun B5 s5 a5 k5 C5 l5 n5 => ?_)
  with_reducible refine items_cons (lit2 C5 fun B6 s6 a6 k6 C6 l6 n6 => ?_)
  with_reducible refine items_cons (lit2 C6 fun B7 s7 a7 k7 C7 l7 n7 => ?_)
  with_reducible refine items_cons (lit2 C7 fun B8 s8 a8 k8 C8 l8 n8 => ?_)
  with_reducible refine items_cons (lit2 C8 fun B9 s9 a9 k9 C9 l9 n9 => ?_)
  refine items_nil (C9.newList rfl fun B10 s10 a10 k10 C10 l10 n10 => ?_)
  refine wpAny_BinOp (ldN C10 (by rfl) (wpAny_Constant_int (mod_int (by decide) ?_)))
  have hm : d.fmod 9 = d % 9 := Int.fmod_eq_emod_of_nonneg _ (by decide)
  have hge : 0 ≤ d % 9 := Int.emod_nonneg _ (by decide)
  have hlt : d % 9 < 9 := Int.emod_lt_of_pos _ (by decide)
  rw [hm]
  have K : ∃ a, [Value.ref a1, .ref a2, .ref a3, .ref a4, .ref a5, .ref a6, .ref a7, .ref a8, .ref a9].toArray[(d % 9).toNat]? = some (.ref a) ∧ IL B10 a (pairTab.getD (d % 9).toNat []) ∧ s.heap.objs.size ≤ a := by
    have : (d % 9).toNat < 9 := by omega
    generalize (d % 9).toNat = k at this
    match k, this with
    | 0, _ => exact ⟨a1, rfl, l1.keeps (k2.trans' (k3.trans' (k4.trans' (k5.trans' (k6.trans' (k7.trans' (k8.trans' (k9.trans' k10)))))))), Nat.le_trans nL (Nat.le_of_lt n1)⟩
    | 1, _ => exact ⟨a2, rfl, l2.keeps (k3.trans' (k4.trans' (k5.trans' (k6.trans' (k7.trans' (k8.trans' (k9.trans' k10))))))), Nat.le_trans nL (Nat.le_of_lt n2)⟩
    | 2, _ => exact ⟨a3, rfl, l3.keeps (k4.trans' (k5.trans' (k6.trans' (k7.trans' (k8.trans' (k9.trans' k10)))))), Nat.le_trans nL (Nat.le_of_lt n3)⟩
    | 3, _ => exact ⟨a4, rfl, l4.keeps (k5.trans' (k6.trans' (k7.trans' (k8.trans' (k9.trans' k10))))), Nat.le_trans nL (Nat.le_of_lt n4)⟩
    | 4, _ => exact ⟨a5, rfl, l5.keeps (k6.trans' (k7.trans' (k8.trans' (k9.trans' k10)))), Nat.le_trans nL (Nat.le_of_lt n5)⟩
    | 5, _ => exact ⟨a6, rfl, l6.keeps (k7.trans' (k8.trans' (k9.trans' k10))), Nat.le_trans nL (Nat.le_of_lt n6)⟩
    | 6, _ => exact ⟨a7, rfl, l7.keeps (k8.trans' (k9.trans' k10)), Nat.le_trans nL (Nat.le_of_lt n7)⟩
    | 7, _ => exact ⟨a8, rfl, l8.keeps (k9.trans' k10), Nat.le_trans nL (Nat.le_of_lt n8)⟩
    | 8, _ => exact ⟨a9, rfl, l9.keeps k10, Nat.le_trans nL (Nat.le_of_lt n9)⟩
  obtain ⟨a, ha, hi, hn⟩ := K
  refine ixL (hl := l10.isList.at (C10.keep _)) hge (by omega) ha ?_
  have C11 := C10.tok (s10.toks + 1 + 1)
  exact h _ a (C11.done (k1.trans' (k2.trans' (k3.trans' (k4.trans' (k5.trans' (k6.trans' (k7.trans' (k8.trans' (k9.trans' k10)))))))))) (hi.keeps C11.keep) hn
end
end Mine
end

section
open PySem PySem.Calls PySem.W PyProof.Rows
set_option maxRecDepth 100000
set_option autoImplicit false
set_option linter.all false
namespace Mine

theorem ints_items : ∀ {vs : List Value} {ns : List Int}, IntsAre vs ns → ∃ xs : List (Int × Tok), vs = xs.map (fun p => .int p.1 p.2) ∧ xs.map (·.1) = ns
  | _, _, .nil => ⟨[], rfl, rfl⟩
  | _, _, .cons n t h => let ⟨xs, e1, e2⟩ := ints_items h; ⟨(n, t) :: xs, by rw [e1]; rfl, by rw [← e2]; rfl⟩
theorem sum_bound : ∀ (l : List Int) (b : Nat), (∀ x ∈ l, -(b : Int) ≤ x ∧ x ≤ b) → -((b * l.length : Nat) : Int) ≤ l.sum ∧ l.sum ≤ ((b * l.length : Nat) : Int)
  | [], _, _ => by simp
  | x :: l, b, h => by
    have h1 := h x (.head _)
    have h2 := sum_bound l b fun y hy => h y (.tail _ hy)
    rw [List.sum_cons, List.length_cons, Nat.mul_succ]
    omega
theorem flat_one (v : Value) : ∀ n : Nat, List.foldl (fun x1 x2 : Array Value => x1 ++ x2) #[] (List.replicate n #[v]) = (List.replicate n v).toArray := by
  have key : ∀ (n : Nat) (a : Array Value), List.foldl (fun x1 x2 : Array Value => x1 ++ x2) a (List.replicate n #[v]) = a ++ (List.replicate n v).toArray := by
    intro n
    induction n with
    | zero => intro a; simp
    | succ n ih => intro a; rw [List.replicate_succ, List.foldl_cons, ih, List.replicate_succ]; apply Array.ext'; simp
  intro n
  rw [key]; simp

section
variable {prog : Program} {w : World} {A : Around} {E : Value → Shared → Prop} {s s₀ : Shared} {B : Heap} {L : Addr} {m : Str → Option Value} {own : List Spec} {env : Env}

theorem sumL {l : Addr} {xs : List Int} {Q : Value → Shared → Prop} (hh : A.handled = none) (hl : IL s.heap l xs) (hb : ∀ x ∈ xs, -10000000 ≤ x ∧ x ≤ 10000000) (hn : xs.length ≤ 1000)
    (h : ∀ s' t, Done s s' → Q (.int xs.sum t) s') : wpAny (model prog w) A (call (.builtin "sum") [.ref l]) Q E s := by
  obtain ⟨vs, hl, hi⟩ := hl
  obtain ⟨ys, rfl, rfl⟩ := ints_items hi
  have hb' : ∀ j, -(10000000 : Int) ≤ numAt ys.toArray j ∧ numAt ys.toArray j ≤ 10000000 := by
    intro j
    rw [numAt_eq]
    by_cases hj : j < (ys.map (·.1)).length
    · have := hb _ (getD_mem hj); exact this
    · rw [show (ys.toArray.toList.map (·.1)) = ys.map (·.1) from rfl, List.getD_eq_getElem?_getD, List.getElem?_eq_none (Nat.le_of_not_lt hj)]; decide
  refine sum_intList (xs := ys.toArray) hh (by simpa [intItems] using hl.isList) (fun j hj => ?_) fun h' tk t' hk => ?_
  · rw [preSum_eq]
    have h1 := hb' j
    have h2 := sum_bound ((ys.toArray.toList.map (·.1)).take (j + 1)) 10000000 (fun x hx => hb x (List.mem_of_mem_take hx))
    have h3 : ((ys.toArray.toList.map (·.1)).take (j + 1)).length ≤ 1000 := by
      rw [List.length_take]; exact Nat.le_trans (Nat.min_le_right _ _) (by simpa using hn)
    have h4 : 10000000 * ((ys.toArray.toList.map (·.1)).take (j + 1)).length ≤ 10000000 * 1000 := Nat.mul_le_mul_left _ h3
    constructor <;> constructor <;> omega
  · have e : preSum (numAt ys.toArray) ys.toArray.size = (ys.map (·.1)).sum := by
      rw [preSum_eq, List.take_of_length_le (by simp)]
    rw [e]
    exact h _ t' ⟨hk, Gx.heap⟩

theorem maxL {l : Addr} {xs : List Int} {Q : Value → Shared → Prop} (hh : A.handled = none) (hl : IL s.heap l xs) (hn : 0 < xs.length)
    (h : ∀ s' t M, Done s s' → M ∈ xs → (∀ a ∈ xs, a ≤ M) → Q (.int M t) s') : wpAny (model prog w) A (call (.builtin "max") [.ref l]) Q E s := by
  obtain ⟨vs, hl, hi⟩ := hl
  obtain ⟨ys, rfl, rfl⟩ := ints_items hi
  have hsz : 0 < ys.toArray.size := by simpa using hn
  refine max_intList (xs := ys.toArray) hh (by simpa [intItems] using hl.isList) hsz fun v h' tk hv hk => ?_
  obtain ⟨t, rfl⟩ := intItems_at hv
  obtain ⟨h1, h2⟩ := argBest_gt (numAt ys.toArray) (ys.toArray.size - 1)
  have hlen : (ys.map (·.1)).length = ys.toArray.size := by simp
  refine h { s with heap := h', toks := tk } t _ ⟨hk, Gx.heap⟩ ?_ fun a ha => ?_
  · rw [numAt_eq]; exact getD_mem (l := ys.map (·.1)) (by omega)
  · obtain ⟨j, hj, rfl⟩ := mem_getD ha
    have := h2 j (by omega)
    rwa [numAt_eq (xs := ys.toArray) (j := j)] at this

theorem addL {l b : Addr} {xs ys : Array Value} {Q : Value → Shared → Prop} (C : Cx B s₀ L m own s) (hl : LsAt s.heap l xs) (hb : LsAt s.heap b ys) (hsz : xs.size + ys.size ≤ 1000)
    (h : ∀ B' s' a, Keeps B B' → Cx B' s₀ L m own s' → LsAt B' a (xs ++ ys) → L < a → Q (.ref a) s') : wpAny (model prog w) A (binaryOp .Add (.ref l) (.ref b)) Q E s := by
  obtain ⟨n1, e1⟩ := hl
  obtain ⟨n2, e2⟩ := hb
  refine P.add_list (n := n1) (n2 := n2) e1 e2 ?_ (Nat.le_trans hsz (by decide))
  obtain ⟨B', k, C', _, ho, n, rfl⟩ := (C.push { cls := .type "list", data := .seq (xs ++ ys) } rfl (P := ListO (xs ++ ys)) ⟨0, rfl⟩).freeze
  exact h B' _ _ k C' ⟨n, ho⟩ C.ltL

theorem mulL1 {l : Addr} {v : Value} {x : Int} {u : Tok} {Q : Value → Shared → Prop} (C : Cx B s₀ L m own s) (hl : LsAt s.heap l #[v]) (h0 : 0 ≤ x) (hx : x ≤ 1000)
    (h : ∀ B' s' a, Keeps B B' → Cx B' s₀ L m own s' → LsAt B' a (List.replicate x.toNat v).toArray → L < a → Q (.ref a) s') : wpAny (model prog w) A (binaryOp .Mult (.ref l) (.int x u)) Q E s := by
  obtain ⟨n, e⟩ := hl
  refine wpAny_binaryOp_repeat_ref (T := "list") (U := "int") (by decide) ⟨_, e, rfl⟩ (fun s' => typeIs_int s' x u) noFill_list_mul F.fills_int_mul F.slot_int_rmul repeat_list F.slot_int_index.lookup
    (call_meets F.slot_int_rmul (typeIs_int s x u) F.entry_int_rmul (F.args_int_rmul_2 _ _) (int___rmul___int_list x u l #[v] n) ⟨e, rfl, ⟨_, e, rfl⟩, ?_⟩)
  refine call_meets F.slot_list_mul ⟨_, e, rfl⟩ F.entry_list_mul (F.args_list_mul_2 _ _)
    (AutoListH.list___mul___list_int_3 l #[v] n x u (by simp [Builtin.List.listFitsIndex]; omega) (by simp; omega) (by simp [Builtin.List.listTooLong, sizeLine]; omega)) ⟨e, ?_⟩
  have ef : List.foldl (fun x1 x2 : Array Value => x1 ++ x2) #[] (List.replicate (if (#[v] : Array Value).isEmpty = true then 0 else x.toNat) #[v]) = (List.replicate x.toNat v).toArray := flat_one v x.toNat
  rw [ef]
  obtain ⟨B', k, C', _, ho, n, rfl⟩ := (C.push { cls := .type "list", data := .seq (List.replicate x.toNat v).toArray } rfl (P := ListO _) ⟨0, rfl⟩).freeze
  exact h B' _ _ k C' ⟨n, ho⟩ C.ltL

theorem lenL {l : Addr} {xs : Array Value} {Q : Value → Shared → Prop} (hl : LsAt s.heap l xs) (hsz : xs.size ≤ 100000) (h : ∀ s' t, Done s s' → Q (.int xs.size t) s') : wpAny (model prog w) A (call (.builtin "len") [.ref l]) Q E s :=
  call_len_list hl.isList (by omega) (h { s with toks := s.toks + 1 + 1 } _ ⟨keeps_refl _, Gx.heap (a := s) (h := s.heap)⟩)

/-- a new list of two values (one value) written as a display -/
theorem list1E {e1 : PySem.Expr} {pos : Pos} {Q : Value → Shared → Prop} (h : wpAny (model prog w) A (eval e1 env) (fun v s1 => AllocL Q [v] s1) E s) (h1 : plainE e1 = true := by kernel_rfl!) :
    wpAny (model prog w) A (eval (.List [e1] pos) env) Q E s := listE (items_cons (wpAny_mono h (fun _ _ x => items_nil x) fun _ _ x => x) h1)
theorem list2E {e1 e2 : PySem.Expr} {pos : Pos} {Q : Value → Shared → Prop} (h : wpAny (model prog w) A (eval e1 env) (fun v s1 => wpAny (model prog w) A (eval e2 env) (fun u s2 => AllocL Q [v, u] s2) E s1) E s)
    (h1 : plainE e1 = true := by kernel_rfl!) (h2 : plainE e2 = true := by kernel_rfl!) :
    wpAny (model prog w) A (eval (.List [e1, e2] pos) env) Q E s := listE (items2 h h1 h2)
end
end Mine
end

section
open PySem PySem.Calls PySem.W PyProof.Rows
set_option maxRecDepth 100000
set_option autoImplicit false
set_option linter.all false
namespace Mine

abbrev Loc := Str → Option Value
def NsO (m : Loc) : Obj → Prop := fun o => ∃ es ep, o.data = .dict es ep ∧ StrKeys es ∧ ∀ name, nsFind es name = m name
theorem nsO_of {h : Heap} {a : Addr} {m : Loc} (x : h.Ns a m) : ∃ o, h.get? a = some o ∧ NsO m o := let ⟨o, es, ep, e, r⟩ := x; ⟨o, e, es, ep, r⟩
theorem ns_of {h : Heap} {a : Addr} {m : Loc} (x : ∃ o, h.get? a = some o ∧ NsO m o) : h.Ns a m := let ⟨o, e, es, ep, r⟩ := x; ⟨o, es, ep, e, r⟩

section
variable {B : Heap} {s₀ s : Shared} {L : Addr} {m : Loc} {own : List Spec}
theorem Cx.into (C : Cx B s₀ L m own s) {h' : Heap} {m' : Loc} {t : Nat} {o : Obj} (hn : h'.Ns s.heap.objs.size m') (hs : Heap.SameBut s.heap.objs.size (s.heap.push o) h') :
    Cx B s₀ s.heap.objs.size m' ((L, NsO m) :: own) { s with heap := h', toks := t } := by
  have k : Keeps s.heap h' := fun b o' e => (hs.2 b (Nat.ne_of_lt (Heap.lt_size e))).trans (Heap.get?_push_of_some _ e)
  have hB : B.get? s.heap.objs.size = none := by
    cases q : B.get? s.heap.objs.size with
    | none => rfl
    | some o' => exact absurd (Heap.lt_size (C.keep _ _ q)) (Nat.lt_irrefl _)
  refine ⟨C.keep.trans' k, hn, fun p hp => ?_, hB, fun p hp => ?_, ?_, C.g.trans Gx.heap⟩
  · rcases List.mem_cons.mp hp with rfl | hp
    · exact nsO_of (C.ns.keeps k)
    · obtain ⟨o', e, r⟩ := C.has p hp; exact ⟨o', k _ _ e, r⟩
  · rcases List.mem_cons.mp hp with rfl | hp
    · exact ⟨C.offL, Nat.ne_of_lt C.ltL⟩
    · exact ⟨(C.off p hp).1, Nat.ne_of_lt (C.lt hp)⟩
  · rw [List.map_cons, List.nodup_cons]
    refine ⟨fun hm => ?_, C.nd⟩
    obtain ⟨p, hp, e⟩ := List.mem_map.mp hm
    exact (C.off p hp).2 e
theorem Cx.outof {Cc : Addr} {mc : Loc} {pre : List Spec} (C : Cx B s₀ Cc mc (pre ++ (L, NsO m) :: own) s) {h' : Heap} {t : Nat} (hs : Heap.SameBut Cc s.heap h') : Cx B s₀ L m (pre ++ own) { s with heap := h', toks := t } := by
  have hL := C.off (L, NsO m) (by simp)
  have hsub : (pre ++ own).Sublist (pre ++ (L, NsO m) :: own) := List.Sublist.append_left (List.sublist_cons_self _ _) _
  have C' := C.sub hsub
  have hnd := C.nd
  rw [List.map_append, List.map_cons] at hnd
  refine ⟨fun b o e => (hs.2 b (fun q => by rw [q, C.offL] at e; cases e)).trans (C.keep b o e), ?_, fun p hp => ?_, hL.1, fun p hp => ⟨(C'.off p hp).1, fun q => ?_⟩, C'.nd, C.g.trans Gx.heap⟩
  · obtain ⟨o, e, r⟩ := C.has (L, NsO m) (by simp)
    exact ns_of ⟨o, (hs.2 _ hL.2).trans e, r⟩
  · obtain ⟨o, e, r⟩ := C'.has p hp
    exact ⟨o, (hs.2 _ (C'.off p hp).2).trans e, r⟩
  · have h2 := List.nodup_append.mp hnd
    rcases List.mem_append.mp hp with hp | hp
    · exact h2.2.2 p.1 (List.mem_map_of_mem (f := (·.1)) hp) L (.head _) q
    · have h3 := (List.nodup_cons.mp h2.2.1).1
      exact h3 (q ▸ List.mem_map_of_mem (f := (·.1)) hp)
theorem Cx.perm {own' : List Spec} (C : Cx B s₀ L m own s) (h : own.Perm own') : Cx B s₀ L m own' s :=
  ⟨C.keep, C.ns, fun p hp => C.has p (h.mem_iff.mpr hp), C.offL, fun p hp => C.off p (h.mem_iff.mpr hp), (h.map _).nodup C.nd, C.g⟩
theorem Cx.updMid {a : Addr} {P P' : Obj → Prop} {pre post : List Spec} (C : Cx B s₀ L m (pre ++ (a, P) :: post) s) {h' : Heap} {t : Nat} (hs : Heap.SameBut a s.heap h') (ho : ∃ o, h'.get? a = some o ∧ P' o) :
    Cx B s₀ L m (pre ++ (a, P') :: post) { s with heap := h', toks := t } := by
  have := C.upd pre.length (a := a) (P := P) (P' := P') (by simp) (h' := h') (t := t) hs ho
  rw [List.set_append_right _ _ (Nat.le_refl _), Nat.sub_self, List.set_cons_zero] at this
  exact this
theorem Cx.ns1 (C : Cx B s₀ L m own s) (i : Nat) {a : Addr} {m' : Loc} (hi : own[i]? = some (a, NsO m')) : s.heap.Ns a m' := ns_of (C.get i hi)
end

/-! ## what a loop goes over -/
structure Src (prog : Program) (w : World) (A : Around) (s₀ : Shared) (L : Addr) (env : Env) (target : PySem.Expr) (it : Value) (J : Nat → List Spec) (n : Nat) (bnd : Nat → Loc → Loc → Prop) (B : Heap) : Prop where
  item : ∀ (k : Nat) B' m own s (Q : Unit → Shared → Prop), k < n → Keeps B B' → Cx B' s₀ L m (J k ++ own) s → (∀ m' s', bnd k m m' → Cx B' s₀ L m' (J (k + 1) ++ own) s' → Q () s') →
    wpAny (model prog w) A (pyNext it) (fun r s1 => ∃ v, r = some v ∧ wpAny (model prog w) A (letOwnedTupleGo target it v) (fun _ s2 => wpAny (model prog w) A (assign target env v) Q NoE s2) NoE s1) NoE s
  done : ∀ B' m own s (Q : Option Value → Shared → Prop), Keeps B B' → Cx B' s₀ L m (J n ++ own) s → (∀ s', Cx B' s₀ L m own s' → Q none s') → wpAny (model prog w) A (pyNext it) Q NoE s

section
variable {prog : Program} {w : World} {A : Around} {E : Value → Shared → Prop} {s s₀ : Shared} {B : Heap} {L : Addr} {m : Loc} {own : List Spec} {env : Env}
  {target : PySem.Expr} {it : Value} {J : Nat → List Spec} {n : Nat} {bnd : Nat → Loc → Loc → Prop}

def TurnG (s₀ : Shared) (L : Addr) (B : Heap) (J : List Spec) (I : Heap → Loc → List Spec → Prop) (R : Value → Shared → Prop) (fl : Flow) (s' : Shared) : Prop := match fl with
  | .next => ∃ B' m' own', Keeps B B' ∧ Cx B' s₀ L m' (J ++ own') s' ∧ I B' m' own'
  | .cont => ∃ B' m' own', Keeps B B' ∧ Cx B' s₀ L m' (J ++ own') s' ∧ I B' m' own'
  | .brk => False
  | .ret v => R v s'

theorem for_gen {body : List Stmt} {R : Result → Shared → Prop} (S : Src prog w A s₀ L env target it J n bnd B) (C : Cx B s₀ L m (J 0 ++ own) s)
    (I : Nat → Heap → Loc → List Spec → Prop) (h0 : I 0 B m own)
    (turn : ∀ (k : Nat) B' m1 m2 own' s', k < n → Keeps B B' → I k B' m1 own' → bnd k m1 m2 → Cx B' s₀ L m2 (J (k + 1) ++ own') s' →
      wpAny (model prog w) A (execs body env) (TurnG s₀ L B' (J (k + 1)) (I (k + 1)) fun v s'' => R (.ok (.ret v)) s'') NoE s')
    (fin : ∀ B' m' own' s', Keeps B B' → I n B' m' own' → Cx B' s₀ L m' own' s' → R (.ok .next) s') : codeAny (model prog w) A (.forLoop target it body [] env) R s := by
  refine codeAny_forLoop_any (fun z s' => ∃ k B' m' own', z = n - k ∧ k ≤ n ∧ Keeps B B' ∧ I k B' m' own' ∧ Cx B' s₀ L m' (J k ++ own') s') ?_ n ⟨0, B, m, own, rfl, Nat.zero_le _, keeps_refl _, h0, C⟩
  rintro z s' ⟨k, B', m', own', rfl, hk', kB, hI, C'⟩
  by_cases hk : k < n
  · refine noE (wpAny_mono (S.item k B' m' own' s' (fun _ s2 => ∃ m2, bnd k m' m2 ∧ Cx B' s₀ L m2 (J (k + 1) ++ own') s2) hk kB C' fun m2 s2 hb C2 => ⟨m2, hb, C2⟩) (fun r s1 h1 => ?_) fun _ _ x => x)
    obtain ⟨v, rfl, h1⟩ := h1
    refine noE (wpAny_mono h1 (fun _ s2 h2 => noE (wpAny_mono h2 (fun _ s3 h3 => ?_) fun _ _ x => x)) fun _ _ x => x)
    obtain ⟨m2, hb, C3⟩ := h3
    refine noE (wpAny_mono (turn k B' m' m2 own' s3 hk kB hI hb C3) (fun fl s4 h4 => ?_) fun _ _ x => x)
    cases fl with
    | next => obtain ⟨B4, m4, own4, k4, C4, I4⟩ := h4; exact ⟨n - (k + 1), by omega, k + 1, B4, m4, own4, rfl, hk, kB.trans' k4, I4, C4⟩
    | cont => obtain ⟨B4, m4, own4, k4, C4, I4⟩ := h4; exact ⟨n - (k + 1), by omega, k + 1, B4, m4, own4, rfl, hk, kB.trans' k4, I4, C4⟩
    | brk => exact h4.elim
    | ret v => exact h4
  · obtain rfl : k = n := by omega
    exact noE (S.done B' m' own' s' _ kB C' fun s2 C2 => noE (wpAny_execs_nil (fin B' m' own' s2 kB hI C2)))

/-- what a turn of a comprehension leaves: one item more, or none -/
def CompTurn (s₀ : Shared) (L : Addr) (B : Heap) (pre : List Spec) (acc : Addr) (own : List Spec) (I : Heap → List Value → Prop) (ys : List Value) (x : Value) (s4 : Shared) : Prop :=
  ∃ B'' m'', Keeps B B'' ∧ Cx B'' s₀ L m'' (pre ++ (acc, ListO ys.toArray) :: own) s4 ∧ I B'' (ys ++ [x])
def CompSkip (s₀ : Shared) (L : Addr) (B : Heap) (pre : List Spec) (acc : Addr) (own : List Spec) (I : Heap → List Value → Prop) (ys : List Value) (s4 : Shared) : Prop :=
  ∃ B'' m'', Keeps B B'' ∧ Cx B'' s₀ L m'' (pre ++ (acc, ListO ys.toArray) :: own) s4 ∧ I B'' ys

/-- the turns of a comprehension -/
theorem comp_gen {elt iter : PySem.Expr} {ifs : List PySem.Expr} {scope : Scope} {pos : Pos} {acc : Addr} {R : Result → Shared → Prop}
    (S : Src prog w A s₀ L env target it J n bnd B) (C : Cx B s₀ L m (J 0 ++ (acc, ListO #[]) :: own) s)
    (I : Nat → Heap → List Value → Prop) (h0 : I 0 B [])
    (turn : ∀ (k : Nat) B' m1 m2 ys s', k < n → Keeps B B' → I k B' ys → bnd k m1 m2 → Cx B' s₀ L m2 (J (k + 1) ++ (acc, ListO ys.toArray) :: own) s' →
      wpAny (model prog w) A (forIn ifs true fun c r => if r = true then do let ok ← isTrue c env (eval c env); pure (ForInStep.yield ok) else pure (ForInStep.yield r)) (fun ok s3 =>
        if ok = true then wpAny (model prog w) A (eval elt env) (CompTurn s₀ L B' (J (k + 1)) acc own (I (k + 1)) ys) NoE s3
        else CompSkip s₀ L B' (J (k + 1)) acc own (I (k + 1)) ys s3) NoE s')
    (hI : ∀ k B' ys, k ≤ n → I k B' ys → ys.length ≤ 1000)
    (fin : ∀ B' m' ys s', Keeps B B' → I n B' ys → Cx B' s₀ L m' ((acc, ListO ys.toArray) :: own) s' → R (.ok .next) s') :
    codeAny (model prog w) A (.compLoop (.ListComp elt [⟨target, iter, ifs, 0⟩] scope pos) 0 it (.ref acc) env) R s := by
  refine codeAny_loop rfl (fun z s' => ∃ k B' m' ys, z = n - k ∧ k ≤ n ∧ Keeps B B' ∧ I k B' ys ∧ Cx B' s₀ L m' (J k ++ (acc, ListO ys.toArray) :: own) s') ?_ n ⟨0, B, m, [], rfl, Nat.zero_le _, keeps_refl _, h0, C⟩
  rintro z s' ⟨k, B', m', ys, rfl, hk', kB, hI', C'⟩
  show wpAny _ A ((compTurn (.ListComp elt [⟨target, iter, ifs, 0⟩] scope pos) 0 it (.ref acc) env).onRaise (fun x => do noteFrame x env; theTreesLotGoes x)) _ _ s'
  refine wpAny_noted (noE ?_)
  rw [compTurn_list]
  refine wpAny_bind (wpAny_standAt (wpAny_bind ?_))
  by_cases hk : k < n
  · refine wpAny_mono (S.item k B' m' _ s' (fun _ s2 => ∃ m2, bnd k m' m2 ∧ Cx B' s₀ L m2 (J (k + 1) ++ (acc, ListO ys.toArray) :: own) s2) hk kB C' fun m2 s2 hb C2 => ⟨m2, hb, C2⟩) (fun r s1 h1 => ?_) fun _ _ x => x
    obtain ⟨v, rfl, h1⟩ := h1
    refine wpAny_bind (wpAny_mono h1 (fun _ s2 h2 => wpAny_bind (wpAny_mono h2 (fun _ s3 h3 => ?_) fun _ _ x => x)) fun _ _ x => x)
    obtain ⟨m2, hb, C3⟩ := h3
    refine wpAny_bind (wpAny_mono (turn k B' m' m2 ys s3 hk kB hI' hb C3) (fun ok s4 h4 => ?_) fun _ _ x => x)
    cases ok with
    | true =>
      refine wpAny_bind (wpAny_bind (wpAny_mono h4 (fun x s5 h5 => wpAny_bind ?_) fun _ _ x => x))
      obtain ⟨B5, m5, k5, C5, I5⟩ := h5
      obtain ⟨_, e, nn, rfl⟩ := C5.has (acc, ListO ys.toArray) (by simp)
      have hl5 := hI (k + 1) B5 _ hk I5
      refine append_at e (fun h' hs ho => ?_) (Nat.le_trans (show ys.toArray.size ≤ 1000 by simp at hl5 ⊢; omega) (by decide))
      have C6 := C5.updMid (P' := ListO (ys ++ [x]).toArray) hs ⟨_, ho, nn + 1, by simp [W.listOf]⟩ (t := s5.toks)
      exact wpAny_pure (wpAny_pure ⟨rfl, n - (k + 1), by omega, k + 1, B5, m5, _, rfl, hk, kB.trans' k5, I5, C6⟩)
    | false =>
      obtain ⟨B5, m5, k5, C5, I5⟩ := h4
      exact wpAny_pure ⟨rfl, n - (k + 1), by omega, k + 1, B5, m5, _, rfl, hk, kB.trans' k5, I5, C5⟩
  · obtain rfl : k = n := by omega
    exact S.done B' m' _ s' _ kB C' fun s2 C2 => wpAny_pure (fin B' m' ys s2 kB hI' C2)

/-- a comprehension behind its source's iterator -/
theorem comp_at0 {elt iter : PySem.Expr} {ifs : List PySem.Expr} {scope : Scope} {pos : Pos} {cl : List (Str × Addr)} {use : Option (Value → Sem Unit)} {Q : Value → Shared → Prop}
    (C : Cx B s₀ L m (J 0 ++ own) s) (S : ∀ Cc, Src prog w A s₀ Cc (compEnvC scope cl Cc env) target it J n bnd B)
    (self : ∀ Cc m' own' s' (Q' : Value → Shared → Prop), Cx B s₀ Cc m' (J 0 ++ own') s' → Q' it s' → wpAny (model prog w) A (pyIter it) Q' NoE s')
    (I : Nat → Heap → List Value → Prop) (h0 : I 0 B [])
    (turn : ∀ (k : Nat) Cc acc B' m1 m2 ys s', L < Cc → k < n → Keeps B B' → I k B' ys → bnd k m1 m2 → Cx B' s₀ Cc m2 (J (k + 1) ++ (acc, ListO ys.toArray) :: (L, NsO m) :: own) s' →
      wpAny (model prog w) A (forIn ifs true fun c r => if r = true then do let ok ← isTrue c (compEnvC scope cl Cc env) (eval c (compEnvC scope cl Cc env)); pure (ForInStep.yield ok) else pure (ForInStep.yield r)) (fun ok s3 =>
        if ok = true then wpAny (model prog w) A (eval elt (compEnvC scope cl Cc env)) (CompTurn s₀ Cc B' (J (k + 1)) acc ((L, NsO m) :: own) (I (k + 1)) ys) NoE s3
        else CompSkip s₀ Cc B' (J (k + 1)) acc ((L, NsO m) :: own) (I (k + 1)) ys s3) NoE s')
    (hI : ∀ k B' ys, k ≤ n → I k B' ys → ys.length ≤ 1000)
    (fin : ∀ Cc m' B' ys acc s', L < acc → Keeps B B' → I n B' ys → Cx B' s₀ Cc m' ((acc, ListO ys.toArray) :: (L, NsO m) :: own) s' → compPost (model prog w) A NoE use Q (.ref acc) Cc (.ok .next) s')
    (hcell : ∀ y ∈ scope.names, y.2 ≠ .cell := by decide) (hkind : scope.kind = .function := by rfl) :
    wpAny (model prog w) A (newList []) (fun acc s₃ => wpAny (model prog w) A (newFunctionEnv scope env.globals cl [] env.qual none .none (some env)) (fun cenv s₄ =>
        codeAny (model prog w) A (.compStart (.ListComp elt [⟨target, iter, ifs, 0⟩] scope pos) 0 it acc { cenv with scope := relabel scope env }) (compPost (model prog w) A NoE use Q acc cenv.locals) s₄) NoE s₃) NoE s := by
  refine wpAny_newObj_type ?_ (Nat.zero_le _)
  have C1 := (C.push { cls := .type "list", data := .seq #[] } rfl (P := ListO #[]) ⟨0, rfl⟩).perm (List.perm_middle (l₁ := J 0) (a := (s.heap.objs.size, ListO #[])) (l₂ := own)).symm
  have hLa : L < s.heap.objs.size := C.ltL
  generalize s.heap.objs.size = acc at C1 hLa ⊢
  refine wpAny_newFunctionEnv hcell (fun x hx => nomatch hx) (fun h' hn hs => ?_) hkind
  have C2 := (C1.into hn hs (t := s.toks + ([] : List (Str × Value)).length)).perm (List.perm_middle (l₁ := J 0) (a := (L, NsO m)) (l₂ := (acc, ListO #[]) :: own)).symm
  have C3 := C2.perm (List.Perm.append_left (J 0) (List.Perm.swap (acc, ListO #[]) (L, NsO m) own))
  have hLC : L < (s.heap.push { cls := .type "list", data := .seq #[] }).objs.size := by rw [Heap.size_push]; exact Nat.lt_succ_of_lt C.ltL
  generalize (s.heap.push { cls := .type "list", data := .seq #[] }).objs.size = Cc at C3 hn hLC ⊢
  have loop := comp_gen (elt := elt) (iter := iter) (ifs := ifs) (scope := scope) (pos := pos) (R := compPost (model prog w) A NoE use Q (.ref acc) Cc) (S Cc) C3 I h0 (fun k B' m1 m2 ys s' => turn k Cc acc B' m1 m2 ys s' hLC) hI
    (fun B' m' ys s' kB hI' C' => fin Cc m' B' ys acc s' hLa kB hI' C')
  exact codeAny_compStart_list loop (noE (self Cc _ _ _ _ C3 loop))

/-- where a comprehension goes on, its source's iterator at hand -/
def CompGo (prog : Program) (w : World) (A : Around) (elt : PySem.Expr) (target iter : PySem.Expr) (ifs : List PySem.Expr) (scope : Scope) (pos : Pos) (cl : List (Str × Addr)) (env : Env) (use : Option (Value → Sem Unit)) (Q : Value → Shared → Prop) (it : Value) (s : Shared) : Prop :=
  wpAny (model prog w) A (newList []) (fun acc s₃ => wpAny (model prog w) A (newFunctionEnv scope env.globals cl [] env.qual none .none (some env)) (fun cenv s₄ =>
        codeAny (model prog w) A (.compStart (.ListComp elt [⟨target, iter, ifs, 0⟩] scope pos) 0 it acc { cenv with scope := relabel scope env }) (compPost (model prog w) A NoE use Q acc cenv.locals) s₄) NoE s₃) NoE s

/-- a comprehension as a value -/
theorem listComp {elt iter : PySem.Expr} {ifs : List PySem.Expr} {scope : Scope} {pos : Pos} {Q : Value → Shared → Prop} (cl : List (Str × Addr))
    (h : wpAny (model prog w) A (eval iter env) (fun x s₁ => wpAny (model prog w) A (pyIter x) (CompGo prog w A elt target iter ifs scope pos cl env none Q) NoE s₁) NoE s)
    (hclos : closureFor scope env = pure cl := by kernel_rfl!) (hs : ∀ x, foldedSetIterable iter env x = pure x := by intro _; rfl) (hkind : scope.kind = .function := by rfl)
    (hnames : ∀ x ∈ scope.names, x.2 = .local → scope.names.lookup x.1 = some .local := by decide) : wpAny (model prog w) A (eval (.ListComp elt [⟨target, iter, ifs, 0⟩] scope pos) env) Q NoE s := by
  rw [eval_ListComp]
  exact wpAny_comprehension_free (g := ⟨target, iter, ifs, 0⟩) rfl hs hclos hkind hnames h

theorem comp_at {elt iter : PySem.Expr} {ifs : List PySem.Expr} {scope : Scope} {pos : Pos} {cl : List (Str × Addr)} {Q : Value → Shared → Prop}
    (C : Cx B s₀ L m (J 0 ++ own) s) (S : ∀ Cc, Src prog w A s₀ Cc (compEnvC scope cl Cc env) target it J n bnd B)
    (self : ∀ Cc m' own' s' (Q' : Value → Shared → Prop), Cx B s₀ Cc m' (J 0 ++ own') s' → Q' it s' → wpAny (model prog w) A (pyIter it) Q' NoE s')
    (I : Nat → Heap → List Value → Prop) (h0 : I 0 B [])
    (turn : ∀ (k : Nat) Cc acc B' m1 m2 ys s', L < Cc → k < n → Keeps B B' → I k B' ys → bnd k m1 m2 → Cx B' s₀ Cc m2 (J (k + 1) ++ (acc, ListO ys.toArray) :: (L, NsO m) :: own) s' →
      wpAny (model prog w) A (forIn ifs true fun c r => if r = true then do let ok ← isTrue c (compEnvC scope cl Cc env) (eval c (compEnvC scope cl Cc env)); pure (ForInStep.yield ok) else pure (ForInStep.yield r)) (fun ok s3 =>
        if ok = true then wpAny (model prog w) A (eval elt (compEnvC scope cl Cc env)) (CompTurn s₀ Cc B' (J (k + 1)) acc ((L, NsO m) :: own) (I (k + 1)) ys) NoE s3
        else CompSkip s₀ Cc B' (J (k + 1)) acc ((L, NsO m) :: own) (I (k + 1)) ys s3) NoE s')
    (hI : ∀ k B' ys, k ≤ n → I k B' ys → ys.length ≤ 1000)
    (fin : ∀ B' ys acc s', L < acc → Keeps B B' → I n B' ys → Cx B' s₀ L m ((acc, ListO ys.toArray) :: own) s' → Q (.ref acc) s')
    (hcell : ∀ y ∈ scope.names, y.2 ≠ .cell := by decide) (hkind : scope.kind = .function := by rfl) : CompGo prog w A elt target iter ifs scope pos cl env none Q it s :=
  comp_at0 C S self I h0 turn hI (fun _ m' B' ys acc s' hLa kB hI' C' => ⟨m', C'.ns, fun _ hs2 => fin B' ys acc _ hLa kB hI' (C'.outof (pre := [(acc, ListO ys.toArray)]) hs2 (t := s'.toks))⟩) hcell hkind

/-- a comprehension bound to a name at once -/
theorem asComp {elt iter : PySem.Expr} {ifs : List PySem.Expr} {scope : Scope} {pos px spos : Pos} {x : Str} {Q : Flow → Shared → Prop} (cl : List (Str × Addr))
    (h : wpAny (model prog w) A (eval iter env) (fun v s₁ => wpAny (model prog w) A (pyIter v) (CompGo prog w A elt target iter ifs scope pos cl env (some (assign (.Name x px) env)) (fun _ => Q .next)) NoE s₁) NoE s)
    (hsw : swapsWith (.ListComp elt [⟨target, iter, ifs, 0⟩] scope pos) (some (.Name x px)) spos.line env = pure true := by kernel_rfl!)
    (hclos : closureFor scope env = pure cl := by kernel_rfl!) (hs : ∀ x, foldedSetIterable iter env x = pure x := by intro _; rfl) (hkind : scope.kind = .function := by rfl)
    (hnames : ∀ x ∈ scope.names, x.2 = .local → scope.names.lookup x.1 = some .local := by decide) : wpAny (model prog w) A (exec (.Assign [.Name x px] (.ListComp elt [⟨target, iter, ifs, 0⟩] scope pos) spos) env) Q NoE s := by
  rw [exec_Assign_Name_used _ _ _ _ hsw]
  refine wpAny_bind (wpAny_standAt (wpAny_bind ?_))
  show wpAny _ A (comprehension (.ListComp elt [⟨target, iter, ifs, 0⟩] scope pos) scope env _ (newList []) false (eval iter env) (some (assign (.Name x px) env)) >>= fun _ => pure ()) _ _ s
  refine wpAny_bind (wpAny_mono (wpAny_comprehension_free (g := ⟨target, iter, ifs, 0⟩) rfl hs hclos hkind hnames h) (fun _ s' hq => wpAny_pure (wpAny_pure hq)) fun _ _ x => x)
theorem comp_as {elt iter : PySem.Expr} {ifs : List PySem.Expr} {scope : Scope} {pos px : Pos} {x : Str} {cl : List (Str × Addr)} {Q : Value → Shared → Prop}
    (C : Cx B s₀ L m (J 0 ++ own) s) (S : ∀ Cc, Src prog w A s₀ Cc (compEnvC scope cl Cc env) target it J n bnd B)
    (self : ∀ Cc m' own' s' (Q' : Value → Shared → Prop), Cx B s₀ Cc m' (J 0 ++ own') s' → Q' it s' → wpAny (model prog w) A (pyIter it) Q' NoE s')
    (I : Nat → Heap → List Value → Prop) (h0 : I 0 B [])
    (turn : ∀ (k : Nat) Cc acc B' m1 m2 ys s', L < Cc → k < n → Keeps B B' → I k B' ys → bnd k m1 m2 → Cx B' s₀ Cc m2 (J (k + 1) ++ (acc, ListO ys.toArray) :: (L, NsO m) :: own) s' →
      wpAny (model prog w) A (forIn ifs true fun c r => if r = true then do let ok ← isTrue c (compEnvC scope cl Cc env) (eval c (compEnvC scope cl Cc env)); pure (ForInStep.yield ok) else pure (ForInStep.yield r)) (fun ok s3 =>
        if ok = true then wpAny (model prog w) A (eval elt (compEnvC scope cl Cc env)) (CompTurn s₀ Cc B' (J (k + 1)) acc ((L, NsO m) :: own) (I (k + 1)) ys) NoE s3
        else CompSkip s₀ Cc B' (J (k + 1)) acc ((L, NsO m) :: own) (I (k + 1)) ys s3) NoE s')
    (hI : ∀ k B' ys, k ≤ n → I k B' ys → ys.length ≤ 1000)
    (fin : ∀ B' ys acc s', L < acc → Keeps B B' → I n B' ys → Cx B' s₀ L (upd m x (.ref acc)) ((acc, ListO ys.toArray) :: own) s' → Q .none s')
    (hcell : ∀ y ∈ scope.names, y.2 ≠ .cell := by decide) (hkind : scope.kind = .function := by rfl)
    (hk : env.scope.kind = .function := by rfl) (hx : env.kindOf x = some .local := by kernel_rfl!) (hL : env.locals = L := by rfl) : CompGo prog w A elt target iter ifs scope pos cl env (some (assign (.Name x px) env)) Q it s := by
  refine comp_at0 C S self I h0 turn hI (fun Cc m' B' ys acc s' hLa kB hI' C' => ?_) hcell hkind
  show wpAny (model prog w) A (standAt px >>= fun _ => bindName env x (.ref acc)) _ NoE s'
  refine wpAny_bind (wpAny_standAt (wpAny_bindName ?_))
  subst hL
  refine wpAny_storeName_local hx (C'.ns1 1 rfl) (fun h' hn hs => ?_) (by rw [hk]; rfl)
  have C2 : Cx B' s₀ Cc m' ((acc, ListO ys.toArray) :: (env.locals, NsO (upd m x (.ref acc))) :: own) { s' with heap := h', toks := s'.toks + 1 } := C'.upd 1 rfl hs (nsO_of hn)
  exact ⟨m', C2.ns, fun h2 hs2 => fin B' ys acc _ hLa kB hI' (C2.outof (pre := [(acc, ListO ys.toArray)]) hs2 (t := s'.toks + 1))⟩

/-! ## a list's items under a name -/
theorem iterL {a : Addr} {items : Array Value} {Q : Value → Shared → Prop} (C : Cx B s₀ L m own s) (hl : LsAt B a items) (h : ∀ it s', Cx B s₀ L m ([(it, ListIterO a 0)] ++ own) s' → Q (.ref it) s') :
    wpAny (model prog w) A (pyIter (.ref a)) Q E s :=
  wpAny_pyIter_list (hl.keeps C.keep).isList (h _ _ (C.push { cls := .type "list_iterator", data := .fields #[.ref a, .int 0 0] } rfl (P := ListIterO a 0) ⟨rfl, rfl⟩))
theorem src_list {x : Str} {px : Pos} {a : Addr} {i : Addr} {vs : List Value} (hl : LsAt B a vs.toArray) (hh : A.handled = none) (hk : env.scope.kind = .function) (hx : env.kindOf x = some .local) (hL : env.locals = L) :
    Src prog w A s₀ L env (.Name x px) (.ref i) (fun k => [(i, ListIterO a k)]) vs.length (fun k m m' => ∃ v, vs[k]? = some v ∧ m' = upd m x v) B where
  item := by
    intro k B' m own s Q hk' kB C h
    have hv : vs[k]? = some vs[k] := List.getElem?_eq_getElem hk'
    have hl' := (hl.keeps (kB.trans' C.keep)).isList
    refine wpAny_pyNext_list_item (C.listIter 0 rfl) hl' (x := vs[k]) (by simpa using hv) fun h' hi' hs' => ?_
    have C2 : Cx B' s₀ L m ([(i, ListIterO a (k + 1))] ++ own) { s with heap := h' } := C.upd 0 rfl hs' (t := s.toks) hi'
    exact ⟨_, rfl, wpAny_pure (asN C2 (fun s' C3 => h _ s' ⟨_, hv, rfl⟩ C3) hk hx hL)⟩
  done := by
    intro B' m own s Q kB C h
    have hl' := (hl.keeps (kB.trans' C.keep)).isList
    refine wpAny_pyNext_list_end hh (C.listIter 0 rfl) hl' (by simp) fun h' hs' => h _ ?_
    have C2 := C.sub (own' := own) (List.sublist_cons_self _ _)
    have off := C.off _ (.head _)
    refine ⟨fun b o e => hs' b o (fun q => by rw [q, off.1] at e; cases e) (C2.keep b o e), C2.ns.extBut hs' (fun q => off.2 q.symm), fun p hp => ?_, C2.offL, C2.off, C2.nd, C2.g.trans (Gx.heap (t := s.toks))⟩
    obtain ⟨o, ho, hP⟩ := C2.has p hp
    refine ⟨o, hs' _ _ (fun q => ?_) ho, hP⟩
    have := C.nd
    rw [List.map_append, List.map_cons, List.map_nil, List.singleton_append, List.nodup_cons] at this
    have hm : p.1 ∈ own.map (·.1) := List.mem_map_of_mem hp
    exact this.1 (by rw [← q]; exact hm)
theorem self_list {a i : Addr} (Cc : Addr) (m' : Loc) (own' : List Spec) (s' : Shared) (Q' : Value → Shared → Prop) (C : Cx B s₀ Cc m' ([(i, ListIterO a 0)] ++ own') s') (h : Q' (.ref i) s') : wpAny (model prog w) A (pyIter (.ref i)) Q' NoE s' :=
  wpAny_pyIter_listiter (C.listIter 0 rfl) h
end
end Mine
end

section
open PySem PySem.Calls PySem.W PyProof.Rows
set_option maxRecDepth 100000
set_option autoImplicit false
set_option linter.all false
namespace Mine
section
variable {prog : Program} {w : World} {A : Around} {E : Value → Shared → Prop} {s s₀ : Shared} {B : Heap} {L : Addr} {m : Loc} {own : List Spec} {env : Env}

/-- several own objects change at once -/
theorem Cx.multi {chg : List Spec} (chg' : List Spec) (C : Cx B s₀ L m (chg ++ own) s) {h' : Heap} {t : Nat} (hsub : (chg'.map (·.1)).Sublist (chg.map (·.1)))
    (hk : ∀ b o, b ∉ chg.map (·.1) → s.heap.get? b = some o → h'.get? b = some o) (hc : ∀ p ∈ chg', ∃ o, h'.get? p.1 = some o ∧ p.2 o) : Cx B s₀ L m (chg' ++ own) { s with heap := h', toks := t } := by
  have offc : ∀ a ∈ chg.map (·.1), B.get? a = none ∧ a ≠ L := fun a ha => by
    obtain ⟨p, hp, rfl⟩ := List.mem_map.mp ha
    exact C.off p (List.mem_append_left _ hp)
  have nd := C.nd
  rw [List.map_append] at nd
  have nd' := List.nodup_append.mp nd
  refine ⟨fun b o e => hk b o (fun q => by rw [(offc b q).1] at e; cases e) (C.keep b o e), C.ns.at' fun o e => hk L o (fun q => (offc L q).2 rfl) e, fun p hp => ?_, C.offL, fun p hp => ?_, ?_, C.g.trans Gx.heap⟩
  · rcases List.mem_append.mp hp with hp | hp
    · exact hc p hp
    · obtain ⟨o, e, r⟩ := C.has p (List.mem_append_right _ hp)
      exact ⟨o, hk _ _ (fun q => nd'.2.2 _ q _ (List.mem_map_of_mem (f := (·.1)) hp) rfl) e, r⟩
  · rcases List.mem_append.mp hp with hp | hp
    · exact offc _ (hsub.subset (List.mem_map_of_mem (f := (·.1)) hp))
    · exact C.off p (List.mem_append_right _ hp)
  · rw [List.map_append]
    exact (hsub.append_right _).nodup nd

/-- two names out of a tuple, the second in a cell -/
theorem as2c {x y : Str} {px py pos : Pos} {k : Nat} {t : Addr} {v1 v2 : Value} {v₀ : Option Value} {c : Addr} {Q : Unit → Shared → Prop} (C : Cx B s₀ L m own s) (hh : A.handled = none) (ht : s.heap.IsTuple t #[v1, v2])
    (i : Nat) (hi : own[i]? = some (c, CellO v₀)) (h : ∀ s', Cx B s₀ L (upd m x v1) (own.set i (c, CellO (some v2))) s' → Q () s')
    (hk : env.scope.kind = .function) (hx : env.kindOf x = some .local) (hy : env.kindOf y = some .cell) (hcy : env.cells.lookup y = some c) (hL : env.locals = L) :
    wpAny (model prog w) A (assign (.Tuple [.Name x px, .Name y py] k pos) env (.ref t)) Q E s := by
  refine wpAny_assign_Tuple hh ht rfl rfl fun h' hx' => ?_
  have C1 := C.ext (s' := { s with heap := h' }) (keeps_fresh hx') (Gx.heap (t := s.toks))
  show wpAny _ _ (holding [v2] (assign (.Name x px) _ v1) >>= fun _ => holding [] (assign (.Name y py) _ v2) >>= fun _ => assignInOrder [] []) Q E _
  refine wpAny_bind (wpAny_holding (asN C1 (fun s2 C2 => ?_) hk hx hL))
  refine wpAny_bind (wpAny_holding (asCN C2 i hi (fun s3 C3 => ?_) hcy hk hy))
  exact wpAny_pure (h _ C3)

/-! ## enumerate over a list -/
def EnumO (it : Addr) (i : Nat) : Obj → Prop := fun o => ∃ old, o = { cls := .type "enumerate", dict := none, data := .fields #[.none, .bool false, .ref it, rawInt i, .none, old], slots := #[] }
def CellAt (vs : List Value) : Nat → Obj → Prop
  | 0 => fun o => ∃ v, o.data = .cell v
  | k + 1 => CellO vs[k]?

theorem Cx.enum {e it : Addr} {i : Nat} (C : Cx B s₀ L m own s) (k : Nat) (hi : own[k]? = some (e, EnumO it i)) : ∃ old, IsEnum s.heap e it i old := by
  obtain ⟨_, a, old, rfl⟩ := C.get k hi
  exact ⟨old, a⟩
theorem callEnum {a : Addr} {items : Array Value} {Q : Value → Shared → Prop} (C : Cx B s₀ L m own s) (hl : LsAt B a items) (h : ∀ e it s', Cx B s₀ L m ([(e, EnumO it 0), (it, ListIterO a 0)] ++ own) s' → Q (.ref e) s') :
    wpAny (model prog w) A (call (.type "enumerate") [.ref a]) Q E s := by
  refine call_enumerate_list (hl.keeps C.keep).isList fun h' he hi hz hk => h _ s.heap.objs.size { s with heap := h' } ?_
  have hsz : ∀ b, s.heap.objs.size ≤ b → B.get? b = none := fun b hb => by
    cases q : B.get? b with
    | none => rfl
    | some o' => exact absurd (Heap.lt_size (C.keep _ _ q)) (Nat.not_lt.mpr hb)
  have C1 := C.ext (s' := { s with heap := h' }) hk (Gx.heap (t := s.toks))
  refine ⟨C1.keep, C1.ns, fun p hp => ?_, C1.offL, fun p hp => ?_, ?_, C1.g⟩
  · simp only [List.cons_append, List.nil_append, List.mem_cons] at hp
    rcases hp with rfl | rfl | hp
    · exact ⟨_, he, .none, rfl⟩
    · exact hi
    · exact C1.has p hp
  · simp only [List.cons_append, List.nil_append, List.mem_cons] at hp
    rcases hp with rfl | rfl | hp
    · exact ⟨hsz _ (Nat.le_succ _), Nat.ne_of_gt (Nat.lt_succ_of_lt C.ltL)⟩
    · exact ⟨hsz _ (Nat.le_refl _), Nat.ne_of_gt C.ltL⟩
    · exact C.off p hp
  · simp only [List.cons_append, List.nil_append, List.map_cons, List.nodup_cons, List.mem_cons, List.mem_map, not_or]
    refine ⟨⟨Nat.succ_ne_self _, fun ⟨p, hp, q⟩ => ?_⟩, fun ⟨p, hp, q⟩ => ?_, C.nd⟩
    · exact absurd (C.lt hp) (by rw [q]; exact Nat.not_lt.mpr (Nat.le_succ _))
    · exact absurd (C.lt hp) (by rw [q]; exact Nat.lt_irrefl _)

/-- one item out of an enumerate: the pair lies in a tuple -/
theorem enum_item {elts : List PySem.Expr} {x1 : Nat} {tp : Pos} {e it a : Addr} {k : Nat} {vs : List Value} {v : Value} {Q : Unit → Shared → Prop} (C : Cx B s₀ L m ([(e, EnumO it k), (it, ListIterO a k)] ++ own) s) (hl : LsAt B a vs.toArray) (hv : vs[k]? = some v)
    (h : ∀ s' t tk, Cx B s₀ L m ([(e, EnumO it (k + 1)), (it, ListIterO a (k + 1))] ++ own) s' → s'.heap.IsTuple t #[.int k tk, v] → wpAny (model prog w) A (assign (.Tuple elts x1 tp) env (.ref t)) Q NoE s') :
    wpAny (model prog w) A (pyNext (.ref e)) (fun r s1 => ∃ v, r = some v ∧ wpAny (model prog w) A (letOwnedTupleGo (.Tuple elts x1 tp) (.ref e) v) (fun _ s2 => wpAny (model prog w) A (assign (.Tuple elts x1 tp) env v) Q NoE s2) NoE s1) NoE s := by
  obtain ⟨old, he⟩ := C.enum 0 rfl
  have hit := C.listIter 1 rfl
  have hne : e ≠ it := by
    have := C.nd
    simp only [List.cons_append, List.nil_append, List.map_cons, List.nodup_cons, List.mem_cons, not_or] at this
    exact this.1.1
  have hel : e < s.heap.objs.size := Heap.lt_size he
  refine wpAny_pyNext_enum_item he hit (hl.keeps C.keep).isList (by simpa using hv) hne fun h1 heo hit1 ht1 hz1 hk1 => ⟨_, rfl, ?_⟩
  refine wpAny_letOwnedTupleGo_enum heo fun h2 he2 hs2 => ?_
  refine h _ s.heap.objs.size s.toks ?_ ⟨_, (hs2.2 _ (Nat.ne_of_gt hel)).trans ht1, rfl, 0, rfl⟩
  refine C.multi (chg := [(e, EnumO it k), (it, ListIterO a k)]) [(e, EnumO it (k + 1)), (it, ListIterO a (k + 1))] (h' := h2) (t := s.toks + 1) (List.Sublist.refl _) (fun b o hb ho => ?_) fun p hp => ?_
  · simp only [List.map_cons, List.map_nil, List.mem_cons, List.not_mem_nil, or_false, not_or] at hb
    exact hs2.extBut b o hb.1 (hk1 b o hb.1 hb.2 ho)
  · simp only [List.mem_cons, List.not_mem_nil, or_false] at hp
    rcases hp with rfl | rfl
    · refine ⟨_, he2, v, ?_⟩; rfl
    · exact hit1.extBut hs2.extBut (Ne.symm hne)
theorem enum_done {e it a : Addr} {vs : List Value} {Q : Option Value → Shared → Prop} (hh : A.handled = none) (C : Cx B s₀ L m ([(e, EnumO it vs.length), (it, ListIterO a vs.length)] ++ own) s) (hl : LsAt B a vs.toArray)
    (h : ∀ s', Cx B s₀ L m own s' → Q none s') : wpAny (model prog w) A (pyNext (.ref e)) Q NoE s := by
  obtain ⟨old, he⟩ := C.enum 0 rfl
  refine wpAny_pyNext_enum_end hh he (C.listIter 1 rfl) (hl.keeps C.keep).isList (by simp) fun h' hs' => h _ ?_
  exact C.multi (chg := [(e, EnumO it vs.length), (it, ListIterO a vs.length)]) [] (h' := h') (t := s.toks) (List.nil_sublist _) (fun b o hb ho => hs' b o (fun q => hb (by simp [q])) ho) fun p hp => nomatch hp

theorem src_enum {x y : Str} {px py tp : Pos} {x1 : Nat} {e it a : Addr} {vs : List Value} (hl : LsAt B a vs.toArray) (hh : A.handled = none) (hk : env.scope.kind = .function) (hx : env.kindOf x = some .local) (hy : env.kindOf y = some .local) (hL : env.locals = L) :
    Src prog w A s₀ L env (.Tuple [.Name x px, .Name y py] x1 tp) (.ref e) (fun k => [(e, EnumO it k), (it, ListIterO a k)]) vs.length (fun k m m' => ∃ v t, vs[k]? = some v ∧ m' = upd (upd m x (.int k t)) y v) B where
  item := fun k B' m own s Q hk' kB C h => enum_item C (hl.keeps kB) (List.getElem?_eq_getElem hk') fun s' t tk C' ht => as2 C' hh ht (fun s2 C2 => h _ s2 ⟨_, tk, List.getElem?_eq_getElem hk', rfl⟩ C2) hk hx hy hL
  done := fun B' m own s Q kB C h => enum_done hh C (hl.keeps kB) h
theorem src_enumC {x y : Str} {px py tp : Pos} {x1 : Nat} {e it a c : Addr} {vs : List Value} (hl : LsAt B a vs.toArray) (hh : A.handled = none) (hk : env.scope.kind = .function) (hx : env.kindOf x = some .local) (hy : env.kindOf y = some .cell) (hcy : env.cells.lookup y = some c) (hL : env.locals = L) :
    Src prog w A s₀ L env (.Tuple [.Name x px, .Name y py] x1 tp) (.ref e) (fun k => [(e, EnumO it k), (it, ListIterO a k), (c, CellAt vs k)]) vs.length (fun k m m' => ∃ t, m' = upd m x (.int k t)) B where
  item := fun k B' m own s Q hk' kB C h => by
    refine enum_item (own := (c, CellAt vs k) :: own) C (hl.keeps kB) (List.getElem?_eq_getElem hk') fun s' t tk C' ht => ?_
    obtain ⟨v₀, C''⟩ : ∃ v₀, Cx B' s₀ L m ([(e, EnumO it (k + 1)), (it, ListIterO a (k + 1))] ++ (c, CellO v₀) :: own) s' := by
      obtain ⟨o, ho, hP⟩ := C'.has (c, CellAt vs k) (by simp)
      obtain ⟨v₀, hv⟩ : ∃ v₀, o.data = .cell v₀ := by cases k with
        | zero => exact hP
        | succ k => exact ⟨_, hP⟩
      exact ⟨v₀, C'.updMid (pre := [(e, EnumO it (k + 1)), (it, ListIterO a (k + 1))]) (a := c) (P := CellAt vs k) (P' := CellO v₀) (h' := s'.heap) (t := s'.toks) (Heap.SameBut.refl _ _) ⟨o, ho, hv⟩⟩
    refine as2c C'' hh ht 2 rfl (fun s2 C2 => h _ s2 ⟨tk, rfl⟩ ?_) hk hx hy hcy hL
    show Cx B' s₀ L _ ([(e, EnumO it (k + 1)), (it, ListIterO a (k + 1)), (c, CellO vs[k]?)] ++ own) s2
    rw [List.getElem?_eq_getElem hk']
    exact C2
  done := fun B' m own s Q kB C h => enum_done (own := (c, CellAt vs vs.length) :: own) hh C (hl.keeps kB) fun s' C' => h s' (C'.sub (List.sublist_cons_self _ _))
end
end Mine
end

section
open PySem PySem.Calls PySem.W PyProof.Rows
set_option maxRecDepth 100000
set_option autoImplicit false
set_option linter.all false
namespace Mine

theorem seq_list_iadd : seqSlot? (.type "list") (dunderI "add") = pure (some (.builtin "list.__iadd__")) := PySem.seqSlot_of F.slot_list_iadd.lookup (by decide +kernel)
theorem noIn_list_iadd : fillsInplaceSlot (.type "list") "add" (Operator.Add == .Add) = pure false := by
  unfold fillsInplaceSlot
  show (typeLookup (.type "list") (dunderI "add") >>= fun fi => pure (fi.isSome && !isSeqSlot fi)) = pure false
  rw [F.slot_list_iadd.lookup]
  show (pure ((some (Value.builtin "list.__iadd__")).isSome && !isSeqSlot (some (.builtin "list.__iadd__"))) : Sem Bool) = pure false
  rw [show ((some (Value.builtin "list.__iadd__")).isSome && !isSeqSlot (some (.builtin "list.__iadd__"))) = false from by decide +kernel]

section
variable {prog : Program} {w : World} {A : Around} {E : Value → Shared → Prop} {s s₀ : Shared} {B : Heap} {L : Addr} {m : Loc} {own : List Spec} {env : Env}

/-- an own list grown by another list -/
theorem iaddL {l b : Addr} {xs ys : Array Value} {pre post : List Spec} {Q : Value → Shared → Prop} (C : Cx B s₀ L m (pre ++ (l, ListO xs) :: post) s) (hb : LsAt s.heap b ys) (hsz : xs.size + ys.size ≤ 1000)
    (h : ∀ s', Cx B s₀ L m (pre ++ (l, ListO (xs ++ ys)) :: post) s' → Q (.ref l) s') : wpAny (model prog w) A (inplaceOp .Add (.ref l) (.ref b)) Q E s := by
  obtain ⟨_, e1, n1, rfl⟩ := C.has (l, ListO xs) (by simp)
  obtain ⟨n2, e2⟩ := hb
  have ha : s.TypeIs (.ref l) "list" := ⟨_, e1, rfl⟩
  have hbt : s.TypeIs (.ref b) "list" := ⟨_, e2, rfl⟩
  have hs0 : ¬(!xs.isEmpty && Builtin.List.listTooLong (xs.size + ys.size)) = true := by
    simp [Builtin.List.listTooLong, sizeLine]; intro _; omega
  unfold inplaceOp
  refine wpAny_holding ?_
  refine wpAny_bind (wpAny_typeOf ha (wpAny_bind (wpAny_of_eq noIn_list_iadd ?_)))
  show wpAny _ A (if false = true then _ else _) Q E s
  rw [if_neg Bool.false_ne_true]
  refine wpAny_bind (binaryOp1_none (nm := "add") ha hbt noFill_list_add ?_)
  refine wpAny_bind (wpAny_of_eq seq_list_iadd ?_)
  refine wpAny_bind (wpAny_rule ?_)
  refine (call_meets F.slot_list_iadd ha F.entry_list_iadd (F.args_list_iadd_2 _ _) (AutoSeq1.list___iadd___list_list_0 l xs n1 b ys n2 hs0 (Nat.le_trans (Nat.le_trans (Nat.le_add_right _ _) hsz) (by decide)) (Nat.le_trans hsz (by decide))) ⟨e1, e2, ?_⟩)
  refine (h _ (C.updMid (P' := ListO (xs ++ ys)) (Heap.SameBut.update ..) ?_ (t := s.toks)))
  have hm : Obj.mapSeq (fun x => x ++ ys) { cls := .type "list", dict := none, data := .seq xs n1, slots := #[] } = W.listOf (xs ++ ys) (if (xs ++ ys).size == xs.size then n1 else n1 + 1) := rfl
  exact ⟨_, Heap.get?_update_self _ e1 (by rw [hm]; rfl), _, hm⟩

/-- a cut of a list -/
theorem cutL {value : PySem.Expr} {lower upper : Option PySem.Expr} {p pos : Pos} {Q : Value → Shared → Prop}
    (h : wpAny (model prog w) A (eval value env) (fun o s₁ => wpAny (model prog w) A (evalPart lower env) (fun vl s₂ => wpAny (model prog w) A (evalPart upper env) (fun vu s₃ =>
      ∃ B m own l items lo hi, o = .ref l ∧ Cx B s₀ L m own s₃ ∧ LsAt s₃.heap l items ∧ items.size ≤ 1000 ∧ IsPart vl lo ∧ IsPart vu hi ∧
        ∀ B' s' a, Keeps B B' → Cx B' s₀ L m own s' → LsAt B' a (slicePick items lo hi none) → L < a → Q (.ref a) s') E s₂) E s₁) E s)
    (ht : ∀ o r, letTemporaryGo value o r = pure () := by intro _ _; rfl) :
    wpAny (model prog w) A (eval (.Subscript value (.Slice lower upper none p) pos) env) Q E s := by
  refine wpAny_Subscript_list_slice (wpAny_mono h (fun o s1 h1 => wpAny_mono h1 (fun vl s2 h2 => wpAny_mono h2 (fun vu s3 h3 => ?_) fun _ _ x => x) fun _ _ x => x) fun _ _ x => x) ht
  obtain ⟨B, m, own, l, items, lo, hi, rfl, C, hl, hsz, pl, pu, hQ⟩ := h3
  refine ⟨l, items, lo, hi, rfl, hl.isList, Nat.le_trans hsz (by decide), pl, pu, ?_⟩
  have C1 := C.pushAny { cls := .type "slice", data := .fields #[vl, vu, .none] }
  obtain ⟨B', k, C', _, ho, n, rfl⟩ := (C1.push { cls := .type "list", data := .seq (slicePick items lo hi none) } rfl (P := ListO (slicePick items lo hi none)) ⟨0, rfl⟩).freeze
  have hz : (s3.heap.push { cls := .type "slice", data := .fields #[vl, vu, .none] }).objs.size = s3.heap.objs.size + 1 := Heap.size_push ..
  rw [hz] at ho
  exact hQ B' _ _ k C' ⟨n, ho⟩ (Nat.lt_succ_of_lt C.ltL)

/-- a call of a type by its name, one argument -/
theorem callT1 {fe e1 : PySem.Expr} {pos : Pos} {T : String} {Q : Value → Shared → Prop}
    (h : wpAny (model prog w) A (eval fe env) (fun v0 s0 => v0 = .type T ∧ wpAny (model prog w) A (eval e1 env) (fun v s1 => wpAny (model prog w) A (call (.type T) [v] []) Q E s1) E s0) E s)
    (hc : eval (.Call fe [e1] [] pos) env = (eval fe env >>= fun v => callWith pos v [] (backTo pos (starEach [e1] env)) (backToKw pos (keywordEach [] env))) := by kernel_rfl!)
    (h1 : plainE e1 = true := by kernel_rfl!) : wpAny (model prog w) A (eval (.Call fe [e1] [] pos) env) Q E s := by
  rw [hc, star_cons h1, star_nil]
  refine wpAny_bind (wpAny_mono h (fun v0 s0 h0 => ?_) fun _ _ x => x)
  obtain ⟨rfl, h0⟩ := h0
  show wpAny _ _ (callWith pos (.type T) [] [(false, eval e1 env)] []) Q E s0
  exact PySem.callWith_type rfl (evalArgs_plain (spliced_cons (wpAny_mono h0 (fun v s1 h1 => spliced_nil h1) fun _ _ x => x)))
theorem callT2 {fe e1 e2 : PySem.Expr} {pos : Pos} {T : String} {Q : Value → Shared → Prop}
    (h : wpAny (model prog w) A (eval fe env) (fun v0 s0 => v0 = .type T ∧ wpAny (model prog w) A (eval e1 env) (fun v s1 => wpAny (model prog w) A (eval e2 env) (fun u s2 => wpAny (model prog w) A (call (.type T) [v, u] []) Q E s2) E s1) E s0) E s)
    (hc : eval (.Call fe [e1, e2] [] pos) env = (eval fe env >>= fun v => callWith pos v [] (backTo pos (starEach [e1, e2] env)) (backToKw pos (keywordEach [] env))) := by kernel_rfl!)
    (h1 : plainE e1 = true := by kernel_rfl!) (h2 : plainE e2 = true := by kernel_rfl!) : wpAny (model prog w) A (eval (.Call fe [e1, e2] [] pos) env) Q E s := by
  rw [hc, star_cons h1, star_cons h2, star_nil]
  refine wpAny_bind (wpAny_mono h (fun v0 s0 h0 => ?_) fun _ _ x => x)
  obtain ⟨rfl, h0⟩ := h0
  show wpAny _ _ (callWith pos (.type T) [] [(false, eval e1 env), (false, eval e2 env)] []) Q E s0
  exact PySem.callWith_type rfl (evalArgs_plain (spliced_cons (wpAny_mono h0 (fun v s1 h1 => spliced_cons (wpAny_mono h1 (fun u s2 h2 => spliced_nil h2) fun _ _ x => x)) fun _ _ x => x)))
/-- a call of a builtin function by its name, one argument -/
theorem callB1 {fe e1 : PySem.Expr} {pos : Pos} {id : String} {Q : Value → Shared → Prop}
    (h : wpAny (model prog w) A (eval fe env) (fun v0 s0 => v0 = .builtin id ∧ wpAny (model prog w) A (eval e1 env) (fun v s1 => wpAny (model prog w) A (call (.builtin id) [v] []) Q E s1) E s0) E s)
    (hc : eval (.Call fe [e1] [] pos) env = (eval fe env >>= fun v => callWith pos v [] (backTo pos (starEach [e1] env)) (backToKw pos (keywordEach [] env))) := by kernel_rfl!)
    (h1 : plainE e1 = true := by kernel_rfl!) : wpAny (model prog w) A (eval (.Call fe [e1] [] pos) env) Q E s := by
  rw [hc, star_cons h1, star_nil]
  refine wpAny_bind (wpAny_mono h (fun v0 s0 h0 => ?_) fun _ _ x => x)
  obtain ⟨rfl, h0⟩ := h0
  show wpAny _ _ (callWith pos (.builtin id) [] [(false, eval e1 env)] []) Q E s0
  exact callWith_builtin rfl (evalArgs_plain (spliced_cons (wpAny_mono h0 (fun v s1 h1 => spliced_nil h1) fun _ _ x => x)))

/-- a new list that is going to change -/
theorem Cx.newOwn {vs : List Value} {Q : Value → Shared → Prop} (C : Cx B s₀ L m own s) (hsz : Nat.ble vs.length 1000 = true) (h : ∀ s' a, Cx B s₀ L m ((a, ListO vs.toArray) :: own) s' → L < a → Q (.ref a) s') : AllocL Q vs s :=
  ⟨size_small hsz, h _ _ (C.push { cls := .type "list", data := .seq vs.toArray } rfl (P := ListO vs.toArray) ⟨0, rfl⟩) C.ltL⟩
theorem Cx.mono1 {a : Addr} {P P' : Obj → Prop} {pre post : List Spec} (C : Cx B s₀ L m (pre ++ (a, P) :: post) s) (h : ∀ o, P o → P' o) : Cx B s₀ L m (pre ++ (a, P') :: post) s := by
  obtain ⟨o, ho, hP⟩ := C.has (a, P) (by simp)
  exact C.updMid (Heap.SameBut.refl a s.heap) ⟨o, ho, h o hP⟩ (t := s.toks)

/-- a for whose source's iterator is at hand -/
theorem forStmt {target iter : PySem.Expr} {body : List Stmt} {pos : Pos} {Q : Flow → Shared → Prop}
    (h : wpAny (model prog w) A (eval iter env) (fun x s₁ => wpAny (model prog w) A (pyIter x) (fun it s₂ => codeAny (model prog w) A (.forLoop target it body [] env) (fun r s' => match r with | .ok f => Q f s' | .error e => False) s₂) NoE s₁) NoE s)
    (hs : ∀ x, foldedSetIterable iter env x = pure x := by intro _; rfl) : wpAny (model prog w) A (exec (.For target iter body [] pos) env) Q NoE s := by
  refine wpAny_For (wpAny_mono h (fun x s1 h1 => wpAny_mono h1 (fun it s2 h2 => codeAny_mono h2 fun r s' hr => ?_) fun _ _ x => x) fun _ _ x => x) hs
  cases r with
  | ok f => exact hr
  | error e => exact hr.elim
end

/-! ## lists of lists of ints -/
inductive ILs (lo : Nat) (h : Heap) : List Addr → List (List Int) → Prop
  | nil : ILs lo h [] []
  | cons {a : Addr} {as : List Addr} {xs : List Int} {xss : List (List Int)} : lo ≤ a → IL h a xs → ILs lo h as xss → ILs lo h (a :: as) (xs :: xss)
theorem ILs.keeps {lo : Nat} {h h' : Heap} {as : List Addr} {xss : List (List Int)} (x : ILs lo h as xss) (k : Keeps h h') : ILs lo h' as xss := by
  induction x with
  | nil => exact .nil
  | cons a b _ ih => exact .cons a (b.keeps k) ih
theorem ILs.fresh {lo : Nat} {h h' : Heap} {as : List Addr} {xss : List (List Int)} (x : ILs lo h as xss) (k : ∀ b o, lo ≤ b → h.get? b = some o → h'.get? b = some o) : ILs lo h' as xss := by
  induction x with
  | nil => exact .nil
  | cons a b _ ih => exact .cons a (b.fresh a k) ih
theorem ILs.append {lo : Nat} {h : Heap} {as bs : List Addr} {xss yss : List (List Int)} (x : ILs lo h as xss) (y : ILs lo h bs yss) : ILs lo h (as ++ bs) (xss ++ yss) := by
  induction x with
  | nil => exact y
  | cons a b _ ih => exact .cons a b ih
theorem ILs.low {lo lo' : Nat} {h : Heap} {as : List Addr} {xss : List (List Int)} (x : ILs lo h as xss) (hl : lo' ≤ lo) : ILs lo' h as xss := by
  induction x with
  | nil => exact .nil
  | cons a b _ ih => exact .cons (Nat.le_trans hl a) b ih
theorem ILs.length {lo : Nat} {h : Heap} {as : List Addr} {xss : List (List Int)} (x : ILs lo h as xss) : as.length = xss.length := by
  induction x with
  | nil => rfl
  | cons _ _ _ ih => simp [ih]
theorem ILs.at {lo : Nat} {h : Heap} {as : List Addr} {xss : List (List Int)} (x : ILs lo h as xss) : ∀ {k : Nat} {a : Addr}, as[k]? = some a → ∃ xs, xss[k]? = some xs ∧ IL h a xs ∧ lo ≤ a := by
  induction x with
  | nil => intro k a e; simp at e
  | cons p q _ ih =>
    intro k a e
    cases k with
    | zero => simp at e; subst e; exact ⟨_, rfl, q, p⟩
    | succ k => simpa using ih (by simpa using e)
/-- a list, at a, of lists of ints; the lists within lie at lo and above -/
def LL (lo : Nat) (h : Heap) (a : Addr) (xss : List (List Int)) : Prop := ∃ as : List Addr, LsAt h a (as.map Value.ref).toArray ∧ ILs lo h as xss
theorem LL.keeps {lo : Nat} {h h' : Heap} {a : Addr} {xss : List (List Int)} (x : LL lo h a xss) (k : Keeps h h') : LL lo h' a xss := let ⟨as, l, i⟩ := x; ⟨as, l.keeps k, i.keeps k⟩
theorem LL.fresh {lo : Nat} {h h' : Heap} {a : Addr} {xss : List (List Int)} (x : LL lo h a xss) (ha : lo ≤ a) (k : ∀ b o, lo ≤ b → h.get? b = some o → h'.get? b = some o) : LL lo h' a xss :=
  let ⟨as, ⟨n, l⟩, i⟩ := x; ⟨as, ⟨n, k _ _ ha l⟩, i.fresh k⟩
end Mine
end

section
open PySem PySem.Calls PySem.W PyProof.Rows
set_option maxRecDepth 100000
set_option autoImplicit false
set_option linter.all false
namespace Mine
/-- all orders of a row of steps, like steps once (n: how many) -/
def ordersN : Nat → List Int → List (List Int)
  | 0, _ => [[]]
  | n + 1, xs => (List.range (n + 1)).flatMap fun p => if (xs.take p).any (· == xs.getD p 0) then [] else (ordersN n (xs.take p ++ xs.drop (p + 1))).map (xs.getD p 0 :: ·)
def ordersUpTo (n : Nat) (xs : List Int) (k : Nat) : List (List Int) := (List.range k).flatMap fun p => if (xs.take p).any (· == xs.getD p 0) then [] else (ordersN n (xs.take p ++ xs.drop (p + 1))).map (xs.getD p 0 :: ·)
theorem ordersUpTo_succ (n : Nat) (xs : List Int) (k : Nat) : ordersUpTo n xs (k + 1) = ordersUpTo n xs k ++ (if (xs.take k).any (· == xs.getD k 0) then [] else (ordersN n (xs.take k ++ xs.drop (k + 1))).map (xs.getD k 0 :: ·)) := by
  unfold ordersUpTo; rw [List.range_succ, List.flatMap_append]; simp
theorem orders_len : ∀ (n : Nat) (xs : List Int), xs.length = n → ∀ ys ∈ ordersN n xs, ys.length = n ∧ ∀ y ∈ ys, y ∈ xs
  | 0, xs, _, ys, h => by
    rw [List.mem_singleton.mp h]; exact ⟨rfl, fun _ q => nomatch q⟩
  | n + 1, xs, hn, ys, h => by
    obtain ⟨p, hp, h⟩ := List.mem_flatMap.mp h
    have hp := List.mem_range.mp hp
    split at h
    · cases h
    · obtain ⟨zs, hz, rfl⟩ := List.mem_map.mp h
      have hx : xs.getD p 0 ∈ xs := by rw [List.getD_eq_getElem?_getD, List.getElem?_eq_getElem (by omega)]; exact List.getElem_mem _
      obtain ⟨h1, h2⟩ := orders_len n _ (by simp; omega) zs hz
      refine ⟨by rw [List.length_cons, h1], fun y hy => ?_⟩
      rcases List.mem_cons.mp hy with rfl | hy
      · exact hx
      · rcases List.mem_append.mp (h2 y hy) with q | q
        · exact List.mem_of_mem_take q
        · exact List.mem_of_mem_drop q
theorem IntsAre.len' {vs : List Value} {xs : List Int} (h : IntsAre vs xs) : vs.length = xs.length := h.length
theorem ordersUpTo_le (n : Nat) (xs : List Int) {k j : Nat} (h : k ≤ j) : (ordersUpTo n xs k).length ≤ (ordersUpTo n xs j).length := by
  induction h with
  | refl => exact Nat.le_refl _
  | step _ ih => rw [ordersUpTo_succ, List.length_append]; omega

section
variable {prog : Program} {w : World}
set_option maxHeartbeats 1000000 in
theorem orders_spec : ∀ (n : Nat) (xs : List Int) {A : Around} {E : Value → Shared → Prop} {s : Shared} {a : Addr} {Q : Value → Shared → Prop}, xs.length = n → (ordersN n xs).length ≤ 500 → n ≤ 100 → GL s.heap → IL s.heap a xs → A.depth + n < recursionLimit → A.handled = none →
    (∀ s' b, Done s s' → LL s.heap.objs.size s'.heap b (ordersN n xs) → s.heap.objs.size ≤ b → Q (.ref b) s') → wpAny (model prog w) A (call (.ref 84) [.ref a]) Q E s := by
  intro n
  induction n with
  | zero =>
    intro xs A E s a Q hn hO hn100 G hl hd hh h
    obtain ⟨pm, cd, hf⟩ := G.fOrders
    refine callDefC G.lim hf (by omega) (BindsTo.of_eq (binds := [("steps", .ref a)]) (by kernel_rfl!)) fun L s₁ nL C => ?_
    have e : (defAt 14).2.1 = (defAt 14).2.1 := rfl
    conv at e => lhs; whnf
    rw [← e]; clear e
    obtain ⟨vs, hl, hi⟩ := hl
    obtain rfl : xs = [] := List.eq_nil_of_length_eq_zero hn
    cases hi
    refine wpAny_execs_cons ?_
    refine wpAny_If (wpAny_isTrue_Not (wpAny_isTrue_value (ldN C (by rfl) (wpAny_truthy_list (hl.keeps C.keep).isList (by simp) ?_))))
    refine wpAny_execs_cons ?_
    refine wpAny_Return_some ?_
    have C1 := C.tok (s₁.toks + 1 + 1)
    refine list1E (listE (items_nil (C1.newList rfl fun B2 s2 b2 k2 C2 l2 n2 => C2.newList rfl fun B3 s3 b3 k3 C3 l3 n3 => ?_)))
    refine h _ b3 (C3.done (k2.trans' k3)) ⟨[b2], l3.keeps C3.keep, .cons (Nat.le_trans nL (Nat.le_of_lt n2)) ⟨[], l2.keeps (k3.trans' C3.keep), .nil⟩ .nil⟩ (Nat.le_trans nL (Nat.le_of_lt n3))
  | succ n ih =>
    intro xs A E s a Q hn hO hn100 G hl hd hh h
    obtain ⟨pm, cd, hf⟩ := G.fOrders
    refine callDefC G.lim hf (by omega) (BindsTo.of_eq (binds := [("steps", .ref a)]) (by kernel_rfl!)) fun L s₁ nL C => ?_
    have e : (defAt 14).2.1 = (defAt 14).2.1 := rfl
    conv at e => lhs; whnf
    rw [← e]; clear e
    obtain ⟨vs, hl, hi⟩ := hl
    have hvl : vs.length = n + 1 := by rw [hi.length, hn]
    refine wpAny_execs_cons ?_
    refine wpAny_If (wpAny_isTrue_Not (wpAny_isTrue_value (ldN C (by rfl) (wpAny_truthy_list (hl.keeps C.keep).isList (by simp; omega) ?_))))
    have hne : (!(!vs.toArray.isEmpty)) = false := by
      cases vs with
      | nil => simp at hvl
      | cons _ _ => rfl
    rw [hne, if_neg Bool.false_ne_true]
    refine wpAny_execs_nil (wpAny_execs_cons ?_)
    have C : Cx s.heap s L (bindL (envAtC 14 L 84 cd).kindOf [("steps", .ref a)] fun _ => none) [(L + 1, CellO none)] s₁ := C
    have hst : bindL (envAtC 14 L 84 cd).kindOf [("steps", .ref a)] (fun _ => none) "steps" = some (.ref a) := by rfl
    generalize bindL (envAtC 14 L 84 cd).kindOf [("steps", .ref a)] (fun _ => none) = m0 at C hst
    refine wpAny_Assign_Name (listE (items_nil ((C.tok (s₁.toks + 1 + 1)).newOwn rfl fun s2 o C2 nO => stM C2 fun s3 C3 => ?_)))
    refine wpAny_execs_cons (forStmt (callT1 (ldB (G.keeps C3.keep) 18 2 rfl rfl ⟨rfl, ldN C3 (upd_ne hst (by decide)) (callEnum C3 hl fun e it s4 C4 => ?_)⟩)))
    obtain ⟨old, he⟩ := C4.enum 0 rfl
    refine wpAny_pyIter_enum he ?_
    have C5 : Cx s.heap s L _ ([(e, EnumO it 0), (it, ListIterO a 0), (L + 1, CellAt vs 0)] ++ [(o, ListO #[])]) s4 :=
      (C4.mono1 (pre := [(e, EnumO it 0), (it, ListIterO a 0), (o, ListO #[])]) (post := []) (a := L + 1) (P := CellO none) (P' := CellAt vs 0) (fun ob ho => ⟨_, ho⟩)).perm (.cons _ (.cons _ (.swap _ _ _)))
    refine for_gen (L := L) (src_enumC (c := L + 1) hl hh rfl (by kernel_rfl!) (by kernel_rfl!) (by kernel_rfl!) rfl) (own := [(o, ListO #[])]) C5
      (fun k B' m' own' => ∃ as, own' = [(o, ListO (as.map Value.ref).toArray)] ∧ ILs s.heap.objs.size B' as (ordersUpTo n xs k) ∧ m' "orders" = some (.ref o) ∧ m' "steps" = some (.ref a))
      ⟨[], rfl, .nil, upd_same, upd_ne hst (by decide)⟩ ?_ ?_
    · rintro k B' m1 m2 own' s5 hk kB ⟨as, rfl, hI, ho, hs⟩ ⟨t, rfl⟩ C6
      rw [hvl] at hk
      obtain ⟨x, hx⟩ : ∃ x, xs[k]? = some x := ⟨_, List.getElem?_eq_getElem (by omega)⟩
      obtain ⟨tx, hvx⟩ := intsAre_get hi hx
      have hxd : xs.getD k 0 = x := by rw [List.getD_eq_getElem?_getD, hx]; rfl
      change Cx B' s L _ ([(e, EnumO it (k + 1)), (it, ListIterO a (k + 1)), (L + 1, CellO vs[k]?)] ++ _) s5 at C6
      rw [hvx] at C6
      have hl5 : LsAt s5.heap a vs.toArray := hl.keeps (kB.trans' C6.keep)
      refine wpAny_execs_cons ?_
      refine wpAny_If (wpAny_isTrue_Compare1 (ldCN C6 2 rfl (cutL (ldN C6 (upd_ne hs (by decide)) (evalPart_none_step (evalPart_some_step (ldN C6 upd_same ⟨_, _, _, a, vs.toArray, none, some (k : Int), rfl, C6, hl5, by simp; omega, .none, .int _ _, ?_⟩)))))))
      intro B7 s7 b7 k7 C7 l7 n7
      rw [slicePick_upto'] at l7
      have C7' : Cx B7 s L (upd m1 "place" (.int k t)) ([(e, EnumO it (k + 1)), (it, ListIterO a (k + 1)), (L + 1, CellAt vs (k + 1))] ++ [(o, ListO (as.map Value.ref).toArray)]) s7 := by
        show Cx B7 s L _ ([(e, EnumO it (k + 1)), (it, ListIterO a (k + 1)), (L + 1, CellO vs[k]?)] ++ _) s7
        rw [hvx]; exact C7
      refine notin_list_ints (l7.keeps C7.keep).isList (hi.take k) (wpAny_truthy_bool ?_)
      cases hc : (xs.take k).any (· == x) with
      | true =>
        simp only [Bool.not_true, Bool.false_eq_true, if_false]
        refine wpAny_execs_nil (wpAny_execs_nil ⟨B7, _, _, k7, C7', as, rfl, ?_, upd_ne ho (by decide), upd_ne hs (by decide)⟩)
        rw [ordersUpTo_succ, hxd, hc, if_pos rfl, List.append_nil]
        exact hI.keeps k7
      | false =>
        simp only [Bool.not_false, if_true]
        have hkn : k ≤ n := by omega
        have hO' : (ordersUpTo n xs (k + 1)).length ≤ 500 := Nat.le_trans (ordersUpTo_le n xs (show k + 1 ≤ n + 1 by omega)) hO
        rw [ordersUpTo_succ, hxd, hc] at hO'
        simp only [Bool.false_eq_true, if_false, List.length_append, List.length_map] at hO'
        have hI7 := hI.keeps k7
        refine wpAny_execs_cons ?_
        refine wpAny_AugAssign_Name (ldM C7 (upd_ne ho (by decide)) ?_)
        refine listComp [("step", L + 1)] ?_
        refine callE1 (B := B7) (hf.keeps (kB.trans' k7)) (ldG (G.keeps (kB.trans' (k7.trans' C7.keep))) 9 rfl ⟨rfl, ?_⟩)
        refine wpAny_BinOp (cutL (ldN C7' (upd_ne hs (by decide)) (evalPart_none_step (evalPart_some_step (ldN C7' upd_same ⟨_, _, _, a, vs.toArray, none, some (k : Int), rfl, C7', hl.keeps (kB.trans' (k7.trans' C7'.keep)), by simp; omega, .none, .int _ _, ?_⟩)))))
        intro B8 s8 b8 k8 C8 l8 n8
        rw [slicePick_upto'] at l8
        refine cutL (ldN C8 (upd_ne hs (by decide)) (evalPart_some_step (wpAny_BinOp (ldN C8 upd_same (wpAny_Constant_int (add_int (evalPart_none_step ⟨_, _, _, a, vs.toArray, some ((k + 1 : Nat) : Int), none, rfl, C8.tok (s8.toks + 1 + 1), hl.keeps (kB.trans' (k7.trans' (k8.trans' C8.keep))), by simp; omega, .int _ _, .none, ?_⟩)))))))
        intro B9 s9 b9 k9 C9 l9 n9
        rw [slicePick_from'] at l9
        refine addL C9 ((l8.keeps k9).keeps C9.keep) (l9.keeps C9.keep) (by simp; omega) fun B10 s10 b10 k10 C10 l10 n10 => ?_
        have k710 : Keeps B7 B10 := k8.trans' (k9.trans' k10)
        have hi' : IntsAre (vs.take k ++ vs.drop (k + 1)) (xs.take k ++ xs.drop (k + 1)) := (hi.take k).append (hi.drop (k + 1))
        have hlen : (xs.take k ++ xs.drop (k + 1)).length = n := by simp; omega
        refine ⟨k710.trans' C10.keep, ih (xs.take k ++ xs.drop (k + 1)) hlen (by omega) (by omega) (G.keeps (kB.trans' (k7.trans' (k710.trans' C10.keep)))) ⟨_, by simpa using l10.keeps C10.keep, hi'⟩ (by show A.depth + 1 + n < _; omega) hh fun s' b' D hLL hb => ?_⟩
        obtain ⟨B11, k11, C11, f11⟩ := C10.call D
        obtain ⟨rs, lr, hrs⟩ := hLL.fresh hb f11
        have hmem := orders_len n _ hlen
        have hrl : rs.length = _ := hrs.length
        generalize hrss : ordersN n (xs.take k ++ xs.drop (k + 1)) = rss at hO' hrs hmem hrl ⊢
        refine iterL C11 lr fun j s12 C12 => ?_
        refine comp_at C12 (fun Cc => src_list (x := "rest") lr hh (by rfl) (by kernel_rfl!) (by rfl)) (fun Cc m' own' s' Q' => self_list Cc m' own' s' Q')
          (fun i B ys => ∃ bs : List Addr, ys = bs.map Value.ref ∧ ILs s.heap.objs.size B bs ((rss.take i).map (x :: ·))) ⟨[], rfl, .nil⟩ ?_ ?_ ?_
        · rintro i Cc acc B12 m3 m4 ys s13 hacc hi12 k12 ⟨bs, rfl, hbs⟩ ⟨v, hv, rfl⟩ C13
          refine wpAny_tests_nil ?_
          rw [if_pos rfl]
          have hcell : CellAt vs (k + 1) = CellO (some (.int x tx)) := by show CellO vs[k]? = _; rw [hvx]
          rw [hcell] at C13
          refine wpAny_BinOp (list1E (ldCN C13 5 rfl (C13.newList rfl fun B14 s14 b14 k14 C14 l14 n14 => ?_)))
          have hv' : rs.map Value.ref = rs.map Value.ref := rfl
          obtain ⟨r, hr, rfl⟩ : ∃ r, rs[i]? = some r ∧ v = .ref r := by
            rw [List.getElem?_map] at hv
            cases hq : rs[i]? with
            | none => rw [hq] at hv; cases hv
            | some r => rw [hq] at hv; exact ⟨r, rfl, (Option.some.inj hv).symm⟩
          obtain ⟨ys, hys, hil, hlow⟩ := (hrs.keeps (k12.trans' k14)).at hr
          obtain ⟨us, hus, hui⟩ := hil
          refine ldN C14 upd_same (addL C14 (l14.keeps C14.keep) (hus.keeps C14.keep) (by have h1 := hui.length; have h2 := (hmem ys (List.mem_of_getElem? hys)).1; simp; omega) fun B15 s15 b15 k15 C15 l15 n15 => ?_)
          rw [← hcell] at C15
          refine ⟨B15, _, k14.trans' k15, C15, bs ++ [b15], by simp, ?_⟩
          have htk : rss.take (i + 1) = rss.take i ++ [ys] := by rw [List.take_add_one, hys]; rfl
          rw [htk, List.map_append]
          exact (hbs.keeps (k14.trans' k15)).append (.cons (Nat.le_trans nL (Nat.le_of_lt (Nat.lt_trans hacc n15))) ⟨.int x tx :: us, by simpa using l15, .cons _ _ hui⟩ .nil)
        · rintro i B12 ys hi12 ⟨bs, rfl, hbs⟩
          have := hbs.length
          simp at this ⊢
          omega
        · rintro B12 ys acc s13 hacc k12 ⟨bs, rfl, hbs⟩ C13
          obtain ⟨B14, k14, C14, _, hacc', na, rfl⟩ := C13.freeze
          have hl14 := hbs.length
          rw [List.take_of_length_le (by simp; omega)] at hbs hl14
          refine iaddL (pre := [(e, EnumO it (k + 1)), (it, ListIterO a (k + 1)), (L + 1, CellAt vs (k + 1))]) (post := []) C14 ⟨na, C14.keep _ _ hacc'⟩ (by have := hI.length; simp at hl14 ⊢; omega) fun s15 C15 => ?_
          refine stM C15 fun s16 C16 => ?_
          refine wpAny_execs_nil (wpAny_execs_nil ⟨B14, _, _, k7.trans' (k710.trans' (k11.trans' (k12.trans' k14))), C16, as ++ bs, by simp, ?_, upd_same, upd_ne (upd_ne hs (by decide)) (by decide)⟩)
          rw [ordersUpTo_succ, hxd, hc, if_neg Bool.false_ne_true, hrss]
          exact (hI.keeps (k7.trans' (k710.trans' (k11.trans' (k12.trans' k14))))).append (hbs.keeps k14)
    · rintro B' m' own' s5 kB ⟨as, rfl, hI, ho, hs⟩ C6
      rw [hvl] at hI
      obtain ⟨B7, k7, C7, _, ho7, n7, rfl⟩ := C6.freeze
      refine wpAny_execs_cons (wpAny_Return_some (ldN C7 ho ?_))
      exact h s5 o (C7.done (kB.trans' k7)) ⟨as, ⟨n7, C7.keep _ _ ho7⟩, hI.keeps (k7.trans' C7.keep)⟩ (Nat.le_trans nL (Nat.le_of_lt nO))
end
end Mine
end

section
open PySem PySem.Calls PySem.W PyProof.Rows
set_option maxRecDepth 100000
set_option autoImplicit false
set_option linter.all false
namespace Mine
/-! ## ranges -/
def RangeIterO (x left : Int) : Obj → Prop := fun o => o = { cls := .type "range_iterator", dict := none, data := .fields #[rawInt x, rawInt left, rawInt 1], slots := #[] }
theorem rangeOne (a b : Int) (hab : a ≤ b) : Builtin.Range.rangeSize a b 1 = b - a := by
  rw [rangeSize_one]; split <;> omega
section
variable {prog : Program} {w : World} {A : Around} {E : Value → Shared → Prop} {s s₀ : Shared} {B : Heap} {L : Addr} {m : Loc} {own : List Spec} {env : Env}

theorem callRange2 {a b : Int} {t u : Tok} {Q : Value → Shared → Prop} (C : Cx B s₀ L m own s)
    (h : ∀ B' s' r v, Keeps B B' → Cx B' s₀ L m own s' → IsRange B' r a b 1 t u v → Q (.ref r) s') : wpAny (model prog w) A (call (.type "range") [.int a t, .int b u]) Q E s := by
  refine call_range_2 ?_
  obtain ⟨B', k, C', o, ho, hP⟩ := (C.push { cls := .type "range", data := .fields #[.int a t, .int b u, .int 1 s.toks] } rfl (P := fun o => o = { cls := .type "range", data := .fields #[.int a t, .int b u, .int 1 s.toks] }) rfl).freeze
  exact h B' _ _ s.toks k (C'.tok _) (by rw [hP] at ho; exact ho)
theorem callRange1 {b : Int} {u : Tok} {Q : Value → Shared → Prop} (C : Cx B s₀ L m own s)
    (h : ∀ B' s' r t v, Keeps B B' → Cx B' s₀ L m own s' → IsRange B' r 0 b 1 t u v → Q (.ref r) s') : wpAny (model prog w) A (call (.type "range") [.int b u]) Q E s := by
  refine call_range_1 ?_
  obtain ⟨B', k, C', o, ho, hP⟩ := (C.push { cls := .type "range", data := .fields #[.int 0 s.toks, .int b u, .int 1 (s.toks + 1)] } rfl (P := fun o => o = { cls := .type "range", data := .fields #[.int 0 s.toks, .int b u, .int 1 (s.toks + 1)] }) rfl).freeze
  exact h B' _ _ _ _ k (C'.tok _) (by rw [hP] at ho; exact ho)
theorem iterR {r : Addr} {a b : Int} {t u v : Tok} {Q : Value → Shared → Prop} (C : Cx B s₀ L m own s) (hr : IsRange B r a b 1 t u v) (hab : a ≤ b) (hs : Builtin.Range.small a b 1 = true)
    (h : ∀ it s', Cx B s₀ L m ([(it, RangeIterO a (b - a))] ++ own) s' → Q (.ref it) s') : wpAny (model prog w) A (pyIter (.ref r)) Q E s := by
  refine wpAny_pyIter_range (C.keep _ _ hr) hs ?_
  rw [rangeOne a b hab]
  exact h _ _ (C.push { cls := .type "range_iterator", data := .fields #[rawInt a, rawInt (b - a), rawInt 1] } rfl (P := RangeIterO a (b - a)) rfl)
theorem src_range' {x : Str} {px : Pos} {i : Addr} {a : Int} {n : Nat} (hh : A.handled = none) (hk : env.scope.kind = .function) (hx : env.kindOf x = some .local) (hL : env.locals = L) :
    Src prog w A s₀ L env (.Name x px) (.ref i) (fun k => [(i, RangeIterO (a + k) (n - k))]) n (fun k m m' => ∃ t, m' = upd m x (.int (a + k) t)) B where
  item := by
    intro k B' m own s Q hk' kB C h
    obtain ⟨_, e, rfl⟩ := C.get 0 rfl
    refine wpAny_pyNext_range_item e (by omega) fun h' hi' hs' => ?_
    have C2 : Cx B' s₀ L m ([(i, RangeIterO (a + (k + 1 : Nat)) (n - (k + 1 : Nat)))] ++ own) { s with heap := h', toks := s.toks + 1 } :=
      C.upd 0 rfl hs' ⟨_, hi', by show _ = _; rw [show a + (k : Int) + 1 = a + ((k + 1 : Nat) : Int) by omega, show (n : Int) - k - 1 = n - ((k + 1 : Nat) : Int) by omega]⟩
    exact ⟨_, rfl, wpAny_pure (asN C2 (fun s' C3 => h _ s' ⟨_, rfl⟩ C3) hk hx hL)⟩
  done := by
    intro B' m own s Q kB C h
    obtain ⟨_, e, rfl⟩ := C.get 0 rfl
    refine wpAny_pyNext_range_end hh e (by omega) fun h' hs' => h _ ?_
    exact C.multi (chg := [(i, RangeIterO (a + n) (n - n))]) [] (h' := h') (t := s.toks) (List.nil_sublist _) (fun b o hb ho => hs' b o (fun q => hb (by simp [q])) ho) fun p hp => nomatch hp
theorem self_range {a : Int} {n : Nat} {i : Addr} (Cc : Addr) (m' : Loc) (own' : List Spec) (s' : Shared) (Q' : Value → Shared → Prop) (C : Cx B s₀ Cc m' ([(i, RangeIterO a n)] ++ own') s') (h : Q' (.ref i) s') : wpAny (model prog w) A (pyIter (.ref i)) Q' NoE s' := by
  obtain ⟨o, e, hP⟩ := C.get 0 rfl
  have hT : s'.TypeIs (.ref i) "range_iterator" := ⟨_, e, by rw [hP]⟩
  refine wpAny_pyIter_slot hT F.slot_range_iterator_iter (wpAny_call_entry F.slot_range_iterator_iter hT F.entry_range_iterator_iter ?_ (F.args_range_iterator_iter_1 _))
  show wpAny _ _ (ret (.ref i)) _ _ s'
  exact wpAny_pure ⟨_, rfl, "range_iterator", _, hT, F.slot_range_iterator_next.lookup, h⟩

/-- a list of two values unpacked -/
theorem unpack2 {l : Addr} {v1 v2 : Value} {elts : List PySem.Expr} {k : Nat} {pos : Pos} {Q : Unit → Shared → Prop} (C : Cx B s₀ L m own s) (hl : LsAt s.heap l #[v1, v2]) (hh : A.handled = none) 
    (hn : (assignEach elts env).length = 2) (hstar : (assignEach elts env).findIdx? (·.1) = none)
    (h : ∀ s', Cx B s₀ L m own s' → wpAny (model prog w) A (assignInOrder ((assignEach elts env).map (·.2)) [v1, v2]) Q E s') :
    wpAny (model prog w) A (assign (.Tuple elts k pos) env (.ref l)) Q E s := by
  rw [assign_Tuple]
  refine wpAny_bind (wpAny_standAt ?_)
  unfold unpack
  rw [hn, hstar]
  exact wpAny_bind (wpAny_holding (kun_itemsOf (items := #[v1, v2]) hh hl.isList fun h' hx' => h _ (C.ext (s' := { s with heap := h' }) (keeps_fresh hx') (Gx.heap (t := s.toks)))))
end
end Mine
end

section
open PySem PySem.Calls PySem.W PyProof.Rows
set_option maxRecDepth 100000
set_option autoImplicit false
set_option linter.all false
namespace Mine
section
variable {prog : Program} {w : World} {A : Around} {E : Value → Shared → Prop} {s s₀ : Shared} {B : Heap} {L : Addr} {m : Loc} {own : List Spec} {env : Env} {a b : Int} {t u : Tok} {Q : Value → Shared → Prop}
theorem kI {x : Nat} {p : Pos} (C : Cx B s₀ L m own s) (h : ∀ s' t, Cx B s₀ L m own s' → Q (.int a t) s') : wpAny (model prog w) A (eval (.Constant (.int a) x p) env) Q E s := wpAny_Constant_int (h _ _ (C.tok _))
theorem addI (C : Cx B s₀ L m own s) (h : ∀ s' t, Cx B s₀ L m own s' → Q (.int (a + b) t) s') : wpAny (model prog w) A (binaryOp .Add (.int a t) (.int b u)) Q E s := add_int (h _ _ (C.tok _))
theorem subI (C : Cx B s₀ L m own s) (h : ∀ s' t, Cx B s₀ L m own s' → Q (.int (a - b) t) s') : wpAny (model prog w) A (binaryOp .Sub (.int a t) (.int b u)) Q E s := PyProof.Rows.sub_int (h _ _ (C.tok _))
theorem modI (C : Cx B s₀ L m own s) (hb : b ≠ 0) (h : ∀ s' t, Cx B s₀ L m own s' → Q (.int (a.fmod b) t) s') : wpAny (model prog w) A (binaryOp .Mod (.int a t) (.int b u)) Q E s := PyProof.Rows.mod_int hb (h _ _ (C.tok _))
theorem fdivI (C : Cx B s₀ L m own s) (hb : b ≠ 0) (hs : b.natAbs < 1073741824) (h : ∀ s' t, Cx B s₀ L m own s' → Q (.int (a.fdiv b) t) s') : wpAny (model prog w) A (binaryOp .FloorDiv (.int a t) (.int b u)) Q E s := floordiv_int hb (h _ _ (C.tok _)) (Or.inl (PyProof.noPylong_small hs))
theorem negI (C : Cx B s₀ L m own s) (h : ∀ s' t, Cx B s₀ L m own s' → Q (.int (-a) t) s') : wpAny (model prog w) A (unaryOp .USub (.int a t)) Q E s := neg_int (h _ _ (C.tok _))
theorem iaddI (C : Cx B s₀ L m own s) (h : ∀ s' t, Cx B s₀ L m own s' → Q (.int (a + b) t) s') : wpAny (model prog w) A (inplaceOp .Add (.int a t) (.int b u)) Q E s := iadd_int (h _ _ (C.tok _))
theorem isubI (C : Cx B s₀ L m own s) (h : ∀ s' t, Cx B s₀ L m own s' → Q (.int (a - b) t) s') : wpAny (model prog w) A (inplaceOp .Sub (.int a t) (.int b u)) Q E s := isub_int (h _ _ (C.tok _))
/-- an item of a list at a written place: the list lies in what is kept -/
theorem ixC {value slice : PySem.Expr} {l : Addr} {items : Array Value} {k : Int} {t : Tok} {x : Value} (C : Cx B s₀ L m own s) (hl : LsAt B l items) (h0 : 0 ≤ k) (hb : k < 2 ^ 63) (hx : items[k.toNat]? = some x) (h : ∀ s', Cx B s₀ L m own s' → Q x s')
    (hs : subscripted slice false (.ref l) (.int k t) = operate [.ref l, .int k t] (getItem (.ref l) (.int k t)) := by rfl) :
    wpAny (model prog w) A (subscriptTail value slice (.ref l) (.int k t)) Q E s := ixL (hl.keeps C.keep).isList h0 hb hx (h _ C) hs
end
end Mine
end

section
open PySem PySem.Calls PySem.W PyProof.Rows
set_option maxRecDepth 100000
set_option autoImplicit false
set_option linter.all false
namespace Mine
def sizesOf (u d : Int) (n : Nat) : List Int := ((List.range n).map fun k : Nat => ((1 : Int) + (k : Int))).filter fun z => u.fmod z == 0 && d.fmod z == 0
def unitOf (u d : Int) : Int := (sizesOf u d 5).foldl max 0
def pairSteps (u d : Int) : List Int := List.replicate u.toNat (d.fdiv (unitOf u d)) ++ List.replicate d.toNat (-(u.fdiv (unitOf u d)))
def foldSteps (a b c : Int) : List Int := [a, b, -(1 + c.fmod (a + b - 1)), 1 + c.fmod (a + b - 1) - (a + b)]
def stepsOf (ds : List Int) : List Int :=
  if (ds.getD 0 0).fmod 3 = 0 then pairSteps ((pairTab.getD (ds.getD 1 0 % 9).toNat []).getD 0 0) ((pairTab.getD (ds.getD 1 0 % 9).toNat []).getD 1 0)
  else foldSteps (1 + (ds.getD 1 0).fmod 4) (1 + (ds.getD 2 0).fmod 4) (ds.getD 3 0)

theorem sizesOf_succ (u d : Int) (n : Nat) : sizesOf u d (n + 1) = sizesOf u d n ++ (if (u.fmod (1 + n) == 0 && d.fmod (1 + n) == 0) = true then [(1 + n : Int)] else []) := by
  unfold sizesOf
  rw [List.range_succ, List.map_append, List.filter_append]
  congr 1
  simp only [List.map_cons, List.map_nil, List.filter_cons, List.filter_nil]
theorem foldl_max_le (M : Int) : ∀ (l : List Int) (acc : Int), acc ≤ M → (∀ a ∈ l, a ≤ M) → l.foldl max acc ≤ M
  | [], _, h, _ => h
  | x :: l, acc, h, hb => foldl_max_le M l _ (Int.max_le.mpr ⟨h, hb x (.head _)⟩) fun a ha => hb a (.tail _ ha)
theorem le_foldl_max (M : Int) : ∀ (l : List Int) (acc : Int), M ≤ acc ∨ M ∈ l → M ≤ l.foldl max acc
  | [], _, h => h.elim id fun x => nomatch x
  | x :: l, acc, h => le_foldl_max M l _ (by
      rcases h with h | h
      · exact .inl (Int.le_trans h (Int.le_max_left ..))
      · rcases List.mem_cons.mp h with rfl | h
        · exact .inl (Int.le_max_right ..)
        · exact .inr h)
theorem unit_eq {l : List Int} {M : Int} (hm : M ∈ l) (hb : ∀ a ∈ l, a ≤ M) (h0 : 0 ≤ M) : M = l.foldl max 0 := Int.le_antisymm (le_foldl_max M l 0 (.inr hm)) (foldl_max_le M l 0 h0 hb)
theorem mem_sizes {u d z : Int} {n : Nat} (h : z ∈ sizesOf u d n) : 1 ≤ z ∧ z ≤ n := by
  obtain ⟨h, _⟩ := List.mem_filter.mp h
  obtain ⟨k, hk, rfl⟩ := List.mem_map.mp h
  have := List.mem_range.mp hk
  omega
theorem one_sizes (u d : Int) (n : Nat) : 1 ∈ sizesOf u d (n + 1) := List.mem_filter.mpr ⟨List.mem_map.mpr ⟨0, List.mem_range.mpr (by omega), rfl⟩, by simp⟩
theorem sizes_len (u d : Int) (n : Nat) : (sizesOf u d n).length ≤ n := by
  have := List.length_filter_le (fun z => u.fmod z == 0 && d.fmod z == 0) ((List.range n).map fun k : Nat => ((1 : Int) + (k : Int)))
  unfold sizesOf
  simpa using this
theorem pair_cases (k : Nat) (h : k < 9) : ∃ u d : Int, pairTab.getD k [] = [u, d] ∧ 1 ≤ u ∧ u ≤ 5 ∧ 1 ≤ d ∧ d ≤ 5 := by
  match k, h with
  | 0, _ => exact ⟨_, _, rfl, by decide⟩
  | 1, _ => exact ⟨_, _, rfl, by decide⟩
  | 2, _ => exact ⟨_, _, rfl, by decide⟩
  | 3, _ => exact ⟨_, _, rfl, by decide⟩
  | 4, _ => exact ⟨_, _, rfl, by decide⟩
  | 5, _ => exact ⟨_, _, rfl, by decide⟩
  | 6, _ => exact ⟨_, _, rfl, by decide⟩
  | 7, _ => exact ⟨_, _, rfl, by decide⟩
  | 8, _ => exact ⟨_, _, rfl, by decide⟩
theorem intsRep (n : Nat) (x : Int) (t : Tok) : IntsAre (List.replicate n (.int x t)) (List.replicate n x) := by
  induction n with
  | zero => exact .nil
  | succ n ih => exact .cons _ _ ih
theorem IntsAre.two {vs : List Value} {a b : Int} (h : IntsAre vs [a, b]) : ∃ t u, vs = [.int a t, .int b u] := by
  cases h with
  | cons _ t h => cases h with
    | cons _ u h => cases h; exact ⟨t, u, rfl⟩

section
variable {prog : Program} {w : World} {A : Around} {E : Value → Shared → Prop} {s : Shared}
set_option maxHeartbeats 1000000 in
theorem steps_spec {a : Addr} {d0 d1 d2 d3 : Int} {ds : List Int} {Q : Value → Shared → Prop} (G : GL s.heap) (hl : IL s.heap a (d0 :: d1 :: d2 :: d3 :: ds)) (h0 : 0 ≤ d0) (h1 : 0 ≤ d1) (h2 : 0 ≤ d2) (h3 : 0 ≤ d3) (hd : A.depth + 1 < recursionLimit) (hh : A.handled = none)
    (h : ∀ s' b, Done s s' → IL s'.heap b (stepsOf (d0 :: d1 :: d2 :: d3 :: ds)) → s.heap.objs.size ≤ b → Q (.ref b) s') : wpAny (model prog w) A (call (.ref 79) [.ref a]) Q E s := by
  obtain ⟨pm, cd, hf⟩ := G.fSteps
  refine callDefC G.lim hf (by omega) (BindsTo.of_eq (binds := [("draws", .ref a)]) (by kernel_rfl!)) fun L s₁ nL C => ?_
  have e : (defAt 13).2.1 = (defAt 13).2.1 := rfl
  conv at e => lhs; whnf
  rw [← e]; clear e
  obtain ⟨vs, hl, hi⟩ := hl
  obtain ⟨t0, hv0⟩ := intsAre_get (i := 0) hi rfl
  obtain ⟨t1, hv1⟩ := intsAre_get (i := 1) hi rfl
  obtain ⟨t2, hv2⟩ := intsAre_get (i := 2) hi rfl
  obtain ⟨t3, hv3⟩ := intsAre_get (i := 3) hi rfl
  have C : Cx s.heap s L (bindL (envAtC 13 L 79 cd).kindOf [("draws", .ref a)] fun _ => none) [(L + 2, CellO none), (L + 1, CellO none)] s₁ := C
  have hst : bindL (envAtC 13 L 79 cd).kindOf [("draws", .ref a)] (fun _ => none) "draws" = some (.ref a) := by rfl
  generalize bindL (envAtC 13 L 79 cd).kindOf [("draws", .ref a)] (fun _ => none) = m0 at C hst
  refine wpAny_execs_cons ?_
  refine wpAny_If (wpAny_isTrue_Compare1 (wpAny_BinOp (Subscript_ (ldN C hst (wpAny_Constant_int (ixL (hl.keeps C.keep).isList (by decide) (by decide) (by simpa using hv0) (wpAny_Constant_int (mod_int (by decide) (wpAny_Constant_int (eq_int (wpAny_truthy_bool ?_)))))))))))
  have C1 := C.tok (s₁.toks + 1 + 1 + 1 + 1)
  by_cases hz : d0.fmod 3 = 0
  · rw [if_pos (by simpa using hz)]
    refine wpAny_execs_cons (Assign_Tuple (callE1 (B := s.heap) G.fPair.choose_spec.choose_spec (ldG (G.keeps C1.keep) 7 rfl ⟨rfl, Subscript_ (ldN C1 hst (wpAny_Constant_int (ixL (hl.keeps C1.keep).isList (by decide) (by decide) (by simpa using hv1) ⟨C1.keep, ?_⟩)))⟩)))
    have hm : (d1 % 9).toNat < 9 := by have := Int.emod_nonneg d1 (show (9 : Int) ≠ 0 by decide); have := Int.emod_lt_of_pos d1 (show (0 : Int) < 9 by decide); omega
    obtain ⟨u, d, hp, hu1, hu5, hd1, hd5⟩ := pair_cases _ hm
    have C2 := C1.tok (s₁.toks + 1 + 1 + 1 + 1 + 1)
    refine pair_spec (G.keeps C2.keep) h1 hd fun s3 b D hI hb => ?_
    rw [hp] at hI
    obtain ⟨B3, k3, C3, f3⟩ := C2.call D
    obtain ⟨ps, lp, ip⟩ := hI.fresh hb f3
    obtain ⟨tu, td, rfl⟩ := IntsAre.two ip
    refine unpack2 C3 (lp.keeps C3.keep) hh (by rfl) (by rfl) fun s4 C4 => ?_
    refine wpAny_bind (wpAny_holding (asCN C4 1 rfl fun s5 C5 => ?_))
    refine wpAny_bind (wpAny_holding (asCN C5 0 rfl fun s6 C6 => ?_))
    refine wpAny_pure ?_
    have C6 : Cx B3 s L m0 [(L + 2, CellO (some (.int d td))), (L + 1, CellO (some (.int u tu)))] s6 := C6
    refine wpAny_execs_cons ?_
    refine wpAny_Assign_Name (callB1 (ldB (G.keeps (k3.trans' C6.keep)) 22 6 rfl rfl ⟨rfl, listComp [("ups", L + 1), ("downs", L + 2)] ?_⟩))
    refine callT2 (ldB (G.keeps (k3.trans' C6.keep)) 17 1 rfl rfl ⟨rfl, wpAny_Constant_int (wpAny_Constant_int (callRange2 ((C6.tok _).tok _) fun B7 s7 r v k7 C7 hr => iterR C7 hr (by decide) (by decide) fun j s8 C8 => ?_))⟩)
    refine comp_at C8 (n := 5) (fun Cc => src_range' (a := 1) (x := "size") hh (by rfl) (by kernel_rfl!) (by rfl)) (fun Cc m' own' s' Q' => self_range Cc m' own' s' Q')
      (fun k B ys => IntsAre ys (sizesOf u d k)) .nil ?_ ?_ ?_
    · rintro k Cc acc B9 m1 m2 ys s9 hC hk k9 hi9 ⟨t, rfl⟩ C9
      have hne : (1 : Int) + (k : Int) ≠ 0 := by omega
      refine wpAny_tests_one (wpAny_isTrue_BoolOp (wpAny_allTrue_And_cons (wpAny_isTrue_Compare1 (wpAny_BinOp (ldCN C9 4 rfl (ldN C9 upd_same (mod_int hne (wpAny_Constant_int (eq_int (wpAny_truthy_bool ?_))))))))))
      have C10 := C9.tok (s9.toks + 1 + 1)
      have hsc := sizesOf_succ u d k
      cases hq : u.fmod (1 + k) == 0 with
      | false =>
        rw [if_neg Bool.false_ne_true, if_neg Bool.false_ne_true]
        rw [hq, Bool.false_and, if_neg Bool.false_ne_true, List.append_nil] at hsc
        exact ⟨B9, _, keeps_refl _, C10, by rw [hsc]; exact hi9⟩
      | true =>
        rw [if_pos rfl]
        refine wpAny_allTrue_And_cons (wpAny_isTrue_Compare1 (wpAny_BinOp (ldCN C10 3 rfl (ldN C10 upd_same (mod_int hne (wpAny_Constant_int (eq_int (wpAny_truthy_bool ?_))))))))
        have C11 := C10.tok (s9.toks + 1 + 1 + 1 + 1)
        rw [hq, Bool.true_and] at hsc
        cases hq2 : d.fmod (1 + k) == 0 with
        | false =>
          rw [if_neg Bool.false_ne_true, if_neg Bool.false_ne_true]
          rw [hq2, if_neg Bool.false_ne_true, List.append_nil] at hsc
          exact ⟨B9, _, keeps_refl _, C11, by rw [hsc]; exact hi9⟩
        | true =>
          rw [if_pos rfl]
          refine wpAny_allTrue_And_nil ?_
          rw [if_pos rfl]
          rw [hq2, if_pos rfl] at hsc
          refine ldN C11 upd_same ⟨B9, _, keeps_refl _, C11, ?_⟩
          rw [hsc]
          exact hi9.append (.cons _ _ .nil)
    · intro k B9 ys hk hi9
      have := hi9.length
      have := sizes_len u d k
      omega
    · intro B9 ys acc s9 hacc k9 hi9 C9
      obtain ⟨B10, k10, C10, _, ho10, n10, rfl⟩ := C9.freeze
      refine maxL hh ⟨ys, ⟨n10, C10.keep _ _ ho10⟩, hi9⟩ (List.length_pos_of_mem (one_sizes u d 4)) fun s11 tM M D11 hM hMb => ?_
      obtain ⟨B11, k11, C11, f11⟩ := C10.call D11
      have hM1 := (mem_sizes hM).1
      have hM5 := (mem_sizes hM).2
      have hMe : M = unitOf u d := unit_eq hM hMb (by omega)
      refine stM C11 fun s12 C12 => ?_
      refine wpAny_execs_cons (wpAny_Return_some ?_)
      refine wpAny_BinOp (wpAny_BinOp (list1E (wpAny_BinOp (ldCN C12 0 rfl (ldN C12 upd_same (floordiv_int (by omega) ((C12.tok (s12.toks + 1)).newList rfl fun B13 s13 b13 k13 C13 l13 n13 => ?_) (Or.inl (PyProof.noPylong_small (by omega)))))))))
      refine ldCN C13 1 rfl (mulL1 C13 (l13.keeps C13.keep) (by omega) (by omega) fun B14 s14 b14 k14 C14 l14 n14 => ?_)
      refine wpAny_BinOp (list1E (wpAny_UnaryOp (wpAny_BinOp (ldCN C14 1 rfl (ldN C14 upd_same (floordiv_int (by omega) (neg_int ((C14.tok (s14.toks + 1 + 1)).newList rfl fun B15 s15 b15 k15 C15 l15 n15 => ?_)) (Or.inl (PyProof.noPylong_small (by omega)))))))))
      refine ldCN C15 0 rfl (mulL1 C15 (l15.keeps C15.keep) (by omega) (by omega) fun B16 s16 b16 k16 C16 l16 n16 => ?_)
      refine addL C16 (l14.keeps (k15.trans' (k16.trans' C16.keep))) (l16.keeps C16.keep) (by simp; omega) fun B17 s17 b17 k17 C17 l17 n17 => ?_
      have hst : stepsOf (d0 :: d1 :: d2 :: d3 :: ds) = pairSteps u d := by
        show (if d0.fmod 3 = 0 then _ else _) = _
        rw [if_pos hz]
        show pairSteps ((pairTab.getD (d1 % 9).toNat []).getD 0 0) ((pairTab.getD (d1 % 9).toNat []).getD 1 0) = _
        rw [hp]; rfl
      rw [hst] at h
      unfold pairSteps at h
      rw [← hMe] at h
      exact h s17 b17 (C17.done (k3.trans' (k7.trans' (k9.trans' (k10.trans' (k11.trans' (k13.trans' (k14.trans' (k15.trans' (k16.trans' k17)))))))))) ⟨List.replicate u.toNat _ ++ List.replicate d.toNat _, by have := l17.keeps C17.keep; rw [List.append_toArray] at this; exact this, (intsRep _ _ _).append (intsRep _ _ _)⟩ (Nat.le_trans nL (Nat.le_of_lt n17))
  · rw [if_neg (by simpa using hz)]
    refine wpAny_execs_nil (wpAny_execs_cons ?_)
    have C1' : Cx s.heap s L m0 [(L + 2, CellO none), (L + 1, CellO none)] _ := C1
    refine wpAny_Assign_Name (list2E (wpAny_BinOp (kI C1' fun s2 t2 C2 => wpAny_BinOp (Subscript_ (ldN C2 hst (kI C2 fun s3 t3 C3 => ixC C3 hl (by decide) (by decide) (by simpa using hv1) fun s4 C4 => kI C4 fun s5 t5 C5 => modI C5 (by decide) fun s6 t6 C6 => addI C6 fun s7 t7 C7 => ?_))))))
    refine wpAny_BinOp (kI C7 fun s2 t2 C2 => wpAny_BinOp (Subscript_ (ldN C2 hst (kI C2 fun s3 t3 C3 => ixC C3 hl (by decide) (by decide) (by simpa using hv2) fun s4 C4 => kI C4 fun s5 t5 C5 => modI C5 (by decide) fun s6 t6 C6 => addI C6 fun s7 t7 C7 => ?_))))
    refine C7.newList rfl fun B4 s4 b4 k4 C4 l4 n4 => ?_
    refine stCM C4 1 rfl fun s5 C5 => ?_
    have C5 : Cx B4 s L m0 [(L + 2, CellO none), (L + 1, CellO (some (.ref b4)))] s5 := C5
    have hl5 := hl.keeps k4
    have q1 : 0 ≤ d1.fmod 4 ∧ d1.fmod 4 < 4 := ⟨Int.fmod_nonneg h1 (by decide), Int.fmod_lt_of_pos _ (by decide)⟩
    have q2 : 0 ≤ d2.fmod 4 ∧ d2.fmod 4 < 4 := ⟨Int.fmod_nonneg h2 (by decide), Int.fmod_lt_of_pos _ (by decide)⟩
    generalize hA : (1 : Int) + d1.fmod 4 = ua at l4
    generalize hB : (1 : Int) + d2.fmod 4 = ub at l4
    refine wpAny_execs_cons (wpAny_Assign_Name (wpAny_BinOp (kI C5 fun s6 t6 C6 => wpAny_BinOp (Subscript_ (ldN C6 hst (kI C6 fun s7 t7 C7 => ixC C7 hl5 (by decide) (by decide) (by simpa using hv3) fun s8 C8 => wpAny_BinOp (callB1 (ldB (G.keeps (k4.trans' C8.keep)) 21 5 rfl rfl ⟨rfl, ldCN C8 1 rfl ?_⟩))))))))
    have hIL : IL B4 b4 [ua, ub] := ⟨_, l4, .cons _ _ (.cons _ _ .nil)⟩
    have hsum : [ua, ub].sum = ua + ub := by simp
    refine sumL hh (hIL.keeps C8.keep) (by intro x hx; simp at hx; omega) (by simp) fun s9 t9 D9 => ?_
    rw [hsum]
    have C9 := C8.ext D9.keep D9.g
    refine kI C9 fun s10 t10 C10 => subI C10 fun s11 t11 C11 => modI C11 (by omega) fun s12 t12 C12 => addI C12 fun s13 t13 C13 => stM C13 fun s14 C14 => ?_
    refine wpAny_execs_cons (wpAny_Return_some (wpAny_BinOp (ldCN C14 1 rfl (list2E (wpAny_UnaryOp (ldN C14 upd_same (negI C14 fun s15 t15 C15 => wpAny_BinOp (ldN C15 upd_same (callB1 (ldB (G.keeps (k4.trans' C15.keep)) 21 5 rfl rfl ⟨rfl, ldCN C15 1 rfl ?_⟩))))))))))
    refine sumL hh (hIL.keeps C15.keep) (by intro x hx; simp at hx; omega) (by simp) fun s16 t16 D16 => ?_
    rw [hsum]
    have C16 := C15.ext D16.keep D16.g
    refine subI C16 fun s17 t17 C17 => C17.newList rfl fun B18 s18 b18 k18 C18 l18 n18 => ?_
    refine addL C18 (l4.keeps (k18.trans' C18.keep)) (l18.keeps C18.keep) (by simp) fun B19 s19 b19 k19 C19 l19 n19 => ?_
    have hst : stepsOf (d0 :: d1 :: d2 :: d3 :: ds) = foldSteps ua ub d3 := by
      show (if d0.fmod 3 = 0 then _ else foldSteps (1 + d1.fmod 4) (1 + d2.fmod 4) d3) = _
      rw [if_neg hz, hA, hB]
    rw [hst] at h
    exact h s19 b19 (C19.done (k4.trans' (k18.trans' k19))) ⟨_, l19.keeps C19.keep, .cons _ _ (.cons _ _ (.cons _ _ (.cons _ _ .nil)))⟩ (Nat.le_trans nL (Nat.le_of_lt n19))
end
end Mine
end

section
open PySem PySem.Calls PySem.W PyProof.Rows
set_option maxRecDepth 100000
set_option autoImplicit false
set_option linter.all false
namespace Mine
section
variable {prog : Program} {w : World} {A : Around} {E : Value → Shared → Prop} {s s₀ : Shared} {B : Heap} {L : Addr} {m : Loc} {own : List Spec} {env : Env}
theorem subSlice {value : PySem.Expr} {lower upper step : Option PySem.Expr} {p pos : Pos} {T id : String} {Q : Value → Shared → Prop}
    (hl : typeLookup (.type T) "__getitem__" = pure (some (.builtin id)))
    (h : wpAny (model prog w) A (eval value env) (fun o s₁ => wpAny (model prog w) A (eval (.Slice lower upper step p) env) (fun i s₂ => s₂.TypeIs o T ∧ wpAny (model prog w) A (getItem o i) Q E s₂) E s₁) E s) :
    wpAny (model prog w) A (eval (.Subscript value (.Slice lower upper step p) pos) env) Q E s := by
  rw [eval_Subscript]
  refine wpAny_bind (wpAny_mono h (fun o s₁ h₁ => wpAny_bind (wpAny_holding (wpAny_mono h₁ (fun i s₂ h₂ => wpAny_bind (wpAny_standAt ?_)) fun _ _ x => x)))
    fun _ _ x => x)
  cases step with
  | none =>
    have fin : wpAny (model prog w) A (operate [i, o] (getItem o i)) (fun r s₃ => wpAny (model prog w) A (letTemporaryGo value o r >>= fun _ => pure r) Q E s₃) E s₂ :=
      wpAny_operating (wpAny_mono h₂.2 (fun r s₃ h₃ => wpAny_bind (wpAny_letTemporaryGo (wpAny_pure h₃))) fun _ _ x => x)
    refine wpAny_bind ?_
    rw [getitemInPython_of_ne h₂.1.not_modules]
    refine wpAny_bind (wpAny_specialOf h₂.1 hl ?_)
    first
      | exact wpAny_pure (wpAny_bind fin)
      | exact wpAny_bind (wpAny_pure (wpAny_bind fin))
      | exact wpAny_bind fin
  | some st =>
    have fin : wpAny (model prog w) A (operate [o, i] (getItem o i)) (fun r s₃ => wpAny (model prog w) A (letTemporaryGo value o r >>= fun _ => pure r) Q E s₃) E s₂ :=
      wpAny_operating (wpAny_mono h₂.2 (fun r s₃ h₃ => wpAny_bind (wpAny_letTemporaryGo (wpAny_pure h₃))) fun _ _ x => x)
    refine wpAny_bind ?_
    rw [getitemInPython_of_ne h₂.1.not_modules]
    refine wpAny_bind (wpAny_specialOf h₂.1 hl ?_)
    first
      | exact wpAny_pure (wpAny_bind fin)
      | exact wpAny_bind (wpAny_pure (wpAny_bind fin))
      | exact wpAny_bind fin
/-- a cut of a list, with a step or without -/
theorem cutS {value : PySem.Expr} {lower upper step : Option PySem.Expr} {p pos : Pos} {Q : Value → Shared → Prop}
    (h : wpAny (model prog w) A (eval value env) (fun o s₁ => wpAny (model prog w) A (evalPart lower env) (fun vl s₂ => wpAny (model prog w) A (evalPart upper env) (fun vu s₃ => wpAny (model prog w) A (evalPart step env) (fun vs s₄ =>
      ∃ B m own l items lo hi st, o = .ref l ∧ Cx B s₀ L m own s₄ ∧ LsAt s₄.heap l items ∧ items.size ≤ 1000 ∧ IsPart vl lo ∧ IsPart vu hi ∧ IsPart vs st ∧ st ≠ some 0 ∧
        ∀ B' s' a, Keeps B B' → Cx B' s₀ L m own s' → LsAt B' a (slicePick items lo hi st) → L < a → Q (.ref a) s') E s₃) E s₂) E s₁) E s) :
    wpAny (model prog w) A (eval (.Subscript value (.Slice lower upper step p) pos) env) Q E s := by
  refine subSlice (T := "list") list_getitem_lookup (wpAny_mono h (fun o s₁ h₁ => wpAny_Slice (wpAny_mono h₁ (fun vl s₂ h₂ => wpAny_mono h₂ (fun vu s₃ h₃ => wpAny_mono h₃ (fun vs s₄ h₄ => ?_) fun _ _ e => e) fun _ _ e => e) fun _ _ e => e)) fun _ _ e => e)
  obtain ⟨B, m, own, l, items, lo, hi, st, rfl, C, hl, hsz, pl, pu, ps, h0, hQ⟩ := h₄
  refine ⟨(hl.isList.push _).typeIs, wpAny_getItem_list_slice (hl.isList.push _) (Heap.IsSliceOf.new ..) pl pu ps h0 ?_ (Nat.le_trans hsz (by decide))⟩
  have C1 := C.pushAny { cls := .type "slice", data := .fields #[vl, vu, vs] }
  obtain ⟨B', k, C', _, ho, n, rfl⟩ := (C1.push { cls := .type "list", data := .seq (slicePick items lo hi st) } rfl (P := ListO (slicePick items lo hi st)) ⟨0, rfl⟩).freeze
  have hz : (s₄.heap.push { cls := .type "slice", data := .fields #[vl, vu, vs] }).objs.size = s₄.heap.objs.size + 1 := Heap.size_push ..
  exact hQ B' _ _ k C' ⟨n, ho⟩ (by rw [hz]; exact Nat.lt_succ_of_lt C.ltL)

theorem Cx.locs (C : Cx B s₀ L m own s) : ∃ m0, m0 = m ∧ Cx B s₀ L m0 own s := ⟨m, rfl, C⟩
theorem kS {x : Str} {k : Nat} {p : Pos} {Q : Value → Shared → Prop} (C : Cx B s₀ L m own s) (h : ∀ s' t, Cx B s₀ L m own s' → Q (.str x t) s') : wpAny (model prog w) A (eval (.Constant (.str x) k p) env) Q E s := wpAny_Constant_str (h _ _ (C.tok _))
end

/-! ## texts -/
def txt (l : List Nat) : Str := ⟨l.toArray⟩
theorem txt_append (a b : List Nat) : txt a ++ txt b = txt (a ++ b) := by
  show (⟨a.toArray ++ b.toArray⟩ : Str) = _
  rw [List.append_toArray]; rfl
theorem txt_len (a : List Nat) : (txt a).length = a.length := by show a.toArray.size = _; simp
theorem flat_rep {α : Type} (v : α) : ∀ n : Nat, List.foldl (fun x1 x2 : Array α => x1 ++ x2) #[] (List.replicate n #[v]) = (List.replicate n v).toArray := by
  have key : ∀ (n : Nat) (a : Array α), List.foldl (fun x1 x2 : Array α => x1 ++ x2) a (List.replicate n #[v]) = a ++ (List.replicate n v).toArray := by
    intro n
    induction n with
    | zero => intro a; simp
    | succ n ih => intro a; rw [List.replicate_succ, List.foldl_cons, ih, List.replicate_succ]; apply Array.ext'; simp
  intro n
  rw [key]; simp
theorem mul_txt (c : Nat) (n : Int) : Txt.mul (txt [c]) n = txt (List.replicate n.toNat c) := by
  unfold Txt.mul
  split
  · rename_i h; rw [show n.toNat = 0 by omega]; rfl
  · split
    · rename_i h1 h2
      have : n = 1 := by simpa [txt_len] using h2
      subst this; rfl
    · exact congrArg Str.mk (flat_rep c n.toNat)
theorem mulOk_txt (c : Nat) (n : Int) (h : n ≤ 1000) (h' : -1000 ≤ n) : MulOk (txt [c]) n := by
  refine ⟨by simp; omega, fun h1 _ => ?_, fun h1 _ => ?_⟩
  · have : (1 : Int) ≤ (2 ^ 63 - 1) / n := by
      refine (Int.le_ediv_iff_mul_le (by omega)).mpr ?_
      omega
    rw [txt_len]; exact Int.not_lt.mpr this
  · rw [txt_len]; show decide _ = false; simp [sizeLine]; omega
theorem join_txt : ∀ l : List (List Nat), Txt.join Str.empty (l.map txt) = txt l.flatten := by
  intro l
  show Builtin.Str.glued _ _ = _
  rw [StrLaws.glued_eq_join]
  induction l with
  | nil => rfl
  | cons a l ih =>
    cases l with
    | nil => show txt a = _; simp
    | cons b l =>
      show txt a ++ Str.empty ++ Str.join _ ((b :: l).map txt) = _
      rw [ih, show (Str.empty : Str) = txt [] from rfl, txt_append, txt_append]; simp

section
variable {prog : Program} {w : World} {A : Around} {E : Value → Shared → Prop} {s s₀ : Shared} {B : Heap} {L : Addr} {m : Loc} {own : List Spec} {env : Env}
theorem mulS {c : Nat} {t u : Tok} {n : Int} {Q : Value → Shared → Prop} (C : Cx B s₀ L m own s) (h1 : n ≤ 1000) (h2 : -1000 ≤ n) (h : ∀ s' t, Cx B s₀ L m own s' → Q (.str (txt (List.replicate n.toNat c)) t) s') :
    wpAny (model prog w) A (binaryOp .Mult (.str (txt [c]) t) (.int n u)) Q E s := by
  refine SB.mul (mulOk_txt c n h1 h2) fun t' k => ?_
  rw [mul_txt]
  exact h _ _ (C.tok k)
end
end Mine
end

section
open PySem PySem.Calls PySem.W PyProof.Rows
set_option maxRecDepth 100000
set_option autoImplicit false
set_option linter.all false
namespace Mine
def partOf (x : Int) : List Nat := if 0 < x then List.replicate x.toNat 40 else List.replicate (-x).toNat 41
def escTab : List (List Nat) := [[], [92, 41], [92, 40], [92, 92]]
def textOf (xs : List Int) (d : Int) : List Nat :=
  ((xs.map partOf).take ((d.fdiv 4).fmod xs.length).toNat ++ [escTab.getD (d.fmod 4).toNat []] ++ (xs.map partOf).drop ((d.fdiv 4).fmod xs.length).toNat).flatten
abbrev TxtsAre (vs : List Value) (ls : List (List Nat)) : Prop := StrsAre vs (ls.map txt)
theorem strsAppend : ∀ {vs us : List Value} {xs ys : List Str}, StrsAre vs xs → StrsAre us ys → StrsAre (vs ++ us) (xs ++ ys)
  | _, _, _, _, .nil, h => h
  | _, _, _, _, .cons y t r, h => .cons y t (strsAppend r h)
theorem strsTake : ∀ {vs : List Value} {xs : List Str} (k : Nat), StrsAre vs xs → StrsAre (vs.take k) (xs.take k)
  | _, _, 0, _ => by simpa using .nil
  | _, _, k + 1, .nil => by simpa using .nil
  | _, _, k + 1, .cons y t r => .cons y t (strsTake k r)
theorem strsDrop : ∀ {vs : List Value} {xs : List Str} (k : Nat), StrsAre vs xs → StrsAre (vs.drop k) (xs.drop k)
  | _, _, 0, h => by simpa using h
  | _, _, k + 1, .nil => by simpa using .nil
  | _, _, k + 1, .cons y t r => strsDrop k r
theorem strsLen : ∀ {vs : List Value} {xs : List Str}, StrsAre vs xs → vs.length = xs.length
  | _, _, .nil => rfl
  | _, _, .cons y t r => by simp [strsLen r]
theorem partOf_len (x : Int) (h : -100 ≤ x ∧ x ≤ 100) : (partOf x).length ≤ 100 := by
  unfold partOf; split <;> simp <;> omega

section
variable {prog : Program} {w : World} {A : Around} {E : Value → Shared → Prop} {s : Shared}
set_option maxHeartbeats 1000000 in
theorem text_spec {a : Addr} {xs : List Int} {d : Int} {td : Tok} {Q : Value → Shared → Prop} (G : GL s.heap) (hl : IL s.heap a xs) (hne : 0 < xs.length) (hn : xs.length ≤ 100) (hx : ∀ x ∈ xs, -100 ≤ x ∧ x ≤ 100) (hd : A.depth + 1 < recursionLimit) (hh : A.handled = none)
    (h : ∀ s' t, Done s s' → Q (.str (txt (textOf xs d)) t) s') : wpAny (model prog w) A (call (.ref 96) [.ref a, .int d td]) Q E s := by
  obtain ⟨pm, cd, hf⟩ := G.fText
  refine callDef G.lim hf (by omega) (BindsTo.of_eq (binds := [("order", .ref a), ("draw", .int d td)]) (by kernel_rfl!)) fun L s₁ nL C => ?_
  have e : (defAt 16).2.1 = (defAt 16).2.1 := rfl
  conv at e => lhs; whnf
  rw [← e]; clear e
  obtain ⟨m0, hm0, C⟩ := C.locs
  have ho : m0 "order" = some (.ref a) := by rw [hm0]; rfl
  have hdr : m0 "draw" = some (.int d td) := by rw [hm0]; rfl
  clear hm0
  obtain ⟨vs, hl, hi⟩ := hl
  have hvl : vs.length = xs.length := hi.length
  refine wpAny_execs_cons ?_
  refine asComp [] (ldN C ho (iterL C hl fun j s2 C2 => ?_))
  refine comp_as C2 (fun Cc => src_list (x := "step") hl hh (by rfl) (by kernel_rfl!) (by rfl)) (fun Cc m' own' s' Q' => self_list Cc m' own' s' Q')
    (fun k B ys => TxtsAre ys ((xs.take k).map partOf)) .nil ?_ ?_ ?_
  · rintro k Cc acc B3 m1 m2 ys s3 hC hk k3 hi3 ⟨v, hv, rfl⟩ C3
    obtain ⟨x, t, hxk, rfl⟩ := intsAre_at hi hv
    have hxb := hx x (List.mem_of_getElem? hxk)
    have htk : (xs.take (k + 1)).map partOf = (xs.take k).map partOf ++ [partOf x] := by rw [List.take_add_one, hxk]; simp
    refine wpAny_tests_nil ?_
    rw [if_pos rfl]
    refine wpAny_IfExp (wpAny_isTrue_Compare1 (ldN C3 upd_same (kI C3 fun s4 t4 C4 => gt_int (wpAny_truthy_bool ?_))))
    by_cases hpos : 0 < x
    · rw [if_pos (by simpa using hpos)]
      refine wpAny_BinOp (kS C4 fun s5 t5 C5 => ldN C5 upd_same (mulS (c := 40) C5 (by omega) (by omega) fun s6 t6 C6 => ⟨B3, _, keeps_refl _, C6, ?_⟩))
      show StrsAre _ (((xs.take (k + 1)).map partOf).map txt)
      rw [htk, List.map_append]
      refine strsAppend hi3 ?_
      show StrsAre _ [txt (partOf x)]
      rw [partOf, if_pos hpos]
      exact .cons _ _ .nil
    · rw [if_neg (by simpa using hpos)]
      refine wpAny_BinOp (kS C4 fun s5 t5 C5 => wpAny_UnaryOp (ldN C5 upd_same (negI C5 fun s6 t6 C6 => mulS (c := 41) C6 (by omega) (by omega) fun s7 t7 C7 => ⟨B3, _, keeps_refl _, C7, ?_⟩)))
      show StrsAre _ (((xs.take (k + 1)).map partOf).map txt)
      rw [htk, List.map_append]
      refine strsAppend hi3 ?_
      show StrsAre _ [txt (partOf x)]
      rw [partOf, if_neg hpos]
      exact .cons _ _ .nil
  · intro k B3 ys hk hi3
    have := strsLen hi3
    simp at this; omega
  · intro B3 ys acc s3 hacc k3 hi3 C3
    obtain ⟨B4, k4, C4, _, ho4, n4, rfl⟩ := C3.freeze
    rw [hvl, List.take_of_length_le (Nat.le_refl _)] at hi3
    have hpl : ys.length = xs.length := by have := strsLen hi3; simpa using this
    have lp : LsAt B4 acc ys.toArray := ⟨n4, ho4⟩
    refine wpAny_execs_cons (wpAny_Assign_Name (wpAny_BinOp (wpAny_BinOp (ldN C4 (upd_ne hdr (by decide)) (kI C4 fun s5 t5 C5 => fdivI C5 (by decide) (by decide) fun s6 t6 C6 => callB1 (ldB (G.keeps (k3.trans' (k4.trans' C6.keep))) 16 0 rfl rfl ⟨rfl, ldN C6 upd_same (lenL (lp.keeps C6.keep) (by simp; omega) fun s7 t7 D7 => ?_)⟩))))))
    have C7 := C6.ext D7.keep D7.g
    rw [show ((ys.toArray.size : Nat) : Int) = (xs.length : Int) by simp [hpl]]
    refine modI C7 (by omega) fun s8 t8 C8 => stM C8 fun s9 C9 => ?_
    have hk0 : 0 ≤ (d.fdiv 4).fmod (xs.length : Int) := Int.fmod_nonneg_of_pos _ (by omega)
    have hk1 : (d.fdiv 4).fmod (xs.length : Int) < xs.length := Int.fmod_lt_of_pos _ (by omega)
    have hd0 : 0 ≤ d.fmod 4 := Int.fmod_nonneg_of_pos _ (by decide)
    have hd1 : d.fmod 4 < 4 := Int.fmod_lt_of_pos _ (by decide)
    have hto : textOf xs d = ((xs.map partOf).take ((d.fdiv 4).fmod xs.length).toNat ++ [escTab.getD (d.fmod 4).toNat []] ++ (xs.map partOf).drop ((d.fdiv 4).fmod xs.length).toNat).flatten := rfl
    rw [hto] at h
    clear hto
    generalize (d.fdiv 4).fmod (xs.length : Int) = z at C9 h hk0 hk1
    generalize hq : d.fmod 4 = q at h hd0 hd1
    obtain ⟨kz, rfl⟩ := Int.eq_ofNat_of_zero_le hk0
    obtain ⟨kq, rfl⟩ := Int.eq_ofNat_of_zero_le hd0
    rw [Int.toNat_natCast, Int.toNat_natCast] at h
    refine wpAny_execs_cons (wpAny_Return_some ?_)
    refine Call_method1 (by rfl) (star_cons (by kernel_rfl!)) (by rfl) (kS C9 fun s10 t10 C10 => ?_)
    refine SB.join (wpAny_BinOp (wpAny_BinOp ?_))
    refine cutS (ldN C10 (upd_ne upd_same (by decide)) (evalPart_none_step (evalPart_some_step (ldN C10 upd_same (evalPart_none_step ⟨_, _, _, acc, ys.toArray, none, some (kz : Int), none, rfl, C10, lp.keeps C10.keep, by simp; omega, .none, .int _ _, .none, by simp, ?_⟩)))))
    intro B11 s11 b11 k11 C11 l11 n11
    rw [slicePick_upto'] at l11
    refine cutS (L := L) (s₀ := s) (listE (items_cons (kS C11 fun s12 t12 C12 => items_cons (kS C12 fun s13 t13 C13 => items_cons (kS C13 fun s14 t14 C14 => items_cons (kS C14 fun s15 t15 C15 => items_nil (C15.newList rfl fun B16 s16 b16 k16 C16 l16 n16 => ?_)))))))
    refine evalPart_some_step (wpAny_BinOp (ldN C16 (upd_ne (upd_ne hdr (by decide)) (by decide)) (kI C16 fun s17 t17 C17 => modI C17 (by decide) fun s18 t18 C18 => ?_)))
    refine evalPart_some_step (wpAny_BinOp (wpAny_BinOp (ldN C18 (upd_ne (upd_ne hdr (by decide)) (by decide)) (kI C18 fun s19 t19 C19 => modI C19 (by decide) fun s20 t20 C20 => kI C20 fun s21 t21 C21 => addI C21 fun s22 t22 C22 => ?_))))
    rw [hq]
    refine evalPart_none_step ⟨_, _, _, b16, _, some ((kq : Nat) : Int), some ((kq + 1 : Nat) : Int), none, rfl, C22, l16.keeps C22.keep, by simp, .int _ _, .int _ _, .none, by simp, ?_⟩
    intro B23 s23 b23 k23 C23 l23 n23
    rw [slicePick_run _ _ _ (by simp; omega) (by omega)] at l23
    refine addL C23 (l11.keeps (k16.trans' (k23.trans' C23.keep))) (l23.keeps C23.keep) (by simp; omega) fun B24 s24 b24 k24 C24 l24 n24 => ?_
    refine cutS (ldN C24 (upd_ne upd_same (by decide)) (evalPart_some_step (ldN C24 upd_same (evalPart_none_step (evalPart_none_step ⟨_, _, _, acc, ys.toArray, some (kz : Int), none, none, rfl, C24, lp.keeps (k11.trans' (k16.trans' (k23.trans' (k24.trans' C24.keep)))), by simp; omega, .int _ _, .none, .none, by simp, ?_⟩)))))
    intro B25 s25 b25 k25 C25 l25 n25
    rw [slicePick_from'] at l25
    refine addL C25 (l24.keeps (k25.trans' C25.keep)) (l25.keeps C25.keep) (by simp; omega) fun B26 s26 b26 k26 C26 l26 n26 => ?_
    have he : StrsAre (([Value.str (Str.ofString "") t12, .str (Str.ofString "\\)") t13, .str (Str.ofString "\\(") t14, .str (Str.ofString "\\\\") t15].drop kq).take (kq + 1 - kq)) [txt (escTab.getD kq [])] := by
      rw [show kq + 1 - kq = 1 by omega]
      match kq, hd1 with
      | 0, _ => exact .cons _ _ .nil
      | 1, _ => exact .cons (txt [92, 41]) _ .nil
      | 2, _ => exact .cons (txt [92, 40]) _ .nil
      | 3, _ => exact .cons (txt [92, 92]) _ .nil
    have hall := strsAppend (strsAppend (strsTake kz hi3) he) (strsDrop kz hi3)
    obtain ⟨l, hl1, hl2⟩ := strsAre_values hall
    have hmap : (List.take kz ((xs.map partOf).map txt) ++ [txt (escTab.getD kq [])] ++ List.drop kz ((xs.map partOf).map txt)) = ((xs.map partOf).take kz ++ [escTab.getD kq []] ++ (xs.map partOf).drop kz).map txt := by simp
    have l26' := (l26.keeps C26.keep).isList
    refine ⟨b26, l, rfl, ?_, _, hl2, ?_, fun t' k' => ?_⟩
    · rw [← hl1]; simpa using l26'
    · rw [hmap]
      refine joinOk_of ?_
      have hb := StrLaws.sumLen_le (B := 100) (((xs.map partOf).take kz ++ [escTab.getD kq []] ++ (xs.map partOf).drop kz).map txt) ?_
      · have h0 : (Str.ofString "").length = 0 := by decide
        have hlen : (((xs.map partOf).take kz ++ [escTab.getD kq []] ++ (xs.map partOf).drop kz).map txt).length ≤ 101 := by simp; omega
        rw [h0]; omega
      · intro y hy
        obtain ⟨l, hl, rfl⟩ := List.mem_map.mp hy
        rw [txt_len]
        have hp : ∀ l ∈ xs.map partOf, l.length ≤ 100 := fun l hl => by
          obtain ⟨x, hx', rfl⟩ := List.mem_map.mp hl
          exact partOf_len x (hx x hx')
        rcases List.mem_append.mp hl with hl | hl
        · rcases List.mem_append.mp hl with hl | hl
          · exact hp l (List.mem_of_mem_take hl)
          · rw [List.mem_singleton.mp hl]
            match kq, hd1 with
            | 0, _ => decide
            | 1, _ => decide
            | 2, _ => decide
            | 3, _ => decide
        · exact hp l (List.mem_of_mem_drop hl)
    · rw [hmap, show Str.ofString "" = Str.empty from by decide, join_txt]
      exact h _ t' ((C26.tok k').done (k3.trans' (k4.trans' (k11.trans' (k16.trans' (k23.trans' (k24.trans' (k25.trans' k26))))))))
end
end Mine
end

section
open PySem PySem.Calls PySem.W PyProof.Rows
set_option maxRecDepth 100000
set_option autoImplicit false
set_option linter.all false
namespace Mine
section
variable {M : Model} {A : Around} {R : GenEnd} {Y : Protocol} {n : Nat} {s₀ : Shared} {c : Code} {fs : List Frame} {s : Shared} {env : Env}
  {K : Flow → Sem Fin} {H : Value → Sem Fin} {gd : Bool → Bool} {lv : List Value → List Value}

/-- a statement that gives nothing back within a generator -/
theorem seg_stmt {st : Stmt} (h : wpAny M (A.over c fs) (exec st env) (fun f s' => Seg M A R Y n s₀ c (K f) fs s') (fun _ _ => False) s) : Seg M A R Y n s₀ c ((exec st env).wrap K H gd lv) fs s :=
  seg_wrap (wpAny_mono h (fun _ _ x => x) fun _ _ x => x.elim)
theorem seg_If {test : PySem.Expr} {body orelse : List Stmt} {pos : Pos}
    (h : wpAny M (A.over c fs) (isTrue test env (eval test env)) (fun b s' => if b = true then Seg M A R Y n s₀ c ((execs body env).wrap K H gd lv) fs s' else Seg M A R Y n s₀ c ((execs orelse env).wrap K H gd lv) fs s') (fun _ _ => False) s) :
    Seg M A R Y n s₀ c ((exec (.If test body orelse pos) env).wrap K H gd lv) fs s := by
  rw [exec_If]
  show Seg M A R Y n s₀ c (.at pos fun _ => (isTrue test env (eval test env) >>= fun b => if b then execs body env else execs orelse env).wrap K H gd lv) fs s
  refine seg_at ?_
  rw [Sem.bind_eq_wrap', Sem.wrap_wrap]
  refine seg_wrap (wpAny_mono h (fun b s' hb => ?_) fun _ _ x => x.elim)
  cases b with
  | true => exact hb
  | false => exact hb
/-- what a loop of a generator comes back to -/
def loopK (env : Env) (K : Flow → Sem Fin) (H : Value → Sem Fin) (gd : Bool → Bool) (lv : List Value → List Value) : Result → Sem Fin := fun r => ((match r with | .ok f => (.pure f : Sem Flow) | .error e => .raise e).onRaise fun (x : Value) => do
        if (← field x 1) == Value.none then unsupported "frame.own-activation:exception-without-traceback"
        setFlight x env.frame).wrap K H gd lv
theorem seg_While' {test : PySem.Expr} {body orelse : List Stmt} {pos : Pos}
    (h : ∀ p, Seg M A R Y n s₀ (.whileLoop test body orelse env) (M.den (.whileLoop test body orelse env)) (.ret (loopK env K H gd lv) none (gd false) (lv []) c p [] :: fs) s) :
    Seg M A R Y n s₀ c ((exec (.While test body orelse pos) env).wrap K H gd lv) fs s := seg_While h
theorem seg_For {target iter : PySem.Expr} {body : List Stmt} {pos : Pos}
    (h : wpAny M (A.over c fs) (eval iter env) (fun x s₁ => wpAny M (A.over c fs) (pyIter x) (fun it s₂ => ∀ p, Seg M A R Y n s₀ (.forLoop target it body [] env) (M.den (.forLoop target it body [] env))
      (.ret (loopK env K H gd lv) none (gd false) (lv []) c p [] :: fs) s₂) (fun _ _ => False) s₁) (fun _ _ => False) s)
    (hs : ∀ x, foldedSetIterable iter env x = pure x := by intro _; rfl) : Seg M A R Y n s₀ c ((exec (.For target iter body [] pos) env).wrap K H gd lv) fs s := by
  rw [arm_exec_For]
  refine seg_bind_wrap (wpAny_standAt (seg_bind_wrap (wpAny_mono h (fun x s1 h1 => ?_) fun _ _ x => x.elim)))
  refine seg_bind_wrap (wpAny_of_eq (hs x) ?_)
  refine seg_bind_wrap (wpAny_standAt (seg_bind_wrap (wpAny_holding (wpAny_mono h1 (fun it s2 h2 => ?_) fun _ _ x => x.elim))))
  exact seg_call h2
end
section
variable {prog : Program} {w : World} {A : Around} {R : GenEnd} {Y : Protocol} {n : Nat} {s₀ : Shared} {fs : List Frame} {s : Shared} {env : Env}
abbrev forC (target : PySem.Expr) (it : Value) (body : List Stmt) (env : Env) : Code := .forLoop target it body [] env
def forK (target : PySem.Expr) (it : Value) (body : List Stmt) (env : Env) : Flow → Sem Fin := fun f => match f with
            | .next | .cont => .pure (.again (.forLoop target it body [] env))
            | .brk => .pure (.done .next)
            | .ret v => .pure (.done (.ret v))
def errH (env : Env) : Value → Sem Fin := fun e => (do noteFrame e env; theTreesLotGoes e : Sem Unit).wrap (fun _ => .raise e) .raise id id
theorem seg_forLoop {target : PySem.Expr} {it : Value} {body : List Stmt}
    (h : wpAny (model prog w) (A.over (forC target it body env) fs) (pyNext it) (fun r s₁ => match r with
      | none => Seg (model prog w) A R Y n s₀ (.block [] env) (leafOf (.ok .next)) fs s₁
      | some v => wpAny (model prog w) (A.over (forC target it body env) fs) (letOwnedTupleGo target it v) (fun _ s2 => wpAny (model prog w) (A.over (forC target it body env) fs) (assign target env v) (fun _ s3 =>
          Seg (model prog w) A R Y n s₀ (forC target it body env) ((execs body env).wrap (forK target it body env) (errH env) id id) fs s3) (fun _ _ => False) s2) (fun _ _ => False) s₁) (fun _ _ => False) s) :
    Seg (model prog w) A R Y n s₀ (forC target it body env) ((model prog w).den (forC target it body env)) fs s := by
  show Seg _ A R Y n s₀ _ ((forTurn target it body [] env).onRaise (fun x => do noteFrame x env; theTreesLotGoes x)) fs s
  unfold forTurn
  rw [Sem.onRaise_eq_wrap]
  refine seg_bind_wrap (wpAny_standAt (seg_bind_wrap (wpAny_onRaise (wpAny_mono h (fun r s1 h1 => ?_) fun _ _ x => x.elim))))
  cases r with
  | none => exact seg_again rfl h1
  | some v =>
    refine seg_bind_wrap (wpAny_mono h1 (fun _ s2 h2 => ?_) fun _ _ x => x.elim)
    refine seg_bind_wrap (wpAny_mono h2 (fun _ s3 h3 => ?_) fun _ _ x => x.elim)
    rw [Sem.bind_eq_wrap', Sem.wrap_wrap]
    rw [Sem.wrap_congr (execs body env) _ _ (K' := forK target it body env) (H' := errH env) (fun f => by cases f <;> rfl) (fun e => by first | exact Sem.bind_eq_wrap _ _ | (show (do noteFrame e env; theTreesLotGoes e : Sem Unit).bind (fun _ => .raise e) = _; rw [Sem.bind_eq_wrap]; rfl))]
    exact h3
end
end Mine
end

section
open PySem PySem.Calls PySem.W PyProof.Rows
set_option maxRecDepth 100000
set_option autoImplicit false
set_option linter.all false
namespace Mine
abbrev HasAll (J : List Spec) (h : Heap) : Prop := ∀ p ∈ J, ∃ o, h.get? p.1 = some o ∧ p.2 o
/-- what a piece of another frame's run does: its own objects J become J', all else stands -/
structure Trans (J J' : List Spec) (s s' : Shared) : Prop where
  keep : ∀ b o, b ∉ J.map (·.1) → s.heap.get? b = some o → s'.heap.get? b = some o
  has : HasAll J' s'.heap
  nd : (J'.map (·.1)).Nodup
  addr : ∀ p ∈ J', p.1 ∈ J.map (·.1) ∨ s.heap.get? p.1 = none
  g : Gx s s'
section
variable {B : Heap} {s₀ s s' : Shared} {L : Addr} {m : Loc} {own J J' : List Spec}
theorem Cx.trans (C : Cx B s₀ L m (J ++ own) s) (T : Trans J J' s s') : Cx B s₀ L m (J' ++ own) s' := by
  have offJ : ∀ a ∈ J.map (·.1), B.get? a = none ∧ a ≠ L := fun a ha => by
    obtain ⟨p, hp, rfl⟩ := List.mem_map.mp ha
    exact C.off p (List.mem_append_left _ hp)
  have hnew : ∀ b, s.heap.get? b = none → B.get? b = none := fun b hb => by
    cases q : B.get? b with
    | none => rfl
    | some o => rw [C.keep _ _ q] at hb; cases hb
  have nd := C.nd
  rw [List.map_append] at nd
  have nd' := List.nodup_append.mp nd
  refine ⟨fun b o e => T.keep b o (fun q => by rw [(offJ b q).1] at e; cases e) (C.keep b o e), C.ns.at' fun o e => T.keep L o (fun q => (offJ L q).2 rfl) e, fun p hp => ?_, C.offL, fun p hp => ?_, ?_, C.g.trans T.g⟩
  · rcases List.mem_append.mp hp with hp | hp
    · exact T.has p hp
    · obtain ⟨o, e, r⟩ := C.has p (List.mem_append_right _ hp)
      exact ⟨o, T.keep _ _ (fun q => nd'.2.2 _ q _ (List.mem_map_of_mem (f := (·.1)) hp) rfl) e, r⟩
  · rcases List.mem_append.mp hp with hp | hp
    · rcases T.addr p hp with h | h
      · exact offJ _ h
      · exact ⟨hnew _ h, fun q => by obtain ⟨o, _, _, e, _⟩ := C.ns; rw [q, e] at h; cases h⟩
    · exact C.off p (List.mem_append_right _ hp)
  · rw [List.map_append, List.nodup_append]
    refine ⟨T.nd, nd'.2.1, fun a ha b hb q => ?_⟩
    subst q
    obtain ⟨p, hp, rfl⟩ := List.mem_map.mp ha
    rcases T.addr p hp with h | h
    · exact nd'.2.2 _ h _ hb rfl
    · obtain ⟨p2, hp2, e2⟩ := List.mem_map.mp hb
      obtain ⟨o, ho, _⟩ := C.has _ (List.mem_append_right _ hp2)
      rw [e2, h] at ho
      cases ho
theorem Cx.hasAll (C : Cx B s₀ L m (J ++ own) s) : HasAll J s.heap := fun p hp => C.has p (List.mem_append_left _ hp)
theorem Cx.base (C : Cx B s₀ L m own s) {s1 : Shared} (h : Gx s1 s) : Cx B s1 L m own s := ⟨C.keep, C.ns, C.has, C.offL, C.off, C.nd, h⟩
theorem Cx.gens (C : Cx B s₀ L m own s) {gs : Array GenState} (h : Gx s₀ { s with gens := gs }) : Cx B s₀ L m own { s with gens := gs } := ⟨C.keep, C.ns, C.has, C.offL, C.off, C.nd, h⟩
theorem Gx.setGen {g : Nat} {x : GenState} (G : Gx s₀ s) (hg : s₀.gens.size ≤ g) (hb : x.bare = true) : Gx s₀ (s.setGen g x) := by
  refine ⟨fun i y e => ?_, fun h => ?_, G.os⟩
  · have hi : i < s₀.gens.size := (Array.getElem?_eq_some_iff.mp e).1
    show (s.gens.setIfInBounds g x)[i]? = some y
    rw [Array.getElem?_setIfInBounds, if_neg (by omega)]
    exact G.gens i y e
  · intro y hy
    have hy : y ∈ s.gens.setIfInBounds g x := hy
    rcases Array.mem_or_eq_of_mem_setIfInBounds hy with h1 | h1
    · exact G.bare h y h1
    · rw [h1]; exact hb
end
end Mine
end

section
open PySem PySem.Calls PySem.W PyProof.Rows
set_option maxRecDepth 100000
set_option autoImplicit false
set_option linter.all false
namespace Mine
def protoY (N : Nat) (fin : Bool) (Jf : Nat → List Spec) (val : Nat → Value → Heap → Prop) (Bg : Heap) : Protocol := fun n s₀ v s kap =>
  ∃ k, k + n = N ∧ k < N ∧ Trans (Jf k) (Jf (k + 1)) s₀ s ∧ val k v s.heap ∧ ((fin = true ∨ k + 1 < N) → ∀ s'' : Shared, HasAll (Jf (k + 1)) s''.heap → Keeps Bg s''.heap → kap (.send .none) s'')
def protoP (N : Nat) (Jf : Nat → List Spec) : GenEnd := fun n s₀ r s => r = .ok (.ret .none) ∧ n = 1 ∧ Trans (Jf N) [] s₀ s
/-- the generator's state after k items -/
def Ready (prog : Program) (w : World) (A : Around) (N : Nat) (fin : Bool) (val : Nat → Value → Heap → Prop) (Bg : Heap) (k : Nat) (J : List Spec) (gs : GenState) : Prop :=
  (k < N ∨ fin = true) → k ≤ N → ∀ s, HasAll J s.heap → Keeps Bg s.heap → ∃ Jf : Nat → List Spec, Jf k = J ∧ gs.Goes (model prog w) A (protoP N Jf) (protoY N fin Jf val Bg) (N - k + 1) (.send .none) s

section
variable {prog : Program} {w : World} {A : Around} {E : Value → Shared → Prop} {s σ s₀ : Shared} {B Bg : Heap} {L : Addr} {m : Loc} {own : List Spec} {N k : Nat} {fin : Bool} {J : List Spec} {val : Nat → Value → Heap → Prop} {a : Addr} {g : Nat} {gs : GenState}

/-- what an item leaves -/
def Given (prog : Program) (w : World) (A : Around) (N : Nat) (fin : Bool) (val : Nat → Value → Heap → Prop) (Bg B : Heap) (s₀ : Shared) (L : Addr) (m : Loc) (own : List Spec) (g k : Nat) (v : Value) (s' : Shared) : Prop :=
  ∃ σ' gs' J', Gx s₀ σ' ∧ σ'.gens[g]? = some gs' ∧ Ready prog w A N fin val Bg (k + 1) J' gs' ∧ Cx B σ' L m (J' ++ own) s' ∧ val k v s'.heap

theorem genWake_item (C : Cx B σ L m (J ++ own) s) (hσ : σ.gens[g]? = some gs) (hG : Gx s₀ σ) (hg : s₀.gens.size ≤ g) (hr : Ready prog w A N fin val Bg k J gs) (hi : B.IsGen a g) (hB : Keeps Bg B) (hk : k < N)
    (hl : s.heap.NoLimit) (hroom : A.depth < recursionLimit) :
    wpAny (model prog w) A (Builtin.Generator.genWake (.ref a) (.send .none)) (fun f s' => ∃ v, f = .done (.ret v) ∧ Given prog w A N fin val Bg B s₀ L m own g k v s') E s := by
  have hgs : s.gens[g]? = some gs := C.g.gens _ _ hσ
  have hlt : g < s.gens.size := (Array.getElem?_eq_some_iff.mp hgs).1
  have hG0 : Gx s₀ (s.setGen g .running) := (hG.trans C.g).setGen hg rfl
  obtain ⟨Jf, rfl, hgo⟩ := hr (.inl hk) (Nat.le_of_lt hk) (s.setGen g .running) C.hasAll (hB.trans' C.keep)
  have C0 : Cx B (s.setGen g .running) L m (_ ++ own) (s.setGen g .running) := ⟨C.keep, C.ns, C.has, C.offL, C.off, C.nd, Gx.refl _⟩
  unfold Builtin.Generator.genWake
  refine wpAny_bind (wpAny_holding (wpAny_genNumber (hi.keeps C.keep) (wpAny_bind (wpAny_genState hgs ?_))))
  cases gs with
  | running => exact hgo.elim
  | finished => exact hgo.elim
  | _ =>
    refine wpAny_bind (wpAny_roomToWake hl hroom ?_)
    show wpAny _ A (.resume g (.send .none) [] _) _ _ s
    refine wpAny_resumeQ hgs hgo (fun x s₁ hx => ?_) (fun v s₁ gs' hb hv => ?_)
    · have := hx.2.1; omega
    · obtain ⟨k', hk', hkN, T, hval, hnext⟩ := hv
      obtain rfl : k' = k := by omega
      refine wpAny_pure ⟨v, rfl, s₁.setGen g gs', gs', Jf (k' + 1), (hG0.trans T.g).setGen hg hb, ?_, ?_, ?_, hval⟩
      · have hlt1 : g < s₁.gens.size := by
          have : (s.setGen g .running).gens[g]? = some .running := by show (s.gens.setIfInBounds g _)[g]? = _; rw [Array.getElem?_setIfInBounds, if_pos rfl, if_pos hlt]
          exact (Array.getElem?_eq_some_iff.mp (T.g.gens _ _ this)).1
        show (s₁.gens.setIfInBounds g gs')[g]? = _
        rw [Array.getElem?_setIfInBounds, if_pos rfl, if_pos hlt1]
      · intro h1 h2 s3 h3 h4
        have := hnext h1.symm s3 h3 h4
        rw [show N - (k' + 1) + 1 = N - k' by omega]
        exact ⟨Jf, rfl, this⟩
      · have C1 := C0.trans T
        exact ⟨C1.keep, C1.ns, C1.has, C1.offL, C1.off, C1.nd, Gx.refl _⟩

/-- what the end leaves -/
theorem genWake_end (C : Cx B σ L m (J ++ own) s) (hσ : σ.gens[g]? = some gs) (hG : Gx s₀ σ) (hg : s₀.gens.size ≤ g) (hr : Ready prog w A N true val Bg N J gs) (hi : B.IsGen a g) (hB : Keeps Bg B) (hh : A.handled = none)
    (hl : s.heap.NoLimit) (hroom : A.depth < recursionLimit) {Q : Fin → Shared → Prop} :
    wpAny (model prog w) A (Builtin.Generator.genWake (.ref a) (.send .none)) Q (fun e s' => s'.TypeIs e "StopIteration" ∧ ∃ σ', Gx s₀ σ' ∧ Cx B σ' L m own s') s := by
  have hgs : s.gens[g]? = some gs := C.g.gens _ _ hσ
  have hG0 : Gx s₀ (s.setGen g .running) := (hG.trans C.g).setGen hg rfl
  obtain ⟨Jf, rfl, hgo⟩ := hr (.inr rfl) (Nat.le_refl _) (s.setGen g .running) C.hasAll (hB.trans' C.keep)
  have C0 : Cx B (s.setGen g .running) L m (_ ++ own) (s.setGen g .running) := ⟨C.keep, C.ns, C.has, C.offL, C.off, C.nd, Gx.refl _⟩
  unfold Builtin.Generator.genWake
  refine wpAny_bind (wpAny_holding (wpAny_genNumber (hi.keeps C.keep) (wpAny_bind (wpAny_genState hgs ?_))))
  cases gs with
  | running => exact hgo.elim
  | finished => exact hgo.elim
  | _ =>
    refine wpAny_bind (wpAny_roomToWake hl hroom ?_)
    show wpAny _ A (.resume g (.send .none) [] _) _ _ s
    refine wpAny_resumeQ hgs hgo (fun x s₁ hx => ?_) (fun v s₁ gs' hb hv => ?_)
    · obtain ⟨rfl, -, T⟩ := hx
      have C1 : Cx B (s₁.setGen g .finished) L m own (s₁.setGen g .finished) := by
        have C1 := C0.trans T
        exact ⟨C1.keep, C1.ns, C1.has, C1.offL, C1.off, C1.nd, Gx.refl _⟩
      have G1 : Gx s₀ (s₁.setGen g .finished) := (hG0.trans T.g).setGen hg rfl
      generalize s₁.setGen g .finished = s2 at C1 G1
      show wpAny _ A (newExc (.type "StopIteration") [] >>= _) _ _ _
      refine wpAny_bind ?_
      simp only [newExc, newTuple]
      refine wpAny_bind (wpAny_newObj_type ?_ (by size_fits))
      refine wpAny_bind (m := firstArgMember _ _) (wpAny_of_eq (a := Value.none) (by first | rfl | (simp only [firstArgMember]; rfl)) ?_)
      refine wpAny_newObj_type ?_ (by size_fits)
      simp only [raiseNew]
      refine wpAny_bind (wpAny_bind (wpAny_handled ?_))
      rw [hh]
      refine wpAny_throw ⟨⟨_, Heap.get?_push_size _ rfl, rfl⟩, s2, G1, ?_⟩
      exact (C1.pushAny _).pushAny _
    · obtain ⟨k', hk', hkN, _⟩ := hv
      omega
end
end Mine
end

section
open PySem PySem.Calls PySem.W PyProof.Rows
set_option maxRecDepth 100000
set_option autoImplicit false
set_option linter.all false
namespace Mine
section
variable {prog : Program} {w : World} {A : Around} {E : Value → Shared → Prop} {s σ s₀ : Shared} {B Bg : Heap} {L : Addr} {m : Loc} {own : List Spec} {N k : Nat} {fin : Bool} {J : List Spec} {val : Nat → Value → Heap → Prop} {a : Addr} {g : Nat} {gs : GenState}

theorem pyNext_item (C : Cx B σ L m (J ++ own) s) (hσ : σ.gens[g]? = some gs) (hG : Gx s₀ σ) (hg : s₀.gens.size ≤ g) (hr : Ready prog w A.in1 N fin val Bg k J gs) (hi : B.IsGen a g) (hB : Keeps Bg B) (hk : k < N)
    (hl : s.heap.NoLimit) (hroom : A.depth < recursionLimit) :
    wpAny (model prog w) A (pyNext (.ref a)) (fun r s' => ∃ v, r = some v ∧ Given prog w A.in1 N fin val Bg B s₀ L m own g k v s') E s := by
  have hT := (hi.keeps C.keep).typeIs
  unfold pyNext
  refine wpAny_bind (wpAny_attempt (wpAny_callSpecial?_slot (name := Str.ofString "__next__") hT slot_gen_next
    (wpAny_call_entry slot_gen_next hT entry_gen_next ?_ (args_gen_next _))))
  refine wpAny_mono (genWake_item (A := A.in1) C hσ hG hg hr hi hB hk hl hroom) (fun f s' h => ?_) fun _ _ x => x
  obtain ⟨v, rfl, h⟩ := h
  exact ⟨v, rfl, wpAny_pure ⟨v, rfl, h⟩⟩
theorem pyNext_end (C : Cx B σ L m (J ++ own) s) (hσ : σ.gens[g]? = some gs) (hG : Gx s₀ σ) (hg : s₀.gens.size ≤ g) (hr : Ready prog w A.in1 N true val Bg N J gs) (hi : B.IsGen a g) (hB : Keeps Bg B) (hh : A.handled = none)
    (hl : s.heap.NoLimit) (hroom : A.depth < recursionLimit) :
    wpAny (model prog w) A (pyNext (.ref a)) (fun r s' => r = none ∧ ∃ σ', Gx s₀ σ' ∧ Cx B σ' L m own s') E s := by
  have hT := (hi.keeps C.keep).typeIs
  unfold pyNext
  refine wpAny_bind (wpAny_attempt (wpAny_callSpecial?_slot (name := Str.ofString "__next__") hT slot_gen_next
    (wpAny_call_entry slot_gen_next hT entry_gen_next ?_ (args_gen_next _))))
  refine wpAny_mono (genWake_end (A := A.in1) (Q := fun _ _ => False) C hσ hG hg hr hi hB hh hl hroom) (fun _ _ x => x.elim) fun e s' h => ?_
  obtain ⟨hTe, h⟩ := h
  exact wpAny_bind (wpAny_isInstance (T := "StopIteration") (b := true) hTe isSubtype_stop (wpAny_pure ⟨rfl, h⟩))
theorem nextOf_item (C : Cx B σ L m (J ++ own) s) (hσ : σ.gens[g]? = some gs) (hG : Gx s₀ σ) (hg : s₀.gens.size ≤ g) (hr : Ready prog w A.in1 N fin val Bg k J gs) (hi : B.IsGen a g) (hB : Keeps Bg B) (hk : k < N)
    (hl : s.heap.NoLimit) (hroom : A.depth < recursionLimit) :
    wpAny (model prog w) A (Builtin.SmallTypes.nextOf (.ref a)) (fun v s' => Given prog w A.in1 N fin val Bg B s₀ L m own g k v s') E s := by
  have hT := (hi.keeps C.keep).typeIs
  unfold Builtin.SmallTypes.nextOf
  refine wpAny_bind (wpAny_callSpecial?_slot (name := Str.ofString "__next__") hT slot_gen_next
    (wpAny_call_entry slot_gen_next hT entry_gen_next ?_ (args_gen_next _)))
  refine wpAny_mono (genWake_item (A := A.in1) C hσ hG hg hr hi hB hk hl hroom) (fun f s' h => ?_) fun _ _ x => x
  obtain ⟨v, rfl, h⟩ := h
  exact ⟨v, rfl, wpAny_pure h⟩
theorem nextOf_end {Q : Value → Shared → Prop} (C : Cx B σ L m (J ++ own) s) (hσ : σ.gens[g]? = some gs) (hG : Gx s₀ σ) (hg : s₀.gens.size ≤ g) (hr : Ready prog w A.in1 N true val Bg N J gs) (hi : B.IsGen a g) (hB : Keeps Bg B) (hh : A.handled = none)
    (hl : s.heap.NoLimit) (hroom : A.depth < recursionLimit) :
    wpAny (model prog w) A (Builtin.SmallTypes.nextOf (.ref a)) Q (fun e s' => s'.TypeIs e "StopIteration" ∧ ∃ σ', Gx s₀ σ' ∧ Cx B σ' L m own s') s := by
  have hT := (hi.keeps C.keep).typeIs
  unfold Builtin.SmallTypes.nextOf
  refine wpAny_bind (wpAny_callSpecial?_slot (name := Str.ofString "__next__") hT slot_gen_next
    (wpAny_call_entry slot_gen_next hT entry_gen_next ?_ (args_gen_next _)))
  exact wpAny_mono (genWake_end (A := A.in1) (Q := fun _ _ => False) C hσ hG hg hr hi hB hh hl hroom) (fun _ _ x => x.elim) fun e s' h => h

theorem letOwned_gen {elts : List PySem.Expr} {x1 : Nat} {tp : Pos} {v : Value} {Q : Unit → Shared → Prop} (hi : s.heap.IsGen a g) (h : Q () s) : wpAny (model prog w) A (letOwnedTupleGo (.Tuple elts x1 tp) (.ref a) v) Q E s := by
  obtain ⟨o, p, sl, ho, hc, r⟩ := hi
  unfold letOwnedTupleGo
  cases v with
  | ref t =>
    refine wpAny_bind (wpAny_load ho ?_)
    rw [hc]
    cases o.data <;> first | exact wpAny_pure h | (simp only []; rw [if_neg (by decide)]; exact wpAny_pure h)
  | _ => exact wpAny_pure h
end
end Mine
end

section
open PySem PySem.Calls PySem.W PyProof.Rows
set_option maxRecDepth 100000
set_option autoImplicit false
set_option linter.all false
namespace Mine
section
variable {prog : Program} {w : World} {A : Around} {E : Value → Shared → Prop} {s σ s₀ : Shared} {B Bg : Heap} {L : Addr} {m : Loc} {own : List Spec} {N : Nat} {J : List Spec} {val : Nat → Value → Heap → Prop} {a : Addr} {g : Nat} {gs : GenState} {env : Env}

theorem for_genr {x y : Str} {px py tp : Pos} {x1 : Nat} {body : List Stmt} {R : Result → Shared → Prop} {bnd : Nat → Value → Value → Prop}
    (C : Cx B σ L m (J ++ own) s) (hσ : σ.gens[g]? = some gs) (hG : Gx s₀ σ) (hg : s₀.gens.size ≤ g) (hr : Ready prog w A.in1 N true val Bg 0 J gs) (hi : B.IsGen a g) (hB : Keeps Bg B) (hh : A.handled = none)
    (hl : B.NoLimit) (hroom : A.depth < recursionLimit) (hval : ∀ k v h, val k v h → ∃ t v1 v2, v = .ref t ∧ h.IsTuple t #[v1, v2] ∧ bnd k v1 v2)
    (I : Nat → Heap → Loc → List Spec → Prop) (h0 : I 0 B m own)
    (turn : ∀ (k : Nat) σ B' m1 v1 v2 J own' s', k < N → Gx s₀ σ → Keeps B B' → I k B' m1 own' → bnd k v1 v2 → Cx B' σ L (upd (upd m1 x v1) y v2) (J ++ own') s' →
      wpAny (model prog w) A (execs body env) (TurnG σ L B' J (I (k + 1)) fun v s'' => R (.ok (.ret v)) s'') NoE s')
    (fin : ∀ σ B' m' own' s', Gx s₀ σ → Keeps B B' → I N B' m' own' → Cx B' σ L m' own' s' → R (.ok .next) s')
    (hk : env.scope.kind = .function := by rfl) (hx : env.kindOf x = some .local := by kernel_rfl!) (hy : env.kindOf y = some .local := by kernel_rfl!) (hL : env.locals = L := by rfl) :
    codeAny (model prog w) A (.forLoop (.Tuple [.Name x px, .Name y py] x1 tp) (.ref a) body [] env) R s := by
  refine codeAny_forLoop_any (fun z s' => ∃ k σ gs J B' m' own', z = N - k ∧ k ≤ N ∧ Keeps B B' ∧ I k B' m' own' ∧ Cx B' σ L m' (J ++ own') s' ∧ σ.gens[g]? = some gs ∧ Gx s₀ σ ∧ Ready prog w A.in1 N true val Bg k J gs) ?_ N
    ⟨0, σ, gs, J, B, m, own, rfl, Nat.zero_le _, keeps_refl _, h0, C, hσ, hG, hr⟩
  rintro z s' ⟨k, σ', gs', J', B', m', own', rfl, hk', kB, hI, C', hσ', hG', hr'⟩
  by_cases hkN : k < N
  · refine noE (wpAny_mono (pyNext_item C' hσ' hG' hg hr' (hi.keeps kB) (hB.trans' kB) hkN (hl.keeps (kB.trans' C'.keep)) hroom) (fun r s1 h1 => ?_) fun _ _ x => x)
    obtain ⟨v, rfl, σ2, gs2, J2, hG2, hσ2, hr2, C2, hv2⟩ := h1
    obtain ⟨t, v1, v2, rfl, ht, hb⟩ := hval _ _ _ hv2
    refine noE (letOwned_gen ((hi.keeps kB).keeps C2.keep) ?_)
    refine noE (as2 C2 hh ht (fun s3 C3 => ?_) hk hx hy hL)
    refine noE (wpAny_mono (turn k σ2 B' m' v1 v2 J2 own' s3 hkN hG2 kB hI hb C3) (fun fl s4 h4 => ?_) fun _ _ x => x)
    cases fl with
    | next => obtain ⟨B4, m4, own4, k4, C4, I4⟩ := h4; exact ⟨N - (k + 1), by omega, k + 1, σ2, gs2, J2, B4, m4, own4, rfl, hkN, kB.trans' k4, I4, C4, hσ2, hG2, hr2⟩
    | cont => obtain ⟨B4, m4, own4, k4, C4, I4⟩ := h4; exact ⟨N - (k + 1), by omega, k + 1, σ2, gs2, J2, B4, m4, own4, rfl, hkN, kB.trans' k4, I4, C4, hσ2, hG2, hr2⟩
    | brk => exact h4.elim
    | ret v => exact h4
  · obtain rfl : k = N := by omega
    refine noE (wpAny_mono (pyNext_end C' hσ' hG' hg hr' (hi.keeps kB) (hB.trans' kB) hh (hl.keeps (kB.trans' C'.keep)) hroom) (fun r s1 h1 => ?_) fun _ _ x => x)
    obtain ⟨rfl, σ2, hG2, C2⟩ := h1
    exact noE (wpAny_execs_nil (fin σ2 B' m' own' s1 hG2 kB hI C2))
end
end Mine
end

section
open PySem PySem.Calls PySem.W PyProof.Rows
set_option maxRecDepth 100000
set_option autoImplicit false
set_option linter.all false
namespace Mine
def StrIterO (x : Str) (t : Tok) (i : Nat) : Obj → Prop := fun o => o.cls = .type "str_ascii_iterator" ∧ o.data = .fields #[.str x t, .int i 0]
def NsP (c : Loc → Prop) : Obj → Prop := fun o => ∃ m, c m ∧ NsO m o
section
variable {prog : Program} {w : World} {A : Around} {E : Value → Shared → Prop} {s s₀ : Shared} {B Bg : Heap} {L : Addr} {m : Loc} {own : List Spec} {env : Env} {x : Str} {tx : Tok}

/-! ## enumerate over a text -/
theorem callEnumS {Q : Value → Shared → Prop} (hx : x.cps.all (· < 128) = true) (C : Cx B s₀ L m own s) (h : ∀ s', Cx B s₀ L m ([(s.heap.objs.size + 1, EnumO s.heap.objs.size 0), (s.heap.objs.size, StrIterO x tx 0)] ++ own) s' → Q (.ref (s.heap.objs.size + 1)) s') :
    wpAny (model prog w) A (call (.type "enumerate") [.str x tx]) Q E s := by
  refine call_enumerate_str fun h' he hi hz hk => h { s with heap := h' } ?_
  have hsz : ∀ b, s.heap.objs.size ≤ b → B.get? b = none := fun b hb => by
    cases q : B.get? b with
    | none => rfl
    | some o => exact absurd (Heap.lt_size (C.keep _ _ q)) (Nat.not_lt.mpr hb)
  have C1 := C.ext (s' := { s with heap := h' }) hk (Gx.heap (t := s.toks))
  refine ⟨C1.keep, C1.ns, fun p hp => ?_, C1.offL, fun p hp => ?_, ?_, C1.g⟩
  · simp only [List.cons_append, List.nil_append, List.mem_cons] at hp
    rcases hp with rfl | rfl | hp
    · exact ⟨_, he, .none, rfl⟩
    · obtain ⟨o, ho, hc, hd⟩ := hi
      have ht : strIterType x = "str_ascii_iterator" := by unfold strIterType; rw [if_pos hx]
      exact ⟨o, ho, by rw [hc, ht], hd⟩
    · exact C1.has p hp
  · simp only [List.cons_append, List.nil_append, List.mem_cons] at hp
    rcases hp with rfl | rfl | hp
    · exact ⟨hsz _ (Nat.le_succ _), Nat.ne_of_gt (Nat.lt_succ_of_lt C.ltL)⟩
    · exact ⟨hsz _ (Nat.le_refl _), Nat.ne_of_gt C.ltL⟩
    · exact C.off p hp
  · simp only [List.cons_append, List.nil_append, List.map_cons, List.nodup_cons, List.mem_cons, List.mem_map, not_or]
    refine ⟨⟨Nat.succ_ne_self _, fun ⟨p, hp, q⟩ => ?_⟩, fun ⟨p, hp, q⟩ => ?_, C.nd⟩
    · exact absurd (C.lt hp) (by rw [q]; exact Nat.not_lt.mpr (Nat.le_succ _))
    · exact absurd (C.lt hp) (by rw [q]; exact Nat.lt_irrefl _)
theorem enumS_item {elts : List PySem.Expr} {x1 : Nat} {tp : Pos} {e it : Addr} {k c : Nat} {Q : Unit → Shared → Prop} (C : Cx B s₀ L m ([(e, EnumO it k), (it, StrIterO x tx k)] ++ own) s) (hh : A.handled = none) (hv : x.cps[k]? = some c)
    (h : ∀ s' t tk tc, Cx B s₀ L m ([(e, EnumO it (k + 1)), (it, StrIterO x tx (k + 1))] ++ own) s' → s'.heap.IsTuple t #[.int k tk, .str (txt [c]) tc] → wpAny (model prog w) A (assign (.Tuple elts x1 tp) env (.ref t)) Q NoE s') :
    wpAny (model prog w) A (pyNext (.ref e)) (fun r s1 => ∃ v, r = some v ∧ wpAny (model prog w) A (letOwnedTupleGo (.Tuple elts x1 tp) (.ref e) v) (fun _ s2 => wpAny (model prog w) A (assign (.Tuple elts x1 tp) env v) Q NoE s2) NoE s1) NoE s := by
  obtain ⟨old, he⟩ := C.enum 0 rfl
  obtain ⟨oi, hoi, hci, hdi⟩ := C.get 1 rfl
  have hne : e ≠ it := by
    have := C.nd
    simp only [List.cons_append, List.nil_append, List.map_cons, List.nodup_cons, List.mem_cons, not_or] at this
    exact this.1.1
  have hel : e < s.heap.objs.size := Heap.lt_size he
  have hk : k < x.cps.size := (Array.getElem?_eq_some_iff.mp hv).1
  refine wpAny_pyNext_enum_itemD (Draws.strAscii (A := A.in1) hh it x tx) he ⟨oi, hoi, hci, hdi⟩ hk hne (by simpa using hne) fun y h1 tk hP heo hit1 ht1 hz1 hk1 => ⟨_, rfl, ?_⟩
  obtain ⟨c', u, hc', rfl⟩ := hP
  rw [hv] at hc'; cases hc'
  refine wpAny_letOwnedTupleGo_enum heo fun h2 he2 hs2 => ?_
  refine h _ s.heap.objs.size tk u ?_ ⟨_, (hs2.2 _ (Nat.ne_of_gt hel)).trans ht1, rfl, 0, rfl⟩
  refine C.multi (chg := [(e, EnumO it k), (it, StrIterO x tx k)]) [(e, EnumO it (k + 1)), (it, StrIterO x tx (k + 1))] (h' := h2) (t := tk + 1) (List.Sublist.refl _) (fun b o hb ho => ?_) fun p hp => ?_
  · simp only [List.map_cons, List.map_nil, List.mem_cons, List.not_mem_nil, or_false, not_or] at hb
    exact hs2.extBut b o hb.1 (hk1 b o hb.1 hb.2 ho)
  · simp only [List.mem_cons, List.not_mem_nil, or_false] at hp
    rcases hp with rfl | rfl
    · exact ⟨_, he2, .str ⟨#[c]⟩ u, rfl⟩
    · obtain ⟨o, ho, hc, hd⟩ := hit1.extBut hs2.extBut (Ne.symm hne)
      exact ⟨o, ho, hc, hd⟩
theorem enumS_done {e it : Addr} {Q : Option Value → Shared → Prop} (hh : A.handled = none) (C : Cx B s₀ L m ([(e, EnumO it x.cps.size), (it, StrIterO x tx x.cps.size)] ++ own) s)
    (h : ∀ s', Cx B s₀ L m own s' → Q none s') : wpAny (model prog w) A (pyNext (.ref e)) Q E s := by
  obtain ⟨old, he⟩ := C.enum 0 rfl
  obtain ⟨oi, hoi, hci, hdi⟩ := C.get 1 rfl
  refine wpAny_pyNext_enum_endD (Draws.strAscii (A := A.in1) hh it x tx) he ⟨oi, hoi, hci, hdi⟩ fun h' hs' => h _ ?_
  exact C.multi (chg := [(e, EnumO it x.cps.size), (it, StrIterO x tx x.cps.size)]) [] (h' := h') (t := s.toks) (List.nil_sublist _) (fun b o hb ho => hs' b o (fun q => hb (by simp [q])) ho) fun p hp => nomatch hp

/-! ## a generator's own frame -/
structure Gb (Bg : Heap) (J : List Spec) (s₀ : Shared) (as : List Addr) (B : Heap) : Prop where
  hb : ∀ b o, b ∉ J.map (·.1) → s₀.heap.get? b = some o → B.get? b = some o
  bg : Keeps Bg B
  ad : ∀ a ∈ as, a ∈ J.map (·.1) ∨ s₀.heap.get? a = none
theorem Gb.keeps {J : List Spec} {as : List Addr} {B' : Heap} (G : Gb Bg J s₀ as B) (k : Keeps B B') : Gb Bg J s₀ as B' := ⟨fun b o h e => k _ _ (G.hb b o h e), G.bg.trans' k, G.ad⟩
theorem Gb.trans {J : List Spec} {as : List Addr} {c : Loc → Prop} (G : Gb Bg J s₀ as B) (C : Cx B s₀ L m own s) (hs : ∀ a ∈ L :: own.map (·.1), a ∈ as) (hc : c m) : Trans J ((L, NsP c) :: own) s₀ s := by
  refine ⟨fun b o hb e => C.keep _ _ (G.hb b o hb e), fun p hp => ?_, ?_, fun p hp => ?_, C.g⟩
  · rcases List.mem_cons.mp hp with rfl | hp
    · obtain ⟨o, ho, h⟩ := nsO_of C.ns; exact ⟨o, ho, m, hc, h⟩
    · exact C.has p hp
  · rw [List.map_cons, List.nodup_cons]
    refine ⟨fun hm => ?_, C.nd⟩
    obtain ⟨p, hp, e⟩ := List.mem_map.mp hm
    exact (C.off p hp).2 e
  · exact G.ad _ (hs _ (by
      rcases List.mem_cons.mp hp with rfl | hp
      · exact .head _
      · exact .tail _ (List.mem_map_of_mem (f := (·.1)) hp)))
theorem Gb.transEnd {J : List Spec} {as : List Addr} (G : Gb Bg J s₀ as B) (C : Cx B s₀ L m own s) : Trans J [] s₀ s :=
  ⟨fun b o hb e => C.keep _ _ (G.hb b o hb e), fun _ hp => (nomatch hp), List.nodup_nil, fun _ hp => (nomatch hp), C.g⟩
theorem Gb.wake {c : Loc → Prop} (hJ : HasAll ((L, NsP c) :: own) s.heap) (hB : Keeps Bg s.heap) (nd : (L :: own.map (·.1)).Nodup) (hn : ∀ a ∈ L :: own.map (·.1), Bg.get? a = none) :
    ∃ m B, c m ∧ Cx B s L m own s ∧ Gb Bg ((L, NsP c) :: own) s (L :: own.map (·.1)) B := by
  obtain ⟨o, ho, m, hc, hm⟩ := hJ _ (.head _)
  refine ⟨m, hideAll s.heap (L :: own.map fun p : Spec => p.1), hc, ⟨fun b o e => of_hideAll _ e, ns_of ⟨o, ho, hm⟩, fun p hp => hJ p (.tail _ hp), hideAll_none _ (.head _), fun p hp => ⟨hideAll_none _ (.tail _ (List.mem_map_of_mem (f := (·.1)) hp)), fun q => ?_⟩, (List.nodup_cons.mp nd).2, Gx.refl _⟩, ⟨fun b o hb e => hideAll_get (l := L :: own.map fun p : Spec => p.1) e hb, fun b o e => hideAll_get _ (hB _ _ e) fun q => ?_, fun a ha => .inl ha⟩⟩
  · exact (List.nodup_cons.mp nd).1 (q ▸ List.mem_map_of_mem (f := (·.1)) hp)
  · rw [hn _ q] at e; cases e
end
end Mine
end

section
open PySem PySem.Calls PySem.W PyProof.Rows
set_option maxRecDepth 100000
set_option autoImplicit false
set_option linter.all false
namespace Mine
def evs : Nat → Bool → List Nat → List (Nat × List Nat × Nat × Nat)
  | q, e, [] => if e then [(q - 1, [92], q, 2)] else []
  | q, true, c :: r => (q, [92, c], q + 1, 0) :: evs (q + 1) false r
  | q, false, c :: r => if c = 92 then evs (q + 1) true r else (q, [c], q + 1, 1) :: evs (q + 1) false r
def for4 : PySem.Expr × List Stmt × List Stmt := match (defAt 4).2.1 with
  | _ :: _ :: .For t _ b _ _ :: rest => (t, b, rest)
  | _ => default
def K0 : Flow → Sem Fin := fun f => .pure (.done (.ret (match f with | .ret v => v | _ => .none)))
def H0 (env : Env) : Value → Sem Fin := fun e => (leaving env e).wrap (fun _ => .raise e) .raise id id
def thenK (env : Env) (rest : List Stmt) (K : Flow → Sem Fin) (H : Value → Sem Fin) : Flow → Sem Fin := fun f => match f with | .next => (execs rest env).wrap K H id id | f => K f
abbrev GenS (prog : Program) (w : World) (A : Around) (N : Nat) (fin : Bool) (Jf : Nat → List Spec) (val : Nat → Value → Heap → Prop) (Bg : Heap) (k : Nat) (s₀ : Shared) (c : Code) (t : Sem Fin) (fs : List Frame) (s : Shared) : Prop :=
  Seg (model prog w) A (protoP N Jf) (protoY N fin Jf val Bg) (N - k + 1) s₀ c t fs s
section
variable {prog : Program} {w : World} {A : Around} {s s₀ : Shared} {B Bg : Heap} {Lg : Addr} {m : Loc} {own : List Spec} {env : Env} {tx : Tok}
/-- a yield of a generator, and what goes on behind it -/
theorem gen_yield {N k : Nat} {fin : Bool} {Jf : Nat → List Spec} {val : Nat → Value → Heap → Prop} {c : Code} {fs : List Frame} {K : Flow → Sem Fin} {H : Value → Sem Fin} {e : PySem.Expr} {ypos pos : Pos} (hfs : splitAtGen fs = none) (hfg : fs.any Frame.guarded = false) (hk : k < N)
    (h : wpAny (model prog w) (A.over c fs) (eval e env) (fun v s' => Trans (Jf k) (Jf (k + 1)) s₀ s' ∧ val k v s'.heap ∧ ((fin = true ∨ k + 1 < N) → ∀ s'' : Shared, HasAll (Jf (k + 1)) s''.heap → Keeps Bg s''.heap →
      GenS prog w A N fin Jf val Bg (k + 1) s'' c (K .next) fs s'')) (fun _ _ => False) s) (hco : env.scope.isCoroutine = false := by rfl) (hi : interactive env = false := by rfl) :
    GenS prog w A N fin Jf val Bg k s₀ c ((exec (.Expr (.Yield (some e) ypos) pos) env).wrap K H id id) fs s := by
  refine seg_Expr_Yield hfs rfl hfg (wpAny_mono h (fun v s' h' kap hkap => ?_) fun _ _ x => x.elim) hco hi
  refine ⟨k, by omega, hk, h'.1, h'.2.1, fun hp s'' hJ hB => hkap .none s'' ?_⟩
  have := h'.2.2 hp s'' hJ hB
  unfold GenS at this
  rw [show N - (k + 1) + 1 = N - k by omega] at this
  exact this

theorem seg_enumS {R : GenEnd} {Y : Protocol} {n : Nat} {fs : List Frame} {x y : Str} {px py tp : Pos} {x1 : Nat} {e it : Addr} {k c : Nat} {X : Str} {body : List Stmt} {sw : Shared} (C : Cx B s₀ Lg m ([(e, EnumO it k), (it, StrIterO X tx k)] ++ own) s)
    (hh : (A.over (forC (.Tuple [.Name x px, .Name y py] x1 tp) (.ref e) body env) fs).handled = none) (hv : X.cps[k]? = some c)
    (h : ∀ s' tk tc, Cx B s₀ Lg (upd (upd m x (.int k tk)) y (.str (txt [c]) tc)) ([(e, EnumO it (k + 1)), (it, StrIterO X tx (k + 1))] ++ own) s' →
      Seg (model prog w) A R Y n sw (forC (.Tuple [.Name x px, .Name y py] x1 tp) (.ref e) body env) ((execs body env).wrap (forK (.Tuple [.Name x px, .Name y py] x1 tp) (.ref e) body env) (errH env) id id) fs s')
    (hk : env.scope.kind = .function := by rfl) (hx : env.kindOf x = some .local := by kernel_rfl!) (hy : env.kindOf y = some .local := by kernel_rfl!) (hL : env.locals = Lg := by rfl) :
    Seg (model prog w) A R Y n sw (forC (.Tuple [.Name x px, .Name y py] x1 tp) (.ref e) body env) ((model prog w).den (forC (.Tuple [.Name x px, .Name y py] x1 tp) (.ref e) body env)) fs s := by
  refine seg_forLoop (wpAny_mono (enumS_item (elts := [.Name x px, .Name y py]) (x1 := x1) (tp := tp) (env := env) (Q := fun _ s3 => Seg (model prog w) A R Y n sw (forC (.Tuple [.Name x px, .Name y py] x1 tp) (.ref e) body env) ((execs body env).wrap (forK (.Tuple [.Name x px, .Name y py] x1 tp) (.ref e) body env) (errH env) id id) fs s3) C hh hv fun s1 t tk tc C1 ht => as2 C1 hh ht (fun s2 C2 => h s2 tk tc C2) hk hx hy hL) (fun rr s1 h1 => ?_) fun _ _ x => x)
  obtain ⟨v, rfl, h⟩ := h1
  exact h

def JIter (Lg e it : Addr) (l : List Nat) (tx : Tok) (its : List (Nat × List Nat × Nat × Nat)) : Nat → List Spec
  | 0 => [(Lg, NsP fun m => m "addr" = some (.str (txt l) tx))]
  | k + 1 => match its[k]? with
    | some (_, _, q, fl) => if fl = 2 then [(Lg, NsP fun _ => True)] else [(Lg, NsP fun m => fl = 1 → m "escape" = some (.bool false)), (e, EnumO it q), (it, StrIterO (txt l) tx q)]
    | none => []
def ItVal (its : List (Nat × List Nat × Nat × Nat)) (k : Nat) (v : Value) (h : Heap) : Prop := ∃ p cs q fl t tp tc, its[k]? = some (p, cs, q, fl) ∧ v = .ref t ∧ h.IsTuple t #[.int (p : Nat) tp, .str (txt cs) tc]

theorem iter_loop {l : List Nat} {e it : Addr} {its : List (Nat × List Nat × Nat × Nat)} {cd : Value} {p0 : Pos} (hh : A.handled = none) (hn : ∀ a ∈ [Lg, e, it], Bg.get? a = none) :
    ∀ (r : List Nat) (q : Nat) (esc : Bool) (k : Nat) (B : Heap) (m : Loc) (s₀ s : Shared), k ≤ its.length → its.drop k = evs q esc r → l.drop q = r → q + r.length = l.length → Gb Bg (JIter Lg e it l tx its k) s₀ [Lg, e, it] B →
      Cx B s₀ Lg m [(e, EnumO it q), (it, StrIterO (txt l) tx q)] s → m "escape" = some (.bool esc) → (esc = true → ∃ t, m "pos" = some (.int ((q - 1 : Nat) : Int) t)) →
      GenS prog w A its.length true (JIter Lg e it l tx its) (ItVal its) Bg k s₀ (forC for4.1 (.ref e) for4.2.1 (envAt 4 Lg 39 cd)) ((model prog w).den (forC for4.1 (.ref e) for4.2.1 (envAt 4 Lg 39 cd)))
        [.ret (loopK (envAt 4 Lg 39 cd) (thenK (envAt 4 Lg 39 cd) for4.2.2 K0 (H0 (envAt 4 Lg 39 cd))) (H0 (envAt 4 Lg 39 cd)) id id) none false [] (.func (defAt 4).2.1 (envAt 4 Lg 39 cd)) p0 []] s := by
  have e1 : for4.1 = for4.1 := rfl
  conv at e1 => lhs; whnf
  have e2 : for4.2.1 = for4.2.1 := rfl
  conv at e2 => lhs; whnf
  have e3 : for4.2.2 = for4.2.2 := rfl
  conv at e3 => lhs; whnf
  rw [← e1, ← e2, ← e3]
  clear e1 e2 e3
  intro r
  induction r with
  | nil =>
    intro q esc k B m s₀ s hkN hits hr hql G C hesc hpos
    have hq : q = (txt l).cps.size := by show q = l.toArray.size; simpa using hql
    refine seg_forLoop (enumS_done hh (own := []) (by rw [← hq]; exact C) fun s1 C1 => ?_)
    refine seg_leaf _ ?_
    show Seg _ A _ _ _ s₀ _ ((execs _ _).wrap K0 _ id id) [] s1
    refine seg_execs_cons (seg_If (wpAny_isTrue_value (ldN C1 hesc (wpAny_truthy_bool ?_))))
    cases esc with
    | false =>
      rw [if_neg Bool.false_ne_true]
      have hk : k = its.length := Nat.le_antisymm hkN (List.drop_eq_nil_iff.mp hits)
      subst hk
      refine seg_execs_nil (seg_execs_nil (seg_end (.ok (.ret .none)) ⟨rfl, by omega, G.transEnd C1⟩))
    | true =>
      rw [if_pos rfl]
      have hits : its.drop k = [(q - 1, [92], q, 2)] := hits
      have hlen : its.length = k + 1 := by have := congrArg List.length hits; simp at this; omega
      have hik : its[k]? = some (q - 1, [92], q, 2) := by have := congrArg (·[0]?) hits; simpa using this
      have hJ : JIter Lg e it l tx its (k + 1) = [(Lg, NsP fun _ => True)] := by show (match its[k]? with | some (_, _, q, fl) => _ | none => _) = _; rw [hik]; rfl
      obtain ⟨tp, hpos⟩ := hpos rfl
      refine seg_execs_cons (gen_yield rfl rfl (by omega) (wpAny_Tuple (items2 (ldN C1 hpos (kS C1 fun s2 t2 C2 => ⟨size_small rfl, ?_⟩)))))
      have C3 := C2.pushAny { cls := .type "tuple", data := .seq #[.int ((q - 1 : Nat) : Int) tp, .str (Str.ofString "\\") t2] }
      refine ⟨?_, ⟨q - 1, [92], q, 2, _, tp, t2, hik, rfl, isTuple_push⟩, fun _ s'' hJ' hB' => ?_⟩
      · rw [hJ]; exact G.trans C3 (by simp) trivial
      · rw [hJ] at hJ'
        obtain ⟨m4, B4, -, C4, G4⟩ := Gb.wake hJ' hB' (by simp) (by intro a ha; exact hn a (by simp at ha; simp [ha]))
        refine seg_execs_nil (seg_execs_nil (seg_end (.ok (.ret .none)) ⟨rfl, by omega, ?_⟩))
        rw [hlen, hJ]
        exact G4.transEnd C4
  | cons c r ih =>
    intro q esc k B m s₀ s hkN hits hr hql G C hesc hpos
    have hv : (txt l).cps[q]? = some c := by
      show l.toArray[q]? = some c
      have := congrArg (·[0]?) hr
      simpa using this
    have hr' : l.drop (q + 1) = r := by rw [← List.drop_drop, hr]; rfl
    simp only [List.length_cons] at hql
    refine seg_enumS (own := []) C hh hv fun s2 tk tc C2 => ?_
    have hesc2 : upd (upd m "pos" (.int q tk)) "ch" (.str (txt [c]) tc) "escape" = some (.bool esc) := upd_ne (upd_ne hesc (by decide)) (by decide)
    refine seg_execs_cons (seg_If (wpAny_isTrue_value (ldN C2 hesc2 (wpAny_truthy_bool ?_))))
    cases esc with
    | true =>
      rw [if_pos rfl]
      have hits : its.drop k = (q, [92, c], q + 1, 0) :: evs (q + 1) false r := hits
      have hik : its[k]? = some (q, [92, c], q + 1, 0) := by have := congrArg (·[0]?) hits; simpa using this
      have hkN' : k < its.length := (List.getElem?_eq_some_iff.mp hik).1
      have hits' : its.drop (k + 1) = evs (q + 1) false r := by rw [← List.drop_drop, hits]; rfl
      have hJ : JIter Lg e it l tx its (k + 1) = [(Lg, NsP fun m => (0 : Nat) = 1 → m "escape" = some (.bool false)), (e, EnumO it (q + 1)), (it, StrIterO (txt l) tx (q + 1))] := by
        show (match its[k]? with | some (_, _, q, fl) => _ | none => _) = _; rw [hik]; rfl
      have heq : Str.ofString "\\" ++ txt [c] = txt [92, c] := by rw [show Str.ofString "\\" = txt [92] from by decide]; exact txt_append _ _
      refine seg_execs_cons (gen_yield rfl rfl hkN' (wpAny_Tuple (items2 (ldN C2 (upd_ne upd_same (by decide)) (wpAny_BinOp (kS C2 fun s3 t3 C3 => ldN C3 upd_same (SB.add (fun t' kk => ⟨size_small rfl, ?_⟩) (by rw [txt_len, List.length_singleton]; decide))))))))
      rw [heq]
      have C4 := (C3.tok kk).pushAny { cls := .type "tuple", data := .seq #[.int (q : Int) tk, .str (txt [92, c]) t'] }
      refine ⟨?_, ⟨q, [92, c], q + 1, 0, _, tk, t', hik, rfl, isTuple_push⟩, fun _ s'' hJ' hB' => ?_⟩
      · rw [hJ]; exact G.trans C4 (by simp) (fun h => by cases h)
      · rw [hJ] at hJ'
        have hnodup : (Lg :: [e, it]).Nodup := by
          have h1 := C.nd
          have h2 := C.off _ (.head _)
          have h3 := C.off _ (.tail _ (.head _))
          simp only [List.nodup_cons, List.mem_cons, List.not_mem_nil, or_false, not_or]
          simp only [List.map_cons, List.map_nil, List.nodup_cons, List.mem_cons, List.not_mem_nil, or_false] at h1
          exact ⟨⟨Ne.symm h2.2, Ne.symm h3.2⟩, h1⟩
        obtain ⟨m5, B5, -, C5, G5⟩ := Gb.wake hJ' hB' hnodup hn
        refine seg_execs_cons (seg_stmt (wpAny_Assign_Name (wpAny_Constant_bool (stM C5 fun s6 C6 => ?_))))
        refine seg_execs_nil (seg_execs_nil (seg_again rfl ?_))
        exact ih (q + 1) false (k + 1) B5 _ s'' s6 hkN' hits' hr' (by omega) (by rw [hJ]; exact G5) C6 upd_same (fun h => by cases h)
    | false =>
      rw [if_neg Bool.false_ne_true]
      refine seg_execs_cons (seg_If (wpAny_isTrue_Compare1 (ldN C2 upd_same (kS C2 fun s3 t3 C3 => eq_str (wpAny_truthy_bool ?_)))))
      by_cases hc : c = 92
      · subst hc
        have hits : its.drop k = evs (q + 1) true r := hits
        rw [if_pos (by decide)]
        refine seg_execs_cons (seg_stmt (wpAny_Assign_Name (wpAny_Constant_bool (stM C3 fun s4 C4 => ?_))))
        refine seg_execs_nil (seg_execs_nil (seg_execs_nil (seg_again rfl ?_)))
        exact ih (q + 1) true k B _ s₀ s4 hkN hits hr' (by omega) G C4 upd_same (fun _ => ⟨tk, upd_ne (upd_ne upd_same (by decide)) (by decide)⟩)
      · have hits : its.drop k = (q, [c], q + 1, 1) :: evs (q + 1) false r := by rw [hits]; show (if c = 92 then _ else _) = _; rw [if_neg hc]
        have hne : (txt [c] == Str.ofString "\\") = false := by
          rw [beq_eq_false_iff_ne]
          intro h
          rw [show Str.ofString "\\" = txt [92] from by decide] at h
          have := congrArg (fun s => s.cps.toList) h
          simp [txt] at this
          exact hc this
        rw [hne, if_neg Bool.false_ne_true]
        have hik : its[k]? = some (q, [c], q + 1, 1) := by have := congrArg (·[0]?) hits; simpa using this
        have hkN' : k < its.length := (List.getElem?_eq_some_iff.mp hik).1
        have hits' : its.drop (k + 1) = evs (q + 1) false r := by rw [← List.drop_drop, hits]; rfl
        have hJ : JIter Lg e it l tx its (k + 1) = [(Lg, NsP fun m => (1 : Nat) = 1 → m "escape" = some (.bool false)), (e, EnumO it (q + 1)), (it, StrIterO (txt l) tx (q + 1))] := by
          show (match its[k]? with | some (_, _, q, fl) => _ | none => _) = _; rw [hik]; rfl
        refine seg_execs_cons (gen_yield rfl rfl hkN' (wpAny_Tuple (items2 (ldN C3 (upd_ne upd_same (by decide)) (ldN C3 upd_same ⟨size_small rfl, ?_⟩)))))
        have C4 := C3.pushAny { cls := .type "tuple", data := .seq #[.int (q : Int) tk, .str (txt [c]) tc] }
        refine ⟨?_, ⟨q, [c], q + 1, 1, _, tk, tc, hik, rfl, isTuple_push⟩, fun _ s'' hJ' hB' => ?_⟩
        · rw [hJ]; exact G.trans C4 (by simp) (fun _ => hesc2)
        · rw [hJ] at hJ'
          have hnodup : (Lg :: [e, it]).Nodup := by
            have h1 := C.nd
            have h2 := C.off _ (.head _)
            have h3 := C.off _ (.tail _ (.head _))
            simp only [List.nodup_cons, List.mem_cons, List.not_mem_nil, or_false, not_or]
            simp only [List.map_cons, List.map_nil, List.nodup_cons, List.mem_cons, List.not_mem_nil, or_false] at h1
            exact ⟨⟨Ne.symm h2.2, Ne.symm h3.2⟩, h1⟩
          obtain ⟨m5, B5, hm5, C5, G5⟩ := Gb.wake hJ' hB' hnodup hn
          refine seg_execs_nil (seg_execs_nil (seg_execs_nil (seg_again rfl ?_)))
          exact ih (q + 1) false (k + 1) B5 _ s'' s'' hkN' hits' hr' (by omega) (by rw [hJ]; exact G5) C5 (hm5 rfl) (fun h => by cases h)
end
end Mine
end

section
open PySem PySem.Calls PySem.W PyProof.Rows
set_option maxRecDepth 100000
set_option autoImplicit false
set_option linter.all false
namespace Mine
section
variable {prog : Program} {w : World} {M : Model} {A : Around} {E : Value → Shared → Prop} {s s₀ : Shared} {B Bg : Heap} {L Lg : Addr} {m : Loc} {own : List Spec} {env : Env} {tx : Tok}
theorem stMz {x : Str} {v : Value} {Q : Unit → Shared → Prop} (C : Cx B s₀ L m own s) (h : ∀ s', Cx B s₀ L (upd m x v) own s' → s'.heap.objs.size = s.heap.objs.size → Q () s')
    (hk : env.scope.kind = .function := by rfl) (hl : env.kindOf x = some .local := by kernel_rfl!) (hL : env.locals = L := by rfl) :
    wpAny M A (storeName env x v) Q E s := by
  subst hL
  exact wpAny_storeName_local hl C.ns (fun _ hn hs => h _ (C.setL hn hs) hs.1) (by rw [hk]; rfl)

theorem iter_fresh {l : List Nat} {cd : Value} (hh : A.handled = none) (G : GL Bg) (hL : Bg.get? Lg = none) (hl : (txt l).cps.all (· < 128) = true) :
    Ready prog w A (evs 0 false l).length true (ItVal (evs 0 false l)) Bg 0 [(Lg, NsP fun m => m "addr" = some (.str (txt l) tx))] (.fresh (.func (defAt 4).2.1 (envAt 4 Lg 39 cd))) := by
  intro _ _ s hJ hB
  refine ⟨JIter Lg (s.heap.objs.size + 1) s.heap.objs.size l tx (evs 0 false l), rfl, rfl, ?_⟩
  obtain ⟨m, B, hm, C, Gn⟩ := Gb.wake hJ hB (by simp) (by intro a ha; simp at ha; rw [ha]; exact hL)
  refine seg_func ?_
  have e : (defAt 4).2.1 = (defAt 4).2.1 := rfl
  conv at e => lhs; whnf
  rw [← e]
  refine seg_execs_cons (seg_stmt (wpAny_Assign_Name (wpAny_Constant_int (stMz (C.tok _) fun s1 C1 z1 => ?_))))
  refine seg_execs_cons (seg_stmt (wpAny_Assign_Name (wpAny_Constant_bool (stMz C1 fun s2 C2 z2 => ?_))))
  have hz : s2.heap.objs.size = s.heap.objs.size := z2.trans z1
  refine seg_execs_cons (seg_For (callT1 (ldB (G.keeps (Gn.bg.trans' C2.keep)) 18 2 rfl rfl ⟨rfl, ldN C2 (upd_ne (upd_ne hm (by decide)) (by decide)) (callEnumS hl C2 fun s3 C3 => ?_)⟩)))
  rw [hz] at C3 ⊢
  obtain ⟨old, he⟩ := C3.enum 0 rfl
  refine wpAny_pyIter_enum he fun p => ?_
  rw [e]
  have hfr : ∀ a ∈ [s.heap.objs.size + 1, s.heap.objs.size], s.heap.get? a = none := by
    intro a ha
    cases q : s.heap.get? a with
    | none => rfl
    | some o => have := Heap.lt_size q; simp at ha; rcases ha with rfl | rfl; exact absurd this (Nat.not_lt.mpr (Nat.le_succ _)); exact absurd this (Nat.lt_irrefl _)
  refine iter_loop hh ?_ l 0 false 0 B _ s s3 (Nat.zero_le _) rfl rfl (Nat.zero_add _) ⟨Gn.hb, Gn.bg, ?_⟩ C3 upd_same (fun h => by cases h)
  · intro a ha
    rcases List.mem_cons.mp ha with rfl | ha
    · exact hL
    · have := hfr a ha
      cases q : Bg.get? a with
      | none => rfl
      | some o => rw [hB _ _ q] at this; cases this
  · intro a ha
    rcases List.mem_cons.mp ha with rfl | ha
    · exact .inl (.head _)
    · exact .inr (hfr a ha)

theorem Cx.newNs (C : Cx B s₀ L m own s) {h' : Heap} {m' : Loc} {t : Nat} {o : Obj} (hn : h'.Ns s.heap.objs.size m') (hs : Heap.SameBut s.heap.objs.size (s.heap.push o) h') :
    Cx B s₀ L m ((s.heap.objs.size, NsO m') :: own) { s with heap := h', toks := t } := by
  have k : Keeps s.heap h' := fun b o' e => (hs.2 b (Nat.ne_of_lt (Heap.lt_size e))).trans (Heap.get?_push_of_some _ e)
  have hB : B.get? s.heap.objs.size = none := by
    cases q : B.get? s.heap.objs.size with
    | none => rfl
    | some o' => exact absurd (Heap.lt_size (C.keep _ _ q)) (Nat.lt_irrefl _)
  refine ⟨C.keep.trans' k, C.ns.keeps k, fun p hp => ?_, C.offL, fun p hp => ?_, ?_, C.g.trans Gx.heap⟩
  · rcases List.mem_cons.mp hp with rfl | hp
    · exact nsO_of hn
    · obtain ⟨o', e, r⟩ := C.has p hp; exact ⟨o', k _ _ e, r⟩
  · rcases List.mem_cons.mp hp with rfl | hp
    · exact ⟨hB, Nat.ne_of_gt C.ltL⟩
    · exact C.off p hp
  · rw [List.map_cons, List.nodup_cons]
    refine ⟨fun hm => ?_, C.nd⟩
    obtain ⟨p, hp, e⟩ := List.mem_map.mp hm
    exact Nat.lt_irrefl _ (e ▸ C.lt hp)
theorem Gx.size (G : Gx s₀ s) : s₀.gens.size ≤ s.gens.size := by
  rcases Nat.lt_or_ge s.gens.size s₀.gens.size with h | h
  · have := G.gens s.gens.size _ (Array.getElem?_eq_getElem h)
    rw [Array.getElem?_eq_none (Nat.le_refl _)] at this
    cases this
  · exact h
theorem Gx.pushGen {c : Code} (G : Gx s₀ s) : Gx s₀ { s with gens := s.gens.push (.fresh c) } := by
  refine ⟨fun i x e => ?_, fun h => (G.bare h).push rfl, G.os⟩
  have h1 := G.gens i x e
  have h2 := (Array.getElem?_eq_some_iff.mp h1).1
  show (s.gens.push _)[i]? = some x
  rw [Array.getElem?_push, if_neg (Nat.ne_of_lt h2)]; exact h1
/-- a call of a generator's function -/
theorem callGen {k : Nat} {dV kV pm cd : Value} {f : Addr} {args : List Value} {binds : List (Str × Value)} {Q : Value → Shared → Prop}
    (C : Cx B s₀ L m own s) (lim : s.heap.NoLimit) (hf : FnAt s.heap f (fd k dV kV pm cd)) (hroom : A.depth < recursionLimit) (hbind : BindsTo s (fd k dV kV pm cd) ⟨args, []⟩ binds)
    (h : ∀ Lg a B' s', Keeps B B' → Cx B' s₀ L m ((Lg, NsO fun x => binds.reverse.lookup x) :: own) s' → B'.IsGen a s.gens.size → s'.gens = s.gens.push (.fresh (.func (defAt k).2.1 (envAt k Lg f cd))) → Q (.ref a) s')
    (hloc : ∀ x ∈ binds, (defAt k).2.2.names.lookup x.1 = some .local := by exact locs (by kernel_rfl!))
    (hco : (defAt k).2.2.isCoroutine = false := by rfl) (hgen : (defAt k).2.2.isGenerator = true := by rfl) (hk : (defAt k).2.2.kind = .function := by rfl)
    (hcell : ∀ x ∈ (defAt k).2.2.names, x.2 ≠ .cell := by decide) : wpAny (model prog w) A (call (.ref f) args []) Q E s := by
  refine wpAny_call (codeAny_call_generator (fd := fd k dV kV pm cd) hroom hf.1 rfl hco hgen rfl hf.2 ?_)
  refine hbind _ _ _ _ (wpAny_newFunctionEnv hcell hloc (fun h₁ hns hsb => ⟨lim.fresh _ hsb, ?_⟩) hk)
  have C1 := C.newNs hns hsb (t := s.toks + binds.length)
  obtain ⟨B', k', C2, o, ho, rfl⟩ := (C1.push { cls := .type "generator", data := .fields #[.int s.gens.size 0, .str (fd k dV kV pm cd).name (s.toks + binds.length), .str (fd k dV kV pm cd).qualname (s.toks + binds.length + 1)] } rfl (P := fun o => o = { cls := .type "generator", data := .fields #[.int s.gens.size 0, .str (fd k dV kV pm cd).name (s.toks + binds.length), .str (fd k dV kV pm cd).qualname (s.toks + binds.length + 1)] }) rfl).freeze
  have C3 := C2.tok (s.toks + binds.length + 1 + 1)
  exact h s.heap.objs.size _ B' _ k' ⟨C3.keep, C3.ns, C3.has, C3.offL, C3.off, C3.nd, C3.g.pushGen⟩ ⟨_, _, _, ho, rfl, rfl, rfl⟩ rfl
end
end Mine
end

section
open PySem PySem.Calls PySem.W PyProof.Rows
set_option maxRecDepth 100000
set_option autoImplicit false
set_option linter.all false
namespace Mine
def checkFrom : Int → List (List Nat) → Bool
  | o, [] => o == 0
  | o, cs :: r => if cs = [40] then checkFrom (o + 1) r else if cs = [41] then (if o - 1 < 0 then false else checkFrom (o - 1) r) else checkFrom o r
theorem txt_inj {a b : List Nat} (h : txt a = txt b) : a = b := by
  have := congrArg (fun s => s.cps.toList) h
  simpa [txt] using this
theorem txt_beq (a b : List Nat) : (txt a == txt b) = decide (a = b) := by
  by_cases h : a = b
  · subst h; simp
  · rw [decide_eq_false h, beq_eq_false_iff_ne]; exact fun q => h (txt_inj q)
section
variable {prog : Program} {w : World} {A : Around} {E : Value → Shared → Prop} {s : Shared}
theorem strip_spec {l : List Nat} {tx : Tok} {Q : Value → Shared → Prop} (G : GL s.heap) (hl : 34 ∉ l) (hd : A.depth < recursionLimit)
    (h : ∀ s', Done s s' → Q (.str (txt l) tx) s') : wpAny (model prog w) A (call (.ref 46) [.str (txt l) tx]) Q E s := by
  obtain ⟨pm, cd, hf⟩ := G.fStrip
  refine callDef G.lim hf hd (BindsTo.of_eq (binds := [("addr", .str (txt l) tx)]) (by kernel_rfl!)) fun L s₁ nL C => ?_
  have e : (defAt 5).2.1 = (defAt 5).2.1 := rfl
  conv at e => lhs; whnf
  rw [← e]; clear e
  have ho : (!(Builtin.Str.occurrences (txt l) (Str.ofString "\"") 0 (txt l).length 1).isEmpty) = false := by
    rw [show Str.ofString "\"" = ⟨#[34]⟩ from by decide, StrLaws.found_one]
    exact decide_eq_false hl
  refine wpAny_execs_cons (wpAny_If (wpAny_isTrue_Compare1 (kS C fun s2 t2 C2 => ldN C2 (by rfl) (PyProof.Rows.notIn_str (wpAny_truthy_bool ?_)))))
  rw [ho, if_pos (by rfl)]
  exact wpAny_execs_cons (wpAny_Return_some (ldN C2 (by rfl) (h _ (C2.done (keeps_refl _)))))

set_option maxHeartbeats 1000000 in
theorem check_spec {l : List Nat} {tx : Tok} {Q : Value → Shared → Prop} (G : GL s.heap) (hl : 34 ∉ l) (hl2 : (txt l).cps.all (· < 128) = true) (hd : A.depth + 1 < recursionLimit) (hh : A.handled = none)
    (h : ∀ s', Done s s' → Q (.bool (checkFrom 0 ((evs 0 false l).map (·.2.1)))) s') : wpAny (model prog w) A (call (.ref 53) [.str (txt l) tx]) Q E s := by
  obtain ⟨pm, cd, hf⟩ := G.fCheck
  refine callDef G.lim hf (by omega) (BindsTo.of_eq (binds := [("addr", .str (txt l) tx)]) (by kernel_rfl!)) fun L s₁ nL C => ?_
  have e : (defAt 6).2.1 = (defAt 6).2.1 := rfl
  conv at e => lhs; whnf
  rw [← e]; clear e
  obtain ⟨m0, hm0, C⟩ := C.locs
  have ha : m0 "addr" = some (.str (txt l) tx) := by rw [hm0]; rfl
  clear hm0
  obtain ⟨pm5, cd5, hf5⟩ := G.fStrip
  refine wpAny_execs_cons (wpAny_Assign_Name (callE1 (B := s.heap) hf5 (ldG (G.keeps C.keep) 3 rfl ⟨rfl, ldN C ha ⟨C.keep, ?_⟩⟩)))
  refine strip_spec (G.keeps C.keep) hl hd fun s2 D2 => ?_
  obtain ⟨B2, k2, C2, -⟩ := C.call D2
  refine stM C2 fun s3 C3 => ?_
  refine wpAny_execs_cons (wpAny_Assign_Name (kI C3 fun s4 t4 C4 => stM C4 fun s5 C5 => ?_))
  obtain ⟨pm4, cd4, hf4⟩ := G.fIter
  have G5 := G.keeps (k2.trans' C5.keep)
  refine wpAny_execs_cons (forStmt (callE1 (B := s.heap) hf4 (ldG G5 2 rfl ⟨rfl, ldN C5 (upd_ne upd_same (by decide)) ⟨k2.trans' C5.keep, ?_⟩⟩)))
  refine callGen C5 G5.lim (hf4.keeps (k2.trans' C5.keep)) hd (BindsTo.of_eq (binds := [("addr", .str (txt l) tx)]) (by kernel_rfl!)) fun Lg a B6 s6 k6 C6 hi6 hg6 => ?_
  refine wpAny_pyIter_gen (hi6.keeps C6.keep) ?_
  have C7 := C6.mono1 (pre := []) (P' := NsP fun m => m "addr" = some (.str (txt l) tx)) (fun o ho => ⟨_, by rfl, ho⟩)
  have C8 : Cx B6 s6 L _ ([(Lg, NsP fun m => m "addr" = some (.str (txt l) tx))] ++ []) s6 := C7.base (Gx.refl _)
  have hσ : s6.gens[s5.gens.size]? = some (.fresh (.func (defAt 4).2.1 (envAt 4 Lg 39 cd4))) := by rw [hg6]; simp
  have GB6 : GL B6 := G.keeps (k2.trans' k6)
  refine for_genr (s₀ := s) (bnd := fun k v1 v2 => ∃ p cs q fl tp tc, (evs 0 false l)[k]? = some (p, cs, q, fl) ∧ v1 = .int (p : Nat) tp ∧ v2 = .str (txt cs) tc) C8 hσ C7.g (Gx.size C5.g) (iter_fresh hh GB6 (C7.off _ (.head _)).1 hl2) hi6 (keeps_refl _) hh GB6.lim hd
    (fun k v h hv => by obtain ⟨p, cs, q, fl, t, tp, tc, h1, h2, h3⟩ := hv; exact ⟨t, _, _, h2, h3, p, cs, q, fl, tp, tc, h1, rfl, rfl⟩)
    (fun k B m own => own = [] ∧ ∃ o t, m "opens" = some (.int o t) ∧ checkFrom 0 ((evs 0 false l).map (·.2.1)) = checkFrom o (((evs 0 false l).map (·.2.1)).drop k)) ⟨rfl, 0, _, upd_same, rfl⟩ ?_ ?_
  · rintro k σ B' m1 v1 v2 J own' s' hk hG kB ⟨rfl, o, t, ho, hc⟩ ⟨p, cs, q, fl, tp, tc, hev, rfl, rfl⟩ C9
    have hdk : ((evs 0 false l).map (·.2.1)).drop k = cs :: ((evs 0 false l).map (·.2.1)).drop (k + 1) := drop_at (by rw [List.getElem?_map, hev]; rfl)
    rw [hdk, checkFrom] at hc
    have ho2 := upd_ne (y := "opens") (x := "ch") (v := .str (txt cs) tc) (upd_ne (y := "opens") (x := "pos") (v := .int (p : Nat) tp) ho (by decide)) (by decide)
    refine wpAny_execs_cons (wpAny_If (wpAny_isTrue_Compare1 (ldN C9 upd_same (kS C9 fun s10 t10 C10 => eq_str (wpAny_truthy_bool ?_)))))
    rw [show Str.ofString "(" = txt [40] from by decide, txt_beq]
    by_cases h40 : cs = [40]
    · rw [if_pos (by simpa using h40)]
      rw [if_pos h40] at hc
      refine wpAny_execs_cons (wpAny_AugAssign_Name (ldM C10 ho2 (kI C10 fun s11 t11 C11 => iaddI C11 fun s12 t12 C12 => stM C12 fun s13 C13 => ?_)))
      exact wpAny_execs_nil (wpAny_execs_nil ⟨B', _, [], keeps_refl _, C13, rfl, _, _, upd_same, hc⟩)
    · rw [if_neg (by simpa using h40)]
      rw [if_neg h40] at hc
      refine wpAny_execs_cons (wpAny_If (wpAny_isTrue_Compare1 (ldN C10 upd_same (kS C10 fun s11 t11 C11 => eq_str (wpAny_truthy_bool ?_)))))
      rw [show Str.ofString ")" = txt [41] from by decide, txt_beq]
      by_cases h41 : cs = [41]
      · rw [if_pos (by simpa using h41)]
        rw [if_pos h41] at hc
        refine wpAny_execs_cons (wpAny_AugAssign_Name (ldM C11 ho2 (kI C11 fun s12 t12 C12 => isubI C12 fun s13 t13 C13 => stM C13 fun s14 C14 => ?_)))
        refine wpAny_execs_cons (wpAny_If (wpAny_isTrue_Compare1 (ldN C14 upd_same (kI C14 fun s15 t15 C15 => lt_int (wpAny_truthy_bool ?_)))))
        by_cases hneg : o - 1 < 0
        · rw [if_pos (by simpa using hneg)]
          rw [if_pos hneg] at hc
          rw [hc] at h
          exact wpAny_execs_cons (wpAny_Return_some (wpAny_Constant_bool (h _ ⟨k2.trans' (k6.trans' (kB.trans' C15.keep)), hG.trans C15.g⟩)))
        · rw [if_neg (by simpa using hneg)]
          rw [if_neg hneg] at hc
          exact wpAny_execs_nil (wpAny_execs_nil (wpAny_execs_nil (wpAny_execs_nil ⟨B', _, [], keeps_refl _, C15, rfl, _, _, upd_same, hc⟩)))
      · rw [if_neg (by simpa using h41)]
        rw [if_neg h41] at hc
        exact wpAny_execs_nil (wpAny_execs_nil (wpAny_execs_nil ⟨B', _, [], keeps_refl _, C11, rfl, _, _, ho2, hc⟩))
  · rintro σ B' m' own' s' hG kB ⟨rfl, o, t, ho, hc⟩ C9
    rw [List.drop_of_length_le (by simp)] at hc
    refine wpAny_execs_cons (wpAny_Return_some (wpAny_Compare1 (ldN C9 ho (kI C9 fun s10 t10 C10 => eq_int ?_))))
    rw [hc] at h
    exact h _ ⟨k2.trans' (k6.trans' (kB.trans' C10.keep)), hG.trans C10.g⟩
end
end Mine
end

section
open PySem PySem.Calls PySem.W PyProof.Rows
set_option maxRecDepth 100000
set_option autoImplicit false
set_option linter.all false
namespace Mine
def for10 : PySem.Expr × List Stmt := match (defAt 10).2.1 with
  | _ :: .For t _ b _ _ :: _ => (t, b)
  | _ => default
def wh10 : PySem.Expr × List Stmt := match for10.2 with
  | _ :: .If _ (_ :: .While t b _ _ :: _) _ _ :: _ => (t, b)
  | _ => default
def lastY (ys : List Int) : Int := ys.getD (ys.length - 1) 0
def yAt (ys : List Int) (k : Nat) : Int := if k < ys.length then ys.getD k 0 else lastY ys
def GrVal (ys : List Int) (k : Nat) (v : Value) (_h : Heap) : Prop := ∃ t, v = .int (yAt ys k) t
def JG (Lg it ga : Addr) (ys : List Int) : Nat → List Spec
  | 0 => [(Lg, NsP fun m => m "grouping" = some (.ref ga))]
  | k + 1 => if k < ys.length then [(Lg, NsP fun m => ∃ t, m "interval" = some (.int (ys.getD k 0) t)), (it, ListIterO ga (k + 1))]
    else [(Lg, NsP fun m => ∃ t, m "last_interval" = some (.int (lastY ys) t)), (it, ListIterO ga (ys.length + 1))]
section
variable {prog : Program} {w : World} {A : Around} {s s₀ : Shared} {B Bg : Heap} {Lg : Addr} {m : Loc} {own : List Spec} {env : Env}
theorem nodup2 {it : Addr} {P : Obj → Prop} (C : Cx B s₀ Lg m [(it, P)] s) : (Lg :: [it]).Nodup := by
  have h2 := C.off _ (.head _)
  simp only [List.nodup_cons, List.mem_cons, List.not_mem_nil, or_false, not_false_eq_true, List.nodup_nil, and_self, and_true]
  exact Ne.symm h2.2
theorem seg_listE {R : GenEnd} {Y : Protocol} {n : Nat} {fs : List Frame} {x : Str} {px : Pos} {it ga : Addr} {k : Nat} {v : Value} {vs : List Value} {body : List Stmt} {sw : Shared} (C : Cx B s₀ Lg m ([(it, ListIterO ga k)] ++ own) s)
    (hl : LsAt B ga vs.toArray) (hv : vs[k]? = some v)
    (h : ∀ s', Cx B s₀ Lg (upd m x v) ([(it, ListIterO ga (k + 1))] ++ own) s' →
      Seg (model prog w) A R Y n sw (forC (.Name x px) (.ref it) body env) ((execs body env).wrap (forK (.Name x px) (.ref it) body env) (errH env) id id) fs s')
    (hk : env.scope.kind = .function := by rfl) (hx : env.kindOf x = some .local := by kernel_rfl!) (hL : env.locals = Lg := by rfl) :
    Seg (model prog w) A R Y n sw (forC (.Name x px) (.ref it) body env) ((model prog w).den (forC (.Name x px) (.ref it) body env)) fs s := by
  refine seg_forLoop (wpAny_pyNext_list_item (C.listIter 0 rfl) (hl.keeps C.keep).isList (x := v) (by simpa using hv) fun h' hi' hs' => ?_)
  have C2 : Cx B s₀ Lg m ([(it, ListIterO ga (k + 1))] ++ own) { s with heap := h' } := C.upd 0 rfl hs' (t := s.toks) hi'
  exact wpAny_pure (asN C2 (fun s' C3 => h s' C3) hk hx hL)
theorem seg_listD {R : GenEnd} {Y : Protocol} {n : Nat} {fs : List Frame} {x : Str} {px : Pos} {it ga : Addr} {vs : List Value} {body : List Stmt} {sw : Shared} (C : Cx B s₀ Lg m ([(it, ListIterO ga vs.length)] ++ own) s)
    (hl : LsAt B ga vs.toArray) (hh : (A.over (forC (.Name x px) (.ref it) body env) fs).handled = none)
    (h : ∀ s', Cx B s₀ Lg m own s' → Seg (model prog w) A R Y n sw (.block [] env) (leafOf (.ok .next)) fs s') :
    Seg (model prog w) A R Y n sw (forC (.Name x px) (.ref it) body env) ((model prog w).den (forC (.Name x px) (.ref it) body env)) fs s := by
  refine seg_forLoop (wpAny_pyNext_list_end hh (C.listIter 0 rfl) (hl.keeps C.keep).isList (by simp) fun h' hs' => h _ ?_)
  exact C.multi (chg := [(it, ListIterO ga vs.length)]) [] (h' := h') (t := s.toks) (List.nil_sublist _) (fun b o hb ho => hs' b o (fun q => hb (by simp [q])) ho) fun _ hp => (nomatch hp)

theorem grp_inf {ys : List Int} {it ga : Addr} {N : Nat} {cd : Value} {fs : List Frame} (hfs : splitAtGen fs = none) (hfg : fs.any Frame.guarded = false) (hn : ∀ a ∈ [Lg, it], Bg.get? a = none) :
    ∀ (j k : Nat) (B : Heap) (m : Loc) (s₀ s : Shared) (t : Tok), k + j + 1 = N → ys.length ≤ k → Gb Bg (JG Lg it ga ys k) s₀ [Lg, it] B → Cx B s₀ Lg m [(it, ListIterO ga (ys.length + 1))] s → m "last_interval" = some (.int (lastY ys) t) →
      GenS prog w A N false (JG Lg it ga ys) (GrVal ys) Bg k s₀ (.whileLoop wh10.1 wh10.2 [] (envAt 10 Lg 67 cd)) ((model prog w).den (.whileLoop wh10.1 wh10.2 [] (envAt 10 Lg 67 cd))) fs s := by
  have e1 : wh10.1 = wh10.1 := rfl
  conv at e1 => lhs; whnf
  have e2 : wh10.2 = wh10.2 := rfl
  conv at e2 => lhs; whnf
  rw [← e1, ← e2]
  clear e1 e2
  intro j
  induction j with
  | zero =>
    intro k B m s₀ s t hk hky G C hm
    refine seg_whileLoop (wpAny_isTrue_value (wpAny_Constant_bool (wpAny_truthy_bool ?_)))
    rw [if_pos rfl]
    have hJ : JG Lg it ga ys (k + 1) = [(Lg, NsP fun m => ∃ t, m "last_interval" = some (.int (lastY ys) t)), (it, ListIterO ga (ys.length + 1))] := if_neg (by omega)
    refine seg_execs_cons (gen_yield hfs hfg (by omega) (ldN C hm ⟨?_, ⟨t, by unfold yAt; rw [if_neg (by omega)]⟩, fun h => by rcases h with h | h; cases h; omega⟩))
    rw [hJ]; exact G.trans C (by simp) ⟨t, hm⟩
  | succ j ih =>
    intro k B m s₀ s t hk hky G C hm
    refine seg_whileLoop (wpAny_isTrue_value (wpAny_Constant_bool (wpAny_truthy_bool ?_)))
    rw [if_pos rfl]
    have hJ : JG Lg it ga ys (k + 1) = [(Lg, NsP fun m => ∃ t, m "last_interval" = some (.int (lastY ys) t)), (it, ListIterO ga (ys.length + 1))] := if_neg (by omega)
    refine seg_execs_cons (gen_yield hfs hfg (by omega) (ldN C hm ⟨?_, ⟨t, by unfold yAt; rw [if_neg (by omega)]⟩, fun _ s'' hJ' hB' => ?_⟩))
    · rw [hJ]; exact G.trans C (by simp) ⟨t, hm⟩
    · rw [hJ] at hJ'
      obtain ⟨m5, B5, ⟨t5, hm5⟩, C5, G5⟩ := Gb.wake hJ' hB' (nodup2 C) hn
      refine seg_execs_nil (seg_again rfl ?_)
      exact ih (k + 1) B5 m5 s'' s'' t5 (by omega) (by omega) (by rw [hJ]; exact G5) C5 hm5
end
end Mine
end

section
open PySem PySem.Calls PySem.W PyProof.Rows
set_option maxRecDepth 100000
set_option autoImplicit false
set_option linter.all false
namespace Mine
def TailOk (ys tl : List Int) (N : Nat) (fin : Bool) : Prop := (fin = true ∧ N = ys.length ∧ (tl = [] ∨ ∃ r, tl = 127 :: r)) ∨ (fin = false ∧ ys.length < N ∧ 0 < ys.length ∧ ∃ r, tl = 0 :: r)
section
variable {prog : Program} {w : World} {A : Around} {s s₀ : Shared} {B Bg : Heap} {Lg : Addr} {m : Loc} {own : List Spec} {env : Env} {E : Value → Shared → Prop}
theorem ldCM2 {pos : Pos} {Q : Value → Shared → Prop} (G : GL s.heap) (h : ∀ t, Q (.int 127 t) s)
    (hk : env.scope.kind = .function := by rfl) (hl : env.kindOf "CHAR_MAX" = some .globalImplicit := by kernel_rfl!) (hg : env.globals = mainGlobals := by rfl) :
    wpAny (model prog w) A (eval (.Name "CHAR_MAX" pos) env) Q E s := by
  obtain ⟨mg, t, hn, hm⟩ := G.charMax
  exact Name_function_global hk hl (loadGlobal_global (hg ▸ hn) hm (h t)) (by decide)

set_option maxHeartbeats 1000000 in
theorem grp_loop {ys tl gr : List Int} {vs : List Value} {it ga : Addr} {N : Nat} {fin : Bool} {cd : Value} {p0 : Pos} (hh : A.handled = none) (GB : GL Bg) (hl : LsAt Bg ga vs.toArray) (hi : IntsAre vs gr) (hgr : gr = ys ++ tl)
    (hys : ∀ y ∈ ys, y ≠ 0 ∧ y ≠ 127) (ht : TailOk ys tl N fin) (hn : ∀ a ∈ [Lg, it], Bg.get? a = none) :
    ∀ (j q : Nat) (B : Heap) (m : Loc) (s₀ s : Shared), q + j = ys.length → Gb Bg (JG Lg it ga ys q) s₀ [Lg, it] B → Cx B s₀ Lg m [(it, ListIterO ga q)] s → (0 < q → ∃ t, m "last_interval" = some (.int (ys.getD (q - 1) 0) t)) →
      GenS prog w A N fin (JG Lg it ga ys) (GrVal ys) Bg q s₀ (forC for10.1 (.ref it) for10.2 (envAt 10 Lg 67 cd)) ((model prog w).den (forC for10.1 (.ref it) for10.2 (envAt 10 Lg 67 cd)))
        [.ret (loopK (envAt 10 Lg 67 cd) (thenK (envAt 10 Lg 67 cd) [] K0 (H0 (envAt 10 Lg 67 cd))) (H0 (envAt 10 Lg 67 cd)) id id) none false [] (.func (defAt 10).2.1 (envAt 10 Lg 67 cd)) p0 []] s := by
  have hvl : vs.length = gr.length := hi.length
  have hglen : gr.length = ys.length + tl.length := by rw [hgr, List.length_append]
  have e1 : for10.1 = for10.1 := rfl
  conv at e1 => lhs; whnf
  have e2 : for10.2 = for10.2 := rfl
  conv at e2 => lhs; whnf
  rw [← e1, ← e2]
  intro j
  induction j with
  | succ j ih =>
    intro q B m s₀ s hq G C hlast
    have hq' : q < ys.length := by omega
    have hyq : ys[q]? = some (ys.getD q 0) := by rw [List.getD_eq_getElem?_getD, List.getElem?_eq_getElem hq']; rfl
    have hgq : gr[q]? = some (ys.getD q 0) := by rw [hgr, List.getElem?_append_left hq']; exact hyq
    obtain ⟨t, hv⟩ := intsAre_get hi hgq
    obtain ⟨hy0, hy127⟩ := hys _ (List.mem_of_getElem? hyq)
    have hqN : q < N := by rcases ht with h | h <;> omega
    refine seg_listE (own := []) C (hl.keeps G.bg) hv fun s1 C1 => ?_
    refine seg_execs_cons (seg_If (wpAny_isTrue_Compare1 (ldN C1 upd_same (ldCM2 (GB.keeps (G.bg.trans' C1.keep)) fun tc => eq_int (wpAny_truthy_bool ?_)))))
    rw [if_neg (by simpa using hy127)]
    refine seg_execs_nil (seg_execs_cons (seg_If (wpAny_isTrue_Compare1 (ldN C1 upd_same (kI C1 fun s2 t2 C2 => eq_int (wpAny_truthy_bool ?_))))))
    rw [if_neg (by simpa using hy0)]
    have hJ : JG Lg it ga ys (q + 1) = [(Lg, NsP fun m => ∃ t, m "interval" = some (.int (ys.getD q 0) t)), (it, ListIterO ga (q + 1))] := if_pos hq'
    refine seg_execs_nil (seg_execs_cons (gen_yield rfl rfl hqN (ldN C2 upd_same ⟨?_, ⟨t, by unfold yAt; rw [if_pos hq']⟩, fun hp s'' hJ' hB' => ?_⟩)))
    · rw [hJ]; exact G.trans C2 (by simp) ⟨t, upd_same⟩
    · rw [hJ] at hJ'
      obtain ⟨m5, B5, ⟨t5, hm5⟩, C5, G5⟩ := Gb.wake hJ' hB' (nodup2 C) hn
      refine seg_execs_cons (seg_stmt (wpAny_Assign_Name (ldN C5 hm5 (stM C5 fun s6 C6 => ?_))))
      refine seg_execs_nil (seg_again rfl ?_)
      exact ih (q + 1) B5 _ s'' s6 (by omega) (by rw [hJ]; exact G5) C6 (fun _ => ⟨t5, upd_same⟩)
  | zero =>
    intro q B m s₀ s hq G C hlast
    obtain rfl : q = ys.length := by omega
    rcases ht with ⟨rfl, rfl, h | ⟨r, h⟩⟩ | ⟨rfl, hN, hpos, r, h⟩
    · subst h
      have hv0 : vs.length = ys.length := by simp at hglen; omega
      refine seg_listD (vs := vs) (own := []) (by rw [hv0]; exact C) (hl.keeps G.bg) hh fun s1 C1 => ?_
      refine seg_leaf _ ?_
      show Seg _ A _ _ _ s₀ _ ((execs _ _).wrap K0 _ id id) [] s1
      exact seg_execs_nil (seg_end (.ok (.ret .none)) ⟨rfl, by omega, G.transEnd C1⟩)
    · subst h
      have hgq : gr[ys.length]? = some 127 := by rw [hgr, List.getElem?_append_right (Nat.le_refl _)]; simp
      obtain ⟨t, hv⟩ := intsAre_get hi hgq
      refine seg_listE (own := []) C (hl.keeps G.bg) hv fun s1 C1 => ?_
      refine seg_execs_cons (seg_If (wpAny_isTrue_Compare1 (ldN C1 upd_same (ldCM2 (GB.keeps (G.bg.trans' C1.keep)) fun tc => eq_int (wpAny_truthy_bool ?_)))))
      rw [if_pos (by simp)]
      refine seg_execs_cons (seg_stmt (wpAny_Return_none ?_))
      refine seg_leaf (.ok (.ret .none)) ?_
      exact seg_end (.ok (.ret .none)) ⟨rfl, by omega, G.transEnd C1⟩
    · subst h
      have hgq : gr[ys.length]? = some 0 := by rw [hgr, List.getElem?_append_right (Nat.le_refl _)]; simp
      obtain ⟨t, hv⟩ := intsAre_get hi hgq
      obtain ⟨tl', hlast⟩ := hlast hpos
      refine seg_listE (own := []) C (hl.keeps G.bg) hv fun s1 C1 => ?_
      refine seg_execs_cons (seg_If (wpAny_isTrue_Compare1 (ldN C1 upd_same (ldCM2 (GB.keeps (G.bg.trans' C1.keep)) fun tc => eq_int (wpAny_truthy_bool ?_)))))
      rw [if_neg (by simp)]
      refine seg_execs_nil (seg_execs_cons (seg_If (wpAny_isTrue_Compare1 (ldN C1 upd_same (kI C1 fun s2 t2 C2 => eq_int (wpAny_truthy_bool ?_))))))
      rw [if_pos (by simp)]
      refine seg_execs_cons (seg_If (wpAny_isTrue_Compare1 (ldN C2 (upd_ne hlast (by decide)) (wpAny_Constant_none (is_none_ne (by intro x; cases x) (wpAny_truthy_bool ?_))))))
      rw [if_neg Bool.false_ne_true]
      refine seg_execs_nil (seg_execs_cons (seg_While' fun p => ?_))
      exact grp_inf rfl rfl hn (N - ys.length - 1) ys.length B _ s₀ s2 tl' (by omega) (Nat.le_refl _) G C2 (upd_ne hlast (by decide))

theorem grp_fresh {ys tl gr : List Int} {vs : List Value} {ga : Addr} {N : Nat} {fin : Bool} {cd : Value} (hh : A.handled = none) (GB : GL Bg) (hl : LsAt Bg ga vs.toArray) (hi : IntsAre vs gr) (hgr : gr = ys ++ tl)
    (hys : ∀ y ∈ ys, y ≠ 0 ∧ y ≠ 127) (ht : TailOk ys tl N fin) (hL : Bg.get? Lg = none) :
    Ready prog w A N fin (GrVal ys) Bg 0 [(Lg, NsP fun m => m "grouping" = some (.ref ga))] (.fresh (.func (defAt 10).2.1 (envAt 10 Lg 67 cd))) := by
  intro _ _ s hJ hB
  refine ⟨JG Lg s.heap.objs.size ga ys, rfl, rfl, ?_⟩
  obtain ⟨m, B, hm, C, Gn⟩ := Gb.wake hJ hB (by simp) (by intro a ha; simp at ha; rw [ha]; exact hL)
  refine seg_func ?_
  have e : (defAt 10).2.1 = (defAt 10).2.1 := rfl
  conv at e => lhs; whnf
  rw [← e]
  refine seg_execs_cons (seg_stmt (wpAny_Assign_Name (wpAny_Constant_none (stMz C fun s1 C1 z1 => ?_))))
  have hfr : s.heap.get? s.heap.objs.size = none := by
    cases q : s.heap.get? s.heap.objs.size with
    | none => rfl
    | some o => exact absurd (Heap.lt_size q) (Nat.lt_irrefl _)
  have hl1 : LsAt s1.heap ga vs.toArray := (hl.keeps Gn.bg).keeps C1.keep
  refine seg_execs_cons (seg_For (ldN C1 (upd_ne hm (by decide)) (wpAny_pyIter_list hl1.isList fun p => ?_)))
  have C2 := C1.push { cls := .type "list_iterator", data := .fields #[.ref ga, .int 0 0] } rfl (P := ListIterO ga 0) ⟨rfl, rfl⟩
  rw [z1] at C2 ⊢
  rw [e]
  refine grp_loop hh GB hl hi hgr hys ht ?_ ys.length 0 B _ s _ (Nat.zero_add _) ⟨Gn.hb, Gn.bg, ?_⟩ C2 (fun h => absurd h (Nat.lt_irrefl _))
  · intro a ha
    rcases List.mem_cons.mp ha with rfl | ha
    · exact hL
    · rw [List.mem_singleton.mp ha]
      cases q : Bg.get? s.heap.objs.size with
      | none => rfl
      | some o => rw [hB _ _ q] at hfr; cases hfr
  · intro a ha
    rcases List.mem_cons.mp ha with rfl | ha
    · exact .inl (.head _)
    · rw [List.mem_singleton.mp ha]; exact .inr hfr
end
end Mine
end

section
open PySem PySem.Calls PySem.W PyProof.Rows
set_option maxRecDepth 100000
set_option autoImplicit false
set_option linter.all false
namespace Mine
def ZipO (TI TO : Addr) (f0 : Value) : Obj → Prop := fun o => o = { cls := .type "zip", dict := none, data := .fields #[f0, .bool false, .bool false, .ref TI, .ref TO], slots := #[] }
def PairO : Obj → Prop := fun o => ∃ a b : Value, o = { cls := .type "tuple", data := .seq #[a, b] }
abbrev NextEnd (s₀ : Shared) (B : Heap) (L : Addr) (m : Loc) (own : List Spec) (e : Value) (s' : Shared) : Prop := s'.TypeIs e "StopIteration" ∧ ∃ σ', Gx s₀ σ' ∧ Cx B σ' L m own s'
/-- an iterator whose steps only touch its own objects -/
structure ItrP (prog : Program) (w : World) (A : Around) (i : Value) (J : Nat → List Spec) (n : Nat) (val : Nat → Value → Prop) (B : Heap) : Prop where
  item : ∀ (k : Nat) (σ : Shared) (B' : Heap) (L : Addr) (m : Loc) (own : List Spec) (s : Shared) (E : Value → Shared → Prop), k < n → Keeps B B' → Cx B' σ L m (J k ++ own) s →
    wpAny (model prog w) A (Builtin.SmallTypes.nextOf i) (fun v s' => val k v ∧ Cx B' σ L m (J (k + 1) ++ own) s') E s
  done : ∀ (s₀ σ : Shared) (B' : Heap) (L : Addr) (m : Loc) (own : List Spec) (s : Shared) (Q : Value → Shared → Prop), Keeps B B' → Gx s₀ σ → Cx B' σ L m (J n ++ own) s → wpAny (model prog w) A (Builtin.SmallTypes.nextOf i) Q (NextEnd s₀ B' L m own) s
/-- an iterator that may be a generator -/
structure Itr (prog : Program) (w : World) (A : Around) (s₀ : Shared) (i : Value) (St : Nat → Shared → List Spec → Prop) (n : Nat) (N : Nat) (val : Nat → Value → Prop) (B : Heap) : Prop where
  item : ∀ (k : Nat) (σ : Shared) (B' : Heap) (L : Addr) (m : Loc) (J own : List Spec) (s : Shared) (E : Value → Shared → Prop), k < n → k < N → Keeps B B' → Gx s₀ σ → St k σ J → Cx B' σ L m (J ++ own) s →
    wpAny (model prog w) A (Builtin.SmallTypes.nextOf i) (fun v s' => val k v ∧ ∃ σ' J', Gx s₀ σ' ∧ St (k + 1) σ' J' ∧ Cx B' σ' L m (J' ++ own) s') E s
  done : ∀ (σ : Shared) (B' : Heap) (L : Addr) (m : Loc) (J own : List Spec) (s : Shared) (Q : Value → Shared → Prop), n < N → Keeps B B' → Gx s₀ σ → St n σ J → Cx B' σ L m (J ++ own) s →
    wpAny (model prog w) A (Builtin.SmallTypes.nextOf i) Q (NextEnd s₀ B' L m own) s

section
variable {prog : Program} {w : World} {A : Around} {E : Value → Shared → Prop} {s σ s₀ : Shared} {B : Heap} {L : Addr} {m : Loc} {own : List Spec} {env : Env}

theorem ItrP.itr {i : Value} {J : Nat → List Spec} {n N : Nat} {val : Nat → Value → Prop} (I : ItrP prog w A i J n val B) : Itr prog w A s₀ i (fun k _ J' => J' = J k) n N val B where
  item := fun k σ B' L m J own s E hk hN kB hG hst C => by
    subst hst
    exact wpAny_mono (I.item k σ B' L m own s E hk kB C) (fun v s' h => ⟨h.1, σ, _, hG, rfl, h.2⟩) fun _ _ x => x
  done := fun σ B' L m J own s Q hN kB hG hst C => by
    subst hst
    exact I.done s₀ σ B' L m own s Q kB hG C
theorem itrList {a i : Addr} {vs : List Value} (hh : A.handled = none) (hl : LsAt B a vs.toArray) : ItrP prog w A (.ref i) (fun k => [(i, ListIterO a k)]) vs.length (fun k v => vs[k]? = some v) B where
  item := fun k σ B' L m own s E hk kB C => by
    have hv : vs[k]? = some vs[k] := List.getElem?_eq_getElem hk
    refine wpAny_nextOf_list_item (C.listIter 0 rfl) (hl.keeps (kB.trans' C.keep)).isList (x := vs[k]) (by simpa using hv) fun h' hi' hs' => ⟨hv, ?_⟩
    exact C.upd 0 rfl hs' (t := s.toks) hi'
  done := fun s₀ σ B' L m own s Q kB hG C => by
    refine wpAny_nextOf_list_end hh (C.listIter 0 rfl) (hl.keeps (kB.trans' C.keep)).isList (by simp) fun h' e hs' he => ⟨he, σ, hG, ?_⟩
    exact C.multi (chg := [(i, ListIterO a vs.length)]) [] (h' := h') (t := s.toks) (List.nil_sublist _) (fun b o hb ho => hs' b o (fun q => hb (by simp [q])) ho) fun _ hp => (nomatch hp)
theorem TypeIs_same {e : Value} {z : Addr} {h' : Heap} {T : String} {f : Value} {TI TO : Addr} (hT : s.TypeIs e T) (hz : ∃ o, s.heap.get? z = some o ∧ ZipO TI TO f o) (hne : T ≠ "zip") (hs : Heap.SameBut z s.heap h') : ({ s with heap := h' } : Shared).TypeIs e T := by
  cases e with
  | ref a =>
    obtain ⟨o, ho, hc⟩ := hT
    refine ⟨o, (hs.2 a fun q => ?_).trans ho, hc⟩
    subst q
    obtain ⟨o2, ho2, rfl⟩ := hz
    rw [ho2] at ho
    cases ho
    exact hne (by simpa using hc.symm)
  | _ => exact hT
end
end Mine
end

section
open PySem PySem.Calls PySem.W PyProof.Rows
set_option maxRecDepth 100000
set_option autoImplicit false
set_option linter.all false
namespace Mine
section
variable {prog : Program} {w : World} {A : Around} {E : Value → Shared → Prop} {s σ s₀ : Shared} {B : Heap} {L : Addr} {m : Loc} {own : List Spec} {env : Env}

theorem itrRange {i : Addr} {a : Int} {n : Nat} (hh : A.handled = none) : ItrP prog w A (.ref i) (fun k => [(i, RangeIterO (a + k) (n - k))]) n (fun k v => ∃ t, v = .int (a + k) t) B where
  item := fun k σ B' L m own s E hk kB C => by
    obtain ⟨_, e, rfl⟩ := C.get 0 rfl
    have hT : s.TypeIs (.ref i) "range_iterator" := ⟨_, e, rfl⟩
    unfold Builtin.SmallTypes.nextOf
    refine wpAny_bind (wpAny_callSpecial?_slot (name := Str.ofString "__next__") hT F.slot_range_iterator_next
      (call_meets F.slot_range_iterator_next hT F.entry_range_iterator_next (F.args_range_iterator_next_1 _) (AutoRange.range_iterator___next___range_iterator_1 i (a + k) (n - k) 1 (by omega)) ⟨e, ?_⟩))
    refine wpAny_pure ⟨⟨_, rfl⟩, ?_⟩
    refine C.upd 0 rfl ((Heap.SameBut.update ..).trans (Heap.SameBut.update ..)) (t := s.toks + 1) ⟨_, Heap.get?_update_self _ (Heap.get?_update_self _ e rfl) rfl, by show _ = _; rw [show a + ((k + 1 : Nat) : Int) = a + (k : Int) + 1 by omega, show (n : Int) - ((k + 1 : Nat) : Int) = n - k - 1 by omega]; rfl⟩
  done := fun s₀ σ B' L m own s Q kB hG C => by
    obtain ⟨_, e, rfl⟩ := C.get 0 rfl
    have hT : s.TypeIs (.ref i) "range_iterator" := ⟨_, e, rfl⟩
    unfold Builtin.SmallTypes.nextOf
    refine wpAny_bind (wpAny_callSpecial?_slot (name := Str.ofString "__next__") hT F.slot_range_iterator_next
      (wpAny_call_entry F.slot_range_iterator_next hT F.entry_range_iterator_next ?_ (F.args_range_iterator_next_1 _)))
    show wpAny _ _ (field (.ref i) 0 >>= _) _ _ s
    refine wpAny_bind (wpAny_field e rfl (x := rawInt (a + n)) rfl ?_)
    show wpAny _ _ (field (.ref i) 1 >>= _) _ _ s
    refine wpAny_bind (wpAny_field e rfl (x := rawInt (n - n)) rfl ?_)
    show wpAny _ _ (field (.ref i) 2 >>= _) _ _ s
    refine wpAny_bind (wpAny_field e rfl (x := rawInt 1) rfl ?_)
    show wpAny _ _ (if (n : Int) - n ≤ 0 then _ else _) _ _ s
    rw [if_pos (by omega)]
    refine wpAny_bind (wpAny_rule ?_)
    refine wpAny_bind ?_
    show wpAny _ _ (newExc (.type "StopIteration") [] >>= _) _ _ _
    refine wpAny_bind ?_
    simp only [newExc, newTuple]
    refine wpAny_bind (wpAny_newObj_type ?_ (by size_fits))
    refine wpAny_bind (m := firstArgMember _ _) (wpAny_of_eq (a := Value.none) (by first | rfl | (simp only [firstArgMember]; rfl)) ?_)
    refine wpAny_newObj_type ?_ (by size_fits)
    simp only [raiseNew]
    refine wpAny_bind (wpAny_handled ?_)
    first | rw [show A.in1.handled = none from hh] | rw [hh]
    refine wpAny_bind (wpAny_pure (wpAny_throw ⟨⟨_, Heap.get?_push_size _ rfl, rfl⟩, σ, hG, ?_⟩))
    exact ((C.sub (own' := own) (List.sublist_cons_self _ _)).pushAny _).pushAny _
end
end Mine
end

section
open PySem PySem.Calls PySem.W PyProof.Rows
set_option maxRecDepth 100000
set_option autoImplicit false
set_option linter.all false
namespace Mine
section
variable {prog : Program} {w : World} {A : Around} {E : Value → Shared → Prop} {s σ s₀ : Shared} {B : Heap} {L : Addr} {m : Loc} {own : List Spec} {env : Env}
  {z TI TO i1 i2 : Addr} {J1 : Nat → List Spec} {n1 n2 N k : Nat} {val1 val2 : Nat → Value → Prop} {St2 : Nat → Shared → List Spec → Prop} {J2 : List Spec} {B0 : Heap}

theorem pm1 {z TO : Spec} {a b : List Spec} : (z :: TO :: (a ++ b)).Perm (a ++ (z :: TO :: b)) := by
  have := List.perm_append_comm_assoc [z, TO] a b
  simpa using this
theorem pm2 {z TO : Spec} {a b c : List Spec} : (z :: TO :: (a ++ (b ++ c))).Perm (b ++ (z :: TO :: (a ++ c))) := by
  have h1 : (a ++ (b ++ c)).Perm (b ++ (a ++ c)) := List.perm_append_comm_assoc a b c
  exact ((h1.cons TO).cons z).trans pm1

/-- what a step of a zip leaves -/
def ZipGiven (B : Heap) (s₀ : Shared) (L : Addr) (m : Loc) (own : List Spec) (z TI TO : Addr) (J1 : Nat → List Spec) (St2 : Nat → Shared → List Spec → Prop) (val1 val2 : Nat → Value → Prop) (k : Nat) (v : Value) (s' : Shared) : Prop :=
  ∃ t σ' J2' v1 v2, v = .ref t ∧ Gx s₀ σ' ∧ St2 (k + 1) σ' J2' ∧ Cx B σ' L m ((z, ZipO TI TO (rawInt t)) :: (TO, PairO) :: (J1 (k + 1) ++ (J2' ++ own))) s' ∧ val1 k v1 ∧ val2 k v2 ∧ s'.heap.IsTuple t #[v1, v2]

theorem zip_item (I1 : ItrP prog w A (.ref i1) J1 n1 val1 B0) (I2 : Itr prog w A s₀ (.ref i2) St2 n2 N val2 B0) (hk1 : k < n1) (hk2 : k < n2) (hkN : k < N) (hB : Keeps B0 B) (hG : Gx s₀ σ) (hst : St2 k σ J2)
    (C : Cx B σ L m ((z, ZipO TI TO .none) :: (TO, PairO) :: (J1 k ++ (J2 ++ own))) s) (hTI : IsPair B TI (.ref i1) (.ref i2)) :
    wpAny (model prog w) A (Builtin.«zip.__next__» ⟨[.ref z], []⟩) (fun fin s' => ∃ v, fin = .done (.ret v) ∧ ZipGiven B s₀ L m own z TI TO J1 St2 val1 val2 k v s') E s := by
  obtain ⟨_, hz, rfl⟩ := C.get 0 rfl
  show wpAny _ _ (field (.ref z) 2 >>= _) _ _ _
  refine wpAny_bind (wpAny_field hz rfl (x := .bool false) rfl ?_)
  show wpAny _ _ (field (.ref z) 3 >>= _) _ _ _
  refine wpAny_bind (wpAny_field hz rfl (x := .ref TI) rfl ?_)
  refine wpAny_bind (wpAny_seqItems (C.keep _ _ hTI) rfl ?_)
  show wpAny _ _ (Builtin.SmallTypes.ownedTupleIsFree (.ref z) >>= _) _ _ _
  refine wpAny_bind ?_
  unfold Builtin.SmallTypes.ownedTupleIsFree
  refine wpAny_bind (wpAny_field hz rfl (x := .none) rfl (wpAny_pure ?_))
  simp only [if_true]
  refine wpAny_bind (wpAny_rule ?_)
  refine wpAny_bind (wpAny_field hz rfl (x := .ref TO) rfl ?_)
  refine wpAny_bind (wpAny_setField_rec hz (by simp) fun h₁ hz₁ hs₁ => ?_)
  have C1 := C.upd 0 rfl hs₁ (t := s.toks) (P' := ZipO TI TO .ellipsis) ⟨_, hz₁, rfl⟩
  refine wpAny_bind ?_
  simp only [List.zipIdx_cons, List.zipIdx_nil, List.forIn_cons, List.forIn_nil]
  refine wpAny_bind (wpAny_bind (wpAny_onRaise ?_))
  show wpAny _ _ (Builtin.SmallTypes.nextOf (.ref i1) >>= _) _ _ _
  refine wpAny_bind (wpAny_mono (I1.item k σ B L m _ _ _ hk1 hB (Cx.perm C1 pm1)) (fun v1 s2 h2 => ?_) fun _ _ x => x)
  obtain ⟨hv1, C2⟩ := h2
  have C2 : Cx B σ L m ((z, ZipO TI TO .ellipsis) :: (TO, PairO) :: (J1 (k + 1) ++ (J2 ++ own))) s2 := C2.perm pm1.symm
  refine wpAny_pure ?_
  obtain ⟨_, hTO, a, b, rfl⟩ := C2.get 1 rfl
  refine wpAny_bind (wpAny_seqItems hTO rfl ?_)
  refine wpAny_bind (wpAny_updateSeq_pair (k := 0) hTO fun h₃ hTO₃ hs₃ => ?_)
  have C3 := C2.upd 1 rfl hs₃ (t := s2.toks) (P' := fun o => ∃ b, o = { cls := .type "tuple", data := .seq #[v1, b] }) ⟨_, hTO₃, b, rfl⟩
  refine wpAny_bind (wpAny_letGo (wpAny_pure ?_))
  refine wpAny_bind (wpAny_bind (wpAny_onRaise ?_))
  show wpAny _ _ (Builtin.SmallTypes.nextOf (.ref i2) >>= _) _ _ _
  refine wpAny_bind (wpAny_mono (I2.item k σ B L m J2 _ _ _ hk2 hkN hB hG hst (Cx.perm C3 pm2)) (fun v2 s4 h4 => ?_) fun _ _ x => x)
  obtain ⟨hv2, σ', J2', hG', hst', C4⟩ := h4
  have C4 : Cx B σ' L m ((z, ZipO TI TO .ellipsis) :: (TO, fun o => ∃ b, o = { cls := .type "tuple", data := .seq #[v1, b] }) :: (J1 (k + 1) ++ (J2' ++ own))) s4 := C4.perm pm2.symm
  refine wpAny_pure ?_
  obtain ⟨_, hTO4, b4, rfl⟩ := C4.get 1 rfl
  refine wpAny_bind (wpAny_seqItems hTO4 rfl ?_)
  refine wpAny_bind (wpAny_updateSeq_pair (k := 1) hTO4 fun h₅ hTO₅ hs₅ => ?_)
  replace hTO₅ : IsPair h₅ TO v1 v2 := hTO₅
  have C5 := C4.upd 1 rfl hs₅ (t := s4.toks) (P' := PairO) ⟨_, hTO₅, v1, v2, rfl⟩
  refine wpAny_bind (wpAny_letGo (wpAny_pure (wpAny_pure ?_)))
  refine wpAny_bind (wpAny_seqItems hTO₅ rfl ?_)
  refine wpAny_bind (wpAny_newTuple ?_)
  obtain ⟨_, hz5, rfl⟩ := C5.get 0 rfl
  have C6 := C5.pushAny { cls := .type "tuple", data := .seq #[v1, v2] }
  have ht6 : (h₅.push { cls := .type "tuple", data := .seq #[v1, v2] }).IsTuple h₅.objs.size #[v1, v2] := ⟨_, Heap.get?_push_size _ rfl, rfl, 0, rfl⟩
  show wpAny _ _ (Builtin.SmallTypes.ownedTupleHandOut (.ref z) (.ref h₅.objs.size) >>= _) _ _ _
  have hzt : h₅.objs.size ≠ z := Nat.ne_of_gt (Heap.lt_size hz5)
  refine wpAny_bind ?_
  unfold Builtin.SmallTypes.ownedTupleHandOut
  obtain ⟨_, hz6, rfl⟩ := C6.get 0 rfl
  refine wpAny_bind (wpAny_setField_rec hz6 (by simp) fun h₇ hz₇ hs₇ => ?_)
  replace hz₇ : IsZip h₇ z TI TO (rawInt h₅.objs.size) := hz₇
  have C7 := C6.upd 0 rfl hs₇ (t := s4.toks) (P' := ZipO TI TO (rawInt h₅.objs.size)) ⟨_, hz₇, rfl⟩
  refine wpAny_setField_rec hz₇ (by simp) fun h₈ hz₈ hs₈ => ?_
  have C8 := C7.upd 0 rfl hs₈ (t := s4.toks) (P' := ZipO TI TO (rawInt h₅.objs.size)) ⟨_, hz₈, rfl⟩
  refine wpAny_pure ⟨_, rfl, h₅.objs.size, σ', J2', v1, v2, rfl, hG', hst', C8, hv1, hv2, ?_⟩
  obtain ⟨o, ho, hr⟩ := ht6
  exact ⟨o, (hs₈.2 _ hzt).trans ((hs₇.2 _ hzt).trans ho), hr⟩
end
end Mine
end

section
open PySem PySem.Calls PySem.W PyProof.Rows
set_option maxRecDepth 100000
set_option autoImplicit false
set_option linter.all false
namespace Mine
section
variable {prog : Program} {w : World} {A : Around} {E : Value → Shared → Prop} {s σ s₀ : Shared} {B : Heap} {L : Addr} {m : Loc} {own : List Spec} {env : Env}
  {z TI TO i1 i2 : Addr} {J1 : Nat → List Spec} {n1 n2 N k : Nat} {val1 val2 : Nat → Value → Prop} {St2 : Nat → Shared → List Spec → Prop} {J2 : List Spec} {B0 : Heap}

theorem zip_end {Q : Fin → Shared → Prop} (I1 : ItrP prog w A (.ref i1) J1 n1 val1 B0) (I2 : Itr prog w A s₀ (.ref i2) St2 n2 N val2 B0) (hk : k = n1 ∨ (k < n1 ∧ k = n2 ∧ n2 < N)) (hB : Keeps B0 B) (hG : Gx s₀ σ) (hst : St2 k σ J2)
    (C : Cx B σ L m ((z, ZipO TI TO .none) :: (TO, PairO) :: (J1 k ++ (J2 ++ own))) s) (hTI : IsPair B TI (.ref i1) (.ref i2)) :
    wpAny (model prog w) A (Builtin.«zip.__next__» ⟨[.ref z], []⟩) Q (NextEnd s₀ B L m own) s := by
  obtain ⟨_, hz, rfl⟩ := C.get 0 rfl
  show wpAny _ _ (field (.ref z) 2 >>= _) _ _ _
  refine wpAny_bind (wpAny_field hz rfl (x := .bool false) rfl ?_)
  show wpAny _ _ (field (.ref z) 3 >>= _) _ _ _
  refine wpAny_bind (wpAny_field hz rfl (x := .ref TI) rfl ?_)
  refine wpAny_bind (wpAny_seqItems (C.keep _ _ hTI) rfl ?_)
  show wpAny _ _ (Builtin.SmallTypes.ownedTupleIsFree (.ref z) >>= _) _ _ _
  refine wpAny_bind ?_
  unfold Builtin.SmallTypes.ownedTupleIsFree
  refine wpAny_bind (wpAny_field hz rfl (x := .none) rfl (wpAny_pure ?_))
  simp only [if_true]
  refine wpAny_bind (wpAny_rule ?_)
  refine wpAny_bind (wpAny_field hz rfl (x := .ref TO) rfl ?_)
  refine wpAny_bind (wpAny_setField_rec hz (by simp) fun h₁ hz₁ hs₁ => ?_)
  have C1 := C.upd 0 rfl hs₁ (t := s.toks) (P' := ZipO TI TO .ellipsis) ⟨_, hz₁, rfl⟩
  refine wpAny_bind ?_
  simp only [List.zipIdx_cons, List.zipIdx_nil, List.forIn_cons, List.forIn_nil]
  refine wpAny_bind (wpAny_bind (wpAny_onRaise ?_))
  show wpAny _ _ (Builtin.SmallTypes.nextOf (.ref i1) >>= _) _ _ _
  rcases hk with rfl | ⟨hk1, rfl, hkN⟩
  · refine wpAny_bind (wpAny_mono (I1.done s₀ σ B L m _ _ (fun _ _ => False) hB hG (Cx.perm C1 pm1)) (fun _ _ x => x.elim) fun e s2 h2 => ?_)
    obtain ⟨hTe, σ', hG', C2⟩ := h2
    obtain ⟨_, hz2, rfl⟩ := C2.get 0 rfl
    refine wpAny_setField_rec hz2 (by simp) fun h₃ hz₃ hs₃ => ⟨TypeIs_same hTe ⟨_, hz2, rfl⟩ (by decide) hs₃, σ', hG', ?_⟩
    have C3 := C2.upd 0 rfl hs₃ (t := s2.toks) (P' := AnyO) ⟨_, hz₃, trivial⟩
    exact C3.sub (((List.sublist_append_right J2 own).cons _).cons _)
  · refine wpAny_bind (wpAny_mono (I1.item k σ B L m _ _ _ hk1 hB (Cx.perm C1 pm1)) (fun v1 s2 h2 => ?_) fun _ _ x => x)
    obtain ⟨hv1, C2⟩ := h2
    have C2 : Cx B σ L m ((z, ZipO TI TO .ellipsis) :: (TO, PairO) :: (J1 (k + 1) ++ (J2 ++ own))) s2 := C2.perm pm1.symm
    refine wpAny_pure ?_
    obtain ⟨_, hTO, a, b, rfl⟩ := C2.get 1 rfl
    refine wpAny_bind (wpAny_seqItems hTO rfl ?_)
    refine wpAny_bind (wpAny_updateSeq_pair (k := 0) hTO fun h₃ hTO₃ hs₃ => ?_)
    have C3 := C2.upd 1 rfl hs₃ (t := s2.toks) (P' := AnyO) ⟨_, hTO₃, trivial⟩
    refine wpAny_bind (wpAny_letGo (wpAny_pure ?_))
    refine wpAny_bind (wpAny_bind (wpAny_onRaise ?_))
    show wpAny _ _ (Builtin.SmallTypes.nextOf (.ref i2) >>= _) _ _ _
    refine wpAny_bind (wpAny_mono (I2.done σ B L m J2 _ _ (fun _ _ => False) hkN hB hG hst (Cx.perm C3 pm2)) (fun _ _ x => x.elim) fun e s4 h4 => ?_)
    obtain ⟨hTe, σ', hG', C4⟩ := h4
    obtain ⟨_, hz4, rfl⟩ := C4.get 0 rfl
    refine wpAny_setField_rec hz4 (by simp) fun h₅ hz₅ hs₅ => ⟨TypeIs_same hTe ⟨_, hz4, rfl⟩ (by decide) hs₅, σ', hG', ?_⟩
    have C5 := C4.upd 0 rfl hs₅ (t := s4.toks) (P' := AnyO) ⟨_, hz₅, trivial⟩
    exact C5.sub (((List.sublist_append_right (J1 (k + 1)) own).cons _).cons _)

/-- pyNext of a zip -/
theorem pyNext_zip_item (I1 : ItrP prog w A.in1 (.ref i1) J1 n1 val1 B0) (I2 : Itr prog w A.in1 s₀ (.ref i2) St2 n2 N val2 B0) (hk1 : k < n1) (hk2 : k < n2) (hkN : k < N) (hB : Keeps B0 B) (hG : Gx s₀ σ) (hst : St2 k σ J2)
    (C : Cx B σ L m ((z, ZipO TI TO .none) :: (TO, PairO) :: (J1 k ++ (J2 ++ own))) s) (hTI : IsPair B TI (.ref i1) (.ref i2)) :
    wpAny (model prog w) A (pyNext (.ref z)) (fun r s' => ∃ v, r = some v ∧ ZipGiven B s₀ L m own z TI TO J1 St2 val1 val2 k v s') E s := by
  have hT : s.TypeIs (.ref z) "zip" := by obtain ⟨_, hz, rfl⟩ := C.get 0 rfl; exact ⟨_, hz, rfl⟩
  unfold pyNext
  exact wpAny_bind (wpAny_attempt (wpAny_callSpecial?_slot (name := Str.ofString "__next__") hT F.slot_zip_next
    (wpAny_call_entry F.slot_zip_next hT F.entry_zip_next
      (wpAny_mono (zip_item I1 I2 hk1 hk2 hkN hB hG hst C hTI) (fun f s' h => let ⟨v, h1, h2⟩ := h; ⟨v, h1, wpAny_pure ⟨v, rfl, h2⟩⟩) fun _ _ x => x) (F.args_zip_next_1 _))))
theorem pyNext_zip_end (I1 : ItrP prog w A.in1 (.ref i1) J1 n1 val1 B0) (I2 : Itr prog w A.in1 s₀ (.ref i2) St2 n2 N val2 B0) (hk : k = n1 ∨ (k < n1 ∧ k = n2 ∧ n2 < N)) (hB : Keeps B0 B) (hG : Gx s₀ σ) (hst : St2 k σ J2)
    (C : Cx B σ L m ((z, ZipO TI TO .none) :: (TO, PairO) :: (J1 k ++ (J2 ++ own))) s) (hTI : IsPair B TI (.ref i1) (.ref i2)) :
    wpAny (model prog w) A (pyNext (.ref z)) (fun r s' => r = none ∧ ∃ σ', Gx s₀ σ' ∧ Cx B σ' L m own s') E s := by
  have hT : s.TypeIs (.ref z) "zip" := by obtain ⟨_, hz, rfl⟩ := C.get 0 rfl; exact ⟨_, hz, rfl⟩
  unfold pyNext
  refine wpAny_bind (wpAny_attempt (wpAny_callSpecial?_slot (name := Str.ofString "__next__") hT F.slot_zip_next
    (wpAny_call_entry F.slot_zip_next hT F.entry_zip_next (wpAny_mono (zip_end (Q := fun _ _ => False) I1 I2 hk hB hG hst C hTI) (fun _ _ x => x.elim) fun e s' h => ?_) (F.args_zip_next_1 _))))
  exact wpAny_bind (wpAny_isInstance (T := "StopIteration") (b := true) h.1 isSubtype_stop (wpAny_pure ⟨rfl, h.2⟩))

/-- one turn's bindings out of a zip -/
theorem zip_bind {x y : Str} {px py tp : Pos} {x1 : Nat} {v : Value} {Q : Unit → Shared → Prop} (hh : A.handled = none) (hg : ZipGiven B s₀ L m own z TI TO J1 St2 val1 val2 k v s)
    (h : ∀ σ' J2' v1 v2 s', Gx s₀ σ' → St2 (k + 1) σ' J2' → val1 k v1 → val2 k v2 → Cx B σ' L (upd (upd m x v1) y v2) ((z, ZipO TI TO .none) :: (TO, PairO) :: (J1 (k + 1) ++ (J2' ++ own))) s' → Q () s')
    (hk : env.scope.kind = .function) (hx : env.kindOf x = some .local) (hy : env.kindOf y = some .local) (hL : env.locals = L) :
    wpAny (model prog w) A (letOwnedTupleGo (.Tuple [.Name x px, .Name y py] x1 tp) (.ref z) v) (fun _ s2 => wpAny (model prog w) A (assign (.Tuple [.Name x px, .Name y py] x1 tp) env v) Q NoE s2) NoE s := by
  obtain ⟨t, σ', J2', v1, v2, rfl, hG', hst', C, hv1, hv2, o, ho, hr⟩ := hg
  obtain ⟨_, hz, rfl⟩ := C.get 0 rfl
  have hne : t ≠ z := by
    intro q; subst q; rw [hz] at ho; cases ho
    obtain ⟨hc, _⟩ := hr; simp at hc
  refine wpAny_letOwnedTupleGo_zip hz fun h' hz' hs' => ?_
  have C2 := C.upd 0 rfl hs' (t := s.toks) (P' := ZipO TI TO .none) ⟨_, hz', rfl⟩
  exact as2 C2 hh ⟨o, (hs'.2 _ hne).trans ho, hr⟩ (fun s3 C3 => h σ' J2' v1 v2 s3 hG' hst' hv1 hv2 C3) hk hx hy hL
end
end Mine
end

section
open PySem PySem.Calls PySem.W PyProof.Rows
set_option maxRecDepth 100000
set_option autoImplicit false
set_option linter.all false
namespace Mine
def JZip (z TI TO : Addr) (J1 J2 : Nat → List Spec) (k : Nat) : List Spec := (z, ZipO TI TO .none) :: (TO, PairO) :: (J1 k ++ J2 k)
section
variable {prog : Program} {w : World} {A : Around} {E : Value → Shared → Prop} {s σ s₀ : Shared} {B : Heap} {L : Addr} {m : Loc} {own : List Spec} {env : Env}
  {z TI TO i1 i2 : Addr} {J1 J2 : Nat → List Spec} {n1 n2 N k T : Nat} {val1 val2 : Nat → Value → Prop} {St2 : Nat → Shared → List Spec → Prop}

theorem src_zip {x y : Str} {px py tp : Pos} {x1 : Nat} (I1 : ItrP prog w A.in1 (.ref i1) J1 n1 val1 B) (I2 : ItrP prog w A.in1 (.ref i2) J2 n2 val2 B) (hTI : IsPair B TI (.ref i1) (.ref i2)) (hT : T = min n1 n2) (hh : A.handled = none)
    (hk : env.scope.kind = .function) (hx : env.kindOf x = some .local) (hy : env.kindOf y = some .local) (hL : env.locals = L) :
    Src prog w A s₀ L env (.Tuple [.Name x px, .Name y py] x1 tp) (.ref z) (JZip z TI TO J1 J2) T (fun k m m' => ∃ v1 v2, val1 k v1 ∧ val2 k v2 ∧ m' = upd (upd m x v1) y v2) B where
  item := fun k B' m own s Q hkT kB C h => by
    have C : Cx B' s₀ L m ((z, ZipO TI TO .none) :: (TO, PairO) :: (J1 k ++ (J2 k ++ own))) s := by
      have := C; unfold JZip at this; simpa using this
    refine wpAny_mono (pyNext_zip_item (s₀ := s₀) (N := n2 + 1) I1 I2.itr (by omega) (by omega) (by omega) kB (Gx.refl _) rfl C (kB _ _ hTI)) (fun r s1 h1 => ?_) fun _ _ x => x
    obtain ⟨v, rfl, hg⟩ := h1
    refine ⟨v, rfl, zip_bind hh hg (fun σ' J2' v1 v2 s' hG' hst' hv1 hv2 C' => ?_) hk hx hy hL⟩
    subst hst'
    refine h _ s' ⟨v1, v2, hv1, hv2, rfl⟩ ?_
    have := C'.base (hG'.trans C'.g)
    show Cx B' s₀ L _ (JZip z TI TO J1 J2 (k + 1) ++ own) s'
    unfold JZip; simpa using this
  done := fun B' m own s Q kB C h => by
    have C : Cx B' s₀ L m ((z, ZipO TI TO .none) :: (TO, PairO) :: (J1 T ++ (J2 T ++ own))) s := by
      have := C; unfold JZip at this; simpa using this
    refine wpAny_mono (pyNext_zip_end (s₀ := s₀) (N := n2 + 1) I1 I2.itr (by omega) kB (Gx.refl _) rfl C (kB _ _ hTI)) (fun r s1 h1 => ?_) fun _ _ x => x
    obtain ⟨rfl, σ', hG', C'⟩ := h1
    exact h s1 (C'.base (hG'.trans C'.g))

theorem for_zip {x y : Str} {px py tp : Pos} {x1 : Nat} {body : List Stmt} {R : Result → Shared → Prop} {J20 : List Spec} (I1 : ItrP prog w A.in1 (.ref i1) J1 n1 val1 B) (I2 : Itr prog w A.in1 s₀ (.ref i2) St2 n2 N val2 B) (hTI : IsPair B TI (.ref i1) (.ref i2))
    (hT1 : T ≤ n1) (hT2 : T ≤ n2) (hTN : T ≤ N) (hT : T = n1 ∨ (T < n1 ∧ T = n2 ∧ n2 < N)) (hh : A.handled = none) (C : Cx B σ L m ((z, ZipO TI TO .none) :: (TO, PairO) :: (J1 0 ++ (J20 ++ own))) s) (hG : Gx s₀ σ) (hst : St2 0 σ J20)
    (I : Nat → Heap → Loc → List Spec → Prop) (h0 : I 0 B m own)
    (turn : ∀ (k : Nat) σ B' m1 v1 v2 J own' s', k < T → Gx s₀ σ → Keeps B B' → I k B' m1 own' → val1 k v1 → val2 k v2 → Cx B' σ L (upd (upd m1 x v1) y v2) (J ++ own') s' →
      wpAny (model prog w) A (execs body env) (TurnG σ L B' J (I (k + 1)) fun v s'' => R (.ok (.ret v)) s'') NoE s')
    (fin : ∀ σ B' m' own' s', Gx s₀ σ → Keeps B B' → I T B' m' own' → Cx B' σ L m' own' s' → R (.ok .next) s')
    (hk : env.scope.kind = .function := by rfl) (hx : env.kindOf x = some .local := by kernel_rfl!) (hy : env.kindOf y = some .local := by kernel_rfl!) (hL : env.locals = L := by rfl) :
    codeAny (model prog w) A (.forLoop (.Tuple [.Name x px, .Name y py] x1 tp) (.ref z) body [] env) R s := by
  refine codeAny_forLoop_any (fun q s' => ∃ k σ J B' m' own', q = T - k ∧ k ≤ T ∧ Keeps B B' ∧ I k B' m' own' ∧ Cx B' σ L m' ((z, ZipO TI TO .none) :: (TO, PairO) :: (J1 k ++ (J ++ own'))) s' ∧ Gx s₀ σ ∧ St2 k σ J) ?_ T
    ⟨0, σ, J20, B, m, own, rfl, Nat.zero_le _, keeps_refl _, h0, C, hG, hst⟩
  rintro q s' ⟨k, σ', J', B', m', own', rfl, hk', kB, hI, C', hG', hst'⟩
  by_cases hkT : k < T
  · refine noE (wpAny_mono (pyNext_zip_item I1 I2 (by omega) (by omega) (by omega) kB hG' hst' C' (kB _ _ hTI)) (fun r s1 h1 => ?_) fun _ _ x => x)
    obtain ⟨v, rfl, hg⟩ := h1
    refine noE (wpAny_mono (zip_bind (Q := fun _ s3 => ∃ σ2 J2 v1 v2, Gx s₀ σ2 ∧ St2 (k + 1) σ2 J2 ∧ val1 k v1 ∧ val2 k v2 ∧ Cx B' σ2 L (upd (upd m' x v1) y v2) ((z, ZipO TI TO .none) :: (TO, PairO) :: (J1 (k + 1) ++ (J2 ++ own'))) s3) hh hg (fun σ2 J2 v1 v2 s3 a b c d e => ⟨σ2, J2, v1, v2, a, b, c, d, e⟩) hk hx hy hL) (fun _ s2 h2 => noE (wpAny_mono h2 (fun _ s3 h3 => ?_) fun _ _ x => x)) fun _ _ x => x)
    obtain ⟨σ2, J2, v1, v2, hG2, hst2, hv1, hv2, C2⟩ := h3
    have eJ : ∀ ow : List Spec, (((z, ZipO TI TO .none) :: (TO, PairO) :: (J1 (k + 1) ++ J2)) ++ ow : List Spec) = (z, ZipO TI TO .none) :: (TO, PairO) :: (J1 (k + 1) ++ (J2 ++ ow)) := fun ow => by simp
    refine noE (wpAny_mono (turn k σ2 B' m' v1 v2 ((z, ZipO TI TO .none) :: (TO, PairO) :: (J1 (k + 1) ++ J2)) own' s3 hkT hG2 kB hI hv1 hv2 (by rw [eJ]; exact C2)) (fun fl s4 h4 => ?_) fun _ _ x => x)
    cases fl with
    | next => obtain ⟨B4, m4, own4, k4, C4, I4⟩ := h4; rw [eJ] at C4; exact ⟨T - (k + 1), by omega, k + 1, σ2, J2, B4, m4, own4, rfl, hkT, kB.trans' k4, I4, C4, hG2, hst2⟩
    | cont => obtain ⟨B4, m4, own4, k4, C4, I4⟩ := h4; rw [eJ] at C4; exact ⟨T - (k + 1), by omega, k + 1, σ2, J2, B4, m4, own4, rfl, hkT, kB.trans' k4, I4, C4, hG2, hst2⟩
    | brk => exact h4.elim
    | ret v => exact h4
  · obtain rfl : k = T := by omega
    refine noE (wpAny_mono (pyNext_zip_end I1 I2 hT kB hG' hst' C' (kB _ _ hTI)) (fun r s1 h1 => ?_) fun _ _ x => x)
    obtain ⟨rfl, σ2, hG2, C2⟩ := h1
    exact noE (wpAny_execs_nil (fin σ2 B' m' own' s1 hG2 kB hI C2))

theorem itrGen {a : Addr} {g : Nat} {Ng : Nat} {fin : Bool} {val : Nat → Value → Heap → Prop} {vl : Nat → Value → Prop} {Bg : Heap} (hg : s₀.gens.size ≤ g) (hi : B.IsGen a g) (hB : Keeps Bg B) (hh : A.handled = none) (hl : B.NoLimit) (hroom : A.depth < recursionLimit)
    (hv : ∀ k v h, val k v h → vl k v) (hn : (fin = true ∧ n2 = Ng ∧ N = Ng + 1) ∨ (fin = false ∧ n2 = Ng + 1 ∧ N = Ng)) :
    Itr prog w A s₀ (.ref a) (fun k σ J => ∃ gs, σ.gens[g]? = some gs ∧ Ready prog w A.in1 Ng fin val Bg k J gs) n2 N vl B where
  item := fun k σ B' L m J own s E hk hkN kB hG hst C => by
    obtain ⟨gs, hσ, hr⟩ := hst
    refine wpAny_mono (nextOf_item C hσ hG hg hr (hi.keeps kB) (hB.trans' kB) (by omega) (hl.keeps (kB.trans' C.keep)) hroom) (fun v s' h => ?_) fun _ _ x => x
    obtain ⟨σ', gs', J', hG', hσ', hr', C', hval⟩ := h
    exact ⟨hv _ _ _ hval, σ', J', hG', ⟨gs', hσ', hr'⟩, C'⟩
  done := fun σ B' L m J own s Q hnN kB hG hst C => by
    obtain ⟨gs, hσ, hr⟩ := hst
    rcases hn with ⟨rfl, rfl, rfl⟩ | ⟨rfl, rfl, rfl⟩
    · exact nextOf_end C hσ hG hg hr (hi.keeps kB) (hB.trans' kB) hh (hl.keeps (kB.trans' C.keep)) hroom
    · omega
end
end Mine
end

section
open PySem PySem.Calls PySem.W PyProof.Rows
set_option maxRecDepth 100000
set_option autoImplicit false
set_option linter.all false
namespace Mine
abbrev zrH1 (h : Heap) (a b : Int) : Heap := h.push { cls := .type "range_iterator", data := .fields #[rawInt a, rawInt (Builtin.Range.rangeSize a b 1), rawInt 1] }
abbrev zrH2 (h : Heap) (a b : Int) (g : Addr) : Heap := (zrH1 h a b).push { cls := .type "tuple", data := .seq #[.ref h.objs.size, .ref g] }
abbrev zrH3 (h : Heap) (a b : Int) (g : Addr) : Heap := (zrH2 h a b g).push { cls := .type "tuple", data := .seq #[.none, .none] }
abbrev zrH4 (h : Heap) (a b : Int) (g : Addr) : Heap := (zrH3 h a b g).push { cls := .type "zip", data := .fields #[.none, .bool false, .bool false, .ref (zrH1 h a b).objs.size, .ref (zrH2 h a b g).objs.size] }
theorem meets_zip_rg (r g : Addr) (gn : Nat) (a b : Int) (t u v : Tok) (hsm : Builtin.Range.small a b 1 = true) :
    Meets (Builtin.«zip.__new__» ⟨[.type "zip", .ref r, .ref g], []⟩) (fun _ R s => IsRange s.heap r a b 1 t u v ∧ s.heap.IsGen g gn ∧
      R (.ok (.ret (.ref (zrH3 s.heap a b g).objs.size))) { s with heap := zrH4 s.heap a b g }) :=
  .of_wp fun prog w A R s h => by
    obtain ⟨hp, gg, d, tk, os⟩ := s; obtain ⟨hr, hg, h⟩ := h
    have hsub := sub_zip
    have hR : IsRange (Shared.heap ⟨hp, gg, d, tk, os⟩) r a b 1 t u v := hr
    have hG : Heap.IsGen (Shared.heap ⟨hp.push { cls := .type "range_iterator", data := .fields #[rawInt a, rawInt (Builtin.Range.rangeSize a b 1), rawInt 1] }, gg, d, tk, os⟩) g gn := Heap.IsGen.push hg _
    wp_walk using wpAny_pyIter_range hR hsm, wpAny_pyIter_gen hG
    exact ⟨_, rfl, h⟩

section
variable {prog : Program} {w : World} {A : Around} {E : Value → Shared → Prop} {s σ s₀ : Shared} {B : Heap} {L : Addr} {m : Loc} {own : List Spec} {env : Env}
theorem callZipRG {r g : Addr} {gn : Nat} {a b : Int} {t u v : Tok} {J : List Spec} {Q : Value → Shared → Prop} (hsm : Builtin.Range.small a b 1 = true) (hab : a ≤ b) (C : Cx B σ L m (J ++ own) s) (hr : IsRange B r a b 1 t u v) (hg : B.IsGen g gn)
    (h : ∀ B' s' z TI TO i, Keeps B B' → IsPair B' TI (.ref i) (.ref g) → Cx B' σ L m ((z, ZipO TI TO .none) :: (TO, PairO) :: ([(i, RangeIterO a (b - a))] ++ (J ++ own))) s' → s'.gens = s.gens → Q (.ref z) s') :
    wpAny (model prog w) A (call (.type "zip") [.ref r, .ref g]) Q E s := by
  refine callType_new F.called_zip (by decide) (F.typeCall_zip_2 _ _) (F.newCall_zip_2 _ _) (fun obj => F.args_object_init_3 obj _ _) F.entry_zip_new
    (meets_zip_rg r g gn a b t u v hsm) ⟨C.keep _ _ hr, hg.keeps C.keep, ?_⟩
  have C1 := C.push { cls := .type "range_iterator", data := .fields #[rawInt a, rawInt (Builtin.Range.rangeSize a b 1), rawInt 1] } rfl (P := RangeIterO a (b - a)) (by rw [rangeOne a b hab]; rfl)
  obtain ⟨B2, k2, C2, oTI, hTI, hPTI⟩ := (C1.push { cls := .type "tuple", data := .seq #[.ref s.heap.objs.size, .ref g] } rfl (P := fun o => o = { cls := .type "tuple", data := .seq #[.ref s.heap.objs.size, .ref g] }) rfl).freeze
  subst hPTI
  have C3 := C2.push { cls := .type "tuple", data := .seq #[.none, .none] } rfl (P := PairO) ⟨_, _, rfl⟩
  have C4 := C3.push { cls := .type "zip", data := .fields #[.none, .bool false, .bool false, .ref (zrH1 s.heap a b).objs.size, .ref (zrH2 s.heap a b g).objs.size] } rfl (P := ZipO (zrH1 s.heap a b).objs.size (zrH2 s.heap a b g).objs.size .none) rfl
  exact ⟨⟨_, Heap.get?_push_size _ rfl, rfl⟩, h B2 _ _ _ _ _ k2 hTI C4 rfl⟩
theorem callZipLL {l1 l2 : Addr} {xs ys : Array Value} {Q : Value → Shared → Prop} (C : Cx B σ L m own s) (h1 : LsAt B l1 xs) (h2 : LsAt B l2 ys)
    (h : ∀ B' s' z TI TO i1 i2, Keeps B B' → IsPair B' TI (.ref i1) (.ref i2) → Cx B' σ L m ((z, ZipO TI TO .none) :: (TO, PairO) :: ([(i1, ListIterO l1 0)] ++ ([(i2, ListIterO l2 0)] ++ own))) s' → Q (.ref z) s') :
    wpAny (model prog w) A (call (.type "zip") [.ref l1, .ref l2]) Q E s := by
  refine callType_new F.called_zip (by decide) (F.typeCall_zip_2 _ _) (F.newCall_zip_2 _ _) (fun obj => F.args_object_init_3 obj _ _) F.entry_zip_new
    (meets_zip_new l1 l2 xs ys) ⟨(h1.keeps C.keep).isList, (h2.keeps C.keep).isList, ?_⟩
  have C1 := C.push { cls := .type "list_iterator", data := .fields #[.ref l1, .int 0 0] } rfl (P := ListIterO l1 0) ⟨rfl, rfl⟩
  have C2 := C1.push { cls := .type "list_iterator", data := .fields #[.ref l2, .int 0 0] } rfl (P := ListIterO l2 0) ⟨rfl, rfl⟩
  obtain ⟨B3, k3, C3, oTI, hTI, hPTI⟩ := (C2.push { cls := .type "tuple", data := .seq #[.ref s.heap.objs.size, .ref (zipH1 s.heap l1).objs.size] } rfl (P := fun o => o = { cls := .type "tuple", data := .seq #[.ref s.heap.objs.size, .ref (zipH1 s.heap l1).objs.size] }) rfl).freeze
  subst hPTI
  have C4 := C3.push { cls := .type "tuple", data := .seq #[.none, .none] } rfl (P := PairO) ⟨_, _, rfl⟩
  have C5 := C4.push { cls := .type "zip", data := .fields #[.none, .bool false, .bool false, .ref (zipH2 s.heap l1 l2).objs.size, .ref (zipH3 s.heap l1 l2).objs.size] } rfl (P := ZipO (zipH2 s.heap l1 l2).objs.size (zipH3 s.heap l1 l2).objs.size .none) rfl
  exact ⟨⟨_, Heap.get?_push_size _ rfl, rfl⟩, h B3 _ _ _ _ _ _ k3 hTI (C5.perm (((List.Perm.swap (s.heap.objs.size, ListIterO l1 0) ((zipH1 s.heap l1).objs.size, ListIterO l2 0) own).cons _).cons _))⟩
end
end Mine
end

section
open PySem PySem.Calls PySem.W PyProof.Rows
set_option maxRecDepth 100000
set_option autoImplicit false
set_option linter.all false
namespace Mine
def sumsOf (xs : List Int) (n : Nat) : List Int := (List.range n).map fun k => (xs.take (k + 1)).sum
theorem sumsOf_succ (xs : List Int) (k : Nat) : sumsOf xs (k + 1) = sumsOf xs k ++ [(xs.take (k + 1)).sum] := by unfold sumsOf; rw [List.range_succ, List.map_append]; rfl
theorem small_le (p : Nat) (h : p ≤ 1000) : Builtin.Range.small 0 (p : Int) 1 = true := by
  unfold Builtin.Range.small
  rw [rangeOne 0 p (by omega)]
  simp [Builtin.Range.rangeFitsLong]
  omega
def extraAt (q : Nat) : List Int := [[], [127, 3], [0, 5]].getD q []
section
variable {prog : Program} {w : World} {A : Around} {E : Value → Shared → Prop} {s s₀ : Shared} {B : Heap} {L : Addr} {m : Loc} {own : List Spec} {env : Env}
/-- a swapped pair of names: a tuple at hand -/
theorem asSw {x y : Str} {t : Addr} {v1 v2 : Value} {Q : Unit → Shared → Prop} (C : Cx B s₀ L m own s) (hh : A.handled = none) (ht : s.heap.IsTuple t #[v1, v2])
    (h : ∀ s', Cx B s₀ L (upd (upd m y v2) x v1) own s' → Q () s')
    (hk : env.scope.kind = .function := by rfl) (hx : env.kindOf x = some .local := by kernel_rfl!) (hy : env.kindOf y = some .local := by kernel_rfl!) (hL : env.locals = L := by rfl) :
    wpAny (model prog w) A (unpackItems (.ref t) 2 none) (fun items s₂ => wpAny (model prog w) A (assignInOrder ([x, y].reverse.map fun n => bindName env n) items.reverse) Q E s₂) E s := by
  refine unpackItems_tuple (items := #[v1, v2]) hh ht fun h' he => ?_
  have C1 := C.ext (s' := { s with heap := h' }) (keeps_fresh he) (Gx.heap (t := s.toks))
  show wpAny _ _ (holding [v1] (bindName env y v2) >>= fun _ => holding [] (bindName env x v1) >>= fun _ => assignInOrder [] []) Q E _
  refine wpAny_bind (wpAny_holding (wpAny_bindName (stM C1 (fun s2 C2 => ?_) hk hy hL)))
  refine wpAny_bind (wpAny_holding (wpAny_bindName (stM C2 (fun s3 C3 => ?_) hk hx hL)))
  exact wpAny_pure (h _ C3)

set_option maxHeartbeats 1000000 in
theorem heights_spec {a : Addr} {xs : List Int} {d : Int} {td : Tok} {i : Nat} {Q : Value → Shared → Prop} (G : GL s.heap) (hl : IL s.heap a xs) (hn : xs.length ≤ 100) (hx : ∀ x ∈ xs, x ≠ 0 ∧ x ≠ 127) (hi1 : i + 1 < xs.length) (hine : xs.getD i 0 ≠ xs.getD (i + 1) 0)
    (hd : A.depth + 1 < recursionLimit) (hh : A.handled = none)
    (h : ∀ s' b, Done s s' → IL s'.heap b (sumsOf xs xs.length) → s.heap.objs.size ≤ b → Q (.ref b) s') : wpAny (model prog w) A (call (.ref 103) [.ref a, .int d td]) Q E s := by
  obtain ⟨pm, cd, hf⟩ := G.fHeights
  refine callDef G.lim hf (by omega) (BindsTo.of_eq (binds := [("order", .ref a), ("draw", .int d td)]) (by kernel_rfl!)) fun L s₁ nL C => ?_
  have e : (defAt 17).2.1 = (defAt 17).2.1 := rfl
  conv at e => lhs; whnf
  rw [← e]; clear e
  obtain ⟨m0, hm0, C⟩ := C.locs
  have ho : m0 "order" = some (.ref a) := by rw [hm0]; rfl
  have hdr : m0 "draw" = some (.int d td) := by rw [hm0]; rfl
  clear hm0
  obtain ⟨vs, hl, hi⟩ := hl
  have hvl : vs.length = xs.length := hi.length
  have hsz : ((vs.toArray.size : Nat) : Int) = (xs.length : Int) := by simp [hvl]
  -- last, places
  refine wpAny_execs_cons (Assign_Tuple_swapped (wpAny_Tuple (items2 (callB1 (ldB (G.keeps C.keep) 16 0 rfl rfl ⟨rfl, ldN C ho (lenL (hl.keeps C.keep) (by simp; omega) fun s2 t2 D2 => ?_)⟩)))))
  have C2 := C.ext D2.keep D2.g
  refine wpAny_BinOp (callB1 (ldB (G.keeps C2.keep) 16 0 rfl rfl ⟨rfl, ldN C2 ho (lenL (hl.keeps C2.keep) (by simp; omega) fun s3 t3 D3 => ?_)⟩))
  have C3 := C2.ext D3.keep D3.g
  rw [hsz]
  refine kI C3 fun s4 t4 C4 => addI C4 fun s5 t5 C5 => ⟨size_small rfl, ?_⟩
  refine asSw (C5.pushAny _) hh isTuple_push fun s6 C6 => ?_
  have ho6 := upd_ne (y := "order") (x := "last") (v := .int (xs.length : Int) t2) (upd_ne (y := "order") (x := "places") (v := .int ((xs.length : Int) + 2) t5) ho (by decide)) (by decide)
  have hdr6 := upd_ne (y := "draw") (x := "last") (v := .int (xs.length : Int) t2) (upd_ne (y := "draw") (x := "places") (v := .int ((xs.length : Int) + 2) t5) hdr (by decide)) (by decide)
  have hat : ∀ (k : Nat), k < xs.length → ∃ t, vs.toArray[k]? = some (.int (xs.getD k 0) t) := fun k hk => by
    obtain ⟨t, ht⟩ := intsAre_get hi (i := k) (x := xs.getD k 0) (by rw [List.getD_eq_getElem?_getD, List.getElem?_eq_getElem hk]; rfl)
    exact ⟨t, by simpa using ht⟩
  refine wpAny_execs_cons (wpAny_mono (Q := fun f s' => f = .next ∧ ∃ (j p : Nat) (tl tp : Tok) (m' : Loc), Cx s.heap s L m' [] s' ∧ m' "order" = some (.ref a) ∧ m' "draw" = some (.int d td) ∧ m' "last" = some (.int j tl) ∧ m' "places" = some (.int p tp) ∧
    ((d.fmod 3 ≠ 2 ∧ j = xs.length ∧ p = xs.length + 2) ∨ (d.fmod 3 = 2 ∧ p = xs.length ∧ 2 ≤ j ∧ j ≤ xs.length ∧ ∀ k, j - 1 ≤ k → k < xs.length → xs.getD k 0 = xs.getD (j - 1) 0))) ?_ (fun f s' hM => ?_) fun _ _ x => x)
  · refine wpAny_If (wpAny_isTrue_Compare1 (wpAny_BinOp (ldN C6 hdr6 (kI C6 fun s7 t7 C7 => modI C7 (by decide) fun s8 t8 C8 => kI C8 fun s9 t9 C9 => eq_int (wpAny_truthy_bool ?_)))))
    by_cases h2 : d.fmod 3 = 2
    · rw [if_pos (by simpa using h2)]
      refine wpAny_execs_cons (wpAny_Assign_Name (ldN C9 upd_same (stM C9 fun s10 C10 => ?_)))
      refine wpAny_execs_cons (wpAny_While ?_)
      refine codeAny_whileLoop (fun z s' => ∃ (j : Nat) (tl : Tok) (m' : Loc), j = z ∧ i + 2 ≤ j ∧ j ≤ xs.length ∧ Cx s.heap s L m' [] s' ∧ m' "order" = some (.ref a) ∧ m' "draw" = some (.int d td) ∧ m' "last" = some (.int j tl) ∧ m' "places" = some (.int xs.length t2) ∧
        ∀ k, j - 1 ≤ k → k < xs.length → xs.getD k 0 = xs.getD (j - 1) 0) ?_ xs.length ⟨xs.length, t2, _, rfl, by omega, Nat.le_refl _, C10, upd_ne ho6 (by decide), upd_ne hdr6 (by decide), upd_ne upd_same (by decide), upd_same, fun k h1 h3 => by rw [show k = xs.length - 1 by omega]⟩
      rintro z s11 ⟨j, tl, m', rfl, hj1, hj2, C11, ho11, hd11, hl11, hp11, heq⟩
      obtain ⟨ta, hva⟩ := hat (j - 2) (by omega)
      obtain ⟨tb, hvb⟩ := hat (j - 1) (by omega)
      refine noE (wpAny_isTrue_Compare1 (Subscript_ (ldN C11 ho11 (wpAny_BinOp (ldN C11 hl11 (kI C11 fun s12 t12 C12 => subI C12 fun s13 t13 C13 => ixC C13 hl (by omega) (by omega) (by rw [show ((j : Int) - 2).toNat = j - 2 by omega]; exact hva) fun s14 C14 => Subscript_ (ldN C14 ho11 (wpAny_BinOp (ldN C14 hl11 (kI C14 fun s15 t15 C15 => subI C15 fun s16 t16 C16 => ixC C16 hl (by omega) (by omega) (by rw [show ((j : Int) - 1).toNat = j - 1 by omega]; exact hvb) fun s17 C17 => eq_int (wpAny_truthy_bool ?_)))))))))))
      by_cases hcmp : xs.getD (j - 2) 0 = xs.getD (j - 1) 0
      · rw [if_pos (by simpa using hcmp)]
        refine noE (wpAny_execs_cons (wpAny_AugAssign_Name (ldM C17 hl11 (kI C17 fun s18 t18 C18 => isubI C18 fun s19 t19 C19 => stM C19 fun s20 C20 => wpAny_execs_nil ?_))))
        have hji : j ≠ i + 2 := fun q => by subst q; exact hine hcmp
        refine ⟨j - 1, by omega, j - 1, t19, _, rfl, by omega, by omega, C20, upd_ne ho11 (by decide), upd_ne hd11 (by decide), ?_, upd_ne hp11 (by decide), fun k h1 h3 => ?_⟩
        · rw [upd_same, show ((j - 1 : Nat) : Int) = (j : Int) - 1 by omega]
        · rw [show j - 1 - 1 = j - 2 by omega, hcmp]
          rcases Nat.lt_or_ge k (j - 1) with q | q
          · rw [show k = j - 2 by omega, hcmp]
          · exact heq k q h3
      · rw [if_neg (by simpa using hcmp)]
        exact noE (wpAny_execs_nil (wpAny_execs_nil ⟨rfl, j, xs.length, tl, t2, m', C17, ho11, hd11, hl11, hp11, .inr ⟨h2, rfl, by omega, hj2, heq⟩⟩))
    · rw [if_neg (by simpa using h2)]
      exact wpAny_execs_nil ⟨rfl, xs.length, xs.length + 2, t2, t5, _, C9, ho6, hdr6, upd_same, upd_ne (upd_same.trans (by rw [show ((xs.length + 2 : Nat) : Int) = (xs.length : Int) + 2 by omega])) (by decide), .inl ⟨h2, rfl, rfl⟩⟩
  · obtain ⟨rfl, j, p, tl, tp, m7, C7, ho7, hd7, hl7, hp7, hcase⟩ := hM
    show wpAny _ _ (execs _ _) _ _ s'
    refine wpAny_execs_cons (Assign_Tuple_swapped (wpAny_Tuple (items2 (listE (items_nil (C7.newOwn rfl fun s8 hA C8 n8 => kI C8 fun s9 t9 C9 => ⟨size_small rfl, ?_⟩))))))
    refine asSw (C9.pushAny _) hh isTuple_push fun s10 C10 => ?_
    have ho10 := upd_ne (y := "order") (x := "heights") (v := .ref hA) (upd_ne (y := "order") (x := "height") (v := .int 0 t9) ho7 (by decide)) (by decide)
    have hd10 := upd_ne (y := "draw") (x := "heights") (v := .ref hA) (upd_ne (y := "draw") (x := "height") (v := .int 0 t9) hd7 (by decide)) (by decide)
    have hl10 := upd_ne (y := "last") (x := "heights") (v := .ref hA) (upd_ne (y := "last") (x := "height") (v := .int 0 t9) hl7 (by decide)) (by decide)
    have hp10 := upd_ne (y := "places") (x := "heights") (v := .ref hA) (upd_ne (y := "places") (x := "height") (v := .int 0 t9) hp7 (by decide)) (by decide)
    have hh10 : upd (upd m7 "height" (.int 0 t9)) "heights" (.ref hA) "height" = some (.int 0 t9) := upd_ne upd_same (by decide)
    have hhs10 : upd (upd m7 "height" (.int 0 t9)) "heights" (.ref hA) "heights" = some (.ref hA) := upd_same
    generalize upd (upd m7 "height" (.int 0 t9)) "heights" (.ref hA) = m10 at C10 ho10 hd10 hl10 hp10 hh10 hhs10
    have hjn : j ≤ xs.length := by rcases hcase with h | h <;> omega
    have hj1 : 1 ≤ j := by rcases hcase with h | h <;> omega
    have hpb : p ≤ 1000 := by rcases hcase with h | h <;> omega
    obtain ⟨pmg, cdg, hfg⟩ := G.fGroup
    refine wpAny_execs_cons (forStmt (callT2 (ldB (G.keeps C10.keep) 19 3 rfl rfl ⟨rfl, callT1 (ldB (G.keeps C10.keep) 17 1 rfl rfl ⟨rfl, ldN C10 hp10 (callRange1 C10 fun B11 s11 r tr vr k11 C11 hr => ?_)⟩)⟩)))
    refine callE1 (B := B11) (hfg.keeps k11) (ldG (G.keeps (k11.trans' C11.keep)) 6 rfl ⟨rfl, wpAny_BinOp (cutS (ldN C11 ho10 (evalPart_none_step (evalPart_some_step (ldN C11 hl10 (evalPart_none_step ⟨_, _, _, a, vs.toArray, none, some (j : Int), none, rfl, C11, hl.keeps (k11.trans' C11.keep), by simp; omega, .none, .int _ _, .none, by simp, ?_⟩))))))⟩)
    intro B12 s12 b12 k12 C12 l12 n12
    rw [slicePick_upto'] at l12
    refine Subscript_ (listE (items_cons (listE (items_nil (C12.newList rfl fun B13 s13 b13 k13 C13 l13 n13 => ?_)))))
    refine items_cons (lit2 C13 fun B14 s14 b14 k14 C14 l14 n14 => items_cons (lit2 C14 fun B15 s15 b15 k15 C15 l15 n15 => items_nil (C15.newList rfl fun B16 s16 b16 k16 C16 l16 n16 => ?_)))
    refine wpAny_BinOp (ldN C16 hd10 (kI C16 fun s17 t17 C17 => modI C17 (by decide) fun s18 t18 C18 => ?_))
    have hq0 : 0 ≤ d.fmod 3 := Int.fmod_nonneg_of_pos _ (by decide)
    have hq1 : d.fmod 3 < 3 := Int.fmod_lt_of_pos _ (by decide)
    have K : ∃ aE, [Value.ref b13, .ref b14, .ref b15].toArray[(d.fmod 3).toNat]? = some (.ref aE) ∧ IL B16 aE (extraAt (d.fmod 3).toNat) := by
      have : (d.fmod 3).toNat < 3 := by omega
      generalize (d.fmod 3).toNat = k at this
      match k, this with
      | 0, _ => exact ⟨b13, rfl, ⟨[], l13.keeps (k14.trans' (k15.trans' k16)), .nil⟩⟩
      | 1, _ => exact ⟨b14, rfl, l14.keeps (k15.trans' k16)⟩
      | 2, _ => exact ⟨b15, rfl, l15.keeps k16⟩
    obtain ⟨aE, haE, us, lE, hE⟩ := K
    refine ixC C18 l16 hq0 (by omega) haE fun s19 C19 => ?_
    have husl : us.length ≤ 2 := by
      have h1 := hE.length
      have h2 : (extraAt (d.fmod 3).toNat).length ≤ 2 := by
        have : (d.fmod 3).toNat < 3 := by omega
        generalize (d.fmod 3).toNat = k at this
        match k, this with
        | 0, _ => decide
        | 1, _ => decide
        | 2, _ => decide
      omega
    refine addL C19 (l12.keeps (k13.trans' (k14.trans' (k15.trans' (k16.trans' C19.keep))))) (lE.keeps C19.keep) (by simp; omega) fun B20 s20 b20 k20 C20 l20 n20 => ?_
    have k1120 : Keeps B11 B20 := k12.trans' (k13.trans' (k14.trans' (k15.trans' (k16.trans' k20))))
    have G20 : GL B20 := G.keeps (k11.trans' k1120)
    refine ⟨k1120.trans' C20.keep, callGen C20 (G20.keeps C20.keep).lim (hfg.keeps (k11.trans' (k1120.trans' C20.keep))) hd (BindsTo.of_eq (binds := [("grouping", .ref b20)]) (by kernel_rfl!)) fun Lg ag B21 s21 k21 C21 hi21 hg21 => ?_⟩
    have C22 := C21.mono1 (pre := []) (P' := NsP fun m => m "grouping" = some (.ref b20)) (fun o ho => ⟨_, by rfl, ho⟩)
    have hsz0 : s.gens.size ≤ s20.gens.size := Gx.size C20.g
    have C23 : Cx B21 s21 L m10 ([(Lg, NsP fun m => m "grouping" = some (.ref b20))] ++ [(hA, ListO #[])]) s21 := C22.base (Gx.refl _)
    have hσ : s21.gens[s20.gens.size]? = some (.fresh (.func (defAt 10).2.1 (envAt 10 Lg 67 cdg))) := by rw [hg21]; simp
    have hGx : Gx s s21 := C22.g
    have hLgB : B21.get? Lg = none := (C22.off _ (.head _)).1
    have G21 : GL B21 := G20.keeps k21
    have l21 : LsAt B21 b20 (vs.take j ++ us).toArray := by have := l20.keeps k21; simpa using this
    have i21 : IntsAre (vs.take j ++ us) (xs.take j ++ extraAt (d.fmod 3).toNat) := (hi.take j).append hE
    have hr21 : IsRange B21 r 0 (p : Int) 1 tr tp vr := k21 _ _ (k1120 _ _ hr)
    have hp0 : (0 : Int) ≤ p := by omega
    with_reducible refine callZipRG (small_le p hpb) hp0 C23 hr21 hi21 fun B24 s24 z TI TO ri k24 hTI C24 hg24 => ?_
    obtain ⟨_, hz24, hze⟩ := C24.get 0 rfl
    subst hze
    with_reducible refine wpAny_pyIter_zip hz24 ?_
    have hyt : ∀ k, k < xs.length → yAt (xs.take j) k = xs.getD k 0 := fun k hk => by
      unfold yAt lastY
      rw [List.length_take, Nat.min_eq_left hjn]
      split
      · rename_i hkj; rw [List.getD_eq_getElem?_getD, List.getElem?_take, if_pos hkj, ← List.getD_eq_getElem?_getD]
      · rename_i hkj
        rw [List.getD_eq_getElem?_getD, List.getElem?_take, if_pos (by omega), ← List.getD_eq_getElem?_getD]
        rcases hcase with h | h
        · omega
        · exact (h.2.2.2.2 k (by omega) hk).symm
    have hys : ∀ y ∈ xs.take j, y ≠ 0 ∧ y ≠ 127 := fun y hy => hx y (List.mem_of_mem_take hy)
    obtain ⟨Ng, fin, n2, N, hT, hn2, hT1, hT2, hTN, hTe⟩ : ∃ Ng fin n2 N, TailOk (xs.take j) (extraAt (d.fmod 3).toNat) Ng fin ∧ ((fin = true ∧ n2 = Ng ∧ N = Ng + 1) ∨ (fin = false ∧ n2 = Ng + 1 ∧ N = Ng)) ∧ xs.length ≤ p ∧ xs.length ≤ n2 ∧ xs.length ≤ N ∧
        (xs.length = p ∨ (xs.length < p ∧ xs.length = n2 ∧ n2 < N)) := by
      rcases hcase with ⟨h2, rfl, rfl⟩ | ⟨h2, rfl, h3, h4, -⟩
      · refine ⟨xs.length, true, xs.length, xs.length + 1, .inl ⟨rfl, by simp, ?_⟩, .inl ⟨rfl, rfl, rfl⟩, by omega, by omega, by omega, .inr ⟨by omega, rfl, by omega⟩⟩
        have : (d.fmod 3).toNat = 0 ∨ (d.fmod 3).toNat = 1 := by omega
        rcases this with q | q <;> rw [q]
        · exact .inl rfl
        · exact .inr ⟨[3], rfl⟩
      · refine ⟨xs.length + 1, false, xs.length + 2, xs.length + 1, .inr ⟨rfl, by simp; omega, by simp; omega, [5], by rw [show (d.fmod 3).toNat = 2 by omega]; rfl⟩, .inr ⟨rfl, rfl, rfl⟩, by omega, by omega, by omega, .inl rfl⟩
    have I1 : ItrP prog w ((A.deeper (envAt 17 L 103 cd)).in1) (.ref ri) (fun k => [(ri, RangeIterO (0 + (k : Int)) ((p : Int) - (k : Int)))]) p (fun k v => ∃ t, v = .int (0 + (k : Int)) t) B24 := itrRange hh
    have R0 := grp_fresh (prog := prog) (w := w) (A := ((A.deeper (envAt 17 L 103 cd)).in1).in1) (cd := cdg) (ga := b20) hh G21 l21 i21 rfl hys hT hLgB
    have I2 := itrGen (s₀ := s) (A := (A.deeper (envAt 17 L 103 cd)).in1) (n2 := n2) (N := N) (val := GrVal (xs.take j)) (vl := fun k v => ∃ t, v = .int (yAt (xs.take j) k) t) hsz0 (hi21.keeps k24) k24 hh (G21.keeps k24).lim hd (fun k v h hv => hv) hn2 (prog := prog) (w := w) (fin := fin) (Ng := Ng)
    have C25 : Cx B24 s21 L m10 ((z, ZipO TI TO .none) :: (TO, PairO) :: ((fun k : Nat => [(ri, RangeIterO (0 + (k : Int)) ((p : Int) - (k : Int)))]) 0 ++ ([(Lg, NsP fun m => m "grouping" = some (.ref b20))] ++ [(hA, ListO #[])]))) s24 := C24
    refine for_zip (T := xs.length) I1 I2 hTI hT1 hT2 hTN hTe hh C25 hGx ⟨_, hσ, R0⟩
      (fun k B m own => ∃ ws, own = [(hA, ListO (List.toArray ws))] ∧ IntsAre ws (sumsOf xs k) ∧ m "heights" = some (.ref hA) ∧ ∃ t, m "height" = some (.int (xs.take k).sum t))
      ⟨[], rfl, .nil, hhs10, _, hh10⟩ ?_ ?_
    · rintro k σ' B' m1 v1 v2 J own' s25 hk hG' kB ⟨ws, rfl, hws, hhs, t, hht⟩ ⟨tp', rfl⟩ ⟨tv, rfl⟩ C26
      rw [hyt k hk] at C26
      have hsum : (xs.take (k + 1)).sum = (xs.take k).sum + xs.getD k 0 := by
        rw [List.take_add_one, List.getElem?_eq_getElem hk, List.sum_append, List.getD_eq_getElem?_getD, List.getElem?_eq_getElem hk]; simp
      refine wpAny_execs_cons (wpAny_AugAssign_Name (ldM C26 (upd_ne (upd_ne hht (by decide)) (by decide)) (ldN C26 upd_same (iaddI C26 fun s27 t27 C27 => stM C27 fun s28 C28 => ?_))))
      rw [← hsum] at C28
      obtain ⟨_, ha28, n28, rfl⟩ := C28.has (hA, ListO (List.toArray ws)) (by simp)
      refine wpAny_execs_cons (wpAny_Expr (wpAny_Call_append (by rfl) (by rfl) (by rfl) (by kernel_rfl!) (ldN C28 (upd_ne (upd_ne (upd_ne hhs (by decide)) (by decide)) (by decide)) ⟨hA, _, rfl, ⟨_, n28, ha28, rfl, rfl, rfl⟩, ldN C28 upd_same (append_at ha28 (fun h' hs ho' => ?_) ?_)⟩)))
      · have C29 := C28.updMid (P' := ListO (ws ++ [Value.int (xs.take (k + 1)).sum t27]).toArray) hs ⟨_, ho', n28 + 1, by simp [W.listOf]⟩ (t := s28.toks)
        exact wpAny_execs_nil ⟨B', _, _, keeps_refl _, C29, _, rfl, by rw [sumsOf_succ]; exact hws.append (.cons _ _ .nil), upd_ne (upd_ne (upd_ne hhs (by decide)) (by decide)) (by decide), t27, upd_same⟩
      · have := hws.length; unfold sumsOf at this; simp at this ⊢; exact Nat.le_trans (show ws.length ≤ 1000 by omega) (by decide)
    · rintro σ' B' m1 own' s25 hG' kB ⟨ws, rfl, hws, hhs, t, hht⟩ C26
      obtain ⟨B27, k27, C27, _, ho27, n27, rfl⟩ := C26.freeze
      refine wpAny_execs_cons (wpAny_Return_some (ldN C27 hhs ?_))
      exact h s25 hA ⟨k11.trans' (k1120.trans' (k21.trans' (k24.trans' (kB.trans' (k27.trans' C27.keep))))), hG'.trans C27.g⟩ ⟨ws, ⟨n27, C27.keep _ _ ho27⟩, hws⟩ (Nat.le_trans nL (Nat.le_of_lt n8))
end
end Mine
end

section
open PySem PySem.Calls PySem.W PyProof.Rows
set_option maxRecDepth 100000
set_option autoImplicit false
set_option linter.all false
namespace Mine
section
variable {prog : Program} {w : World} {A : Around} {E : Value → Shared → Prop} {s s₀ : Shared} {B : Heap} {L : Addr} {m : Loc} {own : List Spec} {env : Env}
/-- a call of a text's function with one keyword -/
theorem callK {fe e0 ek : PySem.Expr} {es : List PySem.Expr} {kn : Str} {kp pos : Pos} {g : Addr} {F : FuncData} {Q : Value → Shared → Prop} (hf : FnAt B g F)
    (h : wpAny (model prog w) A (eval fe env) (fun v0 s0 => v0 = .ref g ∧ wpAny (model prog w) A (spliced (backTo pos (starEach (e0 :: es) env))) (fun vs s1 => wpAny (model prog w) A (eval ek env) (fun u s2 => Keeps B s2.heap ∧ wpAny (model prog w) A (call (.ref g) vs [(kn, u)]) Q E s2) E s1) E s0) E s)
    (hc : eval (.Call fe (e0 :: es) [⟨some kn, ek, kp⟩] pos) env = (eval fe env >>= fun v => callWith pos v [] (backTo pos (starEach (e0 :: es) env)) (backToKw pos (keywordEach [⟨some kn, ek, kp⟩] env))) := by kernel_rfl!)
    (h1 : plainE e0 = true := by kernel_rfl!) :
    wpAny (model prog w) A (eval (.Call fe (e0 :: es) [⟨some kn, ek, kp⟩] pos) env) Q E s := by
  rw [hc]
  refine wpAny_bind (wpAny_mono h (fun v0 s0 h0 => ?_) fun _ _ x => x)
  obtain ⟨rfl, h0⟩ := h0
  refine callWith_def_kw (o := ⟨.type "function", none, .func F, #[]⟩) (fd := F) rfl ?_
  rw [star_cons h1] at h0 ⊢
  have e1 : backTo pos ((false, eval e0 env) :: starEach es env) = (false, (backTo pos ((false, eval e0 env) :: starEach es env)).head!.2) :: (backTo pos ((false, eval e0 env) :: starEach es env)).tail := rfl
  refine evalArgs_kw (keywords := backToKw pos (keywordEach [⟨some kn, ek, kp⟩] env)) rfl (wpAny_mono h0 (fun vs s1 h1 => ?_) fun _ _ x => x)
  refine wpAny_evalAll_cons (wpAny_bind (wpAny_mono h1 (fun u s2 h2 => wpAny_bind (wpAny_standAt (wpAny_pure (wpAny_evalAll_nil ?_)))) fun _ _ x => x))
  exact ⟨h2.1 _ _ hf.1, h2.2⟩
/-- an object of what is kept, from now on at hand -/
theorem Cx.thaw {a : Addr} {P : Obj → Prop} (C : Cx B s₀ L m own s) (ho : ∃ o, B.get? a = some o ∧ P o) (hn : a ∉ own.map (·.1)) : Cx (hideAll B [a]) s₀ L m ((a, P) :: own) s := by
  obtain ⟨o, ho, hP⟩ := ho
  have hd : ∀ b, B.get? b = none → (hideAll B [a]).get? b = none := fun b h => by
    cases q : (hideAll B [a]).get? b with
    | none => rfl
    | some o' => rw [of_hideAll _ q] at h; cases h
  refine ⟨fun b o' e => C.keep b o' (of_hideAll _ e), C.ns, fun p hp => ?_, hd _ C.offL, fun p hp => ?_, ?_, C.g⟩
  · rcases List.mem_cons.mp hp with rfl | hp
    · exact ⟨o, C.keep _ _ ho, hP⟩
    · exact C.has p hp
  · rcases List.mem_cons.mp hp with rfl | hp
    · exact ⟨hideAll_none _ (.head _), fun q => by rw [show a = L from q, C.offL] at ho; cases ho⟩
    · exact ⟨hd _ (C.off p hp).1, (C.off p hp).2⟩
  · rw [List.map_cons, List.nodup_cons]
    exact ⟨hn, C.nd⟩
theorem Cx.transOf {a : Addr} {P P' : Obj → Prop} {h0 : Heap} {k : Heap} (C : Cx k s₀ L m [(a, P')] s) (hk : Keeps (hideAll h0 [a]) k) (h0e : h0 = s₀.heap) : Trans [(a, P)] [(a, P')] s₀ s := by
  subst h0e
  refine ⟨fun b o hb e => C.keep _ _ (hk _ _ (hideAll_get [a] e (by simpa using hb))), C.has, by simp, fun p hp => .inl (by rcases List.mem_cons.mp hp with rfl | hp; simp; exact (nomatch hp)), C.g⟩
end
/-! ## the line of heights -/
def bar (h : Int) : List Nat := List.replicate h.toNat 32 ++ [124]
theorem bar_lt (a b : Nat) : (List.replicate a 32 ++ [124] < List.replicate b 32 ++ [124]) ↔ b < a := by
  induction a generalizing b with
  | zero =>
    cases b with
    | zero => decide
    | succ b => rw [List.replicate_succ]; show [124] < 32 :: _ ↔ _; rw [List.cons_lt_cons_iff]; omega
  | succ a ih =>
    cases b with
    | zero => rw [List.replicate_succ]; show 32 :: _ < [124] ↔ _; rw [List.cons_lt_cons_iff]; omega
    | succ b => rw [List.replicate_succ, List.replicate_succ, List.cons_append, List.cons_append, List.cons_lt_cons_self, ih b]; omega
/-- pairs of a height and a step -/
inductive PL (h : Heap) : List Addr → List (Int × Int) → Prop
  | nil : PL h [] []
  | cons {a : Addr} {as : List Addr} {x y : Int} {ps : List (Int × Int)} {t u : Tok} : LsAt h a #[.str (txt (bar x)) t, .int y u] → PL h as ps → PL h (a :: as) ((x, y) :: ps)
theorem PL.keeps {h h' : Heap} {as : List Addr} {ps : List (Int × Int)} (x : PL h as ps) (k : Keeps h h') : PL h' as ps := by
  induction x with
  | nil => exact .nil
  | cons a _ ih => exact .cons (a.keeps k) ih
theorem PL.length {h : Heap} {as : List Addr} {ps : List (Int × Int)} (x : PL h as ps) : as.length = ps.length := by
  induction x with
  | nil => rfl
  | cons _ _ ih => simp [ih]
theorem PL.append {h : Heap} {as bs : List Addr} {ps qs : List (Int × Int)} (x : PL h as ps) (y : PL h bs qs) : PL h (as ++ bs) (ps ++ qs) := by
  induction x with
  | nil => exact y
  | cons a _ ih => exact .cons a ih
theorem PL.take {h : Heap} {as : List Addr} {ps : List (Int × Int)} (x : PL h as ps) : ∀ k, PL h (as.take k) (ps.take k) := by
  induction x with
  | nil => intro k; simpa using .nil
  | cons a _ ih => intro k; cases k with
    | zero => exact .nil
    | succ k => exact .cons a (ih k)
theorem PL.drop {h : Heap} {as : List Addr} {ps : List (Int × Int)} (x : PL h as ps) : ∀ k, PL h (as.drop k) (ps.drop k) := by
  induction x with
  | nil => intro k; simpa using .nil
  | cons a r ih => intro k; cases k with
    | zero => exact .cons a r
    | succ k => exact ih k
theorem PL.at {h : Heap} {as : List Addr} {ps : List (Int × Int)} (x : PL h as ps) : ∀ {k : Nat}, k < ps.length → ∃ a t u, as[k]? = some a ∧ LsAt h a #[.str (txt (bar (ps.getD k (0, 0)).1)) t, .int (ps.getD k (0, 0)).2 u] := by
  induction x with
  | nil => intro k hk; cases hk
  | cons a _ ih =>
    intro k hk
    cases k with
    | zero => exact ⟨_, _, _, rfl, a⟩
    | succ k => simpa using ih (k := k) (by simpa using hk)
end Mine
end

section
open PySem PySem.Calls PySem.W PyProof.Rows
set_option maxRecDepth 100000
set_option autoImplicit false
set_option linter.all false
namespace Mine
def Desc (ps : List (Int × Int)) : Prop := ∀ i j, i ≤ j → j < ps.length → (ps.getD j (0, 0)).1 ≤ (ps.getD i (0, 0)).1
def Cut (ps : List (Int × Int)) (x : Int) (p : Nat) : Prop := p ≤ ps.length ∧ (∀ i, i < p → x < (ps.getD i (0, 0)).1) ∧ ∀ i, p ≤ i → i < ps.length → (ps.getD i (0, 0)).1 ≤ x
section
variable {prog : Program} {w : World} {A : Around} {E : Value → Shared → Prop} {s : Shared}
theorem bar_lt' {a b : Int} (ha : 0 ≤ a) (hb : 0 ≤ b) : ((txt (bar a)).cps.toList < (txt (bar b)).cps.toList) ↔ b < a := by
  show (bar a) < (bar b) ↔ _
  unfold bar
  rw [bar_lt]; omega
set_option maxHeartbeats 1000000 in
theorem bisect_spec {l : Addr} {as : List Addr} {ps : List (Int × Int)} {x : Int} {tx t0 : Tok} {Q : Value → Shared → Prop} (G : GL s.heap) (hl : LsAt s.heap l (as.map Value.ref).toArray) (hp : PL s.heap as ps) (hn : ps.length ≤ 100) (hx : 0 ≤ x) (hnn : ∀ p ∈ ps, 0 ≤ p.1) (hs : Desc ps)
    (hd : A.depth + 2 < recursionLimit) (hh : A.handled = none)
    (h : ∀ s' p t, Done s s' → Cut ps x p → Q (.int (p : Nat) t) s') : wpAny (model prog w) A (call (.ref 32) [.ref l, .str (txt (bar x)) tx, .int 0 t0, .none] [("key", .ref 110)]) Q E s := by
  obtain ⟨pm, cd, hf⟩ := G.fBisect
  obtain ⟨td, nsd, hd1, -, -⟩ := G.dBisect
  refine callDef (kw := [("key", .ref 110)]) G.lim hf (by omega) (BindsTo.of_defaults (binds := [("a", .ref l), ("x", .str (txt (bar x)) tx), ("lo", .int 0 t0), ("hi", .none), ("key", .ref 110)]) rfl hd1 rfl rfl rfl) fun L s₁ nL C => ?_
  have e : (defAt 2).2.1 = (defAt 2).2.1 := rfl
  conv at e => lhs; whnf
  rw [← e]; clear e
  obtain ⟨m0, hm0, C⟩ := C.locs
  have ha : m0 "a" = some (.ref l) := by rw [hm0]; rfl
  have hxx : m0 "x" = some (.str (txt (bar x)) tx) := by rw [hm0]; rfl
  have hlo : m0 "lo" = some (.int 0 t0) := by rw [hm0]; rfl
  have hhi : m0 "hi" = some .none := by rw [hm0]; rfl
  have hk : m0 "key" = some (.ref 110) := by rw [hm0]; rfl
  clear hm0
  have hal : as.length = ps.length := hp.length
  refine wpAny_execs_cons (wpAny_If (wpAny_isTrue_Compare1 (ldN C hlo (kI C fun s2 t2 C2 => lt_int (wpAny_truthy_bool ?_)))))
  rw [if_neg (by decide)]
  refine wpAny_execs_nil (wpAny_execs_cons (wpAny_If (wpAny_isTrue_Compare1 (ldN C2 hhi (wpAny_Constant_none (is_none_none (wpAny_truthy_bool ?_)))))))
  rw [if_pos rfl]
  refine wpAny_execs_cons (wpAny_Assign_Name (callB1 (ldB (G.keeps C2.keep) 16 0 rfl rfl ⟨rfl, ldN C2 ha (lenL (hl.keeps C2.keep) (by simp; omega) fun s3 t3 D3 => ?_)⟩)))
  have C3 := C2.ext D3.keep D3.g
  rw [show (((as.map Value.ref).toArray.size : Nat) : Int) = (ps.length : Int) by simp [hal]]
  refine stM C3 fun s4 C4 => wpAny_execs_nil ?_
  refine wpAny_execs_cons (wpAny_If (wpAny_isTrue_Compare1 (ldN C4 (upd_ne hk (by decide)) (wpAny_Constant_none (is_none_ne (by intro q; cases q) (wpAny_truthy_bool ?_))))))
  rw [if_neg Bool.false_ne_true]
  obtain ⟨pmf, cdf, hff⟩ := G.fFront
  refine wpAny_execs_cons (wpAny_While ?_)
  refine codeAny_whileLoop (fun z s' => ∃ (lo hi : Nat) (tl th : Tok) (m' : Loc) (B' : Heap), hi - lo = z ∧ lo ≤ hi ∧ hi ≤ ps.length ∧ Keeps s.heap B' ∧ Cx B' s L m' [] s' ∧ m' "a" = some (.ref l) ∧ m' "x" = some (.str (txt (bar x)) tx) ∧ m' "key" = some (.ref 110) ∧
    m' "lo" = some (.int (lo : Nat) tl) ∧ m' "hi" = some (.int (hi : Nat) th) ∧ (∀ i, i < lo → x < (ps.getD i (0, 0)).1) ∧ ∀ i, hi ≤ i → i < ps.length → (ps.getD i (0, 0)).1 ≤ x) ?_ ps.length
    ⟨0, ps.length, t0, t3, _, s.heap, rfl, Nat.zero_le _, Nat.le_refl _, keeps_refl _, C4, upd_ne ha (by decide), upd_ne hxx (by decide), upd_ne hk (by decide), upd_ne hlo (by decide), upd_same, fun i hi => absurd hi (Nat.not_lt_zero i), fun i h1 h2 => absurd h2 (Nat.not_lt.mpr h1)⟩
  rintro z s5 ⟨lo, hi, tl, th, m', B', rfl, hle, hhl, kB, C5, ha5, hx5, hk5, hlo5, hhi5, hI1, hI2⟩
  refine noE (wpAny_isTrue_Compare1 (ldN C5 hlo5 (ldN C5 hhi5 (lt_int (wpAny_truthy_bool ?_)))))
  by_cases hlt : lo < hi
  · rw [if_pos (by simpa using hlt)]
    have hmid : ((lo : Int) + (hi : Int)).fdiv 2 = (((lo + hi) / 2 : Nat) : Int) := by rw [Int.fdiv_eq_ediv_of_nonneg _ (by decide)]; omega
    have hm1 : lo ≤ (lo + hi) / 2 := by omega
    have hm2 : (lo + hi) / 2 < hi := by omega
    refine noE (wpAny_execs_cons (wpAny_Assign_Name (wpAny_BinOp (wpAny_BinOp (ldN C5 hlo5 (ldN C5 hhi5 (addI C5 fun s6 t6 C6 => kI C6 fun s7 t7 C7 => fdivI C7 (by decide) (by decide) fun s8 t8 C8 => ?_)))))))
    rw [hmid]
    generalize (lo + hi) / 2 = mid at hm1 hm2
    refine stM C8 fun s9 C9 => ?_
    obtain ⟨pa, tpa, upa, hpa, lpa⟩ := hp.at (k := mid) (by omega)
    have hget : (as.map Value.ref).toArray[((mid : Nat) : Int).toNat]? = some (.ref pa) := by simp [hpa]
    refine wpAny_execs_cons (wpAny_If (wpAny_isTrue_Compare1 (callE1 (B := B') (hff.keeps kB) (ldN C9 (upd_ne hk5 (by decide)) ⟨rfl, Subscript_ (ldN C9 (upd_ne ha5 (by decide)) (ldN C9 upd_same (ixC C9 (hl.keeps kB) (by omega) (by omega) hget fun s10 C10 => ⟨C10.keep, ?_⟩)))⟩))))
    refine front_spec (G.keeps (kB.trans' C10.keep)) ((lpa.keeps (kB.trans' C10.keep)).isList) rfl hd fun s11 D11 => ?_
    obtain ⟨B12, k12, C12, -⟩ := C10.call D11
    refine ldN C12 (upd_ne hx5 (by decide)) (PyProof.Rows.lt_str (wpAny_truthy_bool ?_))
    have hpn : 0 ≤ (ps.getD mid (0, 0)).1 := by
      have hml : mid < ps.length := by omega
      rw [List.getD_eq_getElem?_getD, List.getElem?_eq_getElem hml]; exact hnn _ (List.getElem_mem _)
    by_cases hc : x < (ps.getD mid (0, 0)).1
    · rw [if_pos (by rw [decide_eq_true_eq]; exact (bar_lt' hpn hx).mpr hc)]
      refine wpAny_execs_cons (wpAny_Assign_Name (wpAny_BinOp (ldN C12 upd_same (kI C12 fun s13 t13 C13 => addI C13 fun s14 t14 C14 => stM C14 fun s15 C15 => ?_))))
      refine wpAny_execs_nil (wpAny_execs_nil ⟨hi - (mid + 1), by omega, mid + 1, hi, t14, th, _, B12, rfl, by omega, hhl, kB.trans' k12, C15, upd_ne (upd_ne ha5 (by decide)) (by decide), upd_ne (upd_ne hx5 (by decide)) (by decide), upd_ne (upd_ne hk5 (by decide)) (by decide), upd_same, upd_ne (upd_ne hhi5 (by decide)) (by decide), fun i hi' => ?_, hI2⟩)
      exact Int.lt_of_lt_of_le hc (hs i mid (by omega) (by omega))
    · rw [if_neg (by rw [decide_eq_true_eq]; exact fun q => hc ((bar_lt' hpn hx).mp q))]
      refine wpAny_execs_cons (wpAny_Assign_Name (ldN C12 upd_same (stM C12 fun s13 C13 => ?_)))
      refine wpAny_execs_nil (wpAny_execs_nil ⟨mid - lo, by omega, lo, mid, tl, t8, _, B12, rfl, by omega, by omega, kB.trans' k12, C13, upd_ne (upd_ne ha5 (by decide)) (by decide), upd_ne (upd_ne hx5 (by decide)) (by decide), upd_ne (upd_ne hk5 (by decide)) (by decide), upd_ne (upd_ne hlo5 (by decide)) (by decide), upd_same, hI1, fun i h1 h2 => ?_⟩)
      exact Int.le_trans (hs mid i h1 h2) (Int.not_lt.mp hc)
  · rw [if_neg (by simpa using hlt)]
    obtain rfl : lo = hi := by omega
    refine noE (wpAny_execs_nil (wpAny_execs_nil (wpAny_execs_cons (wpAny_Return_some (ldN C5 hlo5 ?_)))))
    exact h s5 lo tl (C5.done kB) ⟨hhl, hI1, hI2⟩
end
end Mine
end

section
open PySem PySem.Calls PySem.W PyProof.Rows
set_option maxRecDepth 100000
set_option autoImplicit false
set_option linter.all false
namespace Mine
theorem insArr (vs : List Value) (v : Value) (k : Nat) (hk : k ≤ vs.length) : ((vs.toArray.extract 0 k).push v ++ vs.toArray.extract k) = (vs.take k ++ [v] ++ vs.drop k).toArray := by
  apply Array.ext'
  simp
  exact List.take_of_length_le (by simp)
theorem fitsIdx (x : Int) (h0 : 0 ≤ x) (h : x ≤ 1000) : ¬(!Builtin.List.listFitsIndex x) = true := by
  simp [Builtin.List.listFitsIndex]; omega
section
variable {prog : Program} {w : World} {A : Around} {E : Value → Shared → Prop} {s : Shared} {B : Heap}
theorem insert_at {l : Addr} {items : Array Value} {n : Nat} {k : Nat} {x : Int} {t : Tok} {y : Value} {Q : Value → Shared → Prop} (ho : s.heap.get? l = some { cls := .type "list", data := .seq items n }) (hx : x = (k : Int)) (hk : k ≤ 1000) (hsz : items.size ≤ sizeLine)
    (h : ∀ f : Array Value → Array Value, (∀ xs, f xs = (xs.extract 0 (min k xs.size)).push y ++ xs.extract (min k xs.size)) → Q .none { s with heap := s.heap.update l (Obj.mapSeq f) }) :
    wpAny (model prog w) A (call (.builtin "list.insert") [.ref l, .int x t, y]) Q E s := by
  have hc0 := fitsIdx x (by omega) (by omega)
  refine call_meets F.slot_list_insert ⟨_, ho, rfl⟩ F.entry_list_insert (F.args_list_insert_3 _ _ _) (AutoListH.list_insert_list_int_val_1 l items n x t y hc0 hsz) ⟨ho, ?_⟩
  refine h _ fun xs => ?_
  have hk0 : ¬ (x < 0) := by omega
  have hk1 : x.toNat = k := by omega
  simp only [if_neg hk0, hk1]
set_option maxHeartbeats 1000000 in
theorem insort_spec {l p : Addr} {as : List Addr} {ps : List (Int × Int)} {x y : Int} {tx ty : Tok} {Q : Value → Shared → Prop} (G : GL B) (kB : Keeps B s.heap) (hlB : B.get? l = none) (hl : LsAt s.heap l (as.map Value.ref).toArray) (hp : PL B as ps)
    (hpp : LsAt B p #[.str (txt (bar x)) tx, .int y ty]) (hn : ps.length ≤ 100) (hx : 0 ≤ x) (hnn : ∀ p ∈ ps, 0 ≤ p.1) (hs : Desc ps) (hd : A.depth + 3 < recursionLimit) (hh : A.handled = none)
    (h : ∀ s' k, Trans [(l, ListO (as.map Value.ref).toArray)] [(l, ListO ((as.take k ++ [p] ++ as.drop k).map Value.ref).toArray)] s s' → Cut ps x k → Q .none s') : wpAny (model prog w) A (call (.ref 23) [.ref l, .ref p] [("key", .ref 110)]) Q E s := by
  obtain ⟨pm, cd, hf⟩ := (G.keeps kB).fInsort
  obtain ⟨td, nsd, hd1, -, -⟩ := (G.keeps kB).dInsort
  refine callDef (kw := [("key", .ref 110)]) (G.keeps kB).lim hf (by omega) (BindsTo.of_defaults (binds := [("a", .ref l), ("x", .ref p), ("lo", .int 0 td), ("hi", .none), ("key", .ref 110)]) rfl hd1 rfl rfl rfl) fun L s₁ nL C => ?_
  have e : (defAt 1).2.1 = (defAt 1).2.1 := rfl
  conv at e => lhs; whnf
  rw [← e]; clear e
  obtain ⟨m0, hm0, C⟩ := C.locs
  have ha : m0 "a" = some (.ref l) := by rw [hm0]; rfl
  have hxx : m0 "x" = some (.ref p) := by rw [hm0]; rfl
  have hlo : m0 "lo" = some (.int 0 td) := by rw [hm0]; rfl
  have hhi : m0 "hi" = some .none := by rw [hm0]; rfl
  have hk : m0 "key" = some (.ref 110) := by rw [hm0]; rfl
  clear hm0
  obtain ⟨nl, hl⟩ := hl
  have C := C.thaw (a := l) (P := ListO (as.map Value.ref).toArray) ⟨_, hl, nl, rfl⟩ (by simp)
  have kH : Keeps B (hideAll s.heap [l]) := fun b o e => hideAll_get _ (kB _ _ e) (fun q => by rw [List.mem_singleton.mp q, hlB] at e; cases e)
  have GH := G.keeps kH
  refine wpAny_execs_cons (wpAny_If (wpAny_isTrue_Compare1 (ldN C hk (wpAny_Constant_none (is_none_ne (by intro q; cases q) (wpAny_truthy_bool ?_))))))
  rw [if_neg Bool.false_ne_true]
  obtain ⟨pmb, cdb, hfb⟩ := G.fBisect
  obtain ⟨pmf, cdf, hff⟩ := G.fFront
  refine wpAny_execs_cons (wpAny_Assign_Name (callK (B := B) hfb (ldG (GH.keeps C.keep) 1 rfl ⟨rfl, items_cons (ldN C ha (items_cons (callE1 (B := B) hff (ldN C hk ⟨rfl, ldN C hxx ⟨kH.trans' C.keep, ?_⟩⟩))))⟩)))
  refine front_spec (GH.keeps C.keep) (hpp.keeps (kH.trans' C.keep)).isList rfl (by show A.depth + 1 + 1 < _; omega) fun s2 D2 => ?_
  obtain ⟨B2, k2, C2, -⟩ := C.call D2
  refine items_cons (ldN C2 hlo (items_cons (ldN C2 hhi (items_nil (ldN C2 hk ⟨kH.trans' (k2.trans' C2.keep), ?_⟩)))))
  refine bisect_spec (GH.keeps (k2.trans' C2.keep)) (C2.list 0 rfl) (hp.keeps (kH.trans' (k2.trans' C2.keep))) hn hx hnn hs (by show A.depth + 1 + 2 < _; omega) hh fun s3 k t3 D3 hcut => ?_
  obtain ⟨B3, k3, C3, -⟩ := C2.call D3
  refine stM C3 fun s4 C4 => wpAny_execs_nil ?_
  obtain ⟨_, hl4, n4, rfl⟩ := C4.get 0 rfl
  have hal : as.length = ps.length := hp.length
  have hkl : k ≤ as.length := by rw [hal]; exact hcut.1
  refine wpAny_execs_cons (wpAny_Expr (Call_method2 (by rfl) (by rw [star_cons (by kernel_rfl!), star_cons (by kernel_rfl!), star_nil]) (by rfl) (ldN C4 (upd_ne ha (by decide)) ⟨"list", "list.insert", F.plainAttrs_list, F.slot_list_insert, F.type_list_insert, ⟨_, hl4, rfl⟩, fun a e => by cases e; exact ⟨_, hl4, rfl⟩, ?_⟩)))
  refine callWith_builtin rfl (evalArgs_plain (spliced_cons (ldN C4 upd_same (spliced_cons (ldN C4 (upd_ne hxx (by decide)) (spliced_nil ?_))))))
  have hsz4 : (as.map Value.ref).toArray.size ≤ sizeLine := Nat.le_trans (show _ ≤ 1000 by simp; omega) (by decide)
  refine insert_at hl4 rfl (by omega) hsz4 fun f hf => ?_
  have hfv : f (as.map Value.ref).toArray = ((as.take k ++ [p] ++ as.drop k).map Value.ref).toArray := by
    have hkm : min k (as.map Value.ref).toArray.size = k := by simp; omega
    rw [hf, hkm, insArr _ _ _ (by simp; omega)]
    simp
  have hm : ∃ n', Obj.mapSeq f { cls := .type "list", dict := none, data := .seq (as.map Value.ref).toArray n4, slots := #[] } = W.listOf ((as.take k ++ [p] ++ as.drop k).map Value.ref).toArray n' := ⟨_, by rw [← hfv]; rfl⟩
  obtain ⟨n5, hm⟩ := hm
  have C5 := C4.upd 0 rfl (Heap.SameBut.update (a := l) (h := s4.heap) (f := Obj.mapSeq _)) (t := s4.toks) (P' := ListO ((as.take k ++ [p] ++ as.drop k).map Value.ref).toArray) ⟨_, Heap.get?_update_self _ hl4 (by rw [hm]; rfl), _, hm⟩
  exact wpAny_execs_nil (h _ k (C5.transOf (k2.trans' k3) rfl) hcut)
end
end Mine
end

section
open PySem PySem.Calls PySem.W PyProof.Rows
set_option maxRecDepth 100000
set_option autoImplicit false
set_option linter.all false
namespace Mine
def insP (ps : List (Int × Int)) (q : Int × Int) : List (Int × Int) := ps.takeWhile (fun p => decide (q.1 < p.1)) ++ q :: ps.dropWhile (fun p => decide (q.1 < p.1))
def lineOf (qs : List (Int × Int)) : List (Int × Int) := qs.foldl insP []
def DescP (ps : List (Int × Int)) : Prop := ps.Pairwise fun p q => q.1 ≤ p.1
theorem DescP.desc {ps : List (Int × Int)} (h : DescP ps) : Desc ps := by
  intro i j hij hj
  have hi : i < ps.length := by omega
  rw [List.getD_eq_getElem?_getD, List.getD_eq_getElem?_getD, List.getElem?_eq_getElem hj, List.getElem?_eq_getElem hi]
  rcases Nat.lt_or_ge i j with q | q
  · exact List.pairwise_iff_getElem.mp h i j hi hj q
  · obtain rfl : i = j := by omega
    exact Int.le_refl _
theorem cut_ins : ∀ {ps : List (Int × Int)} {q : Int × Int} {k : Nat}, Cut ps q.1 k → ps.take k ++ [q] ++ ps.drop k = insP ps q
  | [], q, k, h => by simp [insP]
  | p :: ps, q, k, ⟨h1, h2, h3⟩ => by
    cases k with
    | zero =>
      have := h3 0 (Nat.le_refl _) (by simp)
      have hn : ¬ (q.1 < p.1) := by have : p.1 ≤ q.1 := this; omega
      simp [insP, List.takeWhile_cons, List.dropWhile_cons, hn]
    | succ k =>
      have h0 := h2 0 (Nat.succ_pos _)
      have hp : q.1 < p.1 := h0
      have ih := cut_ins (ps := ps) (q := q) (k := k) ⟨by simpa using h1, fun i hi => by simpa using h2 (i + 1) (by omega), fun i h4 h5 => by simpa using h3 (i + 1) (by omega) (by simpa using h5)⟩
      simp only [insP, List.takeWhile_cons, List.dropWhile_cons, hp, decide_true, if_true, List.take_succ_cons, List.drop_succ_cons, List.cons_append]
      simp only [insP] at ih
      rw [← ih]
theorem descP_ins {ps : List (Int × Int)} (q : Int × Int) (h : DescP ps) : DescP (insP ps q) := by
  induction ps with
  | nil => simp [insP, DescP]
  | cons p ps ih =>
    unfold DescP at h ih ⊢
    rw [List.pairwise_cons] at h
    by_cases hp : q.1 < p.1
    · have e : insP (p :: ps) q = p :: insP ps q := by simp [insP, List.takeWhile_cons, List.dropWhile_cons, hp]
      rw [e, List.pairwise_cons]
      refine ⟨fun r hr => ?_, ih h.2⟩
      unfold insP at hr
      rcases List.mem_append.mp hr with hr | hr
      · exact h.1 r (List.takeWhile_subset _ hr)
      · rcases List.mem_cons.mp hr with rfl | hr
        · exact Int.le_of_lt hp
        · exact h.1 r (List.dropWhile_subset _ hr)
    · have e : insP (p :: ps) q = q :: p :: ps := by simp [insP, List.takeWhile_cons, List.dropWhile_cons, hp]
      rw [e, List.pairwise_cons]
      refine ⟨fun r hr => ?_, List.pairwise_cons.mpr h⟩
      rcases List.mem_cons.mp hr with rfl | hr
      · omega
      · have := h.1 r hr; omega
theorem len_ins (ps : List (Int × Int)) (q : Int × Int) : (insP ps q).length = ps.length + 1 := by
  unfold insP
  have := congrArg List.length (List.takeWhile_append_dropWhile (p := fun p : Int × Int => decide (q.1 < p.1)) (l := ps))
  rw [List.length_append] at this
  rw [List.length_append, List.length_cons]; omega
theorem mem_ins {ps : List (Int × Int)} {q r : Int × Int} (h : r ∈ insP ps q) : r = q ∨ r ∈ ps := by
  unfold insP at h
  rcases List.mem_append.mp h with h | h
  · exact .inr (List.takeWhile_subset _ h)
  · rcases List.mem_cons.mp h with rfl | h
    · exact .inl rfl
    · exact .inr (List.dropWhile_subset _ h)

section
variable {prog : Program} {w : World} {A : Around} {E : Value → Shared → Prop} {s : Shared}
set_option maxHeartbeats 1000000 in
theorem swept_spec {a b : Addr} {xs hs : List Int} {Q : Value → Shared → Prop} (G : GL s.heap) (hl : IL s.heap a xs) (hl2 : IL s.heap b hs) (hn : xs.length ≤ 90) (hlen : hs.length = xs.length) (hh0 : ∀ h ∈ hs, 0 ≤ h ∧ h ≤ 900)
    (hd : A.depth + 4 < recursionLimit) (hh : A.handled = none)
    (h : ∀ s' c, Done s s' → IL s'.heap c ((lineOf (hs.zip xs)).map (·.2)) → s.heap.objs.size ≤ c → Q (.ref c) s') : wpAny (model prog w) A (call (.ref 115) [.ref a, .ref b]) Q E s := by
  obtain ⟨pm, cd, hf⟩ := G.fSwept
  refine callDef G.lim hf (by omega) (BindsTo.of_eq (binds := [("order", .ref a), ("heights", .ref b)]) (by kernel_rfl!)) fun L s₁ nL C => ?_
  have e : (defAt 19).2.1 = (defAt 19).2.1 := rfl
  conv at e => lhs; whnf
  rw [← e]; clear e
  obtain ⟨m0, hm0, C⟩ := C.locs
  have ho : m0 "order" = some (.ref a) := by rw [hm0]; rfl
  have hhe : m0 "heights" = some (.ref b) := by rw [hm0]; rfl
  clear hm0
  obtain ⟨vs, hl, hi⟩ := hl
  obtain ⟨us, hl2, hi2⟩ := hl2
  have hvl : vs.length = xs.length := hi.length
  have hul : us.length = hs.length := hi2.length
  refine wpAny_execs_cons (wpAny_Assign_Name (listE (items_nil (C.newOwn rfl fun s2 lA C2 nA => stM C2 fun s3 C3 => ?_))))
  refine wpAny_execs_cons (forStmt (callT2 (ldB (G.keeps C3.keep) 19 3 rfl rfl ⟨rfl, wpAny_BinOp (ldN C3 (upd_ne ho (by decide)) (lit2 C3 fun B4 s4 b4 k4 C4 l4 n4 => ?_))⟩)))
  obtain ⟨zz, lzz, hzz⟩ := l4
  have hzl : zz.length = 2 := hzz.length
  refine addL C4 (hl.keeps (k4.trans' C4.keep)) (lzz.keeps C4.keep) (by simp; omega) fun B5 s5 b5 k5 C5 l5 n5 => ?_
  have l5 : LsAt B5 b5 (vs ++ zz).toArray := by simpa using l5
  refine ldN C5 (upd_ne hhe (by decide)) ?_
  have l5b : LsAt B5 b us.toArray := hl2.keeps (k4.trans' k5)
  with_reducible refine callZipLL C5 l5 l5b fun B6 s6 z TI TO i1 i2 k6 hTI C6 => ?_
  obtain ⟨_, hz6, hze⟩ := C6.get 0 rfl
  subst hze
  with_reducible refine wpAny_pyIter_zip hz6 ?_
  have kB6 : Keeps s.heap B6 := k4.trans' (k5.trans' k6)
  have C7 : Cx B6 s L _ (JZip z TI TO (fun k => [(i1, ListIterO b5 k)]) (fun k => [(i2, ListIterO b k)]) 0 ++ [(lA, ListO #[])]) s6 := C6
  refine for_gen (src_zip (x := "step") (y := "height") (T := xs.length) (itrList hh (l5.keeps k6)) (itrList hh (l5b.keeps k6)) hTI (by simp; omega) hh (by rfl) (by kernel_rfl!) (by kernel_rfl!) (by rfl)) C7
    (fun k B m own => ∃ as, own = [(lA, ListO (as.map Value.ref).toArray)] ∧ PL B as (lineOf ((hs.zip xs).take k)) ∧ DescP (lineOf ((hs.zip xs).take k)) ∧ (lineOf ((hs.zip xs).take k)).length = k ∧ (∀ p ∈ lineOf ((hs.zip xs).take k), 0 ≤ p.1) ∧ m "line" = some (.ref lA))
    ⟨[], rfl, .nil, List.Pairwise.nil, rfl, fun _ hp => (nomatch hp), upd_same⟩ ?_ ?_
  · rintro k B8 m1 m2 own' s8 hk k8 ⟨as, rfl, hPL, hDP, hlk, hpos, hline⟩ ⟨v1, v2, hv1, hv2, rfl⟩ C8
    obtain ⟨x, hx⟩ : ∃ x, xs[k]? = some x := ⟨_, List.getElem?_eq_getElem hk⟩
    obtain ⟨g, hg⟩ : ∃ g, hs[k]? = some g := ⟨_, List.getElem?_eq_getElem (by omega)⟩
    obtain ⟨tx, hxv⟩ := intsAre_get hi hx
    obtain ⟨tg, hgv⟩ := intsAre_get hi2 hg
    rw [List.getElem?_append_left (by omega), hxv] at hv1
    rw [hgv] at hv2
    cases hv1; cases hv2
    have hg0 := hh0 g (List.mem_of_getElem? hg)
    have hz : (hs.zip xs)[k]? = some (g, x) := by rw [List.getElem?_zip_eq_some]; exact ⟨hg, hx⟩
    have hsucc : lineOf ((hs.zip xs).take (k + 1)) = insP (lineOf ((hs.zip xs).take k)) (g, x) := by
      unfold lineOf
      rw [List.take_add_one, hz, List.foldl_append]; rfl
    have k08 : Keeps s.heap B8 := kB6.trans' k8
    obtain ⟨pmi, cdi, hfi⟩ := G.fInsort
    refine wpAny_execs_cons (wpAny_Expr (callK (B := s.heap) hfi (ldG (G.keeps (k08.trans' C8.keep)) 0 rfl ⟨rfl, items_cons (ldN C8 (upd_ne (upd_ne hline (by decide)) (by decide)) (items_cons (list2E (wpAny_BinOp (wpAny_BinOp (kS C8 fun s9 t9 C9 => ldN C9 upd_same (mulS (c := 32) C9 (by omega) (by omega) fun s10 t10 C10 => kS C10 fun s11 t11 C11 => SB.add (fun t' kk => ?_) ?_)))))))⟩)))
    · have ebar : txt (List.replicate g.toNat 32) ++ Str.ofString "|" = txt (bar g) := by rw [show Str.ofString "|" = txt [124] from by decide, txt_append]; rfl
      rw [ebar]
      refine ldN (C11.tok kk) (upd_ne upd_same (by decide)) ((C11.tok kk).newList rfl fun B12 s12 p k12 C12 l12 n12 => items_nil ?_)
      have G12 := G.keeps (k08.trans' k12)
      refine ldG (G12.keeps C12.keep) 13 rfl ⟨k08.trans' (k12.trans' C12.keep), ?_⟩
      have hoff := C12.off (lA, ListO (as.map Value.ref).toArray) (by simp)
      obtain ⟨_, hlA, nA', hlo⟩ := C12.has (lA, ListO (as.map Value.ref).toArray) (by simp)
      subst hlo
      refine insort_spec (B := B12) G12 C12.keep hoff.1 ⟨nA', hlA⟩ (hPL.keeps k12) l12 (by omega) hg0.1 hpos hDP.desc (by show A.depth + 1 + 3 < _; omega) hh fun s13 j T hcut => ?_
      have C13 := ((C12.perm List.perm_append_comm).trans T).perm List.perm_append_comm
      have hins := cut_ins (q := (g, x)) hcut
      refine wpAny_execs_nil ⟨B12, _, _, k12, C13, as.take j ++ [p] ++ as.drop j, rfl, ?_, ?_, ?_, ?_, upd_ne (upd_ne hline (by decide)) (by decide)⟩
      · rw [hsucc, ← hins]
        exact (((hPL.keeps k12).take j).append (.cons l12 .nil)).append ((hPL.keeps k12).drop j)
      · rw [hsucc]; exact descP_ins _ hDP
      · rw [hsucc, len_ins, hlk]
      · rw [hsucc]
        intro q hq
        rcases mem_ins hq with rfl | hq
        · exact hg0.1
        · exact hpos q hq
    · have h1 : (Str.ofString "|").length = 1 := by decide
      rw [txt_len, List.length_replicate, h1]
      exact Nat.le_trans (show _ ≤ 1000 by omega) (by decide)
  · rintro B8 m8 own' s8 k8 ⟨as, rfl, hPL, hDP, hlk, hpos, hline⟩ C8
    rw [List.take_of_length_le (by simp; omega)] at hPL hlk
    generalize lineOf (hs.zip xs) = ln at hPL hlk h
    have hal : as.length = ln.length := hPL.length
    obtain ⟨B9, k9, C9, _, ho9, n9, rfl⟩ := C8.freeze
    have l9 : LsAt B9 lA (as.map Value.ref).toArray := ⟨n9, ho9⟩
    have hP9 := hPL.keeps k9
    refine wpAny_execs_cons (wpAny_Return_some (listComp [] (ldN C9 hline (iterL C9 l9 fun j s10 C10 => ?_))))
    refine comp_at C10 (fun Cc => src_list (x := "pair") l9 hh (by rfl) (by kernel_rfl!) (by rfl)) (fun Cc m' own' s' Q' => self_list Cc m' own' s' Q')
      (fun k B ys => IntsAre ys ((ln.take k).map (·.2))) .nil ?_ ?_ ?_
    · rintro k Cc acc B11 m3 m4 ys s11 hC hk k11 hi11 ⟨v, hv, rfl⟩ C11
      rw [List.length_map] at hk
      obtain ⟨p, t, u, hp, lp⟩ := hP9.at (k := k) (by omega)
      rw [List.getElem?_map, hp] at hv
      cases hv
      refine wpAny_tests_nil ?_
      rw [if_pos rfl]
      refine Subscript_ (ldN C11 upd_same (kI C11 fun s12 t12 C12 => ixC C12 (lp.keeps k11) (by decide) (by decide) rfl fun s13 C13 => ⟨B11, _, keeps_refl _, C13, ?_⟩))
      have hlk' : k < ln.length := by omega
      rw [List.take_add_one, List.getElem?_eq_getElem hlk', List.map_append]
      have e : ln.getD k (0, 0) = ln[k] := by rw [List.getD_eq_getElem?_getD, List.getElem?_eq_getElem hlk']; rfl
      rw [e]
      exact hi11.append (.cons _ _ .nil)
    · intro k B11 ys hk hi11
      rw [List.length_map] at hk
      have := hi11.length
      simp at this; omega
    · intro B11 ys acc s11 hacc k11 hi11 C11
      obtain ⟨B12, k12, C12, _, ho12, n12, rfl⟩ := C11.freeze
      rw [List.take_of_length_le (by simp; omega)] at hi11
      exact h s11 acc (C12.done (kB6.trans' (k8.trans' (k9.trans' (k11.trans' k12))))) ⟨ys, ⟨n12, C12.keep _ _ ho12⟩, hi11⟩ (Nat.le_trans nL (Nat.le_of_lt hacc))
end
end Mine
end

section
open PySem PySem.Calls PySem.W PyProof.Rows
open PySem.SeqAt PySem.AutoSeq1 PySem.MeetsSeq PySem.MeetsSeq2 PySem.MeetsSeq3
set_option maxRecDepth 100000
set_option autoImplicit false
set_option linter.all false
namespace Mine
def intsLt : List Int → List Int → Bool
  | [], [] => false
  | [], _ :: _ => true
  | _ :: _, [] => false
  | x :: xs, y :: ys => if x == y then intsLt xs ys else decide (x < y)

theorem lt_loop (l b : Addr) (vs us : List Value) (xs ys : List Int) (hx : IntsAre vs xs) (hy : IntsAre us ys) (n n2 : Nat) (k : Nat) :
    ∀ i : Nat, vs.length - i = k → i ≤ vs.length → i ≤ us.length → Meets (Builtin.«list.__eq__.loop» ⟨[.ref l, .ref b, rawInt i, rawInt 0], []⟩)
      (fun A R s => s.heap.get? l = some (W.listOf vs.toArray n) ∧ s.heap.get? b = some (W.listOf us.toArray n2) ∧
        R (.ok (.ret (.bool (intsLt (xs.drop i) (ys.drop i))))) s) := by
  have hvl : vs.length = xs.length := hx.length
  have hul : us.length = ys.length := hy.length
  induction k with
  | zero =>
    intro i hk hi1 hi2 prog w A R s h
    obtain ⟨hp, g, d, tk, os⟩ := s; obtain ⟨hl, hb, h⟩ := h
    have hii : i = vs.length := by omega
    have hv1 : vs.toArray[((i : Nat) : Int).toNat]? = none := by simp; omega
    wp_walk using wpAny_loadPart' hl, wpAny_loadPart' hb
    rw [hv1]
    have hd : xs.drop i = [] := List.drop_eq_nil_of_le (by omega)
    rw [hd] at h
    wp_walk using wpAny_loadPart' hl, wpAny_loadPart' hb
    show R (.ok (.ret (.bool (decide (vs.toArray.size < us.toArray.size))))) _
    have e : decide (vs.toArray.size < us.toArray.size) = intsLt [] (ys.drop i) := by
      cases hq : ys.drop i with
      | nil => have := List.drop_eq_nil_iff.mp hq; simp [intsLt]; omega
      | cons y r => have := congrArg List.length hq; simp at this; simp [intsLt]; omega
    rw [e]; exact h
  | succ k ih =>
    intro i hk hi1 hi2 prog w A R s h
    obtain ⟨hp, g, d, tk, os⟩ := s; obtain ⟨hl, hb, h⟩ := h
    obtain ⟨x, hxi⟩ : ∃ x, xs[i]? = some x := ⟨_, List.getElem?_eq_getElem (by omega)⟩
    obtain ⟨tx, hvi⟩ := intsAre_get hx hxi
    have hv1 : vs.toArray[((i : Nat) : Int).toNat]? = some (.int x tx) := by simpa using hvi
    have hdx : xs.drop i = x :: xs.drop (i + 1) := drop_at hxi
    have hc : ((i : Int) + 1) = ((i + 1 : Nat) : Int) := by push_cast; rfl
    wp_walk using wpAny_loadPart' hl, wpAny_loadPart' hb
    rw [hv1]
    by_cases hlt : i < us.length
    · obtain ⟨y, hyi⟩ : ∃ y, ys[i]? = some y := ⟨_, List.getElem?_eq_getElem (by omega)⟩
      obtain ⟨ty, hui⟩ := intsAre_get hy hyi
      have hu1 : us.toArray[((i : Nat) : Int).toNat]? = some (.int y ty) := by simpa using hui
      have hdy : ys.drop i = y :: ys.drop (i + 1) := drop_at hyi
      rw [hu1]
      rw [hdx, hdy, intsLt] at h
      refine wpAny_bind (EqAt.int_int x tx y ty prog w _ _ ?_)
      cases hb' : x == y with
      | true =>
        rw [hb', if_pos rfl] at h
        wp_walk
        rw [hc]
        exact ⟨plainId_quiet plain_eq_loop _, codeAny_builtin entry_eq_loop (by
          rw [Around.under_plainId plain_eq_loop _]
          exact ih (i + 1) (by omega) (by omega) (by omega) prog w A R _ ⟨hl, hb, h⟩)⟩
      | false =>
        rw [hb', if_neg Bool.false_ne_true] at h
        wp_walk using wpAny_loadPart' hl, wpAny_loadPart' hb
        rw [hv1, hu1]
        show wpAny _ _ (compareOp .Lt (.int x tx) (.int y ty) >>= fun r => ret r) _ _ _
        exact wpAny_bind (lt_int (wpAny_pure h))
    · have hu1 : us.toArray[((i : Nat) : Int).toNat]? = none := by simp; omega
      rw [hu1]
      have hdy : ys.drop i = [] := List.drop_eq_nil_of_le (by omega)
      rw [hdx, hdy] at h
      wp_walk using wpAny_loadPart' hl, wpAny_loadPart' hb
      show R (.ok (.ret (.bool (decide (vs.toArray.size < us.toArray.size))))) _
      have e : decide (vs.toArray.size < us.toArray.size) = false := by simp; omega
      rw [e]; exact h

theorem list_lt (l b : Addr) (vs us : List Value) (xs ys : List Int) (hx : IntsAre vs xs) (hy : IntsAre us ys) (n n2 : Nat) :
    Meets (Builtin.«list.__lt__» ⟨[.ref l, .ref b], []⟩)
      (fun A R s => s.heap.get? l = some (W.listOf vs.toArray n) ∧ s.heap.get? b = some (W.listOf us.toArray n2) ∧
        R (.ok (.ret (.bool (intsLt xs ys)))) s) := by
  intro prog w A R s h
  obtain ⟨hp, g, d, tk, os⟩ := s; obtain ⟨hl, hb, h⟩ := h
  have f3 := AutoSeq1.sub_list_list
  wp_walk using wpAny_loadPart' hl, wpAny_loadPart' hb
  exact ⟨plainId_quiet plain_eq_loop _, codeAny_builtin entry_eq_loop (by
    rw [Around.under_plainId plain_eq_loop _]
    exact lt_loop l b vs us xs ys hx hy n n2 _ 0 rfl (Nat.zero_le _) (Nat.zero_le _) prog w A R _ ⟨hl, hb, h⟩)⟩
section
variable {prog : Program} {w : World} {A : Around} {E : Value → Shared → Prop} {s : Shared}
theorem keyLt_ints {a b : Addr} {xs ys : List Int} {Q : Bool → Shared → Prop} (hu : A.units < cLine) (ha : IL s.heap a xs) (hb : IL s.heap b ys) (h : Q (intsLt xs ys) s) : wpAny (model prog w) A (keyLt' oneType' (.ref a) (.ref b)) Q E s := by
  obtain ⟨vs, ⟨n, ea⟩, hi⟩ := ha
  obtain ⟨us, ⟨n2, eb⟩, hi2⟩ := hb
  have hT : s.TypeIs (.ref a) "list" := ⟨_, ea, rfl⟩
  rw [keyLt'_oneType, oneLt'_eq]
  simp only [if_true]
  refine wpAny_bind (wpAny_cRoomFor hu ?_)
  refine wpAny_bind (wpAny_callSpecialIfBound?_slot (name := Str.ofString "__lt__") hT F.slot_list_lt (call_meets F.slot_list_lt hT F.entry_list_lt (F.args_list_lt_2 _ _) (list_lt a b vs us xs ys hi hi2 n n2) ⟨ea, eb, ?_⟩))
  exact wpAny_truthy_bool h
end
end Mine
end

section
open PySem PySem.Calls PySem.W PyProof.Rows
set_option maxRecDepth 100000
set_option autoImplicit false
set_option linter.all false
namespace Mine
def runC {α : Type} (n : Nat) (lt : Nat → Nat → Bool) : KasT α → Option α
  | .ret a => some a
  | .ask i j k => if i < n ∧ j < n then runC n lt (k (lt i j)) else none
theorem runC_wp {α : Type} {n : Nat} {lt : Nat → Nat → Bool} {cmp : Nat → Nat → (Bool → Shared → Prop) → Shared → Prop} {Q : α → Shared → Prop} {s : Shared} (hc : ∀ i j C, i < n → j < n → C (lt i j) s → cmp i j C s) :
    ∀ (t : KasT α) (a : α), runC n lt t = some a → Q a s → t.kasWp cmp Q s
  | .ret a, b, h, hq => by cases h; exact hq
  | .ask i j k, b, h, hq => by
    unfold runC at h
    split at h
    · rename_i hij
      exact hc i j _ hij.1 hij.2 (runC_wp hc (k (lt i j)) b h hq)
    · cases h
def sortP (xss : List (List Int)) : Option (Array Nat) := runC xss.length (fun i j => intsLt (xss.getD i []) (xss.getD j [])) (kas_sort xss.length)
def emptyH : Heap := { objs := #[] }
theorem empty_get (b : Addr) : emptyH.get? b = none := by
  cases q : emptyH.get? b with
  | none => rfl
  | some o => exact absurd (Heap.lt_size q) (Nat.not_lt_zero b)
/-- all objects of a heap but one -/
def allBut (h : Heap) (L : Addr) : List (Addr × Obj) := (List.range h.objs.size).filterMap fun b => if b = L then none else (h.get? b).map fun o => (b, o)
theorem mem_allBut {h : Heap} {L b : Addr} {o : Obj} : (b, o) ∈ allBut h L ↔ b ≠ L ∧ h.get? b = some o := by
  unfold allBut
  rw [List.mem_filterMap]
  constructor
  · rintro ⟨c, -, hc⟩
    split at hc
    · cases hc
    · rename_i hne
      obtain ⟨o', ho', e⟩ := Option.map_eq_some_iff.mp hc
      cases e
      exact ⟨hne, ho'⟩
  · rintro ⟨h1, h2⟩
    exact ⟨b, List.mem_range.mpr (Heap.lt_size h2), by rw [if_neg h1, h2]; rfl⟩
section
variable {prog : Program} {w : World} {A : Around} {E : Value → Shared → Prop} {s s₀ : Shared} {B : Heap} {L : Addr} {m : Loc} {own : List Spec}
theorem Cx.frame (C : Cx B s₀ L m own s) {h' : Heap} {m' : Loc} {t : Nat} (hn : h'.Ns L m') (k : ∀ b o, b ≠ L → s.heap.get? b = some o → h'.get? b = some o) : Cx B s₀ L m' own { s with heap := h', toks := t } :=
  ⟨fun b o e => k b o (fun q => by rw [q, C.offL] at e; cases e) (C.keep b o e), hn, fun p hp => let ⟨o, ho, r⟩ := C.has p hp; ⟨o, k _ _ (C.off p hp).2 ho, r⟩, C.offL, C.off, C.nd, C.g.trans Gx.heap⟩
theorem ILs.pick {lo : Nat} {h : Heap} {as : List Addr} {xss : List (List Int)} (x : ILs lo h as xss) : ∀ (q : List Nat), (∀ i ∈ q, i < xss.length) → ILs lo h (q.map fun i => as.getD i 0) (q.map fun i => xss.getD i [])
  | [], _ => .nil
  | i :: q, hq => by
    have hi := hq i (.head _)
    have hal := x.length
    obtain ⟨xs, hxs, hil, hlo⟩ := x.at (k := i) (a := as.getD i 0) (by rw [List.getD_eq_getElem?_getD, List.getElem?_eq_getElem (by omega)]; rfl)
    have e : xss.getD i [] = xs := by rw [List.getD_eq_getElem?_getD, hxs]; rfl
    rw [List.map_cons, List.map_cons, e]
    exact .cons hlo hil (x.pick q fun j hj => hq j (.tail _ hj))
theorem Cx.adopt {D : Addr} {P : Obj → Prop} (C : Cx B s₀ L m own s) (h : ∃ o, s.heap.get? D = some o ∧ P o) (hL : D ≠ L) (hB : B.get? D = none) (ho : ∀ q ∈ own, q.1 ≠ D) : Cx B s₀ L m ((D, P) :: own) s :=
  ⟨C.keep, C.ns, fun q hq => by
    rcases List.mem_cons.mp hq with rfl | hq
    · exact h
    · exact C.has q hq, C.offL, fun q hq => by
    rcases List.mem_cons.mp hq with rfl | hq
    · exact ⟨hB, hL⟩
    · exact C.off q hq, by
    rw [List.map_cons, List.nodup_cons]
    refine ⟨fun hm => ?_, C.nd⟩
    obtain ⟨q, hq, e⟩ := List.mem_map.mp hm
    exact ho q hq e, C.g⟩
/-- sorted over a list of lists of ints -/
theorem sortLists {l : Addr} {lo : Nat} {as : List Addr} {xss : List (List Int)} {p : Array Nat} {Q : Value → Shared → Prop} (hu : A.in1.in1.units < cLine) (C : Cx B s₀ L m own s) (hl : LsAt B l (as.map Value.ref).toArray) (hi : ILs lo B as xss)
    (h2 : 2 ≤ xss.length) (h64 : xss.length < 64) (hp : sortP xss = some p) (hps : p.toList.length ≤ 1000) (hpn : ∀ i ∈ p.toList, i < xss.length)
    (h : ∀ B' s' D, Keeps B B' → Cx B' s₀ L m own s' → LL lo B' D (p.toList.map fun i => xss.getD i []) → L ≠ D → Q (.ref D) s') : wpAny (model prog w) A (call (.builtin "sorted") [.ref l]) Q E s := by
  have hal : as.length = xss.length := hi.length
  have F : Fr emptyH L s.heap m := ⟨C.ns, fun b o e => (by rw [empty_get] at e; cases e), Nat.zero_le _⟩
  have N : News emptyH L s.heap (allBut s.heap L) := fun q hq => ⟨(mem_allBut.mp hq).2, (mem_allBut.mp hq).1, empty_get _⟩
  refine kas_sorted (T := .type "list") F N (hl.keeps C.keep).isList (by simp; omega) (by simp; omega) (fun h' F' N' v hv => ?_) (by decide) fun D e1 h' F' N' hD => ?_
  · obtain ⟨a, ha, rfl⟩ := List.mem_map.mp hv
    obtain ⟨i, hia⟩ := List.getElem?_of_mem ha
    obtain ⟨xs, hxs, ⟨us, ⟨n, e⟩, -⟩, -⟩ := hi.at hia
    have haL : a ≠ L := fun q => by rw [q, C.offL] at e; cases e
    have e' := (N' (a, _) (mem_allBut.mpr ⟨haL, C.keep _ _ e⟩)).1
    exact fun A Q E s1 k1 hq => wpAny_typeOf (T := "list") ⟨_, k1 _ _ e', rfl⟩ hq
  · have k1 : ∀ b o, b ≠ L → s.heap.get? b = some o → h'.get? b = some o := fun b o hb e => (N' (b, o) (.tail _ (mem_allBut.mpr ⟨hb, e⟩))).1
    have hDL : D ≠ L := (N' _ (.head _)).2.1
    have hDnot : ∀ o, s.heap.get? D ≠ some o := fun o e => Nat.lt_irrefl _ (hD (D, o) (mem_allBut.mpr ⟨hDL, e⟩))
    have hDB : B.get? D = none := by
      cases q : B.get? D with
      | none => rfl
      | some o => exact absurd (C.keep _ _ q) (hDnot o)
    have C1 := C.frame (h' := h') (t := s.toks) F'.ns k1
    have hget : ∀ i, i < xss.length → ∃ a, (as.map Value.ref).getD i Value.none = .ref a ∧ IL h' a (xss.getD i []) := fun i hi' => by
      have hia : as[i]? = some (as.getD i 0) := by rw [List.getD_eq_getElem?_getD, List.getElem?_eq_getElem (by omega)]; rfl
      obtain ⟨xs, hxs, hil, -⟩ := hi.at hia
      refine ⟨as.getD i 0, by rw [List.getD_eq_getElem?_getD, List.getElem?_map, hia]; rfl, ?_⟩
      have e : xss.getD i [] = xs := by rw [List.getD_eq_getElem?_getD, hxs]; rfl
      rw [e]; exact hil.keeps C1.keep
    rw [List.length_map, hal]
    refine runC_wp (fun i j K hi' hj hK => ?_) _ p hp ?_
    · obtain ⟨a, ea, ia⟩ := hget i hi'
      obtain ⟨b, eb, ib⟩ := hget j hj
      show wpAny _ _ (keyLt' oneType' ((as.map Value.ref).getD i Value.none) ((as.map Value.ref).getD j Value.none)) K _ _
      rw [ea, eb]
      exact keyLt_ints hu ia ib hK
    · refine KasFin.intro F' N' (.head fun q hq => Nat.ne_of_lt (hD q hq)) fun h2' c F2 N2 => ?_
      have k2 : ∀ b o, b ≠ L → s.heap.get? b = some o → h2'.get? b = some o := fun b o hb e => (N2 (b, o) (.tail _ (mem_allBut.mpr ⟨hb, e⟩))).1
      have eD : h2'.get? D = some (W.listOf (p.toList.map fun i => (as.map Value.ref).getD i Value.none).toArray c) := (N2 _ (.head _)).1
      have C2 := C.frame (h' := h2') (t := s.toks) F2.ns k2
      have emap : (p.toList.map fun i => (as.map Value.ref).getD i Value.none) = (p.toList.map fun i => as.getD i 0).map Value.ref := by
        rw [List.map_map]
        refine List.map_congr_left fun i hi' => ?_
        have := hpn i hi'
        show (as.map Value.ref).getD i Value.none = Value.ref (as.getD i 0)
        rw [List.getD_eq_getElem?_getD, List.getElem?_map, List.getD_eq_getElem?_getD, List.getElem?_eq_getElem (by omega)]; rfl
      rw [emap] at eD
      have C3 := C2.adopt (P := ListO ((p.toList.map fun i => as.getD i 0).map Value.ref).toArray) ⟨_, eD, c, rfl⟩ hDL hDB (fun q hq e => by
        obtain ⟨o, ho, -⟩ := C.has q hq
        rw [e] at ho
        exact hDnot o ho)
      obtain ⟨B4, k4, C4, o, ho, n4, rfl⟩ := C3.freeze
      exact h B4 _ D k4 C4 ⟨_, ⟨n4, ho⟩, (hi.keeps k4).pick _ hpn⟩ (Ne.symm hDL)
end
end Mine
end

section
open PySem PySem.Calls PySem.W PyProof.Rows
set_option maxRecDepth 100000
set_option autoImplicit false
set_option linter.all false
namespace Mine
def pathsOf (xs : List Int) : List (List Int) := (ordersN xs.length xs).filter (staysFrom 0)
def sweep (o : List Int) : List Int := (lineOf ((sumsOf o o.length).zip o)).map (·.2)
def pairTabF : List (List Int) := pairTab.map fun p => pairSteps (p.getD 0 0) (p.getD 1 0)
def foldRow (a b : Nat) : List (List Int) := (List.range (a + b + 1)).map fun d : Nat => [1 + (a : Int), 1 + (b : Int), -(1 + (d : Int)), 1 + (d : Int) - (1 + (a : Int) + (1 + (b : Int)))]
def picked (p : Array Nat) (xss : List (List Int)) : List (List Int) := p.toList.map fun i => xss.getD i []
def sortB (xss yss : List (List Int)) : Bool := decide (2 ≤ xss.length ∧ xss.length ≤ 50 ∧ yss.length = xss.length) &&
  match sortP xss, sortP yss with
  | some p, some q => p.toList.all (fun i => decide (i < xss.length)) && q.toList.all (fun i => decide (i < xss.length)) && decide (p.toList.length ≤ 100) && decide (q.toList.length ≤ 100) && decide (picked p xss = picked q yss)
  | _, _ => false
def roomsOf (ps : List (List Int)) : List (List Int) := ps.map fun o => [roomFrom 0 0 o, roomFrom 0 0 (sweep o)]
def orderB (n : Nat) (o : List Int) : Bool := decide (o.sum = 0) && o.all (fun x => decide (x ≠ 0 ∧ -9 ≤ x ∧ x ≤ 9)) && (List.range (n - 1)).any (fun i => decide (o.getD i 0 ≠ o.getD (i + 1) 0))
def goodB (pair : Bool) (xs : List Int) : Bool := decide (2 ≤ xs.length ∧ xs.length ≤ 9 ∧ (ordersN xs.length xs).length ≤ 100) && (ordersN xs.length xs).all (orderB xs.length) && sortB ((pathsOf xs).map sweep) (pathsOf xs) &&
  (pathsOf xs).all (fun o => (sumsOf o o.length).all fun h => decide (0 ≤ h ∧ h ≤ 900)) &&
  (!pair || sortB (roomsOf (pathsOf xs)) ((roomsOf (pathsOf xs)).map List.reverse))
theorem good_pairs1 : (pairTabF.take 3).all (goodB true) = true := by decide +kernel
theorem good_pairs2 : (pairTabF.drop 3).all (goodB true) = true := by decide +kernel
theorem good_pairs : pairTabF.all (goodB true) = true := by
  rw [← List.take_append_drop 3 pairTabF, List.all_append, good_pairs1, good_pairs2]; rfl
theorem good_fold00 : (foldRow 0 0).all (goodB false) = true := by decide +kernel
theorem good_fold01 : (foldRow 0 1).all (goodB false) = true := by decide +kernel
theorem good_fold02 : (foldRow 0 2).all (goodB false) = true := by decide +kernel
theorem good_fold03 : (foldRow 0 3).all (goodB false) = true := by decide +kernel
theorem good_fold10 : (foldRow 1 0).all (goodB false) = true := by decide +kernel
theorem good_fold11 : (foldRow 1 1).all (goodB false) = true := by decide +kernel
theorem good_fold12 : (foldRow 1 2).all (goodB false) = true := by decide +kernel
theorem good_fold13 : (foldRow 1 3).all (goodB false) = true := by decide +kernel
theorem good_fold20 : (foldRow 2 0).all (goodB false) = true := by decide +kernel
theorem good_fold21 : (foldRow 2 1).all (goodB false) = true := by decide +kernel
theorem good_fold22 : (foldRow 2 2).all (goodB false) = true := by decide +kernel
theorem good_fold23 : (foldRow 2 3).all (goodB false) = true := by decide +kernel
theorem good_fold30 : (foldRow 3 0).all (goodB false) = true := by decide +kernel
theorem good_fold31 : (foldRow 3 1).all (goodB false) = true := by decide +kernel
theorem good_fold32 : (foldRow 3 2).all (goodB false) = true := by decide +kernel
theorem good_fold33 : (foldRow 3 3).all (goodB false) = true := by decide +kernel
theorem good_folds : ∀ a b : Nat, a < 4 → b < 4 → (foldRow a b).all (goodB false) = true
  | 0, 0, _, _ => good_fold00
  | 0, 1, _, _ => good_fold01
  | 0, 2, _, _ => good_fold02
  | 0, 3, _, _ => good_fold03
  | 1, 0, _, _ => good_fold10
  | 1, 1, _, _ => good_fold11
  | 1, 2, _, _ => good_fold12
  | 1, 3, _, _ => good_fold13
  | 2, 0, _, _ => good_fold20
  | 2, 1, _, _ => good_fold21
  | 2, 2, _, _ => good_fold22
  | 2, 3, _, _ => good_fold23
  | 3, 0, _, _ => good_fold30
  | 3, 1, _, _ => good_fold31
  | 3, 2, _, _ => good_fold32
  | 3, 3, _, _ => good_fold33
  | a + 4, _, h, _ => absurd h (by omega)
  | _, b + 4, _, h => absurd h (by omega)

theorem good_steps {d0 d1 d2 d3 : Int} (ds : List Int) (h1 : 0 ≤ d1) (h2 : 0 ≤ d2) (h3 : 0 ≤ d3) : goodB (decide (d0.fmod 3 = 0)) (stepsOf (d0 :: d1 :: d2 :: d3 :: ds)) = true := by
  unfold stepsOf
  by_cases h : d0.fmod 3 = 0
  · rw [if_pos (by simpa using h), decide_eq_true h]
    simp only [List.getD_cons_succ, List.getD_cons_zero]
    have hm : (d1 % 9).toNat < 9 := by omega
    have hm' : (d1 % 9).toNat < pairTab.length := hm
    refine List.all_eq_true.mp good_pairs _ (List.mem_map.mpr ⟨pairTab.getD (d1 % 9).toNat [], ?_, rfl⟩)
    rw [List.getD_eq_getElem?_getD, List.getElem?_eq_getElem hm']
    exact List.getElem_mem _
  · rw [if_neg (by simpa using h), decide_eq_false h]
    simp only [List.getD_cons_succ, List.getD_cons_zero]
    have q1 : 0 ≤ d1.fmod 4 ∧ d1.fmod 4 < 4 := ⟨Int.fmod_nonneg h1 (by decide), Int.fmod_lt_of_pos _ (by decide)⟩
    have q2 : 0 ≤ d2.fmod 4 ∧ d2.fmod 4 < 4 := ⟨Int.fmod_nonneg h2 (by decide), Int.fmod_lt_of_pos _ (by decide)⟩
    obtain ⟨a, ha⟩ := Int.eq_ofNat_of_zero_le q1.1
    obtain ⟨b, hb⟩ := Int.eq_ofNat_of_zero_le q2.1
    rw [ha] at q1 ⊢
    rw [hb] at q2 ⊢
    unfold foldSteps
    have hsu : (1 + (a : Int)) + (1 + (b : Int)) - 1 = ((a + b + 1 : Nat) : Int) := by omega
    rw [hsu]
    have q3 : 0 ≤ d3.fmod ((a + b + 1 : Nat) : Int) ∧ d3.fmod ((a + b + 1 : Nat) : Int) < ((a + b + 1 : Nat) : Int) := ⟨Int.fmod_nonneg_of_pos _ (by omega), Int.fmod_lt_of_pos _ (by omega)⟩
    obtain ⟨c, hc⟩ := Int.eq_ofNat_of_zero_le q3.1
    rw [hc] at q3 ⊢
    exact List.all_eq_true.mp (good_folds a b (by omega) (by omega)) _ (List.mem_map.mpr ⟨c, List.mem_range.mpr (by omega), rfl⟩)
end Mine
end

section
open PySem PySem.Calls PySem.W PyProof.Rows
set_option maxRecDepth 100000
set_option autoImplicit false
set_option linter.all false
namespace Mine
def toks (fl : Bool) (l : List Nat) : List (List Nat) := (evs 0 fl l).map (·.2.1)
theorem evs_pos : ∀ (l : List Nat) (p q : Nat) (fl : Bool), (evs p fl l).map (·.2.1) = (evs q fl l).map (·.2.1)
  | [], p, q, fl => by cases fl <;> rfl
  | c :: r, p, q, true => by simp only [evs, List.map_cons]; rw [evs_pos r (p + 1) (q + 1) false]
  | c :: r, p, q, false => by
    simp only [evs]
    split
    · exact evs_pos r (p + 1) (q + 1) true
    · simp only [List.map_cons]; rw [evs_pos r (p + 1) (q + 1) false]
theorem toks_cons {c : Nat} {r : List Nat} (h : c ≠ 92) : toks false (c :: r) = [c] :: toks false r := by
  unfold toks
  simp only [evs, if_neg h, List.map_cons]
  rw [evs_pos r (0 + 1) 0 false]
theorem toks_esc (c : Nat) (r : List Nat) : toks false (92 :: c :: r) = [92, c] :: toks false r := by
  unfold toks
  simp only [evs, if_true, List.map_cons]
  rw [evs_pos r (0 + 1 + 1) 0 false]
theorem toks_append : ∀ (a b : List Nat), (∀ c ∈ a, c ≠ 92) → toks false (a ++ b) = a.map (fun c => [c]) ++ toks false b
  | [], b, _ => rfl
  | c :: r, b, h => by
    rw [List.cons_append, toks_cons (h c (.head _)), toks_append r b fun x hx => h x (.tail _ hx)]; rfl
theorem check_skip : ∀ (xs ys : List (List Nat)) (o : Int) (e : List Nat), e ≠ [40] → e ≠ [41] → checkFrom o (xs ++ e :: ys) = checkFrom o (xs ++ ys)
  | [], ys, o, e, h1, h2 => by rw [List.nil_append, List.nil_append, checkFrom, if_neg h1, if_neg h2]
  | x :: xs, ys, o, e, h1, h2 => by
    rw [List.cons_append, List.cons_append, checkFrom, checkFrom]
    rw [check_skip xs ys (o + 1) e h1 h2, check_skip xs ys (o - 1) e h1 h2, check_skip xs ys o e h1 h2]
theorem check_ups : ∀ (n : Nat) (o : Int) (r : List (List Nat)), checkFrom o ((List.replicate n 40).map (fun c => [c]) ++ r) = checkFrom (o + n) r
  | 0, o, r => by simp
  | n + 1, o, r => by
    rw [List.replicate_succ, List.map_cons, List.cons_append, checkFrom, if_pos rfl, check_ups n, show o + 1 + (n : Int) = o + ((n + 1 : Nat) : Int) by omega]
theorem check_downs : ∀ (n : Nat) (o : Int) (r : List (List Nat)), 0 ≤ o → checkFrom o ((List.replicate n 41).map (fun c => [c]) ++ r) = if o - n < 0 then false else checkFrom (o - n) r
  | 0, o, r, h => by rw [if_neg (by omega)]; simp
  | n + 1, o, r, h => by
    rw [List.replicate_succ, List.map_cons, List.cons_append, checkFrom, if_neg (by decide), if_pos rfl]
    by_cases h1 : o - 1 < 0
    · rw [if_pos h1, if_pos (by omega)]
    · rw [if_neg h1, check_downs n (o - 1) r (by omega), show o - 1 - (n : Int) = o - ((n + 1 : Nat) : Int) by omega]
theorem check_parts : ∀ (xs : List Int) (o : Int), 0 ≤ o → checkFrom o ((xs.map partOf).flatten.map (fun c => [c])) = (staysFrom o xs && decide (o + xs.sum = 0))
  | [], o, h => by simp [checkFrom, staysFrom]; rfl
  | x :: xs, o, h => by
    rw [List.map_cons, List.flatten_cons, List.map_append, List.sum_cons, staysFrom]
    unfold partOf
    by_cases hx : 0 < x
    · rw [if_pos hx, check_ups, if_neg (by omega), show ((x.toNat : Nat) : Int) = x by omega]
      rw [show o + (x + xs.sum) = (o + x) + xs.sum by omega]
      exact check_parts xs (o + x) (by omega)
    · rw [if_neg hx, check_downs _ _ _ h, show (((-x).toNat : Nat) : Int) = -x by omega, show o - -x = o + x by omega]
      by_cases h2 : o + x < 0
      · rw [if_pos h2, if_pos h2, Bool.false_and]
      · rw [if_neg h2, if_neg h2, show o + (x + xs.sum) = (o + x) + xs.sum by omega]
        exact check_parts xs (o + x) (by omega)
theorem part_mem {x : Int} {c : Nat} (h : c ∈ partOf x) : c = 40 ∨ c = 41 := by
  unfold partOf at h
  split at h
  · exact .inl (List.mem_replicate.mp h).2
  · exact .inr (List.mem_replicate.mp h).2
theorem parts_mem {xs : List Int} {c : Nat} (h : c ∈ (xs.map partOf).flatten) : c = 40 ∨ c = 41 := by
  obtain ⟨l, hl, hc⟩ := List.mem_flatten.mp h
  obtain ⟨x, -, rfl⟩ := List.mem_map.mp hl
  exact part_mem hc
theorem text_split (xs : List Int) (d : Int) : ∃ k q, q < 4 ∧ textOf xs d = ((xs.take k).map partOf).flatten ++ (escTab.getD q [] ++ ((xs.drop k).map partOf).flatten) := by
  refine ⟨((d.fdiv 4).fmod xs.length).toNat, (d.fmod 4).toNat, ?_, ?_⟩
  · have hd0 : 0 ≤ d.fmod 4 := Int.fmod_nonneg_of_pos _ (by decide)
    have hd1 : d.fmod 4 < 4 := Int.fmod_lt_of_pos _ (by decide)
    omega
  · unfold textOf
    rw [List.flatten_append, List.flatten_append, List.flatten_singleton, List.append_assoc, List.map_take, List.map_drop]
theorem text_check (xs : List Int) (d : Int) (hs : xs.sum = 0) : checkFrom 0 ((evs 0 false (textOf xs d)).map (·.2.1)) = staysFrom 0 xs := by
  obtain ⟨k, q, hq, e⟩ := text_split xs d
  rw [e]
  show checkFrom 0 (toks false _) = _
  have hA : ∀ c ∈ ((xs.take k).map partOf).flatten, c ≠ 92 := fun c hc => by rcases parts_mem hc with h | h <;> omega
  have hB : ∀ c ∈ ((xs.drop k).map partOf).flatten, c ≠ 92 := fun c hc => by rcases parts_mem hc with h | h <;> omega
  have hB' := toks_append _ [] hB
  rw [List.append_nil] at hB'
  have hn : toks false [] = [] := rfl
  rw [hn, List.append_nil] at hB'
  rw [toks_append _ _ hA]
  have main : checkFrom 0 ((((xs.take k).map partOf).flatten.map fun c => [c]) ++ (((xs.drop k).map partOf).flatten.map fun c => [c])) = staysFrom 0 xs := by
    rw [← List.map_append, ← List.flatten_append, ← List.map_append, List.take_append_drop, check_parts xs 0 (Int.le_refl _), hs]
    simp
  match q, hq with
  | 0, _ =>
    rw [show escTab.getD 0 [] = [] from rfl, List.nil_append, hB']; exact main
  | 1, _ =>
    rw [show escTab.getD 1 [] ++ ((xs.drop k).map partOf).flatten = 92 :: 41 :: ((xs.drop k).map partOf).flatten from rfl, toks_esc, hB', check_skip _ _ _ _ (by decide) (by decide)]; exact main
  | 2, _ =>
    rw [show escTab.getD 2 [] ++ ((xs.drop k).map partOf).flatten = 92 :: 40 :: ((xs.drop k).map partOf).flatten from rfl, toks_esc, hB', check_skip _ _ _ _ (by decide) (by decide)]; exact main
  | 3, _ =>
    rw [show escTab.getD 3 [] ++ ((xs.drop k).map partOf).flatten = 92 :: 92 :: ((xs.drop k).map partOf).flatten from rfl, toks_esc, hB', check_skip _ _ _ _ (by decide) (by decide)]; exact main
theorem text_mem {xs : List Int} {d : Int} {c : Nat} (h : c ∈ textOf xs d) : c = 40 ∨ c = 41 ∨ c = 92 := by
  obtain ⟨k, q, hq, e⟩ := text_split xs d
  rw [e] at h
  rcases List.mem_append.mp h with h | h
  · rcases parts_mem h with h | h <;> omega
  · rcases List.mem_append.mp h with h | h
    · match q, hq with
      | 0, _ => cases h
      | 1, _ => have h : c ∈ [92, 41] := h; simp at h; omega
      | 2, _ => have h : c ∈ [92, 40] := h; simp at h; omega
      | 3, _ => have h : c ∈ [92, 92] := h; simp at h; omega
    · rcases parts_mem h with h | h <;> omega
theorem text_34 (xs : List Int) (d : Int) : 34 ∉ textOf xs d := fun h => by rcases text_mem h with h | h | h <;> omega
theorem text_ascii (xs : List Int) (d : Int) : (txt (textOf xs d)).cps.all (· < 128) = true := by
  show ((textOf xs d).toArray).all (· < 128) = true
  rw [List.all_toArray, List.all_eq_true]
  intro c hc
  rcases text_mem hc with h | h | h <;> simp [h]
end Mine
end

section
open PySem PySem.Calls PySem.W PyProof.Rows
set_option maxRecDepth 100000
set_option autoImplicit false
set_option linter.all false
namespace Mine
section
variable {prog : Program} {w : World} {A : Around} {E : Value → Shared → Prop} {s s₀ : Shared} {B : Heap} {L : Addr} {m : Loc} {own : List Spec} {env : Env}
  {target : PySem.Expr} {it : Value} {J : Nat → List Spec} {n : Nat} {bnd : Nat → Loc → Loc → Prop}
/-- a comprehension bound at once to a name that lies in a cell -/
theorem comp_asC {elt iter : PySem.Expr} {ifs : List PySem.Expr} {scope : Scope} {pos px : Pos} {x : Str} {cl : List (Str × Addr)} {Q : Value → Shared → Prop} {c : Addr} {v₀ : Option Value}
    (C : Cx B s₀ L m (J 0 ++ own) s) (i : Nat) (hi : own[i]? = some (c, CellO v₀)) (S : ∀ Cc, Src prog w A s₀ Cc (compEnvC scope cl Cc env) target it J n bnd B)
    (self : ∀ Cc m' own' s' (Q' : Value → Shared → Prop), Cx B s₀ Cc m' (J 0 ++ own') s' → Q' it s' → wpAny (model prog w) A (pyIter it) Q' NoE s')
    (I : Nat → Heap → List Value → Prop) (h0 : I 0 B [])
    (turn : ∀ (k : Nat) Cc acc B' m1 m2 ys s', L < Cc → k < n → Keeps B B' → I k B' ys → bnd k m1 m2 → Cx B' s₀ Cc m2 (J (k + 1) ++ (acc, ListO ys.toArray) :: (L, NsO m) :: own) s' →
      wpAny (model prog w) A (forIn ifs true fun c r => if r = true then do let ok ← isTrue c (compEnvC scope cl Cc env) (eval c (compEnvC scope cl Cc env)); pure (ForInStep.yield ok) else pure (ForInStep.yield r)) (fun ok s3 =>
        if ok = true then wpAny (model prog w) A (eval elt (compEnvC scope cl Cc env)) (CompTurn s₀ Cc B' (J (k + 1)) acc ((L, NsO m) :: own) (I (k + 1)) ys) NoE s3
        else CompSkip s₀ Cc B' (J (k + 1)) acc ((L, NsO m) :: own) (I (k + 1)) ys s3) NoE s')
    (hI : ∀ k B' ys, k ≤ n → I k B' ys → ys.length ≤ 1000)
    (fin : ∀ B' ys acc s', L < acc → Keeps B B' → I n B' ys → Cx B' s₀ L m ((acc, ListO ys.toArray) :: own.set i (c, CellO (some (.ref acc)))) s' → Q .none s')
    (hcell : ∀ y ∈ scope.names, y.2 ≠ .cell := by decide) (hkind : scope.kind = .function := by rfl)
    (hc : env.cells.lookup x = some c := by kernel_rfl!) (hk : env.scope.kind = .function := by rfl) (hx : env.kindOf x = some .cell := by kernel_rfl!) : CompGo prog w A elt target iter ifs scope pos cl env (some (assign (.Name x px) env)) Q it s := by
  refine comp_at0 C S self I h0 turn hI (fun Cc m' B' ys acc s' hLa kB hI' C' => ?_) hcell hkind
  show wpAny (model prog w) A (standAt px >>= fun _ => bindName env x (.ref acc)) _ NoE s'
  refine wpAny_bind (wpAny_standAt (wpAny_bindName ?_))
  have hi2 : ((acc, ListO ys.toArray) :: (L, NsO m) :: own)[i + 2]? = some (c, CellO v₀) := by simpa using hi
  refine wpAny_storeName_cell hk hx hc (C'.cell (i + 2) hi2) (fun h' hc' hs => ?_)
  have C2 := C'.upd (i + 2) hi2 hs (t := s'.toks) (P' := CellO (some (.ref acc))) hc'
  rw [List.set_cons_succ, List.set_cons_succ] at C2
  exact ⟨m', C2.ns, fun h2 hs2 => fin B' ys acc _ hLa kB hI' (C2.outof (pre := [(acc, ListO ys.toArray)]) hs2 (t := s'.toks))⟩
/-- a cut of a list of which no more is known -/
theorem cutLI {value : PySem.Expr} {lower upper : Option PySem.Expr} {p pos : Pos} {Q : Value → Shared → Prop}
    (h : wpAny (model prog w) A (eval value env) (fun o s₁ => wpAny (model prog w) A (evalPart lower env) (fun vl s₂ => wpAny (model prog w) A (evalPart upper env) (fun vu s₃ =>
      ∃ B m own l items lo hi, o = .ref l ∧ Cx B s₀ L m own s₃ ∧ s₃.heap.IsList l items ∧ items.size ≤ 1000 ∧ IsPart vl lo ∧ IsPart vu hi ∧
        ∀ B' s' a, Keeps B B' → Cx B' s₀ L m own s' → LsAt B' a (slicePick items lo hi none) → L < a → Q (.ref a) s') E s₂) E s₁) E s)
    (ht : ∀ o r, letTemporaryGo value o r = pure () := by intro _ _; rfl) :
    wpAny (model prog w) A (eval (.Subscript value (.Slice lower upper none p) pos) env) Q E s := by
  refine wpAny_Subscript_list_slice (wpAny_mono h (fun o s1 h1 => wpAny_mono h1 (fun vl s2 h2 => wpAny_mono h2 (fun vu s3 h3 => ?_) fun _ _ x => x) fun _ _ x => x) fun _ _ x => x) ht
  obtain ⟨B, m, own, l, items, lo, hi, rfl, C, hl, hsz, pl, pu, hQ⟩ := h3
  refine ⟨l, items, lo, hi, rfl, hl, Nat.le_trans hsz (by decide), pl, pu, ?_⟩
  have C1 := C.pushAny { cls := .type "slice", data := .fields #[vl, vu, .none] }
  obtain ⟨B', k, C', _, ho, n, rfl⟩ := (C1.push { cls := .type "list", data := .seq (slicePick items lo hi none) } rfl (P := ListO (slicePick items lo hi none)) ⟨0, rfl⟩).freeze
  have hz : (s3.heap.push { cls := .type "slice", data := .fields #[vl, vu, .none] }).objs.size = s3.heap.objs.size + 1 := Heap.size_push ..
  rw [hz] at ho
  exact hQ B' _ _ k C' ⟨n, ho⟩ (Nat.lt_succ_of_lt C.ltL)
theorem powI {a b : Int} {t u : Tok} {Q : Value → Shared → Prop} (C : Cx B s₀ L m own s) (h0 : 0 ≤ b) (hb : b ≤ 1000000) (ha : a.natAbs < 2 ^ 64) (h : ∀ s' t, Cx B s₀ L m own s' → Q (.int (a ^ b.toNat) t) s') : wpAny (model prog w) A (binaryOp .Pow (.int a t) (.int b u)) Q E s := pow_int_small h0 hb ha (h _ _ (C.tok _))
end
end Mine
end

section
open PySem PySem.Calls PySem.W PyProof.Rows
set_option maxRecDepth 100000
set_option autoImplicit false
set_option linter.all false
namespace Mine
theorem mem_pick {ns : List Int} {lo hi st : Option Int} {x : Int} (h : x ∈ pickNums ns lo hi st) : x ∈ ns := by
  obtain ⟨j, -, hj⟩ := List.mem_filterMap.mp h
  exact List.mem_of_getElem? hj
theorem sum_nonneg : ∀ {l : List Int}, (∀ x ∈ l, 0 ≤ x) → 0 ≤ l.sum
  | [], _ => Int.le_refl _
  | x :: l, h => by
    have h1 := h x (.head _)
    have h2 := sum_nonneg fun y hy => h y (.tail _ hy)
    rw [List.sum_cons]; omega
theorem six {zs : List Int} (h : zs.length = 6) (hz : ∀ z ∈ zs, 0 ≤ z) : ∃ d0 d1 d2 d3 d4 d5, zs = [d0, d1, d2, d3, d4, d5] ∧ 0 ≤ d0 ∧ 0 ≤ d1 ∧ 0 ≤ d2 ∧ 0 ≤ d3 ∧ 0 ≤ d4 ∧ 0 ≤ d5 := by
  match zs, h with
  | [d0, d1, d2, d3, d4, d5], _ => exact ⟨d0, d1, d2, d3, d4, d5, rfl, hz _ (by simp), hz _ (by simp), hz _ (by simp), hz _ (by simp), hz _ (by simp), hz _ (by simp)⟩
section
variable {prog : Program} {w : World} {A : Around} {E : Value → Shared → Prop} {s : Shared}
set_option maxHeartbeats 1000000 in
theorem law_draws {a L : Addr} {cd : Value} {vs : List Value} {xs : List Int} {m0 : Loc} {s0 s1 : Shared} {Q : Flow → Shared → Prop} (G : GL s0.heap) (hl : s0.heap.IsList a vs.toArray) (hi : IntsAre vs xs) (hn : xs.length ≤ 63) (hh : A.handled = none)
    (C : Cx s0.heap s0 L m0 [(L + 2, CellO none), (L + 1, CellO none)] s1) (hm : m0 "script" = some (.ref a))
    (h : ∀ B' s' m' d c d0 d1 d2 d3 d4 d5, Keeps s0.heap B' → Cx B' s0 L m' [(L + 2, CellO (some (.ref d))), (L + 1, CellO (some (.ref c)))] s' → IL B' d [d0, d1, d2, d3, d4, d5] → 0 ≤ d0 → 0 ≤ d1 → 0 ≤ d2 → 0 ≤ d3 → 0 ≤ d4 → 0 ≤ d5 →
      wpAny (model prog w) A (execs ((defAt 21).2.1.drop 2) (envAtC 21 L 127 cd)) Q NoE s') :
    wpAny (model prog w) A (execs (defAt 21).2.1 (envAtC 21 L 127 cd)) Q NoE s1 := by
  have e : (defAt 21).2.1 = (defAt 21).2.1 := rfl
  conv at e => lhs; whnf
  rw [← e]
  have hvl : vs.length = xs.length := hi.length
  refine wpAny_execs_cons ?_
  refine wpAny_Assign_Name (hs := by kernel_rfl!) (listComp [] (cutLI (L := L) (s₀ := s0) (ldN C hm (evalPart_none_step (evalPart_some_step (kI C fun s2 t2 C2 => ?_))))))
  refine ⟨_, _, _, a, vs.toArray, none, some ((12 : Nat) : Int), rfl, C2, hl.at (C2.keep _), by simp; omega, .none, .int _ _, ?_⟩
  intro B3 s3 b3 k3 C3 l3 n3
  rw [slicePick_upto'] at l3
  refine iterL C3 l3 fun j s4 C4 => ?_
  refine comp_at C4 (fun Cc => src_list (x := "cell") l3 hh (by rfl) (by kernel_rfl!) (by rfl)) (fun Cc m' own' s' Q' => self_list Cc m' own' s' Q')
    (fun k B ys => ∃ zs, IntsAre ys zs ∧ (∀ z ∈ zs, (0 : Int) ≤ z ∧ z ≤ 1000000) ∧ zs.length ≤ k) ⟨[], .nil, (fun _ hz => nomatch hz), Nat.le_refl _⟩ ?_ ?_ ?_
  · rintro k Cc acc B5 m1 m2 ys s5 hC hk k5 ⟨zs, hzs, hzb, hzl⟩ ⟨v, hv, rfl⟩ C5
    obtain ⟨x, t, hxk, rfl⟩ := intsAre_at (hi.take 12) hv
    refine wpAny_tests_nil ?_
    rw [if_pos rfl]
    refine wpAny_BinOp (callT1 (ldB (G.keeps (k3.trans' (k5.trans' C5.keep))) 20 4 rfl rfl ⟨rfl, ldN C5 upd_same (call_int_int ?_)⟩))
    refine wpAny_BinOp (kI C5 fun s6 t6 C6 => kI C6 fun s7 t7 C7 => powI C7 (by decide) (by decide) (by decide) fun s8 t8 C8 => modI C8 (by decide) fun s9 t9 C9 => ?_)
    have h0 : (0 : Int) ≤ x.fmod (10 ^ Int.toNat 6) := Int.fmod_nonneg_of_pos _ (by decide)
    have h1 : x.fmod (10 ^ Int.toNat 6) < 10 ^ Int.toNat 6 := Int.fmod_lt_of_pos _ (by decide)
    have h2 : ((10 : Int) ^ Int.toNat 6) = 1000000 := by decide
    rw [h2] at h1
    refine ⟨B5, _, keeps_refl _, C9, zs ++ [x.fmod (10 ^ Int.toNat 6)], hzs.append (.cons _ _ .nil), ?_, by simp; omega⟩
    intro z hz
    rcases List.mem_append.mp hz with hz | hz
    · exact hzb z hz
    · rw [List.mem_singleton.mp hz]; rw [h2] at h0 ⊢; omega
  · rintro k B5 ys hk ⟨zs, hzs, hzb, hzl⟩
    have := hzs.length
    simp at hk; omega
  · rintro B5 ys acc s5 hacc k5 ⟨zs, hzs, hzb, hzl⟩ C5
    have hzl : zs.length ≤ 12 := by simp at hzl; omega
    obtain ⟨B6, k6, C6, _, ho6, n6, rfl⟩ := C5.freeze
    have lc : LsAt B6 acc ys.toArray := ⟨n6, ho6⟩
    have hyl : ys.length = zs.length := hzs.length
    refine stCM C6 1 rfl fun s7 C7 => ?_
    have C7 : Cx B6 s0 L m0 [(L + 2, CellO none), (L + 1, CellO (some (.ref acc)))] s7 := C7
    have k06 : Keeps s0.heap B6 := k3.trans' (k5.trans' k6)
    refine wpAny_execs_cons ?_
    refine wpAny_Assign_Name (hs := by kernel_rfl!) (listComp [("cells", L + 1)] (callT1 (ldB (G.keeps (k06.trans' C7.keep)) 18 2 rfl rfl ⟨rfl, listE (items_cons (kI C7 fun s8 t0 C8 => items_cons (kI C8 fun s9 t1 C9 => items_cons (kI C9 fun s10 t2 C10 => items_cons (kI C10 fun s11 t3 C11 => items_cons (kI C11 fun s12 t4 C12 => items_cons (kI C12 fun s13 t5 C13 => items_nil (C13.newList rfl fun B14 s14 b14 k14 C14 l14 n14 => ?_))))))))⟩)))
    refine callEnum C14 l14 fun ea it s15 C15 => ?_
    obtain ⟨old, he⟩ := C15.enum 0 rfl
    refine wpAny_pyIter_enum he ?_
    have i6 : IntsAre [Value.int 3 t0, .int 3 t1, .int 1 t2, .int 2 t3, .int 5 t4, .int 9 t5] [3, 3, 1, 2, 5, 9] := .cons _ _ (.cons _ _ (.cons _ _ (.cons _ _ (.cons _ _ (.cons _ _ .nil)))))
    refine comp_at C15 (fun Cc => src_enum (x := "place") (y := "first") l14 hh (by rfl) (by kernel_rfl!) (by kernel_rfl!) (by rfl))
      (fun Cc m' own' s' Q' C h => by obtain ⟨old, he⟩ := C.enum 0 rfl; exact wpAny_pyIter_enum he h)
      (fun k B ys => ∃ zs, IntsAre ys zs ∧ (∀ z ∈ zs, (0 : Int) ≤ z) ∧ zs.length = k) ⟨[], .nil, (fun _ hz => nomatch hz), rfl⟩ ?_ ?_ ?_
    · rintro k Cc acc2 B16 m1 m2 ys2 s16 hC hk k16 ⟨zs2, hzs2, hzb2, hzl2⟩ ⟨v, t, hv, rfl⟩ C16
      obtain ⟨x, tx, hxk, rfl⟩ := intsAre_at i6 hv
      have hx0 : 0 ≤ x := (by decide : ∀ x ∈ [3, 3, 1, 2, 5, (9 : Int)], 0 ≤ x) x (List.mem_of_getElem? hxk)
      refine wpAny_tests_nil ?_
      rw [if_pos rfl]
      refine wpAny_BinOp (ldN C16 upd_same (callB1 (ldB (G.keeps (k06.trans' (k14.trans' (k16.trans' C16.keep)))) 21 5 rfl rfl ⟨rfl, ?_⟩)))
      refine cutS (L := Cc) (s₀ := s0) (ldCN C16 5 rfl (evalPart_some_step (ldN C16 (upd_ne upd_same (by decide)) (evalPart_none_step (evalPart_some_step (kI C16 fun s17 t17 C17 => ?_))))))
      refine ⟨_, _, _, acc, ys.toArray, some (k : Int), none, some 6, rfl, C17, lc.keeps (k14.trans' (k16.trans' C17.keep)), by simp; omega, .int _ _, .none, .int _ _, by decide, ?_⟩
      intro B18 s18 b18 k18 C18 l18 n18
      refine sumL (xs := pickNums zs (some (k : Int)) none (some 6)) hh ⟨(slicePick ys.toArray (some (k : Int)) none (some 6)).toList, by simpa using l18.keeps C18.keep, hzs.pick _ _ _⟩ (fun y hy => ?_) (Nat.le_trans (length_pickNums_le hzs _ _ _) (by omega)) fun s19 t19 D19 => ?_
      · have := hzb y (mem_pick hy); omega
      · have hp : 0 ≤ (pickNums zs (some (k : Int)) none (some 6)).sum := sum_nonneg fun y hy => (hzb y (mem_pick hy)).1
        have C19 := C18.ext D19.keep D19.g
        refine addI C19 fun s20 t20 C20 => ⟨B18, _, k18, C20, zs2 ++ [_], hzs2.append (.cons _ _ .nil), ?_, by simp; omega⟩
        intro z hz
        rcases List.mem_append.mp hz with hz | hz
        · exact hzb2 z hz
        · rw [List.mem_singleton.mp hz]; omega
    · rintro k B16 ys2 hk ⟨zs2, hzs2, hzb2, hzl2⟩
      have := hzs2.length
      simp at hk; omega
    · rintro B16 ys2 acc2 s16 hacc2 k16 ⟨zs2, hzs2, hzb2, hzl2⟩ C16
      obtain ⟨B17, k17, C17, _, ho17, n17, rfl⟩ := C16.freeze
      obtain ⟨d0, d1, d2, d3, d4, d5, rfl, g0, g1, g2, g3, g4, g5⟩ := six hzl2 hzb2
      refine stCM C17 0 rfl fun s18 C18 => ?_
      exact h B17 s18 m0 acc2 acc d0 d1 d2 d3 d4 d5 (k06.trans' (k14.trans' (k16.trans' k17))) C18 ⟨ys2, ⟨n17, ho17⟩, hzs2⟩ g0 g1 g2 g3 g4 g5
end
end Mine
end

section
open PySem PySem.Calls PySem.W PyProof.Rows
set_option maxRecDepth 100000
set_option autoImplicit false
set_option linter.all false
namespace Mine
theorem reads2b {h : Heap} {a : Addr} {b c : Bool} (l : LsAt h a #[.bool b, .bool c]) : ∃ as, Reads h (.ref a) (.list [.bool b, .bool c]) as := by
  obtain ⟨n, e⟩ := l
  exact ⟨_, Reads.list e rfl rfl (.cons (.bool _) (.cons (.bool _) .nil))⟩
theorem eqv2b (st : Bool) : PyData.eqv (.list [.bool (st == true), .bool (st == false)]) (.list [.bool st, .bool (!st)]) = true := by cases st <;> rfl
theorem shaped2b (b c : Bool) : SeqAt.shaped (.list [.bool b, .bool c]) = true := by cases b <;> cases c <;> decide +kernel
structure Good (xs : List Int) : Prop where
  len : 2 ≤ xs.length ∧ xs.length ≤ 9 ∧ (ordersN xs.length xs).length ≤ 100
  ord : ∀ o ∈ ordersN xs.length xs, orderB xs.length o = true
section
variable {prog : Program} {w : World} {A : Around} {E : Value → Shared → Prop} {s : Shared}
set_option maxHeartbeats 1000000 in
theorem law_loop {L d c : Addr} {cd : Value} {m0 : Loc} {B : Heap} {s0 s1 : Shared} {d0 d1 d2 d3 d4 d5 : Int} {xs : List Int} {Q : Flow → Shared → Prop} (G : GL s0.heap) (hB : Keeps s0.heap B) (hh : A.handled = none)
    (C : Cx B s0 L m0 [(L + 2, CellO (some (.ref d))), (L + 1, CellO (some (.ref c)))] s1) (hD : IL B d [d0, d1, d2, d3, d4, d5]) (g0 : 0 ≤ d0) (g1 : 0 ≤ d1) (g2 : 0 ≤ d2) (g3 : 0 ≤ d3)
    (hxs : stepsOf [d0, d1, d2, d3, d4, d5] = xs) (hg : Good xs) (hd : A.depth + 20 < recursionLimit) (hu : A.units + 64 < cLine)
    (h : ∀ B' s' m' lA ps, Keeps B B' → Cx B' s0 L m' [(L + 2, CellO (some (.ref d))), (L + 1, CellO (some (.ref c)))] s' → LsAt B' lA (ps.map Value.ref).toArray → ILs 0 B' ps (pathsOf xs) → m' "paths" = some (.ref lA) →
      wpAny (model prog w) A (execs ((defAt 21).2.1.drop 4) (envAtC 21 L 127 cd)) Q NoE s') :
    wpAny (model prog w) A (execs ((defAt 21).2.1.drop 2) (envAtC 21 L 127 cd)) Q NoE s1 := by
  have e : ((defAt 21).2.1.drop 2) = ((defAt 21).2.1.drop 2) := rfl
  conv at e => lhs; whnf
  rw [← e]; clear e
  obtain ⟨dv, lD, iD⟩ := hD
  refine wpAny_execs_cons (wpAny_Assign_Name (listE (items_nil (C.newOwn rfl fun s2 lA C2 nA => stM C2 fun s3 C3 => ?_))))
  obtain ⟨pmO, cdO, hfO⟩ := G.fOrders
  obtain ⟨pmS, cdS, hfS⟩ := G.fSteps
  refine wpAny_execs_cons (forStmt (callE1 (B := s0.heap) hfO (ldG (G.keeps (hB.trans' C3.keep)) 9 rfl ⟨rfl, callE1 (B := s0.heap) hfS (ldG (G.keeps (hB.trans' C3.keep)) 8 rfl ⟨rfl, ldCN C3 1 rfl ⟨hB.trans' C3.keep, ?_⟩⟩)⟩)))
  refine steps_spec (G.keeps (hB.trans' C3.keep)) ⟨dv, lD.keeps C3.keep, iD⟩ g0 g1 g2 g3 (by omega) hh fun s4 bS D4 hS nS => ?_
  rw [hxs] at hS
  obtain ⟨B4, k4, C4, f4⟩ := C3.call D4
  refine ⟨hB.trans' (k4.trans' C4.keep), ?_⟩
  refine orders_spec xs.length xs rfl (by have := hg.len; omega) (by have := hg.len; omega) (G.keeps (hB.trans' (k4.trans' C4.keep))) hS (by have := hg.len; omega) hh fun s5 bO D5 hO nO => ?_
  obtain ⟨B5, k5, C5, f5⟩ := C4.call D5
  obtain ⟨as, lO, iO⟩ := hO.fresh nO f5
  have hal : as.length = (ordersN xs.length xs).length := iO.length
  refine iterL C5 lO fun j s6 C6 => ?_
  have k15 : Keeps B B5 := k4.trans' k5
  refine for_gen (src_list (x := "order") lO hh (by rfl) (by kernel_rfl!) (by rfl)) C6
    (fun k B m own => ∃ ps : List Addr, own = [(lA, ListO (ps.map Value.ref).toArray), (L + 2, CellO (some (.ref d))), (L + 1, CellO (some (.ref c)))] ∧ ILs 0 B ps (((ordersN xs.length xs).take k).filter (staysFrom 0)) ∧ m "paths" = some (.ref lA))
    ⟨[], rfl, .nil, upd_same⟩ ?_ ?_
  · rintro k B7 m1 m2 own' s7 hk k7 ⟨ps, rfl, hps, hm1⟩ ⟨v, hv, rfl⟩ C7
    rw [List.length_map] at hk
    rw [List.getElem?_map] at hv
    obtain ⟨ao, hao, rfl⟩ := Option.map_eq_some_iff.mp hv
    obtain ⟨o, ho, io, -⟩ := iO.at hao
    have hmem : o ∈ ordersN xs.length xs := List.mem_of_getElem? ho
    have hob := hg.ord o hmem
    obtain ⟨hol, -⟩ := orders_len xs.length xs rfl o hmem
    simp only [orderB, Bool.and_eq_true, decide_eq_true_eq, List.all_eq_true] at hob
    obtain ⟨⟨hsum, hbd⟩, -⟩ := hob
    have kB7 : Keeps s0.heap B7 := hB.trans' (k15.trans' k7)
    obtain ⟨pm1, cd1, hf1⟩ := G.fStays
    obtain ⟨pm2, cd2, hf2⟩ := G.fCheck
    obtain ⟨pm3, cd3, hf3⟩ := G.fText
    obtain ⟨t5, hv5⟩ := intsAre_get (i := 5) iD rfl
    have hfil : ((ordersN xs.length xs).take (k + 1)).filter (staysFrom 0) = ((ordersN xs.length xs).take k).filter (staysFrom 0) ++ (if staysFrom 0 o = true then [o] else []) := by
      rw [List.take_add_one, ho, List.filter_append]
      simp only [Option.toList_some, List.filter_cons, List.filter_nil]
    refine wpAny_execs_cons (wpAny_Assign_Name (callE1 (B := s0.heap) hf1 (ldG (G.keeps (kB7.trans' C7.keep)) 10 rfl ⟨rfl, ldN C7 upd_same ⟨kB7.trans' C7.keep, ?_⟩⟩)))
    refine stays_spec (G.keeps (kB7.trans' C7.keep)) (io.keeps (k7.trans' C7.keep)) (by omega) hh fun s8 D8 => ?_
    obtain ⟨B8, k8, C8, -⟩ := C7.call D8
    refine stM C8 fun s9 C9 => ?_
    have kB9 : Keeps s0.heap s9.heap := kB7.trans' (k8.trans' C9.keep)
    have lD9 : LsAt B8 d dv.toArray := lD.keeps (k15.trans' (k7.trans' k8))
    refine wpAny_execs_cons (wpAny_Assign_Name (callE1 (B := s0.heap) hf2 (ldG (G.keeps kB9) 4 rfl ⟨rfl, callE2 (B := s0.heap) hf3 (ldG (G.keeps kB9) 11 rfl ⟨rfl, ldN C9 (upd_ne upd_same (by decide)) (Subscript_ (ldCN C9 2 rfl (kI C9 fun s10 t10 C10 => ixC C10 lD9 (by decide) (by decide) (by simpa using hv5) fun s11 C11 => ⟨kB7.trans' (k8.trans' C11.keep), ?_⟩)))⟩)⟩)))
    refine text_spec (G.keeps (kB7.trans' (k8.trans' C11.keep))) (io.keeps (k7.trans' (k8.trans' C11.keep))) (by have := hg.len; omega) (by have := hg.len; omega) (fun x hx => by have := hbd x hx; omega) (by omega) hh fun s12 t12 D12 => ?_
    obtain ⟨B12, k12, C12, -⟩ := C11.call D12
    have kB12 : Keeps s0.heap B12 := kB7.trans' (k8.trans' k12)
    refine ⟨kB12.trans' C12.keep, check_spec (G.keeps (kB12.trans' C12.keep)) (text_34 o d5) (text_ascii o d5) (by omega) hh fun s13 D13 => ?_⟩
    rw [text_check o d5 hsum]
    obtain ⟨B13, k13, C13, -⟩ := C12.call D13
    refine stM C13 fun s14 C14 => ?_
    refine wpAny_execs_cons (wpAny_If (wpAny_isTrue_Compare1 (list2E (wpAny_Compare1 (ldN C14 upd_same (wpAny_Constant_bool (is_bool (wpAny_Compare1 (ldN C14 upd_same (wpAny_Constant_bool (is_bool (C14.newList rfl fun B15 s15 b15 k15' C15 l15 n15 => ?_))))))))))))
    refine list2E (ldN C15 (upd_ne upd_same (by decide)) (wpAny_UnaryOp (ldN C15 (upd_ne upd_same (by decide)) (not_value (wpAny_truthy_bool (C15.newList rfl fun B16 s16 b16 k16 C16 l16 n16 => ?_))))))
    obtain ⟨as1, r1⟩ := reads2b (l15.keeps (k16.trans' C16.keep))
    obtain ⟨as2, r2⟩ := reads2b (l16.keeps C16.keep)
    refine ne_dataH r1 r2 (shaped2b _ _) (shaped2b _ _) hu (wpAny_truthy_bool ?_)
    rw [eqv2b, if_neg (by decide)]
    have k716 : Keeps B7 B16 := k8.trans' (k12.trans' (k13.trans' (k15'.trans' k16)))
    refine wpAny_execs_nil (wpAny_execs_cons (wpAny_If (wpAny_isTrue_value (ldN C16 (upd_ne upd_same (by decide)) (wpAny_truthy_bool ?_)))))
    have hmP := upd_ne (y := "paths") (x := "taken") (v := .bool (staysFrom 0 o)) (upd_ne (y := "paths") (x := "stays") (v := .bool (staysFrom 0 o)) (upd_ne (y := "paths") (x := "order") (v := .ref ao) hm1 (by decide)) (by decide)) (by decide)
    cases hst : staysFrom 0 o with
    | false =>
      rw [if_neg Bool.false_ne_true]
      rw [hst, if_neg Bool.false_ne_true, List.append_nil] at hfil
      rw [hst] at C16 hmP
      exact wpAny_execs_nil (wpAny_execs_nil ⟨B16, _, _, k716, C16, ps, rfl, by rw [hfil]; exact hps.keeps k716, hmP⟩)
    | true =>
      rw [if_pos rfl]
      rw [hst, if_pos rfl] at hfil
      rw [hst] at C16 hmP
      obtain ⟨_, ha16, n16', rfl⟩ := C16.has (lA, ListO (ps.map Value.ref).toArray) (by simp)
      refine wpAny_execs_cons (wpAny_Expr (wpAny_Call_append (by rfl) (by rfl) (by rfl) (by kernel_rfl!) (ldN C16 hmP ⟨lA, _, rfl, ⟨_, n16', ha16, rfl, rfl, rfl⟩, ldN C16 (upd_ne (upd_ne upd_same (by decide)) (by decide)) (append_at ha16 (fun h' hs ho' => ?_) ?_)⟩)))
      · have C17 := C16.updMid (pre := [(j, ListIterO bO (k + 1))]) (P' := ListO ((ps ++ [ao]).map Value.ref).toArray) hs ⟨_, ho', n16' + 1, by simp [W.listOf]⟩ (t := s16.toks)
        exact wpAny_execs_nil (wpAny_execs_nil ⟨B16, _, _, k716, C17, ps ++ [ao], rfl, by rw [hfil]; exact (hps.keeps k716).append (.cons (Nat.zero_le _) (io.keeps (k7.trans' k716)) .nil), hmP⟩)
      · have := hps.length
        have := List.length_filter_le (staysFrom 0) ((ordersN xs.length xs).take k)
        have := hg.len
        simp at *
        exact Nat.le_trans (show _ ≤ 1000 by omega) (by decide)
  · rintro B7 m7 own' s7 k7 ⟨ps, rfl, hps, hm7⟩ C7
    rw [List.length_map, hal, List.take_of_length_le (Nat.le_refl _)] at hps
    obtain ⟨B8, k8, C8, _, ho8, n8, rfl⟩ := C7.freeze
    exact h B8 s7 m7 lA ps (k15.trans' (k7.trans' k8)) C8 ⟨n8, ho8⟩ (hps.keeps k8) hm7
end
end Mine
end

section
open PySem PySem.Calls PySem.W PyProof.Rows
set_option maxRecDepth 100000
set_option autoImplicit false
set_option linter.all false
namespace Mine
abbrev datL (xs : List Int) : PyData := .list (xs.map PyData.int)
abbrev datLL (xss : List (List Int)) : PyData := .list (xss.map datL)
theorem readsAll_ILs {lo : Nat} {h : Heap} {as : List Addr} {xss : List (List Int)} (x : ILs lo h as xss) : ∃ bs, ReadsAll h (as.map Value.ref) (xss.map datL) bs := by
  induction x with
  | nil => exact ⟨_, .nil⟩
  | cons _ hil _ ih =>
    obtain ⟨bs, ih⟩ := ih
    obtain ⟨vs, hl, hi⟩ := hil
    exact ⟨_, .cons (reads_of_ints hl.isList hi) ih⟩
theorem reads_LL {lo : Nat} {h : Heap} {a : Addr} {xss : List (List Int)} (x : LL lo h a xss) : ∃ as, Reads h (.ref a) (datLL xss) as := by
  obtain ⟨as, ⟨n, e⟩, i⟩ := x
  obtain ⟨bs, r⟩ := readsAll_ILs i
  exact ⟨_, Reads.list e rfl rfl (by simpa using r)⟩
theorem canLay_LL : ∀ xss : List (List Int), PyData.canLayAll0 (xss.map datL) = true
  | [] => by simp [PyData.canLayAll0]
  | xs :: r => by simp [PyData.canLayAll0, PyData.canLay0, canLayAll0_ints xs, canLay_LL r]
theorem depth_LL : ∀ xss : List (List Int), PyData.depthAll (xss.map datL) ≤ 3
  | [] => by simp [PyData.depthAll]
  | xs :: r => by
    have h1 := depth_LL r
    have h2 := PySem.W.depthAll_ints xs
    simp only [List.map_cons, PyData.depthAll, PyData.depth]
    omega
theorem shaped_LL (xss : List (List Int)) : SeqAt.shaped (datLL xss) = true := by
  have h1 := depth_LL xss
  have h2 : PyData.depth (datLL xss) ≤ 64 := by simp only [PyData.depth]; omega
  show (PyData.canLay0 (datLL xss) && decide (PyData.depth (datLL xss) ≤ 64)) = true
  rw [Bool.and_eq_true]
  exact ⟨by simp only [PyData.canLay0]; exact canLay_LL xss, decide_eq_true h2⟩
theorem eqvAll_LL : ∀ xss : List (List Int), PyData.eqvAll (xss.map datL) (xss.map datL) = true
  | [] => by simp [PyData.eqvAll]
  | xs :: r => by simp [PyData.eqvAll, PyData.eqv, ked_eqvAll, eqvAll_LL r]
theorem eqv_LL (xss : List (List Int)) : PyData.eqv (datLL xss) (datLL xss) = true := by simp only [PyData.eqv]; exact eqvAll_LL xss
theorem sortB_spec {xss yss : List (List Int)} (h : sortB xss yss = true) : 2 ≤ xss.length ∧ xss.length ≤ 50 ∧ yss.length = xss.length ∧ ∃ p q, sortP xss = some p ∧ sortP yss = some q ∧ (∀ i ∈ p.toList, i < xss.length) ∧ (∀ i ∈ q.toList, i < yss.length) ∧ p.toList.length ≤ 1000 ∧ q.toList.length ≤ 1000 ∧ picked p xss = picked q yss := by
  unfold sortB at h
  rw [Bool.and_eq_true, decide_eq_true_eq] at h
  obtain ⟨⟨h1, h2, h3⟩, h⟩ := h
  refine ⟨h1, h2, h3, ?_⟩
  cases hp : sortP xss with
  | none => rw [hp] at h; cases h
  | some p =>
    cases hq : sortP yss with
    | none => rw [hp, hq] at h; cases h
    | some q =>
      rw [hp, hq] at h
      simp only [Bool.and_eq_true, decide_eq_true_eq, List.all_eq_true] at h
      obtain ⟨⟨⟨⟨a, b⟩, c⟩, d⟩, e⟩ := h
      exact ⟨p, q, rfl, rfl, a, fun i hi => by rw [h3]; exact b i hi, by omega, by omega, e⟩
end Mine
end

section
open PySem PySem.Calls PySem.W PyProof.Rows
set_option maxRecDepth 100000
set_option autoImplicit false
set_option linter.all false
namespace Mine
theorem path_mem {xs o : List Int} (h : o ∈ pathsOf xs) : o ∈ ordersN xs.length xs := (List.mem_filter.mp h).1
section
variable {prog : Program} {w : World} {A : Around} {E : Value → Shared → Prop} {s : Shared}
set_option maxHeartbeats 1000000 in
theorem law_swept {L d c lA : Addr} {ps : List Addr} {cd : Value} {m0 : Loc} {B : Heap} {s0 s1 : Shared} {d0 d1 d2 d3 d4 d5 : Int} {xs : List Int} {Q : Flow → Shared → Prop} (G : GL s0.heap) (hB : Keeps s0.heap B) (hh : A.handled = none)
    (C : Cx B s0 L m0 [(L + 2, CellO (some (.ref d))), (L + 1, CellO (some (.ref c)))] s1) (hD : IL B d [d0, d1, d2, d3, d4, d5]) (lP : LsAt B lA (ps.map Value.ref).toArray) (iP : ILs 0 B ps (pathsOf xs)) (hmP : m0 "paths" = some (.ref lA))
    (hg : Good xs) (hb : ∀ o ∈ pathsOf xs, ∀ h ∈ sumsOf o o.length, 0 ≤ h ∧ h ≤ 900) (hs : sortB ((pathsOf xs).map sweep) (pathsOf xs) = true) (hd : A.depth + 20 < recursionLimit) (hu : A.units + 64 < cLine) (hu2 : A.in1.in1.units < cLine)
    (h : ∀ B' s' m' lS qs, Keeps B B' → Cx B' s0 L m' [(L + 2, CellO (some (.ref d))), (L + 1, CellO (some (.ref c)))] s' → LsAt B' lS (qs.map Value.ref).toArray → ILs 0 B' qs ((pathsOf xs).map sweep) → m' "paths" = some (.ref lA) → m' "swept" = some (.ref lS) →
      wpAny (model prog w) A (execs ((defAt 21).2.1.drop 6) (envAtC 21 L 127 cd)) Q NoE s') :
    wpAny (model prog w) A (execs ((defAt 21).2.1.drop 4) (envAtC 21 L 127 cd)) Q NoE s1 := by
  have e : ((defAt 21).2.1.drop 4) = ((defAt 21).2.1.drop 4) := rfl
  conv at e => lhs; whnf
  rw [← e]; clear e
  obtain ⟨dv, lD, iD⟩ := hD
  obtain ⟨t4, hv4⟩ := intsAre_get (i := 4) iD rfl
  have hpl : ps.length = (pathsOf xs).length := iP.length
  obtain ⟨hs1, hs2, hs3, p, q, hp, hq, hpn, hqn, hp1, hq1, hpq⟩ := sortB_spec hs
  rw [List.length_map] at hs1 hs2 hs3
  refine wpAny_execs_cons ?_
  refine asComp [("draws", L + 2)] (ldN C hmP (iterL C lP fun j s2 C2 => ?_))
  refine comp_as C2 (fun Cc => src_list (x := "order") lP hh (by rfl) (by kernel_rfl!) (by rfl)) (fun Cc m' own' s' Q' => self_list Cc m' own' s' Q')
    (fun k B ys => ∃ qs : List Addr, ys = qs.map Value.ref ∧ ILs 0 B qs (((pathsOf xs).take k).map sweep)) ⟨[], rfl, .nil⟩ ?_ ?_ ?_
  · rintro k Cc acc B3 m1 m2 ys s3 hC hk k3 ⟨qs, rfl, hqs⟩ ⟨v, hv, rfl⟩ C3
    rw [List.length_map] at hk
    rw [List.getElem?_map] at hv
    obtain ⟨ao, hao, rfl⟩ := Option.map_eq_some_iff.mp hv
    obtain ⟨o, ho, io, -⟩ := iP.at hao
    have hmem := path_mem (List.mem_of_getElem? ho)
    have hob := hg.ord o hmem
    have hbo := hb o (List.mem_of_getElem? ho)
    obtain ⟨hol, -⟩ := orders_len xs.length xs rfl o hmem
    have hlen := hg.len
    simp only [orderB, Bool.and_eq_true, decide_eq_true_eq, List.all_eq_true, List.any_eq_true, List.mem_range] at hob
    obtain ⟨⟨hsum, hbd⟩, i, hi1, hi2⟩ := hob
    have kB3 : Keeps s0.heap B3 := hB.trans' k3
    obtain ⟨pm1, cd1, hf1⟩ := G.fSwept
    obtain ⟨pm2, cd2, hf2⟩ := G.fHeights
    refine wpAny_tests_nil ?_
    rw [if_pos rfl]
    refine callE2 (B := s0.heap) hf1 (ldG (G.keeps (kB3.trans' C3.keep)) 14 rfl ⟨rfl, ldN C3 upd_same (callE2 (B := s0.heap) hf2 (ldG (G.keeps (kB3.trans' C3.keep)) 12 rfl ⟨rfl, ldN C3 upd_same (Subscript_ (ldCN C3 3 rfl (kI C3 fun s4 t4' C4 => ixC C4 (lD.keeps k3) (by decide) (by decide) (by simpa using hv4) fun s5 C5 => ⟨kB3.trans' C5.keep, ?_⟩)))⟩))⟩)
    refine heights_spec (i := i) (G.keeps (kB3.trans' C5.keep)) (io.keeps (k3.trans' C5.keep)) (by omega) (fun x hx => by have := hbd x hx; omega) (by omega) hi2 (by omega) hh fun s6 b6 D6 hI6 n6 => ?_
    obtain ⟨B7, k7, C7, f7⟩ := C5.call D6
    refine ⟨kB3.trans' (k7.trans' C7.keep), ?_⟩
    refine swept_spec (G.keeps (kB3.trans' (k7.trans' C7.keep))) (io.keeps (k3.trans' (k7.trans' C7.keep))) hI6 (by omega) (by simp [sumsOf]) hbo (by omega) hh fun s8 b8 D8 hI8 n8 => ?_
    obtain ⟨B9, k9, C9, f9⟩ := C7.call D8
    have hI9 : IL B9 b8 (sweep o) := hI8.fresh n8 f9
    have k39 : Keeps B3 B9 := k7.trans' k9
    refine ⟨B9, _, k39, C9, qs ++ [b8], by simp, ?_⟩
    have htk : ((pathsOf xs).take (k + 1)).map sweep = ((pathsOf xs).take k).map sweep ++ [sweep o] := by rw [List.take_add_one, ho]; simp
    rw [htk]
    exact (hqs.keeps k39).append (.cons (Nat.zero_le _) hI9 .nil)
  · rintro k B3 ys hk ⟨qs, rfl, hqs⟩
    have := hqs.length
    simp at this ⊢; omega
  · rintro B3 ys acc s3 hacc k3 ⟨qs, rfl, hqs⟩ C3
    rw [List.length_map, hpl, List.take_of_length_le (Nat.le_refl _)] at hqs
    obtain ⟨B4, k4, C4, _, ho4, n4, rfl⟩ := C3.freeze
    have lS : LsAt B4 acc (qs.map Value.ref).toArray := ⟨n4, ho4⟩
    have iS := hqs.keeps k4
    have kB4 : Keeps s0.heap B4 := hB.trans' (k3.trans' k4)
    refine wpAny_execs_cons (wpAny_If (wpAny_isTrue_Compare1 (callB1 (ldB (G.keeps (kB4.trans' C4.keep)) 23 7 rfl rfl ⟨rfl, ldN C4 upd_same (sortLists hu2 C4 lS iS (by simpa using hs1) (by simp; omega) hp hp1 (by simpa using hpn) fun B5 s5 D5 k5 C5 hD5 nD5 => ?_)⟩))))
    refine callB1 (ldB (G.keeps (kB4.trans' (k5.trans' C5.keep))) 23 7 rfl rfl ⟨rfl, ldN C5 (upd_ne hmP (by decide)) (sortLists hu2 C5 (lP.keeps (k3.trans' (k4.trans' k5))) (iP.keeps (k3.trans' (k4.trans' k5))) hs1 (by omega) hq hq1 hqn fun B6 s6 D6 k6 C6 hD6 nD6 => ?_)⟩)
    have e5 : (p.toList.map fun i => ((pathsOf xs).map sweep).getD i []) = (q.toList.map fun i => (pathsOf xs).getD i []) := hpq
    rw [e5] at hD5
    obtain ⟨as1, r1⟩ := reads_LL ((hD5.keeps k6).keeps C6.keep)
    obtain ⟨as2, r2⟩ := reads_LL (hD6.keeps C6.keep)
    refine ne_dataH r1 r2 (shaped_LL _) (shaped_LL _) hu (wpAny_truthy_bool ?_)
    rw [eqv_LL, if_neg (by decide)]
    refine wpAny_execs_nil ?_
    exact h B6 s6 _ acc qs (k3.trans' (k4.trans' (k5.trans' k6))) C6 (lS.keeps (k5.trans' k6)) (iS.keeps (k5.trans' k6)) (upd_ne hmP (by decide)) upd_same
end
end Mine
end

section
open PySem PySem.Calls PySem.W PyProof.Rows
set_option maxRecDepth 100000
set_option autoImplicit false
set_option linter.all false
namespace Mine
theorem rev_two {vs : List Value} {a b : Int} (h : IntsAre vs [a, b]) : IntsAre (slicePick vs.toArray none none (some (-1))).toList [b, a] := by
  obtain ⟨t, u, rfl⟩ := IntsAre.two h
  rw [krv_pick]
  exact .cons _ _ (.cons _ _ .nil)
section
variable {prog : Program} {w : World} {A : Around} {E : Value → Shared → Prop} {s : Shared}
set_option maxHeartbeats 1000000 in
theorem law_rooms {L d c lA wA : Addr} {ps qs : List Addr} {cd : Value} {m0 : Loc} {B : Heap} {s0 s1 : Shared} {d0 d1 d2 d3 d4 d5 : Int} {xs : List Int} {Q : Flow → Shared → Prop} (G : GL s0.heap) (hB : Keeps s0.heap B) (hh : A.handled = none)
    (C : Cx B s0 L m0 [(L + 2, CellO (some (.ref d))), (L + 1, CellO (some (.ref c)))] s1) (hD : IL B d [d0, d1, d2, d3, d4, d5]) (lP : LsAt B lA (ps.map Value.ref).toArray) (iP : ILs 0 B ps (pathsOf xs)) (hmP : m0 "paths" = some (.ref lA))
    (lS : LsAt B wA (qs.map Value.ref).toArray) (iS : ILs 0 B qs ((pathsOf xs).map sweep)) (hmS : m0 "swept" = some (.ref wA)) (hpb : (pathsOf xs).length ≤ 100)
    (hs : d0.fmod 3 = 0 → sortB (roomsOf (pathsOf xs)) ((roomsOf (pathsOf xs)).map List.reverse) = true) (hd : A.depth + 20 < recursionLimit) (hu : A.units + 64 < cLine) (hu2 : A.in1.in1.units < cLine)
    (h : ∀ s', Done s0 s' → Q (.ret (.bool true)) s') :
    wpAny (model prog w) A (execs ((defAt 21).2.1.drop 6) (envAtC 21 L 127 cd)) Q NoE s1 := by
  have e : ((defAt 21).2.1.drop 6) = ((defAt 21).2.1.drop 6) := rfl
  conv at e => lhs; whnf
  rw [← e]; clear e
  obtain ⟨dv, lD, iD⟩ := hD
  obtain ⟨t0, hv0⟩ := intsAre_get (i := 0) iD rfl
  have hpl : ps.length = (pathsOf xs).length := iP.length
  have hql : qs.length = (pathsOf xs).length := by have := iS.length; simpa using this
  refine wpAny_execs_cons (wpAny_If (wpAny_isTrue_Compare1 (wpAny_BinOp (Subscript_ (ldCN C 0 rfl (kI C fun s2 t2 C2 => ixC C2 lD (by decide) (by decide) (by simpa using hv0) fun s3 C3 => kI C3 fun s4 t4 C4 => modI C4 (by decide) fun s5 t5 C5 => kI C5 fun s6 t6 C6 => ne_int (wpAny_truthy_bool ?_)))))))
  by_cases hz : d0.fmod 3 = 0
  · rw [if_neg (by simpa using hz)]
    obtain ⟨hs1, hs2, hs3, p, q, hp, hq, hpn, hqn, hp1, hq1, hpq⟩ := sortB_spec (hs hz)
    have hrl : (roomsOf (pathsOf xs)).length = (pathsOf xs).length := by simp [roomsOf]
    refine wpAny_execs_nil (wpAny_execs_cons ?_)
    refine asComp [] (callT2 (ldB (G.keeps (hB.trans' C6.keep)) 19 3 rfl rfl ⟨rfl, ldN C6 hmP (ldN C6 hmS ?_)⟩))
    with_reducible refine callZipLL C6 lP lS fun B7 s7 z TI TO i1 i2 k7 hTI C7 => ?_
    obtain ⟨_, hz7, hze⟩ := C7.get 0 rfl
    subst hze
    with_reducible refine wpAny_pyIter_zip hz7 ?_
    have C8 : Cx B7 s0 L m0 (JZip z TI TO (fun k => [(i1, ListIterO lA k)]) (fun k => [(i2, ListIterO wA k)]) 0 ++ [(L + 2, CellO (some (.ref d))), (L + 1, CellO (some (.ref c)))]) s7 := C7
    obtain ⟨pm1, cd1, hf1⟩ := G.fRoom
    refine comp_as C8 (fun Cc => src_zip (x := "order") (y := "other") (T := ps.length) (itrList hh (lP.keeps k7)) (itrList hh (lS.keeps k7)) hTI (by simp; omega) hh (by rfl) (by kernel_rfl!) (by kernel_rfl!) (by rfl))
      (fun Cc m' own' s' Q' Cz hq' => by
        obtain ⟨_, hzz, hze⟩ := Cz.get 0 rfl
        subst hze
        exact wpAny_pyIter_zip hzz hq')
      (fun k B ys => ∃ rs : List Addr, ys = rs.map Value.ref ∧ ILs 0 B rs (roomsOf ((pathsOf xs).take k))) ⟨[], rfl, .nil⟩ ?_ ?_ ?_
    · rintro k Cc acc B9 m1 m2 ys s9 hC hk k9 ⟨rs, rfl, hrs⟩ ⟨v1, v2, hv1, hv2, rfl⟩ C9
      rw [List.getElem?_map] at hv1 hv2
      obtain ⟨ao, hao, rfl⟩ := Option.map_eq_some_iff.mp hv1
      obtain ⟨bo, hbo, rfl⟩ := Option.map_eq_some_iff.mp hv2
      obtain ⟨o, ho, io, -⟩ := iP.at hao
      obtain ⟨o2, ho2, io2, -⟩ := iS.at hbo
      rw [List.getElem?_map, ho] at ho2
      obtain rfl : sweep o = o2 := Option.some.inj ho2
      have kB9 : Keeps s0.heap B9 := hB.trans' (k7.trans' k9)
      refine wpAny_tests_nil ?_
      rw [if_pos rfl]
      refine list2E (callE1 (B := s0.heap) hf1 (ldG (G.keeps (kB9.trans' C9.keep)) 15 rfl ⟨rfl, ldN C9 (upd_ne upd_same (by decide)) ⟨kB9.trans' C9.keep, ?_⟩⟩))
      refine room_spec (G.keeps (kB9.trans' C9.keep)) (io.keeps (k7.trans' (k9.trans' C9.keep))) (by omega) hh fun s10 t10 D10 => ?_
      obtain ⟨B11, k11, C11, -⟩ := C9.call D10
      refine callE1 (B := s0.heap) hf1 (ldG (G.keeps (kB9.trans' (k11.trans' C11.keep))) 15 rfl ⟨rfl, ldN C11 upd_same ⟨kB9.trans' (k11.trans' C11.keep), ?_⟩⟩)
      refine room_spec (G.keeps (kB9.trans' (k11.trans' C11.keep))) (io2.keeps (k7.trans' (k9.trans' (k11.trans' C11.keep)))) (by omega) hh fun s12 t12 D12 => ?_
      obtain ⟨B13, k13, C13, -⟩ := C11.call D12
      refine C13.newList rfl fun B14 s14 b14 k14 C14 l14 n14 => ?_
      refine ⟨B14, _, k11.trans' (k13.trans' k14), C14, rs ++ [b14], by simp, ?_⟩
      have htk : roomsOf ((pathsOf xs).take (k + 1)) = roomsOf ((pathsOf xs).take k) ++ [[roomFrom 0 0 o, roomFrom 0 0 (sweep o)]] := by
        unfold roomsOf; rw [List.take_add_one, ho]; simp
      rw [htk]
      exact (hrs.keeps (k11.trans' (k13.trans' k14))).append (.cons (Nat.zero_le _) ⟨_, l14, .cons _ _ (.cons _ _ .nil)⟩ .nil)
    · rintro k B9 ys hk ⟨rs, rfl, hrs⟩
      have := hrs.length
      simp [roomsOf] at this ⊢; omega
    · rintro B9 ys acc s9 hacc k9 ⟨rs, rfl, hrs⟩ C9
      rw [List.take_of_length_le (by omega)] at hrs
      obtain ⟨B10, k10, C10, _, ho10, n10, rfl⟩ := C9.freeze
      have lR : LsAt B10 acc (rs.map Value.ref).toArray := ⟨n10, ho10⟩
      have iR := hrs.keeps k10
      have kB10 : Keeps s0.heap B10 := hB.trans' (k7.trans' (k9.trans' k10))
      refine wpAny_execs_cons (wpAny_Return_some (wpAny_Compare1 (callB1 (ldB (G.keeps (kB10.trans' C10.keep)) 23 7 rfl rfl ⟨rfl, ldN C10 upd_same (sortLists hu2 C10 lR iR hs1 (by omega) hp hp1 hpn fun B11 s11 D11 k11 C11 hD11 nD11 => ?_)⟩))))
      refine callB1 (ldB (G.keeps (kB10.trans' (k11.trans' C11.keep))) 23 7 rfl rfl ⟨rfl, listComp [] (ldN C11 upd_same (iterL C11 (lR.keeps k11) fun j s12 C12 => ?_))⟩)
      have hrsl : rs.length = (roomsOf (pathsOf xs)).length := hrs.length
      refine comp_at C12 (fun Cc => src_list (x := "room") (lR.keeps k11) hh (by rfl) (by kernel_rfl!) (by rfl)) (fun Cc m' own' s' Q' => self_list Cc m' own' s' Q')
        (fun k B ys => ∃ us : List Addr, ys = us.map Value.ref ∧ ILs 0 B us (((roomsOf (pathsOf xs)).take k).map List.reverse)) ⟨[], rfl, .nil⟩ ?_ ?_ ?_
      · rintro k Cc acc2 B13 m1 m2 ys s13 hC hk k13 ⟨us, rfl, hus⟩ ⟨v, hv, rfl⟩ C13
        rw [List.getElem?_map] at hv
        obtain ⟨ao, hao, rfl⟩ := Option.map_eq_some_iff.mp hv
        obtain ⟨r, hr, ir, -⟩ := iR.at hao
        have hr2 : ∃ a b, r = [a, b] := by
          have := List.mem_of_getElem? hr
          unfold roomsOf at this
          obtain ⟨o, -, rfl⟩ := List.mem_map.mp this
          exact ⟨_, _, rfl⟩
        obtain ⟨a, b, rfl⟩ := hr2
        obtain ⟨rv, lr, ir⟩ := ir
        have hrv : rv.length = 2 := ir.length
        refine wpAny_tests_nil ?_
        rw [if_pos rfl]
        refine cutS (L := Cc) (s₀ := s0) (ldN C13 upd_same (evalPart_none_step (evalPart_none_step (evalPart_some_step (wpAny_UnaryOp (kI C13 fun s14 t14 C14 => negI C14 fun s15 t15 C15 => ?_))))))
        refine ⟨_, _, _, ao, rv.toArray, none, none, some (-1), rfl, C15, lr.keeps (k11.trans' (k13.trans' C15.keep)), by simp; omega, .none, .none, .int _ _, by decide, ?_⟩
        intro B16 s16 b16 k16 C16 l16 n16
        refine ⟨B16, _, k16, C16, us ++ [b16], by simp, ?_⟩
        have htk : ((roomsOf (pathsOf xs)).take (k + 1)).map List.reverse = ((roomsOf (pathsOf xs)).take k).map List.reverse ++ [[b, a]] := by
          rw [List.take_add_one, hr]; simp
        rw [htk]
        exact (hus.keeps k16).append (.cons (Nat.zero_le _) ⟨(slicePick rv.toArray none none (some (-1))).toList, by simpa using l16, rev_two ir⟩ .nil)
      · rintro k B13 ys hk ⟨us, rfl, hus⟩
        have := hus.length
        simp at this ⊢; omega
      · rintro B13 ys acc2 s13 hacc2 k13 ⟨us, rfl, hus⟩ C13
        rw [List.length_map, hrsl, List.take_of_length_le (Nat.le_refl _)] at hus
        obtain ⟨B14, k14, C14, _, ho14, n14, rfl⟩ := C13.freeze
        refine sortLists hu2 C14 ⟨n14, ho14⟩ (hus.keeps k14) (by simp; omega) (by simp; omega) hq hq1 hqn fun B15 s15 D15 k15 C15 hD15 nD15 => ?_
        have e5 : (p.toList.map fun i => (roomsOf (pathsOf xs)).getD i []) = (q.toList.map fun i => ((roomsOf (pathsOf xs)).map List.reverse).getD i []) := hpq
        rw [e5] at hD11
        obtain ⟨as1, r1⟩ := reads_LL (hD11.keeps (k13.trans' (k14.trans' (k15.trans' C15.keep))))
        obtain ⟨as2, r2⟩ := reads_LL (hD15.keeps C15.keep)
        refine eq_dataH r1 r2 (shaped_LL _) (shaped_LL _) hu ?_
        rw [eqv_LL]
        exact h _ (C15.done (kB10.trans' (k11.trans' (k13.trans' (k14.trans' k15)))))
  · rw [if_pos (by simpa using hz)]
    exact wpAny_execs_cons (wpAny_Return_some (wpAny_Constant_bool (h _ (C6.done hB))))
end
end Mine
end

section
open PySem PySem.Calls PySem.W PyProof.Rows
set_option maxRecDepth 100000
set_option autoImplicit false
set_option linter.all false
namespace Mine
theorem goodB_spec {b : Bool} {xs : List Int} (h : goodB b xs = true) : Good xs ∧ sortB ((pathsOf xs).map sweep) (pathsOf xs) = true ∧ (∀ o ∈ pathsOf xs, ∀ h ∈ sumsOf o o.length, 0 ≤ h ∧ h ≤ 900) ∧ (b = true → sortB (roomsOf (pathsOf xs)) ((roomsOf (pathsOf xs)).map List.reverse) = true) := by
  unfold goodB at h
  simp only [Bool.and_eq_true, decide_eq_true_eq, List.all_eq_true, Bool.or_eq_true, Bool.not_eq_true'] at h
  obtain ⟨⟨⟨⟨h1, h2⟩, h3⟩, h4⟩, h5⟩ := h
  refine ⟨⟨h1, h2⟩, h3, h4, fun hb => ?_⟩
  rcases h5 with h5 | h5
  · rw [hb] at h5; cases h5
  · exact h5
section
variable {prog : Program} {w : World} {A : Around} {E : Value → Shared → Prop} {s : Shared}
theorem law_spec {a : Addr} {pm cd : Value} {vs : List Value} {xs : List Int} {Q : Value → Shared → Prop} (G : GL s.heap) (hf : FnAt s.heap 127 (fd 21 .none .none pm cd)) (hl : s.heap.IsList a vs.toArray) (hi : IntsAre vs xs) (hn : xs.length ≤ 63)
    (hd : A.depth + 30 < recursionLimit) (hh : A.handled = none) (hu : ∀ env, (A.deeper env).units + 64 < cLine) (hu2 : ∀ env, (A.deeper env).in1.in1.units < cLine) 
    (h : ∀ s', Done s s' → Q (.bool true) s') : wpAny (model prog w) A (call (.ref 127) [.ref a]) Q E s := by
  refine callDefC G.lim hf (by omega) (BindsTo.of_eq (binds := [("script", .ref a)]) (by kernel_rfl!)) fun L s₁ nL C => ?_
  have C : Cx s.heap s L (bindL (envAtC 21 L 127 cd).kindOf [("script", .ref a)] fun _ => none) [(L + 2, CellO none), (L + 1, CellO none)] s₁ := C
  have hst : bindL (envAtC 21 L 127 cd).kindOf [("script", .ref a)] (fun _ => none) "script" = some (.ref a) := by rfl
  generalize bindL (envAtC 21 L 127 cd).kindOf [("script", .ref a)] (fun _ => none) = m0 at C hst
  refine law_draws G hl hi hn hh C hst fun B2 s2 m2 d c d0 d1 d2 d3 d4 d5 k2 C2 hD g0 g1 g2 g3 g4 g5 => ?_
  obtain ⟨hg, hs, hb, hr⟩ := goodB_spec (good_steps (d0 := d0) [d4, d5] g1 g2 g3)
  generalize hxs : stepsOf [d0, d1, d2, d3, d4, d5] = xs at hg hs hb hr
  have hdA : (A.deeper (envAtC 21 L 127 cd)).depth + 20 < recursionLimit := by show A.depth + 1 + 20 < _; omega
  refine law_loop G k2 hh C2 hD g0 g1 g2 g3 hxs hg hdA (hu _) fun B3 s3 m3 lA ps k3 C3 lP iP hmP => ?_
  refine law_swept G (k2.trans' k3) hh C3 (hD.keeps k3) lP iP hmP hg hb hs hdA (hu _) (hu2 _) fun B4 s4 m4 lW qs k4 C4 lS iS hmP4 hmS4 => ?_
  refine law_rooms G (k2.trans' (k3.trans' k4)) hh C4 (hD.keeps (k3.trans' k4)) (lP.keeps k4) (iP.keeps k4) hmP4 lS iS hmS4 ?_ (fun hz => hr (decide_eq_true hz)) hdA (hu _) (hu2 _) fun s5 D5 => ?_
  · have := List.length_filter_le (staysFrom 0) (ordersN xs.length xs)
    have := hg.len
    show (List.filter _ _).length ≤ 100
    omega
  · exact h s5 D5
end
end Mine
end

section
open PySem PySem.Calls PySem.W PyProof.Rows
set_option maxRecDepth 100000
set_option autoImplicit false
set_option linter.all false
namespace Mine
def esOf (K : Frag) (a : Addr) : Array DictEntry := match K.lookup a with | some ⟨_, _, .dict es _, _⟩ => es | _ => #[]
def epOf (K : Frag) (a : Addr) : Nat := match K.lookup a with | some ⟨_, _, .dict _ n, _⟩ => n | _ => 0
def pmOf (K : Frag) (f : Addr) : Value := match K.lookup f with | some ⟨_, _, .func F, _⟩ => F.pyModule | _ => .none
def cdOf (K : Frag) (f : Addr) : Value := match K.lookup f with | some ⟨_, _, .func F, _⟩ => F.code | _ => .none
def tokOf : Option Value → Tok
  | some (.int _ t) => t
  | _ => 0
def tok0 (K : Frag) (a : Addr) : Tok := match K.lookup a with | some ⟨_, _, .seq vs _, _⟩ => tokOf vs[0]? | _ => 0
def FnOk (K : Frag) (f : Addr) (k : Nat) (dV kV : Value) : Prop := K.lookup f = some ⟨.type "function", none, .func (fd k dV kV (pmOf K f) (cdOf K f)), #[]⟩ ∧ codeIn K (cdOf K f) (nameAt k) = true
theorem FnOk.at {K : Frag} {h : Heap} (X : K.In h) {f : Addr} {k : Nat} {dV kV : Value} (e : FnOk K f k dV kV) : ∃ pm cd, FnAt h f (fd k dV kV pm cd) := ⟨_, _, X _ _ e.1, codeRec_of X e.2⟩
def TabOk (K : Frag) : Prop := K.lookup 3 = some ⟨.type "dict", none, .dict (esOf K 3) (epOf K 3), #[]⟩ ∧ globTab.map (fun p => nsFind (esOf K 3) p.1) = globTab.map (·.2) ∧ nsFind (esOf K 3) "law" = some (.ref 127) ∧
  nsFind (esOf K 3) "CHAR_MAX" = some (.int 127 (tokOf (nsFind (esOf K 3) "CHAR_MAX")))
def KeyOk (K : Frag) (a b : Addr) : Prop := K.lookup a = some ⟨.type "tuple", none, .seq #[.int 0 (tok0 K a), .none] 0, #[]⟩ ∧ K.lookup b = some ⟨.type "dict", none, .dict (esOf K b) (epOf K b), #[]⟩ ∧
  (esOf K b).toList.map (fun e => match e.key with | .str _ _ => true | _ => false) = [true] ∧ nsFind (esOf K b) "key" = some .none
theorem TabOk.of {K : Frag} {h : Heap} (X : K.In h) (e : TabOk K) : TabOk K := e
theorem FnOk.of {K : Frag} {h : Heap} {f : Addr} {k : Nat} {dV kV : Value} (X : K.In h) (e : FnOk K f k dV kV) : FnOk K f k dV kV := e
theorem bltOk : bltTab.map (fun p => bootBuiltins p.1) = bltTab.map (fun p => some p.2) := by kernel_rfl!
theorem KeyOk.at {K : Frag} {h : Heap} (X : K.In h) {a b : Addr} (e : KeyOk K a b) : ∃ t ns, h.get? a = some ⟨.type "tuple", none, .seq #[.int 0 t, .none] 0, #[]⟩ ∧ h.Ns b ns ∧ ns "key" = some .none := by
  obtain ⟨e1, e2, e3, e4⟩ := e
  refine ⟨_, nsFind (esOf K b), X _ _ e1, ⟨_, _, _, X _ _ e2, rfl, ?_, fun _ => rfl⟩, e4⟩
  intro x hx
  have hx : x ∈ (esOf K b).toList := by simpa using hx
  have hm := List.mem_map_of_mem (f := fun e : DictEntry => match e.key with | .str _ _ => true | _ => false) hx
  rw [e3, List.mem_singleton] at hm
  cases hk : x.key with
  | str n t => exact ⟨n, t, rfl⟩
  | _ => rw [hk] at hm; cases hm
theorem tab_at {β γ : Type} {f g : β → γ} {l : List β} (h : l.map f = l.map g) {i : Nat} {x : β} (hi : l[i]? = some x) : f x = g x := by
  have := congrArg (fun l => l[i]?) h
  simpa [List.getElem?_map, hi] using this
theorem tab_main {K : Frag} {h : Heap} (X : K.In h) (e : TabOk K) {mg : Str → Option Value} (g : h.Ns mainGlobals mg) (name : Str) : mg name = nsFind (esOf K 3) name := by
  obtain ⟨o, es, ep, ho, hd, -, hf⟩ := g
  have e3 : h.get? mainGlobals = _ := X _ _ e.1
  rw [e3] at ho
  cases ho
  cases hd
  exact (hf name).symm
theorem gl_of {K : Frag} {h : Heap} {p : Program} {loose : List Str} {mean : ExcName → Option Value} {mg mb : Str → Option Value} (T : Top p loose mean mg mb h) (X : K.In h) (e : TabOk K)
    (e1 : FnOk K 23 1 (.ref 15) (.ref 16)) (e2 : FnOk K 32 2 (.ref 24) (.ref 25)) (e4 : FnOk K 39 4 .none .none) (e5 : FnOk K 46 5 .none .none) (e6 : FnOk K 53 6 .none .none) (e8 : FnOk K 60 8 .none .none) (e10 : FnOk K 67 10 .none .none)
    (e12 : FnOk K 74 12 .none .none) (e13 : FnOk K 79 13 .none .none) (e14 : FnOk K 84 14 .none .none) (e15 : FnOk K 91 15 .none .none) (e16 : FnOk K 96 16 .none .none) (e17 : FnOk K 103 17 .none .none) (e18 : FnOk K 110 18 .none .none)
    (e19 : FnOk K 115 19 .none .none) (e20 : FnOk K 122 20 .none .none) (k1 : KeyOk K 15 16) (k2 : KeyOk K 24 25) : GL h where
  lim := T.nolimit
  gl := ⟨mg, T.g, fun i x v hi => by
    rw [tab_main X e T.g x]
    exact tab_at e.2.1 hi⟩
  charMax := ⟨mg, _, T.g, by rw [tab_main X e T.g]; exact e.2.2.2⟩
  bl := ⟨mb, T.b, fun i x v hi => by
    have hm : (x, v) ∈ bltTab := List.mem_of_getElem? hi
    have hn : x ≠ "__name__" := (by decide : ∀ q ∈ bltTab.map (·.1), q ≠ ("__name__" : Str)) x (List.mem_map_of_mem (f := (·.1)) hm)
    rw [T.builtins x hn]
    exact tab_at bltOk hi⟩
  fInsort := e1.at X
  fBisect := e2.at X
  fIter := e4.at X
  fStrip := e5.at X
  fCheck := e6.at X
  fXfrm := e8.at X
  fGroup := e10.at X
  fPair := e12.at X
  fSteps := e13.at X
  fOrders := e14.at X
  fStays := e15.at X
  fText := e16.at X
  fHeights := e17.at X
  fFront := e18.at X
  fSwept := e19.at X
  fRoom := e20.at X
  dInsort := k1.at X
  dBisect := k2.at X
end Mine
end

open PySem PySem.Calls PySem.W PyProof.Rows
set_option maxRecDepth 100000 in
set_option maxHeartbeats 8000000 in
theorem PySem.Challenge.cw_wf0026_01_holds : PySem.Challenge.rw_wf0026_01.Holds := by
  w_on
  o_law
  k_head
  case hw => w_witness2
  intro w s₀ s₁ mg mb G Y fa o pm cd doc dV kV ho hdd hcd hD hmg hg args vals as hpre hlay hrd hwl hlo
  have KX := kIn_of Y
  refine Ground.open G ?_
  intro T B D TE TW
  have tk := Mine.TabOk.of KX ⟨by kernel_rfl!, by kernel_rfl!, by kernel_rfl!, by kernel_rfl!⟩
  have GG := Mine.gl_of T KX tk ⟨by kernel_rfl!, by kernel_rfl!⟩ ⟨by kernel_rfl!, by kernel_rfl!⟩ ⟨by kernel_rfl!, by kernel_rfl!⟩ ⟨by kernel_rfl!, by kernel_rfl!⟩ ⟨by kernel_rfl!, by kernel_rfl!⟩ ⟨by kernel_rfl!, by kernel_rfl!⟩
    ⟨by kernel_rfl!, by kernel_rfl!⟩ ⟨by kernel_rfl!, by kernel_rfl!⟩ ⟨by kernel_rfl!, by kernel_rfl!⟩ ⟨by kernel_rfl!, by kernel_rfl!⟩ ⟨by kernel_rfl!, by kernel_rfl!⟩ ⟨by kernel_rfl!, by kernel_rfl!⟩
    ⟨by kernel_rfl!, by kernel_rfl!⟩ ⟨by kernel_rfl!, by kernel_rfl!⟩ ⟨by kernel_rfl!, by kernel_rfl!⟩ ⟨by kernel_rfl!, by kernel_rfl!⟩
    ⟨by kernel_rfl!, by kernel_rfl!, by kernel_rfl!, by kernel_rfl!⟩ ⟨by kernel_rfl!, by kernel_rfl!, by kernel_rfl!, by kernel_rfl!⟩
  have fl := Mine.FnOk.of (f := 127) (k := 21) (dV := .none) (kV := .none) KX ⟨by kernel_rfl!, by kernel_rfl!⟩
  obtain ⟨pm2, cd2, hf⟩ := fl.at KX
  have hfa : some (Value.ref fa) = some (.ref 127) := by rw [← hmg]; exact (Mine.tab_main KX tk T.g _).trans tk.2.2.1
  obtain rfl : fa = 127 := by injection hfa with h; injection h
  clear hdd hcd hD hmg ho
  wrow_args hpre hlay hrd hwl hlo
  refine Mine.law_spec GG hf ‹_› ‹_› (by omega) (by decide) rfl (fun env => Nat.le_of_ble_eq_true (by kernel_rfl!)) (fun env => Nat.le_of_ble_eq_true (by kernel_rfl!)) fun s' D' => ?_
  refine ⟨.inl ⟨.bool true, .bool true, [], rfl, fun cls => ?_, .bool _, ?_, fun _ => ⟨List.nodup_nil, fun _ h => nomatch h⟩⟩, .of_keep D'.keep, D'.g.os, D'.g.bare (.of_eq hg)⟩
  · kernel_rfl!
  · kernel_rfl!
