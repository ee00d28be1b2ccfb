import PyProof.Rows.All
import Wide.All
import OpenK.AllK
import Wide.FinOn
import PySem.Challenge.RW_ik0077_01
set_option Elab.async false
set_option maxRecDepth 100000
set_option linter.unusedVariables false
set_option linter.unusedSimpArgs false
local macro_rules | `(tactic| omega) => `(tactic| lia)
section
set_option tactic.hygienic false
open PySem PySem.W PyProof.Rows
set_option maxHeartbeats 0
namespace Mine
noncomputable def keepL : List Nat := (List.range 65).filter fun i => !([2, 13, 15, 17, 20, 22, 24, 30, 54].contains i)
noncomputable def vw : Program := { PySem.Challenge.pw_ik0077_01 with main := { PySem.Challenge.pw_ik0077_01.main with body := keepL.filterMap fun i => PySem.Challenge.pw_ik0077_01.main.body[i]? } }
noncomputable def loL : List Str := ["_twin_re_7", "HEADER_TOKEN_RE", "HEADER_QUOTED_VALUE_RE", "HEADER_VALUE_RE", "HEADER_ESCAPE_RE", "HEADER_JOIN_TOKEN_RE", "HEADER_JOIN_ESCAPE_RE", "_filemode_table"]
noncomputable def b3 (a b c : Int) (x y z : String) : WData := .tuple [.tuple [.int a, .str x], .tuple [.int b, .str y], .tuple [.int c, .str z]]
noncomputable def b1 (a : Int) (x : String) : WData := .tuple [.tuple [.int a, .str x]]
noncomputable def fmT : WData := .tuple [.tuple [.tuple [.int 40960, .str "l"], .tuple [.int 49152, .str "s"], .tuple [.int 32768, .str "-"], .tuple [.int 24576, .str "b"], .tuple [.int 16384, .str "d"], .tuple [.int 8192, .str "c"], .tuple [.int 4096, .str "p"]],
  b1 256 "r", b1 128 "w", b3 2112 2048 64 "s" "S" "x", b1 32 "r", b1 16 "w", b3 1032 1024 8 "s" "S" "x", b1 4 "r", b1 2 "w", b3 513 512 1 "t" "T" "x"]
noncomputable def lvL : List (Str × WData) := [("_filemode_table", fmT)]
noncomputable def asRef : Value → Option Addr
  | .ref a => some a
  | _ => none
noncomputable def codeOf : Data → Option Addr
  | .func fd => asRef fd.code
  | _ => none
noncomputable def tabIn : Data → Option Addr
  | .fields vs => (vs[11]? : Option Value).bind asRef
  | _ => none
noncomputable def tabAt (mg : Str → Option Value) (h : Heap) (x : Str) : Option Addr :=
  (mg x).bind fun v => (asRef v).bind fun a => (h.get? a).bind fun o => (codeOf o.data).bind fun c => (h.get? c).bind fun oc => tabIn oc.data
noncomputable def nmS : Str := "split_header_words"
noncomputable def nmJ : Str := "join_header_words"
noncomputable def tabsApart (s : Shared) : Bool := match tabAt (s.heap.nsMap mainGlobals) s.heap nmS, tabAt (s.heap.nsMap mainGlobals) s.heap nmJ with
  | some P, some P' => Nat.beq P P' == false
  | _, _ => false
/-- the two tables of codes stand apart -/
noncomputable def Apart2 (mg : Str → Option Value) (h : Heap) : Prop := ∃ P P', tabAt mg h nmS = some P ∧ tabAt mg h nmJ = some P' ∧ P ≠ P'
theorem tabAt_keeps {mg : Str → Option Value} {h h' : Heap} {x : Str} {P : Addr} (k : ∀ b o, h.get? b = some o → h'.get? b = some o) (e : tabAt mg h x = some P) : tabAt mg h' x = some P := by
  obtain ⟨v, e1, e⟩ := Option.bind_eq_some_iff.mp e
  obtain ⟨a, e2, e⟩ := Option.bind_eq_some_iff.mp e
  obtain ⟨o, e3, e⟩ := Option.bind_eq_some_iff.mp e
  obtain ⟨c, e4, e⟩ := Option.bind_eq_some_iff.mp e
  obtain ⟨oc, e5, e⟩ := Option.bind_eq_some_iff.mp e
  unfold tabAt
  rw [e1, Option.bind_some, e2, Option.bind_some, k _ _ e3, Option.bind_some, e4, Option.bind_some, k _ _ e5]
  exact e
theorem Apart2.keeps {mg : Str → Option Value} {h h' : Heap} (x : Apart2 mg h) (k : ∀ b o, h.get? b = some o → h'.get? b = some o) : Apart2 mg h' :=
  let ⟨P, P', a, b, c⟩ := x; ⟨P, P', tabAt_keeps k a, tabAt_keeps k b, c⟩
set_option tactic.hygienic true in
theorem apart2_of {s : Shared} (e : tabsApart s = true) : Apart2 (s.heap.nsMap mainGlobals) s.heap := by
  unfold tabsApart at e
  split at e
  · rename_i P P' h1 h2
    refine ⟨P, P', h1, h2, fun q => ?_⟩
    subst q
    have : Nat.beq P P = true := Nat.beq_refl P
    rw [this] at e; cases e
  · cases e
noncomputable def bookedB (s : Shared) : Bool := s.heap.isNs cStatics && (s.heap.nsMap cStatics sharingNotToldKey).isNone
theorem booked_of {s : Shared} (e : bookedB s = true) : NoneBooked s.heap := by
  obtain ⟨a, b⟩ := Bool.and_eq_true_iff.mp e
  exact ⟨_, .of_isNs a, Option.isNone_iff_eq_none.mp b⟩
theorem booked_keeps {h h' : Heap} (k : ∀ b o, h.get? b = some o → h'.get? b = some o) : NoneBooked h → NoneBooked h' := fun ⟨mc, a, b⟩ => ⟨mc, a.keeps k, b⟩
noncomputable def xpt (s : Shared) : Bool := xlAt vw lvL s && tabsApart s && bookedB s
noncomputable def XPm (mg : Str → Option Value) (h : Heap) : Prop := XL vw lvL mg h ∧ Apart2 mg h ∧ NoneBooked h
theorem xpm_of (s : Shared) (e : xpt s = true) : XPm (s.heap.nsMap mainGlobals) s.heap := by
  unfold xpt at e
  simp only [Bool.and_eq_true] at e
  exact ⟨xl_of s e.1.1, apart2_of e.1.2, booked_of e.2⟩
theorem XPm.keeps (mg : Str → Option Value) (h h' : Heap) (x : XPm mg h) (k : ∀ b o, h.get? b = some o → h'.get? b = some o) : XPm mg h' := ⟨XL.keeps mg h h' x.1 k, x.2.1.keeps k, booked_keeps k x.2.2⟩
theorem opt_cut {α β : Type} {o : Option α} {f : α → β} {b : β} (h : o.map f = some b) (s : α) (e : o = some s) : f s = b := by
  subst e; exact Option.some.inj h
theorem opt_has {α β : Type} {o : Option α} {f : α → β} {b : β} (h : o.map f = some b) : ∃ s, o = some s := by
  cases o with
  | none => cases h
  | some s => exact ⟨s, rfl⟩
theorem leftO_all {p q : Program} {loose : List Str} {X1 : Shared → Bool} {N : Nat}
    (hA : (fun w : World => (openEnds treeTable p w N).map (fun s =>
      (seen ((recsOf q).map (·.name)) (ownsOf q) [] { s with gens := #[] }, s.heap.bltView, X1 s, (tabsOk q s, pinSeenD q (drecsOf q) s)))) =
      fun _ => some (expectedOf q, bltViewBooted, true, (true, pinGoodD (drecsOf q))))
    (hB : (fun w : World => (openEnds treeTable p w N).map (fun s =>
      (s.heap.keysOk (looseW q loose) ((recsOf q).map (·.name)) ((litsOf q).map (·.1)) ((clssOf q (looseW q loose)).map (·.name)),
       s.heap.accountedOkI (importedModules p.main.body) && s.heap.isNs mainGlobals && s.heap.isNs builtinsNs && tablesOk q s.heap && (s.gens.size == 0),
       (plainSeenE q (looseW q loose) s, plainSeenD q loose s), (wideSeen q s, clsSeenW q loose s)))) =
      fun _ => some (true, true, (plainGoodE q (looseW q loose), plainGoodD q loose), (wideGood q, clsGoodW q loose))) :
    LeftO p q loose X1 (Hook.obs Hook.none) (Hook.val Hook.none) N := by
  intro w
  obtain ⟨s, e⟩ := opt_has (congrFun hA w)
  have h := opt_cut (congrFun hA w) s e
  have h' := opt_cut (congrFun hB w) s e
  simp only [Prod.mk.injEq] at h h'
  obtain ⟨a, b, x, ⟨f1, f2⟩⟩ := h
  obtain ⟨c, d, ⟨g1, g2⟩, h1, h2⟩ := h'
  simp only [Bool.and_eq_true] at d
  obtain ⟨⟨⟨⟨d1, d2⟩, d3⟩, d4⟩, d5⟩ := d
  rw [e]
  simp only [Option.map_some]
  unfold openSeen openGood
  simp only [a, b, c, d1, d2, d3, d4, d5, x, f1, f2, g1, g2, h1, h2, Bool.and_self, if_true]
  rfl
end Mine
end
section
set_option tactic.hygienic false
open PySem PySem.W PyProof.Rows
set_option maxHeartbeats 0
namespace Mine
noncomputable def qEnds (p : Program) (w : World) (N : Nat) : Option Shared :=
  ((PySem.W.Fast.tw10274390034422433532 PySem.W.Fast.tw14364793385576792824 (opening p) w N (PySem.W.Fast.tw1435165496053646825 (opening p)).1 (PySem.W.Fast.tw1435165496053646825 (opening p)).2).bind (PySem.W.Fast.tw14289696077712309145 p)).bind fun s₀ => match s₀.heap.isNs mainGlobals && s₀.gens.size == 0 with
  | true => (PySem.W.Fast.tw14082659384304107361 PySem.W.Fast.tw14364793385576792824 p w s₀.heap.objs.size (PySem.W.Fast.tw8920871248978507458 s₀.heap mainGlobals "__annotations__") N s₀ (topStub p)).bind fun s₁ => match staticsOk (PySem.W.Fast.tw5923862056798008813 p.main.body) s₀.heap s₁.heap && namesBound p s₁.heap && gensDone s₁ && laidKept s₀.heap s₁.heap with
    | true => some s₁
    | false => none
  | false => none
theorem qEnds_eq : openEnds treeTable = qEnds := by
  funext p w N
  unfold openEnds fencedOpening topFrom qEnds
  rw [← PySem.W.Fast.te10274390034422433532, ← PySem.W.Fast.te14364793385576792824, ← PySem.W.Fast.te1435165496053646825, ← PySem.W.Fast.te14289696077712309145, ← PySem.W.Fast.te14082659384304107361, ← PySem.W.Fast.te8920871248978507458, ← PySem.W.Fast.te5923862056798008813]
  rfl
theorem open_abxf_q : (fun w : World => (qEnds PySem.Challenge.pw_ik0077_01 w 4800).map (fun s =>
    (PySem.W.Fast.tw5160383126252970620 ((PySem.W.Fast.tw3399658132070893891 vw).map (·.name)) (PySem.W.Fast.tw5991557255702980513 vw) [] { s with gens := #[] }, s.heap.bltView, xpt s, (PySem.W.Fast.tw479339242167458305 vw s, PySem.W.Fast.tw16090120013241838585 vw (PySem.W.Fast.tw3247288618530077131 vw) s)))) =
  fun _ => some (expectedOf vw, bltViewBooted, true, (true, pinGoodD (drecsOf vw))) := by kernel_rfl
theorem open_abxf : (fun w : World => (openEnds treeTable PySem.Challenge.pw_ik0077_01 w 4800).map (fun s =>
    (seen ((recsOf vw).map (·.name)) (ownsOf vw) [] { s with gens := #[] }, s.heap.bltView, xpt s, (tabsOk vw s, pinSeenD vw (drecsOf vw) s)))) =
  fun _ => some (expectedOf vw, bltViewBooted, true, (true, pinGoodD (drecsOf vw))) := by
  have h := open_abxf_q
  rw [← qEnds_eq, ← PySem.W.Fast.te5160383126252970620, ← PySem.W.Fast.te3399658132070893891, ← PySem.W.Fast.te5991557255702980513, ← PySem.W.Fast.te479339242167458305, ← PySem.W.Fast.te16090120013241838585, ← PySem.W.Fast.te3247288618530077131] at h
  exact h
theorem open_cdgh_q : (fun w : World => (qEnds PySem.Challenge.pw_ik0077_01 w 4800).map (fun s =>
    (PySem.W.Fast.tw10880121769531294198 s.heap (PySem.W.Fast.tw821141287760084731 vw loL) ((PySem.W.Fast.tw3399658132070893891 vw).map (·.name)) ((PySem.W.Fast.tw7409074990110511671 vw).map (·.1)) ((PySem.W.Fast.tw13664370479719496447 vw (PySem.W.Fast.tw821141287760084731 vw loL)).map (·.name)), PySem.W.Fast.tw14722251495701143533 s.heap (PySem.W.Fast.tw5923862056798008813 PySem.Challenge.pw_ik0077_01.main.body) && s.heap.isNs mainGlobals && s.heap.isNs builtinsNs && PySem.W.Fast.tw10994771534591457954 vw s.heap && (s.gens.size == 0), (PySem.W.Fast.tw2386780881361962483 vw (PySem.W.Fast.tw821141287760084731 vw loL) s, PySem.W.Fast.tw11698064438423848299 vw loL s), (PySem.W.Fast.tw7317090234206586261 vw s, PySem.W.Fast.tw7369524293546568484 vw loL s)))) =
  fun _ => some (true, true, (plainGoodE vw (looseW vw loL), plainGoodD vw loL), (wideGood vw, clsGoodW vw loL)) := by kernel_rfl
theorem open_cdgh : (fun w : World => (openEnds treeTable PySem.Challenge.pw_ik0077_01 w 4800).map (fun s =>
    (s.heap.keysOk (looseW vw loL) ((recsOf vw).map (·.name)) ((litsOf vw).map (·.1)) ((clssOf vw (looseW vw loL)).map (·.name)), s.heap.accountedOkI (importedModules PySem.Challenge.pw_ik0077_01.main.body) && s.heap.isNs mainGlobals && s.heap.isNs builtinsNs && tablesOk vw s.heap && (s.gens.size == 0), (plainSeenE vw (looseW vw loL) s, plainSeenD vw loL s), (wideSeen vw s, clsSeenW vw loL s)))) =
  fun _ => some (true, true, (plainGoodE vw (looseW vw loL), plainGoodD vw loL), (wideGood vw, clsGoodW vw loL)) := by
  have h := open_cdgh_q
  rw [← qEnds_eq, ← PySem.W.Fast.te3399658132070893891, ← PySem.W.Fast.te10880121769531294198, ← PySem.W.Fast.te7409074990110511671, ← PySem.W.Fast.te13664370479719496447, ← PySem.W.Fast.te821141287760084731, ← PySem.W.Fast.te14722251495701143533, ← PySem.W.Fast.te5923862056798008813, ← PySem.W.Fast.te10994771534591457954, ← PySem.W.Fast.te2386780881361962483, ← PySem.W.Fast.te11698064438423848299, ← PySem.W.Fast.te7317090234206586261, ← PySem.W.Fast.te7369524293546568484] at h
  exact h
end Mine
theorem Mine.leftHere : LeftO PySem.Challenge.pw_ik0077_01 Mine.vw Mine.loL Mine.xpt (Hook.obs Hook.none) (Hook.val Hook.none) 4800 := Mine.leftO_all Mine.open_abxf Mine.open_cdgh
end
section
set_option tactic.hygienic false
open PySem PySem.W PyProof.Rows
set_option maxHeartbeats 0
namespace Mine
theorem said_q : PySem.W.Fast.tw9446332074065402090 PySem.Challenge.rw_ik0077_01 = true := by kernel_rfl
theorem said : OpenLaw.wellSaid PySem.Challenge.rw_ik0077_01 = true := by
  rw [PySem.W.Fast.te9446332074065402090]
  exact said_q
end Mine
end
section
set_option tactic.hygienic false
open PySem PySem.Calls PySem.W PyProof.Rows
namespace Mine

noncomputable abbrev Frz := Addr → Option Obj

inductive V where
  | none | bool (b : Bool) | int (i : Int) | str (s : Str) | tup (l : List V) | list (l : List V)
  | val (v : Value) | mat (s : Str) (sp : List Int) | obj (o : Obj) | rng (a b c : Int)

noncomputable def FTup (f : Frz) (a : Addr) (vs : List Value) : Prop := ∃ o, f a = some o ∧ o.cls = .type "tuple" ∧ ∃ n, o.data = .seq vs.toArray n
noncomputable def FList (f : Frz) (a : Addr) (vs : List Value) : Prop := ∃ o, f a = some o ∧ o.cls = .type "list" ∧ ∃ n, o.data = .seq vs.toArray n
noncomputable def FMat (f : Frz) (a : Addr) (x : Str) (sp : List Int) : Prop := ∃ o vs ta t, f a = some o ∧ o.cls = .type "re.Match" ∧ o.dict = none ∧ o.data = .fields vs ∧ vs[0]? = some (.str x t) ∧ vs[5]? = some (.ref ta) ∧ FTup f ta (sp.map rawInt)

mutual
inductive Rep (f : Frz) : V → Value → Prop
  | none : Rep f .none .none
  | bool (b) : Rep f (.bool b) (.bool b)
  | int (i t) : Rep f (.int i) (.int i t)
  | str (x t) : Rep f (.str x) (.str x t)
  | val (v) : Rep f (.val v) v
  | tup {a l vs} : FTup f a vs → RepAll f l vs → Rep f (.tup l) (.ref a)
  | list {a l vs} : FList f a vs → RepAll f l vs → Rep f (.list l) (.ref a)
  | mat {a x sp} : FMat f a x sp → Rep f (.mat x sp) (.ref a)
  | obj {a o} : f a = some o → Rep f (.obj o) (.ref a)
  | rng {a i j k t u v} : f a = some { cls := .type "range", data := .fields #[.int i t, .int j u, .int k v] } → Rep f (.rng i j k) (.ref a)
inductive RepAll (f : Frz) : List V → List Value → Prop
  | nil : RepAll f [] []
  | cons {v u l vs} : Rep f v u → RepAll f l vs → RepAll f (v :: l) (u :: vs)
end

noncomputable def FLe (f f' : Frz) : Prop := ∀ a o, f a = some o → f' a = some o
theorem FLe.refl (f : Frz) : FLe f f := fun _ _ e => e
theorem FLe.trans {f g h : Frz} (x : FLe f g) (y : FLe g h) : FLe f h := fun a o e => y a o (x a o e)
theorem FTup.mono {f f' : Frz} {a vs} (k : FLe f f') (x : FTup f a vs) : FTup f' a vs := let ⟨o, e, r⟩ := x; ⟨o, k _ _ e, r⟩
theorem FList.mono {f f' : Frz} {a vs} (k : FLe f f') (x : FList f a vs) : FList f' a vs := let ⟨o, e, r⟩ := x; ⟨o, k _ _ e, r⟩
theorem FMat.mono {f f' : Frz} {a x sp} (k : FLe f f') (h : FMat f a x sp) : FMat f' a x sp :=
  let ⟨o, vs, ta, t, e, r1, r2, r3, r4, r5, r6⟩ := h; ⟨o, vs, ta, t, k _ _ e, r1, r2, r3, r4, r5, r6.mono k⟩

theorem Rep.mono {f f' : Frz} (k : FLe f f') {v u} (x : Rep f v u) : Rep f' v u :=
  @Rep.rec f (fun v u _ => Rep f' v u) (fun l vs _ => RepAll f' l vs) .none .bool .int .str .val (fun x _ y => .tup (x.mono k) y) (fun x _ y => .list (x.mono k) y) (fun x => .mat (x.mono k)) (fun x => .obj (k _ _ x)) (fun x => .rng (k _ _ x)) .nil (fun _ _ x y => .cons x y) v u x
theorem RepAll.ind {f : Frz} (M : List V → List Value → Prop) (n : M [] []) (c : ∀ {v u l vs}, Rep f v u → RepAll f l vs → M l vs → M (v :: l) (u :: vs)) {l vs} (x : RepAll f l vs) : M l vs :=
  @RepAll.rec f (fun _ _ _ => True) (fun l vs _ => M l vs) ⟨⟩ (fun _ => ⟨⟩) (fun _ _ => ⟨⟩) (fun _ _ => ⟨⟩) (fun _ => ⟨⟩) (fun _ _ _ => ⟨⟩) (fun _ _ _ => ⟨⟩) (fun _ => ⟨⟩) (fun _ => ⟨⟩) (fun _ => ⟨⟩) n (fun x y _ z => c x y z) l vs x
theorem RepAll.mono {f f' : Frz} (k : FLe f f') {l vs} (x : RepAll f l vs) : RepAll f' l vs := x.ind (RepAll f') .nil fun x _ y => .cons (x.mono k) y
theorem RepAll.length {f : Frz} {l vs} (x : RepAll f l vs) : l.length = vs.length := x.ind (fun l vs => l.length = vs.length) rfl fun _ _ h => congrArg (· + 1) h
theorem RepAll.append {f : Frz} {l vs l' vs'} (x : RepAll f l vs) (y : RepAll f l' vs') : RepAll f (l ++ l') (vs ++ vs') := x.ind (fun l vs => RepAll f (l ++ l') (vs ++ vs')) y fun x _ h => .cons x h
theorem RepAll.get {f : Frz} {l vs} (x : RepAll f l vs) : ∀ {i : Nat} {v : V}, l[i]? = some v → ∃ u, vs[i]? = some u ∧ Rep f v u :=
  x.ind (fun l vs => ∀ {i : Nat} {v : V}, l[i]? = some v → ∃ u, vs[i]? = some u ∧ Rep f v u) (fun e => by simp at e) fun {v u l vs} x r h {i w} e => by
    cases i with
    | zero => simp at e; subst e; exact ⟨u, rfl, x⟩
    | succ i => exact h (by simpa using e)
theorem RepAll.drop {f : Frz} : ∀ (n : Nat) {l vs}, RepAll f l vs → RepAll f (l.drop n) (vs.drop n)
  | 0, _, _, x => x
  | n + 1, _, _, .nil => by simpa using RepAll.nil
  | n + 1, _, _, .cons _ r => by simpa using RepAll.drop n r
theorem RepAll.take {f : Frz} : ∀ (n : Nat) {l vs}, RepAll f l vs → RepAll f (l.take n) (vs.take n)
  | 0, _, _, _ => by simpa using RepAll.nil
  | n + 1, _, _, .nil => by simpa using RepAll.nil
  | n + 1, _, _, .cons x r => by simpa using RepAll.cons x (RepAll.take n r)

structure Tab where
  P : Addr
  ln : Nat
  col : Nat
  q : Str
structure Cx where
  prog : Program
  w : World
  G : Heap
  T : List Tab
  mg : Str → Option Value
  mb : Str → Option Value
  glob : G.Ns mainGlobals mg
  bltn : G.Ns builtinsNs mb
  nolimit : G.NoLimit
  noT : ∀ t ∈ T, mainGlobals ≠ t.P
  bat : ∀ t ∈ T, G.BuiltinsAt mg t.P

noncomputable def TabOk (f : Frz) (h : Heap) (t : Tab) : Prop := f t.P = none ∧ (h.get? t.P = some (tabObj #[]) ∨
  ∃ c' o vs k, h.get? t.P = some (tabObj #[rawInt t.ln, rawInt t.col, .ref c']) ∧ f c' = some o ∧ o.data = .fields vs ∧ vs[1]? = some (.str t.q k))

structure Inv (C : Cx) (f : Frz) (h : Heap) : Prop where
  sub : ∀ a o, f a = some o → h.get? a = some o
  gh : ∀ a o, C.G.get? a = some o → f a = some o
  tab : ∀ t ∈ C.T, TabOk f h t

structure Step (T : List Tab) (f : Frz) (h : Heap) (f' : Frz) (h' : Heap) : Prop where
  size : h.objs.size ≤ h'.objs.size
  keep : ∀ a o, h.get? a = some o → (∀ t ∈ T, a ≠ t.P) → h'.get? a = some o
  frz : ∀ a, a < h.objs.size → f' a = f a

theorem Step.refl (T : List Tab) (f : Frz) (h : Heap) : Step T f h f h := ⟨Nat.le_refl _, fun _ _ e _ => e, fun _ _ => rfl⟩
theorem Step.trans {T : List Tab} {f g k : Frz} {h h' h'' : Heap} (x : Step T f h g h') (y : Step T g h' k h'') : Step T f h k h'' :=
  ⟨Nat.le_trans x.size y.size, fun a o e q => y.keep a o (x.keep a o e q) q, fun a l => (y.frz a (Nat.lt_of_lt_of_le l x.size)).trans (x.frz a l)⟩
theorem Inv.lt {C : Cx} {f h} (I : Inv C f h) {a o} (e : f a = some o) : a < h.objs.size := Heap.lt_size (I.sub a o e)
theorem Step.le {C : Cx} {f g : Frz} {h h' : Heap} (I : Inv C f h) (x : Step C.T f h g h') : FLe f g := fun a o e => (x.frz a (I.lt e)).trans e
theorem Inv.ghost {C : Cx} {f h} (I : Inv C f h) {a o} (e : C.G.get? a = some o) : h.get? a = some o := I.sub a o (I.gh a o e)
theorem Inv.tlt {C : Cx} {f h} (I : Inv C f h) {t} (ht : t ∈ C.T) : t.P < h.objs.size := by
  rcases (I.tab t ht).2 with e | ⟨_, _, _, _, e, _⟩ <;> exact Heap.lt_size e
theorem Inv.tne {C : Cx} {f h} (I : Inv C f h) {t} (ht : t ∈ C.T) {a o} (e : f a = some o) : a ≠ t.P := fun q => by
  have := (I.tab t ht).1; rw [← q, e] at this; cases this

structure Room (n : Nat) (A : Around) : Prop where
  hd : A.handled = none
  depth : A.depth + n ≤ 700
  units : A.units + 8 * n ≤ 9000
theorem Room.le {n m A} (r : Room n A) (h : m ≤ n) : Room m A := ⟨r.hd, by have := r.depth; omega, by have := r.units; omega⟩
theorem Room.in1 {n A} (r : Room (n + 1) A) : Room n A.in1 := ⟨r.hd, by have := r.depth; simp; omega, by have := r.units; simp; omega⟩
theorem Room.deeper {n A} (r : Room (n + 1) A) (env : Env) : Room n (A.deeper env) := ⟨r.hd, by have := r.depth; show A.depth + 1 + n ≤ 700; omega, by have := r.units; show A.units + 3 + 8 * n ≤ 9000; omega⟩

noncomputable def Pu (C : Cx) (n : Nat) (t : List Value → Sem Value) (args : List V) (res : V) : Prop :=
  ∀ {A s f vs E} {Q : Value → Shared → Prop}, Room n A → 0 < s.toks → Inv C f s.heap → RepAll f args vs →
    (∀ h' k f' v, 0 < k → Inv C f' h' → Step C.T f s.heap f' h' → Rep f' res v → Q v { s with heap := h', toks := k }) →
    wpAny (model C.prog C.w) A (t vs) Q E s
noncomputable def Op1 (C : Cx) (n : Nat) (t : Value → Sem Value) (a : V) (res : V) : Prop :=
  ∀ {A s f x E} {Q : Value → Shared → Prop}, Room n A → 0 < s.toks → Inv C f s.heap → Rep f a x →
    (∀ h' k f' v, 0 < k → Inv C f' h' → Step C.T f s.heap f' h' → Rep f' res v → Q v { s with heap := h', toks := k }) →
    wpAny (model C.prog C.w) A (t x) Q E s
noncomputable def Op2 (C : Cx) (n : Nat) (t : Value → Value → Sem Value) (a b : V) (res : V) : Prop :=
  ∀ {A s f x y E} {Q : Value → Shared → Prop}, Room n A → 0 < s.toks → Inv C f s.heap → Rep f a x → Rep f b y →
    (∀ h' k f' v, 0 < k → Inv C f' h' → Step C.T f s.heap f' h' → Rep f' res v → Q v { s with heap := h', toks := k }) →
    wpAny (model C.prog C.w) A (t x y) Q E s
noncomputable def Tr (C : Cx) (n : Nat) (a : V) (res : Bool) : Prop :=
  ∀ {A s f x E} {Q : Bool → Shared → Prop}, Room n A → 0 < s.toks → Inv C f s.heap → Rep f a x →
    (∀ k, 0 < k → Q res { s with toks := k }) → wpAny (model C.prog C.w) A (truthy x) Q E s
theorem Pu.le {C n m t args res} (p : Pu C m t args res) (h : m ≤ n) : Pu C n t args res := fun r t I R k => p (r.le h) t I R k
theorem wp_pos {α : Type} {M : Model} {A : Around} {t : Sem α} {Q : α → Shared → Prop} {E : Value → Shared → Prop} {s : Shared} (h0 : 0 < s.toks)
    (h : wpAny M A t (fun a s' => 0 < s'.toks → Q a s') E s) : wpAny M A t Q E s :=
  wpAny_mono (wpAny_toks h) (fun _ _ q => q.2 (Nat.lt_of_lt_of_le h0 q.1)) fun _ _ q => q.2

inductive Slot where
  | unset | val (v : V) | own (l : List V)

/-- what is fixed of a frame -/
structure Fs where
  names : List (Str × NameKind)
  fn : Bool
  code : Value
  qual : Str
structure EnvOk (F : Fs) (env : Env) : Prop where
  names : env.scope.names = F.names
  kind : env.scope.kind = .function
  nd : (F.names.map (·.1)).Nodup
  globals : env.globals = mainGlobals
  bltn : env.builtins = builtinsNs
  fn : env.func.isSome = F.fn
  code : env.code = F.code
  qual : env.qual = F.qual
  cells : ∀ x, env.kindOf x = some .cell ∨ env.kindOf x = some .free → (env.cells.lookup x).isSome = true

noncomputable def LV (env : Env) (h : Heap) (x : Str) (v : Value) : Prop :=
  (env.kindOf x = some .local ∧ ∃ m, h.Ns env.locals m ∧ m x = some v) ∨
  ((env.kindOf x = some .cell ∨ env.kindOf x = some .free) ∧ ∃ c, env.cells.lookup x = some c ∧ h.IsCell c (some v))

noncomputable def listObj (vs : List Value) (n : Nat) : Obj := { cls := .type "list", data := .seq vs.toArray n }

noncomputable def SlotOk (f : Frz) (h : Heap) (env : Env) (oa : Addr) (x : Str) : Slot → Prop
  | .unset => True
  | .val v => ∃ u, LV env h x u ∧ Rep f v u
  | .own l => LV env h x (.ref oa) ∧ ∃ vs n, h.get? oa = some (listObj vs n) ∧ RepAll f l vs

/-- an address of this frame's own -/
structure Owns (C : Cx) (h₀ : Heap) (env : Env) (f : Frz) (a : Addr) : Prop where
  low : h₀.objs.size ≤ a
  frz : f a = none
  ne : a ≠ env.locals
  nc : ∀ p ∈ env.cells, a ≠ p.2

structure SR (C : Cx) (h₀ : Heap) (f₀ : Frz) (env : Env) (X : List (Addr × Obj)) (oa : Nat → Addr) (σ : List Slot) (f : Frz) (h : Heap) : Prop where
  inv : Inv C f h
  st : Step C.T f₀ h₀ f h
  t0 : ∀ t ∈ C.T, t.P < h₀.objs.size
  ns : ∃ m, h.Ns env.locals m
  low : h₀.objs.size ≤ env.locals
  fL : f env.locals = none
  cell : ∀ p ∈ env.cells, (∃ v, h.IsCell p.2 v) ∧ f p.2 = none ∧ p.2 ≠ env.locals ∧ ∀ t ∈ C.T, p.2 ≠ t.P
  capart : env.cells.Pairwise fun x y => x.2 ≠ y.2
  cw : env.func.isSome = true → ∀ p ∈ env.cells, h₀.objs.size ≤ p.2
  x : ∀ p ∈ X, h.get? p.1 = some p.2 ∧ Owns C h₀ env f p.1
  xd : (X.map (·.1)).Nodup
  s1 : ∀ (i : Nat) (x : Str × NameKind) (sl : Slot), env.scope.names[i]? = some x → σ[i]? = some sl → SlotOk f h env (oa i) x.1 sl
  s2 : ∀ (i : Nat) (l : List V), σ[i]? = some (Slot.own l) → Owns C h₀ env f (oa i) ∧ oa i ∉ X.map (·.1) ∧ oa i < h.objs.size
  s3 : ∀ (i j : Nat) (l l' : List V), σ[i]? = some (Slot.own l) → σ[j]? = some (Slot.own l') → oa i = oa j → i = j

theorem LV.keep {env : Env} {h h' : Heap} {x : Str} {v : Value} (k : ∀ o, h.get? env.locals = some o → h'.get? env.locals = some o)
    (kc : ∀ p ∈ env.cells, ∀ o, h.get? p.2 = some o → h'.get? p.2 = some o) : LV env h x v → LV env h' x v
  | .inl ⟨a, m, n, e⟩ => .inl ⟨a, m, n.at' k, e⟩
  | .inr ⟨a, c, e, o, ho, hd⟩ => .inr ⟨a, c, e, o, kc _ (mem_of_lookup e) _ ho, hd⟩
theorem SlotOk.keep {f f' : Frz} {env : Env} {h h' : Heap} {oa : Addr} {x : Str} {sl : Slot} (kf : FLe f f') (k : ∀ o, h.get? env.locals = some o → h'.get? env.locals = some o)
    (kc : ∀ p ∈ env.cells, ∀ o, h.get? p.2 = some o → h'.get? p.2 = some o) (ko : ∀ l, sl = .own l → ∀ o, h.get? oa = some o → h'.get? oa = some o) : SlotOk f h env oa x sl → SlotOk f' h' env oa x sl := by
  cases sl with
  | unset => exact fun _ => trivial
  | val v => exact fun ⟨u, a, b⟩ => ⟨u, a.keep k kc, b.mono kf⟩
  | own l => exact fun ⟨a, vs, n, b, c⟩ => ⟨a.keep k kc, vs, n, ko l rfl _ b, c.mono kf⟩

section
variable {C : Cx} {h₀ : Heap} {f₀ : Frz} {env : Env} {X : List (Addr × Obj)} {oa : Nat → Addr} {σ : List Slot} {f : Frz} {h : Heap} {f' : Frz} {h' : Heap}

theorem SR.notTabL (S : SR C h₀ f₀ env X oa σ f h) : ∀ t ∈ C.T, env.locals ≠ t.P := fun t ht => Nat.ne_of_gt (Nat.lt_of_lt_of_le (S.t0 t ht) S.low)
theorem SR.notTabO {a} (S : SR C h₀ f₀ env X oa σ f h) (o : Owns C h₀ env f a) : ∀ t ∈ C.T, a ≠ t.P := fun t ht => Nat.ne_of_gt (Nat.lt_of_lt_of_le (S.t0 t ht) o.low)

/-- the frame's facts live on through whatever keeps what is there -/
theorem SR.step (S : SR C h₀ f₀ env X oa σ f h) (I : Inv C f' h') (st : Step C.T f h f' h') : SR C h₀ f₀ env X oa σ f' h' := by
  obtain ⟨m, hm⟩ := S.ns
  have kL : ∀ o, h.get? env.locals = some o → h'.get? env.locals = some o := fun o e => st.keep _ _ e S.notTabL
  have kC : ∀ p ∈ env.cells, ∀ o, h.get? p.2 = some o → h'.get? p.2 = some o := fun p hp o e => st.keep _ _ e (S.cell p hp).2.2.2
  have fl : ∀ a, a < h.objs.size → f a = none → f' a = none := fun a e q => (st.frz a e).trans q
  have own : ∀ a, a < h.objs.size → Owns C h₀ env f a → Owns C h₀ env f' a := fun a e q => ⟨q.low, fl _ e q.frz, q.ne, q.nc⟩
  have s1 := S.s1
  have s2 := S.s2
  have s3 := S.s3
  refine ⟨I, S.st.trans st, S.t0, ⟨m, hm.at' kL⟩, S.low, ?_, ?_, S.capart, S.cw, ?_, S.xd, ?_, ?_, s3⟩
  · obtain ⟨o, _, _, e, _⟩ := hm; exact fl _ (Heap.lt_size e) S.fL
  · intro p hp
    obtain ⟨⟨v, o, e, d⟩, a2, a3, a4⟩ := S.cell p hp
    exact ⟨⟨v, o, kC p hp o e, d⟩, fl _ (Heap.lt_size e) a2, a3, a4⟩
  · intro p hp
    obtain ⟨a1, a2⟩ := S.x p hp
    exact ⟨st.keep _ _ a1 (S.notTabO a2), own _ (Heap.lt_size a1) a2⟩
  · intro i x sl hx hs
    refine (s1 i x sl hx hs).keep (st.le S.inv) kL kC fun l hl o e => ?_
    subst hl
    exact st.keep _ _ e (S.notTabO (s2 i l hs).1)
  · intro i l hs
    obtain ⟨a1, a2, a3⟩ := s2 i l hs
    exact ⟨own _ a3 a1, a2, Nat.lt_of_lt_of_le a3 st.size⟩

noncomputable def fset (f : Frz) (a : Addr) (o : Obj) : Frz := fun b => if b = a then some o else f b
theorem fset_self (f : Frz) (a o) : fset f a o a = some o := by simp [fset]
theorem fset_ne {f : Frz} {a b o} (q : b ≠ a) : fset f a o b = f b := by simp [fset, q]
theorem fset_le {f : Frz} {a o} (q : f a = none) : FLe f (fset f a o) := fun b p e => by
  rw [fset_ne]; exact e
  rintro rfl; rw [q] at e; cases e

theorem Inv.fresh (I : Inv C f h) : f h.objs.size = none := by
  cases e : f h.objs.size with
  | none => rfl
  | some o => exact absurd (I.lt e) (Nat.lt_irrefl _)
theorem TabOk.mono {t} (x : TabOk f h t) (k : FLe f f') (k0 : f' t.P = none) (kh : ∀ o, h.get? t.P = some o → h'.get? t.P = some o) : TabOk f' h' t :=
  ⟨k0, x.2.imp (kh _) fun ⟨c', o, vs, q, a, b, r⟩ => ⟨c', o, vs, q, kh _ a, k _ _ b, r⟩⟩
theorem Inv.push (I : Inv C f h) {o : Obj} (ho : o.isFreed = false) : Inv C (fset f h.objs.size o) (h.push o) where
  sub a p e := by
    by_cases q : a = h.objs.size
    · subst q; rw [fset_self] at e; cases e; exact Heap.get?_push_size _ ho
    · rw [fset_ne q] at e; exact Heap.get?_push_of_some _ (I.sub _ _ e)
  gh a p e := fset_le I.fresh _ _ (I.gh _ _ e)
  tab t ht := (I.tab t ht).mono (fset_le I.fresh) (by rw [fset_ne (Nat.ne_of_lt (I.tlt ht))]; exact (I.tab t ht).1) fun o e => Heap.get?_push_of_some _ e
theorem Step.push (T : List Tab) (f : Frz) (h : Heap) (o : Obj) : Step T f h (fset f h.objs.size o) (h.push o) :=
  ⟨by simp, fun a p e _ => Heap.get?_push_of_some _ e, fun a l => fset_ne (Nat.ne_of_lt l)⟩
theorem Inv.pushU (I : Inv C f h) (o : Obj) : Inv C f (h.push o) where
  sub a p e := Heap.get?_push_of_some _ (I.sub _ _ e)
  gh := I.gh
  tab t ht := (I.tab t ht).mono (FLe.refl f) (I.tab t ht).1 fun o e => Heap.get?_push_of_some _ e
theorem Step.pushU (T : List Tab) (f : Frz) (h : Heap) (o : Obj) : Step T f h f (h.push o) :=
  ⟨by simp, fun a p e _ => Heap.get?_push_of_some _ e, fun a l => rfl⟩

/-- a change at one place that is not frozen -/
theorem Inv.but {b : Addr} (I : Inv C f h) (hb : f b = none) (ht : ∀ t ∈ C.T, b ≠ t.P) (hs : Heap.SameBut b h h') : Inv C f h' where
  sub a p e := (hs.2 a (by rintro rfl; rw [hb] at e; cases e)).trans (I.sub _ _ e)
  gh := I.gh
  tab t h1 := (I.tab t h1).mono (FLe.refl f) (I.tab t h1).1 fun o e => (hs.2 _ (Ne.symm (ht t h1))).trans e
theorem Step.but {b : Addr} (S : Step C.T f₀ h₀ f h) (hb : h₀.objs.size ≤ b) (hs : Heap.SameBut b h h') : Step C.T f₀ h₀ f h' :=
  ⟨hs.1 ▸ S.size, fun a o e q => (hs.2 a (Nat.ne_of_lt (Nat.lt_of_lt_of_le (Heap.lt_size e) hb))).trans (S.keep a o e q), S.frz⟩

theorem SR.get_lt (S : SR C h₀ f₀ env X oa σ f h) : env.locals < h.objs.size := by obtain ⟨m, o, _, _, e, _⟩ := S.ns; exact Heap.lt_size e

/-- a new object that a loop or a comprehension keeps to itself -/
theorem SR.addX (S : SR C h₀ f₀ env X oa σ f h) {o : Obj} (ho : o.isFreed = false) : SR C h₀ f₀ env ((h.objs.size, o) :: X) oa σ f (h.push o) := by
  have S' := S.step (S.inv.pushU o) (Step.pushU C.T f h o)
  have s1' := S.s1
  have s2' := S.s2
  refine ⟨S'.inv, S'.st, S'.t0, S'.ns, S'.low, S'.fL, S'.cell, S'.capart, S'.cw, ?_, ?_, ?_, ?_, S.s3⟩
  · intro p hp
    rcases List.mem_cons.mp hp with rfl | hp
    · refine ⟨Heap.get?_push_size _ ho, S.st.size, S.inv.fresh, Nat.ne_of_gt S.get_lt, fun p hp => ?_⟩
      obtain ⟨⟨v, q⟩, _⟩ := S.cell p hp
      exact Nat.ne_of_gt q.lt
    · exact S'.x p hp
  · refine List.nodup_cons.mpr ⟨fun hm => ?_, S.xd⟩
    obtain ⟨p, hp, e⟩ := List.mem_map.mp hm
    have := Heap.lt_size (S.x p hp).1
    rw [e] at this; exact Nat.lt_irrefl _ this
  · intro i x sl hx hs
    refine (s1' i x sl hx hs).keep (FLe.refl f) (fun o e => Heap.get?_push_of_some _ e) (fun p _ o e => Heap.get?_push_of_some _ e) fun l hl o e => Heap.get?_push_of_some _ e
  · intro i l hs
    obtain ⟨a1, a2, a3⟩ := s2' i l hs
    refine ⟨a1, fun hm => ?_, by rw [Heap.size_push]; exact Nat.lt_succ_of_lt a3⟩
    rcases List.mem_cons.mp hm with e | e
    · exact absurd e (Nat.ne_of_lt a3)
    · exact a2 e
theorem SR.dropX {p} (S : SR C h₀ f₀ env (p :: X) oa σ f h) : SR C h₀ f₀ env X oa σ f h := by
  exact ⟨S.inv, S.st, S.t0, S.ns, S.low, S.fL, S.cell, S.capart, S.cw, fun q hq => S.x q (List.mem_cons_of_mem _ hq), (List.nodup_cons.mp S.xd).2, S.s1, fun i l hs => ⟨(S.s2 i l hs).1, fun hm => (S.s2 i l hs).2.1 (List.mem_cons_of_mem _ hm), (S.s2 i l hs).2.2⟩, S.s3⟩

theorem LV.but {x v} {b : Addr} (hs : Heap.SameBut b h h') (hL : env.locals ≠ b) (hc : ∀ p ∈ env.cells, b ≠ p.2) : LV env h x v → LV env h' x v :=
  LV.keep (fun o e => (hs.2 _ hL).trans e) (fun p hp o e => (hs.2 _ (Ne.symm (hc p hp))).trans e)
theorem SlotOk.but {oa x sl} {b : Addr} (hs : Heap.SameBut b h h') (hL : env.locals ≠ b) (hc : ∀ p ∈ env.cells, b ≠ p.2) (ho : ∀ l, sl = .own l → oa ≠ b) : SlotOk f h env oa x sl → SlotOk f h' env oa x sl :=
  SlotOk.keep (FLe.refl f) (fun o e => (hs.2 _ hL).trans e) (fun p hp o e => (hs.2 _ (Ne.symm (hc p hp))).trans e) fun l hl o e => (hs.2 _ (ho l hl)).trans e

theorem SR.updX {a o o'} (S : SR C h₀ f₀ env ((a, o) :: X) oa σ f h) (hs : Heap.SameBut a h h') (e : h'.get? a = some o') : SR C h₀ f₀ env ((a, o') :: X) oa σ f h' := by
  have s1 := S.s1
  have s2 := S.s2
  have s3 := S.s3
  obtain ⟨m, hm⟩ := S.ns
  have O := (S.x _ (List.mem_cons_self ..)).2
  have hxd := List.nodup_cons.mp S.xd
  refine ⟨S.inv.but O.frz (S.notTabO O) hs, S.st.but O.low hs, S.t0, ⟨m, hm.sameBut hs (Ne.symm O.ne)⟩, S.low, S.fL, fun p hp => ?_, S.capart, S.cw, fun p hp => ?_, S.xd, fun i x sl hx hsl => ?_, fun i l hsl => ?_, s3⟩
  · obtain ⟨⟨v, q⟩, r⟩ := S.cell p hp
    exact ⟨⟨v, q.sameBut hs (Ne.symm (O.nc p hp))⟩, r⟩
  · rcases List.mem_cons.mp hp with rfl | hp
    · exact ⟨e, O⟩
    · have ne : p.1 ≠ a := fun q => hxd.1 (List.mem_map.mpr ⟨p, hp, q⟩)
      exact ⟨(hs.2 _ ne).trans (S.x p (List.mem_cons_of_mem _ hp)).1, (S.x p (List.mem_cons_of_mem _ hp)).2⟩
  · refine (s1 i x sl hx hsl).but hs (Ne.symm O.ne) O.nc fun l hl q => ?_
    subst hl
    exact (s2 i l hsl).2.1 (by rw [q]; exact List.mem_cons_self ..)
  · obtain ⟨a1, a2, a3⟩ := s2 i l hsl
    exact ⟨a1, a2, hs.1 ▸ a3⟩

end

end Mine
end
section
set_option tactic.hygienic false
open PySem PySem.Calls PySem.W PyProof.Rows
namespace Mine

theorem lookup_get {α β : Type} [DecidableEq α] : ∀ {l : List (α × β)} {i : Nat} {x : α} {k : β}, (l.map (·.1)).Nodup → l[i]? = some (x, k) → l.lookup x = some k
  | [], _, _, _, _, e => by simp at e
  | (y, q) :: r, 0, x, k, nd, e => by simp at e; obtain ⟨rfl, rfl⟩ := e; simp [List.lookup]
  | (y, q) :: r, i + 1, x, k, nd, e => by
    have nd' := List.nodup_cons.mp nd
    have e' : r[i]? = some (x, k) := by simpa using e
    have ne : x ≠ y := by
      rintro rfl
      exact nd'.1 (List.mem_map.mpr ⟨_, List.mem_of_getElem? e', rfl⟩)
    rw [List.lookup_cons, beq_eq_false_iff_ne.mpr ne]
    exact lookup_get nd'.2 e'
theorem name_ne {α β : Type} {l : List (α × β)} (nd : (l.map (·.1)).Nodup) {i j : Nat} {x y : α} {k q : β} (a : l[i]? = some (x, k)) (b : l[j]? = some (y, q)) (h : i ≠ j) : x ≠ y := by
  rintro rfl
  have a' : (l.map (·.1))[i]? = some x := by rw [List.getElem?_map, a]; rfl
  have b' : (l.map (·.1))[j]? = some x := by rw [List.getElem?_map, b]; rfl
  obtain ⟨h1, _⟩ := List.getElem?_eq_some_iff.mp a'
  exact h ((List.getElem?_inj h1 nd).mp (a'.trans b'.symm))

section
variable {C : Cx} {h₀ : Heap} {f₀ : Frz} {env : Env} {X : List (Addr × Obj)} {oa : Nat → Addr} {σ : List Slot} {f : Frz} {h : Heap} {f' : Frz} {h' : Heap} {F : Fs} {M : Model} {A : Around} {E : Value → Shared → Prop} {s : Shared}

theorem EnvOk.kindOf (K : EnvOk F env) {i : Nat} {x : Str} {k : NameKind} (hi : F.names[i]? = some (x, k)) : env.kindOf x = some k := by
  unfold Env.kindOf; rw [K.names]; exact lookup_get K.nd hi

theorem wp_load {x : Str} {u : Value} {Q : Value → Shared → Prop} (K : EnvOk F env) (lv : LV env s.heap x u) (hx : (x == ("__classdict__" : Str)) = false) (hQ : Q u s) : wpAny M A (loadName env x) Q E s := by
  rcases lv with ⟨a, m, n, e⟩ | ⟨a, c, e, ic⟩
  · exact wpAny_loadName_local K.kind a n e hQ
  · rcases a with a | a
    · exact wpAny_loadName_cell K.kind a e ic hQ
    · exact wpAny_loadName_free K.kind a e ic hQ hx

theorem set_get {α : Type} (l : List α) (i j : Nat) (a b : α) : (l.set i a)[j]? = some b → (i = j ∧ a = b) ∨ (i ≠ j ∧ l[j]? = some b) := by
  rw [List.getElem?_set]
  split
  · split
    · rintro h; cases h; exact .inl ⟨by assumption, rfl⟩
    · intro h; cases h
  · intro h; exact .inr ⟨by assumption, h⟩

/-- storing: the common part. The new slot is given by what is to hold of it -/
theorem wp_store {i : Nat} {x : Str} {k : NameKind} {u : Value} {Q : Unit → Shared → Prop} (K : EnvOk F env) (S : SR C h₀ f₀ env X oa σ f s.heap) (hi : F.names[i]? = some (x, k))
    (hk : k = .local ∨ (k = .cell ∧ F.fn = true))
    (hQ : ∀ h' t b, (b = env.locals ∨ ∃ p ∈ env.cells, b = p.2 ∧ h₀.objs.size ≤ b) → f b = none → h₀.objs.size ≤ b → (∀ t ∈ C.T, b ≠ t.P) → Heap.SameBut b s.heap h' → LV env h' x u →
      (∀ j y q w, j ≠ i → F.names[j]? = some (y, q) → LV env s.heap y w → LV env h' y w) → (∃ m, h'.Ns env.locals m) → (∀ p ∈ env.cells, ∃ v, h'.IsCell p.2 v) → Q () { s with heap := h', toks := t }) :
    wpAny M A (storeName env x u) Q E s := by
  obtain ⟨m, hm⟩ := S.ns
  have hp : ∀ g, (env.scope.kind == .class || (env.scope.kind == .module && g)) = false := fun g => by rw [K.kind]; rfl
  have kd := K.kindOf hi
  rcases hk with rfl | ⟨rfl, hfn⟩
  · refine wpAny_storeName_local kd hm (fun h' hn hs => hQ h' _ env.locals (.inl rfl) S.fL S.low S.notTabL hs (.inl ⟨kd, _, hn, by simp⟩) ?_ ⟨_, hn⟩ ?_) (hp _)
    · intro j y q w hj hy lv
      have ne : y ≠ x := name_ne K.nd hy hi hj
      rcases lv with ⟨a, m', n', e⟩ | ⟨a, c, e, ic⟩
      · refine .inl ⟨a, _, hn, ?_⟩
        have : m' = m := by
          obtain ⟨o, es, ep, e1, e2, _, e3⟩ := n'
          obtain ⟨o', es', ep', e1', e2', _, e3'⟩ := hm
          rw [e1] at e1'; cases e1'; rw [e2] at e2'; cases e2'
          funext z; rw [← e3, ← e3']
        subst this
        simp only [ne, if_false]; exact e
      · exact .inr ⟨a, c, e, ic.sameBut hs (S.cell _ (mem_of_lookup e)).2.2.1⟩
    · intro p hp
      obtain ⟨⟨v, q⟩, _, r, _⟩ := S.cell p hp
      exact ⟨v, q.sameBut hs r⟩
  · obtain ⟨c, hc⟩ := Option.isSome_iff_exists.mp (K.cells x (.inl kd))
    have mc := mem_of_lookup hc
    obtain ⟨⟨v₀, ic⟩, fc, cL, cT⟩ := S.cell _ mc
    have lo := S.cw (K.fn.trans hfn) _ mc
    refine wpAny_storeName_cell K.kind kd hc ic fun h' ic' hs => hQ h' _ c (.inr ⟨_, mc, rfl, lo⟩) fc lo cT hs (.inr ⟨.inl kd, c, hc, ic'⟩) ?_ ⟨m, hm.sameBut hs (Ne.symm cL)⟩ ?_
    · intro j y q w hj hy lv
      have ne : y ≠ x := name_ne K.nd hy hi hj
      rcases lv with ⟨a, m', n', e⟩ | ⟨a, c', e, ic''⟩
      · exact .inl ⟨a, m', n'.sameBut hs (Ne.symm cL), e⟩
      · refine .inr ⟨a, c', e, ic''.sameBut hs ?_⟩
        rintro rfl
        exact ne (name_of_addr S.capart (mem_of_lookup e) mc)
    · intro p hp
      by_cases q : p.2 = c
      · exact ⟨_, q ▸ ic'⟩
      · obtain ⟨⟨v, q1⟩, _⟩ := S.cell p hp
        exact ⟨v, q1.sameBut hs q⟩

theorem wp_storeVal {i : Nat} {x : Str} {k : NameKind} {v : V} {u : Value} {Q : Unit → Shared → Prop} (K : EnvOk F env) (S : SR C h₀ f₀ env X oa σ f s.heap) (hi : F.names[i]? = some (x, k))
    (hk : k = .local ∨ (k = .cell ∧ F.fn = true)) (R : Rep f v u) (hQ : ∀ h' t, SR C h₀ f₀ env X oa (σ.set i (.val v)) f h' → Q () { s with heap := h', toks := t }) : wpAny M A (storeName env x u) Q E s := by
  refine wp_store K S hi hk fun h' t b hb fb lb tb hs lv oth hns hcell => hQ h' t ?_
  have s1 := S.s1
  have s2 := S.s2
  have s3 := S.s3
  have own_ne : ∀ a, Owns C h₀ env f a → a ≠ b := fun a O => by
    rcases hb with rfl | ⟨p, hp, rfl, _⟩
    · exact O.ne
    · exact O.nc p hp
  refine ⟨S.inv.but fb tb hs, S.st.but lb hs, S.t0, hns, S.low, S.fL, fun p hp => ⟨hcell p hp, (S.cell p hp).2⟩, S.capart, S.cw, fun p hp => ⟨(hs.2 _ (own_ne _ (S.x p hp).2)).trans (S.x p hp).1, (S.x p hp).2⟩, S.xd, ?_, ?_, ?_⟩
  · rintro j ⟨y, q⟩ sl hy hsl
    have hy' : F.names[j]? = some (y, q) := by rw [← K.names]; exact hy
    rcases set_get _ _ _ _ _ hsl with ⟨rfl, rfl⟩ | ⟨ne, hsl'⟩
    · have := hi.symm.trans hy'; cases this
      exact ⟨u, lv, R⟩
    · have := s1 j _ sl hy hsl'
      cases sl with
      | unset => trivial
      | val v' => obtain ⟨w, a, r⟩ := this; exact ⟨w, oth j y q w (Ne.symm ne) hy' a, r⟩
      | own l => obtain ⟨a, vs, n, e, r⟩ := this; exact ⟨oth j y q _ (Ne.symm ne) hy' a, vs, n, (hs.2 _ (own_ne _ (s2 j l hsl').1)).trans e, r⟩
  · intro j l hsl
    rcases set_get _ _ _ _ _ hsl with ⟨_, e⟩ | ⟨_, hsl'⟩
    · cases e
    · obtain ⟨a1, a2, a3⟩ := s2 j l hsl'; exact ⟨a1, a2, hs.1 ▸ a3⟩
  · intro j j' l l' h1 h2
    rcases set_get _ _ _ _ _ h1 with ⟨_, e⟩ | ⟨_, h1'⟩
    · cases e
    · rcases set_get _ _ _ _ _ h2 with ⟨_, e⟩ | ⟨_, h2'⟩
      · cases e
      · exact s3 j j' l l' h1' h2'

theorem wp_storeOwn {i : Nat} {x : Str} {k : NameKind} {l : List V} {a : Addr} {vs : List Value} {n : Nat} {Q : Unit → Shared → Prop} (K : EnvOk F env) (S : SR C h₀ f₀ env ((a, listObj vs n) :: X) oa σ f s.heap) (hi : F.names[i]? = some (x, k))
    (hk : k = .local ∨ (k = .cell ∧ F.fn = true)) (R : RepAll f l vs) (hQ : ∀ h' t, SR C h₀ f₀ env X (fun j => if j = i then a else oa j) (σ.set i (.own l)) f h' → Q () { s with heap := h', toks := t }) : wpAny M A (storeName env x (.ref a)) Q E s := by
  refine wp_store K S hi hk fun h' t b hb fb lb tb hs lv oth hns hcell => hQ h' t ?_
  have s1 := S.s1
  have s2 := S.s2
  have s3 := S.s3
  have own_ne : ∀ a, Owns C h₀ env f a → a ≠ b := fun a O => by
    rcases hb with rfl | ⟨p, hp, rfl, _⟩
    · exact O.ne
    · exact O.nc p hp
  have Oa := S.x _ (List.mem_cons_self ..)
  have nx := List.nodup_cons.mp S.xd
  refine ⟨S.inv.but fb tb hs, S.st.but lb hs, S.t0, hns, S.low, S.fL, fun p hp => ⟨hcell p hp, (S.cell p hp).2⟩, S.capart, S.cw, fun p hp => ?_, nx.2, ?_, ?_, ?_⟩
  · have := S.x p (List.mem_cons_of_mem _ hp)
    exact ⟨(hs.2 _ (own_ne _ this.2)).trans this.1, this.2⟩
  · rintro j ⟨y, q⟩ sl hy hsl
    have hy' : F.names[j]? = some (y, q) := by rw [← K.names]; exact hy
    rcases set_get _ _ _ _ _ hsl with ⟨rfl, rfl⟩ | ⟨ne, hsl'⟩
    · have := hi.symm.trans hy'; cases this
      simp only [if_true]
      exact ⟨lv, vs, n, (hs.2 _ (own_ne _ Oa.2)).trans Oa.1, R⟩
    · simp only [if_neg (Ne.symm ne)]
      have := s1 j _ sl hy hsl'
      cases sl with
      | unset => trivial
      | val v' => obtain ⟨w, a, r⟩ := this; exact ⟨w, oth j y q w (Ne.symm ne) hy' a, r⟩
      | own l => obtain ⟨a, vs, n, e, r⟩ := this; exact ⟨oth j y q _ (Ne.symm ne) hy' a, vs, n, (hs.2 _ (own_ne _ (s2 j l hsl').1)).trans e, r⟩
  · intro j l' hsl
    rcases set_get _ _ _ _ _ hsl with ⟨rfl, e⟩ | ⟨ne, hsl'⟩
    · simp only [if_true]
      exact ⟨Oa.2, nx.1, hs.1 ▸ Heap.lt_size Oa.1⟩
    · simp only [if_neg (Ne.symm ne)]
      obtain ⟨a1, a2, a3⟩ := s2 j l' hsl'; exact ⟨a1, fun hm => a2 (List.mem_cons_of_mem _ hm), hs.1 ▸ a3⟩
  · intro j j' l1 l2 h1 h2 he
    rcases set_get _ _ _ _ _ h1 with ⟨rfl, _⟩ | ⟨n1, h1'⟩ <;> rcases set_get _ _ _ _ _ h2 with ⟨rfl, _⟩ | ⟨n2, h2'⟩
    · rfl
    · simp only [if_true, if_neg (Ne.symm n2)] at he
      exact absurd (by rw [← he]; exact List.mem_cons_self ..) (s2 _ _ h2').2.1
    · simp only [if_true, if_neg (Ne.symm n1)] at he
      exact absurd (by rw [he]; exact List.mem_cons_self ..) (s2 _ _ h1').2.1
    · simp only [if_neg (Ne.symm n1), if_neg (Ne.symm n2)] at he
      exact s3 j j' _ _ h1' h2' he

/-- a name's list of the frame's own: changed in place -/
theorem SR.own {i : Nat} {x : Str} {k : NameKind} {l : List V} (K : EnvOk F env) (S : SR C h₀ f₀ env X oa σ f h) (hi : F.names[i]? = some (x, k)) (hs : σ[i]? = some (.own l)) :
    ∃ a vs n, a = oa i ∧ LV env h x (.ref a) ∧ h.get? a = some (listObj vs n) ∧ RepAll f l vs ∧
      (∀ h' vs' n' l', Heap.SameBut a h h' → h'.get? a = some (listObj vs' n') → RepAll f l' vs' → SR C h₀ f₀ env X oa (σ.set i (.own l')) f h') ∧
      (SR C h₀ f₀ env X oa (σ.set i (.val (.list l))) (fset f a (listObj vs n)) h ∧ Rep (fset f a (listObj vs n)) (.list l) (.ref a) ∧ FLe f (fset f a (listObj vs n))) := by
  have s1 := S.s1
  have s2 := S.s2
  have s3 := S.s3
  have hi' : env.scope.names[i]? = some (x, k) := by rw [K.names]; exact hi
  obtain ⟨lv, vs, n, e, R⟩ := s1 i _ _ hi' hs
  obtain ⟨O, nx, lt⟩ := s2 i l hs
  have oin : ∀ j l', σ[j]? = some (.own l') → j ≠ i → oa j ≠ oa i := fun j l' hj ne q => ne (s3 j i _ _ hj hs q)
  have hnt := S.notTabO O
  refine ⟨oa i, vs, n, rfl, lv, e, R, fun h' vs' n' l' hb he R' => ?_, ?_, ?_, fset_le O.frz⟩
  · obtain ⟨m, hm⟩ := S.ns
    refine ⟨S.inv.but O.frz hnt hb, S.st.but O.low hb, S.t0, ⟨m, hm.sameBut hb (Ne.symm O.ne)⟩, S.low, S.fL, fun p hp => ?_, S.capart, S.cw, fun p hp => ?_, S.xd, ?_, ?_, ?_⟩
    · obtain ⟨⟨v, q⟩, r⟩ := S.cell p hp
      exact ⟨⟨v, q.sameBut hb (Ne.symm (O.nc p hp))⟩, r⟩
    · exact ⟨(hb.2 _ (fun q => nx (List.mem_map.mpr ⟨p, hp, q⟩))).trans (S.x p hp).1, (S.x p hp).2⟩
    · rintro j y sl hy hsl
      rcases set_get _ _ _ _ _ hsl with ⟨rfl, rfl⟩ | ⟨ne, hsl'⟩
      · rw [hi'] at hy; cases hy
        exact ⟨lv.but hb (Ne.symm O.ne) O.nc, vs', n', he, R'⟩
      · exact (s1 j y sl hy hsl').but hb (Ne.symm O.ne) O.nc fun l1 h1 => oin j l1 (h1 ▸ hsl') (Ne.symm ne)
    · intro j l1 hsl
      rcases set_get _ _ _ _ _ hsl with ⟨rfl, _⟩ | ⟨_, hsl'⟩
      · exact ⟨O, nx, hb.1 ▸ lt⟩
      · obtain ⟨a1, a2, a3⟩ := s2 j l1 hsl'; exact ⟨a1, a2, hb.1 ▸ a3⟩
    · intro j j' l1 l2 h1 h2 q
      have w : ∀ j l1, (σ.set i (Slot.own l'))[j]? = some (Slot.own l1) → ∃ l2, σ[j]? = some (Slot.own l2) := fun j l1 h1 => by
        rcases set_get _ _ _ _ _ h1 with ⟨rfl, _⟩ | ⟨_, h1'⟩
        · exact ⟨_, hs⟩
        · exact ⟨_, h1'⟩
      obtain ⟨l1', h1'⟩ := w j l1 h1
      obtain ⟨l2', h2'⟩ := w j' l2 h2
      exact s3 j j' _ _ h1' h2' q
  · have le := fset_le (o := listObj vs n) O.frz
    have fn : ∀ b, b ≠ oa i → f b = none → fset f (oa i) (listObj vs n) b = none := fun b q r => by rw [fset_ne q]; exact r
    have on : ∀ b, b ≠ oa i → Owns C h₀ env f b → Owns C h₀ env (fset f (oa i) (listObj vs n)) b := fun b q r => ⟨r.low, fn b q r.frz, r.ne, r.nc⟩
    refine ⟨⟨fun b o q => ?_, fun b o q => le _ _ (S.inv.gh _ _ q), fun t ht => ?_⟩, ⟨S.st.size, S.st.keep, fun b hb => ?_⟩, S.t0, S.ns, S.low, fn _ (Ne.symm O.ne) S.fL, fun p hp => ?_, S.capart, S.cw, fun p hp => ?_, S.xd, ?_, ?_, ?_⟩
    · by_cases q1 : b = oa i
      · subst q1; rw [fset_self] at q; cases q; exact e
      · rw [fset_ne q1] at q; exact S.inv.sub _ _ q
    · exact (S.inv.tab t ht).mono le (fn _ (Ne.symm (hnt t ht)) (S.inv.tab t ht).1) fun _ q => q
    · rw [fset_ne (Nat.ne_of_lt (Nat.lt_of_lt_of_le hb O.low))]; exact S.st.frz b hb
    · obtain ⟨a1, a2, a3⟩ := S.cell p hp
      exact ⟨a1, fn _ (Ne.symm (O.nc p hp)) a2, a3⟩
    · exact ⟨(S.x p hp).1, on _ (fun q => nx (List.mem_map.mpr ⟨p, hp, q⟩)) (S.x p hp).2⟩
    · rintro j y sl hy hsl
      rcases set_get _ _ _ _ _ hsl with ⟨rfl, rfl⟩ | ⟨ne, hsl'⟩
      · rw [hi'] at hy; cases hy
        exact ⟨_, lv, .list ⟨_, fset_self .., rfl, n, rfl⟩ (RepAll.mono le R)⟩
      · exact (s1 j y sl hy hsl').keep le (fun _ q => q) (fun _ _ _ q => q) fun _ _ _ q => q
    · intro j l1 hsl
      rcases set_get _ _ _ _ _ hsl with ⟨_, e'⟩ | ⟨ne, hsl'⟩
      · cases e'
      · obtain ⟨a1, a2, a3⟩ := s2 j l1 hsl'; exact ⟨on _ (oin j l1 hsl' (Ne.symm ne)) a1, a2, a3⟩
    · intro j j' l1 l2 h1 h2
      rcases set_get _ _ _ _ _ h1 with ⟨_, e'⟩ | ⟨_, h1'⟩
      · cases e'
      · rcases set_get _ _ _ _ _ h2 with ⟨_, e'⟩ | ⟨_, h2'⟩
        · cases e'
        · exact s3 j j' l1 l2 h1' h2'
  · exact .list ⟨_, fset_self .., rfl, n, rfl⟩ (RepAll.mono (fset_le O.frz) R)

theorem SR.val {i : Nat} {x : Str} {k : NameKind} {v : V} (K : EnvOk F env) (S : SR C h₀ f₀ env X oa σ f h) (hi : F.names[i]? = some (x, k)) (hs : σ[i]? = some (.val v)) : ∃ u, LV env h x u ∧ Rep f v u := by
  have s1 := S.s1
  have s2 := S.s2
  have s3 := S.s3
  exact s1 i _ _ (by rw [K.names]; exact hi) hs
end
end Mine
end
section
set_option tactic.hygienic false
open PySem PySem.Calls PySem.W PyProof.Rows
namespace Mine

noncomputable def Ev (C : Cx) (n : Nat) (F : Fs) (e : PySem.Expr) (σ : List Slot) (v : V) (σ' : List Slot) : Prop :=
  ∀ {A env s f X oa h₀ f₀ E} {Q : Value → Shared → Prop}, Room n A → EnvOk F env → 0 < s.toks → SR C h₀ f₀ env X oa σ f s.heap →
    (∀ h' k f' u, 0 < k → FLe f f' → SR C h₀ f₀ env X oa σ' f' h' → Rep f' v u → Q u { s with heap := h', toks := k }) →
    wpAny (model C.prog C.w) A (eval e env) Q E s
noncomputable def It (C : Cx) (n : Nat) (F : Fs) (e : PySem.Expr) (σ : List Slot) (b : Bool) (σ' : List Slot) : Prop :=
  ∀ {A env s f X oa h₀ f₀ E} {Q : Bool → Shared → Prop}, Room n A → EnvOk F env → 0 < s.toks → SR C h₀ f₀ env X oa σ f s.heap →
    (∀ h' k f', 0 < k → FLe f f' → SR C h₀ f₀ env X oa σ' f' h' → Q b { s with heap := h', toks := k }) →
    wpAny (model C.prog C.w) A (isTrue e env (eval e env)) Q E s
noncomputable def Evs (C : Cx) (n : Nat) (F : Fs) (es : List PySem.Expr) (σ : List Slot) (vs : List V) (σ' : List Slot) : Prop :=
  ∀ {A env s f X oa h₀ f₀ E pos} {Q : List Value → Shared → Prop}, Room n A → EnvOk F env → 0 < s.toks → SR C h₀ f₀ env X oa σ f s.heap →
    (∀ h' k f' us, 0 < k → FLe f f' → SR C h₀ f₀ env X oa σ' f' h' → RepAll f' vs us → Q us { s with heap := h', toks := k }) →
    wpAny (model C.prog C.w) A (spliced (backTo pos (starEach es env))) Q E s

inductive Fl where
  | next | brk | cont | ret (v : V)
inductive FlRep (f : Frz) : Fl → Flow → Prop
  | next : FlRep f .next .next
  | brk : FlRep f .brk .brk
  | cont : FlRep f .cont .cont
  | ret {v u} : Rep f v u → FlRep f (.ret v) (.ret u)
noncomputable def Ex1 (C : Cx) (n : Nat) (F : Fs) (st : Stmt) (σ : List Slot) (fl : Fl) (σ' : List Slot) : Prop :=
  ∀ {A env s f X oa h₀ f₀ E} {Q : Flow → Shared → Prop}, Room n A → EnvOk F env → 0 < s.toks → SR C h₀ f₀ env X oa σ f s.heap →
    (∀ h' k f' u oa', 0 < k → FLe f f' → SR C h₀ f₀ env X oa' σ' f' h' → FlRep f' fl u → Q u { s with heap := h', toks := k }) →
    wpAny (model C.prog C.w) A (exec st env) Q E s
noncomputable def Ex (C : Cx) (n : Nat) (F : Fs) (ss : List Stmt) (σ : List Slot) (fl : Fl) (σ' : List Slot) : Prop :=
  ∀ {A env s f X oa h₀ f₀ E} {Q : Flow → Shared → Prop}, Room n A → EnvOk F env → 0 < s.toks → SR C h₀ f₀ env X oa σ f s.heap →
    (∀ h' k f' u oa', 0 < k → FLe f f' → SR C h₀ f₀ env X oa' σ' f' h' → FlRep f' fl u → Q u { s with heap := h', toks := k }) →
    wpAny (model C.prog C.w) A (execs ss env) Q E s
/-- storing a value by a target -/
noncomputable def As (C : Cx) (F : Fs) (t : PySem.Expr) (v : V) (σ σ' : List Slot) : Prop :=
  ∀ {A env s f X oa h₀ f₀ E u} {Q : Unit → Shared → Prop}, Room 0 A → EnvOk F env → 0 < s.toks → SR C h₀ f₀ env X oa σ f s.heap → Rep f v u →
    (∀ h' k f', 0 < k → FLe f f' → SR C h₀ f₀ env X oa σ' f' h' → Q () { s with heap := h', toks := k }) →
    wpAny (model C.prog C.w) A (assign t env u) Q E s

section
variable {C : Cx} {n : Nat} {F : Fs} {σ σ' σ₁ σ₂ σ₃ : List Slot} {v a b c : V}

theorem Rep.none_inv {f u} : Rep f .none u → u = .none := fun h => by cases h; rfl
theorem Rep.bool_inv {f b u} : Rep f (.bool b) u → u = .bool b := fun h => by cases h; rfl
theorem Rep.int_inv {f i u} : Rep f (.int i) u → ∃ t, u = .int i t := fun h => by cases h; exact ⟨_, rfl⟩
theorem Rep.str_inv {f i u} : Rep f (.str i) u → ∃ t, u = .str i t := fun h => by cases h; exact ⟨_, rfl⟩
theorem Rep.val_inv {f i u} : Rep f (.val i) u → u = i := fun h => by cases h; rfl
theorem Rep.tup_inv {f l u} : Rep f (.tup l) u → ∃ a vs, u = .ref a ∧ FTup f a vs ∧ RepAll f l vs := fun h => by cases h; exact ⟨_, _, rfl, by assumption, by assumption⟩
theorem Rep.list_inv {f l u} : Rep f (.list l) u → ∃ a vs, u = .ref a ∧ FList f a vs ∧ RepAll f l vs := fun h => by cases h; exact ⟨_, _, rfl, by assumption, by assumption⟩
theorem Rep.mat_inv {f x sp u} : Rep f (.mat x sp) u → ∃ a, u = .ref a ∧ FMat f a x sp := fun h => by cases h; exact ⟨_, rfl, by assumption⟩
theorem Rep.rng_inv {f i j k u} : Rep f (.rng i j k) u → ∃ a t w v, u = .ref a ∧ f a = some { cls := .type "range", data := .fields #[.int i t, .int j w, .int k v] } := fun h => by cases h; exact ⟨_, _, _, _, rfl, by assumption⟩
theorem RepAll.nil_inv {f us} : RepAll f [] us → us = [] := fun h => by cases h; rfl
theorem RepAll.cons_inv {f v l us} : RepAll f (v :: l) us → ∃ u vs, us = u :: vs ∧ Rep f v u ∧ RepAll f l vs := fun h => by cases h; exact ⟨_, _, rfl, by assumption, by assumption⟩

theorem Ev.name (i : Nat) {x : Str} {k : NameKind} {pos : Pos} (hi : F.names[i]? = some (x, k)) (hs : σ[i]? = some (.val v))
    (h1 : (x == ("__classdict__" : Str)) = false) (h2 : (x == ("__debug__" : Str)) = false) : Ev C n F (.Name x pos) σ v σ := by
  intro A env s f X oa h₀ f₀ E Q r K h0 S hQ
  obtain ⟨u, lv, R⟩ := S.val K hi hs
  exact wpAny_Name (wp_load K lv h1 (hQ s.heap s.toks f u h0 (FLe.refl f) S R)) h2
theorem Ev.freeze (i : Nat) {x : Str} {k : NameKind} {pos : Pos} {l : List V} (hi : F.names[i]? = some (x, k)) (hs : σ[i]? = some (.own l))
    (h1 : (x == ("__classdict__" : Str)) = false) (h2 : (x == ("__debug__" : Str)) = false) : Ev C n F (.Name x pos) σ (.list l) (σ.set i (.val (.list l))) := by
  intro A env s f X oa h₀ f₀ E Q r K h0 S hQ
  obtain ⟨a, vs, m, _, lv, _, _, _, S', R, le⟩ := S.own K hi hs
  exact wpAny_Name (wp_load K lv h1 (hQ s.heap s.toks _ _ h0 le S' R)) h2
theorem Ev.glob (i : Nat) {x : Str} {pos : Pos} {u : Value} (hi : F.names[i]? = some (x, .globalImplicit)) (hg : C.mg x = some u) (h2 : (x == ("__debug__" : Str)) = false) :
    Ev C n F (.Name x pos) σ (.val u) σ := by
  intro A env s f X oa h₀ f₀ E Q r K h0 S hQ
  refine Name_function_global K.kind (K.kindOf hi) ?_ h2
  refine loadGlobal_global (mg := C.mg) ?_ hg (hQ s.heap s.toks f u h0 (FLe.refl f) S (.val _))
  rw [K.globals]; exact C.glob.at' fun o e => S.inv.ghost e
theorem Ev.bltn (i : Nat) {x : Str} {pos : Pos} {u : Value} (hi : F.names[i]? = some (x, .globalImplicit)) (hg : C.mg x = none) (hb : C.mb x = some u) (h2 : (x == ("__debug__" : Str)) = false) :
    Ev C n F (.Name x pos) σ (.val u) σ := by
  intro A env s f X oa h₀ f₀ E Q r K h0 S hQ
  refine Name_function_global K.kind (K.kindOf hi) ?_ h2
  refine loadGlobal_builtin (mg := C.mg) (mb := C.mb) ?_ hg ?_ hb (hQ s.heap s.toks f u h0 (FLe.refl f) S (.val _))
  · rw [K.globals]; exact C.glob.at' fun o e => S.inv.ghost e
  · rw [K.bltn]; exact C.bltn.at' fun o e => S.inv.ghost e
theorem Ev.int {i : Int} {k : Nat} {pos : Pos} : Ev C n F (.Constant (.int i) k pos) σ (.int i) σ := by
  intro A env s f X oa h₀ f₀ E Q r K h0 S hQ
  exact wpAny_Constant_int (hQ s.heap _ f _ (Nat.lt_succ_of_lt h0) (FLe.refl f) S (.int ..))
theorem Ev.str {i : Str} {k : Nat} {pos : Pos} : Ev C n F (.Constant (.str i) k pos) σ (.str i) σ := by
  intro A env s f X oa h₀ f₀ E Q r K h0 S hQ
  exact Constant_str (hQ s.heap _ f _ (Nat.lt_succ_of_lt h0) (FLe.refl f) S (.str ..))
theorem Ev.none {k : Nat} {pos : Pos} : Ev C n F (.Constant .none k pos) σ .none σ := by
  intro A env s f X oa h₀ f₀ E Q r K h0 S hQ
  exact wpAny_pure (hQ s.heap s.toks f _ h0 (FLe.refl f) S .none)
theorem Ev.bool {i : Bool} {k : Nat} {pos : Pos} : Ev C n F (.Constant (.bool i) k pos) σ (.bool i) σ := by
  intro A env s f X oa h₀ f₀ E Q r K h0 S hQ
  exact wpAny_pure (hQ s.heap s.toks f _ h0 (FLe.refl f) S (.bool _))

theorem Ev.binop {l r : PySem.Expr} {op : Operator} {pos : Pos} (hl : Ev C n F l σ a σ₁) (hr : Ev C n F r σ₁ b σ₂) (ho : Op2 C n (binaryOp op) a b v) : Ev C n F (.BinOp l op r pos) σ v σ₂ := by
  intro A env s f X oa h₀ f₀ E Q rm K h0 S hQ
  refine wpAny_BinOp (hl rm K h0 S fun h1 k1 f1 u1 p1 l1 S1 R1 => hr rm K p1 S1 fun h2 k2 f2 u2 p2 l2 S2 R2 => ho rm p2 S2.inv (R1.mono l2) R2 fun h3 k3 f3 u3 p3 I3 st R3 => ?_)
  exact hQ h3 k3 f3 u3 p3 (l1.trans (l2.trans (st.le S2.inv))) (S2.step I3 st) R3
theorem Ev.cmp {l r : PySem.Expr} {op : CmpOp} {pos : Pos} (hl : Ev C n F l σ a σ₁) (hr : Ev C n F r σ₁ b σ₂) (ho : Op2 C n (compareOp op) a b v)
    (hm : behindInMarks op r = false) : Ev C n F (.Compare l [op] [r] pos) σ v σ₂ := by
  intro A env s f X oa h₀ f₀ E Q rm K h0 S hQ
  refine wpAny_Compare1 (hl rm K h0 S fun h1 k1 f1 u1 p1 l1 S1 R1 => hr rm K p1 S1 fun h2 k2 f2 u2 p2 l2 S2 R2 => ho rm p2 S2.inv (R1.mono l2) R2 fun h3 k3 f3 u3 p3 I3 st R3 => ?_) hm
  exact hQ h3 k3 f3 u3 p3 (l1.trans (l2.trans (st.le S2.inv))) (S2.step I3 st) R3
theorem It.cmp {l r : PySem.Expr} {op : CmpOp} {pos : Pos} {b' : Bool} (hl : Ev C n F l σ a σ₁) (hr : Ev C n F r σ₁ b σ₂) (ho : Op2 C n (compareOp op) a b (.bool b'))
    (hm : behindInMarks op r = false) : It C n F (.Compare l [op] [r] pos) σ b' σ₂ := by
  intro A env s f X oa h₀ f₀ E Q rm K h0 S hQ
  refine wpAny_isTrue_Compare1 (hl rm K h0 S fun h1 k1 f1 u1 p1 l1 S1 R1 => hr rm K p1 S1 fun h2 k2 f2 u2 p2 l2 S2 R2 => ho rm p2 S2.inv (R1.mono l2) R2 fun h3 k3 f3 u3 p3 I3 st R3 => ?_) hm
  rw [R3.bool_inv]
  exact wpAny_truthy_bool (hQ h3 k3 f3 p3 (l1.trans (l2.trans (st.le S2.inv))) (S2.step I3 st))
theorem Ev.unop {l : PySem.Expr} {op : UnaryOp} {pos : Pos} (hl : Ev C n F l σ a σ₁) (ho : Op1 C n (unaryOp op) a v) : Ev C n F (.UnaryOp op l pos) σ v σ₁ := by
  intro A env s f X oa h₀ f₀ E Q rm K h0 S hQ
  rw [arm_eval_UnaryOp]
  refine wpAny_bind (hl rm K h0 S fun h1 k1 f1 u1 p1 l1 S1 R1 => wpAny_bind (wpAny_standAt (wpAny_holding (ho rm p1 S1.inv R1 fun h3 k3 f3 u3 p3 I3 st R3 => ?_))))
  exact hQ h3 k3 f3 u3 p3 (l1.trans (st.le S1.inv)) (S1.step I3 st) R3
theorem It.notx {x : PySem.Expr} {pos : Pos} {b : Bool} (h : It C n F x σ b σ₁) : It C n F (.UnaryOp .Not x pos) σ (!b) σ₁ := by
  intro A env s f X oa h₀ f₀ E Q rm K h0 S hQ
  rw [arm_isTrue_UnaryOp]
  exact wpAny_bind (h rm K h0 S fun h1 k1 f1 p1 l1 S1 => wpAny_pure (hQ h1 k1 f1 p1 l1 S1))
/-- and, or as a test -/
noncomputable def Its (C : Cx) (n : Nat) (F : Fs) (op : BoolOp) (es : List PySem.Expr) (σ : List Slot) (b : Bool) (σ' : List Slot) : Prop :=
  ∀ {A env s f X oa h₀ f₀ E} {Q : Bool → Shared → Prop}, Room n A → EnvOk F env → 0 < s.toks → SR C h₀ f₀ env X oa σ f s.heap →
    (∀ h' k f', 0 < k → FLe f f' → SR C h₀ f₀ env X oa σ' f' h' → Q b { s with heap := h', toks := k }) →
    wpAny (model C.prog C.w) A (allTrue op es env) Q E s
theorem Its.nil {op : BoolOp} : Its C n F op [] σ (op == .And) σ := by
  intro A env s f X oa h₀ f₀ E Q rm K h0 S hQ
  exact wpAny_pure (hQ s.heap s.toks f h0 (FLe.refl f) S)
theorem Its.stopAnd {x : PySem.Expr} {rest : List PySem.Expr} (h : It C n F x σ false σ₁) : Its C n F .And (x :: rest) σ false σ₁ := by
  intro A env s f X oa h₀ f₀ E Q rm K h0 S hQ
  rw [arm_allTrue_cons]
  exact wpAny_bind (h rm K h0 S fun h1 k1 f1 p1 l1 S1 => wpAny_pure (hQ h1 k1 f1 p1 l1 S1))
theorem Its.goAnd {x : PySem.Expr} {rest : List PySem.Expr} {b : Bool} (h : It C n F x σ true σ₁) (hr : Its C n F .And rest σ₁ b σ₂) : Its C n F .And (x :: rest) σ b σ₂ := by
  intro A env s f X oa h₀ f₀ E Q rm K h0 S hQ
  rw [arm_allTrue_cons]
  exact wpAny_bind (h rm K h0 S fun h1 k1 f1 p1 l1 S1 => hr rm K p1 S1 fun h2 k2 f2 p2 l2 S2 => hQ h2 k2 f2 p2 (l1.trans l2) S2)
theorem Its.stopOr {x : PySem.Expr} {rest : List PySem.Expr} (h : It C n F x σ true σ₁) : Its C n F .Or (x :: rest) σ true σ₁ := by
  intro A env s f X oa h₀ f₀ E Q rm K h0 S hQ
  rw [arm_allTrue_cons]
  exact wpAny_bind (h rm K h0 S fun h1 k1 f1 p1 l1 S1 => wpAny_pure (hQ h1 k1 f1 p1 l1 S1))
theorem Its.goOr {x : PySem.Expr} {rest : List PySem.Expr} {b : Bool} (h : It C n F x σ false σ₁) (hr : Its C n F .Or rest σ₁ b σ₂) : Its C n F .Or (x :: rest) σ b σ₂ := by
  intro A env s f X oa h₀ f₀ E Q rm K h0 S hQ
  rw [arm_allTrue_cons]
  exact wpAny_bind (h rm K h0 S fun h1 k1 f1 p1 l1 S1 => hr rm K p1 S1 fun h2 k2 f2 p2 l2 S2 => hQ h2 k2 f2 p2 (l1.trans l2) S2)
theorem It.boolop {op : BoolOp} {es : List PySem.Expr} {pos : Pos} {b : Bool} (h : Its C n F op es σ b σ') : It C n F (.BoolOp op es pos) σ b σ' := by
  intro A env s f X oa h₀ f₀ E Q rm K h0 S hQ
  exact h rm K h0 S hQ
/-- a test that is a plain value -/
theorem It.plain {e : PySem.Expr} {b : Bool} (he : ∀ env w, isTrue e env w = (do let v ← w; standAt e.pos; holding [v] (truthy v))) (h : Ev C n F e σ v σ₁) (ht : Tr C n v b) : It C n F e σ b σ₁ := by
  intro A env s f X oa h₀ f₀ E Q rm K h0 S hQ
  rw [he]
  exact wpAny_bind (h rm K h0 S fun h1 k1 f1 u1 p1 l1 S1 R1 => wpAny_bind (wpAny_standAt (wpAny_holding (ht rm p1 S1.inv R1 fun k2 p2 => hQ h1 k2 f1 p2 l1 S1))))
theorem Ev.ifT {t x y : PySem.Expr} {pos : Pos} (ht : It C n F t σ true σ₁) (h : Ev C n F x σ₁ v σ₂) : Ev C n F (.IfExp t x y pos) σ v σ₂ := by
  intro A env s f X oa h₀ f₀ E Q rm K h0 S hQ
  rw [arm_eval_IfExp]
  exact wpAny_bind (ht rm K h0 S fun h1 k1 f1 p1 l1 S1 => h rm K p1 S1 fun h2 k2 f2 u p2 l2 S2 R => hQ h2 k2 f2 u p2 (l1.trans l2) S2 R)
theorem Ev.ifF {t x y : PySem.Expr} {pos : Pos} (ht : It C n F t σ false σ₁) (h : Ev C n F y σ₁ v σ₂) : Ev C n F (.IfExp t x y pos) σ v σ₂ := by
  intro A env s f X oa h₀ f₀ E Q rm K h0 S hQ
  rw [arm_eval_IfExp]
  exact wpAny_bind (ht rm K h0 S fun h1 k1 f1 p1 l1 S1 => h rm K p1 S1 fun h2 k2 f2 u p2 l2 S2 R => hQ h2 k2 f2 u p2 (l1.trans l2) S2 R)
/-- x or y, x and y as a value: two parts -/
theorem Ev.orT {x y : PySem.Expr} {pos : Pos} (h : Ev C n F x σ v σ₁) (ht : Tr C n v true) : Ev C n F (.BoolOp .Or [x, y] pos) σ v σ₁ := by
  intro A env s f X oa h₀ f₀ E Q rm K h0 S hQ
  show wpAny _ A (boolOp pos .Or [eval x env, eval y env]) _ _ _
  exact wpAny_bind (h rm K h0 S fun h1 k1 f1 u p1 l1 S1 R => wpAny_bind (wpAny_standAt (wpAny_bind (wpAny_holding (ht rm p1 S1.inv R fun k2 p2 => wpAny_pure (hQ h1 k2 f1 u p2 l1 S1 R))))))
theorem Ev.andF {x y : PySem.Expr} {pos : Pos} (h : Ev C n F x σ v σ₁) (ht : Tr C n v false) : Ev C n F (.BoolOp .And [x, y] pos) σ v σ₁ := by
  intro A env s f X oa h₀ f₀ E Q rm K h0 S hQ
  show wpAny _ A (boolOp pos .And [eval x env, eval y env]) _ _ _
  exact wpAny_bind (h rm K h0 S fun h1 k1 f1 u p1 l1 S1 R => wpAny_bind (wpAny_standAt (wpAny_bind (wpAny_holding (ht rm p1 S1.inv R fun k2 p2 => wpAny_pure (hQ h1 k2 f1 u p2 l1 S1 R))))))
theorem Ev.andT {x y : PySem.Expr} {pos : Pos} (h : Ev C n F x σ a σ₁) (ht : Tr C n a true) (hy : Ev C n F y σ₁ v σ₂) : Ev C n F (.BoolOp .And [x, y] pos) σ v σ₂ := by
  intro A env s f X oa h₀ f₀ E Q rm K h0 S hQ
  show wpAny _ A (boolOp pos .And [eval x env, eval y env]) _ _ _
  exact wpAny_bind (h rm K h0 S fun h1 k1 f1 u p1 l1 S1 R => wpAny_bind (wpAny_standAt (wpAny_bind (wpAny_holding (ht rm p1 S1.inv R fun k2 p2 =>
    hy rm K p2 S1 fun h3 k3 f3 u3 p3 l3 S3 R3 => hQ h3 k3 f3 u3 p3 (l1.trans l3) S3 R3)))))
end
end Mine
end
section
set_option tactic.hygienic false
open PySem PySem.Calls PySem.W PyProof.Rows
namespace Mine
section
variable {C : Cx} {n : Nat} {F : Fs} {σ σ' σ₁ σ₂ σ₃ : List Slot} {v a b c : V}

theorem Evs.nil : Evs C n F [] σ [] σ := by
  intro A env s f X oa h₀ f₀ E pos Q r K h0 S hQ
  exact spliced_nil (hQ s.heap s.toks f [] h0 (FLe.refl f) S .nil)
theorem Evs.cons {e : PySem.Expr} {rest : List PySem.Expr} {vs : List V} (he : Ev C n F e σ v σ₁) (hr : Evs C n F rest σ₁ vs σ₂)
    (hs : ∀ env, starEach (e :: rest) env = (false, eval e env) :: starEach rest env := by intro _; rfl) : Evs C n F (e :: rest) σ (v :: vs) σ₂ := by
  intro A env s f X oa h₀ f₀ E pos Q r K h0 S hQ
  rw [hs]
  refine spliced_cons (he r K h0 S fun h1 k1 f1 u1 p1 l1 S1 R1 => hr r K p1 S1 fun h2 k2 f2 us p2 l2 S2 R2 => ?_)
  exact hQ h2 k2 f2 _ p2 (l1.trans l2) S2 (.cons (R1.mono l2) R2)

theorem FList.is {f h a vs} (I : Inv C f h) (x : FList f a vs) : h.IsList a vs.toArray := let ⟨o, e, r⟩ := x; ⟨o, I.sub _ _ e, r⟩
theorem FTup.is {f h a vs} (I : Inv C f h) (x : FTup f a vs) : IsTup h a vs.toArray := let ⟨o, e, r⟩ := x; ⟨o, I.sub _ _ e, r⟩
theorem FTup.is' {f h a vs} (I : Inv C f h) (x : FTup f a vs) : h.IsTuple a vs.toArray := let ⟨o, e, r⟩ := x; ⟨o, I.sub _ _ e, r⟩

theorem Ev.list {es : List PySem.Expr} {pos : Pos} {vs : List V} (h : Evs C n F es σ vs σ₁) (hsz : vs.length ≤ 1000000 := by decide) : Ev C n F (.List es pos) σ (.list vs) σ₁ := by
  intro A env s f X oa h₀ f₀ E Q r K h0 S hQ
  refine List_ (h r K h0 S fun h1 k1 f1 us p1 l1 S1 R1 => wpAny_newObj_type ?_ ?_)
  · have I' := S1.inv.push (o := { cls := .type "list", data := .seq us.toArray }) rfl
    have st := Step.push C.T f1 h1 { cls := .type "list", data := .seq us.toArray }
    exact hQ _ _ _ _ p1 (l1.trans (st.le S1.inv)) (S1.step I' st) (.list ⟨_, fset_self .., rfl, _, rfl⟩ (RepAll.mono (st.le S1.inv) R1))
  · show us.toArray.size ≤ sizeLine
    rw [List.size_toArray, ← R1.length, sizeLine_eq]; omega
theorem Ev.tuple {es : List PySem.Expr} {k : Nat} {pos : Pos} {vs : List V} (h : Evs C n F es σ vs σ₁) (hsz : vs.length ≤ 1000000 := by decide) : Ev C n F (.Tuple es k pos) σ (.tup vs) σ₁ := by
  intro A env s f X oa h₀ f₀ E Q r K h0 S hQ
  refine Tuple_ (h r K h0 S fun h1 k1 f1 us p1 l1 S1 R1 => wpAny_newObj_type ?_ ?_)
  · have I' := S1.inv.push (o := { cls := .type "tuple", data := .seq us.toArray }) rfl
    have st := Step.push C.T f1 h1 { cls := .type "tuple", data := .seq us.toArray }
    exact hQ _ _ _ _ p1 (l1.trans (st.le S1.inv)) (S1.step I' st) (.tup ⟨_, fset_self .., rfl, _, rfl⟩ (RepAll.mono (st.le S1.inv) R1))
  · show us.toArray.size ≤ sizeLine
    rw [List.size_toArray, ← R1.length, sizeLine_eq]; omega

/-- a def of the text, or a type or a built-in function: called by its value -/
theorem Ev.callF {fx : PySem.Expr} {e₀ : PySem.Expr} {args : List PySem.Expr} {pos : Pos} {fa : Addr} {o : Obj} {fd : FuncData} {vs : List V} (hf : Ev C n F fx σ (.val (.ref fa)) σ₁) (ha : Evs C n F (e₀ :: args) σ₁ vs σ₂)
    (hp : Pu C n (fun us => PySem.call (.ref fa) us) vs v) (ho : C.G.get? fa = some o) (hd : o.data = .func fd)
    (he : ∀ env, eval (.Call fx (e₀ :: args) [] pos) env = (do callWith pos (← eval fx env) [] (backTo pos (starEach (e₀ :: args) env)) []) := by intro _; rfl)
    (hs : ∀ env, starEach (e₀ :: args) env = (false, eval e₀ env) :: starEach args env := by intro _; rfl) :
    Ev C n F (.Call fx (e₀ :: args) [] pos) σ v σ₂ := by
  intro A env s f X oa h₀ f₀ E Q r K h0 S hQ
  rw [he]
  refine wpAny_bind (hf r K h0 S fun h1 k1 f1 u1 p1 l1 S1 R1 => ?_)
  rw [R1.val_inv]
  have hh := fun (Q' : List Value → Shared → Prop) => ha (s := { s with heap := h1, toks := k1 }) (E := E) (pos := pos) (Q := Q') r K p1 S1
  rw [hs] at hh ⊢
  refine callWith_function (o := o) (fd := fd) (evalArgs_plain (hh _ fun h2 k2 f2 us p2 l2 S2 R2 => ⟨⟨S2.inv.ghost ho, hd⟩, ?_⟩))
  refine hp r p2 S2.inv R2 fun h3 k3 f3 u3 p3 I3 st R3 => ?_
  exact hQ h3 k3 f3 u3 p3 (l1.trans (l2.trans (st.le S2.inv))) (S2.step I3 st) R3
theorem wp_callWith_type {M : Model} {A : Around} {E : Value → Shared → Prop} {s : Shared} {pos : Pos} {id : String} {first : List Value} {args : List (Bool × Sem Value)} {Q : Value → Shared → Prop} (hplain : args.any (·.1) = false)
    (h : wpAny M A (evalArgs (.type id) true args []) (fun a s₁ => wpAny M A (PySem.call (.type id) (first ++ a.pos) a.kw) Q E s₁) E s) :
    wpAny M A (callWith pos (.type id) first args []) Q E s := by
  unfold callWith
  refine wpAny_bind (wpAny_holding (wpAny_mono h (fun a s₁ h₁ => wpAny_bind (wpAny_standAt ?_)) fun _ _ x => x))
  simp only [hplain, List.any_nil, Bool.or_false]
  refine wpAny_bind (wpAny_pure ?_)
  exact wpAny_bind (wpAny_mono h₁ (fun r s₂ hr => wpAny_bind (wpAny_holding (wpAny_point (wpAny_pure hr)))) fun _ _ x => x)
theorem Ev.callB {fx : PySem.Expr} {e₀ : PySem.Expr} {args : List PySem.Expr} {pos : Pos} {fv : Value} {vs : List V} (hf : Ev C n F fx σ (.val fv) σ₁) (ha : Evs C n F (e₀ :: args) σ₁ vs σ₂)
    (hp : Pu C n (fun us => PySem.call fv us) vs v) (hfv : (∃ id, fv = .builtin id) ∨ ∃ id, fv = .type id)
    (he : ∀ env, eval (.Call fx (e₀ :: args) [] pos) env = (do callWith pos (← eval fx env) [] (backTo pos (starEach (e₀ :: args) env)) []) := by intro _; rfl)
    (hs : ∀ env, starEach (e₀ :: args) env = (false, eval e₀ env) :: starEach args env := by intro _; rfl)
    (hpl : ∀ env, (backTo pos (starEach (e₀ :: args) env)).any (·.1) = false := by intro _; rfl) :
    Ev C n F (.Call fx (e₀ :: args) [] pos) σ v σ₂ := by
  intro A env s f X oa h₀ f₀ E Q r K h0 S hQ
  rw [he]
  refine wpAny_bind (hf r K h0 S fun h1 k1 f1 u1 p1 l1 S1 R1 => ?_)
  rw [R1.val_inv]
  have hh := fun (Q' : List Value → Shared → Prop) => ha (s := { s with heap := h1, toks := k1 }) (E := E) (pos := pos) (Q := Q') r K p1 S1
  have hpl' := hpl env
  rw [hs] at hh hpl' ⊢
  rcases hfv with ⟨id, rfl⟩ | ⟨id, rfl⟩
  · refine callWith_builtin hpl' (evalArgs_plain (hh _ fun h2 k2 f2 us p2 l2 S2 R2 => ?_))
    refine hp r p2 S2.inv R2 fun h3 k3 f3 u3 p3 I3 st R3 => ?_
    exact hQ h3 k3 f3 u3 p3 (l1.trans (l2.trans (st.le S2.inv))) (S2.step I3 st) R3
  · refine wp_callWith_type hpl' (evalArgs_plain (hh _ fun h2 k2 f2 us p2 l2 S2 R2 => ?_))
    refine hp r p2 S2.inv R2 fun h3 k3 f3 u3 p3 I3 st R3 => ?_
    exact hQ h3 k3 f3 u3 p3 (l1.trans (l2.trans (st.le S2.inv))) (S2.step I3 st) R3

structure MInfo (T : String) (name : Str) (id : String) : Prop where
  pa : PlainAttrs T
  slot : PySem.Slot T name id
  ty : typeOf (.builtin id) = pure (.type "method_descriptor")
noncomputable def HasT (C : Cx) (v : V) (T : String) : Prop := ∀ {s : Shared} {f u}, Inv C f s.heap → Rep f v u → s.TypeIs u T ∧ (∀ a, u = .ref a → ∃ ob, s.heap.get? a = some ob ∧ ob.dict = none)
theorem HasT.str {x} : HasT C (.str x) "str" := fun _ R => by
  obtain ⟨t, rfl⟩ := R.str_inv; exact ⟨typeIs_str _ _ _, nofun⟩
theorem HasT.mat {x sp} : HasT C (.mat x sp) "re.Match" := fun I R => by
  obtain ⟨a, rfl, o, vs, ta, t, e, h1, h2, _⟩ := R.mat_inv
  exact ⟨⟨o, I.sub _ _ e, h1⟩, fun b hb => by cases hb; exact ⟨o, I.sub _ _ e, h2⟩⟩
theorem HasT.val {fa : Addr} {o : Obj} {T : String} (h : C.G.get? fa = some o) (hc : o.cls = .type T) (hd : o.dict = none) : HasT C (.val (.ref fa)) T := fun I R => by
  rw [R.val_inv]
  exact ⟨⟨o, I.ghost h, hc⟩, fun b hb => by cases hb; exact ⟨o, I.ghost h, hd⟩⟩

theorem Ev.meth {o : PySem.Expr} {name : Str} {apos pos : Pos} {args : List PySem.Expr} {vs : List V} {T id : String} (ho : Ev C n F o σ a σ₁) (ha : Evs C n F args σ₁ vs σ₂) (hT : HasT C a T) (m : MInfo T name id)
    (hp : Pu C n (fun us => PySem.call (.builtin id) us) (a :: vs) v)
    (hbase : ∀ env, attributeBase o name env (eval o env) = eval o env := by intro _; rfl)
    (hfew : ∀ env, ((backTo pos (starEach args env)).all (fun x => !x.1) && (backToKw pos (keywordEach [] env)).all (fun x => x.1.isSome)
      && decide (args.length + ([] : List Keyword).length + (if ([] : List Keyword).isEmpty then 0 else 1) < 30)) = true := by intro _; rfl)
    (hline : (apos.endLine == pos.line) = true := by rfl)
    (hev : ∀ env, evalArgs (.builtin id) true (backTo pos (starEach args env)) [] = (do let vs ← spliced (backTo pos (starEach args env)); pure ⟨vs, []⟩) ∨ args ≠ [] ∧ ∃ x r, starEach args env = (false, x) :: r := by intro _; first | (right; exact ⟨nofun, _, _, rfl⟩) | (left; rfl))
    (hpl : ∀ env, (backTo pos (starEach args env)).any (·.1) = false := by intro _; rfl) :
    Ev C n F (.Call (.Attribute o name apos) args [] pos) σ v σ₂ := by
  intro A env s f X oa h₀ f₀ E Q r K h0 S hQ
  refine wpAny_Call_method_lateS (hbase env) (hfew env) hline (ho r K h0 S fun h1 k1 f1 u1 p1 l1 S1 R1 => ?_)
  obtain ⟨t1, t2⟩ := hT (s := { s with heap := h1, toks := k1 }) S1.inv R1
  refine ⟨T, id, m.pa, m.slot, m.ty, t1, t2, callWith_builtin (hpl env) ?_⟩
  have fin : wpAny (model C.prog C.w) A (spliced (backTo pos (starEach args env))) (fun us s₁ => wpAny (model C.prog C.w) A (PySem.call (.builtin id) ([u1] ++ us) []) Q E s₁) E { s with heap := h1, toks := k1 } := by
    refine ha r K p1 S1 fun h2 k2 f2 us p2 l2 S2 R2 => hp r p2 S2.inv (.cons (R1.mono l2) R2) fun h3 k3 f3 u3 p3 I3 st R3 => ?_
    exact hQ h3 k3 f3 u3 p3 (l1.trans (l2.trans (st.le S2.inv))) (S2.step I3 st) R3
  rcases hev env with e | ⟨_, x, r', e⟩
  · rw [e]; exact wpAny_bind (wpAny_mono fin (fun us s' h => wpAny_pure h) fun _ _ h => h)
  · rw [e] at fin ⊢; exact evalArgs_plain fin

theorem Ev.sub {value slice : PySem.Expr} {pos : Pos} (hv : Ev C n F value σ a σ₁) (hi : Ev C n F slice σ₁ b σ₂) (ho : Op2 C n (subscriptTail value slice) a b v) : Ev C n F (.Subscript value slice pos) σ v σ₂ := by
  intro A env s f X oa h₀ f₀ E Q rm K h0 S hQ
  refine Subscript_ (hv rm K h0 S fun h1 k1 f1 u1 p1 l1 S1 R1 => hi rm K p1 S1 fun h2 k2 f2 u2 p2 l2 S2 R2 => ho rm p2 S2.inv (R1.mono l2) R2 fun h3 k3 f3 u3 p3 I3 st R3 => ?_)
  exact hQ h3 k3 f3 u3 p3 (l1.trans (l2.trans (st.le S2.inv))) (S2.step I3 st) R3

/-- an index into a list, a tuple, a text -/
theorem Op2.idxL {value slice : PySem.Expr} {l : List V} {i : Int} (h0 : 0 ≤ i) (hv : l[i.toNat]? = some v) (hf : i < 2 ^ 63)
    (hs : ∀ a k u, subscripted slice false (.ref a) (.int k u) = operate [.ref a, .int k u] (getItem (.ref a) (.int k u)) := by intro _ _ _; rfl) : Op2 C n (subscriptTail value slice) (.list l) (.int i) v := by
  intro A s f x y E Q rm t0 I Rx Ry hQ
  obtain ⟨a, vs, rfl, fl, R⟩ := Rx.list_inv
  obtain ⟨t, rfl⟩ := Ry.int_inv
  obtain ⟨u, hu, Ru⟩ := R.get hv
  have hL := fl.is I
  exact tail_any hL.typeIs slot_list_getitem.lookup (wpAny_getItem_list hL h0 hf (by simpa using hu) (hQ s.heap s.toks f u t0 I (Step.refl ..) Ru)) (hs ..)
theorem Op2.idxLn {value slice : PySem.Expr} {l : List V} {i : Int} (h0 : i < 0) (h1 : -(l.length : Int) ≤ i) (hv : l[(i + l.length).toNat]? = some v) (hf : -(2 ^ 63) ≤ i)
    (hs : ∀ a k u, subscripted slice false (.ref a) (.int k u) = operate [.ref a, .int k u] (getItem (.ref a) (.int k u)) := by intro _ _ _; rfl) : Op2 C n (subscriptTail value slice) (.list l) (.int i) v := by
  intro A s f x y E Q rm t0 I Rx Ry hQ
  obtain ⟨a, vs, rfl, fl, R⟩ := Rx.list_inv
  obtain ⟨t, rfl⟩ := Ry.int_inv
  obtain ⟨u, hu, Ru⟩ := R.get hv
  have hL := fl.is I
  have hl : l.length = vs.length := R.length
  exact tail_any hL.typeIs slot_list_getitem.lookup (wpAny_getItem_list_neg hL h0 (by simpa [← hl] using h1) hf (by simpa [← hl] using hu) (hQ s.heap s.toks f u t0 I (Step.refl ..) Ru)) (hs ..)
theorem Op2.idxT {value slice : PySem.Expr} {l : List V} {i : Int} {j : Nat} (hj : seqIndex? i l.length = some j) (hv : l[j]? = some v) (hi : -(2 ^ 63) ≤ i ∧ i < 2 ^ 63)
    (hs : ∀ a k u, subscripted slice false (.ref a) (.int k u) = operate [.ref a, .int k u] (getItem (.ref a) (.int k u)) := by intro _ _ _; rfl) : Op2 C n (subscriptTail value slice) (.tup l) (.int i) v := by
  intro A s f x y E Q rm t0 I Rx Ry hQ
  obtain ⟨a, vs, rfl, fl, R⟩ := Rx.tup_inv
  obtain ⟨t, rfl⟩ := Ry.int_inv
  obtain ⟨u, hu, Ru⟩ := R.get hv
  exact item_tupleT (fl.is I) hi.1 hi.2 (by rw [← R.length]; exact hj) hu (hQ s.heap s.toks f u t0 I (Step.refl ..) Ru) (hs ..)
end
end Mine
end
section
set_option tactic.hygienic false
open PySem PySem.Calls PySem.W PyProof.Rows
namespace Mine

/-- a text as the list of its signs -/
noncomputable abbrev S (l : List Nat) : Str := ⟨l.toArray⟩
theorem S_append (a b : List Nat) : S a ++ S b = S (a ++ b) := by
  show Str.append (S a) (S b) = _
  simp [Str.append, S]
theorem S_length (a : List Nat) : (S a).length = a.length := by simp [Str.length]
theorem S_inj {a b : List Nat} : S a = S b ↔ a = b := by
  constructor
  · intro h; have := congrArg (fun s => s.cps.toList) h; simpa [S] using this
  · rintro rfl; rfl
theorem S_beq (a b : List Nat) : (S a == S b) = (a == b) := by
  cases h : (a == b) with
  | true => rw [beq_iff_eq.mp h]; exact beq_self_eq_true _
  | false => exact beq_eq_false_iff_ne.mpr fun e => beq_eq_false_iff_ne.mp h (S_inj.mp e)

noncomputable def cut {α : Type} (l : List α) (lo hi : Option Int) : List α := (l.take (hi.elim l.length Int.toNat)).drop (lo.elim 0 Int.toNat)

noncomputable def Evp (C : Cx) (n : Nat) (F : Fs) (e : Option PySem.Expr) (σ : List Slot) (v : Option Int) (σ' : List Slot) : Prop :=
  ∀ {A env s f X oa h₀ f₀ E} {Q : Value → Shared → Prop}, Room n A → EnvOk F env → 0 < s.toks → SR C h₀ f₀ env X oa σ f s.heap →
    (∀ h' k f' u, 0 < k → FLe f f' → SR C h₀ f₀ env X oa σ' f' h' → IsPart u v → Q u { s with heap := h', toks := k }) →
    wpAny (model C.prog C.w) A (evalPart e env) Q E s

theorem cut_clip {α : Type} (l : List α) (lo hi : Option Int) : cut l lo hi = (l.drop (min (lo.elim 0 Int.toNat) l.length)).take (min (hi.elim l.length Int.toNat) l.length - min (lo.elim 0 Int.toNat) l.length) := by
  unfold cut
  generalize hi.elim l.length Int.toNat = b
  generalize lo.elim 0 Int.toNat = a
  rw [List.drop_take]
  rcases Nat.le_total a l.length with h | h
  · rw [Nat.min_eq_left h, List.take_eq_take_iff, List.length_drop, Nat.sub_min_sub_right, Nat.sub_min_sub_right, Nat.min_assoc, Nat.min_self]
  · rw [Nat.min_eq_right h, List.drop_eq_nil_of_le h, List.drop_eq_nil_of_le (Nat.le_refl _), List.take_nil, List.take_nil]
theorem clip_nn {i : Int} (h : 0 ≤ i) (n : Nat) : max 0 (min (if i < 0 then i + n else i) (n : Int)) = ((min i.toNat n : Nat) : Int) := by
  rw [if_neg (Int.not_lt.mpr h), Int.max_eq_right (Int.le_min.mpr ⟨h, Int.natCast_nonneg n⟩)]
  have e := Int.toNat_of_nonneg h
  rcases Nat.le_total i.toNat n with q | q
  · rw [Nat.min_eq_left q, Int.min_eq_left (by rw [← e]; exact Int.ofNat_le.mpr q), e]
  · rw [Nat.min_eq_right q, Int.min_eq_right (by rw [← e]; exact Int.ofNat_le.mpr q)]
theorem seqIdx {i : Int} {n : Nat} (h : 0 ≤ i) (hl : i.toNat < n) : seqIndex? i n = some i.toNat := by
  unfold seqIndex?
  have h2 : i < (n : Int) := by rw [← Int.toNat_of_nonneg h]; exact Int.ofNat_lt.mpr hl
  rw [if_neg (Int.not_lt.mpr h)]
  show (if (decide (0 ≤ i) && decide (i < (n : Int))) = true then some i.toNat else none) = _
  rw [decide_eq_true h, decide_eq_true h2]; rfl
theorem idx_clip (n : Nat) (lo hi : Option Int) (h1 : ∀ i, lo = some i → 0 ≤ i) (h2 : ∀ i, hi = some i → 0 ≤ i) :
    Builtin.Str.strSliceIndices lo hi 1 n = sliceRange ((min (lo.elim 0 Int.toNat) n : Nat) : Int) ((min (hi.elim n Int.toNat) n : Nat) : Int) 1 := by
  unfold Builtin.Str.strSliceIndices
  have e1 : ∀ (v : Option Int) (d : Nat), (∀ i, v = some i → 0 ≤ i) → (match v with | none => ((min d n : Nat) : Int) | some i => if (1 : Int) > 0 then max 0 (min (if i < 0 then i + n else i) (n : Int)) else max (-1) (min (if i < 0 then i + n else i) ((n : Int) - 1))) = ((min (v.elim d Int.toNat) n : Nat) : Int) := fun v d h => by
    cases v with
    | none => rfl
    | some i => show (if (1 : Int) > 0 then _ else _) = _; rw [if_pos (by decide)]; exact clip_nn (h i rfl) n
  have a1 := e1 lo 0 h1
  have a2 := e1 hi n h2
  rw [Nat.zero_min] at a1
  rw [Nat.min_self] at a2
  rw [← a1, ← a2]
  rfl
theorem range_len (a b : Nat) : (sliceRange (a : Int) (b : Int) 1).length = b - a := by
  unfold sliceRange
  simp
  omega
theorem str_cut (x : Str) (lo hi : Option Int) (h1 : ∀ i, lo = some i → 0 ≤ i) (h2 : ∀ i, hi = some i → 0 ≤ i) :
    (Builtin.Str.strSliceIndices lo hi 1 x.length).filterMap (x.cps[·]?) = cut x.cps.toList lo hi := by
  have hl : x.cps.toList.length = x.length := by simp [Str.length]
  rw [cut_clip, hl]
  have e := idx_clip x.length lo hi h1 h2
  have ha : min (lo.elim 0 Int.toNat) x.length ≤ x.length := Nat.min_le_right ..
  have hb : min (hi.elim x.length Int.toNat) x.length ≤ x.length := Nat.min_le_right ..
  rw [e]
  generalize min (lo.elim 0 Int.toNat) x.length = a at *
  generalize min (hi.elim x.length Int.toNat) x.length = b at *
  by_cases hab : a ≤ b
  · rw [← StrLaws.sliced_plain x hab hb]
    congr 1
    have e2 := idx_clip x.length (some (a : Int)) (some (b : Int)) (fun i h => by cases h; exact Int.natCast_nonneg a) (fun i h => by cases h; exact Int.natCast_nonneg b)
    rw [show (some (a : Int)).elim 0 Int.toNat = a from rfl, show (some (b : Int)).elim x.length Int.toNat = b from rfl, Nat.min_eq_left ha, Nat.min_eq_left hb] at e2
    exact e2.symm
  · have : sliceRange (a : Int) (b : Int) 1 = [] := by unfold sliceRange; simp; omega
    rw [this, show b - a = 0 from by omega]; simp
theorem cut_len {α : Type} (l : List α) (lo hi : Option Int) : (cut l lo hi).length ≤ l.length := by
  unfold cut; simp; omega

section
variable {C : Cx} {n : Nat} {F : Fs} {σ σ' σ₁ σ₂ σ₃ : List Slot} {v a b c : V}

set_option tactic.hygienic true in
theorem sliceMade_post {l : List Nat} {t : Tok} {lo hi : Option (Int × Tok)} {s : Shared} {Q : Value → Shared → Prop} (h1 : ∀ i, lo.map (·.1) = some i → 0 ≤ i) (h2 : ∀ i, hi.map (·.1) = some i → 0 ≤ i) (hsz : l.length ≤ 16000000)
    (h0 : 0 < s.toks) (hQ : ∀ t' k, 0 < k → Q (.str (S (cut l (lo.map (·.1)) (hi.map (·.1)))) t') { s with toks := k }) : (sliceMade (S l) t lo hi Option.none).post Q s := by
  have e := str_cut (S l) (lo.map (·.1)) (hi.map (·.1)) h1 h2
  have ep : slicePicked (S l) lo hi Option.none = Builtin.Str.strSliceIndices (lo.map (·.1)) (hi.map (·.1)) 1 (S l).length := rfl
  unfold sliceMade
  split
  · rename_i h
    have hlen : (slicePicked (S l) lo hi Option.none).length = (S l).length := by simpa using h
    rw [ep, idx_clip _ _ _ h1 h2, range_len, S_length] at hlen
    have : cut l (lo.map (·.1)) (hi.map (·.1)) = l := by
      rw [cut_clip]
      by_cases h0 : l.length = 0
      · rw [List.eq_nil_of_length_eq_zero h0]; simp
      · rw [show min ((lo.map (·.1)).elim 0 Int.toNat) l.length = 0 from by omega, List.drop_zero]
        exact List.take_of_length_le (by omega)
    have q := hQ t s.toks h0
    rw [this] at q
    exact q
  · rw [ep, e]
    refine ⟨?_, hQ _ _ (Nat.lt_succ_of_lt h0)⟩
    have := cut_len l (lo.map (·.1)) (hi.map (·.1))
    show (cut l _ _).toArray.size ≤ sizeLine
    rw [List.size_toArray, sizeLine_eq]; omega

theorem Evp.none : Evp C n F Option.none σ Option.none σ := by
  intro A env s f X oa h₀ f₀ E Q r K h0 S hQ
  exact wpAny_pure (hQ s.heap s.toks f _ h0 (FLe.refl f) S .none)
theorem Evp.some {e : PySem.Expr} {i : Int} (h : Ev C n F e σ (.int i) σ₁) : Evp C n F (Option.some e) σ (Option.some i) σ₁ := by
  intro A env s f X oa h₀ f₀ E Q r K h0 S hQ
  refine h r K h0 S fun h1 k1 f1 u1 p1 l1 S1 R1 => ?_
  obtain ⟨t, rfl⟩ := R1.int_inv
  exact hQ h1 k1 f1 _ p1 l1 S1 (.int i t)
theorem IsPart.inv {u : Value} {v : Option Int} (h : IsPart u v) : ∃ l : Option (Int × Tok), u = partValue l ∧ l.map (·.1) = v := by
  cases h with
  | none => exact ⟨Option.none, rfl, rfl⟩
  | int i t => exact ⟨Option.some (i, t), rfl, rfl⟩

theorem Rep.newList {f : Frz} {a b : Addr} {l vs} (hb : a = b) (R : RepAll (fset f a { cls := .type "list", data := .seq vs.toArray }) l vs) : Rep (fset f a { cls := .type "list", data := .seq vs.toArray }) (.list l) (.ref b) :=
  hb ▸ .list ⟨_, fset_self .., rfl, _, rfl⟩ R
theorem RepAll.cut {f : Frz} {l vs} (R : RepAll f l vs) (i j : Option Int) : RepAll f (cut l i j) (cut vs i j) := by
  unfold Mine.cut
  rw [← R.length]
  exact RepAll.drop _ (RepAll.take _ R)
/-- all but the last -/
theorem Ev.slInit {value : PySem.Expr} {hi : PySem.Expr} {p pos : Pos} {l : List V} (hv : Ev C n F value σ (.list l) σ₁) (h2 : Ev C n F hi σ₁ (.int (-1)) σ₂) (hsz : l.length ≤ 16000000)
    (ht : ∀ o r, letTemporaryGo value o r = pure () := by intro _ _; rfl) :
    Ev C n F (.Subscript value (.Slice Option.none (Option.some hi) Option.none p) pos) σ (.list l.dropLast) σ₂ := by
  intro A env s f X oa h₀ f₀ E Q r K h0 Z hQ
  refine wpAny_Subscript_list_slice (hv r K h0 Z fun g1 k1 f1 u1 p1 l1 S1 R1 => wpAny_pure (Evp.some h2 r K p1 S1 fun g3 k3 f3 u3 p3 l3 S3 R3 => ?_)) ht
  obtain ⟨a, vs, rfl, fl, RA⟩ := R1.list_inv
  have fl3 := FList.mono l3 fl
  have RA3 := RepAll.mono l3 RA
  refine ⟨a, vs.toArray, Option.none, Option.some (-1), rfl, fl3.is S3.inv, by rw [List.size_toArray, ← RA.length, sizeLine_eq]; omega, .none, R3, ?_⟩
  have e : slicePick vs.toArray Option.none (Option.some (-1)) Option.none = vs.dropLast.toArray := by
    rw [show (-1 : Int) = -((1 : Nat) : Int) from rfl, slicePick_butLast _ 1 (Nat.le_refl _), List.size_toArray, List.toList_toArray, List.dropLast_eq_take]
  rw [e]
  have I1 := S3.inv.pushU { cls := .type "slice", data := .fields #[Value.none, u3, Value.none] }
  have st1 := Step.pushU C.T f3 g3 { cls := .type "slice", data := .fields #[Value.none, u3, Value.none] }
  have I2 := I1.push (o := { cls := .type "list", data := .seq vs.dropLast.toArray }) rfl
  have st2 := Step.push C.T f3 (g3.push { cls := .type "slice", data := .fields #[Value.none, u3, Value.none] }) { cls := .type "list", data := .seq vs.dropLast.toArray }
  have st := st1.trans st2
  have le := st.le S3.inv
  refine hQ _ k3 (fset f3 (g3.push _).objs.size _) (.ref (g3.objs.size + 1)) p3 (l1.trans (l3.trans le)) (S3.step I2 st) (Rep.newList (Heap.size_push ..) (RepAll.mono le ?_))
  · rw [List.dropLast_eq_take, List.dropLast_eq_take, ← RA3.length]; exact RepAll.take _ RA3

theorem Op2.idxS {value slice : PySem.Expr} {l : List Nat} {i : Int} {c : Nat} (h0 : 0 ≤ i) (hc : l[i.toNat]? = Option.some c) (hf : i < 2 ^ 63)
    (hs : ∀ x t k u, subscripted slice false (.str x t) (.int k u) = operate [.str x t, .int k u] (getItem (.str x t) (.int k u)) := by intro _ _ _ _; rfl) : Op2 C n (subscriptTail value slice) (.str (S l)) (.int i) (.str (S [c])) := by
  intro A s f x y E Q rm t0 I Rx Ry hQ
  obtain ⟨t, rfl⟩ := Rx.str_inv
  obtain ⟨u, rfl⟩ := Ry.int_inv
  have hl : i.toNat < l.length := (List.getElem?_eq_some_iff.mp hc).1
  refine tail_any (typeIs_str _ _ _) F.slot_str_getitem.lookup (getItem_str ?_ (c := c) ?_ (hQ s.heap _ f _ (Nat.lt_succ_of_lt t0) I (Step.refl ..) (.str ..))) (hs ..)
  · simp; omega
  · have : seqIndex? i (S l).length = Option.some i.toNat := by
      rw [S_length]; exact seqIdx h0 hl
    rw [this]
    simpa using hc
end
end Mine
end
section
set_option tactic.hygienic false
open PySem PySem.Calls PySem.W PyProof.Rows
namespace Mine

theorem runs_size {M : Model} {Γ : Ctx} {p : Pos} {t : Sem Fin} {fs : List Frame} {s s' : Shared} {e : End} (h : Runs M Γ p t fs s e s') : s.heap.objs.size ≤ s'.heap.objs.size := by
  induction h <;> (try simp only [Shared.setGen, Heap.size_push, Heap.size_after_update] at *) <;> omega
theorem wakes_size {M : Model} {Γ : Ctx} {p : Pos} {g : Nat} {r : Resume} {s s' : Shared} {res : GenResult} (h : Wakes M Γ p g r s res s') : s.heap.objs.size ≤ s'.heap.objs.size := by
  unfold Wakes at h
  split at h
  · exact h.elim
  · split at h
    · obtain ⟨e₁, s₁, hr, _, _, rfl⟩ := h; exact (runs_size hr : (s.setGen g .running).heap.objs.size ≤ s₁.heap.objs.size)
    · rw [h.2]; exact Nat.le_refl _
    · rw [h.2]; exact Nat.le_refl _
  · obtain ⟨e₁, s₁, hr, _, _, rfl⟩ := h; exact (runs_size hr : (s.setGen g .running).heap.objs.size ≤ s₁.heap.objs.size)
  · rw [h.2]; exact Nat.le_refl _
  · rw [h.2]; exact Nat.le_refl _
theorem wp_size {α : Type} (M : Model) (Γ : Ctx) (n : Nat) (t : Sem α) : ∀ (Q : α → Pos → Shared → Prop) (E : Value → Pos → Shared → Prop) (p : Pos) (s : Shared), n ≤ s.heap.objs.size → Sem.wp M Γ t Q E p s →
    Sem.wp M Γ t (fun a p' s' => n ≤ s'.heap.objs.size ∧ Q a p' s') (fun e p' s' => n ≤ s'.heap.objs.size ∧ E e p' s') p s := by
  induction t with
  | pure a => intro Q E p s hn h; exact ⟨hn, h⟩
  | raise e => intro Q E p s hn h; exact ⟨hn, h⟩
  | unsupported _ => intro Q E p s _ h; exact h
  | finish _ => intro Q E p s _ h; exact h
  | rule _ k ih => intro Q E p s hn h; exact ih () Q E p s hn h
  | «at» p' k ih => intro Q E p s hn h; exact ih () Q E p' s hn h
  | load a _ k ih => intro Q E p s hn h; obtain ⟨o, ho, h⟩ := h; exact ⟨o, ho, ih o Q E p s hn h⟩
  | update a _ f k ih => intro Q E p s hn h; exact ⟨h.1, ih () Q E p _ (by simpa using hn) h.2⟩
  | loadIfAlive a k ih => intro Q E p s hn h; exact ih _ Q E p s hn h
  | point _ k ih => intro Q E p s hn h; exact ih () Q E p s hn h
  | register _ _ => intro Q E p s _ h; exact h
  | alloc o k ih => intro Q E p s hn h; exact ih _ Q E p _ (by simp; omega) h
  | fresh k ih => intro Q E p s hn h; exact ih _ Q E p _ hn h
  | ask k ih => intro Q E p s hn h; exact ih _ Q E p s hn h
  | choose src m k ih => intro Q E p s hn h; exact ⟨h.1, ih _ Q E p _ hn h.2⟩
  | os q _ k ih => intro Q E p s hn h; exact ih _ Q E p _ hn h
  | call c hd _ _ k ih => intro Q E p s hn h; obtain ⟨r, s', hr, h⟩ := h; exact ⟨r, s', hr, ih r Q E p s' (Nat.le_trans hn (runs_size hr)) h⟩
  | handled own k ih => intro Q E p s hn h; exact ih _ Q E p s hn h
  | genState g k ih => intro Q E p s hn h; obtain ⟨st, hs, h⟩ := h; exact ⟨st, hs, ih _ Q E p s hn h⟩
  | newGen c k ih => intro Q E p s hn h; exact ih _ Q E p _ hn h
  | resume g r _ k ih => intro Q E p s hn h; obtain ⟨res, s', hw, h⟩ := h; exact ⟨res, s', hw, ih res Q E p s' (Nat.le_trans hn (wakes_size hw)) h⟩
  | yield _ _ _ _ => intro Q E p s _ h; exact h
  | stack k ih => intro Q E p s hn h; exact ih _ Q E p s hn h
  | fork _ _ => intro Q E p s _ h; exact h
  | thread k ih => intro Q E p s hn h; exact ih _ Q E p s hn h
  | await _ _ _ _ _ => intro Q E p s _ h; exact h
theorem wpAny_grow {α : Type} {M : Model} {A : Around} {t : Sem α} {Q : α → Shared → Prop} {E : Value → Shared → Prop} {s : Shared}
    (h : wpAny M A t (fun a s' => s.heap.objs.size ≤ s'.heap.objs.size → Q a s') E s) : wpAny M A t Q E s :=
  wpAny_mono (Q := fun a s' => s.heap.objs.size ≤ s'.heap.objs.size ∧ (s.heap.objs.size ≤ s'.heap.objs.size → Q a s')) (E := fun e s' => s.heap.objs.size ≤ s'.heap.objs.size ∧ E e s')
    (fun Γ p hΓ => wp_size M Γ s.heap.objs.size t _ _ p s (Nat.le_refl _) (h Γ p hΓ)) (fun _ _ q => q.2 q.1) fun _ _ q => q.2

section
variable {C : Cx} {n : Nat} {F : Fs} {σ σ' σ₁ σ₂ σ₃ : List Slot} {v a b c : V} {fl : Fl}

theorem Ex.nil : Ex C n F [] σ .next σ := by
  intro A env s f X oa h₀ f₀ E Q r K h0 S hQ
  exact wpAny_execs_nil (hQ s.heap s.toks f _ _ h0 (FLe.refl f) S .next)
theorem Ex.cons {st : Stmt} {rest : List Stmt} (h1 : Ex1 C n F st σ .next σ₁) (h2 : Ex C n F rest σ₁ fl σ₂) : Ex C n F (st :: rest) σ fl σ₂ := by
  intro A env s f X oa h₀ f₀ E Q r K h0 S hQ
  refine wpAny_execs_cons (h1 r K h0 S fun g1 k1 f1 u1 _ p1 l1 S1 R1 => ?_)
  cases R1
  exact h2 r K p1 S1 fun g2 k2 f2 u2 _ p2 l2 S2 R2 => hQ g2 k2 f2 u2 _ p2 (l1.trans l2) S2 R2
theorem Ex.ret {st : Stmt} {rest : List Stmt} (h1 : Ex1 C n F st σ (.ret v) σ₁) : Ex C n F (st :: rest) σ (.ret v) σ₁ := by
  intro A env s f X oa h₀ f₀ E Q r K h0 S hQ
  refine wpAny_execs_cons (h1 r K h0 S fun g1 k1 f1 u1 _ p1 l1 S1 R1 => ?_)
  cases R1 with | ret R => exact hQ g1 k1 f1 _ _ p1 l1 S1 (.ret R)
theorem Ex.brk {st : Stmt} {rest : List Stmt} (h1 : Ex1 C n F st σ .brk σ₁) : Ex C n F (st :: rest) σ .brk σ₁ := by
  intro A env s f X oa h₀ f₀ E Q r K h0 S hQ
  refine wpAny_execs_cons (h1 r K h0 S fun g1 k1 f1 u1 _ p1 l1 S1 R1 => ?_)
  cases R1; exact hQ g1 k1 f1 _ _ p1 l1 S1 .brk
theorem Ex.cont {st : Stmt} {rest : List Stmt} (h1 : Ex1 C n F st σ .cont σ₁) : Ex C n F (st :: rest) σ .cont σ₁ := by
  intro A env s f X oa h₀ f₀ E Q r K h0 S hQ
  refine wpAny_execs_cons (h1 r K h0 S fun g1 k1 f1 u1 _ p1 l1 S1 R1 => ?_)
  cases R1; exact hQ g1 k1 f1 _ _ p1 l1 S1 .cont

theorem Ex1.brk {pos : Pos} : Ex1 C n F (.Break pos) σ .brk σ := by
  intro A env s f X oa h₀ f₀ E Q r K h0 S hQ
  exact wpAny_bind (wpAny_standAt (wpAny_pure (hQ s.heap s.toks f _ _ h0 (FLe.refl f) S .brk)))
theorem Ex1.cont {pos : Pos} : Ex1 C n F (.Continue pos) σ .cont σ := by
  intro A env s f X oa h₀ f₀ E Q r K h0 S hQ
  exact wpAny_bind (wpAny_standAt (wpAny_pure (hQ s.heap s.toks f _ _ h0 (FLe.refl f) S .cont)))
theorem Ex1.ret {e : PySem.Expr} {pos : Pos} (h : Ev C n F e σ v σ₁) : Ex1 C n F (.Return (some e) pos) σ (.ret v) σ₁ := by
  intro A env s f X oa h₀ f₀ E Q r K h0 S hQ
  exact wpAny_Return_some (h r K h0 S fun g1 k1 f1 u1 p1 l1 S1 R1 => hQ g1 k1 f1 _ _ p1 l1 S1 (.ret R1))
theorem Ex1.assign (i : Nat) {x : Str} {k : NameKind} {e : PySem.Expr} {p' pos : Pos} (h : Ev C n F e σ v σ₁) (hi : F.names[i]? = some (x, k)) (hk : k = .local ∨ (k = .cell ∧ F.fn = true))
    (hs : ∀ env, swapsWith e (some (.Name x p')) pos.line env = pure false := by intro _; rfl) : Ex1 C n F (.Assign [.Name x p'] e pos) σ .next (σ₁.set i (.val v)) := by
  intro A env s f X oa h₀ f₀ E Q r K h0 S hQ
  refine wpAny_Assign_Name (h r K h0 S fun g1 k1 f1 u1 p1 l1 S1 R1 => wp_pos p1 (wp_storeVal K S1 hi hk R1 fun g2 k2 S2 p2 => ?_)) (hs env)
  exact hQ g2 k2 f1 _ _ p2 l1 S2 .next
theorem Ex1.assignNew (i : Nat) {x : Str} {k : NameKind} {p' lp pos : Pos} (hi : F.names[i]? = some (x, k)) (hk : k = .local ∨ (k = .cell ∧ F.fn = true)) :
    Ex1 C n F (.Assign [.Name x p'] (.List [] lp) pos) σ .next (σ.set i (.own [])) := by
  intro A env s f X oa h₀ f₀ E Q r K h0 S hQ
  refine wpAny_Assign_Name (List_ (spliced_nil (wpAny_newObj_type ?_ (by show (0 : Nat) ≤ sizeLine; exact Nat.zero_le _)))) rfl
  refine wp_pos h0 (wp_storeOwn (vs := []) (n := 0) K (S.addX rfl) hi hk .nil fun g2 k2 S2 p2 => ?_)
  exact hQ g2 k2 f _ _ p2 (FLe.refl f) S2 .next

theorem As.name (i : Nat) {x : Str} {k : NameKind} {p : Pos} (hi : F.names[i]? = some (x, k)) (hk : k = .local ∨ (k = .cell ∧ F.fn = true)) : As C F (.Name x p) v σ (σ.set i (.val v)) := by
  intro A env s f X oa h₀ f₀ E u Q r K h0 S R hQ
  exact wpAny_assign_Name (wp_pos h0 (wp_storeVal K S hi hk R fun g2 k2 S2 p2 => hQ g2 k2 f p2 (FLe.refl f) S2))
/-- several targets -/
noncomputable def Ass (C : Cx) (F : Fs) (ts : List PySem.Expr) (vs : List V) (σ σ' : List Slot) : Prop :=
  ∀ {A env s f X oa h₀ f₀ E us} {Q : Unit → Shared → Prop}, Room 0 A → EnvOk F env → 0 < s.toks → SR C h₀ f₀ env X oa σ f s.heap → RepAll f vs us →
    (∀ h' k f', 0 < k → FLe f f' → SR C h₀ f₀ env X oa σ' f' h' → Q () { s with heap := h', toks := k }) →
    wpAny (model C.prog C.w) A (assignInOrder ((assignEach ts env).map (·.2)) us) Q E s
theorem Ass.nil : Ass C F [] [] σ σ := by
  intro A env s f X oa h₀ f₀ E us Q r K h0 S R hQ
  exact wpAny_pure (hQ s.heap s.toks f h0 (FLe.refl f) S)
theorem Ass.cons {t : PySem.Expr} {ts : List PySem.Expr} {vs : List V} (h1 : As C F t v σ σ₁) (h2 : Ass C F ts vs σ₁ σ₂) (he : ∀ env, assignEach (t :: ts) env = (false, assign t env) :: assignEach ts env := by intro _; rfl) :
    Ass C F (t :: ts) (v :: vs) σ σ₂ := by
  intro A env s f X oa h₀ f₀ E us Q r K h0 S R hQ
  obtain ⟨u, us', rfl, R1, R2⟩ := R.cons_inv
  rw [he]
  show wpAny _ A (do holding us' (assign t env u); assignInOrder ((assignEach ts env).map (·.2)) us') Q E s
  exact wpAny_bind (wpAny_holding (h1 r K h0 S R1 fun g1 k1 f1 p1 l1 S1 => h2 r K p1 S1 (RepAll.mono l1 R2) fun g2 k2 f2 p2 l2 S2 => hQ g2 k2 f2 p2 (l1.trans l2) S2))
theorem As.tuple {ts : List PySem.Expr} {k : Nat} {p : Pos} {vs : List V} (h : Ass C F ts vs σ σ') (hn : ∀ env, (assignEach ts env).findIdx? (·.1) = none := by intro _; rfl)
    (hl : ∀ env, (assignEach ts env).length = vs.length := by intro _; rfl) : As C F (.Tuple ts k p) (.tup vs) σ σ' := by
  intro A env s f X oa h₀ f₀ E u Q r K h0 S R hQ
  obtain ⟨a, us, rfl, ft, RA⟩ := R.tup_inv
  rw [arm_assign_Tuple]
  refine wpAny_bind (wpAny_standAt ?_)
  unfold unpack
  rw [hn, hl, RA.length]
  refine wpAny_bind (wpAny_holding ?_)
  have hu : us.length = us.toArray.size := (List.size_toArray ..).symm
  rw [hu]
  refine wpAny_grow (wp_pos h0 (wpAny_unpackItems_tuple r.hd (ft.is' S.inv) fun h' he p1 g1 => ?_))
  have keep : ∀ b o, s.heap.get? b = some o → h'.get? b = some o := fun b o e => he b o (Nat.ne_of_lt (Heap.lt_size e)) e
  have I' : Inv C f h' := ⟨fun b o e => keep b o (S.inv.sub _ _ e), S.inv.gh, fun t ht => (S.inv.tab t ht).mono (FLe.refl f) (S.inv.tab t ht).1 fun o e => keep _ _ e⟩
  have st : Step C.T f s.heap f h' := ⟨g1, fun b o e _ => keep b o e, fun _ _ => rfl⟩
  rw [List.toList_toArray]
  exact h r K p1 (S.step I' st) RA fun g2 k2 f2 p2 l2 S2 => hQ g2 k2 f2 p2 l2 S2
theorem Ex1.assignT {ts : List PySem.Expr} {k : Nat} {p pos : Pos} {e : PySem.Expr} (h : Ev C n F e σ v σ₁) (ha : As C F (.Tuple ts k p) v σ₁ σ₂)
    (hs : ∀ env, swapsWithSole [.Tuple ts k p] e pos.line env = pure false := by intro _; rfl) (hw : ∀ env, swappedStores [.Tuple ts k p] e env = pure none := by intro _; rfl) :
    Ex1 C n F (.Assign [.Tuple ts k p] e pos) σ .next σ₂ := by
  intro A env s f X oa h₀ f₀ E Q r K h0 S hQ
  refine Assign_Tuple (h r K h0 S fun g1 k1 f1 u1 p1 l1 S1 R1 => ha (r.le (Nat.zero_le _)) K p1 S1 R1 fun g2 k2 f2 p2 l2 S2 => ?_) (hs env) (hw env)
  exact hQ g2 k2 f2 _ _ p2 (l1.trans l2) S2 .next
/-- two names at once, stored from behind -/
theorem Ex1.swap2 (i j : Nat) {x y : Str} {kx ky : NameKind} {ts : List PySem.Expr} {k : Nat} {p pos : Pos} {e : PySem.Expr} (h : Ev C n F e σ (.tup [a, b]) σ₁)
    (hi : F.names[i]? = some (x, kx)) (hx : kx = .local ∨ (kx = .cell ∧ F.fn = true)) (hj : F.names[j]? = some (y, ky)) (hy : ky = .local ∨ (ky = .cell ∧ F.fn = true))
    (hw : ∀ env, EnvOk F env → swappedStores [.Tuple ts k p] e env = pure (some [x, y]))
    (hs : ∀ env, swapsWithSole [.Tuple ts k p] e pos.line env = pure false := by intro _; rfl) :
    Ex1 C n F (.Assign [.Tuple ts k p] e pos) σ .next ((σ₁.set j (.val b)).set i (.val a)) := by
  intro A env s f X oa h₀ f₀ E Q r K h0 S hQ
  refine Assign_Tuple_swapped (h r K h0 S fun g1 k1 f1 u1 p1 l1 S1 R1 => ?_) (hs env) (hw env K)
  obtain ⟨c, us, rfl, ft, RA⟩ := R1.tup_inv
  obtain ⟨ua, us1, rfl, Ra, RA⟩ := RA.cons_inv
  obtain ⟨ub, us2, rfl, Rb, RA⟩ := RA.cons_inv
  cases RA.nil_inv
  refine wpAny_grow (wp_pos p1 (wpAny_unpackItems_tuple (items := #[ua, ub]) r.hd (ft.is' S1.inv) fun h' he p2 g2 => ?_))
  have keep : ∀ b o, g1.get? b = some o → h'.get? b = some o := fun b o e => he b o (Nat.ne_of_lt (Heap.lt_size e)) e
  have I' : Inv C f1 h' := ⟨fun b o e => keep b o (S1.inv.sub _ _ e), S1.inv.gh, fun t ht => (S1.inv.tab t ht).mono (FLe.refl f1) (S1.inv.tab t ht).1 fun o e => keep _ _ e⟩
  have st : Step C.T f1 g1 f1 h' := ⟨g2, fun b o e _ => keep b o e, fun _ _ => rfl⟩
  have S2 := S1.step I' st
  show wpAny _ A (assignInOrder [fun v => bindName env y v, fun v => bindName env x v] [ub, ua]) _ _ _
  show wpAny _ A (do holding [ua] (bindName env y ub); (do holding [] (bindName env x ua); assignInOrder [] [])) _ _ _
  refine wpAny_bind (wpAny_holding (wpAny_bindName (wp_pos p2 (wp_storeVal K S2 hj hy Rb fun g3 k3 S3 p3 => ?_))))
  refine wpAny_bind (wpAny_holding (wpAny_bindName (wp_pos p3 (wp_storeVal K S3 hi hx Ra fun g4 k4 S4 p4 => wpAny_pure ?_))))
  exact hQ g4 k4 f1 _ _ p4 l1 S4 .next

theorem Ex1.aug (i : Nat) {x : Str} {k : NameKind} {op : Operator} {e : PySem.Expr} {p' pos : Pos} (hi : F.names[i]? = some (x, k)) (hk : k = .local ∨ (k = .cell ∧ F.fn = true)) (hs : σ[i]? = some (.val a))
    (hx : (x == ("__classdict__" : Str)) = false) (h : Ev C n F e σ b σ₁) (ho : Op2 C n (inplaceOp op) a b v) : Ex1 C n F (.AugAssign (.Name x p') op e pos) σ .next (σ₁.set i (.val v)) := by
  intro A env s f X oa h₀ f₀ E Q r K h0 S hQ
  obtain ⟨u, lv, R⟩ := S.val K hi hs
  refine wpAny_AugAssign_Name (wp_load K lv hx (h r K h0 S fun g1 k1 f1 u1 p1 l1 S1 R1 => ho r p1 S1.inv (R.mono l1) R1 fun g2 k2 f2 u2 p2 I2 st R2 => ?_))
  refine wp_pos p2 (wp_storeVal K (S1.step I2 st) hi hk R2 fun g3 k3 S3 p3 => ?_)
  exact hQ g3 k3 f2 _ _ p3 (l1.trans (st.le S1.inv)) S3 .next

theorem Ex1.ifT {t : PySem.Expr} {body orelse : List Stmt} {pos : Pos} (ht : It C n F t σ true σ₁) (h : Ex C n F body σ₁ fl σ₂) : Ex1 C n F (.If t body orelse pos) σ fl σ₂ := by
  intro A env s f X oa h₀ f₀ E Q r K h0 S hQ
  exact wpAny_If (ht r K h0 S fun g1 k1 f1 p1 l1 S1 => h r K p1 S1 fun g2 k2 f2 u2 _ p2 l2 S2 R2 => hQ g2 k2 f2 u2 _ p2 (l1.trans l2) S2 R2)
theorem Ex1.ifF {t : PySem.Expr} {body orelse : List Stmt} {pos : Pos} (ht : It C n F t σ false σ₁) (h : Ex C n F orelse σ₁ fl σ₂) : Ex1 C n F (.If t body orelse pos) σ fl σ₂ := by
  intro A env s f X oa h₀ f₀ E Q r K h0 S hQ
  exact wpAny_If (ht r K h0 S fun g1 k1 f1 p1 l1 S1 => h r K p1 S1 fun g2 k2 f2 u2 _ p2 l2 S2 R2 => hQ g2 k2 f2 u2 _ p2 (l1.trans l2) S2 R2)
theorem Ex1.assert {t : PySem.Expr} {msg : Option PySem.Expr} {pos : Pos} (ht : It C n F t σ true σ₁) : Ex1 C n F (.Assert t msg pos) σ .next σ₁ := by
  intro A env s f X oa h₀ f₀ E Q r K h0 S hQ
  show wpAny _ A (do standAt pos; if ← isTrue t env (eval t env) then pure Flow.next else assertFails t.pos (evalOpt msg env)) Q E s
  exact wpAny_bind (wpAny_standAt (wpAny_bind (ht r K h0 S fun g1 k1 f1 p1 l1 S1 => wpAny_pure (hQ g1 k1 f1 _ _ p1 l1 S1 .next))))
/-- a try whose body does not raise -/
theorem Ex1.tryNext {body orelse : List Stmt} {hs : List ExceptHandler} {pos : Pos} (h : Ex C n F body σ .next σ₁) (h2 : Ex C n F orelse σ₁ fl σ₂) : Ex1 C n F (.Try body hs orelse [] pos) σ fl σ₂ := by
  intro A env s f X oa h₀ f₀ E Q r K h0 S hQ
  show wpAny _ A (do standAt pos; tryStmt false (execs body env) hs (execs orelse env) [] env) Q E s
  refine wpAny_bind (wpAny_standAt ?_)
  unfold tryStmt
  simp only [List.isEmpty_nil, if_true]
  refine wpAny_bind (wpAny_attempt (h r K h0 S fun g1 k1 f1 u1 _ p1 l1 S1 R1 => ?_))
  cases R1
  exact h2 r K p1 S1 fun g2 k2 f2 u2 _ p2 l2 S2 R2 => hQ g2 k2 f2 u2 _ p2 (l1.trans l2) S2 R2
end
end Mine
end
section
set_option tactic.hygienic false
open PySem PySem.Calls PySem.W PyProof.Rows
namespace Mine

theorem SR.endX {C : Cx} {h₀ f₀ env X oa σ f h h' a o} (S : SR C h₀ f₀ env ((a, o) :: X) oa σ f h) (hs : Heap.ExtBut a h h') (hz : h.objs.size ≤ h'.objs.size) : SR C h₀ f₀ env X oa σ f h' := by
  have O := (S.x _ (List.mem_cons_self ..)).2
  have hxd := List.nodup_cons.mp S.xd
  obtain ⟨m, hm⟩ := S.ns
  have kL : ∀ o, h.get? env.locals = some o → h'.get? env.locals = some o := fun o e => hs _ _ (Ne.symm O.ne) e
  have kC : ∀ p ∈ env.cells, ∀ o, h.get? p.2 = some o → h'.get? p.2 = some o := fun p hp o e => hs _ _ (Ne.symm (O.nc p hp)) e
  have kX : ∀ p ∈ X, p.1 ≠ a := fun p hp q => hxd.1 (List.mem_map.mpr ⟨p, hp, q⟩)
  refine ⟨⟨fun b p e => hs _ _ (by rintro rfl; rw [O.frz] at e; cases e) (S.inv.sub _ _ e), S.inv.gh, fun t ht => (S.inv.tab t ht).mono (FLe.refl f) (S.inv.tab t ht).1 fun p e => hs _ _ (Ne.symm (S.notTabO O t ht)) e⟩,
    ⟨Nat.le_trans S.st.size hz, fun b p e q => hs _ _ (Nat.ne_of_lt (Nat.lt_of_lt_of_le (Heap.lt_size e) O.low)) (S.st.keep b p e q), S.st.frz⟩, S.t0, ⟨m, hm.at' kL⟩, S.low, S.fL, fun p hp => ?_, S.capart, S.cw,
    fun p hp => ⟨hs _ _ (kX p hp) (S.x p (List.mem_cons_of_mem _ hp)).1, (S.x p (List.mem_cons_of_mem _ hp)).2⟩, hxd.2, fun i x sl hx hsl => ?_, fun i l hsl => ?_, S.s3⟩
  · obtain ⟨⟨v, q, e, d⟩, r⟩ := S.cell p hp
    exact ⟨⟨v, q, kC p hp _ e, d⟩, r⟩
  · refine (S.s1 i x sl hx hsl).keep (FLe.refl f) kL kC fun l hl p e => ?_
    subst hl
    exact hs _ _ (fun q => (S.s2 i l hsl).2.1 (by rw [q]; exact List.mem_cons_self ..)) e
  · obtain ⟨a1, a2, a3⟩ := S.s2 i l hsl
    exact ⟨a1, fun q => a2 (List.mem_cons_of_mem _ q), Nat.lt_of_lt_of_le a3 hz⟩

structure Itr (C : Cx) (K : Heap → Addr → Nat → Prop) (f0 : Frz) (l : List V) : Prop where
  has : ∀ {h it i}, K h it i → ∃ o, h.get? it = some o
  keep : ∀ {h h' it i}, K h it i → (∀ o, h.get? it = some o → h'.get? it = some o) → K h' it i
  next : ∀ {A s f it i v E} {Q : Option Value → Shared → Prop}, K s.heap it i → Inv C f s.heap → FLe f0 f → f it = none → l[i]? = some v → 0 < s.toks →
    (∀ h' k u, 0 < k → K h' it (i + 1) → Heap.SameBut it s.heap h' → Rep f v u → Q (some u) { s with heap := h', toks := k }) → wpAny (model C.prog C.w) A (pyNext (.ref it)) Q E s
  stop : ∀ {A s f it i E} {Q : Option Value → Shared → Prop}, A.handled = none → K s.heap it i → Inv C f s.heap → FLe f0 f → f it = none → l[i]? = none →
    (∀ h', Heap.ExtBut it s.heap h' → Q none { s with heap := h' }) → wpAny (model C.prog C.w) A (pyNext (.ref it)) Q E s
  self : ∀ {A s it i E} {Q : Value → Shared → Prop}, K s.heap it i → Q (.ref it) s → wpAny (model C.prog C.w) A (pyIter (.ref it)) Q E s
  lets : ∀ {A s it i v t E} {Q : Unit → Shared → Prop}, K s.heap it i → Q () s → wpAny (model C.prog C.w) A (letOwnedTupleGo t (.ref it) v) Q E s

noncomputable def PyIt (C : Cx) (n : Nat) (v : V) (l : List V) : Prop :=
  ∀ {A s f u E} {Q : Value → Shared → Prop}, Room n A → 0 < s.toks → Inv C f s.heap → Rep f v u →
    (∀ o K k, 0 < k → o.isFreed = false → Itr C K f l → K (s.heap.push o) s.heap.objs.size 0 → Q (.ref s.heap.objs.size) { s with heap := s.heap.push o, toks := k }) →
    wpAny (model C.prog C.w) A (pyIter u) Q E s

theorem Itr.list {C : Cx} {f0 : Frz} {a : Addr} {l : List V} {us : List Value} (fl : FList f0 a us) (R : RepAll f0 l us) : Itr C (fun h it i => h.IsListIter it a i) f0 l where
  has := fun ⟨o, e, _⟩ => ⟨o, e⟩
  keep := fun ⟨o, e, r⟩ k => ⟨o, k _ e, r⟩
  next := fun {A s f it i v E Q} hit I le fi hv h0 hQ => by
    obtain ⟨u, hu, Ru⟩ := R.get hv
    exact wpAny_pyNext_list_item hit ((fl.mono le).is I) (by simpa using hu) fun h' hit' hs => hQ h' s.toks u h0 hit' hs (Ru.mono le)
  stop := fun {A s f it i E Q} hh hit I le fi hv hQ => by
    refine wpAny_pyNext_list_end hh hit ((fl.mono le).is I) ?_ hQ
    have : us[i]? = none := by rw [List.getElem?_eq_none_iff] at hv ⊢; rw [← R.length]; exact hv
    simpa using this
  self := fun hit hQ => wpAny_pyIter_listiter hit hQ
  lets := fun hit hQ => letGo_listiter hit hQ
theorem Itr.tup {C : Cx} {f0 : Frz} {a : Addr} {l : List V} {us : List Value} (fl : FTup f0 a us) (R : RepAll f0 l us) : Itr C (fun h it i => h.IsTupleIter it a i) f0 l where
  has := fun ⟨o, e, _⟩ => ⟨o, e⟩
  keep := fun ⟨o, e, r⟩ k => ⟨o, k _ e, r⟩
  next := fun {A s f it i v E Q} hit I le fi hv h0 hQ => by
    obtain ⟨u, hu, Ru⟩ := R.get hv
    exact wpAny_pyNext_tuple_item hit ((fl.mono le).is' I) (by simpa using hu) fun h' hit' hs => hQ h' s.toks u h0 hit' hs (Ru.mono le)
  stop := fun {A s f it i E Q} hh hit I le fi hv hQ => by
    refine wpAny_pyNext_tuple_end hh hit ((fl.mono le).is' I) ?_ hQ
    have : us[i]? = none := by rw [List.getElem?_eq_none_iff] at hv ⊢; rw [← R.length]; exact hv
    simpa using this
  self := fun hit hQ => wpAny_pyIter_tupleiter hit hQ
  lets := fun hit hQ => letGo_tupleiter hit hQ
theorem PyIt.list {C : Cx} {n : Nat} {l : List V} : PyIt C n (.list l) l := by
  intro A s f u E Q r h0 I R hQ
  obtain ⟨a, us, rfl, fl, RA⟩ := R.list_inv
  exact wpAny_pyIter_list (fl.is I) (hQ _ _ s.toks h0 rfl (Itr.list fl RA) ⟨_, Heap.get?_push_size _ rfl, rfl, rfl⟩)
theorem PyIt.tup {C : Cx} {n : Nat} {l : List V} : PyIt C n (.tup l) l := by
  intro A s f u E Q r h0 I R hQ
  obtain ⟨a, us, rfl, fl, RA⟩ := R.tup_inv
  exact wpAny_pyIter_tuple (fl.is' I) (hQ _ _ s.toks h0 rfl (Itr.tup fl RA) ⟨_, Heap.get?_push_size _ rfl, rfl, rfl⟩)

inductive Lp (C : Cx) (n : Nat) (F : Fs) (t : PySem.Expr) (body : List Stmt) : List V → List Slot → Fl → List Slot → Prop
  | nil {σ : List Slot} : Lp C n F t body [] σ .next σ
  | next {x : V} {xs : List V} {σ σ₁ σ₂ σ₃ : List Slot} {fl : Fl} : As C F t x σ σ₁ → Ex C n F body σ₁ .next σ₂ → Lp C n F t body xs σ₂ fl σ₃ → Lp C n F t body (x :: xs) σ fl σ₃
  | cont {x : V} {xs : List V} {σ σ₁ σ₂ σ₃ : List Slot} {fl : Fl} : As C F t x σ σ₁ → Ex C n F body σ₁ .cont σ₂ → Lp C n F t body xs σ₂ fl σ₃ → Lp C n F t body (x :: xs) σ fl σ₃
  | brk {x : V} {xs : List V} {σ σ₁ σ₂ : List Slot} : As C F t x σ σ₁ → Ex C n F body σ₁ .brk σ₂ → Lp C n F t body (x :: xs) σ .brk σ₂
  | ret {x : V} {xs : List V} {σ σ₁ σ₂ : List Slot} {v : V} : As C F t x σ σ₁ → Ex C n F body σ₁ (.ret v) σ₂ → Lp C n F t body (x :: xs) σ (.ret v) σ₂

/-- what a loop ends with, given how its turns ended -/
inductive After (C : Cx) (n : Nat) (F : Fs) (orelse : List Stmt) : Fl → List Slot → Fl → List Slot → Prop
  | next {σ σ' : List Slot} {fl : Fl} : Ex C n F orelse σ fl σ' → After C n F orelse .next σ fl σ'
  | brk {σ : List Slot} : After C n F orelse .brk σ .next σ
  | ret {σ : List Slot} {v : V} : After C n F orelse (.ret v) σ (.ret v) σ

/-- a while -/
inductive Wh (C : Cx) (n : Nat) (F : Fs) (test : PySem.Expr) (body : List Stmt) : Nat → List Slot → Fl → List Slot → Prop
  | stop {σ σ₁ : List Slot} {m : Nat} : It C n F test σ false σ₁ → Wh C n F test body m σ .next σ₁
  | next {σ σ₁ σ₂ σ₃ : List Slot} {fl : Fl} {m : Nat} : It C n F test σ true σ₁ → Ex C n F body σ₁ .next σ₂ → Wh C n F test body m σ₂ fl σ₃ → Wh C n F test body (m + 1) σ fl σ₃
section
variable {C : Cx} {n : Nat} {F : Fs} {σ σ' σ₁ σ₂ σ₃ : List Slot} {v a b c : V} {fl fl' : Fl}

/-- one turn of a loop, once its item is drawn -/
theorem Lp.turn {A : Around} {env : Env} {X : List (Addr × Obj)} {h₀ : Heap} {f₀ f : Frz} {t : PySem.Expr} {body orelse : List Stmt} {x : V} {xs : List V} {oa : Nat → Addr} {u : Value} {s : Shared} {E : Value → Shared → Prop} {P : Shared → Prop} {R : Result → Shared → Prop}
    (lp : Lp C n F t body (x :: xs) σ fl σ₂) (af : After C n F orelse fl σ₂ fl' σ') (r : Room n A) (K : EnvOk F env) (hk : 0 < s.toks) (S : SR C h₀ f₀ env X oa σ f s.heap) (Rx : Rep f x u)
    (go : ∀ h4 k4 f4 oa4 σ4, 0 < k4 → FLe f f4 → SR C h₀ f₀ env X oa4 σ4 f4 h4 → Lp C n F t body xs σ4 fl σ₂ → P { s with heap := h4, toks := k4 })
    (out : ∀ h4 k4 f4 oa4 u', 0 < k4 → FLe f f4 → SR C h₀ f₀ env X oa4 σ' f4 h4 → FlRep f4 fl' u' → R (.ok u') { s with heap := h4, toks := k4 }) :
    wpAny (model C.prog C.w) A (assign t env u) (fun _ s₂ => wpAny (model C.prog C.w) A (execs body env) (fun f s₃ => match f with
      | .next | .cont => P s₃
      | .brk => R (.ok .next) s₃
      | .ret v => R (.ok (.ret v)) s₃) E s₂) E s := by
  cases lp with
  | next ha hb hr => exact ha (r.le (Nat.zero_le _)) K hk S Rx fun h3 k3 f3 p3 l3 S3 => hb r K p3 S3 fun h4 k4 f4 u4 oa4 p4 l4 S4 R4 => by cases R4; exact go _ _ _ _ _ p4 (l3.trans l4) S4 hr
  | cont ha hb hr => exact ha (r.le (Nat.zero_le _)) K hk S Rx fun h3 k3 f3 p3 l3 S3 => hb r K p3 S3 fun h4 k4 f4 u4 oa4 p4 l4 S4 R4 => by cases R4; exact go _ _ _ _ _ p4 (l3.trans l4) S4 hr
  | brk ha hb => cases af; exact ha (r.le (Nat.zero_le _)) K hk S Rx fun h3 k3 f3 p3 l3 S3 => hb r K p3 S3 fun h4 k4 f4 u4 oa4 p4 l4 S4 R4 => by cases R4; exact out _ _ _ _ _ p4 (l3.trans l4) S4 .next
  | ret ha hb => cases af; exact ha (r.le (Nat.zero_le _)) K hk S Rx fun h3 k3 f3 p3 l3 S3 => hb r K p3 S3 fun h4 k4 f4 u4 oa4 p4 l4 S4 R4 => by cases R4 with | ret Rv => exact out _ _ _ _ _ p4 (l3.trans l4) S4 (.ret Rv)
inductive ForI (C : Cx) (n : Nat) (F : Fs) (env : Env) (X : List (Addr × Obj)) (h₀ : Heap) (f₀ : Frz) (t : PySem.Expr) (body : List Stmt) (l : List V) (Kt : Heap → Addr → Nat → Prop) (f1 : Frz) (it : Addr) (s₀ : Shared) (fl : Fl) (σ₂ : List Slot) : Nat → Shared → Prop
  | mk (i : Nat) {o : Obj} {oa : Nat → Addr} {f : Frz} {h : Heap} {k : Nat} {σ : List Slot} (lp : Lp C n F t body (l.drop i) σ fl σ₂) (hk : 0 < k) (le : FLe f1 f) (S : SR C h₀ f₀ env ((it, o) :: X) oa σ f h) (hK : Kt h it i) :
    ForI C n F env X h₀ f₀ t body l Kt f1 it s₀ fl σ₂ (l.length - i) { s₀ with heap := h, toks := k }
theorem sub_turn {n i : Nat} (h : i < n) : n - (i + 1) < n - i := Nat.sub_lt_sub_left h (Nat.lt_succ_self i)
theorem for_core {A : Around} {env : Env} {X h₀ f₀} {t : PySem.Expr} {body orelse : List Stmt} {l : List V} {Kt : Heap → Addr → Nat → Prop} {f1 : Frz} {it : Addr} {s₀ : Shared} {R : Result → Shared → Prop} (r : Room n A) (K : EnvOk F env)
    (T : Itr C Kt f1 l) (hR : ∀ h' k f' u oa', 0 < k → FLe f1 f' → SR C h₀ f₀ env X oa' σ' f' h' → FlRep f' fl' u → R (.ok u) { s₀ with heap := h', toks := k })
    {o oa f h k} (lp : Lp C n F t body l σ fl σ₂) (af : After C n F orelse fl σ₂ fl' σ') (hk : 0 < k) (le : FLe f1 f)
    (S : SR C h₀ f₀ env ((it, o) :: X) oa σ f h) (hK : Kt h it 0) : codeAny (model C.prog C.w) A (.forLoop t (.ref it) body orelse env) R { s₀ with heap := h, toks := k } := by
  refine codeAny_forLoop_any (ForI C n F env X h₀ f₀ t body l Kt f1 it s₀ fl σ₂) (fun m s I => ?_) _ (.mk 0 lp hk le S hK)
  cases I with | @mk i o1 oa1 f2 h2 k2 σ2 lp hk le S hK =>
  have O := (S.x _ (List.mem_cons_self ..)).2
  by_cases hlt : i < l.length
  · rw [List.drop_eq_getElem_cons hlt] at lp
    refine T.next (v := l[i]) hK S.inv le O.frz (List.getElem?_eq_getElem hlt) hk fun h1 k1 u p1 hK1 hs R1 => ?_
    obtain ⟨o1, e1⟩ := T.has hK1
    exact T.lets hK1 (lp.turn af r K p1 (S.updX hs e1) R1 (fun h4 k4 f4 oa4 σ4 p4 l4 S4 lp4 => ⟨_, sub_turn hlt, .mk (i + 1) lp4 p4 (le.trans l4) S4 (T.keep hK1 fun q e => by
      rw [e1] at e; cases e; exact (S4.x _ (List.mem_cons_self ..)).1)⟩) fun h4 k4 f4 oa4 u4 p4 l4 S4 R4 => hR h4 k4 f4 u4 oa4 p4 (le.trans l4) S4.dropX R4)
  · have hge := Nat.le_of_not_lt hlt
    rw [List.drop_eq_nil_of_le hge] at lp
    cases lp
    cases af with | next ho =>
    exact wpAny_grow (wp_pos hk (T.stop (f := f2) r.hd hK S.inv le O.frz (List.getElem?_eq_none hge) fun h1 hs p1 g1 =>
      ho r K p1 (S.endX hs g1) fun h2 k2 f2 u2 oa2 p2 l2 S2 R2 => hR h2 k2 f2 u2 oa2 p2 (le.trans l2) S2 R2))

theorem Ex1.for {t iter : PySem.Expr} {body orelse : List Stmt} {pos : Pos} {l : List V} (h : Ev C n F iter σ v σ₁) (hp : PyIt C n v l) (lp : Lp C n F t body l σ₁ fl σ₂) (af : After C n F orelse fl σ₂ fl' σ')
    (hs : ∀ env x, foldedSetIterable iter env x = pure x := by intro _ _; rfl) : Ex1 C n F (.For t iter body orelse pos) σ fl' σ' := by
  intro A env s f X oa h₀ f₀ E Q r K h0 S hQ
  refine wpAny_For (h r K h0 S fun g1 k1 f1 u1 p1 l1 S1 R1 => hp r p1 S1.inv R1 fun o Kt k2 p2 ho T hK => ?_) (hs env)
  exact for_core r K T (fun g3 k3 f3 u3 oa3 p3 l3 S3 R3 => hQ g3 k3 f3 u3 oa3 p3 (l1.trans l3) S3 R3) lp af p2 (FLe.refl f1) (S1.addX ho) hK

inductive WhI (C : Cx) (n : Nat) (F : Fs) (env : Env) (X : List (Addr × Obj)) (h₀ : Heap) (f₀ : Frz) (test : PySem.Expr) (body : List Stmt) (f : Frz) (s₀ : Shared) (fl : Fl) (σ₂ : List Slot) : Nat → Shared → Prop
  | mk {m : Nat} {oa : Nat → Addr} {f1 : Frz} {h : Heap} {k : Nat} {σ : List Slot} (w : Wh C n F test body m σ fl σ₂) (hk : 0 < k) (le : FLe f f1) (S : SR C h₀ f₀ env X oa σ f1 h) : WhI C n F env X h₀ f₀ test body f s₀ fl σ₂ m { s₀ with heap := h, toks := k }
theorem Ex1.while {test : PySem.Expr} {body orelse : List Stmt} {pos : Pos} {m : Nat} (w : Wh C n F test body m σ fl σ₂) (af : After C n F orelse fl σ₂ fl' σ') : Ex1 C n F (.While test body orelse pos) σ fl' σ' := by
  intro A env s f X oa h₀ f₀ E Q r K h0 S hQ
  refine wpAny_While (codeAny_whileLoop (WhI C n F env X h₀ f₀ test body f s fl σ₂) (fun m s' I => ?_) m (.mk w h0 (FLe.refl f) S))
  clear w h0 S
  cases I with | mk w hk le S =>
  cases w with
  | stop ht =>
    refine ht r K hk S fun g1 k1 f2 p1 l1 S1 => ?_
    rw [if_neg Bool.false_ne_true]
    cases af with | next ho =>
    exact ho r K p1 S1 fun g2 k2 f3 u oa2 p2 l2 S2 R2 => hQ g2 k2 f3 u oa2 p2 (le.trans (l1.trans l2)) S2 R2
  | next ht hb hr =>
    refine ht r K hk S fun g1 k1 f2 p1 l1 S1 => ?_
    rw [if_pos rfl]
    refine hb r K p1 S1 fun g2 k2 f3 u oa2 p2 l2 S2 R2 => ?_
    cases R2
    exact ⟨_, Nat.lt_succ_self _, .mk hr p2 (le.trans (l1.trans l2)) S2⟩
end
end Mine
end
section
set_option tactic.hygienic false
open PySem PySem.Calls PySem.W PyProof.Rows
namespace Mine

section
variable {C : Cx} {n : Nat} {F : Fs} {σ σ' σ₁ σ₂ σ₃ : List Slot} {v a b c : V} {fl fl' : Fl}

theorem Tr.str {l : List Nat} (hz : l.length ≤ 16000000) : Tr C n (.str (S l)) (l.length != 0) := by
  intro A s f x E Q r h0 I R hQ
  obtain ⟨t, rfl⟩ := R.str_inv
  refine P.truthy_str (by rw [S_length]; omega) ?_
  have := hQ (s.toks + 1 + 1) (by omega)
  rw [S_length]
  have e : ((l.length : Int) != 0) = (l.length != 0) := by
    rw [Bool.eq_iff_iff]; simp
  rw [e]; exact this
theorem Tr.none : Tr C n .none false := by
  intro A s f x E Q r h0 I R hQ
  rw [R.none_inv]; exact wpAny_pure (hQ s.toks h0)
theorem Tr.bool {b : Bool} : Tr C n (.bool b) b := by
  intro A s f x E Q r h0 I R hQ
  rw [R.bool_inv]; exact wpAny_truthy_bool (hQ s.toks h0)
theorem isEmpty_len {α : Type} (vs : List α) (l : List V) (h : l.length = vs.length) : (!vs.toArray.isEmpty) = (!l.isEmpty) := by
  cases vs <;> cases l <;> simp at h ⊢
/-- a match object is true: it has neither __bool__ nor __len__ -/
theorem Tr.mat {x : Str} {sp : List Int} (h1 : typeLookup (.type "re.Match") "__bool__" = pure Option.none) (h2 : typeLookup (.type "re.Match") "__len__" = pure Option.none) : Tr C n (.mat x sp) true := by
  intro A s f u E Q r h0 I R hQ
  obtain ⟨a, rfl, o, vs, ta, t, e, hc, hd, _⟩ := R.mat_inv
  have hT : s.TypeIs (.ref a) "re.Match" := ⟨o, I.sub _ _ e, hc⟩
  unfold truthy
  refine wpAny_bind (wpAny_callSpecial?_none (name := Str.ofString "__bool__") hT h1 ?_)
  dsimp only
  exact wpAny_bind (wpAny_specialOf hT h2 (wpAny_pure (hQ s.toks h0)))

theorem It.own (i : Nat) {x : Str} {k : NameKind} {p : Pos} {l : List V} (hi : F.names[i]? = some (x, k)) (hs : σ[i]? = some (.own l)) (hx : (x == ("__classdict__" : Str)) = false) (hd : (x == ("__debug__" : Str)) = false) (hz : l.length ≤ 16000000) :
    It C n F (.Name x p) σ (!l.isEmpty) σ := by
  intro A env s f X oa h₀ f₀ E Q r K h0 S hQ
  obtain ⟨a, vs, m, ea, lv, eo, R, _⟩ := S.own K hi hs
  show wpAny _ A (do let v ← eval (.Name x p) env; standAt p; holding [v] (truthy v)) Q E s
  refine wpAny_bind (wpAny_Name (wp_load K lv hx (wpAny_bind (wpAny_standAt (wpAny_holding ?_)))) hd)
  refine wpAny_truthy_list ⟨_, eo, rfl, m, rfl⟩ (by rw [List.size_toArray, ← R.length]; omega) ?_
  rw [isEmpty_len _ _ R.length]
  exact hQ s.heap _ f (by omega) (FLe.refl f) S
theorem Ev.ownLast (i : Nat) {x : Str} {k : NameKind} {p pos : Pos} {slice : PySem.Expr} {l : List V} {v : V} (hi : F.names[i]? = some (x, k)) (hs : σ[i]? = some (.own (l ++ [v]))) (hx : (x == ("__classdict__" : Str)) = false) (hd : (x == ("__debug__" : Str)) = false)
    (hsl : Ev C n F slice σ (.int (-1)) σ) (hz : l.length ≤ 16000000) (hss : ∀ a k u, subscripted slice false (.ref a) (.int k u) = operate [.ref a, .int k u] (getItem (.ref a) (.int k u)) := by intro _ _ _; rfl) :
    Ev C n F (.Subscript (.Name x p) slice pos) σ v σ := by
  intro A env s f X oa h₀ f₀ E Q r K h0 S hQ
  obtain ⟨a, vs, m, ea, lv, eo, R, _⟩ := S.own K hi hs
  refine Subscript_ (wpAny_Name (wp_load K lv hx ?_) hd)
  refine hsl r K h0 S fun h1 k1 f1 u1 p1 l1 S1 R1 => ?_
  obtain ⟨t, rfl⟩ := R1.int_inv
  obtain ⟨a', vs', m', ea', lv', eo', R', _⟩ := S1.own K hi hs
  have : a = a' := ea.trans ea'.symm
  subst this
  obtain ⟨u, hu, Ru⟩ := R'.get (i := l.length) (v := v) (by simp)
  have hl : vs'.length = l.length + 1 := by rw [← R'.length]; simp
  have hL : Heap.IsList h1 a vs'.toArray := ⟨_, eo', rfl, m', rfl⟩
  refine tail_any hL.typeIs slot_list_getitem.lookup (wpAny_getItem_list_neg hL (by decide) (by simp [hl]; omega) (by decide) (x := u) ?_ (hQ h1 k1 f1 u p1 l1 S1 Ru)) (hss ..)
  have : ((-1 : Int) + (vs'.toArray.size : Int)).toNat = l.length := by simp [hl]; omega
  rw [this]; simpa using hu

/-- appending to a list of the frame's own -/
theorem Ex1.append (i : Nat) {x : Str} {k : NameKind} {np apos cpos pos : Pos} {e : PySem.Expr} {l : List V} (hi : F.names[i]? = some (x, k)) (hs : σ[i]? = some (.own l)) (hx : (x == ("__classdict__" : Str)) = false) (hd : (x == ("__debug__" : Str)) = false)
    (he : Ev C n F e σ v σ₁) (hs1 : σ₁[i]? = some (.own l)) (hsz : l.length ≤ 1000000)
    (hst : ∀ env, starEach [e] env = [(false, eval e env)] := by intro _; rfl) (hline : (apos.endLine == cpos.line) = true := by rfl) :
    Ex1 C n F (.Expr (.Call (.Attribute (.Name x np) "append" apos) [e] [] cpos) pos) σ .next (σ₁.set i (.own (l ++ [v]))) := by
  intro A env s f X oa h₀ f₀ E Q r K h0 S hQ
  obtain ⟨a, vs, m, ea, lv, eo, R, _⟩ := S.own K hi hs
  refine wpAny_Expr ?_ (by unfold interactive; rw [K.kind]; rfl) rfl
  refine Call_method1 rfl (hst env) hline (wpAny_Name (wp_load K lv hx ?_) hd)
  refine ⟨"list", "list.append", PySem.F.plainAttrs_list, PySem.F.slot_list_append, PySem.F.type_list_append, ⟨_, eo, rfl⟩, fun b hb => by cases hb; exact ⟨_, eo, rfl⟩, callWith_builtin rfl (evalArgs_plain (spliced_cons ?_))⟩
  refine he r K h0 S fun h1 k1 f1 u1 p1 l1 S1 R1 => spliced_nil ?_
  obtain ⟨a', vs', m', ea', lv', eo', R', upd, _⟩ := S1.own K hi hs1
  have : a = a' := ea.trans ea'.symm
  subst this
  refine append_at eo' (fun h2 hsb e2 => ?_) (by rw [List.size_toArray, ← R'.length, sizeLine_eq]; omega)
  exact hQ h2 k1 f1 _ _ p1 l1 (upd h2 (vs' ++ [u1]) (m' + 1) (l ++ [v]) hsb (by rw [e2]; simp [listObj]) (R'.append (.cons R1 .nil))) .next
theorem Ex1.pop (i : Nat) {x : Str} {k : NameKind} {np apos cpos pos : Pos} {l : List V} (hi : F.names[i]? = some (x, k)) (hs : σ[i]? = some (.own (l ++ [.str a']))) (hx : (x == ("__classdict__" : Str)) = false) (hd : (x == ("__debug__" : Str)) = false)
    (hsz : l.length ≤ 1000000) (hline : (apos.endLine == cpos.line) = true := by rfl) :
    Ex1 C n F (.Expr (.Call (.Attribute (.Name x np) "pop" apos) [] [] cpos) pos) σ .next (σ.set i (.own l)) := by
  intro A env s f X oa h₀ f₀ E Q r K h0 S hQ
  obtain ⟨a, vs, m, ea, lv, eo, R, upd, _⟩ := S.own K hi hs
  refine wpAny_Expr ?_ (by unfold interactive; rw [K.kind]; rfl) rfl
  refine Call_method0 rfl hline (wpAny_Name (wp_load K lv hx ?_) hd)
  refine ⟨"list", "list.pop", PySem.F.plainAttrs_list, PySem.F.slot_list_pop, PySem.F.type_list_pop, ⟨_, eo, rfl⟩, fun b hb => by cases hb; exact ⟨_, eo, rfl⟩, callWith_builtin rfl (evalArgs_nil3 ?_)⟩
  have hl : vs.length = l.length + 1 := by rw [← R.length]; simp
  obtain ⟨y, hy, Ry⟩ := R.get (i := l.length) (v := .str a') (by simp)
  obtain ⟨t, rfl⟩ := Ry.str_inv
  have Rl : RepAll f l vs.dropLast := by
    have := RepAll.take l.length R
    rw [List.take_left] at this
    rw [List.dropLast_eq_take, hl]; exact this
  refine Copied.pop_at eo (y := .str a' t) (by rw [List.size_toArray, hl]; simpa using hy) (fun h2 hsb e2 => ?_) (by rw [List.size_toArray, hl, sizeLine_eq]; omega)
  exact hQ h2 s.toks f _ _ h0 (FLe.refl f) (upd h2 vs.dropLast (m + 1) l hsb (by rw [e2]; simp [listObj]) Rl) .next
end

/-! a def of the text: called -/
theorem bindL_get {kind : Str → Option NameKind} {x : Str} {u : Value} : ∀ {l : List (Str × Value)} {m : Str → Option Value}, (l.map (·.1)).Nodup → ((x, u) ∈ l ∧ kind x = some .local ∨ (x ∉ l.map (·.1) ∧ m x = some u)) → bindL kind l m x = some u
  | [], m, _, h => by rcases h with ⟨h, _⟩ | ⟨_, h⟩ <;> first | cases h | exact h
  | (y, w) :: r, m, nd, h => by
    obtain ⟨n1, n2⟩ := List.nodup_cons.mp nd
    unfold bindL
    rcases h with ⟨h, hk⟩ | ⟨h1, h2⟩
    · rcases List.mem_cons.mp h with e | h
      · cases e
        exact bindL_get n2 (.inr ⟨n1, by rw [if_pos hk]; simp⟩)
      · exact bindL_get n2 (.inl ⟨h, hk⟩)
    · have ne : x ≠ y := fun e => h1 (by rw [e]; exact List.mem_cons_self ..)
      refine bindL_get n2 (.inr ⟨fun q => h1 (List.mem_cons_of_mem _ q), ?_⟩)
      split
      · simp only [ne, if_false]; exact h2
      · exact h2
theorem bindC_get {kind : Str → Option NameKind} {x : Str} {u : Value} : ∀ {l : List (Str × Value)} {m : Str → Option Value}, (l.map (·.1)).Nodup → ((x, u) ∈ l ∧ kind x = some .cell ∨ (x ∉ l.map (·.1) ∧ m x = some u)) → bindC kind l m x = some u
  | [], m, _, h => by rcases h with ⟨h, _⟩ | ⟨_, h⟩ <;> first | cases h | exact h
  | (y, w) :: r, m, nd, h => by
    obtain ⟨n1, n2⟩ := List.nodup_cons.mp nd
    unfold bindC
    rcases h with ⟨h, hk⟩ | ⟨h1, h2⟩
    · rcases List.mem_cons.mp h with e | h
      · cases e
        exact bindC_get n2 (.inr ⟨n1, by rw [if_neg (by rw [hk]; decide)]; simp⟩)
      · exact bindC_get n2 (.inl ⟨h, hk⟩)
    · have ne : x ≠ y := fun e => h1 (by rw [e]; exact List.mem_cons_self ..)
      refine bindC_get n2 (.inr ⟨fun q => h1 (List.mem_cons_of_mem _ q), ?_⟩)
      split
      · exact h2
      · simp only [ne, if_false]; exact h2

theorem zip_fst {α β : Type} : ∀ (l : List α) (m : List β), (l.zip m).map (·.1) = l.take m.length
  | [], m => by simp
  | x :: l, [] => by simp
  | x :: l, y :: m => by simp [zip_fst l m]
theorem cells_keys : ∀ (l : List (Str × NameKind)) (n m : Nat) (acc acc' : List (Str × Addr)), acc.map (·.1) = acc'.map (·.1) → (cellsFrom n l acc).map (·.1) = (cellsFrom m l acc').map (·.1)
  | [], _, _, _, _, h => h
  | (x, k) :: r, n, m, acc, acc', h => by
    unfold cellsFrom
    split
    · exact cells_keys r _ _ _ _ (by simp [h])
    · exact cells_keys r _ _ _ _ h
theorem lookup_mem {α β : Type} [DecidableEq α] : ∀ {l : List (α × β)}, (l.map (·.1)).Nodup → ∀ {p : α × β}, p ∈ l → l.lookup p.1 = some p.2
  | (y, w) :: r, nd, p, hp => by
    obtain ⟨n1, n2⟩ := List.nodup_cons.mp nd
    rcases List.mem_cons.mp hp with rfl | hp
    · simp [List.lookup]
    · have ne : p.1 ≠ y := fun e => n1 (by rw [← e]; exact List.mem_map.mpr ⟨p, hp, rfl⟩)
      rw [List.lookup_cons, beq_eq_false_iff_ne.mpr ne]
      exact lookup_mem n2 hp
/-- what is asked of a def's record -/
structure DefEnv (F : Fs) (fd : FuncData) : Prop where
  names : fd.scope.names = F.names
  nd : (F.names.map (·.1)).Nodup
  nofree : ∀ p ∈ F.names, p.2 ≠ .free
  ncell : ((cellsFrom 0 F.names []).map (·.1)).Nodup
  kind : fd.scope.kind = .function
  globals : fd.globals = mainGlobals
  bltn : fd.builtins = builtinsNs
  fn : F.fn = true
  code : F.code = fd.code
  qual : F.qual = fd.qualname ++ ".<locals>."
structure DefOk (C : Cx) (F : Fs) (fa : Addr) (o : Obj) (fd : FuncData) (body : List Stmt) : Prop extends DefEnv F fd where
  at_ : C.G.get? fa = some o
  data : o.data = .func fd
  rec_ : C.G.CodeRec fd.code fd.qualname
  body : fd.body = .stmts body
  clo : fd.closure = []
  co : fd.scope.isCoroutine = false
  gen : fd.scope.isGenerator = false

noncomputable def initSlots (names : List (Str × NameKind)) (vs : List V) : List Slot := vs.map .val ++ List.replicate (names.length - vs.length) .unset

theorem start_sr {C : Cx} {F : Fs} {fa : Addr} {fd : FuncData} (D : DefEnv F fd) {s s₁ : Shared} {f : Frz} (I : Inv C f s.heap) {args : List V} {us : List Value} (R : RepAll f args us)
    (hle : args.length ≤ F.names.length) (hk : ∀ (i : Nat) (x : Str) (k : NameKind), i < args.length → F.names[i]? = some (x, k) → k = .local ∨ k = .cell)
    (x : InCallC s (callEnvC fd s.heap.objs.size fa).locals (bindL (callEnvC fd s.heap.objs.size fa).kindOf ((F.names.map (·.1)).zip us) fun _ => none) (callEnvC fd s.heap.objs.size fa).cells
        (bindC (callEnvC fd s.heap.objs.size fa).kindOf ((F.names.map (·.1)).zip us) fun _ => none) s₁) :
    EnvOk F (callEnvC fd s.heap.objs.size fa) ∧ SR C s.heap f (callEnvC fd s.heap.objs.size fa) [] (fun _ => 0) (initSlots F.names args) f s₁.heap := by
  have hnm : (callEnvC fd s.heap.objs.size fa).scope.names = F.names := D.names
  have K : EnvOk F (callEnvC fd s.heap.objs.size fa) := by
    refine ⟨hnm, D.kind, D.nd, D.globals, D.bltn, by rw [D.fn]; rfl, D.code.symm, D.qual.symm, fun y hy => ?_⟩
    rcases hy with hy | hy
    · exact cellsFrom_some _ _ _ (.inl hy)
    · exact absurd rfl (D.nofree _ (by
        have : F.names.lookup y = some .free := by rw [← hnm]; exact hy
        exact mem_of_lookup this))
  refine ⟨K, ?_⟩
  have hL : (callEnvC fd s.heap.objs.size fa).locals = s.heap.objs.size := rfl
  have fnone : ∀ a, s.heap.objs.size ≤ a → f a = none := fun a ha => by
    cases e : f a with
    | none => rfl
    | some o => exact absurd (I.lt e) (Nat.not_lt.mpr ha)
  have cab : ∀ p ∈ (callEnvC fd s.heap.objs.size fa).cells, s.heap.objs.size < p.2 := fun p hp => x.above p.1 p.2 hp
  have sz : s.heap.objs.size ≤ s₁.heap.objs.size := by
    obtain ⟨o', _, _, e, _⟩ := x.toInCall.ns
    exact Nat.le_of_lt (Heap.lt_size e)
  have hus : us.length ≤ (F.names.map (·.1)).length := by rw [← R.length]; simpa using hle
  have nd' : (((F.names.map (·.1)).zip us).map (·.1)).Nodup := by
    have : ((F.names.map (·.1)).zip us).map (·.1) = (F.names.map (·.1)).take us.length := by
      exact zip_fst _ _
    rw [this]
    exact D.nd.sublist (List.take_sublist ..)
  have ncell : ((callEnvC fd s.heap.objs.size fa).cells.map (·.1)).Nodup := by
    show ((cellsFrom _ fd.scope.names []).map (·.1)).Nodup
    rw [D.names, cells_keys F.names _ 0 [] [] rfl]; exact D.ncell
  refine ⟨⟨fun a o e => x.toInCall.keep a o (I.sub a o e), I.gh, fun t ht => (I.tab t ht).mono (FLe.refl f) (I.tab t ht).1 fun o e => x.toInCall.keep _ _ e⟩, ⟨sz, fun a o e _ => x.toInCall.keep a o e, fun _ _ => rfl⟩,
    fun t ht => I.tlt ht, ⟨_, x.toInCall.ns⟩, Nat.le_refl _, fnone _ (Nat.le_refl _), fun p hp => ?_, x.apart, fun _ p hp => Nat.le_of_lt (cab p hp), (fun p hp => nomatch hp), List.Pairwise.nil, ?_, ?_, ?_⟩
  · refine ⟨?_, fnone _ (Nat.le_of_lt (cab p hp)), Nat.ne_of_gt (cab p hp), fun t ht => Nat.ne_of_gt (Nat.lt_trans (I.tlt ht) (cab p hp))⟩
    exact ⟨_, x.cell p.1 p.2 (lookup_mem ncell hp)⟩
  · rintro i ⟨y, k⟩ sl hy hsl
    have hy' : F.names[i]? = some (y, k) := by rw [← hnm]; exact hy
    unfold initSlots at hsl
    by_cases hi : i < args.length
    · rw [List.getElem?_append_left (by simpa using hi), List.getElem?_map] at hsl
      obtain ⟨v, hv, rfl⟩ := Option.map_eq_some_iff.mp hsl
      obtain ⟨u, hu, Ru⟩ := R.get hv
      refine ⟨u, ?_, Ru⟩
      have hz : ((F.names.map (·.1)).zip us)[i]? = some (y, u) := by
        rw [List.getElem?_zip_eq_some]; exact ⟨by rw [List.getElem?_map, hy']; rfl, hu⟩
      have hm := List.mem_of_getElem? hz
      have kd := K.kindOf hy'
      rcases hk i y k hi hy' with rfl | rfl
      · exact .inl ⟨kd, _, x.toInCall.ns, bindL_get nd' (.inl ⟨hm, kd⟩)⟩
      · obtain ⟨c, hc⟩ := Option.isSome_iff_exists.mp (K.cells y (.inl kd))
        refine .inr ⟨.inl kd, c, hc, ?_⟩
        have := x.cell y c hc
        rw [bindC_get nd' (.inl ⟨hm, kd⟩)] at this
        exact this
    · rw [List.getElem?_append_right (by simpa using hi)] at hsl
      have := List.mem_of_getElem? hsl
      rw [List.mem_replicate] at this
      rw [this.2]; trivial
  · intro i l hsl
    unfold initSlots at hsl
    have := List.mem_of_getElem? hsl
    simp at this
  · intro i j l l' hsl
    unfold initSlots at hsl
    have := List.mem_of_getElem? hsl
    simp at this

theorem code_def {C : Cx} {n : Nat} {F : Fs} {fa : Addr} {o : Obj} {fd : FuncData} {body : List Stmt} (D : DefOk C F fa o fd body) {args : List V} {res : V} {σ' : List Slot}
    (hle : args.length ≤ F.names.length) (hk : ∀ (i : Nat) (x : Str) (k : NameKind), i < args.length → F.names[i]? = some (x, k) → k = .local ∨ k = .cell)
    (hb : ∀ us : List Value, us.length = args.length → bindArgs fd ⟨us, []⟩ = pure ((F.names.map (·.1)).zip us))
    (hbody : Ex C n F body (initSlots F.names args) (.ret res) σ') {A : Around} {s : Shared} {f : Frz} {us : List Value} {R : Result → Shared → Prop} (r : Room (n + 1) A) (h0 : 0 < s.toks) (I : Inv C f s.heap) (Ra : RepAll f args us)
    (hR : ∀ h' k f' v, 0 < k → Inv C f' h' → Step C.T f s.heap f' h' → Rep f' res v → R (.ok (.ret v)) { s with heap := h', toks := k }) : codeAny (model C.prog C.w) A (.call (.ref fa) ⟨us, []⟩) R s := by
  have hkind : ∀ x ∈ (F.names.map (·.1)).zip us, fd.scope.names.lookup x.1 = some .local ∨ (fd.scope.names.lookup x.1 = some .cell ∧ ((cellsFrom (s.heap.objs.size + 1) fd.scope.names []).lookup x.1).isSome = true) := by
    intro x hx
    obtain ⟨i, hi, rfl⟩ := List.getElem_of_mem hx
    have hz := List.getElem?_eq_getElem hi
    rw [List.getElem?_zip_eq_some] at hz
    obtain ⟨hz1, hz2⟩ := hz
    rw [List.getElem?_map] at hz1
    obtain ⟨⟨y, k⟩, hy, he⟩ := Option.map_eq_some_iff.mp hz1
    have hlt : i < args.length := by
      have := (List.getElem?_eq_some_iff.mp hz2).1; rw [Ra.length]; exact this
    have kd : fd.scope.names.lookup y = some k := by rw [D.names]; exact lookup_get D.nd hy
    dsimp only at he
    rw [← he]
    rcases hk i y k hlt hy with rfl | rfl
    · exact .inl kd
    · exact .inr ⟨kd, cellsFrom_some _ _ _ (.inl kd)⟩
  have hrec : s.heap.CodeRec fd.code fd.qualname := by
    obtain ⟨c, oc, vs, t, h1, h2, h3, h4⟩ := D.rec_
    exact ⟨c, oc, vs, t, h1, I.ghost h2, h3, h4⟩
  refine codeAny_call_function (by have := r.depth; unfold recursionLimit; omega) (I.ghost D.at_) D.data D.co D.gen D.body hrec ?_
  rw [hb us Ra.length.symm, D.clo]
  refine wpAny_pure (wp_pos h0 (wpAny_newFunctionEnv_cells D.kind hkind fun env he s₁ x hk1 => ?_))
  subst he
  obtain ⟨K, S⟩ := start_sr D.toDefEnv I Ra hle hk x
  obtain ⟨h1, k1, rfl⟩ := x.toInCall.same
  refine ⟨(C.nolimit.keeps fun _ _ => I.ghost).keeps x.toInCall.keep, codeAny_func ?_⟩
  refine hbody (r.deeper _) K hk1 S fun h2 k2 f2 u oa2 p2 l2 S2 R2 => ?_
  cases R2 with | ret Rv =>
  exact hR h2 k2 f2 _ p2 S2.inv S2.st Rv
theorem Pu.of_def {C : Cx} {n : Nat} {F : Fs} {fa : Addr} {o : Obj} {fd : FuncData} {body : List Stmt} (D : DefOk C F fa o fd body) {args : List V} {res : V} {σ' : List Slot}
    (hle : args.length ≤ F.names.length) (hk : ∀ (i : Nat) (x : Str) (k : NameKind), i < args.length → F.names[i]? = some (x, k) → k = .local ∨ k = .cell)
    (hb : ∀ us : List Value, us.length = args.length → bindArgs fd ⟨us, []⟩ = pure ((F.names.map (·.1)).zip us))
    (hbody : Ex C n F body (initSlots F.names args) (.ret res) σ') : Pu C (n + 1) (fun us => PySem.call (.ref fa) us) args res := by
  intro A s f us E Q r h0 I Ra hQ
  exact wpAny_call (code_def D hle hk hb hbody r h0 I Ra fun h' k f' v p I' st R => hQ h' k f' v p I' st R)
end Mine
end
section
set_option tactic.hygienic false
open PySem PySem.Calls PySem.W PyProof.Rows
namespace Mine

theorem SR.step_add {C : Cx} {h₀ f₀ env X oa σ f h f' h'} (S : SR C h₀ f₀ env X oa σ f h) (I : Inv C f' h') (st : Step C.T f h f' h') {a o} (ha : h.objs.size ≤ a) (e : h'.get? a = some o) (fa : f' a = none) : SR C h₀ f₀ env ((a, o) :: X) oa σ f' h' := by
  have S' := S.step I st
  have nx : a ∉ X.map (·.1) := fun hm => by
    obtain ⟨p, hp, q⟩ := List.mem_map.mp hm
    have := Heap.lt_size (S.x p hp).1
    rw [q] at this; exact Nat.lt_irrefl _ (Nat.lt_of_lt_of_le this ha)
  refine ⟨S'.inv, S'.st, S'.t0, S'.ns, S'.low, S'.fL, S'.cell, S'.capart, S'.cw, fun p hp => ?_, List.nodup_cons.mpr ⟨nx, S.xd⟩, S'.s1, fun i l hs => ?_, S'.s3⟩
  · rcases List.mem_cons.mp hp with rfl | hp
    · refine ⟨e, Nat.le_trans S.st.size ha, fa, Nat.ne_of_gt (Nat.lt_of_lt_of_le S.get_lt ha), fun p hp => ?_⟩
      obtain ⟨⟨v, q⟩, _⟩ := S.cell p hp
      exact Nat.ne_of_gt (Nat.lt_of_lt_of_le q.lt ha)
    · exact S'.x p hp
  · obtain ⟨a1, a2, a3⟩ := S'.s2 i l hs
    refine ⟨a1, fun hm => ?_, a3⟩
    rcases List.mem_cons.mp hm with q | q
    · exact absurd q (Nat.ne_of_lt (Nat.lt_of_lt_of_le (S.s2 i l hs).2.2 ha))
    · exact a2 q

noncomputable def freeCells (cells : List (Str × Addr)) : List (Str × NameKind) → List (Str × Addr) → List (Str × Addr)
  | [], cs => cs
  | (x, k) :: r, cs => if k == .free then freeCells cells r ((x, (cells.lookup x).getD 0) :: cs) else freeCells cells r cs
theorem closureFor_ok {scope : Scope} {env : Env} (h : ∀ x, (x, NameKind.free) ∈ scope.names → ∃ c, env.cells.lookup x = some c) : closureFor scope env = pure (freeCells env.cells scope.names []) := by
  have key : ∀ (l : List (Str × NameKind)) (cs : List (Str × Addr)), (∀ x, (x, NameKind.free) ∈ l → ∃ c, env.cells.lookup x = some c) →
      (forIn l cs fun (x : Str × NameKind) (r : List (Str × Addr)) => if x.2 == NameKind.free then (do let y ← cellOf env x.1; pure (ForInStep.yield ((x.1, y) :: r))) else pure (ForInStep.yield r) : Sem _) = pure (freeCells env.cells l cs) := by
    intro l
    induction l with
    | nil => intro cs _; rfl
    | cons p r ih =>
      intro cs hl
      obtain ⟨x, k⟩ := p
      rw [List.forIn_cons]
      unfold freeCells
      by_cases hk : (k == NameKind.free) = true
      · have e : k = .free := by simpa using hk
        subst e
        obtain ⟨c, hc⟩ := hl x (List.mem_cons_self ..)
        have e2 : cellOf env x = pure c := by unfold cellOf; rw [hc]
        simp only [beq_self_eq_true, if_true, e2, hc, Option.getD_some]
        exact ih _ fun y hy => hl y (List.mem_cons_of_mem _ hy)
      · simp only [hk]
        exact ih _ fun y hy => hl y (List.mem_cons_of_mem _ hy)
  have := key scope.names [] h
  unfold closureFor
  show (forIn scope.names [] fun (x : Str × NameKind) (r : List (Str × Addr)) => _) >>= (fun cs => pure cs) = _
  have e : (fun (x : Str × NameKind) (r : List (Str × Addr)) => if x.2 == NameKind.free then (do let y ← cellOf env x.1; pure (ForInStep.yield ((x.1, y) :: r))) else pure (ForInStep.yield r) : Str × NameKind → List (Str × Addr) → Sem _) =
      fun x __s => match x with
        | (name, kind) => if (kind == NameKind.free) = true then (do let __do_lift ← cellOf env name; pure (ForInStep.yield ((name, __do_lift) :: __s))) else pure (ForInStep.yield __s) := by
    funext x r; rfl
  rw [e] at this
  exact (congrArg (fun t => t >>= fun cs => pure cs) this).trans rfl
set_option tactic.hygienic true in
theorem freeCells_mem {cells : List (Str × Addr)} : ∀ {l : List (Str × NameKind)} {cs : List (Str × Addr)} {p : Str × Addr}, p ∈ freeCells cells l cs → p ∈ cs ∨ ((p.1, NameKind.free) ∈ l ∧ p.2 = (cells.lookup p.1).getD 0)
  | [], cs, p, h => .inl h
  | (x, k) :: r, cs, p, h => by
    unfold freeCells at h
    split at h
    · rename_i hk
      rcases freeCells_mem h with h | h
      · rcases List.mem_cons.mp h with rfl | h
        · have : k = .free := by simpa using hk
          subst this; exact .inr ⟨List.mem_cons_self .., rfl⟩
        · exact .inl h
      · exact .inr ⟨List.mem_cons_of_mem _ h.1, h.2⟩
    · rcases freeCells_mem h with h | h
      · exact .inl h
      · exact .inr ⟨List.mem_cons_of_mem _ h.1, h.2⟩
theorem freeCells_keys {cells : List (Str × Addr)} : ∀ {l : List (Str × NameKind)} {cs : List (Str × Addr)}, (l.map (·.1)).Nodup → (cs.map (·.1)).Nodup → (∀ x ∈ cs.map (·.1), x ∉ l.map (·.1)) → ((freeCells cells l cs).map (·.1)).Nodup
  | [], cs, _, h, _ => h
  | (x, k) :: r, cs, nd, h, h2 => by
    obtain ⟨n1, n2⟩ := List.nodup_cons.mp nd
    unfold freeCells
    split
    · refine freeCells_keys n2 (List.nodup_cons.mpr ⟨fun q => h2 x q (List.mem_cons_self ..), h⟩) fun y hy q => ?_
      rcases List.mem_cons.mp hy with rfl | hy
      · exact n1 q
      · exact h2 y hy (List.mem_cons_of_mem _ q)
    · exact freeCells_keys n2 h fun y hy q => h2 y hy (List.mem_cons_of_mem _ q)
set_option tactic.hygienic true in
theorem freeCells_has {cells : List (Str × Addr)} : ∀ {l : List (Str × NameKind)} {cs : List (Str × Addr)} {x : Str}, ((x, NameKind.free) ∈ l ∨ x ∈ cs.map (·.1)) → x ∈ (freeCells cells l cs).map (·.1)
  | [], cs, x, h => by rcases h with h | h <;> first | cases h | exact h
  | (y, k) :: r, cs, x, h => by
    unfold freeCells
    split
    · refine freeCells_has ?_
      rcases h with h | h
      · rcases List.mem_cons.mp h with e | h
        · cases e; exact .inr (List.mem_cons_self ..)
        · exact .inl h
      · exact .inr (List.mem_cons_of_mem _ h)
    · rename_i hk
      refine freeCells_has ?_
      rcases h with h | h
      · rcases List.mem_cons.mp h with e | h
        · cases e; simp at hk
        · exact .inl h
      · exact .inr h

noncomputable def relabelN (F : Fs) (names : List (Str × NameKind)) : List (Str × NameKind) := names.map fun x => if (x.2 == NameKind.free && F.names.lookup x.1 == some .cell) then (x.1, .cell) else x
noncomputable def compFs (F : Fs) (names : List (Str × NameKind)) : Fs := { names := names, fn := false, code := F.code, qual := F.qual }

/-- what is asked of a comprehension's own table of names, against the frame it stands in -/
structure CompOk (F : Fs) (scope : Scope) (names : List (Str × NameKind)) (σ τ : List Slot) : Prop where
  kind : scope.kind = .function
  nocell : ∀ x ∈ scope.names, x.2 ≠ .cell
  nd : (scope.names.map (·.1)).Nodup
  re : relabelN F scope.names = names
  cap : ∀ (j : Nat) (x : Str), scope.names[j]? = some (x, .free) → ∃ (i : Nat) (k : NameKind) (v : V), F.names[i]? = some (x, k) ∧ (k = NameKind.cell ∨ k = NameKind.free) ∧ σ[i]? = some (Slot.val v) ∧ τ[j]? = some (Slot.val v)
  rest : ∀ (j : Nat) (x : Str) (k : NameKind), scope.names[j]? = some (x, k) → k ≠ NameKind.free → ∀ sl : Slot, τ[j]? = some sl → sl = Slot.unset
  far : ∀ (j : Nat) (sl : Slot), τ[j]? = some sl → (∃ x, scope.names[j]? = some x) ∨ sl = Slot.unset

theorem relabelN_fst (F : Fs) (l : List (Str × NameKind)) : (relabelN F l).map (·.1) = l.map (·.1) := by
  unfold relabelN
  rw [List.map_map]
  congr 1; funext x
  show (if _ then _ else _ : Str × NameKind).1 = _
  split <;> rfl

set_option tactic.hygienic true in
theorem comp_frame {C : Cx} {F : Fs} {env : Env} {h₀ f₀ X oa σ f h} {scope : Scope} {names : List (Str × NameKind)} {τ : List Slot} (K : EnvOk F env) (S : SR C h₀ f₀ env X oa σ f h) (O : CompOk F scope names σ τ)
    {h' : Heap} (hk : ∀ b o, h.get? b = some o → h'.get? b = some o) (hz : h.objs.size ≤ h'.objs.size) {L : Addr} (hL : h.objs.size ≤ L) {m} (hn : h'.Ns L m) {Y : List (Addr × Obj)}
    (hY : ∀ p ∈ Y, h'.get? p.1 = some p.2 ∧ h.objs.size ≤ p.1 ∧ p.1 ≠ L) (hYd : (Y.map (·.1)).Nodup) :
    closureFor scope env = pure (freeCells env.cells scope.names []) ∧ EnvOk (compFs F names) (compEnvC scope (freeCells env.cells scope.names []) L env) ∧
    SR C h f (compEnvC scope (freeCells env.cells scope.names []) L env) Y (fun _ => 0) τ f h' := by
  have fr : ∀ x, (x, NameKind.free) ∈ scope.names → ∃ c v, env.cells.lookup x = some c ∧ h.IsCell c (some v) ∧ (∃ w, Rep f w v ∧ ∀ j : Nat, scope.names[j]? = some (x, NameKind.free) → τ[j]? = some (Slot.val w)) := by
    intro x hx
    obtain ⟨j, hj⟩ := List.getElem?_of_mem hx
    obtain ⟨i, k, w, h1, h2, h3, h4⟩ := O.cap j x hj
    obtain ⟨u, lv, R⟩ := S.val K h1 h3
    have kd := K.kindOf h1
    rcases lv with ⟨q, _⟩ | ⟨_, c, e, ic⟩
    · rw [kd] at q; rcases h2 with rfl | rfl <;> cases q
    · refine ⟨c, u, e, ic, w, R, fun j' hj' => ?_⟩
      have : j = j' := by
        by_cases q : j = j'
        · exact q
        · exact absurd rfl (name_ne O.nd hj hj' q)
      subst this; exact h4
  have fnone : ∀ a, h.objs.size ≤ a → f a = none := fun a ha => by
    cases e : f a with
    | none => rfl
    | some o => exact absurd (S.inv.lt e) (Nat.not_lt.mpr ha)
  have hcl : ∀ p ∈ freeCells env.cells scope.names [], (p.1, NameKind.free) ∈ scope.names ∧ env.cells.lookup p.1 = some p.2 := fun p hp => by
    rcases freeCells_mem hp with q | ⟨q1, q2⟩
    · cases q
    · obtain ⟨c, v, e, _⟩ := fr _ q1
      rw [e] at q2
      exact ⟨q1, by rw [e, q2]; rfl⟩
  have nm : (compEnvC scope (freeCells env.cells scope.names []) L env).scope.names = names := by
    rw [← O.re]
    show (relabel scope env).names = _
    unfold relabel relabelN
    dsimp only
    congr 1; funext x
    obtain ⟨y, k⟩ := x
    have : env.kindOf y = F.names.lookup y := by unfold Env.kindOf; rw [K.names]
    rw [K.kind, this]
    simp
  have kNd : (names.map (·.1)).Nodup := by rw [← O.re, relabelN_fst]; exact O.nd
  have ckeys : ((freeCells env.cells scope.names []).map (·.1)).Nodup := freeCells_keys O.nd List.nodup_nil fun _ q => nomatch q
  have nmj : ∀ {j : Nat} {y : Str} {k : NameKind}, names[j]? = some (y, k) → ∃ k', scope.names[j]? = some (y, k') ∧ (k = k' ∨ k' = .free ∧ k = .cell) := by
    intro j y k e
    rw [← O.re] at e
    unfold relabelN at e
    rw [List.getElem?_map] at e
    obtain ⟨⟨y', k'⟩, e1, e2⟩ := Option.map_eq_some_iff.mp e
    dsimp only at e2
    split at e2
    · rename_i q
      cases e2
      simp only [Bool.and_eq_true, beq_iff_eq] at q
      exact ⟨_, e1, .inr ⟨q.1, rfl⟩⟩
    · cases e2; exact ⟨_, e1, .inl rfl⟩
  have KC : EnvOk (compFs F names) (compEnvC scope (freeCells env.cells scope.names []) L env) := by
    refine ⟨nm, O.kind, kNd, K.globals, K.bltn, rfl, K.code, K.qual, fun x hx => ?_⟩
    have hx' : ∃ k, names.lookup x = some k ∧ (k = .cell ∨ k = .free) := by
      unfold Env.kindOf at hx
      rw [nm] at hx
      rcases hx with q | q
      · exact ⟨_, q, .inl rfl⟩
      · exact ⟨_, q, .inr rfl⟩
    obtain ⟨k, q, qk⟩ := hx'
    obtain ⟨j, hj⟩ := List.getElem?_of_mem (mem_of_lookup q)
    obtain ⟨k', e1, e2⟩ := nmj hj
    have hf : k' = NameKind.free := by
      rcases e2 with q | ⟨q, _⟩
      · rcases qk with rfl | rfl
        · exact absurd q.symm (O.nocell _ (List.mem_of_getElem? e1))
        · exact q.symm
      · exact q
    subst hf
    have := freeCells_has (cells := env.cells) (cs := []) (.inl (List.mem_of_getElem? e1))
    obtain ⟨p, hp, rfl⟩ := List.mem_map.mp this
    show ((freeCells env.cells scope.names []).lookup p.1).isSome = true
    rw [lookup_mem ckeys hp]; rfl
  refine ⟨closureFor_ok fun x hx => by obtain ⟨c, v, e, _⟩ := fr x hx; exact ⟨c, e⟩, KC, ⟨⟨fun b o e => hk _ _ (S.inv.sub _ _ e), S.inv.gh, fun t ht => (S.inv.tab t ht).mono (FLe.refl f) (S.inv.tab t ht).1 fun o e => hk _ _ e⟩,
    ⟨hz, fun b o e _ => hk b o e, fun _ _ => rfl⟩, fun t ht => S.inv.tlt ht, ⟨m, hn⟩, hL, fnone _ hL, fun p hp => ?_, ?_, fun q => (by cases q), fun p hp => ?_, hYd, ?_, ?_, ?_⟩⟩
  · obtain ⟨h1, h2⟩ := hcl p hp
    obtain ⟨⟨v, o, e, d⟩, r1, r2, r3⟩ := S.cell _ (mem_of_lookup h2)
    exact ⟨⟨v, o, hk _ _ e, d⟩, r1, Nat.ne_of_lt (Nat.lt_of_lt_of_le (Heap.lt_size e) hL), r3⟩
  · -- the cells stand apart
    have : ∀ (l : List (Str × Addr)), (l.map (·.1)).Nodup → (∀ p ∈ l, env.cells.lookup p.1 = some p.2) → l.Pairwise fun x y => x.2 ≠ y.2 := by
      intro l
      induction l with
      | nil => intro _ _; exact List.Pairwise.nil
      | cons p r ih =>
        intro nd hm
        obtain ⟨n1, n2⟩ := List.nodup_cons.mp nd
        refine List.Pairwise.cons (fun q hq e => ?_) (ih n2 fun q hq => hm q (List.mem_cons_of_mem _ hq))
        have a1 := mem_of_lookup (hm p (List.mem_cons_self ..))
        have a2 := mem_of_lookup (hm q (List.mem_cons_of_mem _ hq))
        have := name_of_addr S.capart a1 (e ▸ a2)
        exact n1 (List.mem_map.mpr ⟨q, hq, this.symm⟩)
    exact this _ ckeys fun p hp => (hcl p hp).2
  · obtain ⟨h1, h2, h3⟩ := hY p hp
    refine ⟨h1, h2, fnone _ h2, h3, fun q hq => ?_⟩
    obtain ⟨_, e⟩ := hcl q hq
    obtain ⟨⟨v, ic⟩, _⟩ := S.cell _ (mem_of_lookup e)
    exact Nat.ne_of_gt (Nat.lt_of_lt_of_le ic.lt h2)
  · rintro j ⟨y, k⟩ sl hy hsl
    rw [nm] at hy
    obtain ⟨k', e1, e2⟩ := nmj hy
    by_cases hf : k' = .free
    · subst hf
      obtain ⟨c, v, e, ic, w, R, ht⟩ := fr y (List.mem_of_getElem? e1)
      have := ht j e1
      rw [this] at hsl; cases hsl
      have kd := KC.kindOf (F := compFs F names) hy
      have hin := freeCells_has (cells := env.cells) (cs := []) (.inl (List.mem_of_getElem? e1))
      obtain ⟨p, hp, rfl⟩ := List.mem_map.mp hin
      have e' := (hcl p hp).2
      rw [e] at e'; cases e'
      refine ⟨v, .inr ⟨?_, p.2, lookup_mem ckeys hp, ic.keeps fun b o q => hk b o q⟩, R⟩
      rcases e2 with rfl | ⟨_, rfl⟩
      · exact .inr kd
      · exact .inl kd
    · have := O.rest j y k' e1 hf sl hsl
      subst this; trivial
  · intro i l hsl
    rcases O.far i _ hsl with ⟨⟨y, k⟩, hy⟩ | q
    · by_cases hf : k = .free
      · subst hf
        obtain ⟨_, _, w, _, _, _, ht⟩ := O.cap i y hy
        rw [ht] at hsl; cases hsl
      · have := O.rest i y k hy hf _ hsl; cases this
    · cases q
  · intro i j l l' hsl
    rcases O.far i _ hsl with ⟨⟨y, k⟩, hy⟩ | q
    · by_cases hf : k = .free
      · subst hf
        obtain ⟨_, _, w, _, _, _, ht⟩ := O.cap i y hy
        rw [ht] at hsl; cases hsl
      · have := O.rest i y k hy hf _ hsl; cases this
    · cases q
end Mine
end
section
set_option tactic.hygienic false
open PySem PySem.Calls PySem.W PyProof.Rows
namespace Mine

theorem SR.swapX {C : Cx} {h₀ f₀ env X oa σ f h p q} (S : SR C h₀ f₀ env (p :: q :: X) oa σ f h) : SR C h₀ f₀ env (q :: p :: X) oa σ f h := by
  have mem : ∀ r : Addr × Obj, r ∈ q :: p :: X → r ∈ p :: q :: X := fun r hr => by
    rcases List.mem_cons.mp hr with e | hr
    · exact e ▸ List.mem_cons_of_mem _ (List.mem_cons_self ..)
    · rcases List.mem_cons.mp hr with e | hr
      · exact e ▸ List.mem_cons_self ..
      · exact List.mem_cons_of_mem _ (List.mem_cons_of_mem _ hr)
  have perm : ((q :: p :: X).map (·.1)).Perm ((p :: q :: X).map (·.1)) := List.Perm.swap ..
  exact ⟨S.inv, S.st, S.t0, S.ns, S.low, S.fL, S.cell, S.capart, S.cw, fun r hr => S.x r (mem r hr), perm.nodup_iff.mpr S.xd, S.s1, fun i l hs => ⟨(S.s2 i l hs).1, fun hm => (S.s2 i l hs).2.1 (perm.mem_iff.mp hm), (S.s2 i l hs).2.2⟩, S.s3⟩

theorem compLoop_any {prog : Program} {w : World} {A : Around} {R : Result → Shared → Prop} {s : Shared} {elt target iter : PySem.Expr} {ifs : List PySem.Expr} {scope : Scope} {pos : Pos} {it acc : Value} {env : Env} (I : Nat → Shared → Prop)
    (turn : ∀ n s, I n s → wpAny (model prog w) A (pyNext it) (fun r s₁ => match r with
      | none => R (.ok .next) s₁
      | some v => wpAny (model prog w) A (letOwnedTupleGo target it v) (fun _ s₁' => wpAny (model prog w) A (assign target env v) (fun _ s₂ =>
          wpAny (model prog w) A (forIn ifs true fun c r => if r = true then do let ok ← isTrue c env (eval c env); pure (ForInStep.yield ok) else pure (ForInStep.yield r)) (fun ok s₃ =>
            if ok = true then wpAny (model prog w) A (eval elt env) (fun x s₄ =>
              wpAny (model prog w) A (PySem.call (.builtin "list.append") [acc, x]) (fun _ s₅ => ∃ m, m < n ∧ I m s₅) (notedBy (model prog w) A env fun e s' => R (.error e) s') s₄) (notedBy (model prog w) A env fun e s' => R (.error e) s') s₃
            else ∃ m, m < n ∧ I m s₃) (notedBy (model prog w) A env fun e s' => R (.error e) s') s₂) (notedBy (model prog w) A env fun e s' => R (.error e) s') s₁') (notedBy (model prog w) A env fun e s' => R (.error e) s') s₁) (notedBy (model prog w) A env fun e s' => R (.error e) s') s)
    (n : Nat) (h : I n s) : codeAny (model prog w) A (.compLoop (.ListComp elt [⟨target, iter, ifs, 0⟩] scope pos) 0 it acc env) R s := by
  refine codeAny_loop rfl I (fun n s hI => ?_) n h
  show wpAny _ A ((compTurn (.ListComp elt [⟨target, iter, ifs, 0⟩] scope pos) 0 it acc env).onRaise (fun x => do noteFrame x env; theTreesLotGoes x)) _ _ s
  refine wpAny_noted ?_
  rw [compTurn_list]
  refine wpAny_bind (wpAny_standAt (wpAny_bind (wpAny_mono (turn n s hI) (fun r s₁ h₁ => ?_) fun _ _ h' => h')))
  cases r with
  | none => exact wpAny_pure h₁
  | some v =>
    refine wpAny_bind (wpAny_mono h₁ (fun _ s₁' h₁' => ?_) fun _ _ h' => h')
    refine wpAny_bind (wpAny_mono h₁' (fun _ s₂ h₂ => wpAny_bind (wpAny_mono h₂ (fun ok s₃ h₃ => ?_) fun _ _ h' => h')) fun _ _ h' => h')
    cases ok with
    | false => exact wpAny_pure ⟨rfl, h₃⟩
    | true =>
      exact wpAny_bind (wpAny_bind (wpAny_mono h₃ (fun x s₄ h₄ => wpAny_bind (wpAny_mono h₄ (fun _ s₅ h₅ => wpAny_pure (wpAny_pure ⟨rfl, h₅⟩)) fun _ _ h' => h')) fun _ _ h' => h'))

inductive Ct (C : Cx) (n : Nat) (F : Fs) : List PySem.Expr → List Slot → Bool → List Slot → Prop
  | nil {σ : List Slot} : Ct C n F [] σ true σ
  | one {c : PySem.Expr} {σ σ' : List Slot} {b : Bool} : It C n F c σ b σ' → Ct C n F [c] σ b σ'
inductive Cp (C : Cx) (n : Nat) (F : Fs) (t : PySem.Expr) (ifs : List PySem.Expr) (elt : PySem.Expr) : List V → List Slot → List V → List Slot → Prop
  | nil {τ : List Slot} : Cp C n F t ifs elt [] τ [] τ
  | take {x v : V} {xs vs : List V} {τ τ₁ τ₂ τ₃ τ' : List Slot} : As C F t x τ τ₁ → Ct C n F ifs τ₁ true τ₂ → Ev C n F elt τ₂ v τ₃ → Cp C n F t ifs elt xs τ₃ vs τ' → Cp C n F t ifs elt (x :: xs) τ (v :: vs) τ'
  | skip {x : V} {xs vs : List V} {τ τ₁ τ₂ τ' : List Slot} : As C F t x τ τ₁ → Ct C n F ifs τ₁ false τ₂ → Cp C n F t ifs elt xs τ₂ vs τ' → Cp C n F t ifs elt (x :: xs) τ vs τ'

section
variable {C : Cx} {n : Nat} {F : Fs} {σ σ' σ₁ σ₂ σ₃ : List Slot} {v a b c : V}

theorem Ct.run {ifs : List PySem.Expr} {τ τ' : List Slot} {b : Bool} (h : Ct C n F ifs τ b τ') {A env s f X oa h₀ f₀ E} {Q : Bool → Shared → Prop} (r : Room n A) (K : EnvOk F env) (h0 : 0 < s.toks) (S : SR C h₀ f₀ env X oa τ f s.heap)
    (hQ : ∀ h' k f', 0 < k → FLe f f' → SR C h₀ f₀ env X oa τ' f' h' → Q b { s with heap := h', toks := k }) :
    wpAny (model C.prog C.w) A (forIn ifs true fun c r => if r = true then do let ok ← isTrue c env (eval c env); pure (ForInStep.yield ok) else pure (ForInStep.yield r)) Q E s := by
  cases h with
  | nil => exact wpAny_tests_nil (hQ s.heap s.toks f h0 (FLe.refl f) S)
  | one h => exact wpAny_tests_one (h r K h0 S hQ)

inductive CompI (C : Cx) (n : Nat) (F : Fs) (env : Env) (h₀ : Heap) (f₀ : Frz) (t : PySem.Expr) (ifs : List PySem.Expr) (elt : PySem.Expr) (l res : List V) (Kt : Heap → Addr → Nat → Prop) (f1 : Frz) (it D : Addr) (s₀ : Shared) (τ' : List Slot) : Nat → Shared → Prop
  | mk (i : Nat) (hi : i ≤ l.length) {o : Obj} {f : Frz} {h : Heap} {k : Nat} {us : List Value} {m : Nat} {τ : List Slot} {done rest : List V} (cp : Cp C n F t ifs elt (l.drop i) τ rest τ') (hres : done ++ rest = res) (hdl : done.length ≤ i) (hk : 0 < k) (le : FLe f1 f)
    (S : SR C h₀ f₀ env [(it, o), (D, listObj us m)] (fun _ => 0) τ f h) (Rd : RepAll f done us) (hK : Kt h it i) : CompI C n F env h₀ f₀ t ifs elt l res Kt f1 it D s₀ τ' (l.length - i) { s₀ with heap := h, toks := k }
theorem comp_core {A : Around} {env : Env} {h₀ f₀} {t elt iter : PySem.Expr} {ifs : List PySem.Expr} {scope : Scope} {pos : Pos} {l res : List V} {Kt : Heap → Addr → Nat → Prop} {f1 : Frz} {it D : Addr} {s₀ : Shared} {R : Result → Shared → Prop} (r : Room n A) (K : EnvOk F env)
    (T : Itr C Kt f1 l) (hz : l.length ≤ 1000000)
    (hR : ∀ h' k f' us m τ, 0 < k → FLe f1 f' → SR C h₀ f₀ env [(D, listObj us m)] (fun _ => 0) τ f' h' → RepAll f' res us → R (.ok .next) { s₀ with heap := h', toks := k })
    {o f h k us m τ τ'} (cp : Cp C n F t ifs elt l τ res τ') (hk : 0 < k) (le : FLe f1 f)
    (S : SR C h₀ f₀ env [(it, o), (D, listObj us m)] (fun _ => 0) τ f h) (Rd : RepAll f [] us) (hK : Kt h it 0) :
    codeAny (model C.prog C.w) A (.compLoop (.ListComp elt [⟨t, iter, ifs, 0⟩] scope pos) 0 (.ref it) (.ref D) env) R { s₀ with heap := h, toks := k } := by
  refine compLoop_any (CompI C n F env h₀ f₀ t ifs elt l res Kt f1 it D s₀ τ') (fun q s I => ?_) _ (.mk 0 (Nat.zero_le _) cp (List.nil_append _) (Nat.le_refl _) hk le S Rd hK)
  clear cp hk le S Rd hK
  cases I with | @mk i hi o f h k us m τ done rest cp hres hdl hk le S Rd hK =>
  have O := (S.x _ (List.mem_cons_self ..)).2
  by_cases hlt : i < l.length
  · rw [List.drop_eq_getElem_cons hlt] at cp
    refine T.next (v := l[i]) hK S.inv le O.frz (List.getElem?_eq_getElem hlt) hk fun h1 k1 u p1 hK1 hs R1 => ?_
    obtain ⟨o1, e1⟩ := T.has hK1
    have S1 := S.updX hs e1
    refine T.lets hK1 ?_
    have keepK : ∀ {h3 : Heap} {f3 : Frz} {X3 τ3}, SR C h₀ f₀ env ((it, o1) :: X3) (fun _ => 0) τ3 f3 h3 → Kt h3 it (i + 1) := fun S3 => T.keep hK1 fun q e => by
      rw [e1] at e; cases e; exact (S3.x _ (List.mem_cons_self ..)).1
    cases cp with
    | take ha hc he hr =>
      refine ha (r.le (Nat.zero_le _)) K p1 S1 R1 fun h2 k2 f2 p2 l2 S2 => hc.run r K p2 S2 fun h3 k3 f3 p3 l3 S3 => ?_
      rw [if_pos rfl]
      refine he r K p3 S3 fun h4 k4 f4 u4 p4 l4 S4 R4 => ?_
      have S4' := S4.swapX
      refine wp_pos p4 (append_at (S4'.x _ (List.mem_cons_self ..)).1 (fun h5 hs5 e5 p5 => ?_) ?_)
      · have S5 := (S4'.updX hs5 (o' := listObj (us ++ [u4]) (m + 1)) (by rw [e5]; simp [listObj])).swapX
        exact ⟨_, sub_turn hlt, .mk (i + 1) hlt hr (by rw [← hres, List.append_assoc]; rfl) (by rw [List.length_append]; exact Nat.succ_le_succ hdl) p4 (le.trans (l2.trans (l3.trans l4))) S5
          ((RepAll.mono (l2.trans (l3.trans l4)) Rd).append (.cons R4 .nil)) (keepK S5)⟩
      · rw [List.size_toArray, ← Rd.length, sizeLine_eq]; exact Nat.le_trans (Nat.le_trans hdl hi) (Nat.le_trans hz (by decide))
    | skip ha hc hr =>
      refine ha (r.le (Nat.zero_le _)) K p1 S1 R1 fun h2 k2 f2 p2 l2 S2 => hc.run r K p2 S2 fun h3 k3 f3 p3 l3 S3 => ?_
      rw [if_neg (by decide)]
      exact ⟨_, sub_turn hlt, .mk (i + 1) hlt hr hres (Nat.le_succ_of_le hdl) p3 (le.trans (l2.trans l3)) S3 (RepAll.mono (l2.trans l3) Rd) (keepK S3)⟩
  · have hge := Nat.le_of_not_lt hlt
    rw [List.drop_eq_nil_of_le hge] at cp
    cases cp
    rw [List.append_nil] at hres
    exact wpAny_grow (wp_pos hk (T.stop (f := f) r.hd hK S.inv le O.frz (List.getElem?_eq_none hge) fun h1 hs p1 g1 => hR h1 k f us m _ p1 le (S.endX hs g1) (hres ▸ Rd)))

/-- what stands when a comprehension is through: the frame it stands in, its own table laid aside, the list frozen -/
theorem comp_all {use : Option (Value → Sem Unit)} {A : Around} {env : Env} {s : Shared} {f : Frz} {X oa h₀ f₀ E} {elt t iter : PySem.Expr} {ifs : List PySem.Expr} {scope : Scope} {pos spos : Pos} {names : List (Str × NameKind)} {τ τ' : List Slot} {l res : List V} {Q : Value → Shared → Prop}
    (hv : Ev C n F iter σ v σ₁) (hp : PyIt C n v l) (hz : l.length ≤ 1000000) (O : CompOk F scope names σ₁ τ) (cp : Cp C n (compFs F names) t ifs elt l τ res τ')
    (hs : ∀ env x, foldedSetIterable iter env x = pure x)
    (r : Room n A) (K : EnvOk F env) (h0 : 0 < s.toks) (S : SR C h₀ f₀ env X oa σ f s.heap)
    (hQ : ∀ h' k f' L o D, 0 < k → FLe f f' → SR C h₀ f₀ env ((L, o) :: X) oa σ₁ f' h' → Rep f' (.list res) (.ref D) → (∃ m, h'.Ns L m) → compPost (model C.prog C.w) A E use Q (.ref D) L (.ok .next) { s with heap := h', toks := k }) :
    wpAny (model C.prog C.w) A (comprehension (.ListComp elt [⟨t, iter, ifs, 0⟩] scope pos) scope env spos (newList []) false (eval iter env) use) Q E s := by
  have hnm : ∀ x ∈ scope.names, x.2 = .local → scope.names.lookup x.1 = some .local := fun x hx hl => by
    have := lookup_mem O.nd hx; rw [hl] at this; exact this
  -- the cells that it reads are known once the first iterable is: they hang on the frame alone
  have hclos : closureFor scope env = pure (freeCells env.cells scope.names []) := by
    refine closureFor_ok fun x hx => ?_
    obtain ⟨j, hj⟩ := List.getElem?_of_mem hx
    obtain ⟨i, k, w, h1, h2, _⟩ := O.cap j x hj
    have kd := K.kindOf h1
    exact Option.isSome_iff_exists.mp (K.cells x (by rcases h2 with rfl | rfl <;> simp [kd]))
  refine wpAny_comprehension_free (cl := freeCells env.cells scope.names []) rfl (hs env) hclos O.kind hnm ?_
  refine hv r K h0 S fun g1 k1 f1 u1 p1 l1 S1 R1 => hp r p1 S1.inv R1 fun o Kt k2 p2 ho T hK => ?_
  refine wpAny_newObj_type ?_ (by show (0 : Nat) ≤ sizeLine; exact Nat.zero_le _)
  refine wpAny_newFunctionEnv O.nocell (fun x hx => nomatch hx) (fun h4 hns hsb => ?_) O.kind
  dsimp only at hns hsb ⊢
  have z2 : (g1.push o).objs.size = g1.objs.size + 1 := Heap.size_push ..
  have z3 : ((g1.push o).push (listObj [] 0)).objs.size = g1.objs.size + 2 := by rw [Heap.size_push, z2]
  have keep4 : ∀ b p, ((g1.push o).push (listObj [] 0)).get? b = some p → h4.get? b = some p := fun b p e =>
    hsb.extBut b p (Nat.ne_of_lt (Heap.lt_size e)) (Heap.get?_push_of_some _ e)
  have keep : ∀ b p, g1.get? b = some p → h4.get? b = some p := fun b p e => keep4 b p (Heap.get?_push_of_some _ (Heap.get?_push_of_some _ e))
  have hsize : h4.objs.size = g1.objs.size + 3 := by rw [hsb.1, Heap.size_push]; show ((g1.push o).push (listObj [] 0)).objs.size + 1 = _; rw [z3]
  have eit : h4.get? g1.objs.size = some o := keep4 _ _ (Heap.get?_push_of_some _ (Heap.get?_push_size _ ho))
  have eD : h4.get? (g1.objs.size + 1) = some (listObj [] 0) := keep4 _ _ (by have := Heap.get?_push_size (g1.push o) (o := listObj [] 0) rfl; rw [z2] at this; exact this)
  obtain ⟨_, KC, SC⟩ := comp_frame K S1 O (h' := h4) keep (by omega) (L := ((g1.push o).push (listObj [] 0)).objs.size) (by rw [z3]; omega) hns (Y := [(g1.objs.size, o), (g1.objs.size + 1, listObj [] 0)])
    (fun p hp => by
      rcases List.mem_cons.mp hp with rfl | hp
      · exact ⟨eit, Nat.le_refl _, by rw [z3]; simp⟩
      · rcases List.mem_cons.mp hp with rfl | hp
        · exact ⟨eD, Nat.le_succ _, by rw [z3]; simp⟩
        · cases hp) (by simp)
  have hK4 : Kt h4 g1.objs.size 0 := T.keep hK fun q e => keep4 _ _ (Heap.get?_push_of_some _ e)
  have loop : ∀ k', 0 < k' → codeAny (model C.prog C.w) A (.compLoop (.ListComp elt [⟨t, iter, ifs, 0⟩] scope pos) 0 (.ref g1.objs.size) (.ref (g1.objs.size + 1)) (compEnvC scope (freeCells env.cells scope.names []) ((g1.push o).push (listObj [] 0)).objs.size env))
      (compPost (model C.prog C.w) A E use Q (.ref (g1.objs.size + 1)) ((g1.push o).push (listObj [] 0)).objs.size) { s with heap := h4, toks := k' } := fun k' hk' => by
    refine comp_core (res := res) r KC T hz (fun h5 k5 f5 us m τ5 p5 l5 S5 R5 => ?_) cp hk' (FLe.refl f1) SC .nil hK4
    have OD := S5.x _ (List.mem_cons_self ..)
    have fD : f5 (g1.objs.size + 1) = none := OD.2.frz
    have le5 := fset_le (o := listObj us m) fD
    have hLn : g1.objs.size + 1 ≠ ((g1.push o).push (listObj [] 0)).objs.size := by rw [z3]; simp
    have I5 : Inv C (fset f5 (g1.objs.size + 1) (listObj us m)) h5 := by
      refine ⟨fun b p q => ?_, fun b p q => le5 _ _ (S5.inv.gh _ _ q), fun tt ht => ?_⟩
      · by_cases q1 : b = g1.objs.size + 1
        · subst q1; rw [fset_self] at q; cases q; exact OD.1
        · rw [fset_ne q1] at q; exact S5.inv.sub _ _ q
      · refine (S5.inv.tab tt ht).mono le5 ?_ fun _ q => q
        rw [fset_ne (Ne.symm (S5.notTabO OD.2 tt ht))]; exact (S5.inv.tab tt ht).1
    have st5 : Step C.T f1 g1 (fset f5 (g1.objs.size + 1) (listObj us m)) h5 := ⟨S5.st.size, S5.st.keep, fun b hb => by rw [fset_ne (Nat.ne_of_lt (Nat.lt_succ_of_lt hb))]; exact S5.st.frz b hb⟩
    obtain ⟨mL, oL, es, ep, eL, rL⟩ := S5.ns
    have fL : (fset f5 (g1.objs.size + 1) (listObj us m)) ((g1.push o).push (listObj [] 0)).objs.size = none := by rw [fset_ne (Ne.symm hLn)]; exact S5.fL
    exact hQ h5 k5 _ _ oL _ p5 (l1.trans (l5.trans le5)) (S1.step_add I5 st5 (by rw [z3]; omega) eL fL) (.list ⟨_, fset_self .., rfl, m, rfl⟩ (RepAll.mono le5 R5)) ⟨mL, oL, es, ep, eL, rL⟩
  have hacc : (Value.ref (g1.push o).objs.size) = .ref (g1.objs.size + 1) := by rw [z2]
  rw [hacc]
  exact codeAny_compStart_list (loop _ p2) (T.self hK4 (loop _ p2))
end
end Mine
end
section
set_option tactic.hygienic false
open PySem PySem.Calls PySem.W PyProof.Rows
namespace Mine
section
variable {C : Cx} {n : Nat} {F : Fs} {σ σ' σ₁ σ₂ σ₃ : List Slot} {v a b c : V}

theorem Ev.comp {elt t iter : PySem.Expr} {ifs : List PySem.Expr} {scope : Scope} {pos : Pos} {names : List (Str × NameKind)} {τ τ' : List Slot} {l res : List V}
    (hv : Ev C n F iter σ v σ₁) (hp : PyIt C n v l) (O : CompOk F scope names σ₁ τ) (cp : Cp C n (compFs F names) t ifs elt l τ res τ') (hz : l.length ≤ 1000000)
    (hs : ∀ env x, foldedSetIterable iter env x = pure x := by intro _ _; rfl) : Ev C n F (.ListComp elt [⟨t, iter, ifs, 0⟩] scope pos) σ (.list res) σ₁ := by
  intro A env s f X oa h₀ f₀ E Q r K h0 S hQ
  rw [arm_eval_ListComp]
  show wpAny _ A (comprehension (.ListComp elt [⟨t, iter, ifs, 0⟩] scope pos) scope env _ (newList []) false (eval iter env) Option.none) _ _ s
  refine comp_all (C := C) (n := n) (F := F) (σ := σ) (σ₁ := σ₁) (v := v) (use := Option.none) (h₀ := h₀) (f₀ := f₀) (names := names) (τ := τ) (τ' := τ') (l := l) (res := res) hv hp hz O cp hs r K h0 S fun h' k f' L o D p l1 S1 R1 hn => ?_
  obtain ⟨m, hm⟩ := hn
  refine ⟨m, hm, fun h2 hs2 => ?_⟩
  exact hQ h2 k f' _ p l1 (S1.endX hs2.extBut (Nat.le_of_eq hs2.1.symm)) R1

theorem Ex1.assignComp (i : Nat) {x : Str} {p' pos : Pos} {elt t iter : PySem.Expr} {ifs : List PySem.Expr} {scope : Scope} {cpos : Pos} {names : List (Str × NameKind)} {τ τ' : List Slot} {l res : List V}
    (hi : F.names[i]? = some (x, .local)) (hl : (p'.line == cpos.line) = true) (hsc : (scope.names.any fun y => y.1 == x && (y.2 == .local || y.2 == .cell)) = false)
    (hv : Ev C n F iter σ v σ₁) (hp : PyIt C n v l) (O : CompOk F scope names σ₁ τ) (cp : Cp C n (compFs F names) t ifs elt l τ res τ') (hz : l.length ≤ 1000000)
    (hs : ∀ env x, foldedSetIterable iter env x = pure x := by intro _ _; rfl) :
    Ex1 C n F (.Assign [.Name x p'] (.ListComp elt [⟨t, iter, ifs, 0⟩] scope cpos) pos) σ .next (σ₁.set i (.val (.list res))) := by
  intro A env s f X oa h₀ f₀ E Q r K h0 S hQ
  have hsw : swapsWith (.ListComp elt [⟨t, iter, ifs, 0⟩] scope cpos) (some (.Name x p')) pos.line env = pure true := by
    show (pure (env.blockKind == .function && env.kindOf x == some .local && p'.line == cpos.line && !(scope.names.any fun y => y.1 == x && (y.2 == .local || y.2 == .cell))) : Sem Bool) = pure true
    rw [hsc, hl, K.kindOf hi]
    have : env.blockKind = .function := by unfold Env.blockKind; rw [K.kind]; rfl
    rw [this]; rfl
  rw [exec_Assign_Name_used _ _ _ _ hsw]
  refine wpAny_bind (wpAny_standAt (wpAny_bind ?_))
  show wpAny _ A (do let _ ← comprehension (.ListComp elt [⟨t, iter, ifs, 0⟩] scope cpos) scope env _ (newList []) false (eval iter env) (some (PySem.assign (.Name x p') env))) _ _ s
  refine wpAny_bind (comp_all (C := C) (n := n) (F := F) (σ := σ) (σ₁ := σ₁) (v := v) (use := some (PySem.assign (.Name x p') env)) (h₀ := h₀) (f₀ := f₀) (names := names) (τ := τ) (τ' := τ') (l := l) (res := res) hv hp hz O cp hs r K h0 S fun h' k f' L o D p l1 S1 R1 hn => ?_)
  have eL := (S1.x _ (List.mem_cons_self ..)).1
  refine As.name (C := C) (F := F) (v := .list res) (σ := σ₁) i hi (.inl rfl) (h₀ := h₀) (f₀ := f₀) (r.le (Nat.zero_le _)) K p S1 R1 fun h2 k2 f2 p2 l2 S2 => ?_
  have eL2 := (S2.x _ (List.mem_cons_self ..)).1
  obtain ⟨m, hm⟩ := hn
  refine ⟨m, hm.at' fun q e => ?_, fun h3 hs3 => ?_⟩
  · rw [eL] at e; cases e; exact eL2
  · exact wpAny_pure (wpAny_pure (hQ h3 k2 f2 _ _ p2 (l1.trans l2) (S2.endX hs3.extBut (Nat.le_of_eq hs3.1.symm)) .next))
end
end Mine
end
section
set_option tactic.hygienic false
open PySem PySem.Calls PySem.W PyProof.Rows
namespace Mine
theorem plainAttrs_re_Pattern : PlainAttrs "re.Pattern" :=
  ⟨⟨"object.__getattribute__", by rw [typeLookup_type, builtinLookup_eq_fast]; kernel_rfl, by decide +kernel⟩, by rw [typeLookup_type, builtinLookup_eq_fast]; kernel_rfl⟩
theorem owner_re_Pattern : Manifest.owners.lookup (String.ofList ['n', 'r', 'e', 't', 't', 'a', 'P', '.', 'e', 'r'].reverse) = some Manifest.sig_re_Pattern := by kernel_rfl
theorem plainAttrs_re_Match : PlainAttrs "re.Match" :=
  ⟨⟨"object.__getattribute__", by rw [typeLookup_type, builtinLookup_eq_fast]; kernel_rfl, by decide +kernel⟩, by rw [typeLookup_type, builtinLookup_eq_fast]; kernel_rfl⟩
theorem owner_re_Match : Manifest.owners.lookup (String.ofList ['h', 'c', 't', 'a', 'M', '.', 'e', 'r'].reverse) = some Manifest.sig_re_Match := by kernel_rfl
theorem slot_re_Pattern_search : PySem.Slot "re.Pattern" "search" "re.Pattern.search" :=
  .of (owner := "re.Pattern") (n := "search") (by rw [typeLookup_type, builtinLookup_eq_fast]; kernel_rfl) (by decide +kernel) (by decide +kernel) (by decide +kernel)
    (by first | exact .inl (by decide +kernel) | exact .inr (by decide +kernel)) (by rw [isSubtype_type]; kernel_rfl)
theorem type_re_Pattern_search : typeOf (.builtin "re.Pattern.search") = pure (.type "method_descriptor") := by show builtinType _ = _; rw [builtinType_eq_fast]; kernel_rfl
theorem entry_re_Pattern_search : entryFor table "re.Pattern.search" = some Builtin.«re.Pattern.search» := entryFor_of_tree (by kernel_rfl)
theorem args_re_Pattern_search_2 (a b : Value) : argsOk "re.Pattern.search" ⟨[a, b], []⟩ := by
  unfold argsOk; rw [signature?_of (id := "re.Pattern.search") (n := ['h', 'c', 'r', 'a', 'e', 's']) (o := ['n', 'r', 'e', 't', 't', 'a', 'P', '.', 'e', 'r']) (by kernel_rfl) owner_re_Pattern]; kernel_rfl
theorem slot_re_Pattern_fullmatch : PySem.Slot "re.Pattern" "fullmatch" "re.Pattern.fullmatch" :=
  .of (owner := "re.Pattern") (n := "fullmatch") (by rw [typeLookup_type, builtinLookup_eq_fast]; kernel_rfl) (by decide +kernel) (by decide +kernel) (by decide +kernel)
    (by first | exact .inl (by decide +kernel) | exact .inr (by decide +kernel)) (by rw [isSubtype_type]; kernel_rfl)
theorem type_re_Pattern_fullmatch : typeOf (.builtin "re.Pattern.fullmatch") = pure (.type "method_descriptor") := by show builtinType _ = _; rw [builtinType_eq_fast]; kernel_rfl
theorem entry_re_Pattern_fullmatch : entryFor table "re.Pattern.fullmatch" = some Builtin.«re.Pattern.fullmatch» := entryFor_of_tree (by kernel_rfl)
theorem args_re_Pattern_fullmatch_2 (a b : Value) : argsOk "re.Pattern.fullmatch" ⟨[a, b], []⟩ := by
  unfold argsOk; rw [signature?_of (id := "re.Pattern.fullmatch") (n := ['h', 'c', 't', 'a', 'm', 'l', 'l', 'u', 'f']) (o := ['n', 'r', 'e', 't', 't', 'a', 'P', '.', 'e', 'r']) (by kernel_rfl) owner_re_Pattern]; kernel_rfl
theorem slot_re_Pattern_sub : PySem.Slot "re.Pattern" "sub" "re.Pattern.sub" :=
  .of (owner := "re.Pattern") (n := "sub") (by rw [typeLookup_type, builtinLookup_eq_fast]; kernel_rfl) (by decide +kernel) (by decide +kernel) (by decide +kernel)
    (by first | exact .inl (by decide +kernel) | exact .inr (by decide +kernel)) (by rw [isSubtype_type]; kernel_rfl)
theorem type_re_Pattern_sub : typeOf (.builtin "re.Pattern.sub") = pure (.type "method_descriptor") := by show builtinType _ = _; rw [builtinType_eq_fast]; kernel_rfl
theorem entry_re_Pattern_sub : entryFor table "re.Pattern.sub" = some Builtin.«re.Pattern.sub» := entryFor_of_tree (by kernel_rfl)
theorem args_re_Pattern_sub_3 (a b c : Value) : argsOk "re.Pattern.sub" ⟨[a, b, c], []⟩ := by
  unfold argsOk; rw [signature?_of (id := "re.Pattern.sub") (n := ['b', 'u', 's']) (o := ['n', 'r', 'e', 't', 't', 'a', 'P', '.', 'e', 'r']) (by kernel_rfl) owner_re_Pattern]; kernel_rfl
theorem slot_re_Pattern_subn : PySem.Slot "re.Pattern" "subn" "re.Pattern.subn" :=
  .of (owner := "re.Pattern") (n := "subn") (by rw [typeLookup_type, builtinLookup_eq_fast]; kernel_rfl) (by decide +kernel) (by decide +kernel) (by decide +kernel)
    (by first | exact .inl (by decide +kernel) | exact .inr (by decide +kernel)) (by rw [isSubtype_type]; kernel_rfl)
theorem type_re_Pattern_subn : typeOf (.builtin "re.Pattern.subn") = pure (.type "method_descriptor") := by show builtinType _ = _; rw [builtinType_eq_fast]; kernel_rfl
theorem entry_re_Pattern_subn : entryFor table "re.Pattern.subn" = some Builtin.«re.Pattern.subn» := entryFor_of_tree (by kernel_rfl)
theorem args_re_Pattern_subn_3 (a b c : Value) : argsOk "re.Pattern.subn" ⟨[a, b, c], []⟩ := by
  unfold argsOk; rw [signature?_of (id := "re.Pattern.subn") (n := ['n', 'b', 'u', 's']) (o := ['n', 'r', 'e', 't', 't', 'a', 'P', '.', 'e', 'r']) (by kernel_rfl) owner_re_Pattern]; kernel_rfl
theorem slot_re_Match_group : PySem.Slot "re.Match" "group" "re.Match.group" :=
  .of (owner := "re.Match") (n := "group") (by rw [typeLookup_type, builtinLookup_eq_fast]; kernel_rfl) (by decide +kernel) (by decide +kernel) (by decide +kernel)
    (by first | exact .inl (by decide +kernel) | exact .inr (by decide +kernel)) (by rw [isSubtype_type]; kernel_rfl)
theorem type_re_Match_group : typeOf (.builtin "re.Match.group") = pure (.type "method_descriptor") := by show builtinType _ = _; rw [builtinType_eq_fast]; kernel_rfl
theorem entry_re_Match_group : entryFor table "re.Match.group" = some Builtin.«re.Match.group» := entryFor_of_tree (by kernel_rfl)
theorem args_re_Match_group_2 (a b : Value) : argsOk "re.Match.group" ⟨[a, b], []⟩ := by
  unfold argsOk; rw [signature?_of (id := "re.Match.group") (n := ['p', 'u', 'o', 'r', 'g']) (o := ['h', 'c', 't', 'a', 'M', '.', 'e', 'r']) (by kernel_rfl) owner_re_Match]; kernel_rfl
theorem slot_re_Match_span : PySem.Slot "re.Match" "span" "re.Match.span" :=
  .of (owner := "re.Match") (n := "span") (by rw [typeLookup_type, builtinLookup_eq_fast]; kernel_rfl) (by decide +kernel) (by decide +kernel) (by decide +kernel)
    (by first | exact .inl (by decide +kernel) | exact .inr (by decide +kernel)) (by rw [isSubtype_type]; kernel_rfl)
theorem type_re_Match_span : typeOf (.builtin "re.Match.span") = pure (.type "method_descriptor") := by show builtinType _ = _; rw [builtinType_eq_fast]; kernel_rfl
theorem entry_re_Match_span : entryFor table "re.Match.span" = some Builtin.«re.Match.span» := entryFor_of_tree (by kernel_rfl)
theorem args_re_Match_span_2 (a b : Value) : argsOk "re.Match.span" ⟨[a, b], []⟩ := by
  unfold argsOk; rw [signature?_of (id := "re.Match.span") (n := ['n', 'a', 'p', 's']) (o := ['h', 'c', 't', 'a', 'M', '.', 'e', 'r']) (by kernel_rfl) owner_re_Match]; kernel_rfl
theorem entry_re_Match_string : entryFor table "re.Match.string" = some Builtin.«re.Match.string» := entryFor_of_tree (by kernel_rfl)
theorem entry_re_loop : entryFor table "re.Pattern.sub.loop" = some Builtin.«re.Pattern.sub.loop» := entryFor_of_tree (by kernel_rfl)
theorem plain_re_loop : plainId "re.Pattern.sub.loop" = true := by decide +kernel
theorem match_bool : typeLookup (.type "re.Match") "__bool__" = pure Option.none := by rw [typeLookup_type, builtinLookup_eq_fast]; kernel_rfl
theorem match_len : typeLookup (.type "re.Match") "__len__" = pure Option.none := by rw [typeLookup_type, builtinLookup_eq_fast]; kernel_rfl
theorem look_re_Match_string : typeLookup (.type "re.Match") "string" = pure (some (.builtin "re.Match.string")) := by rw [typeLookup_type, builtinLookup_eq_fast]; kernel_rfl
theorem miPat_search : MInfo "re.Pattern" "search" "re.Pattern.search" := ⟨plainAttrs_re_Pattern, slot_re_Pattern_search, type_re_Pattern_search⟩
theorem miPat_fullmatch : MInfo "re.Pattern" "fullmatch" "re.Pattern.fullmatch" := ⟨plainAttrs_re_Pattern, slot_re_Pattern_fullmatch, type_re_Pattern_fullmatch⟩
theorem miPat_sub : MInfo "re.Pattern" "sub" "re.Pattern.sub" := ⟨plainAttrs_re_Pattern, slot_re_Pattern_sub, type_re_Pattern_sub⟩
theorem miPat_subn : MInfo "re.Pattern" "subn" "re.Pattern.subn" := ⟨plainAttrs_re_Pattern, slot_re_Pattern_subn, type_re_Pattern_subn⟩
theorem miMat_group : MInfo "re.Match" "group" "re.Match.group" := ⟨plainAttrs_re_Match, slot_re_Match_group, type_re_Match_group⟩
theorem miMat_span : MInfo "re.Match" "span" "re.Match.span" := ⟨plainAttrs_re_Match, slot_re_Match_span, type_re_Match_span⟩
theorem mi_startswith : MInfo "str" "startswith" "str.startswith" := ⟨PySem.F.plainAttrs_str, PySem.F.slot_str_startswith, PySem.F.type_str_startswith⟩
theorem mi_endswith : MInfo "str" "endswith" "str.endswith" := ⟨PySem.F.plainAttrs_str, PySem.F.slot_str_endswith, PySem.F.type_str_endswith⟩
theorem mi_lstrip : MInfo "str" "lstrip" "str.lstrip" := ⟨PySem.F.plainAttrs_str, PySem.F.slot_str_lstrip, PySem.F.type_str_lstrip⟩
theorem mi_rstrip : MInfo "str" "rstrip" "str.rstrip" := ⟨PySem.F.plainAttrs_str, PySem.F.slot_str_rstrip, PySem.F.type_str_rstrip⟩
theorem mi_rfind : MInfo "str" "rfind" "str.rfind" := ⟨PySem.F.plainAttrs_str, PySem.F.slot_str_rfind, PySem.F.type_str_rfind⟩
theorem mi_replace : MInfo "str" "replace" "str.replace" := ⟨PySem.F.plainAttrs_str, PySem.F.slot_str_replace, PySem.F.type_str_replace⟩
theorem mi_split : MInfo "str" "split" "str.split" := ⟨PySem.F.plainAttrs_str, PySem.F.slot_str_split, PySem.F.type_str_split⟩
theorem mi_join : MInfo "str" "join" "str.join" := ⟨PySem.F.plainAttrs_str, PySem.F.slot_str_join, PySem.F.type_str_join⟩
end Mine
end
section
set_option tactic.hygienic false
open PySem PySem.Calls PySem.W PyProof.Rows
namespace Mine
section
variable {C : Cx} {n : Nat} {F : Fs} {σ σ' σ₁ σ₂ σ₃ : List Slot} {v a b c : V}

theorem RepAll.one {f : Frz} {a us} (h : RepAll f [a] us) : ∃ u, us = [u] ∧ Rep f a u := by
  obtain ⟨u, vs, rfl, R, r⟩ := h.cons_inv; cases r.nil_inv; exact ⟨u, rfl, R⟩
theorem RepAll.two {f : Frz} {a b us} (h : RepAll f [a, b] us) : ∃ u v, us = [u, v] ∧ Rep f a u ∧ Rep f b v := by
  obtain ⟨u, vs, rfl, R, r⟩ := h.cons_inv; obtain ⟨v, rfl, R2⟩ := RepAll.one r; exact ⟨u, v, rfl, R, R2⟩
theorem RepAll.three {f : Frz} {a b c us} (h : RepAll f [a, b, c] us) : ∃ u v w, us = [u, v, w] ∧ Rep f a u ∧ Rep f b v ∧ Rep f c w := by
  obtain ⟨u, vs, rfl, R, r⟩ := h.cons_inv; obtain ⟨v, w, rfl, R2, R3⟩ := RepAll.two r; exact ⟨u, v, w, rfl, R, R2, R3⟩

theorem Pu.startswith {x y : Str} : Pu C n (fun us => PySem.call (.builtin "str.startswith") us) [.str x, .str y] (.bool (Txt.startswith x y)) := by
  intro A s f us E Q r h0 I R hQ
  obtain ⟨u, v, rfl, Ru, Rv⟩ := RepAll.two R
  obtain ⟨t, rfl⟩ := Ru.str_inv; obtain ⟨t', rfl⟩ := Rv.str_inv
  exact SC.startswith (hQ s.heap s.toks f _ h0 I (Step.refl ..) (.bool _))
theorem Pu.endswith {x y : Str} : Pu C n (fun us => PySem.call (.builtin "str.endswith") us) [.str x, .str y] (.bool (Txt.endswith x y)) := by
  intro A s f us E Q r h0 I R hQ
  obtain ⟨u, v, rfl, Ru, Rv⟩ := RepAll.two R
  obtain ⟨t, rfl⟩ := Ru.str_inv; obtain ⟨t', rfl⟩ := Rv.str_inv
  exact SC.endswith (hQ s.heap s.toks f _ h0 I (Step.refl ..) (.bool _))
theorem Pu.rfind {x y : Str} : Pu C n (fun us => PySem.call (.builtin "str.rfind") us) [.str x, .str y] (.int (Txt.rfind x y)) := by
  intro A s f us E Q r h0 I R hQ
  obtain ⟨u, v, rfl, Ru, Rv⟩ := RepAll.two R
  obtain ⟨t, rfl⟩ := Ru.str_inv; obtain ⟨t', rfl⟩ := Rv.str_inv
  exact SC.rfind (hQ s.heap _ f _ (Nat.lt_succ_of_lt h0) I (Step.refl ..) (.int _ _))
theorem Pu.lstrip {x : Str} (hz : x.length ≤ 16000000) : Pu C n (fun us => PySem.call (.builtin "str.lstrip") us) [.str x] (.str (Txt.lstrip x)) := by
  intro A s f us E Q r h0 I R hQ
  obtain ⟨u, rfl, Ru⟩ := RepAll.one R
  obtain ⟨t, rfl⟩ := Ru.str_inv
  exact wp_pos h0 (SC.lstrip (fun t' k p => hQ s.heap k f _ p I (Step.refl ..) (.str _ _)) (by rw [sizeLine_eq]; omega))
theorem Pu.rstrip {x : Str} (hz : x.length ≤ 16000000) : Pu C n (fun us => PySem.call (.builtin "str.rstrip") us) [.str x] (.str (Txt.rstrip x)) := by
  intro A s f us E Q r h0 I R hQ
  obtain ⟨u, rfl, Ru⟩ := RepAll.one R
  obtain ⟨t, rfl⟩ := Ru.str_inv
  exact wp_pos h0 (SC.rstrip (fun t' k p => hQ s.heap k f _ p I (Step.refl ..) (.str _ _)) (by rw [sizeLine_eq]; omega))
theorem Pu.rstripChars {x y : Str} (hz : x.length ≤ 16000000) : Pu C n (fun us => PySem.call (.builtin "str.rstrip") us) [.str x, .str y] (.str (Txt.rstripChars x y)) := by
  intro A s f us E Q r h0 I R hQ
  obtain ⟨u, v, rfl, Ru, Rv⟩ := RepAll.two R
  obtain ⟨t, rfl⟩ := Ru.str_inv; obtain ⟨t', rfl⟩ := Rv.str_inv
  exact wp_pos h0 (SC.rstripChars (fun t' k p => hQ s.heap k f _ p I (Step.refl ..) (.str _ _)) (by rw [sizeLine_eq]; omega))

theorem RepAll.strs {f : Frz} : ∀ {xs : List Str} {us}, RepAll f (xs.map .str) us → ∃ l : List (Str × Tok), us = strValues l ∧ l.map (·.1) = xs
  | [], us, h => ⟨[], by rw [h.nil_inv]; rfl, rfl⟩
  | x :: xs, us, h => by
    obtain ⟨u, vs, rfl, R, r⟩ := h.cons_inv
    obtain ⟨t, rfl⟩ := R.str_inv
    obtain ⟨l, rfl, e⟩ := RepAll.strs r
    exact ⟨(x, t) :: l, rfl, by simp [e]⟩
theorem RepAll.ofStrs {f : Frz} : ∀ (l : List (Str × Tok)), RepAll f ((l.map (·.1)).map .str) (strValues l)
  | [] => .nil
  | (x, t) :: l => .cons (.str x t) (RepAll.ofStrs l)

theorem Pu.join {x : Str} {xs : List Str} (hok : JoinOk x xs = true) : Pu C n (fun us => PySem.call (.builtin "str.join") us) [.str x, .list (xs.map .str)] (.str (Txt.join x xs)) := by
  intro A s f us E Q r h0 I R hQ
  obtain ⟨u, v, rfl, Ru, Rv⟩ := RepAll.two R
  obtain ⟨t, rfl⟩ := Ru.str_inv
  obtain ⟨D, vs, rfl, fl, RA⟩ := Rv.list_inv
  obtain ⟨l, rfl, e⟩ := RepAll.strs RA
  exact wp_pos h0 (SC.join (fl.is I) e hok fun t' k p => hQ s.heap k f _ p I (Step.refl ..) (.str _ _))

theorem Pu.newList {A : Around} {s : Shared} {f : Frz} {Q : Value → Shared → Prop} {l : List V} {us : List Value} {k : Nat} (I : Inv C f s.heap) (R : RepAll f l us) (p : 0 < k)
    (hQ : ∀ h' k f' v, 0 < k → Inv C f' h' → Step C.T f s.heap f' h' → Rep f' (.list l) v → Q v { s with heap := h', toks := k }) :
    Q (.ref s.heap.objs.size) { s with heap := s.heap.push { cls := .type "list", data := .seq us.toArray }, toks := k } := by
  have I' := I.push (o := { cls := .type "list", data := .seq us.toArray }) rfl
  have st := Step.push C.T f s.heap { cls := .type "list", data := .seq us.toArray }
  exact hQ _ _ _ _ p I' st (.list ⟨_, fset_self .., rfl, _, rfl⟩ (RepAll.mono (st.le I) R))

theorem Pu.split {x y : Str} (hy : (y.length == 0) = false) (hz : x.length ≤ 16000000) :
    Pu C n (fun us => PySem.call (.builtin "str.split") us) [.str x, .str y] (.list ((Txt.split x y).map .str)) := by
  intro A s f us E Q r h0 I R hQ
  obtain ⟨u, v, rfl, Ru, Rv⟩ := RepAll.two R
  obtain ⟨t, rfl⟩ := Ru.str_inv; obtain ⟨t', rfl⟩ := Rv.str_inv
  have one : ∀ k, Txt.split x y = [x] → 0 < k → Q (.ref s.heap.objs.size) { s with heap := s.heap.push { cls := .type "list", data := .seq [Value.str x t].toArray }, toks := k } := fun k e p => by
    rw [e] at hQ
    exact Pu.newList (A := A) (l := [.str x]) I (.cons (.str x t) .nil) p hQ
  have hsz : x.length ≤ sizeLine := by rw [sizeLine_eq]; omega
  have hsz2 : (Builtin.Str.partsBetween x (Builtin.Str.occurrences x y 0 x.length (x.length + 1)) y.length).length ≤ sizeLine := by
    have := StrLaws.occ_length_le x y 0 x.length (x.length + 1)
    unfold Builtin.Str.partsBetween; simp; rw [sizeLine_eq]; omega
  cases h1 : (decide (x.length < y.length) || decide (Builtin.Str.strKind x < Builtin.Str.strKind y))
  · cases hf : (Builtin.Str.occurrences x y 0 x.length (x.length + 1)).isEmpty
    · refine call_meets PySem.F.slot_str_split (typeIs_str _ _ _) PySem.F.entry_str_split (PySem.F.args_str_split_2 _ _) (meets_str_split_sep x y t t' h1 hy hf hsz hsz2) ?_
      show wants Q E _ { s with toks := _, heap := s.heap.push { cls := .type "list", data := .seq (strsFrom s.toks (Builtin.Str.partsBetween x (Builtin.Str.occurrences x y 0 x.length (x.length + 1)) y.length)).toArray } }
      rw [strsFrom_eq]
      have e : (numbered s.toks (Builtin.Str.partsBetween x (Builtin.Str.occurrences x y 0 x.length (x.length + 1)) y.length)).map (·.1) = Txt.split x y :=
        (numbered_texts _ _).trans ((if_neg (ne_true_of_eq_false h1)).trans (if_neg (ne_true_of_eq_false hf))).symm
      refine Pu.newList (A := A) (l := (Txt.split x y).map .str) I ?_ (by omega) hQ
      rw [← e]; exact RepAll.ofStrs _
    · exact call_meets PySem.F.slot_str_split (typeIs_str _ _ _) PySem.F.entry_str_split (PySem.F.args_str_split_2 _ _) (meets_str_split_not_found x y t t' h1 hy hf)
        (one _ ((if_neg (ne_true_of_eq_false h1)).trans (if_pos hf)) h0)
  · exact call_meets PySem.F.slot_str_split (typeIs_str _ _ _) PySem.F.entry_str_split (PySem.F.args_str_split_2 _ _) (meets_str_split_cannot_occur x y t t' h1)
      (one _ (if_pos h1) h0)

/-- a text made in place: its name is above those in use -/
noncomputable def EvF (C : Cx) (n : Nat) (F : Fs) (e : PySem.Expr) (σ : List Slot) (x : Str) (σ' : List Slot) : Prop :=
  ∀ {A env s f X oa h₀ f₀ E} {Q : Value → Shared → Prop}, Room n A → EnvOk F env → 0 < s.toks → SR C h₀ f₀ env X oa σ f s.heap →
    (∀ h' k f' t, 0 < k → s.toks ≤ t → FLe f f' → SR C h₀ f₀ env X oa σ' f' h' → Q (.str x t) { s with heap := h', toks := k }) →
    wpAny (model C.prog C.w) A (eval e env) Q E s
theorem EvF.str {i : Str} {k : Nat} {pos : Pos} : EvF C n F (.Constant (.str i) k pos) σ i σ := by
  intro A env s f X oa h₀ f₀ E Q r K h0 S hQ
  exact Constant_str (hQ s.heap _ f _ (Nat.lt_succ_of_lt h0) (Nat.le_refl _) (FLe.refl f) S)
theorem wp_toks_le {α : Type} {M : Model} {A : Around} {t : Sem α} {Q : α → Shared → Prop} {E : Value → Shared → Prop} {s : Shared}
    (h : wpAny M A t (fun a s' => s.toks ≤ s'.toks → Q a s') E s) : wpAny M A t Q E s :=
  wpAny_mono (wpAny_toks h) (fun _ _ q => q.2 q.1) fun _ _ q => q.2
/-- a sign of a text: made in place -/
theorem EvF.idxS {value slice : PySem.Expr} {pos : Pos} {l : List Nat} {i : Int} {c : Nat} (hv : Ev C n F value σ (.str (S l)) σ₁) (hi : Ev C n F slice σ₁ (.int i) σ₂) (h0 : 0 ≤ i) (hc : l[i.toNat]? = Option.some c) (hf : i < 2 ^ 63)
    (hs : ∀ x t k u, subscripted slice false (.str x t) (.int k u) = operate [.str x t, .int k u] (getItem (.str x t) (.int k u)) := by intro _ _ _ _; rfl) : EvF C n F (.Subscript value slice pos) σ (S [c]) σ₂ := by
  intro A env s f X oa h₀ f₀ E Q rm K t0 Sr hQ
  refine Subscript_ (wp_toks_le (hv rm K t0 Sr fun h1 k1 f1 u1 p1 l1 S1 R1 q1 => wp_toks_le (hi rm K p1 S1 fun h2 k2 f2 u2 p2 l2 S2 R2 q2 => ?_)))
  obtain ⟨t, rfl⟩ := R1.str_inv
  obtain ⟨u, rfl⟩ := R2.int_inv
  have hl : i.toNat < l.length := (List.getElem?_eq_some_iff.mp hc).1
  refine tail_any (typeIs_str _ _ _) PySem.F.slot_str_getitem.lookup (getItem_str ?_ (c := c) ?_ (hQ h2 _ f2 _ (Nat.lt_succ_of_lt p2) (Nat.le_trans q1 q2) (l1.trans l2) S2)) (hs ..)
  · simp; omega
  · have : seqIndex? i (S l).length = Option.some i.toNat := by
      rw [S_length]; exact seqIdx h0 hl
    rw [this]
    simpa using hc

end
end Mine
end
section
set_option tactic.hygienic false
open PySem PySem.Calls PySem.W PyProof.Rows
namespace Mine
section
variable {C : Cx} {n : Nat} {G : Fs} {σ σ' σ₁ σ₂ σ₃ : List Slot} {v a b c : V}

theorem Op2.ii {t : Value → Value → Sem Value} {i j k : Int} (h : ∀ {A s x y E} {Q : Value → Shared → Prop}, Q (.int k s.toks) { s with toks := s.toks + 1 } → wpAny (model C.prog C.w) A (t (.int i x) (.int j y)) Q E s) : Op2 C n t (.int i) (.int j) (.int k) := by
  intro A s f x y E Q r h0 I Rx Ry hQ
  obtain ⟨t1, rfl⟩ := Rx.int_inv; obtain ⟨t2, rfl⟩ := Ry.int_inv
  exact h (hQ s.heap _ f _ (Nat.lt_succ_of_lt h0) I (Step.refl ..) (.int ..))
theorem Op2.ib {t : Value → Value → Sem Value} {i j : Int} {k : Bool} (h : ∀ {A s x y E} {Q : Value → Shared → Prop}, Q (.bool k) s → wpAny (model C.prog C.w) A (t (.int i x) (.int j y)) Q E s) : Op2 C n t (.int i) (.int j) (.bool k) := by
  intro A s f x y E Q r h0 I Rx Ry hQ
  obtain ⟨t1, rfl⟩ := Rx.int_inv; obtain ⟨t2, rfl⟩ := Ry.int_inv
  exact h (hQ s.heap _ f _ h0 I (Step.refl ..) (.bool _))
theorem Op2.sb {t : Value → Value → Sem Value} {i j : Str} {k : Bool} (h : ∀ {A s x y E} {Q : Value → Shared → Prop}, Q (.bool k) s → wpAny (model C.prog C.w) A (t (.str i x) (.str j y)) Q E s) : Op2 C n t (.str i) (.str j) (.bool k) := by
  intro A s f x y E Q r h0 I Rx Ry hQ
  obtain ⟨t1, rfl⟩ := Rx.str_inv; obtain ⟨t2, rfl⟩ := Ry.str_inv
  exact h (hQ s.heap _ f _ h0 I (Step.refl ..) (.bool _))
theorem Op2.addI {i j : Int} : Op2 C n (binaryOp .Add) (.int i) (.int j) (.int (i + j)) := Op2.ii fun h => PyProof.Rows.add_int h
theorem Op2.subI {i j : Int} : Op2 C n (binaryOp .Sub) (.int i) (.int j) (.int (i - j)) := Op2.ii fun h => PyProof.Rows.sub_int' h
theorem Op2.mulI {i j : Int} (hm : IntMulOk i j) : Op2 C n (binaryOp .Mult) (.int i) (.int j) (.int (i * j)) := Op2.ii fun h => PyProof.Rows.mul_int h hm
theorem Op2.divI {i j : Int} (hj : j ≠ 0) (hs : j.natAbs < 1073741824) : Op2 C n (binaryOp .FloorDiv) (.int i) (.int j) (.int (i.fdiv j)) := Op2.ii fun h => PyProof.Rows.floordiv_int hj h (Or.inl (PyProof.noPylong_small hs))
theorem Op2.modI {i j : Int} (hj : j ≠ 0) : Op2 C n (binaryOp .Mod) (.int i) (.int j) (.int (i.fmod j)) := Op2.ii fun h => PyProof.Rows.mod_int hj h
theorem Op2.andI {i j : Int} : Op2 C n (binaryOp .BitAnd) (.int i) (.int j) (.int (Builtin.bitAnd i j)) := Op2.ii fun h => PyProof.Rows.and_int h
theorem Op2.xorI {i j : Int} : Op2 C n (binaryOp .BitXor) (.int i) (.int j) (.int (Builtin.bitXor i j)) := Op2.ii fun h => PyProof.Rows.xor_int h
theorem Op2.eqI {i j : Int} : Op2 C n (compareOp .Eq) (.int i) (.int j) (.bool (i == j)) := Op2.ib fun h => PyProof.Rows.eq_int h
theorem Op2.ltI {i j : Int} : Op2 C n (compareOp .Lt) (.int i) (.int j) (.bool (decide (i < j))) := Op2.ib fun h => PyProof.Rows.lt_int h
theorem Op2.gtI {i j : Int} : Op2 C n (compareOp .Gt) (.int i) (.int j) (.bool (decide (j < i))) := Op2.ib fun h => PyProof.Rows.gt_int h
theorem Op2.geI {i j : Int} : Op2 C n (compareOp .GtE) (.int i) (.int j) (.bool (decide (j ≤ i))) := Op2.ib fun h => PyProof.Rows.ge_int h
theorem Op2.eqS {x y : Str} : Op2 C n (compareOp .Eq) (.str x) (.str y) (.bool (x == y)) := Op2.sb fun h => PyProof.Rows.eq_str h
theorem Op2.neS {x y : Str} : Op2 C n (compareOp .NotEq) (.str x) (.str y) (.bool (x != y)) := Op2.sb fun h => PyProof.Rows.ne_str h
theorem Op2.inS {x y : Str} : Op2 C n (compareOp .In) (.str y) (.str x) (.bool !(Builtin.Str.occurrences x y 0 x.length 1).isEmpty) := Op2.sb fun h => PyProof.Rows.in_str h
theorem Op2.notinS {x y : Str} : Op2 C n (compareOp .NotIn) (.str y) (.str x) (.bool (!Txt.contains x y)) := Op2.sb fun h => SB.notContains h
theorem Op2.addS {x y : Str} (hz : x.length + y.length ≤ 16000000) : Op2 C n (binaryOp .Add) (.str x) (.str y) (.str (x ++ y)) := by
  intro A s f u v E Q r h0 I Rx Ry hQ
  obtain ⟨t1, rfl⟩ := Rx.str_inv; obtain ⟨t2, rfl⟩ := Ry.str_inv
  exact wp_pos h0 (PyProof.Rows.add_str (fun t' k p => hQ s.heap k f _ p I (Step.refl ..) (.str ..)) (by rw [sizeLine_eq]; omega))
theorem Op2.iaddS {x y : Str} (hz : x.length + y.length ≤ 16000000) : Op2 C n (inplaceOp .Add) (.str x) (.str y) (.str (x ++ y)) := by
  intro A s f u v E Q r h0 I Rx Ry hQ
  obtain ⟨t1, rfl⟩ := Rx.str_inv; obtain ⟨t2, rfl⟩ := Ry.str_inv
  exact wp_pos h0 (PyProof.Rows.iadd_str (fun t' k p => hQ s.heap k f _ p I (Step.refl ..) (.str ..)) (by rw [sizeLine_eq]; omega))
theorem Op2.mulS {x : Str} {m : Int} (hok : MulOk x m) : Op2 C n (binaryOp .Mult) (.str x) (.int m) (.str (Txt.mul x m)) := by
  intro A s f u v E Q r h0 I Rx Ry hQ
  obtain ⟨t1, rfl⟩ := Rx.str_inv; obtain ⟨t2, rfl⟩ := Ry.int_inv
  exact wp_pos h0 (SB.mul hok fun t' k p => hQ s.heap k f _ p I (Step.refl ..) (.str ..))
theorem Op2.addL {l m : List V} (hz : l.length + m.length ≤ 1000000) : Op2 C n (binaryOp .Add) (.list l) (.list m) (.list (l ++ m)) := by
  intro A s f u v E Q r h0 I Rx Ry hQ
  obtain ⟨p, vs, rfl, fl, RA⟩ := Rx.list_inv; obtain ⟨q, ws, rfl, fl2, RB⟩ := Ry.list_inv
  obtain ⟨⟨cls, dd, data, sl⟩, ho, hc, k, hd⟩ := fl.is I
  obtain ⟨⟨cls2, dd2, data2, sl2⟩, ho2, hc2, k2, hd2⟩ := fl2.is I
  simp only at hc hd hc2 hd2
  subst hc hd hc2 hd2
  refine concat_meets ⟨_, ho, rfl⟩ ⟨_, ho2, rfl⟩ noFill_list_add seq_list_add PySem.F.slot_list_add PySem.F.entry_list_add (PySem.F.args_list_add_2 _ _) (list_addW p q vs.toArray ws.toArray k k2 dd dd2 sl sl2 ?_) ⟨ho, ho2, ?_⟩
  · rw [List.size_toArray, List.size_toArray, ← RA.length, ← RB.length, sizeLine_eq]; omega
  · have e : vs.toArray ++ ws.toArray = (vs ++ ws).toArray := by simp
    rw [e]
    exact Pu.newList (A := A) I (RA.append RB) h0 hQ
/-- a list against the empty list -/
theorem Op2.eqNil {l : List V} (hz : l.length ≤ 1000000) : Op2 C n (compareOp .Eq) (.list l) (.list []) (.bool l.isEmpty) := by
  intro A s f u v E Q r h0 I Rx Ry hQ
  obtain ⟨p, vs, rfl, fl, RA⟩ := Rx.list_inv; obtain ⟨q, ws, rfl, fl2, RB⟩ := Ry.list_inv
  cases RB.nil_inv
  have hu : A.units < cLine := by have := r.units; unfold cLine; omega
  cases l with
  | nil =>
    cases RA.nil_inv
    refine SeqAt.eq_listAt (e := fun _ => true) (fl.is I) (fl2.is I) rfl hu (fun j h1 => nomatch h1) ?_
    exact hQ s.heap _ f _ h0 I (Step.refl ..) (.bool _)
  | cons x l =>
    obtain ⟨u, us, rfl, _, _⟩ := RA.cons_inv
    exact SeqAt.eq_list_lengthsAt (fl.is I) (fl2.is I) (by simp) hu (hQ s.heap _ f _ h0 I (Step.refl ..) (.bool _))
theorem Op2.isNotNone {v : V} {b : Bool} (h : ∀ f u, Rep f v u → plainIs u .none = true ∧ (!(u == .none)) = b) : Op2 C n (compareOp .IsNot) v .none (.bool b) := by
  intro A s f u w E Q r h0 I Rx Ry hQ
  rw [Ry.none_inv]
  obtain ⟨h1, h2⟩ := h f u Rx
  refine wpAny_isNot_plain h1 ?_
  rw [h2]; exact hQ s.heap _ f _ h0 I (Step.refl ..) (.bool _)
theorem Op2.strIsNotNone {x : Str} : Op2 C n (compareOp .IsNot) (.str x) .none (.bool true) := Op2.isNotNone fun f u R => by obtain ⟨t, rfl⟩ := R.str_inv; exact ⟨rfl, rfl⟩
theorem Op2.noneIsNotNone : Op2 C n (compareOp .IsNot) .none .none (.bool false) := Op2.isNotNone fun f u R => by rw [R.none_inv]; exact ⟨rfl, rfl⟩
theorem Op1.negI {i : Int} : Op1 C n (unaryOp .USub) (.int i) (.int (-i)) := by
  intro A s f x E Q r h0 I Rx hQ
  obtain ⟨t1, rfl⟩ := Rx.int_inv
  exact PyProof.Rows.neg_int (hQ s.heap _ f _ (Nat.lt_succ_of_lt h0) I (Step.refl ..) (.int ..))

theorem Pu.lenL {l : List V} (hz : l.length ≤ 1000000) : Pu C n (fun us => PySem.call (.builtin "len") us) [.list l] (.int l.length) := by
  intro A s f us E Q r h0 I R hQ
  obtain ⟨u, rfl, Ru⟩ := RepAll.one R
  obtain ⟨p, vs, rfl, fl, RA⟩ := Ru.list_inv
  refine call_len_list (fl.is I) (by rw [List.size_toArray, ← RA.length]; omega) ?_
  rw [List.size_toArray, ← RA.length]
  exact hQ s.heap _ f _ (by omega) I (Step.refl ..) (.int ..)
theorem Pu.lenS {x : Str} (hz : x.length ≤ 16000000) : Pu C n (fun us => PySem.call (.builtin "len") us) [.str x] (.int x.length) := by
  intro A s f us E Q r h0 I R hQ
  obtain ⟨u, rfl, Ru⟩ := RepAll.one R
  obtain ⟨t, rfl⟩ := Ru.str_inv
  exact PyProof.Rows.len_str (by omega) (hQ s.heap _ f _ (by omega) I (Step.refl ..) (.int ..))
theorem Pu.maxII {i j : Int} : Pu C n (fun us => PySem.call (.builtin "max") us) [.int i, .int j] (.int (if j > i then j else i)) := by
  intro A s f us E Q r h0 I R hQ
  obtain ⟨u, v, rfl, Ru, Rv⟩ := RepAll.two R
  obtain ⟨t, rfl⟩ := Ru.int_inv; obtain ⟨t', rfl⟩ := Rv.int_inv
  refine wpAny_grow (wp_pos h0 (max_two_ints r.hd fun h' tk keep p g => ?_))
  have I' : Inv C f h' := ⟨fun b o e => keep b o (I.sub _ _ e), I.gh, fun t ht => (I.tab t ht).mono (FLe.refl f) (I.tab t ht).1 fun o e => keep _ _ e⟩
  have st : Step C.T f s.heap f h' := ⟨g, fun b o e _ => keep b o e, fun _ _ => rfl⟩
  refine hQ h' tk f _ p I' st ?_
  split
  · exact .int ..
  · exact .int ..
end
end Mine
end
section
set_option tactic.hygienic false
open PySem PySem.Calls PySem.W PyProof.Rows
namespace Mine
theorem ty_str : typeOf (.type "str") = pure (.type "type") := by
  first | rfl | (show builtinType _ = _; rw [builtinType_eq_fast]; kernel_rfl)
theorem sub_str_str : isSubtype (.type "str") (.type "str") = pure true := by rw [isSubtype_type]; kernel_rfl
theorem sub_str_bytes : isSubtype (.type "str") (.type "bytes") = pure false := by rw [isSubtype_type]; kernel_rfl
theorem sub_list_str : isSubtype (.type "list") (.type "str") = pure false := by rw [isSubtype_type]; kernel_rfl
theorem ty_bytes : typeOf (.type "bytes") = pure (.type "type") := by
  first | rfl | (show builtinType _ = _; rw [builtinType_eq_fast]; kernel_rfl)
section
variable {C : Cx} {n : Nat}
theorem Pu.typeS {x : Str} : Pu C n (fun us => PySem.call (.type "type") us) [.str x] (.val (.type "str")) := by
  intro A s f us E Q r h0 I R hQ
  obtain ⟨u, rfl, Ru⟩ := RepAll.one R
  obtain ⟨t, rfl⟩ := Ru.str_inv
  exact call_type_of (typeIs_str _ _ _) (by decide) (hQ s.heap _ f _ h0 I (Step.refl ..) (.val _))
theorem Pu.isBytes {x : Str} : Pu C n (fun us => PySem.call (.builtin "isinstance") us) [.str x, .val (.type "bytes")] (.bool false) := by
  intro A s f us E Q r h0 I R hQ
  obtain ⟨u, v, rfl, Ru, Rv⟩ := RepAll.two R
  obtain ⟨t, rfl⟩ := Ru.str_inv
  rw [Rv.val_inv]
  exact call_isinstance (isinstance_false_str (by decide) ty_bytes sub_str_bytes) (hQ s.heap _ f _ (by omega) I (Step.refl ..) (.bool _))
theorem Pu.isStrL {l : List V} : Pu C n (fun us => PySem.call (.builtin "isinstance") us) [.list l, .val (.type "str")] (.bool false) := by
  intro A s f us E Q r h0 I R hQ
  obtain ⟨u, v, rfl, Ru, Rv⟩ := RepAll.two R
  obtain ⟨p, vs, rfl, ⟨o, ho, hc, _⟩, RA⟩ := Ru.list_inv
  rw [Rv.val_inv]
  exact call_isinstance (isinstance_false_list (by decide) ty_str sub_list_str) ⟨⟨o, I.sub _ _ ho, hc⟩, hQ s.heap _ f _ (by omega) I (Step.refl ..) (.bool _)⟩
theorem kind_isub_nested : builtinKind "issubclass.nested" = Option.none := by decide +kernel
theorem plain_isub_nested : plainId "issubclass.nested" = true := by decide +kernel
theorem args_isub_nested_3 (a b c : Value) : argsOk "issubclass.nested" ⟨[a, b, c], []⟩ := by unfold argsOk; kernel_rfl
theorem isub_str_str {dep : Int} {tk : Tok} : Meets (Builtin.«issubclass.nested» ⟨[.type "str", .type "str", .int dep tk], []⟩) (fun _ R s => R (.ok (.ret (.bool true))) s) := by
  intro prog w A R s hs
  have f1 := ty_str
  have f2 := sub_str_str
  repeat (any_goals (first | assumption | (rw [f2]) | wp_step))
theorem isub_nested {prog : Program} {w : World} {A : Around} {E : Value → Shared → Prop} {tp : Addr} {cs cs0 : List Value} {tk : Tok} {s : Shared} {Q : Fin → Shared → Prop} {o : Obj} {m : Nat}
    (htp : s.heap.get? tp = some o) (hc : o.cls = .type "tuple") (hd : o.data = .seq cs0.toArray m) (h0 : cs0 = Value.type "str" :: cs) (hq : Q (.done (.ret (.bool true))) s) :
    wpAny (model prog w) A (Builtin.«issubclass.nested» ⟨[.type "str", .ref tp, .int 0 tk], []⟩) Q E s := by
  obtain ⟨h, g, d, t, os⟩ := s
  obtain ⟨cls, dd, data, sl⟩ := o
  simp only at hc hd
  subst hc hd
  have hT2 : (⟨h, g, d, t, os⟩ : Shared).TypeIs (.ref tp) "tuple" := ⟨_, htp, rfl⟩
  have f1 := PySem.F.isi_sub_tuple
  repeat (any_goals (first | assumption | wp_step))
  refine wpAny_arrayLoop ?_
  simp only [Option.getD_some, List.toList_toArray]
  rw [h0, List.forIn_cons]
  refine wpAny_bind (wpAny_bind (call_function_meets kind_isub_nested plain_isub_nested PySem.F.entry_issubclass_nested (args_isub_nested_3 _ _ _) isub_str_str ?_))
  show wpAny _ _ (truthy (.bool true) >>= _) _ _ _
  refine wpAny_bind (m := truthy (.bool true)) (wpAny_pure ?_)
  repeat (any_goals (first | assumption | wp_step))
theorem Pu.issub : Pu C n (fun us => PySem.call (.builtin "issubclass") us) [.val (.type "str"), .tup [.val (.type "str"), .val (.type "bytes")]] (.bool true) := by
  intro A s f us E Q r h0 I R hQ
  obtain ⟨u, v, rfl, Ru, Rv⟩ := RepAll.two R
  rw [Ru.val_inv]
  obtain ⟨p, vs, rfl, ft, RA⟩ := Rv.tup_inv
  obtain ⟨x, y, rfl, Rx, Ry⟩ := RepAll.two RA
  rw [Rx.val_inv, Ry.val_inv] at ft
  obtain ⟨o, ho, hc, m, hd⟩ := ft
  refine call_issubclass (S := fun A R s' => s' = s ∧ R (.ok (.ret (.bool true))) s) (fun prog w A R s' ⟨hs, hs'⟩ => issubclass_outer ?_) ⟨rfl, hQ s.heap _ f _ h0 I (Step.refl ..) (.bool _)⟩
  subst hs
  exact isub_nested (I.sub _ _ ho) hc hd rfl hs'
end
end Mine
end
section
set_option tactic.hygienic false
open PySem PySem.Calls PySem.W PyProof.Rows
namespace Mine
section
variable {C : Cx} {n : Nat}
set_option maxHeartbeats 4000000 in
theorem meets_quote (z : Str) (t u : Tok) (hz : z.length ≤ 1000000) : Meets (Builtin.«str.__mod__» ⟨[.str ⟨#[34, 37, 115, 34]⟩ t, .str z u], []⟩) (fun _ R s => ∀ t' k, R (.ok (.ret (.str (Str.ofString "\"" ++ z ++ Str.ofString "\"") t'))) { s with toks := k }) := by
  kpc_run_s
theorem Op2.quote {x : Str} (hz : x.length ≤ 1000000) : Op2 C n (binaryOp .Mod) (.str ⟨#[34, 37, 115, 34]⟩) (.str x) (.str (Str.ofString "\"" ++ x ++ Str.ofString "\"")) := by
  intro A s f u v E Q r h0 I Rx Ry hQ
  obtain ⟨t1, rfl⟩ := Rx.str_inv; obtain ⟨t2, rfl⟩ := Ry.str_inv
  exact wp_pos h0 (KPc.mod_str (T := fun z => Str.ofString "\"" ++ z ++ Str.ofString "\"") rfl hz (fun z hz => meets_quote z t1 t2 hz) fun t' k p => hQ s.heap k f _ p I (Step.refl ..) (.str ..))
end
end Mine
end
section
set_option tactic.hygienic false
open PySem PySem.Calls PySem.W PyProof.Rows
namespace Mine
theorem ty_string : typeOf (.builtin "re.Match.string") = pure (.type "member_descriptor") := by show builtinType _ = _; rw [builtinType_eq_fast]; kernel_rfl
theorem slot_md_get : PySem.Slot "member_descriptor" "__get__" "member_descriptor.__get__" :=
  .of (owner := "member_descriptor") (n := "__get__") (by rw [typeLookup_type, builtinLookup_eq_fast]; kernel_rfl) (by decide +kernel) (by decide +kernel) (by decide +kernel)
    (by first | exact .inl (by decide +kernel) | exact .inr (by decide +kernel)) (by rw [isSubtype_type]; kernel_rfl)
theorem slot_md_set : PySem.Slot "member_descriptor" "__set__" "member_descriptor.__set__" :=
  .of (owner := "member_descriptor") (n := "__set__") (by rw [typeLookup_type, builtinLookup_eq_fast]; kernel_rfl) (by decide +kernel) (by decide +kernel) (by decide +kernel)
    (by first | exact .inl (by decide +kernel) | exact .inr (by decide +kernel)) (by rw [isSubtype_type]; kernel_rfl)
theorem entry_md_get : entryFor table "member_descriptor.__get__" = some Builtin.«getset_descriptor.__get__» := by
  first | exact entryFor_of_tree (by kernel_rfl) | exact entryFor_alias (id' := "getset_descriptor.__get__") (by kernel_rfl) (by first | rfl | decide +kernel) (by decide +kernel) (by kernel_rfl)
theorem args_md_get (a b c : Value) : argsOk "member_descriptor.__get__" ⟨[a, b, c], []⟩ := by unfold argsOk; kernel_rfl
theorem owner_string : (".".intercalate ("re.Match.string".cutAt '.').dropLast) = "re.Match" := by
  have e0 : "re.Match.string".cutAt '.' = ["re", "Match", "string"] := by first | rfl | decide +kernel
  rw [e0]; decide +kernel
theorem sub_string_owner : isSubtype (.type "re.Match") (.type (".".intercalate ("re.Match.string".cutAt '.').dropLast)) = pure true := by
  rw [owner_string, isSubtype_type]; kernel_rfl
theorem slot_mat_ga : PySem.Slot "re.Match" "__getattribute__" "object.__getattribute__" :=
  .of (owner := "object") (n := "__getattribute__") (by rw [typeLookup_type, builtinLookup_eq_fast]; kernel_rfl) (by decide +kernel) (by decide +kernel) (by decide +kernel)
    (by first | exact .inl (by decide +kernel) | exact .inr (by decide +kernel)) (by rw [isSubtype_type]; kernel_rfl)

section
variable {prog : Program} {w : World} {A : Around} {E : Value → Shared → Prop} {h : Heap} {g : Array GenState} {d : Drawn} {t : Nat} {os : OsState} {a : Addr} {o : Obj} {vs : Array Value} {x : Str} {u : Tok}
theorem string_get {R : Result → Shared → Prop} (hx : h.get? a = some o) (hc : o.cls = .type "re.Match") (hd : o.data = .fields vs) (h0 : vs[0]? = some (.str x u)) (hq : R (.ok (.ret (.str x u))) ⟨h, g, d, t, os⟩) :
    codeAny (model prog w) A (.call (.builtin "member_descriptor.__get__") ⟨[.builtin "re.Match.string", .ref a, .type "re.Match"], []⟩) R ⟨h, g, d, t, os⟩ := by
  have hT : (⟨h, g, d, t, os⟩ : Shared).TypeIs (.ref a) "re.Match" := ⟨_, hx, hc⟩
  have hT5 : (⟨h, g, d, t, os⟩ : Shared).TypeIs (.builtin "re.Match.string") "member_descriptor" := ty_string
  have f8 := sub_string_owner
  have hnd : (Value.str x u == doubtfulMember) = false := by first | rfl | decide | simp [doubtfulMember, rawInt]
  refine codeAny_call_builtin slot_md_get.plain entry_md_get (slot_md_get.check _ _ _ _ _ _ _ _ hT5 (args_md_get _ _ _) ?_)
  repeat (any_goals (first | assumption | wp_step))
  refine ⟨Code.quiet_builtin _ (by decide +kernel), codeAny_builtin entry_re_Match_string ?_⟩
  unfold Builtin.«re.Match.string»
  repeat (any_goals (first | assumption | wp_step))
  rw [hd]
  refine wpAny_pure ?_
  rw [h0]
  exact wpAny_pure (wpAny_pure hq)

theorem string_entry {tk : Tok} {Q : Fin → Shared → Prop} (hx : h.get? a = some o) (hc : o.cls = .type "re.Match") (hd : o.data = .fields vs) (h0 : vs[0]? = some (.str x u)) (hq : Q (.done (.ret (.str x u))) ⟨h, g, d, t, os⟩) :
    wpAny (model prog w) A (Builtin.«object.__getattribute__» ⟨[.ref a, .str "string" tk], []⟩) Q E ⟨h, g, d, t, os⟩ := by
  have hT : (⟨h, g, d, t, os⟩ : Shared).TypeIs (.ref a) "re.Match" := ⟨_, hx, hc⟩
  have hT5 : (⟨h, g, d, t, os⟩ : Shared).TypeIs (.builtin "re.Match.string") "member_descriptor" := ty_string
  have f4 := look_re_Match_string
  have f5 := ty_string
  have f6 := slot_md_get.lookup
  have f7 := slot_md_set.lookup
  repeat (any_goals (first | assumption | wp_step))
  refine string_get hx hc hd h0 ?_
  repeat (any_goals (first | assumption | wp_step))

theorem string_call {tk : Tok} {R : Result → Shared → Prop} (hx : h.get? a = some o) (hc : o.cls = .type "re.Match") (hd : o.data = .fields vs) (h0 : vs[0]? = some (.str x u)) (hq : R (.ok (.ret (.str x u))) ⟨h, g, d, t, os⟩) :
    codeAny (model prog w) A (.call (.builtin "object.__getattribute__") ⟨[.ref a, .str "string" tk], []⟩) R ⟨h, g, d, t, os⟩ :=
  codeAny_call_builtin slot_mat_ga.plain PySem.F.entry_object_getattribute (slot_mat_ga.check _ _ _ _ _ _ _ _ (show (⟨h, g, d, t, os⟩ : Shared).TypeIs (.ref a) "re.Match" from ⟨_, hx, hc⟩) (PySem.F.args_object_getattribute_2 _ _) (string_entry hx hc hd h0 hq))

theorem string_attr {Q : Value → Shared → Prop} (hx : h.get? a = some o) (hc : o.cls = .type "re.Match") (hd : o.data = .fields vs) (h0 : vs[0]? = some (.str x u)) (hq : Q (.str x u) ⟨h, g, d, t + 1, os⟩) :
    wpAny (model prog w) A (getAttr (.ref a) "string" true) Q E ⟨h, g, d, t, os⟩ := by
  have hT : (⟨h, g, d, t + 1, os⟩ : Shared).TypeIs (.ref a) "re.Match" := ⟨_, hx, hc⟩
  have f2 := slot_mat_ga.lookup
  have f3 := slot_mat_ga.bind (.ref a)
  unfold getAttr
  repeat (any_goals (first | assumption | wp_step))
  refine string_call hx hc hd h0 ?_
  repeat (any_goals (first | assumption | wp_step))
end
section
variable {C : Cx} {n : Nat} {F : Fs} {σ σ' σ₁ σ₂ σ₃ : List Slot} {v a b c : V}
theorem Ev.string {e : PySem.Expr} {pos : Pos} {x : Str} {sp : List Int} (h : Ev C n F e σ (.mat x sp) σ₁) (hb : ∀ env, attributeBase e "string" env (eval e env) = eval e env := by intro _; rfl)
    (hl : ∀ o r, letTemporaryGo e o r = pure () := by intro _ _; rfl) : Ev C n F (.Attribute e "string" pos) σ (.str x) σ₁ := by
  intro A env s f X oa h₀ f₀ E Q r K h0 S hQ
  rw [arm_eval_Attribute, hb]
  refine wpAny_bind (h r K h0 S fun h1 k1 f1 u1 p1 l1 S1 R1 => wpAny_bind (wpAny_standAt (wpAny_bind (wpAny_holding ?_))))
  obtain ⟨a, rfl, o, vs, ta, t, e1, hc, hdict, hd, e2, _⟩ := R1.mat_inv
  refine string_attr (S1.inv.sub _ _ e1) hc hd e2 ?_
  rw [hl]
  exact wpAny_bind (wpAny_pure (wpAny_pure (hQ h1 _ f1 _ (Nat.lt_succ_of_lt p1) l1 S1 (.str ..))))
end
end Mine
end
section
set_option tactic.hygienic false
open PySem PySem.Calls PySem.W PyProof.Rows
namespace Mine
section
variable {C : Cx} {n : Nat} {F : Fs} {σ σ' σ₁ σ₂ σ₃ : List Slot} {v a b c : V} {fl fl' : Fl}

theorem Pu.newRng {A : Around} {s : Shared} {f : Frz} {Q : Value → Shared → Prop} {i j l : Int} {t u w : Tok} {k : Nat} (I : Inv C f s.heap) (p : 0 < k)
    (hQ : ∀ h' k f' v, 0 < k → Inv C f' h' → Step C.T f s.heap f' h' → Rep f' (.rng i j l) v → Q v { s with heap := h', toks := k }) :
    Q (.ref s.heap.objs.size) { s with heap := s.heap.push { cls := .type "range", data := .fields #[.int i t, .int j u, .int l w] }, toks := k } := by
  have I' := I.push (o := { cls := .type "range", data := .fields #[.int i t, .int j u, .int l w] }) rfl
  exact hQ _ _ _ _ p I' (Step.push C.T f s.heap _) (.rng (fset_self ..))
theorem Pu.range1 {i : Int} : Pu C n (fun us => PySem.call (.type "range") us) [.int i] (.rng 0 i 1) := by
  intro A s f us E Q r h0 I R hQ
  obtain ⟨u, rfl, Ru⟩ := RepAll.one R
  obtain ⟨t, rfl⟩ := Ru.int_inv
  exact call_range_1 (Pu.newRng (A := A) I (by omega) hQ)
theorem Pu.range2 {i j : Int} : Pu C n (fun us => PySem.call (.type "range") us) [.int i, .int j] (.rng i j 1) := by
  intro A s f us E Q r h0 I R hQ
  obtain ⟨u, v, rfl, Ru, Rv⟩ := RepAll.two R
  obtain ⟨t, rfl⟩ := Ru.int_inv; obtain ⟨t', rfl⟩ := Rv.int_inv
  exact call_range_2 (Pu.newRng (A := A) I (by omega) hQ)
theorem Pu.range3 {i j l : Int} (hl : l ≠ 0) (hs : l.natAbs < 1073741824) : Pu C n (fun us => PySem.call (.type "range") us) [.int i, .int j, .int l] (.rng i j l) := by
  intro A s f us E Q r h0 I R hQ
  obtain ⟨u, v, w, rfl, Ru, Rv, Rw⟩ := RepAll.three R
  obtain ⟨t, rfl⟩ := Ru.int_inv; obtain ⟨t', rfl⟩ := Rv.int_inv; obtain ⟨t'', rfl⟩ := Rw.int_inv
  exact call_range_3 hl (Pu.newRng (A := A) I h0 hQ) (Or.inl (PyProof.noPylong_small hs))

noncomputable def rngL (i l : Int) (k : Nat) : List V := (List.range k).map fun (j : Nat) => V.int (i + j * l)
theorem letGo_range {A : Around} {E : Value → Shared → Prop} {target : PySem.Expr} {I : Addr} {i j l : Int} {v : Value} {Q' : Unit → Shared → Prop} {s' : Shared} (hit : IsRangeIter s'.heap I i j l) (h : Q' () s') :
    wpAny (model C.prog C.w) A (letOwnedTupleGo target (.ref I) v) Q' E s' := by
  unfold letOwnedTupleGo
  cases target <;> first
    | exact wpAny_pure h
    | (cases v <;> first
        | exact wpAny_pure h
        | (refine wpAny_bind (wpAny_load hit ?_); exact wpAny_pure h))
theorem Itr.rng {f0 : Frz} {i l : Int} {k : Nat} : Itr C (fun h it (j : Nat) => IsRangeIter h it (i + j * l) ((k : Int) - j) l) f0 (rngL i l k) where
  has := fun e => ⟨_, e⟩
  keep := fun e k => k _ e
  next := fun {A s f it j v E Q} hit I le fi hv h0 hQ => by
    unfold rngL at hv
    rw [List.getElem?_map] at hv
    obtain ⟨j', hj, rfl⟩ := Option.map_eq_some_iff.mp hv
    obtain ⟨hlt, rfl⟩ := List.getElem?_eq_some_iff.mp hj
    rw [List.length_range] at hlt
    simp only [List.getElem_range] at hQ ⊢
    refine wpAny_pyNext_range_item hit (by omega) fun h' hit' hs => ?_
    refine hQ h' _ _ (Nat.lt_succ_of_lt h0) ?_ hs (.int ..)
    have e1 : i + (j : Int) * l + l = i + ((j + 1 : Nat) : Int) * l := by rw [Int.natCast_add, Int.add_mul]; simp; omega
    have e2 : (k : Int) - j - 1 = (k : Int) - ((j + 1 : Nat) : Int) := by omega
    rw [e1, e2] at hit'; exact hit'
  stop := fun {A s f it j E Q} hh hit I le fi hv hQ => by
    refine wpAny_pyNext_range_end hh hit ?_ hQ
    unfold rngL at hv
    rw [List.getElem?_map] at hv
    have := Option.map_eq_none_iff.mp hv
    rw [List.getElem?_eq_none_iff, List.length_range] at this
    omega
  self := fun hit hQ => wpAny_pyIter_rangeiter hit hQ
  lets := fun hit hQ => letGo_range hit hQ
theorem PyIt.rng {i j l : Int} {k : Nat} (hs : Builtin.Range.small i j l = true) (hk : Builtin.Range.rangeSize i j l = k) : PyIt C n (.rng i j l) (rngL i l k) := by
  intro A s f u E Q r h0 I R hQ
  obtain ⟨a, t, w, v, rfl, e⟩ := R.rng_inv
  refine wpAny_pyIter_range (I.sub _ _ e) hs ?_
  rw [hk]
  refine hQ _ (fun h it (j : Nat) => IsRangeIter h it (i + j * l) ((k : Int) - j) l) s.toks h0 rfl Itr.rng ?_
  show IsRangeIter _ _ _ _ _
  have e1 : i + ((0 : Nat) : Int) * l = i := by simp
  have e2 : (k : Int) - ((0 : Nat) : Int) = k := by simp
  rw [e1, e2]
  exact Heap.get?_push_size _ rfl
end
end Mine
end
section
set_option tactic.hygienic false
open PySem PySem.Calls PySem.W PyProof.Rows
open AutoSeq1 (wpAny_loadPart')
namespace Mine

theorem SR.two {C : Cx} {h₀ f₀ env X oa σ f h f' h' a b o1 o2 p1 p2} (S : SR C h₀ f₀ env ((a, o1) :: (b, o2) :: X) oa σ f h) (hz : h.objs.size ≤ h'.objs.size)
    (keep : ∀ c o, c ≠ a → c ≠ b → h.get? c = some o → h'.get? c = some o) (ea : h'.get? a = some p1) (eb : h'.get? b = some p2)
    (hf : ∀ c, c < h.objs.size → f' c = f c) (hs : ∀ c o, f' c = some o → h'.get? c = some o) : SR C h₀ f₀ env ((a, p1) :: (b, p2) :: X) oa σ f' h' := by
  have Oa := (S.x _ (List.mem_cons_self ..)).2
  have Ob := (S.x _ (List.mem_cons_of_mem _ (List.mem_cons_self ..))).2
  have nd1 := List.nodup_cons.mp S.xd
  have nd2 := List.nodup_cons.mp nd1.2
  have le : FLe f f' := fun c o e => (hf c (S.inv.lt e)).trans e
  obtain ⟨m, hm⟩ := S.ns
  have kL : ∀ o, h.get? env.locals = some o → h'.get? env.locals = some o := fun o e => keep _ _ (Ne.symm Oa.ne) (Ne.symm Ob.ne) e
  have kC : ∀ p ∈ env.cells, ∀ o, h.get? p.2 = some o → h'.get? p.2 = some o := fun p hp o e => keep _ _ (Ne.symm (Oa.nc p hp)) (Ne.symm (Ob.nc p hp)) e
  have kX : ∀ p ∈ X, p.1 ≠ a ∧ p.1 ≠ b := fun p hp => ⟨fun q => nd1.1 (List.mem_cons_of_mem _ (List.mem_map.mpr ⟨p, hp, q⟩)), fun q => nd2.1 (List.mem_map.mpr ⟨p, hp, q⟩)⟩
  have kT : ∀ t ∈ C.T, ∀ o, h.get? t.P = some o → h'.get? t.P = some o := fun t ht o e => keep _ _ (Ne.symm (S.notTabO Oa t ht)) (Ne.symm (S.notTabO Ob t ht)) e
  have on : ∀ c, c < h.objs.size → Owns C h₀ env f c → Owns C h₀ env f' c := fun c hc q => ⟨q.low, (hf c hc).trans q.frz, q.ne, q.nc⟩
  refine ⟨⟨hs, fun c o e => le _ _ (S.inv.gh _ _ e), fun t ht => (S.inv.tab t ht).mono le ((hf _ (S.inv.tlt ht)).trans (S.inv.tab t ht).1) (kT t ht)⟩,
    ⟨Nat.le_trans S.st.size hz, fun c o e q => ?_, fun c hc => (hf c (Nat.lt_of_lt_of_le hc S.st.size)).trans (S.st.frz c hc)⟩, S.t0, ⟨m, hm.at' kL⟩, S.low, (hf _ S.get_lt).trans S.fL, fun p hp => ?_, S.capart, S.cw, fun p hp => ?_, S.xd, fun i x sl hx hsl => ?_, fun i l hsl => ?_, S.s3⟩
  · have hc := Heap.lt_size e
    exact keep _ _ (Nat.ne_of_lt (Nat.lt_of_lt_of_le hc Oa.low)) (Nat.ne_of_lt (Nat.lt_of_lt_of_le hc Ob.low)) (S.st.keep c o e q)
  · obtain ⟨⟨v, q, e, d⟩, a2, a3, a4⟩ := S.cell p hp
    exact ⟨⟨v, q, kC p hp _ e, d⟩, (hf _ (Heap.lt_size e)).trans a2, a3, a4⟩
  · rcases List.mem_cons.mp hp with rfl | hp
    · exact ⟨ea, on _ (Heap.lt_size (S.x _ (List.mem_cons_self ..)).1) Oa⟩
    · rcases List.mem_cons.mp hp with rfl | hp
      · exact ⟨eb, on _ (Heap.lt_size (S.x _ (List.mem_cons_of_mem _ (List.mem_cons_self ..))).1) Ob⟩
      · have q := S.x p (List.mem_cons_of_mem _ (List.mem_cons_of_mem _ hp))
        exact ⟨keep _ _ (kX p hp).1 (kX p hp).2 q.1, on _ (Heap.lt_size q.1) q.2⟩
  · refine (S.s1 i x sl hx hsl).keep le kL kC fun l hl p e => ?_
    subst hl
    have nx := (S.s2 i l hsl).2.1
    exact keep _ _ (fun q => nx (by rw [q]; exact List.mem_cons_self ..)) (fun q => nx (by rw [q]; exact List.mem_cons_of_mem _ (List.mem_cons_self ..))) e
  · obtain ⟨a1, a2, a3⟩ := S.s2 i l hsl
    exact ⟨on _ a3 a1, a2, Nat.lt_of_lt_of_le a3 hz⟩

set_option tactic.hygienic true in
theorem meets_enumerate_newT (l : Addr) (items : Array Value) (n : Nat) (dct : Option Addr) (sl : Array (Option Value)) :
    Meets (Builtin.«enumerate.__new__» ⟨[.type "enumerate", .ref l], []⟩) (fun _ R s => s.heap.get? l = some { cls := .type "tuple", dict := dct, data := .seq items n, slots := sl } ∧
      R (.ok (.ret (.ref (s.heap.push { cls := .type "tuple_iterator", data := .fields #[.ref l, .int 0 0] }).objs.size)))
        { s with heap := (s.heap.push { cls := .type "tuple_iterator", data := .fields #[.ref l, .int 0 0] }).push { cls := .type "enumerate", data := .fields #[.none, .bool false, .ref s.heap.objs.size, rawInt 0, .none, .none] } }) :=
  .of_wp fun prog w A R s h => by
    obtain ⟨hp, g, d, tk, os⟩ := s; obtain ⟨hl, h⟩ := h
    have hsub := sub_enumerate
    have hL : Heap.IsTuple (Shared.heap ⟨hp, g, d, tk, os⟩) l items := ⟨_, hl, rfl, n, rfl⟩
    wp_walk using wpAny_loadPart' hl
    refine wpAny_stack_any fun st => wpAny_pure ?_
    split
    · rename_i c _ _ _ _ _
      cases (c == Value.type "enumerate")
      · wp_walk using wpAny_loadPart' hl, wpAny_pyIter_tuple hL
        exact ⟨_, rfl, h⟩
      · wp_walk using wpAny_loadPart' hl, wpAny_pyIter_tuple hL
        exact ⟨_, rfl, h⟩
    · wp_walk using wpAny_loadPart' hl, wpAny_pyIter_tuple hL
      exact ⟨_, rfl, h⟩
end Mine
end
section
set_option tactic.hygienic false
open PySem PySem.Calls PySem.W PyProof.Rows
namespace Mine
section
variable {prog : Program} {w : World} {A : Around} {E : Value → Shared → Prop} {s : Shared}
theorem call_enumT {l : Addr} {items : Array Value} {Q : Value → Shared → Prop} (hL : s.heap.IsTuple l items)
    (h : Q (.ref (s.heap.objs.size + 1)) { s with heap := (s.heap.push { cls := .type "tuple_iterator", data := .fields #[.ref l, .int 0 0] }).push { cls := .type "enumerate", data := .fields #[.none, .bool false, .ref s.heap.objs.size, rawInt 0, .none, .none] } }) :
    wpAny (model prog w) A (PySem.call (.type "enumerate") [.ref l]) Q E s := by
  obtain ⟨⟨c, dct, dt, sl⟩, hl, hc, n, hd⟩ := hL
  replace hc : c = .type "tuple" := hc
  replace hd : dt = .seq items n := hd
  subst hc hd
  refine callType_new PySem.F.called_enumerate (by decide) (PySem.F.typeCall_enumerate_1 _) (PySem.F.newCall_enumerate_1 _) (fun obj => PySem.F.args_object_init_2 obj _) PySem.F.entry_enumerate_new
    (meets_enumerate_newT l items n dct sl) ⟨hl, ?_⟩
  have hz : (s.heap.push { cls := .type "tuple_iterator", data := .fields #[.ref l, .int 0 0] }).objs.size = s.heap.objs.size + 1 := Heap.size_push ..
  show _ ∧ _
  rw [hz]
  have he : IsEnum ((s.heap.push { cls := .type "tuple_iterator", data := .fields #[.ref l, .int 0 0] }).push
      { cls := .type "enumerate", data := .fields #[.none, .bool false, .ref s.heap.objs.size, rawInt 0, .none, .none] }) (s.heap.objs.size + 1) s.heap.objs.size 0 .none := by
    have := Heap.get?_push_size (s.heap.push { cls := .type "tuple_iterator", data := .fields #[.ref l, .int 0 0] })
      (o := { cls := .type "enumerate", data := .fields #[.none, .bool false, .ref s.heap.objs.size, rawInt 0, .none, .none] }) rfl
    rw [hz] at this; exact this
  exact ⟨⟨_, he, rfl⟩, h⟩

theorem nextOf_tuple_item {it t : Addr} {i : Nat} {items} {x : Value} {Q : Value → Shared → Prop} (hit : s.heap.IsTupleIter it t i)
    (ht : s.heap.IsTuple t items) (hx : items[i]? = some x) (hQ : ∀ h', h'.IsTupleIter it t (i + 1) → Heap.SameBut it s.heap h' → Q x { s with heap := h' }) :
    wpAny (model prog w) A (Builtin.SmallTypes.nextOf (.ref it)) Q E s := by
  obtain ⟨o, ho, hc, hd⟩ := id hit
  obtain ⟨ol, hol, _, nl, hdl⟩ := ht
  unfold Builtin.SmallTypes.nextOf
  refine wpAny_bind (wpAny_callSpecial?_slot (name := Str.ofString "__next__") hit.typeIs PySem.F.slot_tuple_iterator_next
    (wpAny_call_entry PySem.F.slot_tuple_iterator_next hit.typeIs PySem.F.entry_tuple_iterator_next ?_ (PySem.F.args_tuple_iterator_next_1 _)))
  show wpAny _ _ (field (.ref it) 0 >>= _) _ _ s
  refine wpAny_bind (wpAny_field ho hd (x := .ref t) rfl ?_)
  show wpAny _ _ (if (Value.ref t == Value.none) = true then _ else _) _ _ s
  rw [if_neg (show ¬ ((Value.ref t == Value.none) = true) from Bool.false_ne_true)]
  show wpAny _ _ (field (.ref it) 1 >>= _) _ _ s
  refine wpAny_bind (wpAny_field ho hd (x := .int i 0) rfl ?_)
  show wpAny _ _ (seqItems? (.ref t) >>= _) _ _ s
  refine wpAny_bind (wpAny_seqItems hol hdl ?_)
  simp only [Int.toNat_natCast, hx]
  refine wpAny_bind (wpAny_setField ho hd (by simp) (wpAny_pure ⟨x, rfl, wpAny_pure (hQ _ ?_ (Heap.SameBut.update ..))⟩))
  exact ⟨_, Heap.get?_update_self _ ho (Obj.isFreed_of_fields (Obj.data_mapFields hd _)), (Obj.cls_mapFields ..).trans hc, by
    rw [Obj.data_mapFields hd]; simp [rawInt]⟩
theorem nextOf_tuple_end {it t : Addr} {i : Nat} {items} {Q : Value → Shared → Prop} (hh : A.handled = none)
    (hit : s.heap.IsTupleIter it t i) (ht : s.heap.IsTuple t items) (hx : items[i]? = none)
    (hE : ∀ h' e, Heap.ExtBut it s.heap h' → (∃ o, h'.get? e = some o ∧ o.cls = .type "StopIteration") → E (.ref e) { s with heap := h' }) :
    wpAny (model prog w) A (Builtin.SmallTypes.nextOf (.ref it)) Q E s := by
  obtain ⟨o, ho, hc, hd⟩ := id hit
  obtain ⟨ol, hol, _, nl, hdl⟩ := ht
  unfold Builtin.SmallTypes.nextOf
  refine wpAny_bind (wpAny_callSpecial?_slot (name := Str.ofString "__next__") hit.typeIs PySem.F.slot_tuple_iterator_next
    (wpAny_call_entry PySem.F.slot_tuple_iterator_next hit.typeIs PySem.F.entry_tuple_iterator_next ?_ (PySem.F.args_tuple_iterator_next_1 _)))
  show wpAny _ _ (field (.ref it) 0 >>= _) _ _ s
  refine wpAny_bind (wpAny_field ho hd (x := .ref t) rfl ?_)
  show wpAny _ _ (if (Value.ref t == Value.none) = true then _ else _) _ _ s
  rw [if_neg (show ¬ ((Value.ref t == Value.none) = true) from Bool.false_ne_true)]
  show wpAny _ _ (field (.ref it) 1 >>= _) _ _ s
  refine wpAny_bind (wpAny_field ho hd (x := .int i 0) rfl ?_)
  show wpAny _ _ (seqItems? (.ref t) >>= _) _ _ s
  refine wpAny_bind (wpAny_seqItems hol hdl ?_)
  simp only [Int.toNat_natCast, hx]
  refine wpAny_bind (wpAny_rule (wpAny_bind (wpAny_setField ho hd (by simp) ?_)))
  show wpAny _ _ (newExc (.type "StopIteration") [] >>= _) _ _ _
  refine wpAny_bind ?_
  simp only [newExc, newTuple]
  refine wpAny_bind (wpAny_newObj_type ?_ (by size_fits))
  refine wpAny_bind (m := firstArgMember _ _) (wpAny_of_eq (a := Value.none) (by first | rfl | (simp only [firstArgMember]; rfl)) ?_)
  refine wpAny_newObj_type ?_ (by size_fits)
  simp only [raiseNew]
  refine wpAny_bind (wpAny_handled ?_)
  first | rw [show A.in1.handled = none from hh] | rw [hh]
  refine wpAny_bind (wpAny_pure (wpAny_throw ?_))
  exact hE _ _ (((Heap.SameBut.update ..).extBut.push _).push _) ⟨_, Heap.get?_push_size _ rfl, rfl⟩
end
theorem drawsT {prog : Program} {w : World} {A : Around} (hh : A.handled = none) (it l : Addr) (hne : l ≠ it) (items : Array Value) :
    Draws prog w A it [it, l] items.size (fun i v => items[i]? = some v) (fun i h => h.IsTupleIter it l i ∧ h.IsTuple l items) where
  live := fun _ _ st => let ⟨o, ho, _⟩ := st.1; ⟨o, ho⟩
  frame := fun _ _ _ st hk => ⟨let ⟨o, ho, r⟩ := st.1; ⟨o, hk it (by simp) o ho, r⟩, let ⟨o, ho, r⟩ := st.2; ⟨o, hk l (by simp) o ho, r⟩⟩
  item := fun i s Q E hi st hQ => by
    refine nextOf_tuple_item st.1 st.2 (x := items[i]) (by simp [hi]) fun h' hit' hs' => ?_
    exact hQ _ h' s.toks (by simp [hi]) ⟨hit', let ⟨o, ho, r⟩ := st.2; ⟨o, hs'.extBut _ _ hne ho, r⟩⟩ hs'
  done := fun s Q E st hE => nextOf_tuple_end hh st.1 st.2 (by simp) hE

noncomputable def enumL : Nat → List V → List V
  | _, [] => []
  | i, x :: l => V.tup [.int i, x] :: enumL (i + 1) l
theorem enumL_get : ∀ (l : List V) (a i : Nat) {x : V}, l[i]? = some x → (enumL a l)[i]? = some (.tup [.int (a + i : Nat), x])
  | [], _, _, _, h => by simp at h
  | y :: l, a, 0, x, h => by simp at h; subst h; rfl
  | y :: l, a, i + 1, x, h => by
    have := enumL_get l (a + 1) i (by simpa using h)
    simp only [enumL, List.getElem?_cons_succ]
    rw [this]; congr 4; omega
theorem enumL_length : ∀ (l : List V) (a : Nat), (enumL a l).length = l.length
  | [], _ => rfl
  | _ :: l, a => by simp [enumL, enumL_length l]

section
variable {C : Cx} {n : Nat} {F : Fs} {σ σ' σ₁ σ₂ σ₃ : List Slot} {v a b c : V} {fl fl' : Fl}
inductive EnumI (C : Cx) (n : Nat) (F : Fs) (env : Env) (X : List (Addr × Obj)) (h₀ : Heap) (f₀ : Frz) (t : PySem.Expr) (body : List Stmt) (l : List V) (f1 : Frz) (e it src : Addr) (s₀ : Shared) (fl : Fl) (σ₂ : List Slot) : Nat → Shared → Prop
  | mk (i : Nat) (hi : i ≤ l.length) {oe o : Obj} {oa : Nat → Addr} {f : Frz} {h : Heap} {k : Nat} {σ : List Slot} {old : Value} (lp : Lp C n F t body ((enumL 0 l).drop i) σ fl σ₂) (hk : 0 < k) (le : FLe f1 f) (S : SR C h₀ f₀ env ((e, oe) :: (it, o) :: X) oa σ f h)
    (hK : IsEnum h e it i old) (hI : h.IsTupleIter it src i) : EnumI C n F env X h₀ f₀ t body l f1 e it src s₀ fl σ₂ (l.length - i) { s₀ with heap := h, toks := k }
theorem enumL_drop {l : List V} {i : Nat} (h : i < l.length) : (enumL 0 l).drop i = V.tup [.int i, l[i]] :: (enumL 0 l).drop (i + 1) := by
  have hl2 : i < (enumL 0 l).length := by rw [enumL_length]; exact h
  have e := enumL_get l 0 i (x := l[i]) (List.getElem?_eq_getElem h)
  rw [List.getElem?_eq_getElem hl2, Nat.zero_add] at e
  rw [List.drop_eq_getElem_cons hl2, Option.some.inj e]
theorem enum_core {A : Around} {env : Env} {X h₀ f₀} {ts : List PySem.Expr} {k0 : Nat} {p0 : Pos} {body orelse : List Stmt} {l : List V} {f1 : Frz} {e it : Addr} {s₀ : Shared} {R : Result → Shared → Prop} {src : Addr} {us : List Value} (r : Room n A) (K : EnvOk F env)
    (ft : FTup f1 src us) (RA : RepAll f1 l us) (hR : ∀ h' k f' u oa', 0 < k → FLe f1 f' → SR C h₀ f₀ env X oa' σ' f' h' → FlRep f' fl' u → R (.ok u) { s₀ with heap := h', toks := k })
    {oe o oa f h k old} (lp : Lp C n F (.Tuple ts k0 p0) body (enumL 0 l) σ fl σ₂) (af : After C n F orelse fl σ₂ fl' σ') (hk : 0 < k) (le : FLe f1 f)
    (S : SR C h₀ f₀ env ((e, oe) :: (it, o) :: X) oa σ f h) (hK : IsEnum h e it 0 old) (hI : h.IsTupleIter it src 0) : codeAny (model C.prog C.w) A (.forLoop (.Tuple ts k0 p0) (.ref e) body orelse env) R { s₀ with heap := h, toks := k } := by
  refine codeAny_forLoop_any (EnumI C n F env X h₀ f₀ (.Tuple ts k0 p0) body l f1 e it src s₀ fl σ₂) (fun m s I => ?_) _ (.mk 0 (Nat.zero_le _) lp hk le S hK hI)
  clear lp hk le S hK hI
  cases I with | @mk i hi oe o oa f h k σ old lp hk le S hK hI =>
  have Oe := (S.x _ (List.mem_cons_self ..)).2
  have Oi := S.x _ (List.mem_cons_of_mem _ (List.mem_cons_self ..))
  have hne : e ≠ it := fun q => (List.nodup_cons.mp S.xd).1 (by rw [q]; exact List.mem_cons_self ..)
  have fsrc := ft.mono le
  have hsrc := fsrc.is' S.inv
  have hsi : src ≠ it := by rintro rfl; obtain ⟨o', e', _⟩ := fsrc; rw [Oi.2.frz] at e'; cases e'
  have hse : src ≠ e := by rintro rfl; obtain ⟨o', e', _⟩ := fsrc; rw [Oe.frz] at e'; cases e'
  have hus : us.length = l.length := RA.length.symm
  have D := drawsT (prog := C.prog) (w := C.w) (A := A.in1) (by exact r.hd) it src hsi us.toArray
  by_cases hlt : i < l.length
  · rw [enumL_drop hlt] at lp
    obtain ⟨ux, hux, Rx⟩ := RA.get (i := i) (v := l[i]) (List.getElem?_eq_getElem hlt)
    refine wpAny_grow (wp_pos hk (wpAny_pyNext_enum_itemD (s := { s₀ with heap := h, toks := k }) D hK ⟨hI, hsrc⟩ (by rw [List.size_toArray, hus]; exact hlt) hne (by simp [hne, Ne.symm hse]) fun x h1 tk hx out st etup hsz keep p1 g1 => ?_))
    have hxu : x = ux := by
      have : us[i]? = some x := by simpa using hx
      rw [hux] at this; exact (Option.some.inj this).symm
    subst hxu
    dsimp only at hsz keep etup out g1
    obtain ⟨o1, ei1, r1⟩ := st.1
    have S1 := S.two (f' := fset f h.objs.size { cls := .type "tuple", data := .seq #[.int i tk, x] }) g1 keep out ei1 (fun c hc => fset_ne (Nat.ne_of_lt hc)) (fun c o' q => by
      by_cases q1 : c = h.objs.size
      · subst q1; rw [fset_self] at q; cases q; exact etup
      · rw [fset_ne q1] at q
        refine keep _ _ ?_ ?_ (S.inv.sub _ _ q)
        · rintro rfl; rw [Oe.frz] at q; cases q
        · rintro rfl; rw [Oi.2.frz] at q; cases q)
    have le1 : FLe f (fset f h.objs.size { cls := .type "tuple", data := .seq #[.int i tk, x] }) := fset_le S.inv.fresh
    have Rt : Rep (fset f h.objs.size { cls := .type "tuple", data := .seq #[.int i tk, x] }) (.tup [.int i, l[i]]) (.ref h.objs.size) :=
      .tup ⟨_, fset_self .., rfl, 0, rfl⟩ (.cons (.int ..) (.cons (Rx.mono (le.trans le1)) .nil))
    refine wpAny_letOwnedTupleGo_enum (s := { s₀ with heap := h1, toks := tk + 1 }) out fun h2 he2 hs2 => ?_
    have S2 := S1.updX hs2 he2
    refine lp.turn af r K (s := { s₀ with heap := h2, toks := tk + 1 }) (Nat.succ_pos _) S2 Rt (fun h4 k4 f4 oa4 σ4 p4 l4 S4 lp4 => ⟨_, sub_turn hlt, .mk (i + 1) hlt (old := x) lp4 p4 (le.trans (le1.trans l4)) S4 ?_ ?_⟩) fun h4 k4 f4 oa4 u4 p4 l4 S4 R4 => hR h4 k4 f4 u4 oa4 p4 (le.trans (le1.trans l4)) S4.dropX.dropX R4
    · have := (S4.x _ (List.mem_cons_self ..)).1; rw [Int.natCast_add]; exact this
    · exact ⟨o1, (S4.x _ (List.mem_cons_of_mem _ (List.mem_cons_self ..))).1, r1⟩
  · have hn : (enumL 0 l).drop i = [] := List.drop_eq_nil_of_le (by rw [enumL_length]; exact Nat.le_of_not_lt hlt)
    rw [hn] at lp
    cases lp
    cases af with | next ho =>
    have hieq : i = us.toArray.size := by rw [List.size_toArray, hus]; exact Nat.le_antisymm hi (Nat.le_of_not_lt hlt)
    refine wpAny_grow (wp_pos hk (wpAny_pyNext_enum_endD (s := { s₀ with heap := h, toks := k }) D hK ⟨hieq ▸ hI, hsrc⟩ fun h1 hs p1 g1 => ?_))
    exact ho r K p1 ((S.swapX.endX hs g1).dropX) fun h2 k2 f2 u2 oa2 p2 l2 S2 R2 => hR h2 k2 f2 u2 oa2 p2 (le.trans l2) S2 R2
end
end Mine
end
section
set_option tactic.hygienic false
open PySem PySem.Calls PySem.W PyProof.Rows
namespace Mine
section
variable {C : Cx} {n : Nat} {F : Fs} {σ σ' σ₁ σ₂ σ₃ : List Slot} {v a b c : V} {fl fl' : Fl}
theorem wpAny_pyIter_enum' {prog : Program} {w : World} {A : Around} {E : Value → Shared → Prop} {s : Shared} {e it : Addr} {i : Int} {old : Value} {Q : Value → Shared → Prop} (he : IsEnum s.heap e it i old) (hQ : Q (.ref e) s) :
    wpAny (model prog w) A (pyIter (.ref e)) Q E s := wpAny_pyIter_enum he hQ
theorem Ex1.forEnum {fx e₀ : PySem.Expr} {ts : List PySem.Expr} {k0 : Nat} {p0 pos cpos : Pos} {body orelse : List Stmt} {l : List V} (hf : Ev C n F fx σ (.val (.type "enumerate")) σ₁) (ha : Ev C n F e₀ σ₁ (.tup l) σ₂)
    (lp : Lp C n F (.Tuple ts k0 p0) body (enumL 0 l) σ₂ fl σ₃) (af : After C n F orelse fl σ₃ fl' σ')
    (he : ∀ env, eval (.Call fx [e₀] [] cpos) env = (do callWith cpos (← eval fx env) [] (backTo cpos (starEach [e₀] env)) []) := by intro _; rfl)
    (hst : ∀ env, starEach [e₀] env = [(false, eval e₀ env)] := by intro _; rfl)
    (hs : ∀ env x, foldedSetIterable (.Call fx [e₀] [] cpos) env x = pure x := by intro _ _; rfl) : Ex1 C n F (.For (.Tuple ts k0 p0) (.Call fx [e₀] [] cpos) body orelse pos) σ fl' σ' := by
  intro A env s f X oa h₀ f₀ E Q r K h0 S hQ
  refine wpAny_For ?_ (hs env)
  rw [he]
  refine wpAny_bind (hf r K h0 S fun g1 k1 f1 u1 p1 l1 S1 R1 => ?_)
  rw [R1.val_inv, hst]
  refine wp_callWith_type rfl (evalArgs_plain (spliced_cons (ha r K p1 S1 fun g2 k2 f2 u2 p2 l2 S2 R2 => spliced_nil ?_)))
  obtain ⟨src, us, rfl, ft, RA⟩ := R2.tup_inv
  refine call_enumT (ft.is' S2.inv) ?_
  have hz : (g2.push { cls := .type "tuple_iterator", data := .fields #[.ref src, .int 0 0] }).objs.size = g2.objs.size + 1 := Heap.size_push ..
  have S3 := (S2.addX (o := { cls := .type "tuple_iterator", data := .fields #[.ref src, .int 0 0] }) rfl).addX (o := { cls := .type "enumerate", data := .fields #[.none, .bool false, .ref g2.objs.size, rawInt 0, .none, .none] }) rfl
  have hE : IsEnum ((g2.push { cls := .type "tuple_iterator", data := .fields #[.ref src, .int 0 0] }).push { cls := .type "enumerate", data := .fields #[.none, .bool false, .ref g2.objs.size, rawInt 0, .none, .none] }) (g2.objs.size + 1) g2.objs.size 0 .none := by
    have := Heap.get?_push_size (g2.push { cls := .type "tuple_iterator", data := .fields #[.ref src, .int 0 0] })
      (o := { cls := .type "enumerate", data := .fields #[.none, .bool false, .ref g2.objs.size, rawInt 0, .none, .none] }) rfl
    rw [hz] at this; exact this
  refine wpAny_pyIter_enum' hE ?_
  rw [hz] at S3
  exact enum_core r K ft RA (fun g3 k3 f3 u3 oa3 p3 l3 S3 R3 => hQ g3 k3 f3 u3 oa3 p3 (l1.trans (l2.trans l3)) S3 R3) lp af p2 (FLe.refl f2) S3 hE ⟨_, Heap.get?_push_of_some _ (Heap.get?_push_size _ rfl), rfl, rfl⟩
end
end Mine
end
section
set_option tactic.hygienic false
open PySem PySem.Calls PySem.W PyProof.Rows
namespace Mine
section
variable {C : Cx} {n : Nat} {F : Fs} {σ σ' σ₁ σ₂ σ₃ : List Slot} {v a b c : V} {fl fl' : Fl}
theorem Evs.star {e : PySem.Expr} {p : Pos} {l : List V} (h : Ev C n F e σ (.list l) σ₁) (hz : l.length ≤ 1000000) : Evs C n F [.Starred e p] σ l σ₁ := by
  intro A env s f X oa h₀ f₀ E pos Q r K h0 S hQ
  show wpAny _ A (spliced [(true, (do let v ← eval e env; standAt pos; pure v))]) Q E s
  refine ks_spliced (h r K h0 S fun g1 k1 f1 u1 p1 l1 S1 R1 => ?_)
  obtain ⟨a, us, rfl, fl, RA⟩ := R1.list_inv
  obtain ⟨o, ho, hc, m, hd⟩ := fl.is S1.inv
  have hT' : ({ s with heap := g1, toks := k1 } : Shared).TypeIs (.ref a) "list" := ⟨o, ho, hc⟩
  unfold StarOf notIterableAtAll
  refine wpAny_bind (wpAny_specialOf hT' PySem.F.slot_list_iter.lookup (wpAny_pure ⟨rfl, ?_⟩))
  refine wpAny_grow (wp_pos p1 (wpAny_collect_seq a (.inl rfl) ho hc hd (fun h' keep p2 g2 => ?_) (by rw [List.size_toArray, ← RA.length, sizeLine_eq]; omega)))
  have I' : Inv C f1 h' := ⟨fun b o e => keep b o (S1.inv.sub _ _ e), S1.inv.gh, fun t ht => (S1.inv.tab t ht).mono (FLe.refl f1) (S1.inv.tab t ht).1 fun o e => keep _ _ e⟩
  have st : Step C.T f1 g1 f1 h' := ⟨g2, fun b o e _ => keep b o e, fun _ _ => rfl⟩
  refine spliced_nil ?_
  rw [List.append_nil, List.toList_toArray]
  exact hQ h' k1 f1 us p1 l1 (S1.step I' st) RA

theorem code_defV {fa : Addr} {o : Obj} {fd : FuncData} {body : List Stmt} (D : DefOk C F fa o fd body) {args more : List V} {res : V} {σ' : List Slot}
    (hle : args.length + 1 ≤ F.names.length) (hk : ∀ (i : Nat) (x : Str) (k : NameKind), i < args.length + 1 → F.names[i]? = some (x, k) → k = .local ∨ k = .cell) (hm : more.length ≤ 1000000)
    (hb : ∀ us ws : List Value, us.length = args.length → ws.length = more.length → bindArgs fd ⟨us ++ ws, []⟩ = (do let t ← newTuple ws; pure ((F.names.map (·.1)).zip (us ++ [t]))))
    (hbody : Ex C n F body (initSlots F.names (args ++ [.tup more])) (.ret res) σ') {A : Around} {s : Shared} {f : Frz} {us : List Value} {R : Result → Shared → Prop} (r : Room (n + 1) A) (h0 : 0 < s.toks) (I : Inv C f s.heap) (Ra : RepAll f (args ++ more) us)
    (hR : ∀ h' k f' v, 0 < k → Inv C f' h' → Step C.T f s.heap f' h' → Rep f' res v → R (.ok (.ret v)) { s with heap := h', toks := k }) : codeAny (model C.prog C.w) A (.call (.ref fa) ⟨us, []⟩) R s := by
  have hrec : s.heap.CodeRec fd.code fd.qualname := by
    obtain ⟨c, oc, vs, t, h1, h2, h3, h4⟩ := D.rec_
    exact ⟨c, oc, vs, t, h1, I.ghost h2, h3, h4⟩
  have hul : us.length = args.length + more.length := by rw [← Ra.length]; simp
  have R1 : RepAll f args (us.take args.length) := by have := RepAll.take args.length Ra; rw [List.take_left] at this; exact this
  have R2 : RepAll f more (us.drop args.length) := by have := RepAll.drop args.length Ra; rw [List.drop_left] at this; exact this
  have hsplit : us = us.take args.length ++ us.drop args.length := (List.take_append_drop ..).symm
  refine codeAny_call_function (by have := r.depth; unfold recursionLimit; omega) (I.ghost D.at_) D.data D.co D.gen D.body hrec ?_
  rw [hsplit, hb (us.take args.length) (us.drop args.length) R1.length.symm R2.length.symm, D.clo]
  refine wpAny_bind (wpAny_newObj_type (wpAny_pure ?_) (by show (us.drop args.length).toArray.size ≤ sizeLine; rw [List.size_toArray, ← R2.length, sizeLine_eq]; omega))
  have I1 := I.push (o := { cls := .type "tuple", data := .seq (us.drop args.length).toArray }) rfl
  have st1 := Step.push C.T f s.heap { cls := .type "tuple", data := .seq (us.drop args.length).toArray }
  have le1 := st1.le I
  have Ra' : RepAll (fset f s.heap.objs.size { cls := .type "tuple", data := .seq (us.drop args.length).toArray }) (args ++ [.tup more]) (us.take args.length ++ [.ref s.heap.objs.size]) :=
    (RepAll.mono le1 R1).append (.cons (.tup ⟨_, fset_self .., rfl, _, rfl⟩ (RepAll.mono le1 R2)) .nil)
  have hlen : (us.take args.length ++ [Value.ref s.heap.objs.size]).length = args.length + 1 := by rw [← Ra'.length]; simp
  have hkind : ∀ x ∈ (F.names.map (·.1)).zip (us.take args.length ++ [.ref s.heap.objs.size]), fd.scope.names.lookup x.1 = some .local ∨
      (fd.scope.names.lookup x.1 = some .cell ∧ ((cellsFrom ((s.heap.push { cls := .type "tuple", data := .seq (us.drop args.length).toArray }).objs.size + 1) fd.scope.names []).lookup x.1).isSome = true) := by
    intro x hx
    obtain ⟨i, hi, rfl⟩ := List.getElem_of_mem hx
    have hz := List.getElem?_eq_getElem hi
    rw [List.getElem?_zip_eq_some] at hz
    obtain ⟨hz1, hz2⟩ := hz
    rw [List.getElem?_map] at hz1
    obtain ⟨⟨y, k⟩, hy, he⟩ := Option.map_eq_some_iff.mp hz1
    have hlt : i < args.length + 1 := by
      have := (List.getElem?_eq_some_iff.mp hz2).1; rw [hlen] at this; exact this
    have kd : fd.scope.names.lookup y = some k := by rw [D.names]; exact lookup_get D.nd hy
    dsimp only at he
    rw [← he]
    rcases hk i y k hlt hy with rfl | rfl
    · exact .inl kd
    · exact .inr ⟨kd, cellsFrom_some _ _ _ (.inl kd)⟩
  refine wp_pos (s := { s with heap := s.heap.push { cls := .type "tuple", data := .seq (us.drop args.length).toArray } }) h0 (wpAny_newFunctionEnv_cells D.kind hkind fun env he s₁ x hk1 => ?_)
  subst he
  obtain ⟨K, S⟩ := start_sr (s := { s with heap := s.heap.push { cls := .type "tuple", data := .seq (us.drop args.length).toArray } }) D.toDefEnv I1 Ra' (by simpa using hle) (fun i y k hi => hk i y k (by simpa using hi)) x
  obtain ⟨h1, k1, rfl⟩ := x.toInCall.same
  refine ⟨(C.nolimit.keeps fun _ _ => I1.ghost).keeps x.toInCall.keep, codeAny_func ?_⟩
  refine hbody (r.deeper _) K hk1 S fun h2 k2 f2 u oa2 p2 l2 S2 R2 => ?_
  cases R2 with | ret Rv =>
  exact hR h2 k2 f2 _ p2 S2.inv (st1.trans S2.st) Rv
theorem Pu.of_defV {fa : Addr} {o : Obj} {fd : FuncData} {body : List Stmt} (D : DefOk C F fa o fd body) {args more : List V} {res : V} {σ' : List Slot}
    (hle : args.length + 1 ≤ F.names.length) (hk : ∀ (i : Nat) (x : Str) (k : NameKind), i < args.length + 1 → F.names[i]? = some (x, k) → k = .local ∨ k = .cell) (hm : more.length ≤ 1000000)
    (hb : ∀ us ws : List Value, us.length = args.length → ws.length = more.length → bindArgs fd ⟨us ++ ws, []⟩ = (do let t ← newTuple ws; pure ((F.names.map (·.1)).zip (us ++ [t]))))
    (hbody : Ex C n F body (initSlots F.names (args ++ [.tup more])) (.ret res) σ') : Pu C (n + 1) (fun us => PySem.call (.ref fa) us) (args ++ more) res := by
  intro A s f us E Q r h0 I Ra hQ
  exact wpAny_call (code_defV D hle hk hm hb hbody r h0 I Ra fun h' k f' v p I' st R => hQ h' k f' v p I' st R)
end
end Mine
end
section
set_option tactic.hygienic false
open PySem PySem.Calls PySem.W PyProof.Rows
namespace Mine
open PySem.Sre

theorem runFor_done : ∀ (n : Nat) (m : M), m.outcome.isSome = true → m.runFor n = m
  | 0, _, _ => rfl
  | n + 1, m, h => by unfold M.runFor; rw [if_pos h]
theorem runFor_succ (n : Nat) (m : M) (h : m.outcome.isSome = false) : m.runFor (n + 1) = m.step.runFor n := by
  show (if m.outcome.isSome = true then m else M.runFor n m.step) = _
  rw [if_neg (by rw [h]; decide)]
theorem runFor_add : ∀ (a b : Nat) (m : M), m.runFor (a + b) = (m.runFor a).runFor b
  | 0, b, m => by rw [Nat.zero_add]; rfl
  | a + 1, b, m => by
    cases h : m.outcome.isSome
    · rw [Nat.add_right_comm, runFor_succ _ _ h, runFor_succ _ _ h, runFor_add a b]
    · rw [runFor_done _ _ h, runFor_done _ _ h, runFor_done _ _ h]

section
variable {Mo : Model} {A : Around} {E : Value → Shared → Prop} {s : Shared}
theorem wp_reDrive : ∀ (turns : Nat) (m : M) (N : Nat) {Q : M → Shared → Prop}, N < 4 * turns → (m.runFor N).outcome.isSome = true → Q (m.runFor N) s → wpAny Mo A (Builtin.Re.reDrive turns m) Q E s
  | 0, _, _, _, h, _, _ => absurd h (Nat.not_lt_zero _)
  | t + 1, m, N, Q, hN, ho, hQ => by
    show wpAny Mo A (if (m.runFor 4).outcome.isSome = true then pure (m.runFor 4) else (do rule "sre.turn"; Builtin.Re.reDrive t (m.runFor 4))) Q E s
    by_cases h4 : (m.runFor 4).outcome.isSome = true
    · rw [if_pos h4]
      have e : m.runFor N = m.runFor 4 := by
        by_cases hle : N ≤ 4
        · have : (4 : Nat) = N + (4 - N) := by omega
          rw [this, runFor_add, runFor_done _ _ ho]
        · have : N = 4 + (N - 4) := by omega
          rw [this, runFor_add, runFor_done _ _ h4]
      rw [e] at hQ
      exact wpAny_pure hQ
    · rw [if_neg h4]
      have hlt : 4 < N := by
        by_cases hle : N ≤ 4
        · have e4 : (4 : Nat) = N + (4 - N) := by omega
          rw [e4, runFor_add, runFor_done _ _ ho] at h4
          exact absurd ho h4
        · omega
      have eN : N = 4 + (N - 4) := by omega
      rw [eN, runFor_add] at ho hQ
      exact wpAny_bind (wpAny_rule (wp_reDrive t (m.runFor 4) (N - 4) (by omega) ho hQ))
theorem wp_rules (f : Nat → Bool) (g : Nat → String) : ∀ (l : List Nat) {Q : PUnit → Shared → Prop}, Q () s → wpAny Mo A (forIn l PUnit.unit fun i _ => if f i = true then (do rule (g i); pure (ForInStep.yield PUnit.unit)) else pure (ForInStep.yield PUnit.unit)) Q E s
  | [], Q, h => wpAny_pure h
  | i :: l, Q, h => by
    rw [List.forIn_cons]
    by_cases hf : f i = true
    · rw [if_pos hf]; exact wpAny_bind (wpAny_bind (wpAny_rule (wpAny_pure (wp_rules f g l h))))
    · rw [if_neg hf]; exact wpAny_bind (wpAny_pure (wp_rules f g l h))

/-- the machine comes to an end -/
noncomputable def Halts (m : M) (P : M → Prop) : Prop := ∃ N, N < 2 ^ 62 ∧ (m.runFor N).outcome.isSome = true ∧ P (m.runFor N)

theorem wp_reRun {m : M} {P : M → Prop} {Q : Option M → Shared → Prop} (h : Halts m P) (hQ : ∀ m', P m' → m'.outcome = some .matched → Q (some m') s) (hQ' : ∀ m', P m' → m'.outcome = some .failed → Q none s) (hs : ∀ m' w, P m' → m'.outcome ≠ some (.stuck w)) :
    wpAny Mo A (Builtin.Re.reRunToEnd m) Q E s := by
  obtain ⟨N, hN, ho, hP⟩ := h
  unfold Builtin.Re.reRunToEnd
  refine wpAny_bind (wp_reDrive _ m N (Nat.lt_of_lt_of_le hN (by decide)) ho ?_)
  refine wpAny_bind (wp_rules (fun i => (m.runFor N).seen.has i) (fun i => names.getD i "") (List.range names.size) ?_)
  rcases h1 : (m.runFor N).outcome with _ | o
  · rw [h1] at ho; cases ho
  · cases o with
    | matched => exact wpAny_pure (hQ _ hP h1)
    | failed => exact wpAny_pure (hQ' _ hP h1)
    | stuck w => exact absurd h1 (hs _ w hP)
end
end Mine
end
section
set_option tactic.hygienic false
open PySem PySem.Calls PySem.W PyProof.Rows
namespace Mine
open PySem.Sre

noncomputable def Go (b : Nat) (m : M) (P : M → Prop) : Prop := ∃ N, N ≤ b ∧ P (m.runFor N)
theorem Go.done {b : Nat} {m : M} {P : M → Prop} (h : P m) : Go b m P := ⟨0, Nat.zero_le _, h⟩
theorem Go.step {b : Nat} {m : M} {P : M → Prop} (ho : m.outcome = none) (h : Go b m.step P) : Go (b + 1) m P := by
  obtain ⟨N, hN, hP⟩ := h
  refine ⟨N + 1, Nat.succ_le_succ hN, ?_⟩
  rw [runFor_succ _ _ (by rw [ho]; rfl)]; exact hP
theorem Go.ex {b : Nat} {m : M} {P : M → Prop} {F : Sre.Seen → M} (ho : m.outcome = none) (h : ∃ sn, m.step = F sn) (k : ∀ sn, Go b (F sn) P) : Go (b + 1) m P := by
  obtain ⟨sn, e⟩ := h
  exact Go.step ho (e ▸ k sn)
theorem Go.seq {b c : Nat} {m : M} {P Q : M → Prop} (h : Go b m P) (k : ∀ m', P m' → Go c m' Q) : Go (b + c) m Q := by
  obtain ⟨N, hN, hP⟩ := h
  obtain ⟨N', hN', hQ⟩ := k _ hP
  exact ⟨N + N', Nat.add_le_add hN hN', by rw [runFor_add]; exact hQ⟩
theorem Go.le {b c : Nat} {m : M} {P : M → Prop} (h : Go b m P) (hb : b ≤ c) : Go c m P := let ⟨N, hN, hP⟩ := h; ⟨N, Nat.le_trans hN hb, hP⟩
theorem Go.mono {b : Nat} {m : M} {P Q : M → Prop} (h : Go b m P) (k : ∀ m', P m' → Q m') : Go b m Q := let ⟨N, hN, hP⟩ := h; ⟨N, hN, k _ hP⟩
theorem Go.halts {b : Nat} {m : M} {P : M → Prop} (h : Go b m fun m' => m'.outcome.isSome = true ∧ P m') (hb : b < 2 ^ 62) : Halts m P :=
  let ⟨N, hN, h1, h2⟩ := h; ⟨N, Nat.lt_of_le_of_lt hN hb, h1, h2⟩

structure Nice (code text : Array Nat) (lim : Nat) (m : M) : Prop where
  hc : m.code = code
  ht : m.text = text
  hl : m.lim = lim
  ho : m.outcome = none
  ha : m.answer = none

section
variable {code text : Array Nat} {lim : Nat} {m : M} {pc : Nat}
theorem step_exec (N : Nice code text lim m) (hpc : m.pc = pc) (hlt : pc < code.size) : m.step = m.exec := by
  unfold M.step
  rw [N.ho]
  simp only [Option.isSome_none, Bool.false_eq_true, if_false]
  rw [N.ha]
  dsimp only
  rw [N.hc, hpc, if_pos hlt]

theorem ex_AT (N : Nice code text lim m) (hpc : m.pc = pc) (hlt : pc < code.size) (hop : ops[code.getD pc 0]? = some .AT) (ha : code.getD (pc + 1) 0 = 0) (hp : m.pos = 0) :
    ∃ sn, m.step = { m with seen := sn, pc := pc + 2 } := by
  subst hpc
  rw [step_exec N rfl hlt]
  unfold M.exec M.word
  have h0 : m.code.getD (m.pc + 0) 0 = code.getD m.pc 0 := by rw [N.hc]; rfl
  have h1 : m.code.getD (m.pc + 1) 0 = 0 := by rw [N.hc]; exact ha
  simp only [h0, hop, h1, M.isAt, hp]
  exact ⟨_, rfl⟩
theorem ex_AT_no (N : Nice code text lim m) (hpc : m.pc = pc) (hlt : pc < code.size) (hop : ops[code.getD pc 0]? = some .AT) (ha : code.getD (pc + 1) 0 = 0) (hp : m.pos ≠ 0) :
    ∃ sn, m.step = { m with seen := sn, answer := some false } := by
  subst hpc
  rw [step_exec N rfl hlt]
  unfold M.exec M.word
  have h0 : m.code.getD (m.pc + 0) 0 = code.getD m.pc 0 := by rw [N.hc]; rfl
  have h1 : m.code.getD (m.pc + 1) 0 = 0 := by rw [N.hc]; exact ha
  simp only [h0, hop, h1, M.isAt, hp]
  simp only [beq_eq_false_iff_ne.mpr hp, Bool.false_eq_true, if_false]
  exact ⟨_, rfl⟩
theorem ex_MARK (N : Nice code text lim m) (hpc : m.pc = pc) (hlt : pc < code.size) (hop : ops[code.getD pc 0]? = some .MARK) {i : Nat} (hi : code.getD (pc + 1) 0 = i) (hm : (i : Int) ≤ m.lastmark + 1) :
    ∃ sn li, m.step = { m with seen := sn, pc := pc + 2, marks := m.marks.setIfInBounds i (some m.pos), lastmark := max m.lastmark i, lastindex := li } := by
  subst hpc
  rw [step_exec N rfl hlt]
  unfold M.exec M.word
  have h0 : m.code.getD (m.pc + 0) 0 = code.getD m.pc 0 := by rw [N.hc]; rfl
  have h1 : m.code.getD (m.pc + 1) 0 = i := by rw [N.hc]; exact hi
  simp only [h0, hop, h1]
  unfold M.mark
  simp only [hm, if_true]
  exact ⟨_, _, rfl⟩
theorem ex_LIT (N : Nice code text lim m) (hpc : m.pc = pc) (hlt : pc < code.size) (hop : ops[code.getD pc 0]? = some .LITERAL) {c : Nat} (hi : code.getD (pc + 1) 0 = c) (hp : m.pos < lim) (hx : text.getD m.pos 0 = c) :
    ∃ sn, m.step = { m with seen := sn, pc := pc + 2, pos := m.pos + 1 } := by
  subst hpc
  rw [step_exec N rfl hlt]
  unfold M.exec M.word
  have h0 : m.code.getD (m.pc + 0) 0 = code.getD m.pc 0 := by rw [N.hc]; rfl
  have hn : ¬ (m.pos ≥ m.lim) := by rw [N.hl]; omega
  have ha : ∀ sn, accepts m.code m.pc (m.text.getD m.pos 0) sn = .ok (true, sn) := fun sn => by
    unfold accepts
    rw [N.hc, hop, N.ht, hx, hi]
    simp
  have hw : itemWidth m.code m.pc = 2 := by unfold itemWidth; rw [N.hc, hop]
  simp only [h0, hop, hn, if_false, ha, hw]
  exact ⟨_, rfl⟩
theorem ex_LIT_no (N : Nice code text lim m) (hpc : m.pc = pc) (hlt : pc < code.size) (hop : ops[code.getD pc 0]? = some .LITERAL) {c : Nat} (hi : code.getD (pc + 1) 0 = c) (hp : m.pos < lim → text.getD m.pos 0 ≠ c) :
    ∃ sn, m.step = { m with seen := sn, answer := some false } := by
  subst hpc
  rw [step_exec N rfl hlt]
  unfold M.exec M.word
  have h0 : m.code.getD (m.pc + 0) 0 = code.getD m.pc 0 := by rw [N.hc]; rfl
  by_cases hn : m.pos ≥ m.lim
  · simp only [h0, hop, hn, if_true]
    exact ⟨_, rfl⟩
  · have ha : ∀ sn, accepts m.code m.pc (m.text.getD m.pos 0) sn = .ok (false, sn) := fun sn => by
      unfold accepts
      rw [N.hc, hop, N.ht, hi]
      have := hp (by rw [← N.hl]; omega)
      simp only [beq_eq_false_iff_ne.mpr this]
    simp only [h0, hop, hn, if_false, ha]
    exact ⟨_, rfl⟩
/-- one sign of a set, or any sign -/
theorem ex_ONE (N : Nice code text lim m) (hpc : m.pc = pc) (hlt : pc < code.size) (hop : ops[code.getD pc 0]? = some .IN ∨ ops[code.getD pc 0]? = some .ANY) {w : Nat} (hw : itemWidth code pc = w) (hp : m.pos < lim) (hx : ∀ sn, ∃ sn', accepts code pc (text.getD m.pos 0) sn = .ok (true, sn')) :
    ∃ sn, m.step = { m with seen := sn, pc := pc + w, pos := m.pos + 1 } := by
  subst hpc
  rw [step_exec N rfl hlt]
  unfold M.exec M.word
  have h0 : m.code.getD (m.pc + 0) 0 = code.getD m.pc 0 := by rw [N.hc]; rfl
  have hn : ¬ (m.pos ≥ m.lim) := by rw [N.hl]; omega
  obtain ⟨sn', ha⟩ := hx (m.seen.add (code.getD m.pc 0))
  have ha' : accepts m.code m.pc (m.text.getD m.pos 0) (m.seen.add (code.getD m.pc 0)) = .ok (true, sn') := by rw [N.hc, N.ht]; exact ha
  have hw' : itemWidth m.code m.pc = w := by rw [N.hc]; exact hw
  rcases hop with hop | hop
  · simp only [h0, hop, hn, if_false, ha', hw']
    exact ⟨_, rfl⟩
  · simp only [h0, hop, hn, if_false, ha', hw']
    exact ⟨_, rfl⟩
theorem ex_SUCCESS (N : Nice code text lim m) (hpc : m.pc = pc) (hlt : pc < code.size) (hop : ops[code.getD pc 0]? = some .SUCCESS) (h : (m.outermost && ((m.wholeText && m.pos != m.lim) || (m.mustAdvance && m.pos == m.start))) = false) :
    ∃ sn, m.step = { m with seen := sn, handed := m.pos, answer := some true } := by
  subst hpc
  rw [step_exec N rfl hlt]
  unfold M.exec M.word
  have h0 : m.code.getD (m.pc + 0) 0 = code.getD m.pc 0 := by rw [N.hc]; rfl
  simp only [h0, hop, h]
  exact ⟨_, rfl⟩
theorem ex_SUCCESS_no (N : Nice code text lim m) (hpc : m.pc = pc) (hlt : pc < code.size) (hop : ops[code.getD pc 0]? = some .SUCCESS) (h : (m.outermost && ((m.wholeText && m.pos != m.lim) || (m.mustAdvance && m.pos == m.start))) = true) :
    ∃ sn, m.step = { m with seen := sn, answer := some false } := by
  subst hpc
  rw [step_exec N rfl hlt]
  unfold M.exec M.word
  have h0 : m.code.getD (m.pc + 0) 0 = code.getD m.pc 0 := by rw [N.hc]; rfl
  simp only [h0, hop, h, if_true]
  exact ⟨_, rfl⟩
end
end Mine
end
section
set_option tactic.hygienic false
open PySem PySem.Calls PySem.W PyProof.Rows
namespace Mine
open PySem.Sre

/-- the signs of a set -/
noncomputable def Acc (code : Array Nat) (i : Nat) (f : Nat → Bool) : Prop := ∀ c sn, ∃ sn', accepts code i c sn = .ok (f c, sn')
theorem run_ok {code : Array Nat} {i : Nat} {f : Nat → Bool} (h : Acc code i f) (text : Array Nat) : ∀ (n p found : Nat) (sn : Sre.Seen), ∃ k sn', k ≤ n ∧ Sre.run code text i n p found sn = .ok (found + k, sn') ∧ (∀ j, j < k → f (text.getD (p + j) 0) = true) ∧ (k < n → f (text.getD (p + k) 0) = false)
  | 0, p, found, sn => ⟨0, sn, Nat.le_refl _, rfl, fun j hj => absurd hj (Nat.not_lt_zero _), fun hj => absurd hj (Nat.lt_irrefl _)⟩
  | n + 1, p, found, sn => by
    obtain ⟨sn', e⟩ := h (text.getD p 0) sn
    cases hf : f (text.getD p 0) with
    | false =>
      refine ⟨0, sn', Nat.zero_le _, ?_, fun j hj => absurd hj (Nat.not_lt_zero _), fun _ => hf⟩
      unfold Sre.run
      rw [e, hf]; rfl
    | true =>
      obtain ⟨k, sn2, hk, e2, h1, h2⟩ := run_ok h text n (p + 1) (found + 1) sn'
      refine ⟨k + 1, sn2, Nat.succ_le_succ hk, ?_, fun j hj => ?_, fun hj => ?_⟩
      · unfold Sre.run
        rw [e, hf]
        show Sre.run code text i n (p + 1) (found + 1) sn' = _
        rw [e2]; congr 2; omega
      · cases j with
        | zero => exact hf
        | succ j => have := h1 j (by omega); rw [Nat.add_assoc, Nat.add_comm 1 j] at this; exact this
      · have := h2 (by omega); rw [Nat.add_assoc, Nat.add_comm 1 k] at this; exact this
/-- a run whose end is known -/
theorem run_is {code : Array Nat} {i : Nat} {f : Nat → Bool} (h : Acc code i f) (text : Array Nat) {n p r : Nat} (hr : r ≤ n) (h1 : ∀ j, j < r → f (text.getD (p + j) 0) = true) (h2 : r < n → f (text.getD (p + r) 0) = false) (sn : Sre.Seen) :
    ∃ sn', Sre.run code text i n p 0 sn = .ok (r, sn') := by
  obtain ⟨k, sn', hk, e, a1, a2⟩ := run_ok h text n p 0 sn
  have : k = r := by
    rcases Nat.lt_trichotomy k r with q | q | q
    · have := a2 (by omega); rw [h1 k q] at this; cases this
    · exact q
    · have := h2 (by omega); rw [a1 r q] at this; cases this
  subst this
  exact ⟨sn', by rw [e, Nat.zero_add]⟩

section
variable {code text : Array Nat} {lim : Nat} {m : M} {pc : Nat}
theorem ex_REP (N : Nice code text lim m) (hpc : m.pc = pc) (hlt : pc < code.size) (hop : ops[code.getD pc 0]? = some .REPEAT_ONE) {w least most : Nat} (h1 : code.getD (pc + 1) 0 = w) (h2 : code.getD (pc + 2) 0 = least) (h3 : code.getD (pc + 3) 0 = most)
    {r : Nat} (hp : m.pos ≤ lim) (hl : least ≤ r) (hrl : r ≤ lim - m.pos) (hr : ∀ sn, ∃ sn', Sre.run code text (pc + 4) (min most (lim - m.pos)) m.pos 0 sn = .ok (r, sn')) (hw : m.weight + 1 + (m.keep m.inner.isSome).marks.size ≤ 16777216) :
    ∃ sn, m.step = { m with seen := sn, pos := m.pos + r, handed := m.pos + r, pc := pc + 1 + w, weight := m.weight + 1 + (m.keep m.inner.isSome).marks.size,
                            frames := { wait := .giveBack, pc := pc, pos := m.pos + r, outermost := m.outermost, count := r, kept := m.keep m.inner.isSome } :: m.frames } := by
  subst hpc
  rw [step_exec N rfl hlt]
  unfold M.exec
  have g0 : m.word 0 = code.getD m.pc 0 := by unfold M.word; rw [N.hc]; rfl
  have g1 : m.word 1 = w := by unfold M.word; rw [N.hc]; exact h1
  have g2 : m.word 2 = least := by unfold M.word; rw [N.hc]; exact h2
  have g3 : m.word 3 = most := by unfold M.word; rw [N.hc]; exact h3
  have hroom : (((m.lim : Int) - m.pos).toNat) = lim - m.pos := by rw [N.hl]; omega
  have hn : ¬ ((least : Int) > (m.lim : Int) - m.pos) := by rw [N.hl]; omega
  obtain ⟨sn', er⟩ := hr ((m.seen.add (code.getD m.pc 0)).add (m.word 4))
  simp only [g0, hop]
  have w1 : ∀ sn k, M.word { m with seen := sn } k = m.word k := fun _ _ => rfl
  have er' : Sre.run m.code m.text (m.pc + 4) (min most (lim - m.pos)) m.pos 0 ((m.seen.add (code.getD m.pc 0)).add (m.word 4)) = .ok (r, sn') := by rw [N.hc, N.ht]; exact er
  have w4 : ∀ sn, M.word { m with seen := sn } 4 = m.word 4 := fun _ => rfl
  simp only [w1, w4, g2, g3, hn, if_false, hroom, Bool.false_eq_true, er', Nat.not_lt.mpr hl]
  unfold M.afterRun M.attempt
  subst g1
  exact ⟨sn', if_neg (Nat.not_lt.mpr hw)⟩
theorem ex_REP_no (N : Nice code text lim m) (hpc : m.pc = pc) (hlt : pc < code.size) (hop : ops[code.getD pc 0]? = some .REPEAT_ONE) {least most : Nat} (h2 : code.getD (pc + 2) 0 = least) (h3 : code.getD (pc + 3) 0 = most)
    {r : Nat} (hp : m.pos ≤ lim) (hl : r < least) (hr : ∀ sn, ∃ sn', Sre.run code text (pc + 4) (min most (lim - m.pos)) m.pos 0 sn = .ok (r, sn')) :
    ∃ sn, m.step = { m with seen := sn, answer := some false } := by
  subst hpc
  rw [step_exec N rfl hlt]
  unfold M.exec
  have g0 : m.word 0 = code.getD m.pc 0 := by unfold M.word; rw [N.hc]; rfl
  have g2 : m.word 2 = least := by unfold M.word; rw [N.hc]; exact h2
  have g3 : m.word 3 = most := by unfold M.word; rw [N.hc]; exact h3
  have hroom : (((m.lim : Int) - m.pos).toNat) = lim - m.pos := by rw [N.hl]; omega
  obtain ⟨sn', er⟩ := hr ((m.seen.add (code.getD m.pc 0)).add (m.word 4))
  simp only [g0, hop]
  have w1 : ∀ sn k, M.word { m with seen := sn } k = m.word k := fun _ _ => rfl
  by_cases hn : (least : Int) > (m.lim : Int) - m.pos
  · simp only [w1, g2, g3, hn, if_true]
    exact ⟨_, rfl⟩
  · simp only [w1, g2, g3, hn, if_false, hroom]
    have er' : Sre.run m.code m.text (m.pc + 4) (min most (lim - m.pos)) m.pos 0 ((m.seen.add (code.getD m.pc 0)).add (m.word 4)) = .ok (r, sn') := by rw [N.hc, N.ht]; exact er
    simp only [Bool.false_eq_true, if_false, er', hl, if_true]
    exact ⟨sn', rfl⟩
end
end Mine
end
section
set_option tactic.hygienic false
open PySem PySem.Calls PySem.W PyProof.Rows
namespace Mine
open PySem.Sre

theorem step_resume {m : M} {f : Sre.Frame} {rest : List Sre.Frame} {yes : Bool} (ho : m.outcome = none) (ha : m.answer = some yes) (hf : m.frames = f :: rest) :
    m.step = M.resume { m with answer := none, frames := rest, weight := m.weight - (1 + f.kept.marks.size), pc := f.pc, pos := f.pos, outermost := f.outermost } f yes := by
  unfold M.step
  rw [ho]
  simp only [Option.isSome_none, Bool.false_eq_true, if_false]
  rw [ha, hf]

/-- waits that let a success through -/
noncomputable def Pass : Wait → Bool
  | .nextStart | .giveBack | .closeLoop | .maxMore | .maxTail => true
  | _ => false
structure Same (m m' : M) : Prop where
  mks : m'.marks = m.marks
  lm : m'.lastmark = m.lastmark
  st : m'.start = m.start
  hd : m'.handed = m.handed
theorem success_pops : ∀ (fs : List Sre.Frame) (m : M), m.outcome = none → m.answer = some true → m.frames = fs → (∀ f ∈ fs, Pass f.wait = true) → Go (fs.length + 1) m fun m' => m'.outcome = some .matched ∧ Same m m'
  | [], m, ho, ha, hf, _ => by
    refine Go.step ho (Go.done ?_)
    have e : m.step = { m with outcome := some .matched } := by
      unfold M.step
      rw [ho]
      simp only [Option.isSome_none, Bool.false_eq_true, if_false]
      rw [ha, hf]
      simp only [if_true]
    rw [e]; exact ⟨rfl, rfl, rfl, rfl, rfl⟩
  | f :: fs, m, ho, ha, hf, hp => by
    refine Go.step ho ?_
    have hpf := hp f (List.mem_cons_self ..)
    have key : ∃ m1, m.step = m1 ∧ m1.outcome = none ∧ m1.answer = some true ∧ m1.frames = fs ∧ Same m m1 := by
      rw [step_resume ho ha hf]
      refine ⟨_, rfl, ?_⟩
      unfold M.resume
      rcases hw : f.wait <;> rw [hw] at hpf <;> first
        | exact absurd hpf (by decide)
        | (simp only [if_true]; exact ⟨ho, rfl, rfl, rfl, rfl, rfl, rfl⟩)
    obtain ⟨m1, e1, h1, h2, h3, h4⟩ := key
    rw [e1]
    refine (success_pops fs m1 h1 h2 h3 fun f' hf' => hp f' (List.mem_cons_of_mem _ hf')).mono fun m' q => ⟨q.1, q.2.mks.trans h4.mks, q.2.lm.trans h4.lm, q.2.st.trans h4.st, q.2.hd.trans h4.hd⟩

/-- at a failure -/
structure Fail (code text : Array Nat) (lim ls : Nat) (fs : List Sre.Frame) (m : M) : Prop where
  hc : m.code = code
  ht : m.text = text
  hl : m.lim = lim
  ho : m.outcome = none
  ha : m.answer = some false
  hf : m.frames = fs
  hs : m.lastStart = ls
  hz : m.weight ≤ 1000000

section
variable {code text : Array Nat} {lim ls : Nat} {m : M} {pc : Nat} {fs : List Sre.Frame} {f : Sre.Frame}
/-- a run that can give nothing back -/
theorem fail_giveBack (F : Fail code text lim ls (f :: fs) m) (hw : f.wait = .giveBack) {least : Nat} (h2 : code.getD (f.pc + 2) 0 = least) (hc : f.count - 1 < least) : Fail code text lim ls fs m.step := by
  rw [step_resume F.ho F.ha F.hf]
  generalize hm : ({ m with answer := none, frames := fs, weight := m.weight - (1 + f.kept.marks.size), pc := f.pc, pos := f.pos, outermost := f.outermost } : M) = m1
  have g2 : m1.word 2 = least := by subst hm; show m.code.getD (f.pc + 2) 0 = least; rw [F.hc]; exact h2
  have F1 : m1.code = code ∧ m1.text = text ∧ m1.lim = lim ∧ m1.outcome = none ∧ m1.frames = fs ∧ m1.lastStart = ls ∧ m1.weight ≤ 1000000 := by
    subst hm; exact ⟨F.hc, F.ht, F.hl, F.ho, rfl, F.hs, Nat.le_trans (Nat.sub_le _ _) F.hz⟩
  unfold M.resume
  rw [hw]
  simp only [Bool.false_eq_true, if_false, g2, hc, if_true]
  exact ⟨F1.1, F1.2.1, F1.2.2.1, F1.2.2.2.1, rfl, F1.2.2.2.2.1, F1.2.2.2.2.2.1, F1.2.2.2.2.2.2⟩
theorem attemptFrom_plain {m : M} {s : Nat} {first : Bool} (h : m.hasFirstSet = false) (hw : m.weight ≤ 1000000) :
    m.attemptFrom s first = { m with start := s, pos := s, lastmark := -1, lastindex := -1, handed := s, outermost := first, weight := m.weight + 1, frames := { wait := .nextStart, pc := m.pc, pos := s, outermost := first } :: m.frames } := by
  unfold M.attemptFrom M.attemptAt M.attempt
  rw [h]
  simp only [Bool.not_false, if_true]
  have : ¬ (m.weight + 1 + 0 > 16777216) := by omega
  exact if_neg this
/-- every later start fails at the mark of the beginning -/
theorem fail_starts (hop : ops[code.getD pc 0]? = some .AT) (h1 : code.getD (pc + 1) 0 = 0) (hlt : pc < code.size) (hfs : ∀ m : M, m.code = code → m.hasFirstSet = false) : ∀ (d : Nat) (m : M) (f : Sre.Frame), ls - f.pos ≤ d → f.wait = .nextStart → f.pc = pc → Fail code text lim ls [f] m → Go (2 * d + 2) m fun m' => m'.outcome = some .failed := by
  intro d
  induction d with
  | zero =>
    intro m f hd hw hpc F
    refine Go.step F.ho ?_
    rw [step_resume F.ho F.ha F.hf]
    unfold M.resume
    rw [hw]
    simp only [Bool.false_eq_true, if_false]
    have : ¬ (f.pos < m.lastStart) := by rw [F.hs]; omega
    rw [if_neg this]
    refine Go.step F.ho (Go.done ?_)
    unfold M.step M.say
    simp only [F.ho, Option.isSome_none, Bool.false_eq_true, if_false]
  | succ d ih =>
    intro m f hd hw hpc F
    by_cases hlt2 : f.pos < ls
    · refine (Go.step F.ho ?_ : Go (2 * d + 2 + 1 + 1) m _)
      rw [step_resume F.ho F.ha F.hf]
      unfold M.resume
      rw [hw]
      simp only [Bool.false_eq_true, if_false]
      have : f.pos < m.lastStart := by rw [F.hs]; exact hlt2
      rw [if_pos this]
      have e := attemptFrom_plain (m := { m with answer := none, frames := [], weight := m.weight - (1 + f.kept.marks.size), pc := f.pc, pos := f.pos, outermost := f.outermost, mustAdvance := false }) (s := f.pos + 1) (first := false) (hfs _ F.hc) (Nat.le_trans (Nat.sub_le _ _) F.hz)
      rw [e]
      have hz := F.hz
      refine Go.ex F.ho (ex_AT_no (code := code) (text := text) (lim := lim) ⟨F.hc, F.ht, F.hl, F.ho, rfl⟩ hpc hlt hop h1 (Nat.succ_ne_zero _)) fun sn => ?_
      refine ih _ _ ?_ rfl ?_ ⟨F.hc, F.ht, F.hl, F.ho, rfl, rfl, F.hs, ?_⟩
      · show ls - (f.pos + 1) ≤ d; omega
      · exact hpc
      · show m.weight - (1 + f.kept.marks.size) + 1 ≤ _
        omega
    · exact (ih m f (by omega) hw hpc F).le (by omega)
end
end Mine
end
section
set_option tactic.hygienic false
open PySem PySem.Calls PySem.W PyProof.Rows
namespace Mine
open PySem.Sre
noncomputable def tokC : Array Nat := #[14, 4, 0, 1, 4294967295, 6, 0, 24, 9, 0, 4294967295, 13, 4, 8, 12, 0, 1, 17, 0, 24, 19, 1, 4294967295, 13, 14, 21, 9, 0, 671092736, 0, 0, 0, 0, 0, 0, 8, 12, 0, 1, 17, 1, 1]
noncomputable def sp (c : Nat) : Bool := Unicode.isSpace c
noncomputable def inSt (w : List Nat) (c : Nat) : Bool := decide (c < 256) && ((w.toArray).getD (c / 32) 0).testBit (c % 32)
noncomputable def fTok (c : Nat) : Bool := !(inSt [0, 671092736, 0, 0, 0, 0, 0, 0] c || sp c)
theorem set_cat {code : Array Nat} {c fuel i : Nat} {yes : Bool} {sn : Sre.Seen} (h0 : ops[code.getD i 0]? = some .CATEGORY) (h1 : code.getD (i + 1) 0 = 12) : ∃ sn', inSet code c (fuel + 1) i yes sn = if sp c = true then .ok (yes, sn') else inSet code c fuel (i + 2) yes sn' := by
  have hc : category 12 c = .ok (sp c) := by unfold category sp; simp [Except.map]
  refine ⟨(sn.add (code.getD i 0)).add (55 + 12), ?_⟩
  conv => lhs; unfold inSet
  simp only [Nat.add_zero, h0, h1, hc]
  cases sp c <;> rfl
theorem set_fail {code : Array Nat} {c fuel i : Nat} {yes : Bool} {sn : Sre.Seen} (h0 : ops[code.getD i 0]? = some .FAILURE) : ∃ sn', inSet code c (fuel + 1) i yes sn = .ok (!yes, sn') := by
  refine ⟨(sn.add (code.getD i 0)), ?_⟩
  unfold inSet
  simp only [Nat.add_zero, h0]
theorem set_neg {code : Array Nat} {c fuel i : Nat} {yes : Bool} {sn : Sre.Seen} (h0 : ops[code.getD i 0]? = some .NEGATE) : ∃ sn', inSet code c (fuel + 1) i yes sn = inSet code c fuel (i + 1) (!yes) sn' := by
  refine ⟨(sn.add (code.getD i 0)), ?_⟩
  conv => lhs; unfold inSet
  simp only [Nat.add_zero, h0]
theorem set_lit {code : Array Nat} {c fuel i d : Nat} {yes : Bool} {sn : Sre.Seen} (h0 : ops[code.getD i 0]? = some .LITERAL) (h1 : code.getD (i + 1) 0 = d) : ∃ sn', inSet code c (fuel + 1) i yes sn = if (c == d) = true then .ok (yes, sn') else inSet code c fuel (i + 2) yes sn' := by
  refine ⟨(sn.add (code.getD i 0)), ?_⟩
  conv => lhs; unfold inSet
  simp only [Nat.add_zero, h0, h1]
theorem set_chars {code : Array Nat} {c fuel i : Nat} {yes : Bool} {sn : Sre.Seen} {w : List Nat} (h0 : ops[code.getD i 0]? = some .CHARSET) (hw : code.extract (i + 1) (i + 9) = w.toArray) (hl : w.length = 8) (hs : i + 9 ≤ code.size) : ∃ sn', inSet code c (fuel + 1) i yes sn = if inSt w c = true then .ok (yes, sn') else inSet code c fuel (i + 9) yes sn' := by
  refine ⟨(sn.add (code.getD i 0)), ?_⟩
  conv => lhs; unfold inSet
  simp only [Nat.add_zero, h0]
  have : (decide (c < 256) && (code.getD (i + (1 + c / 32)) 0).testBit (c % 32)) = inSt w c := by
    unfold inSt
    by_cases hc : c < 256
    · have : w.toArray.getD (c / 32) 0 = code.getD (i + (1 + c / 32)) 0 := by
        rw [← hw]
        have hlt : c / 32 < 8 := by omega
        rw [Array.getD_eq_getD_getElem?, Array.getD_eq_getD_getElem?, Array.getElem?_extract]
        have h9 : i + 1 + c / 32 = i + (1 + c / 32) := by omega
        rw [if_pos (by omega), h9]
      rw [this]
    · simp [hc]
  rw [this]
theorem acc_tok : Acc tokC 23 fTok := by
  intro c sn
  show ∃ sn', inSet tokC c (41 + 1) 25 true sn = _
  obtain ⟨s1, e1⟩ := set_neg (code := tokC) (c := c) (fuel := 41) (i := 25) (yes := true) (sn := sn) rfl
  obtain ⟨s2, e2⟩ := set_chars (code := tokC) (c := c) (fuel := 40) (i := 26) (yes := false) (sn := s1) (w := [0, 671092736, 0, 0, 0, 0, 0, 0]) rfl (by decide) rfl (by decide)
  obtain ⟨s3, e3⟩ := set_cat (code := tokC) (c := c) (fuel := 39) (i := 35) (yes := false) (sn := s2) rfl rfl
  obtain ⟨s4, e4⟩ := set_fail (code := tokC) (c := c) (fuel := 38) (i := 37) (yes := false) (sn := s3) rfl
  rw [e1]
  show ∃ sn', inSet tokC c 41 26 false s1 = _
  rw [e2, e3, e4]
  unfold fTok
  cases inSt [0, 671092736, 0, 0, 0, 0, 0, 0] c <;> cases sp c <;> exact ⟨_, rfl⟩
theorem acc_sp {code : Array Nat} {i : Nat} (h : ops[code.getD i 0]? = some .IN) (h0 : ops[code.getD (i + 2) 0]? = some .CATEGORY) (h1 : code.getD (i + 2 + 1) 0 = 12) (h2 : ops[code.getD (i + 2 + 2) 0]? = some .FAILURE) (hs : 2 ≤ code.size) : Acc code i sp := by
  intro c sn
  obtain ⟨k, hk⟩ : ∃ k, code.size = k + 1 + 1 := ⟨code.size - 2, by omega⟩
  obtain ⟨s1, e1⟩ := set_cat (code := code) (c := c) (fuel := k + 1) (i := i + 2) (yes := true) (sn := sn) h0 h1
  obtain ⟨s2, e2⟩ := set_fail (code := code) (c := c) (fuel := k) (i := i + 2 + 2) (yes := true) (sn := s1) h2
  unfold accepts
  simp only [h]
  rw [hk, e1, e2]
  cases sp c <;> exact ⟨_, rfl⟩
theorem acc_tok_sp : Acc tokC 11 sp := acc_sp rfl rfl rfl rfl (by decide)
end Mine
end
section
set_option tactic.hygienic false
open PySem PySem.Calls PySem.W PyProof.Rows
namespace Mine
open PySem.Builtin.Re

structure PatOk (C : Cx) (P : Addr) (code : Array Nat) (groups : Nat) : Prop where
  ex : ∃ (fs : Array Value) (T : Addr) (ws : Array Value) (n : Nat), C.G.get? P = some { cls := .type "re.Pattern", data := .fields fs } ∧ fs.getD 5 .none = .ref T ∧ reRawNat (fs.getD 2 .none) = groups ∧ reRawNat (fs.getD 6 .none) = 0 ∧
    C.G.get? T = some { cls := .type "tuple", data := .seq ws n } ∧ (ws.map reRawOf).map (·.toNat) = code

section
variable {C : Cx} {n : Nat} {A : Around} {E : Value → Shared → Prop} {s : Shared} {f : Frz} {P : Addr} {code : Array Nat} {groups : Nat}
theorem wp_rawItems {M : Model} {T : Addr} {o : Obj} {ws : Array Value} {k : Nat} {Q : Array Int → Shared → Prop} (ho : s.heap.get? T = some o) (hd : o.data = .seq ws k) (h : Q (ws.map reRawOf) s) : wpAny M A (reRawItems (.ref T)) Q E s := by
  unfold reRawItems
  exact wpAny_bind (wpAny_seqItems ho hd (wpAny_pure h))
theorem wp_target {x : Str} {t : Tok} {id fn : String} {Q : ReTarget → Shared → Prop} (hz : x.length ≤ 16000000) (p : PatOk C P code groups) (I : Inv C f s.heap)
    (h : Q { pattern := .ref P, string := .str x t, code := code, text := x.cps, kind := 0, groups := groups, pos := 0, lim := x.cps.size } s) :
    wpAny (model C.prog C.w) A (reTarget id fn ⟨[.ref P, .str x t], []⟩) Q E s := by
  obtain ⟨fs, T, ws, k, h1, h2, h3, h4, h5, h6⟩ := p.ex
  unfold reTarget
  dsimp only
  refine wpAny_bind (m := reNamed id fn ["string", "pos", "endpos"] 1 [.str x t] []) (wpAny_of_eq (a := [some (.str x t), none, none]) rfl ?_)
  dsimp only
  refine wpAny_bind (wpAny_pure (wpAny_bind (wpAny_pure (wpAny_bind (wpAny_fieldsOf (I.ghost h1) rfl ?_)))))
  refine wpAny_bind (m := reTextOf (.str x t)) (wpAny_of_eq (a := (x.cps, 0)) rfl ?_)
  dsimp only
  rw [h4]
  refine wpAny_bind (m := reNoCollectionInside (.str x t) 0) (wpAny_of_eq (a := ()) rfl ?_)
  rw [h2]
  refine wpAny_bind (wp_rawItems (I.ghost h5) rfl (wpAny_pure ?_))
  rw [h6, h3]
  have e1 : min (0 : Int).toNat x.cps.size = 0 := by simp
  have e2 : min (2 ^ 63 - 1 : Int).toNat x.cps.size = x.cps.size := by
    have : x.cps.size = x.length := rfl
    have e : ((2 ^ 63 - 1 : Int)).toNat = 9223372036854775807 := by decide
    rw [e]; omega
  rw [e1, e2]; exact h

noncomputable def OneGroup (m : Sre.M) (b e : Nat) : Prop := 1 ≤ m.lastmark ∧ m.marks.getD 0 none = some b ∧ m.marks.getD 1 none = some e ∧ b ≤ e
/-- the match object is made -/
theorem wp_newMatch {x : Str} {t : Tok} {pos lim : Nat} {m : Sre.M} {sp : List Int} {Q : Value → Shared → Prop} (I : Inv C f s.heap)
    (hg : (groups = 0 ∧ sp = [(m.start : Int), m.handed]) ∨ (groups = 1 ∧ ∃ b e, OneGroup m b e ∧ sp = [(m.start : Int), m.handed, b, e]))
    (hQ : ∀ h' f' v, Inv C f' h' → Step C.T f s.heap f' h' → Rep f' (.mat x sp) v → Q v { s with heap := h' }) :
    wpAny (model C.prog C.w) A (reNewMatch (.ref P) (.str x t) groups pos lim m) Q E s := by
  have fin : ∀ rest : List Value, sp.map rawInt = rawInt m.start :: rawInt m.handed :: rest →
      wpAny (model C.prog C.w) A (do let tp ← newTuple (rawInt m.start :: rawInt m.handed :: rest); newFields "re.Match" [.str x t, .ref P, rawInt pos, rawInt lim, rawInt m.lastindex, tp]) Q E s := fun rest hr => by
    rw [← hr]
    refine wpAny_bind (wpAny_newObj_type ?_ ?_)
    · refine wpAny_newObj_type ?_ (by show (6 : Nat) ≤ sizeLine + 2; rw [sizeLine_eq]; decide)
      have I1 := I.push (o := { cls := .type "tuple", data := .seq (sp.map rawInt).toArray }) rfl
      have st1 := Step.push C.T f s.heap { cls := .type "tuple", data := .seq (sp.map rawInt).toArray }
      have I2 := I1.push (o := { cls := .type "re.Match", data := .fields [.str x t, .ref P, rawInt pos, rawInt lim, rawInt m.lastindex, .ref s.heap.objs.size].toArray }) rfl
      have st2 := Step.push C.T (fset f s.heap.objs.size { cls := .type "tuple", data := .seq (sp.map rawInt).toArray }) (s.heap.push { cls := .type "tuple", data := .seq (sp.map rawInt).toArray })
        { cls := .type "re.Match", data := .fields [.str x t, .ref P, rawInt pos, rawInt lim, rawInt m.lastindex, .ref s.heap.objs.size].toArray }
      refine hQ _ _ _ I2 (st1.trans st2) (.mat ⟨_, _, s.heap.objs.size, t, fset_self .., rfl, rfl, rfl, rfl, rfl, ?_⟩)
      exact FTup.mono (st2.le I1) ⟨_, fset_self .., rfl, _, rfl⟩
    · show (sp.map rawInt).toArray.size ≤ sizeLine
      rw [List.size_toArray, List.length_map, sizeLine_eq]
      rcases hg with ⟨_, e⟩ | ⟨_, b, e, _, e'⟩
      · rw [e]; exact (by decide : (2:Nat) ≤ 16777216)
      · rw [e']; exact (by decide : (4:Nat) ≤ 16777216)
  unfold reNewMatch
  rcases hg with ⟨rfl, rfl⟩ | ⟨rfl, b, e, ⟨h1, h2, h3, h4⟩, rfl⟩
  · simp only [List.range_zero, List.flatMap_nil, List.any_nil, Bool.false_eq_true, if_false]
    exact fin [] rfl
  · have hr : List.range 1 = [0] := rfl
    have e1 : (((2 * 0 + 1 : Nat) : Int) ≤ m.lastmark) := h1
    have e2 : ¬ (e < b) := Nat.not_lt.mpr h4
    simp only [hr, List.flatMap_cons, List.flatMap_nil, List.any_cons, List.any_nil, Nat.mul_zero, Nat.zero_add, h2, h3]
    have e3 : ((1 : Nat) : Int) ≤ m.lastmark := h1
    simp only [e3, if_true, e2, decide_false, Bool.and_false, Bool.or_false, Bool.false_eq_true, if_false]
    exact fin [rawInt b, rawInt e] rfl
end
end Mine
end
section
set_option tactic.hygienic false
open PySem PySem.Calls PySem.W PyProof.Rows
namespace Mine
open PySem.Builtin.Re

/-- how a run ends: a match with its places, or none -/
noncomputable def Ends (groups : Nat) (res : Option (List Int)) (m : Sre.M) : Prop :=
  match res with
  | some sp => m.outcome = some .matched ∧ ((groups = 0 ∧ sp = [(m.start : Int), m.handed]) ∨ (groups = 1 ∧ ∃ b e, OneGroup m b e ∧ sp = [(m.start : Int), m.handed, b, e]))
  | none => m.outcome = some .failed
noncomputable def matV (x : Str) : Option (List Int) → V
  | some sp => .mat x sp
  | none => .none

section
variable {C : Cx} {n : Nat} {F : Fs} {σ σ' σ₁ σ₂ σ₃ : List Slot} {v a b c : V} {P : Addr} {code : Array Nat} {groups : Nat}
theorem wp_run {Mo : Model} {A : Around} {E : Value → Shared → Prop} {s : Shared} {m : Sre.M} {res : Option (List Int)} {Q : Option Sre.M → Shared → Prop} (h : Halts m (Ends groups res))
    (hQ : ∀ m', Ends groups res m' → Q (match res with | some _ => some m' | none => none) s) : wpAny Mo A (reRunToEnd m) Q E s := by
  refine wp_reRun h (fun m' h1 h2 => ?_) (fun m' h1 h2 => ?_) fun m' w h1 h2 => ?_
  · have := hQ m' h1
    cases res with
    | some sp => exact this
    | none => unfold Ends at h1; rw [h2] at h1; cases h1
  · have := hQ m' h1
    cases res with
    | some sp => unfold Ends at h1; rw [h2] at h1; cases h1.1
    | none => exact this
  · cases res with
    | some sp => unfold Ends at h1; rw [h2] at h1; cases h1.1
    | none => unfold Ends at h1; rw [h2] at h1; cases h1
theorem wp_answer {A : Around} {s : Shared} {f : Frz} {x : Str} {t : Tok} {m : Sre.M} {res : Option (List Int)} {Q : Value → Shared → Prop} {E : Value → Shared → Prop} {tg : ReTarget} (h : Halts m (Ends groups res)) (I : Inv C f s.heap)
    (h1 : tg.pattern = .ref P) (h2 : tg.string = .str x t) (h3 : tg.groups = groups)
    (hQ : ∀ h' f' v, Inv C f' h' → Step C.T f s.heap f' h' → Rep f' (matV x res) v → Q v { s with heap := h' }) :
    wpAny (model C.prog C.w) A (reAnswer tg m) (fun fin s' => ∃ v, fin = .done (.ret v) ∧ Q v s') E s := by
  unfold reAnswer
  refine wpAny_bind (wp_run h fun m' hm => ?_)
  rw [h1, h2, h3]
  cases res with
  | some sp => exact wpAny_bind (wp_newMatch (t := t) I hm.2 fun h' f' v I' st R => wpAny_pure ⟨v, rfl, hQ h' f' v I' st R⟩)
  | none => exact wpAny_pure ⟨.none, rfl, hQ s.heap f _ I (Step.refl ..) .none⟩
theorem Pu.search {x : Str} {res : Option (List Int)} (p : PatOk C P code groups) (hz : x.length ≤ 16000000) (h : Halts (Sre.forSearch code x.cps groups 0 x.cps.size false) (Ends groups res)) :
    Pu C n (fun us => PySem.call (.builtin "re.Pattern.search") us) [.val (.ref P), .str x] (matV x res) := by
  intro A s f us E Q r h0 I R hQ
  obtain ⟨u, v, rfl, Ru, Rv⟩ := RepAll.two R
  rw [Ru.val_inv]
  obtain ⟨t, rfl⟩ := Rv.str_inv
  obtain ⟨fs, T, ws, k, h1, _⟩ := p.ex
  have hT : s.TypeIs (.ref P) "re.Pattern" := ⟨_, I.ghost h1, rfl⟩
  refine wpAny_call_entry slot_re_Pattern_search hT entry_re_Pattern_search ?_ (args_re_Pattern_search_2 _ _)
  show wpAny _ _ (reTarget "re.Pattern.search" "search" ⟨[.ref P, .str x t], []⟩ >>= fun t => reAnswer t (Sre.forSearch t.code t.text t.groups t.pos t.lim false)) _ _ s
  exact wpAny_bind (wp_target hz p I (wp_answer h I rfl rfl rfl fun h' f' v I' st R => hQ h' s.toks f' v h0 I' st R))
theorem Pu.fullmatch {x : Str} {res : Option (List Int)} (p : PatOk C P code groups) (hz : x.length ≤ 16000000) (h : Halts (Sre.forMatch code x.cps groups 0 x.cps.size true false) (Ends groups res)) :
    Pu C n (fun us => PySem.call (.builtin "re.Pattern.fullmatch") us) [.val (.ref P), .str x] (matV x res) := by
  intro A s f us E Q r h0 I R hQ
  obtain ⟨u, v, rfl, Ru, Rv⟩ := RepAll.two R
  rw [Ru.val_inv]
  obtain ⟨t, rfl⟩ := Rv.str_inv
  obtain ⟨fs, T, ws, k, h1, _⟩ := p.ex
  have hT : s.TypeIs (.ref P) "re.Pattern" := ⟨_, I.ghost h1, rfl⟩
  refine wpAny_call_entry slot_re_Pattern_fullmatch hT entry_re_Pattern_fullmatch ?_ (args_re_Pattern_fullmatch_2 _ _)
  show wpAny _ _ (reTarget "re.Pattern.fullmatch" "fullmatch" ⟨[.ref P, .str x t], []⟩ >>= fun t => reAnswer t (Sre.forMatch t.code t.text t.groups t.pos t.lim true false)) _ _ s
  exact wpAny_bind (wp_target hz p I (wp_answer h I rfl rfl rfl fun h' f' v I' st R => hQ h' s.toks f' v h0 I' st R))
end
end Mine
end
section
set_option tactic.hygienic false
open PySem PySem.Calls PySem.W PyProof.Rows
namespace Mine
open PySem.Sre

theorem Go.ex2 {b : Nat} {m : M} {P : M → Prop} {F : Sre.Seen → Int → M} (ho : m.outcome = none) (h : ∃ sn li, m.step = F sn li) (k : ∀ sn li, Go b (F sn li) P) : Go (b + 1) m P := by
  obtain ⟨sn, li, e⟩ := h
  exact Go.step ho (e ▸ k sn li)
theorem search_start {code text : Array Nat} {groups pos lim : Nat} {must : Bool} {least body : Nat} (hh : header code = (least, body)) (h : (decide (pos > lim) || decide (lim - pos < least)) = false) :
    ∃ sn ls, ((least ≤ 1 ∨ code.getD 2 0 &&& 5 ≠ 0 ∧ body ≠ 0) → ls = lim) ∧ Sre.forSearch code text groups pos lim must =
      M.attemptFrom { code := code, text := text, lim := lim, start := pos, lastStart := ls, mustAdvance := must, pc := body, pos := pos, handed := pos, marks := Array.replicate (2 * groups) none, seen := sn } pos true := by
  obtain ⟨rfl, rfl⟩ : least = (header code).1 ∧ body = (header code).2 := by rw [hh]; exact ⟨rfl, rfl⟩
  unfold Sre.forSearch
  dsimp only
  rw [if_neg (by rw [h]; decide)]
  refine ⟨if (header code).2 == 0 then ({} : Sre.Seen) else ({} : Sre.Seen).add 14, if (decide ((header code).1 > 1) && !((header code).2 != 0 && code.getD 2 0 &&& 5 != 0)) = true then max pos (lim - ((header code).1 - 1)) else lim, ?_, rfl⟩
  rintro (h1 | ⟨h1, h2⟩)
  · rw [if_neg (by simp; omega)]
  · have e1 : (code.getD 2 0 &&& 5 != 0) = true := bne_iff_ne.mpr h1
    have e2 : ((header code).2 != 0) = true := bne_iff_ne.mpr h2
    rw [e1, e2]
    simp
theorem search_short {code text : Array Nat} {groups pos lim : Nat} {must : Bool} {least body : Nat} (hh : header code = (least, body)) (h : (decide (pos > lim) || decide (lim - pos < least)) = true) : Halts (Sre.forSearch code text groups pos lim must) (Ends groups none) := by
  unfold Sre.forSearch
  rw [hh]
  dsimp only
  rw [if_pos h]
  refine Go.halts (b := 1) (Go.step rfl (Go.done ?_)) (by decide)
  exact ⟨rfl, rfl⟩

theorem ok_pops {b : Nat} {m : M} {groups : Nat} {res : List Int} (ho : m.outcome = none) (ha : m.answer = some true) (hp : ∀ f ∈ m.frames, Pass f.wait = true) (hb : m.frames.length + 1 ≤ b)
    (h : (groups = 0 ∧ res = [(m.start : Int), m.handed]) ∨ (groups = 1 ∧ ∃ x y, OneGroup m x y ∧ res = [(m.start : Int), m.handed, x, y])) : Go b m fun m' => m'.outcome.isSome = true ∧ Ends groups (some res) m' := by
  refine ((success_pops _ m ho ha rfl hp).le hb).mono fun m' q => ⟨by rw [q.1]; rfl, q.1, ?_⟩
  rcases h with ⟨h1, h2⟩ | ⟨h1, x, y, ⟨a1, a2, a3, a4⟩, h2⟩
  · exact .inl ⟨h1, by rw [h2, q.2.st, q.2.hd]⟩
  · exact .inr ⟨h1, x, y, ⟨by rw [q.2.lm]; exact a1, by rw [q.2.mks]; exact a2, by rw [q.2.mks]; exact a3, a4⟩, by rw [h2, q.2.st, q.2.hd]⟩

/-- a list's sign -/
theorem getD_list {l : List Nat} {i c : Nat} (h : l[i]? = some c) : l.toArray.getD i 0 = c := by
  rw [Array.getD_eq_getD_getElem?]; simp [h]
noncomputable def runAt (f : Nat → Bool) (l : List Nat) (p r : Nat) : Prop := (∀ j, j < r → f (l.toArray.getD (p + j) 0) = true) ∧ (p + r < l.length → f (l.toArray.getD (p + r) 0) = false)
theorem runAt_mk {f : Nat → Bool} {pre r rest : List Nat} (h1 : ∀ c ∈ r, f c = true) (h2 : ∀ c, rest.head? = some c → f c = false) : runAt f (pre ++ (r ++ rest)) pre.length r.length := by
  refine ⟨fun j hj => ?_, fun hlt => ?_⟩
  · have : (pre ++ (r ++ rest))[pre.length + j]? = some r[j] := by
      rw [List.getElem?_append_right (by omega), Nat.add_sub_cancel_left, List.getElem?_append_left hj]; simp [hj]
    rw [getD_list this]; exact h1 _ (List.getElem_mem _)
  · cases rest with
    | nil => simp at hlt
    | cons c rest =>
      have : (pre ++ (r ++ c :: rest))[pre.length + r.length]? = some c := by
        rw [List.getElem?_append_right (by omega), Nat.add_sub_cancel_left, List.getElem?_append_right (by omega), Nat.sub_self]; rfl
      rw [getD_list this]; exact h2 c rfl
/-- a greedy run over a list -/
theorem rep_run {code : Array Nat} {i : Nat} {f : Nat → Bool} (h : Acc code i f) {l : List Nat} {p r most : Nat} (hm : l.length ≤ most) (hr : runAt f l p r) (hle : r ≤ l.length - p) :
    ∀ sn, ∃ sn', Sre.run code l.toArray i (min most (l.length - p)) p 0 sn = .ok (r, sn') := by
  have e : min most (l.length - p) = l.length - p := by omega
  rw [e]
  exact run_is h l.toArray hle hr.1 fun hlt => hr.2 (by omega)

theorem tok_yes {l tok rest : List Nat} (hl : l = tok ++ rest) (hne : tok ≠ []) (h1 : ∀ c ∈ tok, fTok c = true) (h2 : ∀ c, rest.head? = some c → fTok c = false) (hz : l.length ≤ 1000000) :
    Halts (Sre.forSearch tokC l.toArray 1 0 l.length false) (Ends 1 (some [0, (tok.length : Int), 0, (tok.length : Int)])) := by
  have htl : 0 < tok.length := List.length_pos_iff.mpr hne
  have hll : tok.length ≤ l.length := by rw [hl]; simp
  have hr2 : runAt fTok l 0 tok.length := by
    have := runAt_mk (pre := []) h1 h2
    simpa [hl] using this
  have hr1 : runAt sp l 0 0 := by
    refine ⟨fun j hj => absurd hj (Nat.not_lt_zero _), fun _ => ?_⟩
    have := hr2.1 0 htl
    unfold fTok at this
    simp only [Nat.add_zero] at this ⊢
    cases hs : sp (l.toArray.getD 0 0) with
    | false => rfl
    | true => rw [hs] at this; simp at this
  obtain ⟨sn, ls, _, e⟩ := search_start (code := tokC) (text := l.toArray) (groups := 1) (pos := 0) (lim := l.length) (must := false) (least := 1) (body := 5) rfl (by rw [Bool.or_eq_false_iff]; exact ⟨decide_eq_false (by omega), decide_eq_false (by omega)⟩)
  rw [e, attemptFrom_plain rfl (Nat.zero_le _)]
  refine Go.halts (b := 6 + 4) ?_ (by decide)
  refine Go.ex rfl (ex_AT (code := tokC) (text := l.toArray) (lim := l.length) (pc := 5) ⟨rfl, rfl, rfl, rfl, rfl⟩ rfl (by decide) rfl rfl rfl) fun s1 => ?_
  refine Go.ex rfl (ex_REP (code := tokC) (text := l.toArray) (lim := l.length) (pc := 7) ⟨rfl, rfl, rfl, rfl, rfl⟩ rfl (by decide) rfl rfl rfl (most := 4294967295) rfl (r := 0) (Nat.zero_le _) (Nat.le_refl _) (Nat.zero_le _) (rep_run acc_tok_sp (by omega) hr1 (Nat.zero_le _)) (by exact (by decide : (2 : Nat) ≤ 16777216))) fun s2 => ?_
  refine Go.ex2 rfl (ex_MARK (code := tokC) (text := l.toArray) (lim := l.length) (pc := 17) ⟨rfl, rfl, rfl, rfl, rfl⟩ rfl (by decide) rfl (i := 0) rfl (by exact (by decide : (0 : Int) ≤ -1 + 1))) fun s3 li3 => ?_
  refine Go.ex rfl (ex_REP (code := tokC) (text := l.toArray) (lim := l.length) (pc := 19) ⟨rfl, rfl, rfl, rfl, rfl⟩ rfl (by decide) rfl rfl rfl (most := 4294967295) rfl (r := tok.length) (Nat.zero_le _) htl hll (rep_run acc_tok (by omega) hr2 hll) (by exact (by decide : (3 : Nat) ≤ 16777216))) fun s4 => ?_
  refine Go.ex2 rfl (ex_MARK (code := tokC) (text := l.toArray) (lim := l.length) (pc := 39) ⟨rfl, rfl, rfl, rfl, rfl⟩ rfl (by decide) rfl (i := 1) rfl (by exact (by decide : (1 : Int) ≤ max (-1) 0 + 1))) fun s5 li5 => ?_
  refine Go.ex rfl (ex_SUCCESS (code := tokC) (text := l.toArray) (lim := l.length) (pc := 41) ⟨rfl, rfl, rfl, rfl, rfl⟩ rfl (by decide) rfl rfl) fun s6 => ?_
  refine ok_pops rfl rfl (by simp [Pass]) (by simp) (.inr ⟨rfl, 0, tok.length, ⟨?_, ?_, ?_, Nat.zero_le _⟩, ?_⟩)
  · exact (by decide : (1 : Int) ≤ max (max (-1) 0) 1)
  · rfl
  · simp
  · simp
end Mine
end
section
set_option tactic.hygienic false
open PySem PySem.Calls PySem.W PyProof.Rows
namespace Mine
open PySem.Sre

theorem no_starts {code : Array Nat} {text : Array Nat} {lim ls groups pc : Nat} {m : M} {f : Sre.Frame} (hop : ops[code.getD pc 0]? = some .AT) (h1 : code.getD (pc + 1) 0 = 0) (hlt : pc < code.size) (hfs : ∀ m : M, m.code = code → m.hasFirstSet = false)
    (hw : f.wait = .nextStart) (hpc : f.pc = pc) (hls : ls ≤ 1000000) (F : Fail code text lim ls [f] m) : Go 3000000 m fun m' => m'.outcome.isSome = true ∧ Ends groups none m' := by
  refine ((fail_starts hop h1 hlt hfs ls m f (Nat.sub_le _ _) hw hpc F).le (by omega)).mono fun m' q => ⟨by rw [q]; rfl, q⟩
theorem run0 {f : Nat → Bool} {l : List Nat} {c : Nat} (h : l.head? = some c) (hc : f c = false) : runAt f l 0 0 := by
  refine ⟨fun j hj => absurd hj (Nat.not_lt_zero _), fun _ => ?_⟩
  cases l with
  | nil => cases h
  | cons d l => simp at h; subst h; exact hc
theorem start_ls {code text : Array Nat} {groups pos lim : Nat} {must : Bool} {least body : Nat} (hh : header code = (least, body)) (h : (decide (pos > lim) || decide (lim - pos < least)) = false) (hfs : (({ code := code, text := text, lim := lim, marks := #[], start := 0, pc := 0, pos := 0, handed := 0 } : M).hasFirstSet) = false) :
    ∃ sn ls, ls ≤ max pos lim ∧ ((least ≤ 1 ∨ code.getD 2 0 &&& 5 ≠ 0 ∧ body ≠ 0) → ls = lim) ∧ Sre.forSearch code text groups pos lim must =
      { code := code, text := text, lim := lim, start := pos, lastStart := ls, mustAdvance := must, pc := body, pos := pos, handed := pos, marks := Array.replicate (2 * groups) none, seen := sn, lastmark := -1, lastindex := -1, outermost := true, weight := 1,
        frames := [{ wait := .nextStart, pc := body, pos := pos, outermost := true }] } := by
  obtain ⟨rfl, rfl⟩ : least = (header code).1 ∧ body = (header code).2 := by rw [hh]; exact ⟨rfl, rfl⟩
  refine ⟨if (header code).2 == 0 then ({} : Sre.Seen) else ({} : Sre.Seen).add 14, if (decide ((header code).1 > 1) && !((header code).2 != 0 && code.getD 2 0 &&& 5 != 0)) = true then max pos (lim - ((header code).1 - 1)) else lim, ?_, ?_, ?_⟩
  · split
    · exact Nat.max_le.mpr ⟨Nat.le_max_left .., Nat.le_trans (Nat.sub_le ..) (Nat.le_max_right ..)⟩
    · exact Nat.le_max_right ..
  · rintro (h1 | ⟨h1, h2⟩)
    · rw [if_neg (by simp; omega)]
    · rw [if_neg]
      have e1 : (code.getD 2 0 &&& 5 != 0) = true := bne_iff_ne.mpr h1
      have e2 : ((header code).2 != 0) = true := bne_iff_ne.mpr h2
      rw [e1, e2]
      simp
  · unfold Sre.forSearch
    dsimp only
    rw [if_neg (by rw [h]; decide)]
    exact attemptFrom_plain hfs (Nat.zero_le _)

theorem tok_no {l : List Nat} {c : Nat} (hl : l.head? = some c) (h1 : sp c = false) (h2 : fTok c = false) (hz : l.length ≤ 1000000) :
    Halts (Sre.forSearch tokC l.toArray 1 0 l.length false) (Ends 1 none) := by
  have hpos : 0 < l.length := by cases l with | nil => cases hl | cons => simp
  obtain ⟨sn, ls, hls, _, e⟩ := start_ls (code := tokC) (text := l.toArray) (groups := 1) (pos := 0) (lim := l.length) (must := false) (least := 1) (body := 5) rfl (by rw [Bool.or_eq_false_iff]; exact ⟨decide_eq_false (by omega), decide_eq_false (by omega)⟩) rfl
  rw [e]
  refine Go.halts (b := 3000000 + 5) ?_ (by decide)
  refine Go.ex rfl (ex_AT (code := tokC) (text := l.toArray) (lim := l.length) (pc := 5) ⟨rfl, rfl, rfl, rfl, rfl⟩ rfl (by decide) rfl rfl rfl) fun s1 => ?_
  refine Go.ex rfl (ex_REP (code := tokC) (text := l.toArray) (lim := l.length) (pc := 7) ⟨rfl, rfl, rfl, rfl, rfl⟩ rfl (by decide) rfl rfl rfl (most := 4294967295) rfl (r := 0) (Nat.zero_le _) (Nat.le_refl _) (Nat.zero_le _) (rep_run acc_tok_sp (by omega) (run0 hl h1) (Nat.zero_le _)) (by exact (by decide : (2 : Nat) ≤ 16777216))) fun s2 => ?_
  refine Go.ex2 rfl (ex_MARK (code := tokC) (text := l.toArray) (lim := l.length) (pc := 17) ⟨rfl, rfl, rfl, rfl, rfl⟩ rfl (by decide) rfl (i := 0) rfl (by exact (by decide : (0 : Int) ≤ -1 + 1))) fun s3 li3 => ?_
  refine Go.ex rfl (ex_REP_no (code := tokC) (text := l.toArray) (lim := l.length) (pc := 19) ⟨rfl, rfl, rfl, rfl, rfl⟩ rfl (by decide) rfl (least := 1) rfl (most := 4294967295) rfl (r := 0) (Nat.zero_le _) (by decide) (rep_run acc_tok (by omega) (run0 hl h2) (Nat.zero_le _))) fun s4 => ?_
  refine Go.step rfl ?_
  refine no_starts (code := tokC) (text := l.toArray) (lim := l.length) (ls := ls) (pc := 5) rfl rfl (by decide) (fun m hm => by unfold M.hasFirstSet; rw [hm]; rfl) rfl rfl (by omega) (fail_giveBack (least := 0) ⟨rfl, rfl, rfl, rfl, rfl, rfl, rfl, ?_⟩ rfl rfl (by exact (by decide : ((0 : Nat) : Int) - 1 < ((0 : Nat) : Int))))
  exact (by decide : (2 : Nat) ≤ 1000000)

/-! a value without signs around it -/
noncomputable def valC : Array Nat := #[14, 4, 0, 1, 4294967295, 6, 0, 24, 9, 0, 4294967295, 13, 4, 8, 12, 0, 1, 16, 61, 24, 9, 0, 4294967295, 13, 4, 8, 12, 0, 1, 17, 0, 24, 14, 0, 4294967295, 13, 9, 21, 8, 12, 16, 59, 16, 44, 0, 1, 17, 1, 1]
noncomputable def fVal (c : Nat) : Bool := !(sp c || c == 59 || c == 44)
theorem acc_val_sp1 : Acc valC 11 sp := acc_sp rfl rfl rfl rfl (by decide)
theorem acc_val_sp2 : Acc valC 23 sp := acc_sp rfl rfl rfl rfl (by decide)
theorem acc_val : Acc valC 35 fVal := by
  intro c sn
  show ∃ sn', inSet valC c (48 + 1) 37 true sn = _
  obtain ⟨s1, e1⟩ := set_neg (code := valC) (c := c) (fuel := 48) (i := 37) (yes := true) (sn := sn) rfl
  obtain ⟨s2, e2⟩ := set_cat (code := valC) (c := c) (fuel := 47) (i := 38) (yes := false) (sn := s1) rfl rfl
  obtain ⟨s3, e3⟩ := set_lit (code := valC) (c := c) (fuel := 46) (i := 40) (d := 59) (yes := false) (sn := s2) rfl rfl
  obtain ⟨s4, e4⟩ := set_lit (code := valC) (c := c) (fuel := 45) (i := 42) (d := 44) (yes := false) (sn := s3) rfl rfl
  obtain ⟨s5, e5⟩ := set_fail (code := valC) (c := c) (fuel := 44) (i := 44) (yes := false) (sn := s4) rfl
  rw [e1]
  show ∃ sn', inSet valC c 48 38 false s1 = _
  rw [e2, e3, e4, e5]
  unfold fVal
  cases sp c <;> cases c == 59 <;> cases c == 44 <;> exact ⟨_, rfl⟩
theorem val_yes {l v rest : List Nat} (hl : l = 61 :: (v ++ rest)) (h1 : ∀ c ∈ v, fVal c = true) (h2 : ∀ c, rest.head? = some c → fVal c = false ∧ sp c = false) (hsp : sp 61 = false) (hz : l.length ≤ 1000000) :
    Halts (Sre.forSearch valC l.toArray 1 0 l.length false) (Ends 1 (some [0, ((1 + v.length : Nat) : Int), ((1 : Nat) : Int), ((1 + v.length : Nat) : Int)])) := by
  have hlen : l.length = 1 + (v.length + rest.length) := by rw [hl]; simp; omega
  have hr1 : runAt sp l 0 0 := run0 (c := 61) (by rw [hl]; rfl) hsp
  have hr3 : runAt fVal l 1 v.length := by
    have := runAt_mk (pre := [61]) h1 fun c hc => (h2 c hc).1
    rw [hl]; exact this
  have hr2 : runAt sp l 1 0 := by
    have : runAt sp ([61] ++ ([] ++ (v ++ rest))) 1 0 := runAt_mk (pre := [61]) (r := []) (by simp) fun c hc => by
      cases v with
      | nil => exact (h2 c hc).2
      | cons d v =>
        simp at hc; subst hc
        have := h1 d (List.mem_cons_self ..)
        unfold fVal at this
        cases hs : sp d with
        | false => rfl
        | true => rw [hs] at this; simp at this
    rw [hl]; exact this
  obtain ⟨sn, ls, hls, _, e⟩ := start_ls (code := valC) (text := l.toArray) (groups := 1) (pos := 0) (lim := l.length) (must := false) (least := 1) (body := 5) rfl (by rw [Bool.or_eq_false_iff]; exact ⟨decide_eq_false (by omega), decide_eq_false (by omega)⟩) rfl
  rw [e]
  refine Go.halts (b := 8 + 5) ?_ (by decide)
  refine Go.ex rfl (ex_AT (code := valC) (text := l.toArray) (lim := l.length) (pc := 5) ⟨rfl, rfl, rfl, rfl, rfl⟩ rfl (by decide) rfl rfl rfl) fun s1 => ?_
  refine Go.ex rfl (ex_REP (code := valC) (text := l.toArray) (lim := l.length) (pc := 7) ⟨rfl, rfl, rfl, rfl, rfl⟩ rfl (by decide) rfl rfl rfl (most := 4294967295) rfl (r := 0) (Nat.zero_le _) (Nat.le_refl _) (Nat.zero_le _) (rep_run acc_val_sp1 (by omega) hr1 (Nat.zero_le _)) (by exact (by decide : (2 : Nat) ≤ 16777216))) fun s2 => ?_
  refine Go.ex rfl (ex_LIT (code := valC) (text := l.toArray) (lim := l.length) (pc := 17) ⟨rfl, rfl, rfl, rfl, rfl⟩ rfl (by decide) rfl (c := 61) rfl (by show 0 < l.length; omega) (by rw [hl]; rfl)) fun s3 => ?_
  refine Go.ex rfl (ex_REP (code := valC) (text := l.toArray) (lim := l.length) (pc := 19) ⟨rfl, rfl, rfl, rfl, rfl⟩ rfl (by decide) rfl rfl rfl (most := 4294967295) rfl (r := 0) (by show 1 ≤ l.length; omega) (Nat.le_refl _) (Nat.zero_le _) (rep_run acc_val_sp2 (by omega) hr2 (Nat.zero_le _)) (by exact (by decide : (3 : Nat) ≤ 16777216))) fun s4 => ?_
  refine Go.ex2 rfl (ex_MARK (code := valC) (text := l.toArray) (lim := l.length) (pc := 29) ⟨rfl, rfl, rfl, rfl, rfl⟩ rfl (by decide) rfl (i := 0) rfl (by exact (by decide : (0 : Int) ≤ -1 + 1))) fun s5 li5 => ?_
  refine Go.ex rfl (ex_REP (code := valC) (text := l.toArray) (lim := l.length) (pc := 31) ⟨rfl, rfl, rfl, rfl, rfl⟩ rfl (by decide) rfl rfl rfl (most := 4294967295) rfl (r := v.length) (by show 1 ≤ l.length; omega) (Nat.zero_le _) (by show v.length ≤ l.length - 1; omega) (rep_run acc_val (by omega) hr3 (by show v.length ≤ l.length - 1; omega)) (by exact (by decide : (4 : Nat) ≤ 16777216))) fun s6 => ?_
  refine Go.ex2 rfl (ex_MARK (code := valC) (text := l.toArray) (lim := l.length) (pc := 46) ⟨rfl, rfl, rfl, rfl, rfl⟩ rfl (by decide) rfl (i := 1) rfl (by exact (by decide : (1 : Int) ≤ max (-1) 0 + 1))) fun s7 li7 => ?_
  refine Go.ex rfl (ex_SUCCESS (code := valC) (text := l.toArray) (lim := l.length) (pc := 48) ⟨rfl, rfl, rfl, rfl, rfl⟩ rfl (by decide) rfl rfl) fun s8 => ?_
  refine ok_pops rfl rfl (by simp [Pass]) (by simp) (.inr ⟨rfl, 1, 1 + v.length, ⟨?_, ?_, ?_, Nat.le_add_right _ _⟩, ?_⟩)
  · exact (by decide : (1 : Int) ≤ max (max (-1) 0) 1)
  · rfl
  · rfl
  · rfl
end Mine
end
section
set_option tactic.hygienic false
open PySem PySem.Calls PySem.W PyProof.Rows
namespace Mine
open PySem.Sre

theorem go_giveBack {code text : Array Nat} {lim ls b : Nat} {m : M} {P : M → Prop} {fs : List Sre.Frame} {f : Sre.Frame} (F : Fail code text lim ls (f :: fs) m) (hw : f.wait = .giveBack) {least : Nat} (h2 : code.getD (f.pc + 2) 0 = least) (hc : f.count - 1 < least)
    (k : ∀ m', Fail code text lim ls fs m' → Go b m' P) : Go (b + 1) m P := Go.step F.ho (k _ (fail_giveBack F hw h2 hc))
theorem val_no {l : List Nat} (h1 : ∀ c, l.head? = some c → sp c = false ∧ c ≠ 61) (hz : l.length ≤ 1000000) :
    Halts (Sre.forSearch valC l.toArray 1 0 l.length false) (Ends 1 none) := by
  cases hh : l.head? with
  | none =>
    have : l = [] := by cases l with | nil => rfl | cons => simp at hh
    subst this
    exact search_short (least := 1) (body := 5) rfl (by decide)
  | some c =>
    have hpos : 0 < l.length := by cases l with | nil => cases hh | cons => simp
    have hg : l.toArray.getD 0 0 = c := getD_list (by cases l with | nil => cases hh | cons => simpa using hh)
    obtain ⟨sn, ls, hls, _, e⟩ := start_ls (code := valC) (text := l.toArray) (groups := 1) (pos := 0) (lim := l.length) (must := false) (least := 1) (body := 5) rfl (by rw [Bool.or_eq_false_iff]; exact ⟨decide_eq_false (by omega), decide_eq_false (by omega)⟩) rfl
    rw [e]
    refine Go.halts (b := 3000000 + 4) ?_ (by decide)
    refine Go.ex rfl (ex_AT (code := valC) (text := l.toArray) (lim := l.length) (pc := 5) ⟨rfl, rfl, rfl, rfl, rfl⟩ rfl (by decide) rfl rfl rfl) fun s1 => ?_
    refine Go.ex rfl (ex_REP (code := valC) (text := l.toArray) (lim := l.length) (pc := 7) ⟨rfl, rfl, rfl, rfl, rfl⟩ rfl (by decide) rfl rfl rfl (most := 4294967295) rfl (r := 0) (Nat.zero_le _) (Nat.le_refl _) (Nat.zero_le _) (rep_run acc_val_sp1 (by omega) (run0 hh (h1 c hh).1) (Nat.zero_le _)) (by exact (by decide : (2 : Nat) ≤ 16777216))) fun s2 => ?_
    refine Go.ex rfl (ex_LIT_no (code := valC) (text := l.toArray) (lim := l.length) (pc := 17) ⟨rfl, rfl, rfl, rfl, rfl⟩ rfl (by decide) rfl (c := 61) rfl (fun _ => by show l.toArray.getD 0 0 ≠ 61; rw [hg]; exact (h1 c hh).2)) fun s3 => ?_
    refine Go.step rfl ?_
    refine no_starts (code := valC) (text := l.toArray) (lim := l.length) (ls := ls) (pc := 5) rfl rfl (by decide) (fun m hm => by unfold M.hasFirstSet; rw [hm]; rfl) rfl rfl (by omega) (fail_giveBack (least := 0) ⟨rfl, rfl, rfl, rfl, rfl, rfl, rfl, ?_⟩ rfl rfl (by exact (by decide : ((0 : Nat) : Int) - 1 < ((0 : Nat) : Int))))
    exact (by decide : (2 : Nat) ≤ 1000000)

noncomputable def quoC : Array Nat := #[14, 4, 0, 3, 4294967295, 6, 0, 24, 9, 0, 4294967295, 13, 4, 8, 12, 0, 1, 16, 61, 24, 9, 0, 4294967295, 13, 4, 8, 12, 0, 1, 16, 34, 17, 0, 24, 12, 0, 4294967295, 13, 7, 21, 16, 34, 16, 92, 0, 1, 23, 19, 0, 4294967295, 16, 92, 2, 24, 12, 0, 4294967295, 13, 7, 21, 16, 34, 16, 92, 0, 1, 18, 17, 1, 16, 34, 1]
noncomputable def fQ (c : Nat) : Bool := !(c == 34 || c == 92)
theorem acc_q_sp1 : Acc quoC 11 sp := acc_sp rfl rfl rfl rfl (by decide)
theorem acc_q_sp2 : Acc quoC 23 sp := acc_sp rfl rfl rfl rfl (by decide)
theorem acc_q {i : Nat} (hi : i = 37 ∨ i = 57) : Acc quoC i fQ := by
  intro c sn
  rcases hi with rfl | rfl
  · show ∃ sn', inSet quoC c (71 + 1) 39 true sn = _
    obtain ⟨s1, e1⟩ := set_neg (code := quoC) (c := c) (fuel := 71) (i := 39) (yes := true) (sn := sn) rfl
    obtain ⟨s3, e3⟩ := set_lit (code := quoC) (c := c) (fuel := 70) (i := 40) (d := 34) (yes := false) (sn := s1) rfl rfl
    obtain ⟨s4, e4⟩ := set_lit (code := quoC) (c := c) (fuel := 69) (i := 42) (d := 92) (yes := false) (sn := s3) rfl rfl
    obtain ⟨s5, e5⟩ := set_fail (code := quoC) (c := c) (fuel := 68) (i := 44) (yes := false) (sn := s4) rfl
    rw [e1]
    show ∃ sn', inSet quoC c 71 40 false s1 = _
    rw [e3, e4, e5]
    unfold fQ
    cases c == 34 <;> cases c == 92 <;> exact ⟨_, rfl⟩
  · show ∃ sn', inSet quoC c (71 + 1) 59 true sn = _
    obtain ⟨s1, e1⟩ := set_neg (code := quoC) (c := c) (fuel := 71) (i := 59) (yes := true) (sn := sn) rfl
    obtain ⟨s3, e3⟩ := set_lit (code := quoC) (c := c) (fuel := 70) (i := 60) (d := 34) (yes := false) (sn := s1) rfl rfl
    obtain ⟨s4, e4⟩ := set_lit (code := quoC) (c := c) (fuel := 69) (i := 62) (d := 92) (yes := false) (sn := s3) rfl rfl
    obtain ⟨s5, e5⟩ := set_fail (code := quoC) (c := c) (fuel := 68) (i := 64) (yes := false) (sn := s4) rfl
    rw [e1]
    show ∃ sn', inSet quoC c 71 60 false s1 = _
    rw [e3, e4, e5]
    unfold fQ
    cases c == 34 <;> cases c == 92 <;> exact ⟨_, rfl⟩
theorem quo_no {l : List Nat} (h1 : ∀ c, l.head? = some c → sp c = false ∧ c ≠ 61) (hz : l.length ≤ 1000000) :
    Halts (Sre.forSearch quoC l.toArray 1 0 l.length false) (Ends 1 none) := by
  by_cases h3 : l.length < 3
  · exact search_short (least := 3) (body := 5) rfl (by rw [Bool.or_eq_true]; right; exact decide_eq_true (by omega))
  · obtain ⟨c, hh⟩ : ∃ c, l.head? = some c := by cases l with | nil => simp at h3 | cons a r => exact ⟨a, rfl⟩
    have hg : l.toArray.getD 0 0 = c := getD_list (by cases l with | nil => cases hh | cons => simpa using hh)
    obtain ⟨sn, ls, hls, _, e⟩ := start_ls (code := quoC) (text := l.toArray) (groups := 1) (pos := 0) (lim := l.length) (must := false) (least := 3) (body := 5) rfl (by rw [Bool.or_eq_false_iff]; exact ⟨decide_eq_false (by omega), decide_eq_false (by omega)⟩) rfl
    rw [e]
    refine Go.halts (b := 3000000 + 4) ?_ (by decide)
    refine Go.ex rfl (ex_AT (code := quoC) (text := l.toArray) (lim := l.length) (pc := 5) ⟨rfl, rfl, rfl, rfl, rfl⟩ rfl (by decide) rfl rfl rfl) fun s1 => ?_
    refine Go.ex rfl (ex_REP (code := quoC) (text := l.toArray) (lim := l.length) (pc := 7) ⟨rfl, rfl, rfl, rfl, rfl⟩ rfl (by decide) rfl rfl rfl (most := 4294967295) rfl (r := 0) (Nat.zero_le _) (Nat.le_refl _) (Nat.zero_le _) (rep_run acc_q_sp1 (by omega) (run0 hh (h1 c hh).1) (Nat.zero_le _)) (by exact (by decide : (2 : Nat) ≤ 16777216))) fun s2 => ?_
    refine Go.ex rfl (ex_LIT_no (code := quoC) (text := l.toArray) (lim := l.length) (pc := 17) ⟨rfl, rfl, rfl, rfl, rfl⟩ rfl (by decide) rfl (c := 61) rfl (fun _ => by show l.toArray.getD 0 0 ≠ 61; rw [hg]; exact (h1 c hh).2)) fun s3 => ?_
    refine Go.step rfl ?_
    refine no_starts (code := quoC) (text := l.toArray) (lim := l.length) (ls := ls) (pc := 5) rfl rfl (by decide) (fun m hm => by unfold M.hasFirstSet; rw [hm]; rfl) rfl rfl (by omega) (fail_giveBack (least := 0) ⟨rfl, rfl, rfl, rfl, rfl, rfl, rfl, ?_⟩ rfl rfl (by exact (by decide : ((0 : Nat) : Int) - 1 < ((0 : Nat) : Int))))
    exact (by decide : (2 : Nat) ≤ 1000000)
/-- an equals sign, and no quote behind it -/
theorem quo_no2 {l r : List Nat} {d : Nat} (hl : l = 61 :: d :: r) (hsp : sp 61 = false) (h1 : sp d = false) (h2 : d ≠ 34) (hz : l.length ≤ 1000000) :
    Halts (Sre.forSearch quoC l.toArray 1 0 l.length false) (Ends 1 none) := by
  by_cases h3 : l.length < 3
  · exact search_short (least := 3) (body := 5) rfl (by rw [Bool.or_eq_true]; right; exact decide_eq_true (by omega))
  · have hr1 : runAt sp l 0 0 := run0 (c := 61) (by rw [hl]; rfl) hsp
    have hg1 : l.toArray.getD 1 0 = d := getD_list (by rw [hl]; rfl)
    have hr2 : runAt sp l 1 0 := ⟨fun j hj => absurd hj (Nat.not_lt_zero _), fun _ => by show sp (l.toArray.getD 1 0) = false; rw [hg1]; exact h1⟩
    obtain ⟨sn, ls, hls, _, e⟩ := start_ls (code := quoC) (text := l.toArray) (groups := 1) (pos := 0) (lim := l.length) (must := false) (least := 3) (body := 5) rfl (by rw [Bool.or_eq_false_iff]; exact ⟨decide_eq_false (by omega), decide_eq_false (by omega)⟩) rfl
    rw [e]
    refine Go.halts (b := 3000000 + 7) ?_ (by decide)
    refine Go.ex rfl (ex_AT (code := quoC) (text := l.toArray) (lim := l.length) (pc := 5) ⟨rfl, rfl, rfl, rfl, rfl⟩ rfl (by decide) rfl rfl rfl) fun s1 => ?_
    refine Go.ex rfl (ex_REP (code := quoC) (text := l.toArray) (lim := l.length) (pc := 7) ⟨rfl, rfl, rfl, rfl, rfl⟩ rfl (by decide) rfl rfl rfl (most := 4294967295) rfl (r := 0) (Nat.zero_le _) (Nat.le_refl _) (Nat.zero_le _) (rep_run acc_q_sp1 (by omega) hr1 (Nat.zero_le _)) (by exact (by decide : (2 : Nat) ≤ 16777216))) fun s2 => ?_
    refine Go.ex rfl (ex_LIT (code := quoC) (text := l.toArray) (lim := l.length) (pc := 17) ⟨rfl, rfl, rfl, rfl, rfl⟩ rfl (by decide) rfl (c := 61) rfl (by show 0 < l.length; omega) (by rw [hl]; rfl)) fun s3 => ?_
    refine Go.ex rfl (ex_REP (code := quoC) (text := l.toArray) (lim := l.length) (pc := 19) ⟨rfl, rfl, rfl, rfl, rfl⟩ rfl (by decide) rfl rfl rfl (most := 4294967295) rfl (r := 0) (by show 1 ≤ l.length; omega) (Nat.le_refl _) (Nat.zero_le _) (rep_run acc_q_sp2 (by omega) hr2 (Nat.zero_le _)) (by exact (by decide : (3 : Nat) ≤ 16777216))) fun s4 => ?_
    refine Go.ex rfl (ex_LIT_no (code := quoC) (text := l.toArray) (lim := l.length) (pc := 29) ⟨rfl, rfl, rfl, rfl, rfl⟩ rfl (by decide) rfl (c := 34) rfl (fun _ => by show l.toArray.getD 1 0 ≠ 34; rw [hg1]; exact h2)) fun s5 => ?_
    refine go_giveBack (code := quoC) (text := l.toArray) (lim := l.length) (ls := ls) (least := 0) ⟨rfl, rfl, rfl, rfl, rfl, rfl, rfl, (by exact (by decide : (3 : Nat) ≤ 1000000))⟩ rfl rfl (by exact (by decide : ((0 : Nat) : Int) - 1 < ((0 : Nat) : Int))) fun m1 F1 => ?_
    refine go_giveBack (least := 0) F1 rfl rfl (by exact (by decide : ((0 : Nat) : Int) - 1 < ((0 : Nat) : Int))) fun m2 F2 => ?_
    exact no_starts (code := quoC) (text := l.toArray) (lim := l.length) (ls := ls) (pc := 5) rfl rfl (by decide) (fun m hm => by unfold M.hasFirstSet; rw [hm]; rfl) rfl rfl (by omega) F2
end Mine
end
section
set_option tactic.hygienic false
open PySem PySem.Calls PySem.W PyProof.Rows
namespace Mine
open PySem.Sre

section
variable {code text : Array Nat} {lim : Nat} {m : M} {pc : Nat}
theorem ex_REPEAT (N : Nice code text lim m) (hpc : m.pc = pc) (hlt : pc < code.size) (hop : ops[code.getD pc 0]? = some .REPEAT) {w : Nat} (h1 : code.getD (pc + 1) 0 = w) (hl : m.loops = #[]) (hi : m.inner = none) (hw : m.weight + 1 ≤ 16777216) :
    ∃ sn, m.step = { m with seen := sn, pc := pc + 1 + w, handed := m.pos, loops := #[{ pc := pc, outer := none }], inner := some 0, weight := m.weight + 1,
                            frames := { wait := .closeLoop, pc := pc, pos := m.pos, outermost := m.outermost, loop := 0 } :: m.frames } := by
  subst hpc
  rw [step_exec N rfl hlt]
  unfold M.exec
  have g0 : m.word 0 = code.getD m.pc 0 := by unfold M.word; rw [N.hc]; rfl
  have g1 : m.word 1 = w := by unfold M.word; rw [N.hc]; exact h1
  subst g1
  simp only [g0, hop, hl, hi]
  unfold M.attempt
  exact ⟨_, if_neg (Nat.not_lt.mpr hw)⟩
theorem until_eq {m : M} {L : Sre.Loop} (hl : m.loops = #[L]) (hi : m.inner = some 0) (h2 : m.code.getD (L.pc + 2) 0 = 0) (h3 : m.code.getD (L.pc + 3) 0 = 4294967295)
    (hc : 0 ≤ L.count + 1) (hb : L.began ≠ some m.pos) (hw : m.weight + 1 + (m.keep true).marks.size ≤ 16777216) :
    m.until_ true = { m with pc := L.pc + 4, handed := m.pos, loops := #[{ L with count := L.count + 1, began := some m.pos }], weight := m.weight + 1 + (m.keep true).marks.size,
                                 frames := { wait := .maxMore, pc := m.pc, pos := m.pos, outermost := m.outermost, loop := 0, count := L.count + 1, kept := m.keep true, began := L.began } :: m.frames } := by
  have hL : m.loopAt 0 = L := by unfold M.loopAt; rw [hl]; rfl
  unfold M.until_
  rw [hi]
  dsimp only
  rw [hL, h2, h3]
  have c1 : ¬ (L.count + 1 < ((0 : Nat) : Int)) := by omega
  have c2 : ((decide (L.count + 1 < ((4294967295 : Nat) : Int)) || (4294967295 : Nat) == maxRepeat) && L.began != some m.pos) = true := by
    have : (L.began != some m.pos) = true := bne_iff_ne.mpr hb
    rw [this]; simp [maxRepeat]
  rw [if_neg c1]
  simp only [Bool.not_true, Bool.false_eq_true, if_false, c2, if_true]
  unfold M.round
  rw [hL]
  have hs : m.setLoop 0 (fun (q : Sre.Loop) => { q with count := L.count + 1, began := (if true = true then some m.pos else q.began) }) = { m with loops := #[{ L with count := L.count + 1, began := some m.pos }] } := by
    unfold M.setLoop; rw [hl]; rfl
  dsimp only
  rw [hs]
  unfold M.attempt
  refine (if_neg ?_).trans ?_
  · exact Nat.not_lt.mpr hw
  · simp only [M.frame, M.mk.injEq, true_and, and_true]; exact hi
theorem ex_UNTIL (N : Nice code text lim m) (hpc : m.pc = pc) (hlt : pc < code.size) (hop : ops[code.getD pc 0]? = some .MAX_UNTIL) {L : Sre.Loop} (hl : m.loops = #[L]) (hi : m.inner = some 0) (h2 : code.getD (L.pc + 2) 0 = 0) (h3 : code.getD (L.pc + 3) 0 = 4294967295)
    (hc : 0 ≤ L.count + 1) (hb : L.began ≠ some m.pos) (hw : m.weight + 1 + (m.keep true).marks.size ≤ 16777216) :
    ∃ sn, m.step = { m with seen := sn, pc := L.pc + 4, handed := m.pos, loops := #[{ L with count := L.count + 1, began := some m.pos }], weight := m.weight + 1 + (m.keep true).marks.size,
                            frames := { wait := .maxMore, pc := pc + 1, pos := m.pos, outermost := m.outermost, loop := 0, count := L.count + 1, kept := m.keep true, began := L.began } :: m.frames } := by
  subst hpc
  rw [step_exec N rfl hlt]
  unfold M.exec
  have g0 : m.word 0 = code.getD m.pc 0 := by unfold M.word; rw [N.hc]; rfl
  simp only [g0, hop]
  refine ⟨m.seen.add (code.getD m.pc 0), ?_⟩
  exact until_eq (m := { m with seen := m.seen.add (code.getD m.pc 0), pc := m.pc + 1 }) hl hi (by rw [← N.hc] at h2; exact h2) (by rw [← N.hc] at h3; exact h3) hc hb hw
end

/-- in the loop of a quoted value, at its head -/
structure QL (l : List Nat) (P0 p : Nat) (W : Nat) (m : M) : Prop where
  N : Nice quoC l.toArray l.length m
  pc : m.pc = 66
  pos : m.pos = p
  mks : m.marks = #[some P0, none]
  lm : m.lastmark = 0
  lp : ∃ cnt bg, m.loops = #[{ pc := 46, count := cnt, began := bg, outer := none }] ∧ -1 ≤ cnt ∧ bg ≠ some p
  inn : m.inner = some 0
  ou : m.outermost = true
  wh : m.wholeText = false
  mu : m.mustAdvance = false
  st : m.start = 0
  fr : ∀ f ∈ m.frames, Pass f.wait = true
  fl : m.frames.length ≤ W
  wt : m.weight ≤ 3 * W
theorem keep_true {m : M} {P0 : Nat} (h : m.marks = #[some P0, none]) (hl : m.lastmark = 0) : (m.keep true).marks = #[some P0] := by
  unfold M.keep
  rw [h, hl]; rfl
theorem ql_turn {l : List Nat} {P0 p W c : Nat} {r rest pre : List Nat} {m : M} (Q : QL l P0 p W m) (hl : l = pre ++ (92 :: c :: (r ++ rest))) (hp : pre.length = p) (hc : c ≠ 10) (hr : ∀ d ∈ r, fQ d = true) (hrest : ∀ d, rest.head? = some d → fQ d = false)
    (hz : l.length ≤ 1000000) (hW : W ≤ 2000000) : Go 4 m (QL l P0 (p + 2 + r.length) (W + 2)) := by
  obtain ⟨cnt, bg, hlp, hcnt, hbg⟩ := Q.lp
  have hlen : l.length = p + (2 + (r.length + rest.length)) := by rw [hl, ← hp]; simp; omega
  have g1 : l.toArray.getD p 0 = 92 := getD_list (by rw [hl, ← hp, List.getElem?_append_right (Nat.le_refl _), Nat.sub_self]; rfl)
  have g2 : l.toArray.getD (p + 1) 0 = c := getD_list (by rw [hl, ← hp, List.getElem?_append_right (by omega), Nat.add_sub_cancel_left]; rfl)
  have hrun : runAt fQ l (p + 1 + 1) r.length := by
    have := runAt_mk (f := fQ) (pre := pre ++ [92, c]) (r := r) (rest := rest) hr hrest
    have e : pre ++ [92, c] ++ (r ++ rest) = l := by rw [hl]; simp
    rw [e] at this
    have e2 : (pre ++ [92, c]).length = p + 1 + 1 := by simp [hp]
    rw [e2] at this; exact this
  have kt := keep_true Q.mks Q.lm
  have hwt := Q.wt
  have hkt : (m.keep true).marks.size = 1 := by rw [kt]; rfl
  refine Go.ex Q.N.ho (ex_UNTIL (code := quoC) (text := l.toArray) (lim := l.length) (pc := 66) Q.N Q.pc (by decide) rfl hlp Q.inn rfl rfl (by dsimp only; omega) (by rw [Q.pos]; exact hbg) (by omega)) fun s1 => ?_
  refine Go.ex Q.N.ho (ex_LIT (code := quoC) (text := l.toArray) (lim := l.length) (pc := 50) (by exact ⟨Q.N.hc, Q.N.ht, Q.N.hl, Q.N.ho, Q.N.ha⟩) rfl (by decide) rfl (c := 92) rfl (by show m.pos < l.length; rw [Q.pos]; omega) (by show l.toArray.getD m.pos 0 = 92; rw [Q.pos]; exact g1)) fun s2 => ?_
  refine Go.ex Q.N.ho (ex_ONE (code := quoC) (text := l.toArray) (lim := l.length) (pc := 52) (by exact ⟨Q.N.hc, Q.N.ht, Q.N.hl, Q.N.ho, Q.N.ha⟩) rfl (by decide) (.inr rfl) (w := 1) rfl (by show m.pos + 1 < l.length; rw [Q.pos]; omega) (fun sn => ⟨sn, by
    show (Except.ok (l.toArray.getD (m.pos + 1) 0 != 10, sn) : Except String (Bool × Sre.Seen)) = _
    rw [Q.pos, g2]
    have : (c != 10) = true := bne_iff_ne.mpr hc
    rw [this]⟩)) fun s3 => ?_
  refine Go.ex Q.N.ho (ex_REP (code := quoC) (text := l.toArray) (lim := l.length) (pc := 53) (by exact ⟨Q.N.hc, Q.N.ht, Q.N.hl, Q.N.ho, Q.N.ha⟩) rfl (by decide) rfl rfl rfl (most := 4294967295) rfl (r := r.length) (by show m.pos + 1 + 1 ≤ l.length; rw [Q.pos]; omega) (Nat.zero_le _) (by show r.length ≤ l.length - (m.pos + 1 + 1); rw [Q.pos]; omega)
    (by show ∀ sn, ∃ sn', Sre.run quoC l.toArray 57 (min 4294967295 (l.length - (m.pos + 1 + 1))) (m.pos + 1 + 1) 0 sn = .ok (r.length, sn')
        rw [Q.pos]; exact rep_run (acc_q (.inr rfl)) (by omega) hrun (by omega)) (by
      show m.weight + 1 + (m.keep true).marks.size + 1 + (m.keep m.inner.isSome).marks.size ≤ 16777216
      rw [Q.inn]; show m.weight + 1 + (m.keep true).marks.size + 1 + (m.keep true).marks.size ≤ 16777216; omega)) fun s4 => ?_
  refine Go.done ⟨⟨Q.N.hc, Q.N.ht, Q.N.hl, Q.N.ho, Q.N.ha⟩, rfl, ?_, Q.mks, Q.lm, ⟨cnt + 1, some m.pos, rfl, by omega, ?_⟩, Q.inn, Q.ou, Q.wh, Q.mu, Q.st, ?_, ?_, ?_⟩
  · show m.pos + 1 + 1 + r.length = _; rw [Q.pos]
  · rw [Q.pos]; intro h; have := Option.some.inj h; omega
  · intro f hf
    rcases List.mem_cons.mp hf with rfl | hf
    · rfl
    · rcases List.mem_cons.mp hf with rfl | hf
      · rfl
      · exact Q.fr f hf
  · show (m.frames.length + 1) + 1 ≤ W + 2; have := Q.fl; omega
  · show m.weight + 1 + (m.keep true).marks.size + 1 + (m.keep m.inner.isSome).marks.size ≤ 3 * (W + 2)
    rw [Q.inn]; show m.weight + 1 + (m.keep true).marks.size + 1 + (m.keep true).marks.size ≤ _; omega
end Mine
end
section
set_option tactic.hygienic false
open PySem PySem.Calls PySem.W PyProof.Rows
namespace Mine
open PySem.Sre

theorem resume_maxMore {m : M} {f : Sre.Frame} {L : Sre.Loop} {P0 : Nat} (hw : f.wait = .maxMore) (hl : m.loops = #[L]) (h0 : f.loop = 0) (hm : m.marks = #[some P0, none]) (hk : f.kept.marks = #[some P0]) (hkw : f.kept.whole = true) (hkl : f.kept.lastmark = 0) (hwt : m.weight ≤ 15000000) :
    ∃ L' li, M.resume m f false = { m with loops := #[L'], inner := L.outer, lastindex := li, lastmark := 0, handed := m.pos, weight := m.weight + 1, frames := { wait := .maxTail, pc := m.pc, pos := m.pos, outermost := m.outermost, loop := 0, count := f.count, kept := { lastmark := 0, lastindex := li, whole := false, marks := #[] } } :: m.frames } := by
  refine ⟨{ L with began := f.began, count := f.count - 1 }, f.kept.lastindex, ?_⟩
  unfold M.resume
  rw [hw]
  simp only [Bool.false_eq_true, if_false]
  rw [h0]
  have e1 : m.setLoop 0 (fun (q : Sre.Loop) => { q with began := f.began }) = { m with loops := #[{ L with began := f.began }] } := by
    unfold M.setLoop; rw [hl]; rfl
  rw [e1]
  have e2 : ({ m with loops := #[{ L with began := f.began }] } : M).putBack f.kept = { m with loops := #[{ L with began := f.began }], lastmark := 0, lastindex := f.kept.lastindex } := by
    unfold M.putBack
    rw [hkw, hk, hkl]
    simp only [if_true, hm]
    rfl
  rw [e2]
  have e3 : ({ m with loops := #[{ L with began := f.began }], lastmark := 0, lastindex := f.kept.lastindex } : M).setLoop 0 (fun (q : Sre.Loop) => { q with count := f.count - 1 }) = { m with loops := #[{ L with began := f.began, count := f.count - 1 }], lastmark := 0, lastindex := f.kept.lastindex } := rfl
  rw [e3]
  unfold M.afterLoop M.attempt
  refine (if_neg ?_).trans ?_
  · show ¬ (m.weight + 1 + 0 > 16777216); omega
  · rfl

theorem go_maxMore {b : Nat} {m : M} {P : M → Prop} {fs : List Sre.Frame} {f : Sre.Frame} {L : Sre.Loop} {P0 : Nat} (ho : m.outcome = none) (ha : m.answer = some false) (hf : m.frames = f :: fs) (hw : f.wait = .maxMore) (hl : m.loops = #[L]) (h0 : f.loop = 0) (hm : m.marks = #[some P0, none])
    (hk : f.kept.marks = #[some P0]) (hkw : f.kept.whole = true) (hkl : f.kept.lastmark = 0) (hwt : m.weight ≤ 15000000)
    (k : ∀ L' li, Go b { m with answer := none, loops := #[L'], inner := L.outer, lastindex := li, lastmark := 0, handed := f.pos, pc := f.pc, pos := f.pos, outermost := f.outermost, weight := m.weight - (1 + f.kept.marks.size) + 1, frames := { wait := .maxTail, pc := f.pc, pos := f.pos, outermost := f.outermost, loop := 0, count := f.count, kept := { lastmark := 0, lastindex := li, whole := false, marks := #[] } } :: fs } P) : Go (b + 1) m P := by
  refine Go.step ho ?_
  rw [step_resume ho ha hf]
  obtain ⟨L', li, er⟩ := resume_maxMore (m := { m with answer := none, frames := fs, weight := m.weight - (1 + f.kept.marks.size), pc := f.pc, pos := f.pos, outermost := f.outermost }) (f := f) (L := L) (P0 := P0) hw hl h0 hm hk hkw hkl (Nat.le_trans (Nat.sub_le _ _) hwt)
  rw [er]
  exact k L' li
theorem ql_end {l : List Nat} {P0 p W : Nat} {m : M} (Q : QL l P0 p W m) (h34 : l[p]? = some 34) (hz : l.length ≤ 1000000) (hW : W ≤ 2000000) (hP : P0 ≤ p) :
    Go (W + 12) m fun m' => m'.outcome.isSome = true ∧ Ends 1 (some [0, ((p + 1 : Nat) : Int), (P0 : Int), (p : Int)]) m' := by
  obtain ⟨cnt, bg, hlp, hcnt, hbg⟩ := Q.lp
  have hlt : p < l.length := (List.getElem?_eq_some_iff.mp h34).1
  have g1 : l.toArray.getD p 0 = 34 := getD_list h34
  have kt := keep_true Q.mks Q.lm
  have hwt := Q.wt
  have hkt : (m.keep true).marks.size = 1 := by rw [kt]; rfl
  refine Go.le (b := (W + 6) + 6) ?_ (by omega)
  refine Go.ex Q.N.ho (ex_UNTIL (code := quoC) (text := l.toArray) (lim := l.length) (pc := 66) Q.N Q.pc (by decide) rfl hlp Q.inn rfl rfl (by dsimp only; omega) (by rw [Q.pos]; exact hbg) (by omega)) fun s1 => ?_
  refine Go.ex Q.N.ho (ex_LIT_no (code := quoC) (text := l.toArray) (lim := l.length) (pc := 50) (by exact ⟨Q.N.hc, Q.N.ht, Q.N.hl, Q.N.ho, Q.N.ha⟩) rfl (by decide) rfl (c := 92) rfl (fun _ => by show l.toArray.getD m.pos 0 ≠ 92; rw [Q.pos, g1]; decide)) fun s2 => ?_
  refine go_maxMore (P0 := P0) Q.N.ho rfl rfl rfl rfl rfl Q.mks kt rfl Q.lm (by show m.weight + 1 + (m.keep true).marks.size ≤ _; omega) fun L' li => ?_
  refine Go.ex2 Q.N.ho (ex_MARK (code := quoC) (text := l.toArray) (lim := l.length) (pc := 67) (by exact ⟨Q.N.hc, Q.N.ht, Q.N.hl, Q.N.ho, rfl⟩) rfl (by decide) rfl (i := 1) rfl (by exact (by decide : (1 : Int) ≤ 0 + 1))) fun s3 li3 => ?_
  refine Go.ex Q.N.ho (ex_LIT (code := quoC) (text := l.toArray) (lim := l.length) (pc := 69) (by exact ⟨Q.N.hc, Q.N.ht, Q.N.hl, Q.N.ho, rfl⟩) rfl (by decide) rfl (c := 34) rfl (by show m.pos < l.length; rw [Q.pos]; exact hlt) (by show l.toArray.getD m.pos 0 = 34; rw [Q.pos]; exact g1)) fun s4 => ?_
  refine Go.ex Q.N.ho (ex_SUCCESS (code := quoC) (text := l.toArray) (lim := l.length) (pc := 71) (by exact ⟨Q.N.hc, Q.N.ht, Q.N.hl, Q.N.ho, rfl⟩) rfl (by decide) rfl (by show (m.outermost && ((m.wholeText && m.pos + 1 != m.lim) || (m.mustAdvance && m.pos + 1 == m.start))) = false; rw [Q.wh, Q.mu]; simp)) fun s5 => ?_
  refine ok_pops Q.N.ho rfl ?_ ?_ (.inr ⟨rfl, P0, p, ⟨?_, ?_, ?_, hP⟩, ?_⟩)
  · intro f hf
    rcases List.mem_cons.mp hf with rfl | hf
    · rfl
    · exact Q.fr f hf
  · show (m.frames.length + 1) + 1 ≤ W + 6; have := Q.fl; omega
  · exact (by decide : (1 : Int) ≤ max 0 1)
  · show (m.marks.setIfInBounds 1 (some m.pos)).getD 0 none = some P0; rw [Q.mks]; rfl
  · show (m.marks.setIfInBounds 1 (some m.pos)).getD 1 none = some p; rw [Q.mks, Q.pos]; rfl
  · show [(0 : Int), ((p + 1 : Nat) : Int), (P0 : Int), (p : Int)] = [(m.start : Int), ((m.pos + 1 : Nat) : Int), (P0 : Int), (p : Int)]
    rw [Q.st, Q.pos]; rfl
end Mine
end
section
set_option tactic.hygienic false
open PySem PySem.Calls PySem.W PyProof.Rows
namespace Mine
open PySem.Sre

noncomputable def qbody (items : List (Nat × List Nat)) : List Nat := items.flatMap fun x => 92 :: x.1 :: x.2
theorem qbody_cons (x : Nat × List Nat) (items) : qbody (x :: items) = 92 :: x.1 :: (x.2 ++ qbody items) := by simp [qbody]
theorem qbody_len (items : List (Nat × List Nat)) : items.length ≤ (qbody items).length := by
  induction items with
  | nil => simp
  | cons x r ih => rw [qbody_cons]; simp; omega
noncomputable def QOk (items : List (Nat × List Nat)) : Prop := ∀ x ∈ items, x.1 ≠ 10 ∧ ∀ d ∈ x.2, fQ d = true
theorem qhead (items : List (Nat × List Nat)) (rest : List Nat) : ∀ d, (qbody items ++ 34 :: rest).head? = some d → fQ d = false := by
  intro d hd
  cases items with
  | nil => simp [qbody] at hd; subst hd; rfl
  | cons x r => rw [qbody_cons] at hd; simp at hd; subst hd; rfl
theorem ql_all {l : List Nat} {P0 : Nat} {rest : List Nat} (hz : l.length ≤ 1000000) : ∀ (items : List (Nat × List Nat)) (pre : List Nat) (W : Nat) (m : M), QOk items → l = pre ++ (qbody items ++ 34 :: rest) → P0 ≤ pre.length → W + 2 * items.length ≤ 2000000 → QL l P0 pre.length W m →
    Go (6 * items.length + W + 12) m fun m' => m'.outcome.isSome = true ∧ Ends 1 (some [0, ((pre.length + (qbody items).length + 1 : Nat) : Int), (P0 : Int), ((pre.length + (qbody items).length : Nat) : Int)]) m'
  | [], pre, W, m, ok, hl, hP, hW, Q => by
    have h34 : l[pre.length]? = some 34 := by rw [hl, List.getElem?_append_right (Nat.le_refl _), Nat.sub_self]; rfl
    exact (ql_end Q h34 hz (by simpa using hW) hP).le (by simp)
  | (c, r) :: items, pre, W, m, ok, hl, hP, hW, Q => by
    have okx := ok _ (List.mem_cons_self ..)
    have hl2 : l = pre ++ (92 :: c :: (r ++ (qbody items ++ 34 :: rest))) := by rw [hl, qbody_cons]; simp
    refine Go.le ((ql_turn Q hl2 rfl okx.1 okx.2 (qhead items rest) hz (by simp at hW; omega)).seq fun m' Q' => ?_) (b := 4 + (6 * items.length + (W + 2) + 12)) (by simp; omega)
    have e : pre.length + 2 + r.length = (pre ++ (92 :: c :: r)).length := by simp; omega
    rw [e] at Q'
    have := ql_all (rest := rest) hz items (pre ++ (92 :: c :: r)) (W + 2) m' (fun x hx => ok x (List.mem_cons_of_mem _ hx)) (by rw [hl2]; simp) (by simp; omega) (by simp at hW ⊢; omega) Q'
    have e2 : (pre ++ 92 :: c :: r).length + (qbody items).length = pre.length + (qbody ((c, r) :: items)).length := by rw [qbody_cons]; simp; omega
    rw [e2] at this
    exact this

theorem quo_yes {l s1 s2 b0 rest : List Nat} {items : List (Nat × List Nat)} (hl : l = s1 ++ (61 :: (s2 ++ (34 :: (b0 ++ (qbody items ++ 34 :: rest)))))) (h1 : ∀ c ∈ s1, sp c = true) (h2 : ∀ c ∈ s2, sp c = true) (e61 : sp 61 = false) (e34 : sp 34 = false)
    (hb : ∀ d ∈ b0, fQ d = true) (ok : QOk items) (hz : l.length ≤ 1000000) :
    Halts (Sre.forSearch quoC l.toArray 1 0 l.length false) (Ends 1 (some [0, ((s1.length + s2.length + 2 + (b0.length + (qbody items).length) + 1 : Nat) : Int), ((s1.length + s2.length + 2 : Nat) : Int), ((s1.length + s2.length + 2 + (b0.length + (qbody items).length) : Nat) : Int)])) := by
  have hlen : l.length = s1.length + (1 + (s2.length + (1 + (b0.length + ((qbody items).length + (1 + rest.length)))))) := by rw [hl]; simp; omega
  have hr1 : runAt sp l 0 s1.length := by
    have := runAt_mk (f := sp) (pre := []) (r := s1) (rest := 61 :: (s2 ++ (34 :: (b0 ++ (qbody items ++ 34 :: rest))))) h1 fun c hc => by simp at hc; subst hc; exact e61
    rw [← List.nil_append l, hl]; exact this
  have hr2 : runAt sp l (s1.length + 1) s2.length := by
    have := runAt_mk (f := sp) (pre := s1 ++ [61]) (r := s2) (rest := 34 :: (b0 ++ (qbody items ++ 34 :: rest))) h2 fun c hc => by simp at hc; subst hc; exact e34
    have e : s1 ++ [61] ++ (s2 ++ 34 :: (b0 ++ (qbody items ++ 34 :: rest))) = l := by rw [hl]; simp
    rw [e] at this
    have e2 : (s1 ++ [61]).length = s1.length + 1 := by simp
    rw [e2] at this; exact this
  have hr3 : runAt fQ l (s1.length + 1 + s2.length + 1) b0.length := by
    have := runAt_mk (f := fQ) (pre := s1 ++ [61] ++ s2 ++ [34]) (r := b0) (rest := qbody items ++ 34 :: rest) hb (qhead items rest)
    have e : s1 ++ [61] ++ s2 ++ [34] ++ (b0 ++ (qbody items ++ 34 :: rest)) = l := by rw [hl]; simp
    rw [e] at this
    have e2 : (s1 ++ [61] ++ s2 ++ [34]).length = s1.length + 1 + s2.length + 1 := by simp; omega
    rw [e2] at this; exact this
  have g61 : l.toArray.getD s1.length 0 = 61 := getD_list (by rw [hl, List.getElem?_append_right (Nat.le_refl _), Nat.sub_self]; rfl)
  have g34 : l.toArray.getD (s1.length + 1 + s2.length) 0 = 34 := getD_list (by
    have e : l = (s1 ++ [61] ++ s2) ++ (34 :: (b0 ++ (qbody items ++ 34 :: rest))) := by rw [hl]; simp
    have e2 : (s1 ++ [61] ++ s2).length = s1.length + 1 + s2.length := by simp; omega
    rw [e, ← e2, List.getElem?_append_right (Nat.le_refl _), Nat.sub_self]; rfl)
  obtain ⟨sn, ls, hls, _, e⟩ := start_ls (code := quoC) (text := l.toArray) (groups := 1) (pos := 0) (lim := l.length) (must := false) (least := 3) (body := 5) rfl (by rw [Bool.or_eq_false_iff]; exact ⟨decide_eq_false (by omega), decide_eq_false (by omega)⟩) rfl
  rw [e]
  refine Go.halts (b := (6 * items.length + 5 + 12) + 8) ?_ (by have := qbody_len items; omega)
  refine Go.ex rfl (ex_AT (code := quoC) (text := l.toArray) (lim := l.length) (pc := 5) ⟨rfl, rfl, rfl, rfl, rfl⟩ rfl (by decide) rfl rfl rfl) fun s1' => ?_
  refine Go.ex rfl (ex_REP (code := quoC) (text := l.toArray) (lim := l.length) (pc := 7) ⟨rfl, rfl, rfl, rfl, rfl⟩ rfl (by decide) rfl rfl rfl (most := 4294967295) rfl (r := s1.length) (Nat.zero_le _) (Nat.zero_le _) (by show s1.length ≤ l.length - 0; omega)
    (by show ∀ sn, ∃ sn', Sre.run quoC l.toArray 11 (min 4294967295 (l.length - 0)) 0 0 sn = .ok (s1.length, sn')
        exact rep_run acc_q_sp1 (by omega) hr1 (by omega)) (by exact (by decide : (2 : Nat) ≤ 16777216))) fun s2' => ?_
  refine Go.ex rfl (ex_LIT (code := quoC) (text := l.toArray) (lim := l.length) (pc := 17) ⟨rfl, rfl, rfl, rfl, rfl⟩ rfl (by decide) rfl (c := 61) rfl (by show 0 + s1.length < l.length; omega) (by show l.toArray.getD (0 + s1.length) 0 = 61; rw [Nat.zero_add]; exact g61)) fun s3' => ?_
  refine Go.ex rfl (ex_REP (code := quoC) (text := l.toArray) (lim := l.length) (pc := 19) ⟨rfl, rfl, rfl, rfl, rfl⟩ rfl (by decide) rfl rfl rfl (most := 4294967295) rfl (r := s2.length) (by show 0 + s1.length + 1 ≤ l.length; omega) (Nat.zero_le _) (by show s2.length ≤ l.length - (0 + s1.length + 1); omega)
    (by show ∀ sn, ∃ sn', Sre.run quoC l.toArray 23 (min 4294967295 (l.length - (0 + s1.length + 1))) (0 + s1.length + 1) 0 sn = .ok (s2.length, sn')
        rw [Nat.zero_add]; exact rep_run acc_q_sp2 (by omega) hr2 (by omega)) (by exact (by decide : (3 : Nat) ≤ 16777216))) fun s4' => ?_
  refine Go.ex rfl (ex_LIT (code := quoC) (text := l.toArray) (lim := l.length) (pc := 29) ⟨rfl, rfl, rfl, rfl, rfl⟩ rfl (by decide) rfl (c := 34) rfl (by show 0 + s1.length + 1 + s2.length < l.length; omega) (by show l.toArray.getD (0 + s1.length + 1 + s2.length) 0 = 34; rw [Nat.zero_add]; exact g34)) fun s5' => ?_
  refine Go.ex2 rfl (ex_MARK (code := quoC) (text := l.toArray) (lim := l.length) (pc := 31) ⟨rfl, rfl, rfl, rfl, rfl⟩ rfl (by decide) rfl (i := 0) rfl (by exact (by decide : (0 : Int) ≤ -1 + 1))) fun s6' li6 => ?_
  refine Go.ex rfl (ex_REP (code := quoC) (text := l.toArray) (lim := l.length) (pc := 33) ⟨rfl, rfl, rfl, rfl, rfl⟩ rfl (by decide) rfl rfl rfl (most := 4294967295) rfl (r := b0.length) (by show 0 + s1.length + 1 + s2.length + 1 ≤ l.length; omega) (Nat.zero_le _) (by show b0.length ≤ l.length - (0 + s1.length + 1 + s2.length + 1); omega)
    (by show ∀ sn, ∃ sn', Sre.run quoC l.toArray 37 (min 4294967295 (l.length - (0 + s1.length + 1 + s2.length + 1))) (0 + s1.length + 1 + s2.length + 1) 0 sn = .ok (b0.length, sn')
        rw [Nat.zero_add]; exact rep_run (acc_q (.inl rfl)) (by omega) hr3 (by omega)) (by exact (by decide : (4 : Nat) ≤ 16777216))) fun s7' => ?_
  refine Go.ex rfl (ex_REPEAT (code := quoC) (text := l.toArray) (lim := l.length) (pc := 46) ⟨rfl, rfl, rfl, rfl, rfl⟩ rfl (by decide) rfl (w := 19) rfl rfl rfl (by exact (by decide : (5 : Nat) ≤ 16777216))) fun s8' => ?_
  have hp : (s1 ++ [61] ++ s2 ++ [34] ++ b0).length = s1.length + s2.length + 2 + b0.length := by simp; omega
  have eP : ∀ m', (m'.outcome.isSome = true ∧ Ends 1 (some [0, (((s1 ++ [61] ++ s2 ++ [34] ++ b0).length + (qbody items).length + 1 : Nat) : Int), ((s1.length + s2.length + 2 : Nat) : Int), (((s1 ++ [61] ++ s2 ++ [34] ++ b0).length + (qbody items).length : Nat) : Int)]) m') →
      (m'.outcome.isSome = true ∧ Ends 1 (some [0, ((s1.length + s2.length + 2 + (b0.length + (qbody items).length) + 1 : Nat) : Int), ((s1.length + s2.length + 2 : Nat) : Int), ((s1.length + s2.length + 2 + (b0.length + (qbody items).length) : Nat) : Int)]) m') := fun m' q => by
    rw [hp, Nat.add_assoc (s1.length + s2.length + 2) b0.length] at q
    exact q
  refine Go.mono (ql_all (l := l) (P0 := s1.length + s2.length + 2) (rest := rest) hz items (s1 ++ [61] ++ s2 ++ [34] ++ b0) 5 _ ok (by rw [hl]; simp) (by omega) (by have := qbody_len items; omega) ?_) eP
  refine ⟨⟨rfl, rfl, rfl, rfl, rfl⟩, rfl, ?_, ?_, rfl, ⟨-1, none, rfl, by omega, by simp⟩, rfl, rfl, rfl, rfl, rfl, by simp [Pass], by simp, by exact (by decide : (5 : Nat) ≤ 15)⟩
  · show 0 + s1.length + 1 + s2.length + 1 + b0.length = _; rw [hp]; omega
  · show ((Array.replicate (2 * 1) none).setIfInBounds 0 (some (0 + s1.length + 1 + s2.length + 1)) : Array (Option Nat)) = _
    have : 0 + s1.length + 1 + s2.length + 1 = s1.length + s2.length + 2 := by omega
    rw [this]; rfl
end Mine
end
section
set_option tactic.hygienic false
open PySem PySem.Calls PySem.W PyProof.Rows
namespace Mine
open PySem.Builtin.Re
theorem raw_map (sp : List Int) : ((sp.map rawInt).toArray.map reRawOf) = sp.toArray := by
  simp only [List.map_toArray, List.map_map]
  congr 1
  induction sp with
  | nil => rfl
  | cons a l ih => simp only [List.map_cons, ih]; rfl
section
variable {C : Cx} {n : Nat} {F : Fs} {σ σ' σ₁ σ₂ σ₃ : List Slot} {v a b c : V} {P : Addr} {code : Array Nat} {groups : Nat}
theorem wp_found {M : Model} {A : Around} {E : Value → Shared → Prop} {s : Shared} {f : Frz} {u : Value} {x : Str} {sp : List Int} {Q : ReFound → Shared → Prop} (I : Inv C f s.heap) (R : Rep f (.mat x sp) u)
    (h : ∀ fs t, fs.getD 0 .none = .str x t → Q { fields := fs, spans := sp.toArray } s) : wpAny M A (reFound u) Q E s := by
  obtain ⟨a, rfl, o, vs, ta, t, e, hc, hdict, hd, e0, e5, ft⟩ := R.mat_inv
  unfold reFound
  refine wpAny_bind (wpAny_fieldsOf (I.sub _ _ e) hd ?_)
  have h5 : vs.getD 5 .none = .ref ta := by
    rw [Array.getD_eq_getD_getElem?]; simp [e5]
  rw [h5]
  obtain ⟨ot, ht, hct, m, hdt⟩ := ft
  refine wpAny_bind (wp_rawItems (I.sub _ _ ht) hdt (wpAny_pure ?_))
  rw [raw_map]
  refine h vs t ?_
  rw [Array.getD_eq_getD_getElem?]; simp [e0]
theorem wp_groupText {M : Model} {A : Around} {E : Value → Shared → Prop} {s : Shared} {fs : Array Value} {x : Str} {t : Tok} {sp : List Int} {g : Nat} {b e : Nat} {d : Value} {Q : Value → Shared → Prop}
    (hx : fs.getD 0 .none = .str x t) (hb : sp[2 * g]? = some (b : Int)) (he : sp[2 * g + 1]? = some (e : Int)) (hz : x.length ≤ 16000000)
    (h : Q (.str ⟨x.cps.extract b e⟩ s.toks) { s with toks := s.toks + 1 }) : wpAny M A (reGroupText { fields := fs, spans := sp.toArray } g d) Q E s := by
  have h1 : sp.toArray.getD (2 * g) (-1) = b := by rw [Array.getD_eq_getD_getElem?]; simp [hb]
  have h2 : sp.toArray.getD (2 * g + 1) (-1) = e := by rw [Array.getD_eq_getD_getElem?]; simp [he]
  unfold reGroupText
  dsimp only
  rw [h1, h2, hx]
  have : ¬ ((decide ((b : Int) < 0) || decide ((e : Int) < 0)) = true) := by simp
  rw [if_neg this]
  refine wpAny_bind (m := reTextOf (.str x t)) (wpAny_of_eq (a := (x.cps, 0)) rfl ?_)
  show wpAny _ _ (mkStr ⟨x.cps.extract (b : Int).toNat (e : Int).toNat⟩) _ _ _
  rw [Int.toNat_natCast, Int.toNat_natCast]
  refine wpAny_mkStr h ?_
  show (x.cps.extract b e).size ≤ sizeLine
  rw [Array.size_extract, sizeLine_eq]
  have : x.cps.size = x.length := rfl
  omega
theorem Pu.group1 {x : Str} {sp : List Int} {b e : Nat} (h2 : sp[2]? = some (b : Int)) (h3 : sp[3]? = some (e : Int)) (hl : sp.length = 4) (hz : x.length ≤ 16000000) :
    Pu C n (fun us => PySem.call (.builtin "re.Match.group") us) [.mat x sp, .int 1] (.str ⟨x.cps.extract b e⟩) := by
  intro A s f us E Q r h0 I R hQ
  obtain ⟨u, v, rfl, Ru, Rv⟩ := RepAll.two R
  obtain ⟨t1, rfl⟩ := Rv.int_inv
  have hT := (HasT.mat (C := C) I Ru).1
  refine wpAny_call_entry slot_re_Match_group hT entry_re_Match_group ?_ (args_re_Match_group_2 _ _)
  unfold Builtin.«re.Match.group»
  refine wpAny_bind (wpAny_pure ?_)
  dsimp only
  refine wpAny_bind (wp_found I Ru fun fs t hx => ?_)
  refine wpAny_bind (m := reGroupNumber { fields := fs, spans := sp.toArray } (.int 1 t1)) ?_
  unfold reGroupNumber
  refine wpAny_bind (wpAny_pure ?_)
  refine wpAny_bind (m := asIndex (.int 1 t1)) (wpAny_of_eq (a := (1 : Int)) rfl ?_)
  have hs : sp.toArray.size = 4 := by simp [hl]
  have hc : ¬ ((decide ((1 : Int) < 0) || decide (2 * (1 : Int) ≥ sp.toArray.size)) = true) := by rw [hs]; decide
  dsimp only
  rw [if_neg hc]
  refine wpAny_pure (wpAny_bind (wp_groupText hx h2 h3 hz (wpAny_pure ⟨_, rfl, ?_⟩)))
  exact hQ s.heap _ f _ (Nat.lt_succ_of_lt h0) I (Step.refl ..) (.str ..)
theorem Pu.span0 {x : Str} {sp : List Int} {b e : Nat} (h2 : sp[0]? = some (b : Int)) (h3 : sp[1]? = some (e : Int)) (hl : 2 ≤ sp.length) :
    Pu C n (fun us => PySem.call (.builtin "re.Match.span") us) [.mat x sp, .int 0] (.tup [.int b, .int e]) := by
  intro A s f us E Q r h0 I R hQ
  obtain ⟨u, v, rfl, Ru, Rv⟩ := RepAll.two R
  obtain ⟨t1, rfl⟩ := Rv.int_inv
  have hT := (HasT.mat (C := C) I Ru).1
  refine wpAny_call_entry slot_re_Match_span hT entry_re_Match_span ?_ (args_re_Match_span_2 _ _)
  unfold Builtin.«re.Match.span» reOneGroup
  refine wpAny_bind (wpAny_bind (m := selfAndSome "Match.span" "span" 0 1 ⟨[u, .int 0 t1], []⟩) (wpAny_of_eq (a := (u, [.int 0 t1])) rfl ?_))
  dsimp only
  refine wpAny_bind (wp_found I Ru fun fs t hx => ?_)
  refine wpAny_bind (m := reGroupNumber { fields := fs, spans := sp.toArray } (.int 0 t1)) ?_
  unfold reGroupNumber
  refine wpAny_bind (wpAny_pure ?_)
  refine wpAny_bind (m := asIndex (.int 0 t1)) (wpAny_of_eq (a := (0 : Int)) rfl ?_)
  have hc : ¬ ((decide ((0 : Int) < 0) || decide (2 * (0 : Int) ≥ sp.toArray.size)) = true) := by
    simp; intro h; rw [h] at hl; simp at hl
  dsimp only
  rw [if_neg hc]
  refine wpAny_pure (wpAny_pure ?_)
  have e1 : sp.toArray.getD (2 * (0 : Int).toNat) (-1) = b := by rw [Array.getD_eq_getD_getElem?]; simp [h2]
  have e2 : sp.toArray.getD (2 * (0 : Int).toNat + 1) (-1) = e := by rw [Array.getD_eq_getD_getElem?]; simp [h3]
  dsimp only
  rw [e1, e2]
  refine wpAny_bind (wpAny_mkInt (wpAny_bind (wpAny_mkInt (wpAny_bind (wpAny_newObj_type (wpAny_pure ⟨_, rfl, ?_⟩) (by show (2 : Nat) ≤ sizeLine; rw [sizeLine_eq]; decide))))))
  have I' := I.push (o := { cls := .type "tuple", data := .seq [Value.int b s.toks, Value.int e (s.toks + 1)].toArray }) rfl
  exact hQ _ _ _ _ (by show 0 < s.toks + 1 + 1; omega) I' (Step.push C.T f s.heap _) (.tup ⟨_, fset_self .., rfl, _, rfl⟩ (.cons (.int ..) (.cons (.int ..) .nil)))
end
end Mine
end
section
set_option tactic.hygienic false
open PySem PySem.Calls PySem.W PyProof.Rows
namespace Mine
open PySem.Builtin.Re

theorem wp_pushSeq {M : Model} {A : Around} {E : Value → Shared → Prop} {s : Shared} {D : Addr} {us : List Value} {m : Nat} {v : Value} {Q : Unit → Shared → Prop} (e : s.heap.get? D = some (listObj us m)) (hz : us.length ≤ 1000000)
    (h : ∀ h' m', Heap.SameBut D s.heap h' → h'.get? D = some (listObj (us ++ [v]) m') → Q () { s with heap := h' }) : wpAny M A (updateSeq D (·.push v)) Q E s := by
  refine wpAny_updateSeq (f := (·.push v)) e rfl (h _ (m + 1) (Heap.SameBut.update ..) ?_) (by rw [List.size_toArray, sizeLine_eq]; omega) (by simp [sizeLine_eq]; omega)
  have := IsL.update (h := s.heap) (l := D) (items := us.toArray) (n := m) e (·.push v)
  rw [this]
  unfold listObj
  simp

/-- a call that leans on what is frozen by now -/
noncomputable def Cl (C : Cx) (n : Nat) (f0 : Frz) (t : List Value → Sem Value) (args : List V) (res : V) : Prop :=
  ∀ {A s f vs E} {Q : Value → Shared → Prop}, Room n A → 0 < s.toks → Inv C f s.heap → FLe f0 f → RepAll f args vs →
    (∀ h' k f' v, 0 < k → Inv C f' h' → Step C.T f s.heap f' h' → Rep f' res v → Q v { s with heap := h', toks := k }) →
    wpAny (model C.prog C.w) A (t vs) Q E s

inductive Sub (code : Array Nat) (groups : Nat) (x : Str) (g : List Int → Str → Prop) : Nat → Nat → Bool → Nat → List Str → Prop
  | stop {start done : Nat} {must : Bool} : Halts (Sre.forSearch code x.cps groups start x.cps.size must) (Ends groups none) → Sub code groups x g start done must 0 (if done < x.cps.size then [⟨x.cps.extract done x.cps.size⟩] else [])
  | next {start done k : Nat} {must : Bool} {b e : Nat} {rest : List Int} {y : Str} {out : List Str} : Halts (Sre.forSearch code x.cps groups start x.cps.size must) (Ends groups (some ((b : Int) :: (e : Int) :: rest))) → g ((b : Int) :: (e : Int) :: rest) y →
      Sub code groups x g e e (e == b) k out → Sub code groups x g start done must (k + 1) ((if done < b then [⟨x.cps.extract done b⟩] else []) ++ [y] ++ out)

section
variable {C : Cx} {n : Nat} {P : Addr} {code : Array Nat} {groups : Nat}
theorem wp_whole {A : Around} {E : Value → Shared → Prop} {s : Shared} {f : Frz} {x : Str} {t : Tok} {Q : ReTarget → Shared → Prop} (p : PatOk C P code groups) (I : Inv C f s.heap)
    (h : Q { pattern := .ref P, string := .str x t, code := code, text := x.cps, kind := 0, groups := groups, pos := 0, lim := x.cps.size } s) :
    wpAny (model C.prog C.w) A (reWholeTarget (.ref P) (.str x t)) Q E s := by
  obtain ⟨fs, T, ws, k, h1, h2, h3, h4, h5, h6⟩ := p.ex
  unfold reWholeTarget
  refine wpAny_bind (wpAny_fieldsOf (I.ghost h1) rfl ?_)
  refine wpAny_bind (m := reTextOf (.str x t)) (wpAny_of_eq (a := (x.cps, 0)) rfl ?_)
  dsimp only
  rw [h4]
  refine wpAny_bind (m := reNoCollectionInside (.str x t) 0) (wpAny_of_eq (a := ()) rfl ?_)
  rw [h2]
  refine wpAny_bind (wp_rawItems (I.ghost h5) rfl (wpAny_pure ?_))
  rw [h6, h3]
  exact h

/-- the pieces so far -/
structure Lst (C : Cx) (h₀ : Heap) (f₀ : Frz) (D : Addr) (out : List Str) (f : Frz) (h : Heap) : Prop where
  inv : Inv C f h
  st : Step C.T f₀ h₀ f h
  le : FLe f₀ f
  low : h₀.objs.size ≤ D
  fD : f D = none
  nt : ∀ t ∈ C.T, D ≠ t.P
  ex : ∃ us m, h.get? D = some (listObj us m) ∧ RepAll f (out.map .str) us
variable {h₀ : Heap} {f₀ : Frz} {D : Addr} {out : List Str} {f : Frz} {h : Heap}
theorem Lst.step {f' h'} (L : Lst C h₀ f₀ D out f h) (I : Inv C f' h') (st : Step C.T f h f' h') : Lst C h₀ f₀ D out f' h' := by
  obtain ⟨us, m, e, R⟩ := L.ex
  exact ⟨I, L.st.trans st, L.le.trans (st.le L.inv), L.low, (st.frz _ (Heap.lt_size e)).trans L.fD, L.nt, us, m, st.keep _ _ e L.nt, RepAll.mono (st.le L.inv) R⟩
theorem Lst.push {M : Model} {A : Around} {E : Value → Shared → Prop} {s : Shared} {y : Str} {t : Tok} {Q : Unit → Shared → Prop} (L : Lst C h₀ f₀ D out f s.heap) (hz : out.length ≤ 1000000)
    (h : ∀ h', Lst C h₀ f₀ D (out ++ [y]) f h' → Q () { s with heap := h' }) : wpAny M A (updateSeq D (·.push (.str y t))) Q E s := by
  obtain ⟨us, m, e, R⟩ := L.ex
  refine wp_pushSeq e (by rw [← R.length]; simpa using hz) fun h' m' hs e' => h h' ⟨L.inv.but L.fD L.nt hs, L.st.but L.low hs, L.le, L.low, L.fD, L.nt, _, _, e', ?_⟩
  rw [List.map_append]
  exact R.append (.cons (.str ..) .nil)

theorem wp_ifdo {α : Type} {M : Model} {A : Around} {E : Value → Shared → Prop} {s : Shared} {c : Bool} {a : Sem Unit} {t : Sem α} {Q : α → Shared → Prop} (ha : c = true → ∀ {Q' : Unit → Shared → Prop}, Q' () s → wpAny M A a Q' E s) (h : wpAny M A t Q E s) :
    wpAny M A (if c = true then (do a; t) else t) Q E s := by
  cases c with
  | true => rw [if_pos rfl]; exact wpAny_bind (ha rfl h)
  | false => rw [if_neg (by decide)]; exact h
theorem lit {M : Model} {A : Around} {E : Value → Shared → Prop} {s : Shared} {way : Nat} {repl : Value} {g : List Int → Str → Prop} (hway : way = 0 → ∃ y u, repl = .str y u ∧ ∀ sp z, g sp z → z = y) (hw : ((way : Int) == 0) = true) {Q' : Unit → Shared → Prop} (hq : Q' () s) : wpAny M A (reLiteralCannotBeTurned repl) Q' E s := by
  obtain ⟨y, u, rfl, _⟩ := hway (by simpa using hw)
  exact wpAny_of_eq rfl hq
theorem wp_slice {M : Model} {A : Around} {E : Value → Shared → Prop} {s : Shared} {x : Str} {a b : Nat} {Q : Value → Shared → Prop} (hz : x.length ≤ 16000000) (h : Q (.str ⟨x.cps.extract a b⟩ s.toks) { s with toks := s.toks + 1 }) :
    wpAny M A (reSlice x.cps 0 a b) Q E s := by
  show wpAny M A (mkStr ⟨x.cps.extract a b⟩) Q E s
  refine wpAny_mkStr h ?_
  show (x.cps.extract a b).size ≤ sizeLine
  rw [Array.size_extract, sizeLine_eq]
  have : x.cps.size = x.length := rfl
  omega
theorem wp_piece {α : Type} {M : Model} {A : Around} {E : Value → Shared → Prop} {s : Shared} {x : Str} {a b : Nat} {t : Sem α} {Q : α → Shared → Prop} (L : Lst C h₀ f₀ D out f s.heap) (h0 : 0 < s.toks) (hx : x.length ≤ 16000000) (hz : out.length ≤ 1000000)
    (h : ∀ h' k, 0 < k → Lst C h₀ f₀ D (out ++ (if a < b then [⟨x.cps.extract a b⟩] else [])) f h' → wpAny M A t Q E { s with heap := h', toks := k }) :
    wpAny M A (if a < b then (do let p ← reSlice x.cps 0 a b; updateSeq D fun y => y.push p; t) else t) Q E s := by
  by_cases c : a < b
  · rw [if_pos c] at h ⊢
    exact wpAny_bind (wp_slice hx (wpAny_bind (L.push (s := { s with toks := s.toks + 1 }) hz fun h' L' => h h' (s.toks + 1) (Nat.succ_pos _) L')))
  · rw [if_neg c] at h ⊢
    rw [List.append_nil] at h
    exact h s.heap s.toks h0 L
theorem wp_sub {A : Around} {x : Str} {t : Tok} {g : List Int → Str → Prop} {repl : Value} {way : Nat} {withCount : Bool} (p : PatOk C P code groups) (hx : x.length ≤ 16000000) {s₀ : Shared} {R : Result → Shared → Prop} (r : Room (n + 1) A)
    (hway : way = 0 → ∃ y u, repl = .str y u ∧ ∀ sp z, g sp z → z = y)
    (hcall : way ≠ 0 → way = 1 ∧ ∀ sp z, g sp z → Cl C n f₀ (fun us => PySem.call repl us) [.mat x sp] (.str z))
    {all : List Str} {num : Nat} (hall : all.length ≤ 1000000) (hok : JoinOk ⟨#[]⟩ all = true)
    (hR : ∀ h' k f' v, 0 < k → Inv C f' h' → Step C.T f₀ h₀ f' h' → Rep f' (if withCount then .tup [.str (Txt.join ⟨#[]⟩ all), .int num] else .str (Txt.join ⟨#[]⟩ all)) v → R (.ok (.ret v)) { s₀ with heap := h', toks := k }) :
    ∀ {start done : Nat} {must : Bool} {k : Nat} {rest : List Str} (d : Sub code groups x g start done must k rest) {i : Nat} {out : List Str} {f : Frz} {h : Heap} {tk : Nat}, out ++ rest = all → i + k = num → 0 < tk → Lst C h₀ f₀ D out f h →
      codeAny (model C.prog C.w) A (.builtin "re.Pattern.sub.loop" ⟨[.ref P, .str x t, repl, rawInt way, rawInt 0, rawInt i, rawInt done, rawInt start, .bool must, .ref D, .bool withCount], []⟩) R { s₀ with heap := h, toks := tk } := by
  intro start done must k rest d
  induction d with
  | @stop start done must hh =>
    intro i out f h tk ha hn htk L
    refine codeAny_builtin entry_re_loop ?_
    rw [Around.under_plainId plain_re_loop]
    unfold Builtin.«re.Pattern.sub.loop»
    dsimp only [rawInt]
    refine wpAny_bind (wp_whole p L.inv ?_)
    refine wp_ifdo (lit hway) ?_
    rw [if_neg (by simp : ¬ (((0 : Int) != 0 && decide ((i : Int) ≥ 0)) = true))]
    unfold reNextFound
    rw [Int.toNat_natCast]
    refine wpAny_bind (wp_run hh fun m' hm => ?_)
    dsimp only
    rw [Int.toNat_natCast]
    have hout : out.length ≤ 1000000 := by rw [← ha] at hall; simp at hall; omega
    refine wp_piece L htk hx hout fun h1 k1 p1 L1 => ?_
    rw [ha] at L1
    refine wpAny_bind (wp_slice hx ?_)
    have ez : (⟨x.cps.extract 0 0⟩ : Str) = ⟨#[]⟩ := by simp
    rw [ez]
    obtain ⟨us, m, eD, RA⟩ := L1.ex
    refine wpAny_bind (wpAny_seqItems eD rfl ?_)
    rw [Option.getD_some]
    have fin : ∀ {g1 : Heap} {kk : Nat} {f1 : Frz} {tv : Value}, 0 < kk → Inv C f1 g1 → Step C.T f₀ h₀ f1 g1 → Rep f1 (.str (Txt.join ⟨#[]⟩ all)) tv →
        wpAny (model C.prog C.w) A.in1 (if withCount = true then (do let r ← holding [tv] (do let z ← mkInt (i : Int); newTuple [tv, z]); ret r) else ret tv)
          (fun fin s' => match fin with | .done f => R (.ok f) s' | .again c' => c'.quiet = true ∧ codeAny (model C.prog C.w) A c' R s') (fun e s' => R (.error e) s') { s₀ with heap := g1, toks := kk } := by
      intro g1 kk f1 tv pk I1 st1 R1
      cases withCount with
      | false => rw [if_neg (by decide)] at hR ⊢; exact wpAny_pure (hR g1 kk f1 tv pk I1 st1 R1)
      | true =>
        rw [if_pos rfl] at hR ⊢
        have hin : i = num := by omega
        subst hin
        refine wpAny_bind (wpAny_holding (wpAny_bind (wpAny_mkInt (wpAny_newObj_type (wpAny_pure ?_) (by show (2 : Nat) ≤ sizeLine; rw [sizeLine_eq]; decide)))))
        have I2 := I1.push (o := { cls := .type "tuple", data := .seq [tv, Value.int i kk].toArray }) rfl
        have st2 := Step.push C.T f1 g1 { cls := .type "tuple", data := .seq [tv, Value.int i kk].toArray }
        exact hR _ (kk + 1) _ _ (Nat.succ_pos _) I2 (st1.trans st2) (.tup ⟨_, fset_self .., rfl, _, rfl⟩ (.cons (R1.mono (st2.le I1)) (.cons (.int ..) .nil)))
    cases all with
    | nil =>
      have := RepAll.nil_inv (by simpa using RA)
      subst this
      rw [if_pos (show (([] : List Value).toArray.isEmpty) = true from rfl)]
      exact wpAny_bind (wpAny_pure (fin (Nat.succ_pos _) L1.inv L1.st (.str ..)))
    | cons z zs =>
      have hne : ¬ (us.toArray.isEmpty = true) := by
        have := RA.length
        cases us with
        | nil => simp at this
        | cons => simp
      rw [if_neg hne]
      have le1 := fset_le (o := listObj us m) L1.fD
      have I2 : Inv C (fset f D (listObj us m)) h1 := by
        refine ⟨fun c o q => ?_, fun c o q => le1 _ _ (L1.inv.gh _ _ q), fun tt ht => ?_⟩
        · by_cases q1 : c = D
          · subst q1; rw [fset_self] at q; cases q; exact eD
          · rw [fset_ne q1] at q; exact L1.inv.sub _ _ q
        · refine (L1.inv.tab tt ht).mono le1 ?_ fun _ q => q
          rw [fset_ne (Ne.symm (L1.nt tt ht))]; exact (L1.inv.tab tt ht).1
      have st2 : Step C.T f₀ h₀ (fset f D (listObj us m)) h1 := ⟨L1.st.size, L1.st.keep, fun c hc => by rw [fset_ne (Nat.ne_of_lt (Nat.lt_of_lt_of_le hc L1.low))]; exact L1.st.frz c hc⟩
      refine wpAny_bind (Pu.join (C := C) (n := n) (x := ⟨#[]⟩) (xs := z :: zs) hok (r.in1) (Nat.succ_pos _) I2 (.cons (.str _ _) (.cons (.list ⟨_, fset_self .., rfl, m, rfl⟩ (RepAll.mono le1 RA)) .nil)) fun h3 k3 f3 v3 p3 I3 st3 R3 => ?_)
      exact fin p3 I3 (st2.trans st3) R3
  | @next start done k must b e rest y out' hh hg d ih =>
    intro i out f h tk ha hn htk L
    refine codeAny_builtin entry_re_loop ?_
    rw [Around.under_plainId plain_re_loop]
    unfold Builtin.«re.Pattern.sub.loop»
    dsimp only [rawInt]
    refine wpAny_bind (wp_whole p L.inv ?_)
    refine wp_ifdo (lit hway) ?_
    rw [if_neg (by simp : ¬ (((0 : Int) != 0 && decide ((i : Int) ≥ 0)) = true))]
    unfold reNextFound
    rw [Int.toNat_natCast]
    refine wpAny_bind (wp_run hh fun m' hm => ?_)
    dsimp only
    rw [Int.toNat_natCast]
    have hout : out.length ≤ 1000000 := by rw [← ha] at hall; simp at hall; omega
    have hb : m'.start = b ∧ m'.handed = e := by
      rcases hm.2 with ⟨_, q⟩ | ⟨_, _, _, _, q⟩
      · have := List.cons.inj q; have h2 := List.cons.inj this.2; exact ⟨(Int.ofNat.inj this.1).symm, (Int.ofNat.inj h2.1).symm⟩
      · have := List.cons.inj q; have h2 := List.cons.inj this.2; exact ⟨(Int.ofNat.inj this.1).symm, (Int.ofNat.inj h2.1).symm⟩
    rw [hb.1]
    have fin : ∀ {g1 : Heap} {kk : Nat} {f1 : Frz} {item : Value}, 0 < kk → Lst C h₀ f₀ D (out ++ (if done < b then [⟨x.cps.extract done b⟩] else [])) f1 g1 → Rep f1 (.str y) item →
        wpAny (model C.prog C.w) A.in1 (if (item != Value.none) = true then (do updateSeq D fun z => z.push item; again (.builtin "re.Pattern.sub.loop" ⟨[.ref P, .str x t, repl, .int way 0, .int 0 0, .int (i + 1) 0, .int m'.handed 0, .int m'.handed 0, .bool (m'.handed == b), .ref D, .bool withCount], []⟩))
            else again (.builtin "re.Pattern.sub.loop" ⟨[.ref P, .str x t, repl, .int way 0, .int 0 0, .int (i + 1) 0, .int m'.handed 0, .int m'.handed 0, .bool (m'.handed == b), .ref D, .bool withCount], []⟩))
          (fun fin s' => match fin with | .done f => R (.ok f) s' | .again c' => c'.quiet = true ∧ codeAny (model C.prog C.w) A c' R s') (fun e s' => R (.error e) s') { s₀ with heap := g1, toks := kk } := by
      intro g1 kk f1 item pk L1 R1
      obtain ⟨tk1, rfl⟩ := R1.str_inv
      rw [if_pos (by rfl)]
      refine wpAny_bind (L1.push (by rw [← ha] at hall; simp at hall ⊢; omega) fun h2 L2 => wpAny_pure ⟨plainId_quiet plain_re_loop _, ?_⟩)
      rw [hb.2]
      have := ih (i := i + 1) (by rw [← ha]; simp) (by omega) pk L2
      simpa [rawInt] using this
    refine wp_piece L htk hx hout fun h1 k1 p1 L1 => ?_
    by_cases hw : way = 0
    · obtain ⟨y', u, rfl, hy⟩ := hway hw
      have := hy _ _ hg
      subst this
      rw [if_pos (by simp [hw])]
      exact wpAny_bind (wpAny_pure (fin p1 L1 (.str ..)))
    · obtain ⟨rfl, hc⟩ := hcall hw
      rw [if_neg (by decide)]
      refine wpAny_bind (wp_newMatch (t := t) L1.inv hm.2 fun h2 f2 v2 I2 st2 R2 => ?_)
      have L2 := L1.step I2 st2
      refine wpAny_bind (wpAny_holding ?_)
      rw [if_pos (by decide)]
      exact hc _ _ hg r.in1 p1 I2 L2.le (.cons R2 .nil) fun h3 k3 f3 v3 p3 I3 st3 R3 => fin p3 (L2.step I3 st3) R3
end
end Mine
end
section
set_option tactic.hygienic false
open PySem PySem.Calls PySem.W PyProof.Rows
namespace Mine
open PySem.Sre

noncomputable def junC : Array Nat := #[14, 4, 0, 0, 4294967295, 6, 0, 24, 13, 0, 4294967295, 13, 8, 16, 61, 8, 12, 16, 59, 0, 1, 1]
noncomputable def fJ (c : Nat) : Bool := c == 61 || sp c || c == 59
theorem acc_jun : Acc junC 11 fJ := by
  intro c sn
  show ∃ sn', inSet junC c (21 + 1) 13 true sn = _
  obtain ⟨s1, e1⟩ := set_lit (code := junC) (c := c) (fuel := 21) (i := 13) (d := 61) (yes := true) (sn := sn) rfl rfl
  obtain ⟨s2, e2⟩ := set_cat (code := junC) (c := c) (fuel := 20) (i := 15) (yes := true) (sn := s1) rfl rfl
  obtain ⟨s3, e3⟩ := set_lit (code := junC) (c := c) (fuel := 19) (i := 17) (d := 59) (yes := true) (sn := s2) rfl rfl
  obtain ⟨s5, e5⟩ := set_fail (code := junC) (c := c) (fuel := 18) (i := 19) (yes := true) (sn := s3) rfl
  rw [e1, e2, e3, e5]
  unfold fJ
  cases c == 61 <;> cases sp c <;> cases c == 59 <;> exact ⟨_, rfl⟩
theorem jun_yes {l r rest : List Nat} (hl : l = r ++ rest) (h1 : ∀ c ∈ r, fJ c = true) (h2 : ∀ c, rest.head? = some c → fJ c = false) (hz : l.length ≤ 1000000) :
    Halts (Sre.forSearch junC l.toArray 0 0 l.length false) (Ends 0 (some [0, (r.length : Int)])) := by
  have hll : r.length ≤ l.length := by rw [hl]; simp
  have hr : runAt fJ l 0 r.length := by
    have := runAt_mk (pre := []) h1 h2
    simpa [hl] using this
  obtain ⟨sn, ls, hls, _, e⟩ := start_ls (code := junC) (text := l.toArray) (groups := 0) (pos := 0) (lim := l.length) (must := false) (least := 0) (body := 5) rfl (by rw [Bool.or_eq_false_iff]; exact ⟨decide_eq_false (by omega), decide_eq_false (by omega)⟩) rfl
  rw [e]
  refine Go.halts (b := 3 + 3) ?_ (by decide)
  refine Go.ex rfl (ex_AT (code := junC) (text := l.toArray) (lim := l.length) (pc := 5) ⟨rfl, rfl, rfl, rfl, rfl⟩ rfl (by decide) rfl rfl rfl) fun s1 => ?_
  refine Go.ex rfl (ex_REP (code := junC) (text := l.toArray) (lim := l.length) (pc := 7) ⟨rfl, rfl, rfl, rfl, rfl⟩ rfl (by decide) rfl rfl rfl (most := 4294967295) rfl (r := r.length) (Nat.zero_le _) (Nat.zero_le _) hll (rep_run acc_jun (by omega) hr hll) (by exact (by decide : (2 : Nat) ≤ 16777216))) fun s2 => ?_
  refine Go.ex rfl (ex_SUCCESS (code := junC) (text := l.toArray) (lim := l.length) (pc := 21) ⟨rfl, rfl, rfl, rfl, rfl⟩ rfl (by decide) rfl rfl) fun s6 => ?_
  refine ok_pops rfl rfl (by simp [Pass]) (by simp) (.inl ⟨rfl, ?_⟩)
  show [(0 : Int), (r.length : Int)] = [((0 : Nat) : Int), ((0 + r.length : Nat) : Int)]
  rw [Nat.zero_add]; rfl
theorem jun_no {l : List Nat} {p : Nat} (h0 : p ≠ 0) (hp : p ≤ l.length) (hz : l.length ≤ 1000000) :
    Halts (Sre.forSearch junC l.toArray 0 p l.length false) (Ends 0 none) := by
  obtain ⟨sn, ls, hls, _, e⟩ := start_ls (code := junC) (text := l.toArray) (groups := 0) (pos := p) (lim := l.length) (must := false) (least := 0) (body := 5) rfl (by rw [Bool.or_eq_false_iff]; exact ⟨decide_eq_false (by omega), decide_eq_false (by omega)⟩) rfl
  rw [e]
  refine Go.halts (b := 3000000 + 1) ?_ (by decide)
  refine Go.ex rfl (ex_AT_no (code := junC) (text := l.toArray) (lim := l.length) (pc := 5) ⟨rfl, rfl, rfl, rfl, rfl⟩ rfl (by decide) rfl rfl h0) fun s1 => ?_
  exact no_starts (code := junC) (text := l.toArray) (lim := l.length) (ls := ls) (pc := 5) rfl rfl (by decide) (fun m hm => by unfold M.hasFirstSet; rw [hm]; rfl) rfl rfl (by omega) ⟨rfl, rfl, rfl, rfl, rfl, rfl, rfl, by exact (by decide : (1 : Nat) ≤ 1000000)⟩
theorem jun_sub {l r rest : List Nat} (hl : l = r ++ rest) (hr : r ≠ []) (h1 : ∀ c ∈ r, fJ c = true) (h2 : ∀ c, rest.head? = some c → fJ c = false) (hz : l.length ≤ 1000000) :
    Sub junC 0 (S l) (fun _ z => z = S []) 0 0 false 1 (S [] :: if r.length < l.length then [⟨l.toArray.extract r.length l.length⟩] else []) := by
  have hrl : r.length ≠ 0 := by simpa using hr
  have d := Sub.next (code := junC) (groups := 0) (x := S l) (g := fun _ z => z = S []) (start := 0) (done := 0) (must := false) (b := 0) (e := r.length) (rest := []) (y := S []) (k := 0)
    (out := if r.length < l.length then [⟨l.toArray.extract r.length l.length⟩] else []) (by have := jun_yes hl h1 h2 hz; simpa using this) rfl (by
      have : (r.length == 0) = false := beq_eq_false_iff_ne.mpr hrl
      rw [this]
      have q := Sub.stop (code := junC) (groups := 0) (x := S l) (g := fun _ z => z = S []) (start := r.length) (done := r.length) (must := false) (by have := jun_no (l := l) hrl (by rw [hl]; simp) hz; simpa using this)
      simpa using q)
  simpa using d

noncomputable def jtkC : Array Nat := #[14, 4, 0, 1, 4294967295, 24, 16, 1, 4294967295, 13, 11, 9, 0, 67071226, 3355443198, 1476395007, 0, 0, 0, 0, 0, 1, 1]
noncomputable def fT (c : Nat) : Bool := inSt [0, 67071226, 3355443198, 1476395007, 0, 0, 0, 0] c
theorem acc_jtk : Acc jtkC 9 fT := by
  intro c sn
  show ∃ sn', inSet jtkC c (22 + 1) 11 true sn = _
  obtain ⟨s2, e2⟩ := set_chars (code := jtkC) (c := c) (fuel := 22) (i := 11) (yes := true) (sn := sn) (w := [0, 67071226, 3355443198, 1476395007, 0, 0, 0, 0]) rfl (by decide) rfl (by decide)
  obtain ⟨s5, e5⟩ := set_fail (code := jtkC) (c := c) (fuel := 21) (i := 20) (yes := true) (sn := s2) rfl
  rw [e2, e5]
  unfold fT
  cases inSt [0, 67071226, 3355443198, 1476395007, 0, 0, 0, 0] c <;> exact ⟨_, rfl⟩
theorem match_start {code text : Array Nat} {groups lim : Nat} {least body : Nat} (hh : header code = (least, body)) (h : least ≤ lim) :
    ∃ sn, Sre.forMatch code text groups 0 lim true false = { code := code, text := text, lim := lim, start := 0, lastStart := 0, wholeText := true, mustAdvance := false, pc := body, pos := 0, handed := 0, marks := Array.replicate (2 * groups) none, seen := sn } := by
  obtain ⟨rfl, rfl⟩ : least = (header code).1 ∧ body = (header code).2 := by rw [hh]; exact ⟨rfl, rfl⟩
  refine ⟨if (header code).2 == 0 then ({} : Sre.Seen) else ({} : Sre.Seen).add 14, ?_⟩
  unfold Sre.forMatch
  dsimp only
  have : ((header code).1 != 0 && decide (0 ≤ lim) && decide (lim - 0 < (header code).1)) = false := by
    have : decide (lim - 0 < (header code).1) = false := decide_eq_false (by omega)
    rw [this, Bool.and_false]
  rw [if_neg (by rw [this]; decide)]
  rfl
theorem jtk_yes {l : List Nat} (hne : l ≠ []) (h1 : ∀ c ∈ l, fT c = true) (hz : l.length ≤ 1000000) :
    Halts (Sre.forMatch jtkC l.toArray 0 0 l.length true false) (Ends 0 (some [0, (l.length : Int)])) := by
  have hpos : 0 < l.length := List.length_pos_iff.mpr hne
  have hr : runAt fT l 0 l.length := by
    have := runAt_mk (pre := []) (rest := []) h1 (by simp)
    simpa using this
  obtain ⟨sn, e⟩ := match_start (code := jtkC) (text := l.toArray) (groups := 0) (lim := l.length) (least := 1) (body := 5) rfl hpos
  rw [e]
  refine Go.halts (b := 2 + 2) ?_ (by decide)
  refine Go.ex rfl (ex_REP (code := jtkC) (text := l.toArray) (lim := l.length) (pc := 5) ⟨rfl, rfl, rfl, rfl, rfl⟩ rfl (by decide) rfl rfl rfl (most := 4294967295) rfl (r := l.length) (Nat.zero_le _) hpos (Nat.le_refl _) (rep_run acc_jtk (by omega) hr (Nat.le_refl _)) (by exact (by decide : (1 : Nat) ≤ 16777216))) fun s2 => ?_
  refine Go.ex rfl (ex_SUCCESS (code := jtkC) (text := l.toArray) (lim := l.length) (pc := 22) ⟨rfl, rfl, rfl, rfl, rfl⟩ rfl (by decide) rfl (by show (true && ((true && (0 + l.length) != l.length) || (false && _))) = false; simp)) fun s6 => ?_
  refine ok_pops rfl rfl (by simp [Pass]) (by simp) (.inl ⟨rfl, ?_⟩)
  show [(0 : Int), (l.length : Int)] = [((0 : Nat) : Int), ((0 + l.length : Nat) : Int)]
  rw [Nat.zero_add]; rfl
theorem jtk_back {l : List Nat} (hz : l.length ≤ 1000000) : ∀ (k : Nat) (m : M) (f : Sre.Frame), k ≤ l.length → f.wait = .giveBack → f.pc = 5 → f.pos = k → f.count = k → f.kept.marks = #[] → f.kept.whole = false → f.outermost = true → Fail jtkC l.toArray l.length 0 [f] m → m.wholeText = true → m.inner = none →
    Go (2 * k + 2) m fun m' => m'.outcome.isSome = true ∧ Ends 0 none m'
  | 0, m, f, hk, hw, hpc, hpos, hc, hkm, hkw, hou, F, hwt, hin => by
    refine Go.le (go_giveBack F hw (least := 1) (by rw [hpc]; rfl) (by rw [hc]; decide) fun m1 F1 => ?_ : Go (1 + 1) m _) (by omega)
    refine Go.step F1.ho (Go.done ?_)
    unfold M.step
    simp only [F1.ho, Option.isSome_none, Bool.false_eq_true, if_false, F1.ha, F1.hf]
    exact ⟨rfl, rfl⟩
  | 1, m, f, hk, hw, hpc, hpos, hc, hkm, hkw, hou, F, hwt, hin => by
    refine Go.le (go_giveBack F hw (least := 1) (by rw [hpc]; rfl) (by rw [hc]; decide) fun m1 F1 => ?_ : Go (1 + 1) m _) (by omega)
    refine Go.step F1.ho (Go.done ?_)
    unfold M.step
    simp only [F1.ho, Option.isSome_none, Bool.false_eq_true, if_false, F1.ha, F1.hf]
    exact ⟨rfl, rfl⟩
  | k + 2, m, f, hk, hw, hpc, hpos, hc, hkm, hkw, hou, F, hwt, hin => by
    refine (Go.step F.ho ?_ : Go (2 * (k + 1) + 2 + 1 + 1) m _)
    rw [step_resume F.ho F.ha F.hf]
    have er : M.resume { m with answer := none, frames := [], weight := m.weight - (1 + f.kept.marks.size), pc := f.pc, pos := f.pos, outermost := f.outermost } f false =
        { m with answer := none, weight := m.weight - (1 + f.kept.marks.size) + 1, pc := 22, pos := k + 1, handed := k + 1, outermost := f.outermost, lastmark := f.kept.lastmark, lastindex := f.kept.lastindex,
                 frames := [{ wait := .giveBack, pc := 5, pos := k + 1, outermost := f.outermost, count := ((k + 2 : Nat) : Int) - 1, kept := f.kept }] } := by
      generalize hm : ({ m with answer := none, frames := [], weight := m.weight - (1 + f.kept.marks.size), pc := f.pc, pos := f.pos, outermost := f.outermost } : M) = m1
      have g1 : m1.code = jtkC := by subst hm; exact F.hc
      have g2 : m1.pc = 5 := by subst hm; exact hpc
      have w2 : m1.word 2 = 1 := by unfold M.word; rw [g1, g2]; rfl
      have g3 : m1.weight ≤ 1000000 := by subst hm; exact Nat.le_trans (Nat.sub_le _ _) F.hz
      unfold M.resume
      rw [hw]
      simp only [Bool.false_eq_true, if_false, w2]
      have hn : ¬ (f.count - 1 < ((1 : Nat) : Int)) := by rw [hc]; omega
      rw [if_neg hn]
      have pb : m1.putBack f.kept = { m1 with lastmark := f.kept.lastmark, lastindex := f.kept.lastindex } := by
        unfold M.putBack; rw [hkw]; rfl
      rw [pb]
      unfold M.afterRun M.attempt
      refine (if_neg ?_).trans ?_
      · show ¬ (m1.weight + 1 + f.kept.marks.size > 16777216); rw [hkm]; show ¬ (m1.weight + 1 + 0 > 16777216); omega
      · have g16 : m1.code.getD (m1.pc + 1) 0 = 16 := by rw [g1, g2]; rfl
        simp only [M.frame, M.word, M.mk.injEq, g16, hkm, Sre.Frame.mk.injEq, List.cons.injEq]
        subst hm
        simp only [hpc, hpos, hc, hkm]
        simp
    rw [er]
    refine Go.ex F.ho (ex_SUCCESS_no (code := jtkC) (text := l.toArray) (lim := l.length) (pc := 22) (by exact ⟨F.hc, F.ht, F.hl, F.ho, rfl⟩) rfl (by decide) rfl (by
      show (f.outermost && ((m.wholeText && (k + 1) != m.lim) || _)) = true
      rw [hou, hwt, F.hl]
      have : ((k + 1) != l.length) = true := bne_iff_ne.mpr (by omega)
      rw [this]; rfl)) fun sn => ?_
    refine jtk_back hz (k + 1) _ { wait := .giveBack, pc := 5, pos := k + 1, outermost := f.outermost, count := ((k + 2 : Nat) : Int) - 1, kept := f.kept } (by omega) rfl rfl rfl (by show (((k + 2 : Nat) : Int) - 1) = ((k + 1 : Nat) : Int); omega) hkm hkw hou ⟨F.hc, F.ht, F.hl, F.ho, rfl, rfl, F.hs, ?_⟩ hwt hin
    show m.weight - (1 + f.kept.marks.size) + 1 ≤ 1000000
    have := F.hz; rw [hkm]; show m.weight - (1 + 0) + 1 ≤ _; omega
end Mine
end
section
set_option tactic.hygienic false
open PySem PySem.Calls PySem.W PyProof.Rows
namespace Mine
open PySem.Sre

theorem jtk_no {l r rest : List Nat} {c : Nat} (hl : l = r ++ c :: rest) (h1 : ∀ d ∈ r, fT d = true) (h2 : fT c = false) (hz : l.length ≤ 1000000) :
    Halts (Sre.forMatch jtkC l.toArray 0 0 l.length true false) (Ends 0 none) := by
  have hlen : l.length = r.length + (1 + rest.length) := by rw [hl]; simp; omega
  have hr : runAt fT l 0 r.length := by
    have := runAt_mk (pre := []) (f := fT) (r := r) (rest := c :: rest) h1 (by simp; exact h2)
    simpa [hl] using this
  obtain ⟨sn, e⟩ := match_start (code := jtkC) (text := l.toArray) (groups := 0) (lim := l.length) (least := 1) (body := 5) rfl (by omega)
  rw [e]
  refine Go.halts (b := (2 * r.length + 2) + 2) ?_ (by omega)
  by_cases hr0 : r.length = 0
  · show Go ((2 * r.length + 2 + 1) + 1) _ _
    refine Go.ex rfl (ex_REP_no (code := jtkC) (text := l.toArray) (lim := l.length) (pc := 5) ⟨rfl, rfl, rfl, rfl, rfl⟩ rfl (by decide) rfl (least := 1) rfl (most := 4294967295) rfl (r := r.length) (Nat.zero_le _) (by omega) (rep_run acc_jtk (by omega) hr (by omega))) fun s2 => ?_
    refine Go.step rfl (Go.done ?_)
    exact ⟨rfl, rfl⟩
  · show Go ((2 * r.length + 2 + 1) + 1) _ _
    refine Go.ex rfl (ex_REP (code := jtkC) (text := l.toArray) (lim := l.length) (pc := 5) ⟨rfl, rfl, rfl, rfl, rfl⟩ rfl (by decide) rfl (least := 1) rfl rfl (most := 4294967295) rfl (r := r.length) (Nat.zero_le _) (by omega) (by show r.length ≤ l.length - 0; omega)
      (by show ∀ sn, ∃ sn', Sre.run jtkC l.toArray 9 (min 4294967295 (l.length - 0)) 0 0 sn = .ok (r.length, sn')
          exact rep_run acc_jtk (by omega) hr (by omega)) (by exact (by decide : (1 : Nat) ≤ 16777216))) fun s2 => ?_
    refine Go.ex rfl (ex_SUCCESS_no (code := jtkC) (text := l.toArray) (lim := l.length) (pc := 22) ⟨rfl, rfl, rfl, rfl, rfl⟩ rfl (by decide) rfl (by
      show (true && ((true && (0 + r.length) != l.length) || _)) = true
      have : ((0 + r.length) != l.length) = true := bne_iff_ne.mpr (by omega)
      rw [this]; rfl)) fun sn => ?_
    exact jtk_back hz r.length _ { wait := .giveBack, pc := 5, pos := 0 + r.length, outermost := true, count := r.length, kept := { lastmark := -1, lastindex := -1, whole := false, marks := #[] } } (by omega) rfl rfl (Nat.zero_add _) rfl rfl rfl rfl ⟨rfl, rfl, rfl, rfl, rfl, rfl, rfl, by exact (by decide : (1 : Nat) ≤ 1000000)⟩ rfl rfl

noncomputable def escC : Array Nat := #[14, 8, 1, 2, 2, 1, 1, 92, 0, 16, 92, 17, 0, 2, 17, 1, 1]
theorem go_next {b : Nat} {m : M} {P : M → Prop} {f : Sre.Frame} (ho : m.outcome = none) (ha : m.answer = some false) (hf : m.frames = [f]) (hw : f.wait = .nextStart) (hlt : f.pos < m.lastStart) (hfs : ∀ m' : M, m'.code = m.code → m'.hasFirstSet = false) (hwt : m.weight ≤ 1000000)
    (k : Go b { m with answer := none, mustAdvance := false, start := f.pos + 1, pos := f.pos + 1, lastmark := -1, lastindex := -1, handed := f.pos + 1, outermost := false, pc := f.pc, weight := m.weight - (1 + f.kept.marks.size) + 1, frames := [{ wait := .nextStart, pc := f.pc, pos := f.pos + 1, outermost := false }] } P) : Go (b + 1) m P := by
  refine Go.step ho ?_
  rw [step_resume ho ha hf]
  unfold M.resume
  rw [hw]
  simp only [Bool.false_eq_true, if_false]
  rw [if_pos hlt]
  have e := attemptFrom_plain (m := { m with answer := none, frames := [], weight := m.weight - (1 + f.kept.marks.size), pc := f.pc, pos := f.pos, outermost := f.outermost, mustAdvance := false }) (s := f.pos + 1) (first := false) (hfs _ rfl) (Nat.le_trans (Nat.sub_le _ _) hwt)
  rw [e]
  exact k
theorem go_last {m : M} {groups : Nat} {f : Sre.Frame} (ho : m.outcome = none) (ha : m.answer = some false) (hf : m.frames = [f]) (hw : f.wait = .nextStart) (hlt : ¬ (f.pos < m.lastStart)) : Go 2 m fun m' => m'.outcome.isSome = true ∧ Ends groups none m' := by
  refine Go.step ho ?_
  rw [step_resume ho ha hf]
  unfold M.resume
  rw [hw]
  simp only [Bool.false_eq_true, if_false]
  rw [if_neg hlt]
  refine Go.step ho (Go.done ?_)
  unfold M.step M.say
  simp only [ho, Option.isSome_none, Bool.false_eq_true, if_false]
  exact ⟨rfl, rfl⟩
/-- scanning for a backslash -/
structure SC (l : List Nat) (s : Nat) (m : M) : Prop where
  N : Nice escC l.toArray l.length m
  pc : m.pc = 9
  pos : m.pos = s
  st : m.start = s
  mks : m.marks = #[none, none]
  lm : m.lastmark = -1
  wh : m.wholeText = false
  mu : m.mustAdvance = false
  ls : m.lastStart = l.length
  fr : ∃ ou, m.frames = [{ wait := .nextStart, pc := 9, pos := s, outermost := ou }]
  wt : m.weight ≤ 1
theorem sc_next {l : List Nat} {s : Nat} {m : M} (Q : SC l s m) (h : ∀ c, l[s]? = some c → c ≠ 92) (hs : s < l.length) : Go 2 m (SC l (s + 1)) := by
  obtain ⟨ou, hf⟩ := Q.fr
  have hg : l.toArray.getD m.pos 0 ≠ 92 := by rw [Q.pos, getD_list (List.getElem?_eq_getElem hs)]; exact h _ (List.getElem?_eq_getElem hs)
  refine Go.ex Q.N.ho (ex_LIT_no (code := escC) (text := l.toArray) (lim := l.length) (pc := 9) Q.N Q.pc (by decide) rfl (c := 92) rfl fun _ => hg) fun sn => ?_
  refine go_next (f := { wait := .nextStart, pc := 9, pos := s, outermost := ou }) Q.N.ho rfl hf rfl (by show s < m.lastStart; rw [Q.ls]; exact hs) (fun m' hm => by unfold M.hasFirstSet; rw [hm]; show ((match ops[m.code.getD 0 0]? with | some .INFO => true | _ => false) && m.code.getD 2 0 == 4) = false; rw [Q.N.hc]; rfl) (Nat.le_trans Q.wt (by decide)) ?_
  refine Go.done ⟨⟨Q.N.hc, Q.N.ht, Q.N.hl, Q.N.ho, rfl⟩, rfl, rfl, rfl, Q.mks, rfl, Q.wh, rfl, Q.ls, ⟨false, rfl⟩, ?_⟩
  show m.weight - (1 + 0) + 1 ≤ 1
  have := Q.wt; omega
theorem sc_to {l : List Nat} : ∀ (d s : Nat) (m : M), SC l s m → (∀ j c, s ≤ j → j < s + d → l[j]? = some c → c ≠ 92) → s + d ≤ l.length → Go (2 * d) m (SC l (s + d))
  | 0, s, m, Q, _, _ => Go.done Q
  | d + 1, s, m, Q, h, hs => by
    refine ((sc_next Q (fun c => h s c (Nat.le_refl _) (by omega)) (by omega)).seq fun m' Q' => sc_to d (s + 1) m' Q' (fun j c h1 h2 => h j c (by omega) (by omega)) (by omega)).le (by omega) |>.mono fun m' q => ?_
    have : s + 1 + d = s + (d + 1) := by omega
    rw [this] at q; exact q
theorem sc_hit {l : List Nat} {s c : Nat} {m : M} (Q : SC l s m) (h : l[s]? = some 92) (h1 : l[s + 1]? = some c) (hc : c ≠ 10) :
    Go 8 m fun m' => m'.outcome.isSome = true ∧ Ends 1 (some [(s : Int), ((s + 2 : Nat) : Int), ((s + 1 : Nat) : Int), ((s + 2 : Nat) : Int)]) m' := by
  obtain ⟨ou, hf⟩ := Q.fr
  have hs := (List.getElem?_eq_some_iff.mp h1).1
  refine Go.ex Q.N.ho (ex_LIT (code := escC) (text := l.toArray) (lim := l.length) (pc := 9) Q.N Q.pc (by decide) rfl (c := 92) rfl (by rw [Q.pos]; omega) (by rw [Q.pos]; exact getD_list h)) fun s1 => ?_
  refine Go.ex2 Q.N.ho (ex_MARK (code := escC) (text := l.toArray) (lim := l.length) (pc := 11) (by exact ⟨Q.N.hc, Q.N.ht, Q.N.hl, Q.N.ho, Q.N.ha⟩) rfl (by decide) rfl (i := 0) rfl (by show ((0 : Nat) : Int) ≤ m.lastmark + 1; rw [Q.lm]; decide)) fun s2 li2 => ?_
  refine Go.ex Q.N.ho (ex_ONE (code := escC) (text := l.toArray) (lim := l.length) (pc := 13) (by exact ⟨Q.N.hc, Q.N.ht, Q.N.hl, Q.N.ho, Q.N.ha⟩) rfl (by decide) (.inr rfl) (w := 1) rfl (by show m.pos + 1 < l.length; rw [Q.pos]; omega) (fun sn => ⟨sn, by
    show (Except.ok (l.toArray.getD (m.pos + 1) 0 != 10, sn) : Except String (Bool × Sre.Seen)) = _
    rw [Q.pos, getD_list h1]
    have : (c != 10) = true := bne_iff_ne.mpr hc
    rw [this]⟩)) fun s3 => ?_
  refine Go.ex2 Q.N.ho (ex_MARK (code := escC) (text := l.toArray) (lim := l.length) (pc := 14) (by exact ⟨Q.N.hc, Q.N.ht, Q.N.hl, Q.N.ho, Q.N.ha⟩) rfl (by decide) rfl (i := 1) rfl (by show ((1 : Nat) : Int) ≤ max m.lastmark ((0 : Nat) : Int) + 1; rw [Q.lm]; decide)) fun s4 li4 => ?_
  refine Go.ex Q.N.ho (ex_SUCCESS (code := escC) (text := l.toArray) (lim := l.length) (pc := 16) (by exact ⟨Q.N.hc, Q.N.ht, Q.N.hl, Q.N.ho, Q.N.ha⟩) rfl (by decide) rfl (by show (m.outermost && ((m.wholeText && m.pos + 1 + 1 != m.lim) || (m.mustAdvance && m.pos + 1 + 1 == m.start))) = false; rw [Q.wh, Q.mu]; simp)) fun s5 => ?_
  refine ok_pops Q.N.ho rfl (by intro f' hf'; have : f' ∈ m.frames := hf'; rw [hf] at this; rw [List.mem_singleton.mp this]; rfl) (by show m.frames.length + 1 ≤ 3; rw [hf]; exact (by decide : (2 : Nat) ≤ 3)) (.inr ⟨rfl, s + 1, s + 2, ⟨?_, ?_, ?_, by omega⟩, ?_⟩)
  · show (1 : Int) ≤ max (max m.lastmark _) _; rw [Q.lm]; decide
  · show ((m.marks.setIfInBounds 0 (some (m.pos + 1))).setIfInBounds 1 (some (m.pos + 1 + 1))).getD 0 none = some (s + 1); rw [Q.mks, Q.pos]; rfl
  · show ((m.marks.setIfInBounds 0 (some (m.pos + 1))).setIfInBounds 1 (some (m.pos + 1 + 1))).getD 1 none = some (s + 2); rw [Q.mks, Q.pos]; rfl
  · show [(s : Int), ((s + 2 : Nat) : Int), ((s + 1 : Nat) : Int), ((s + 2 : Nat) : Int)] = [(m.start : Int), ((m.pos + 1 + 1 : Nat) : Int), ((s + 1 : Nat) : Int), ((s + 2 : Nat) : Int)]
    rw [Q.st, Q.pos]
theorem sc_none {l : List Nat} {m : M} (Q : SC l l.length m) : Go 3 m fun m' => m'.outcome.isSome = true ∧ Ends 1 none m' := by
  obtain ⟨ou, hf⟩ := Q.fr
  refine Go.ex Q.N.ho (ex_LIT_no (code := escC) (text := l.toArray) (lim := l.length) (pc := 9) Q.N Q.pc (by decide) rfl (c := 92) rfl fun h => by rw [Q.pos] at h; exact absurd h (Nat.lt_irrefl _)) fun sn => ?_
  exact go_last (f := { wait := .nextStart, pc := 9, pos := l.length, outermost := ou }) Q.N.ho rfl hf rfl (by show ¬ (l.length < m.lastStart); rw [Q.ls]; exact Nat.lt_irrefl _)
theorem esc_start {l : List Nat} {p : Nat} (hp : p + 2 ≤ l.length) : ∃ m, Sre.forSearch escC l.toArray 1 p l.length false = m ∧ SC l p m := by
  obtain ⟨sn, ls, hls, hl2, e⟩ := start_ls (code := escC) (text := l.toArray) (groups := 1) (pos := p) (lim := l.length) (must := false) (least := 2) (body := 9) rfl (by rw [Bool.or_eq_false_iff]; exact ⟨decide_eq_false (by omega), decide_eq_false (by omega)⟩) rfl
  refine ⟨_, e, ⟨rfl, rfl, rfl, rfl, rfl⟩, rfl, rfl, rfl, rfl, rfl, rfl, rfl, ?_, ⟨true, rfl⟩, Nat.le_refl _⟩
  exact hl2 (.inr ⟨by decide, by decide⟩)
theorem esc_hit {l pre b rest : List Nat} {c : Nat} (hl : l = pre ++ (b ++ 92 :: c :: rest)) (hb : ∀ d ∈ b, d ≠ 92) (hc : c ≠ 10) (hz : l.length ≤ 1000000) :
    Halts (Sre.forSearch escC l.toArray 1 pre.length l.length false) (Ends 1 (some [((pre.length + b.length : Nat) : Int), ((pre.length + b.length + 2 : Nat) : Int), ((pre.length + b.length + 1 : Nat) : Int), ((pre.length + b.length + 2 : Nat) : Int)])) := by
  have hlen : l.length = pre.length + (b.length + (2 + rest.length)) := by rw [hl]; simp; omega
  obtain ⟨m, e, Q⟩ := esc_start (l := l) (p := pre.length) (by omega)
  rw [e]
  have g : ∀ j, l[pre.length + j]? = (b ++ 92 :: c :: rest)[j]? := fun j => by rw [hl, List.getElem?_append_right (by omega), Nat.add_sub_cancel_left]
  refine Go.halts (b := 2 * b.length + 8) ((sc_to b.length pre.length m Q ?_ (by omega)).seq fun m' Q' => sc_hit Q' ?_ ?_ hc) (by omega)
  · intro j d h1 h2 h3
    have : j = pre.length + (j - pre.length) := by omega
    rw [this, g, List.getElem?_append_left (by omega)] at h3
    exact hb d (List.mem_of_getElem? h3)
  · rw [g, List.getElem?_append_right (Nat.le_refl _), Nat.sub_self]; rfl
  · rw [Nat.add_assoc, g, List.getElem?_append_right (by omega), Nat.add_sub_cancel_left]; rfl
theorem esc_none {l pre b : List Nat} (hl : l = pre ++ b) (hb : ∀ d ∈ b, d ≠ 92) (hz : l.length ≤ 1000000) :
    Halts (Sre.forSearch escC l.toArray 1 pre.length l.length false) (Ends 1 none) := by
  have hlen : l.length = pre.length + b.length := by rw [hl]; simp
  by_cases h2 : b.length < 2
  · exact search_short (least := 2) (body := 9) rfl (by rw [Bool.or_eq_true]; right; exact decide_eq_true (by omega))
  · obtain ⟨m, e, Q⟩ := esc_start (l := l) (p := pre.length) (by omega)
    rw [e]
    refine Go.halts (b := 2 * b.length + 3) ((sc_to b.length pre.length m Q ?_ (by omega)).seq fun m' Q' => sc_none (by rw [← hlen] at Q'; exact Q')) (by omega)
    intro j d h1 h2 h3
    rw [hl, List.getElem?_append_right h1] at h3
    exact hb d (List.mem_of_getElem? h3)
end Mine
end
section
set_option tactic.hygienic false
open PySem PySem.Calls PySem.W PyProof.Rows
namespace Mine
open PySem.Sre

noncomputable def jesC : Array Nat := #[14, 9, 4, 1, 1, 16, 34, 16, 92, 0, 17, 0, 13, 6, 16, 34, 16, 92, 0, 17, 1, 1]
noncomputable def fE (c : Nat) : Bool := c == 34 || c == 92
theorem set_jes {i : Nat} (hi : i = 5 ∨ i = 14) (c : Nat) (sn : Sre.Seen) : ∃ sn', inSet jesC c jesC.size i true sn = .ok (fE c, sn') := by
  rcases hi with rfl | rfl
  · show ∃ sn', inSet jesC c (21 + 1) 5 true sn = _
    obtain ⟨s1, e1⟩ := set_lit (code := jesC) (c := c) (fuel := 21) (i := 5) (d := 34) (yes := true) (sn := sn) rfl rfl
    obtain ⟨s2, e2⟩ := set_lit (code := jesC) (c := c) (fuel := 20) (i := 7) (d := 92) (yes := true) (sn := s1) rfl rfl
    obtain ⟨s3, e3⟩ := set_fail (code := jesC) (c := c) (fuel := 19) (i := 9) (yes := true) (sn := s2) rfl
    rw [e1, e2, e3]
    unfold fE
    cases c == 34 <;> cases c == 92 <;> exact ⟨_, rfl⟩
  · show ∃ sn', inSet jesC c (21 + 1) 14 true sn = _
    obtain ⟨s1, e1⟩ := set_lit (code := jesC) (c := c) (fuel := 21) (i := 14) (d := 34) (yes := true) (sn := sn) rfl rfl
    obtain ⟨s2, e2⟩ := set_lit (code := jesC) (c := c) (fuel := 20) (i := 16) (d := 92) (yes := true) (sn := s1) rfl rfl
    obtain ⟨s3, e3⟩ := set_fail (code := jesC) (c := c) (fuel := 19) (i := 18) (yes := true) (sn := s2) rfl
    rw [e1, e2, e3]
    unfold fE
    cases c == 34 <;> cases c == 92 <;> exact ⟨_, rfl⟩
theorem adm_hit {l : List Nat} {m : M} (h1 : m.code = jesC) (h2 : m.text = l.toArray) (h3 : m.lim = l.length) : ∀ (d fuel s c : Nat) (sn : Sre.Seen), d < fuel → (∀ j x, s ≤ j → j < s + d → l[j]? = some x → fE x = false) → l[s + d]? = some c → fE c = true →
    ∃ sn', M.admitted m fuel s sn = .ok (some (s + d), sn')
  | d, 0, s, c, sn, h, _, _, _ => absurd h (Nat.not_lt_zero _)
  | 0, fuel + 1, s, c, sn, h, _, hc, hf => by
    have hs := (List.getElem?_eq_some_iff.mp hc).1
    obtain ⟨sn', e⟩ := set_jes (.inl rfl) c sn
    unfold M.admitted
    rw [if_neg (by rw [h3]; omega), h1, h2, getD_list (by simpa using hc), e, hf]
    exact ⟨_, rfl⟩
  | d + 1, fuel + 1, s, c, sn, h, hn, hc, hf => by
    have hs := (List.getElem?_eq_some_iff.mp hc).1
    have hx : l[s]? = some l[s] := List.getElem?_eq_getElem (by omega)
    obtain ⟨sn', e⟩ := set_jes (.inl rfl) l[s] sn
    obtain ⟨sn2, e2⟩ := adm_hit h1 h2 h3 d fuel (s + 1) c sn' (by omega) (fun j x a b => hn j x (by omega) (by omega)) (by rw [← hc]; congr 1; omega) hf
    refine ⟨sn2, ?_⟩
    conv => lhs; unfold M.admitted
    rw [if_neg (by rw [h3]; omega), h1, h2, getD_list hx, e, hn s _ (Nat.le_refl _) (by omega) hx]
    dsimp only
    rw [e2]; congr 3; omega
theorem adm_none {l : List Nat} {m : M} (h1 : m.code = jesC) (h2 : m.text = l.toArray) (h3 : m.lim = l.length) : ∀ (fuel s : Nat) (sn : Sre.Seen), (∀ j x, s ≤ j → l[j]? = some x → fE x = false) →
    ∃ sn', M.admitted m fuel s sn = .ok (none, sn')
  | 0, s, sn, _ => ⟨sn, rfl⟩
  | fuel + 1, s, sn, hn => by
    by_cases hs : s ≥ l.length
    · unfold M.admitted
      rw [if_pos (by rw [h3]; exact hs)]
      exact ⟨_, rfl⟩
    · have hx : l[s]? = some l[s] := List.getElem?_eq_getElem (by omega)
      obtain ⟨sn', e⟩ := set_jes (.inl rfl) l[s] sn
      obtain ⟨sn2, e2⟩ := adm_none h1 h2 h3 fuel (s + 1) sn' (fun j x a => hn j x (by omega))
      refine ⟨sn2, ?_⟩
      conv => lhs; unfold M.admitted
      rw [if_neg (by rw [h3]; omega), h1, h2, getD_list hx, e, hn s _ (Nat.le_refl _) hx]
      exact e2
theorem jes_hit {l pre b rest : List Nat} {c : Nat} (hl : l = pre ++ (b ++ c :: rest)) (hb : ∀ d ∈ b, fE d = false) (hc : fE c = true) (hz : l.length ≤ 1000000) :
    Halts (Sre.forSearch jesC l.toArray 1 pre.length l.length false) (Ends 1 (some [((pre.length + b.length : Nat) : Int), ((pre.length + b.length + 1 : Nat) : Int), ((pre.length + b.length : Nat) : Int), ((pre.length + b.length + 1 : Nat) : Int)])) := by
  have hlen : l.length = pre.length + (b.length + (1 + rest.length)) := by rw [hl]; simp; omega
  have g : ∀ j, l[pre.length + j]? = (b ++ c :: rest)[j]? := fun j => by rw [hl, List.getElem?_append_right (by omega), Nat.add_sub_cancel_left]
  have hq : l[pre.length + b.length]? = some c := by rw [g, List.getElem?_append_right (Nat.le_refl _), Nat.sub_self]; rfl
  obtain ⟨sn, ls, _, e⟩ := search_start (code := jesC) (text := l.toArray) (groups := 1) (pos := pre.length) (lim := l.length) (must := false) (least := 1) (body := 10) rfl (by rw [Bool.or_eq_false_iff]; exact ⟨decide_eq_false (by omega), decide_eq_false (by omega)⟩)
  rw [e]
  obtain ⟨sn2, ea⟩ := adm_hit (l := l) (m := { code := jesC, text := l.toArray, lim := l.length, start := pre.length, lastStart := ls, mustAdvance := false, pc := 10, pos := pre.length, handed := pre.length, marks := Array.replicate (2 * 1) none, seen := sn }) rfl rfl rfl b.length (l.length + 1 - pre.length) pre.length c sn (by omega) (fun j d h1 h2 h3 => by
    have : j = pre.length + (j - pre.length) := by omega
    rw [this, g, List.getElem?_append_left (by omega)] at h3
    exact hb d (List.mem_of_getElem? h3)) hq hc
  have e2 : M.attemptFrom { code := jesC, text := l.toArray, lim := l.length, start := pre.length, lastStart := ls, mustAdvance := false, pc := 10, pos := pre.length, handed := pre.length, marks := Array.replicate (2 * 1) none, seen := sn } pre.length true =
      { code := jesC, text := l.toArray, lim := l.length, start := pre.length + b.length, lastStart := ls, mustAdvance := false, pc := 10, pos := pre.length + b.length, handed := pre.length + b.length, marks := Array.replicate (2 * 1) none, seen := sn2, lastmark := -1, lastindex := -1, outermost := true, weight := 1, frames := [{ wait := .nextStart, pc := 10, pos := pre.length + b.length, outermost := true }] } := by
    unfold M.attemptFrom
    have hh : ∀ m : M, m.code = jesC → m.hasFirstSet = true := fun m hm => by unfold M.hasFirstSet; rw [hm]; rfl
    rw [hh _ rfl]
    simp only [Bool.not_true, Bool.false_eq_true, if_false]
    rw [ea]
    rfl
  rw [e2]
  refine Go.halts (b := 6) ?_ (by decide)
  refine Go.ex2 rfl (ex_MARK (code := jesC) (text := l.toArray) (lim := l.length) (pc := 10) ⟨rfl, rfl, rfl, rfl, rfl⟩ rfl (by decide) rfl (i := 0) rfl (by exact (by decide : (0 : Int) ≤ -1 + 1))) fun s2 li2 => ?_
  refine Go.ex rfl (ex_ONE (code := jesC) (text := l.toArray) (lim := l.length) (pc := 12) ⟨rfl, rfl, rfl, rfl, rfl⟩ rfl (by decide) (.inl rfl) (w := 7) rfl (by show pre.length + b.length < l.length; omega) (fun sn => by
    show ∃ sn', inSet jesC (l.toArray.getD (pre.length + b.length) 0) jesC.size 14 true sn = _
    rw [getD_list hq]
    obtain ⟨s', e'⟩ := set_jes (.inr rfl) c sn
    rw [hc] at e'; exact ⟨s', e'⟩)) fun s3 => ?_
  refine Go.ex2 rfl (ex_MARK (code := jesC) (text := l.toArray) (lim := l.length) (pc := 19) ⟨rfl, rfl, rfl, rfl, rfl⟩ rfl (by decide) rfl (i := 1) rfl (by exact (by decide : (1 : Int) ≤ max (-1) 0 + 1))) fun s4 li4 => ?_
  refine Go.ex rfl (ex_SUCCESS (code := jesC) (text := l.toArray) (lim := l.length) (pc := 21) ⟨rfl, rfl, rfl, rfl, rfl⟩ rfl (by decide) rfl rfl) fun s5 => ?_
  refine ok_pops rfl rfl (by simp [Pass]) (by simp) (.inr ⟨rfl, pre.length + b.length, pre.length + b.length + 1, ⟨?_, ?_, ?_, by omega⟩, ?_⟩)
  · exact (by decide : (1 : Int) ≤ max (max (-1) 0) 1)
  · rfl
  · rfl
  · rfl
theorem jes_none {l pre b : List Nat} (hl : l = pre ++ b) (hb : ∀ d ∈ b, fE d = false) (hz : l.length ≤ 1000000) :
    Halts (Sre.forSearch jesC l.toArray 1 pre.length l.length false) (Ends 1 none) := by
  have hlen : l.length = pre.length + b.length := by rw [hl]; simp
  by_cases h2 : b.length < 1
  · exact search_short (least := 1) (body := 10) rfl (by rw [Bool.or_eq_true]; right; exact decide_eq_true (by omega))
  · obtain ⟨sn, ls, _, e⟩ := search_start (code := jesC) (text := l.toArray) (groups := 1) (pos := pre.length) (lim := l.length) (must := false) (least := 1) (body := 10) rfl (by rw [Bool.or_eq_false_iff]; exact ⟨decide_eq_false (by omega), decide_eq_false (by omega)⟩)
    rw [e]
    obtain ⟨sn2, ea⟩ := adm_none (l := l) (m := { code := jesC, text := l.toArray, lim := l.length, start := pre.length, lastStart := ls, mustAdvance := false, pc := 10, pos := pre.length, handed := pre.length, marks := Array.replicate (2 * 1) none, seen := sn }) rfl rfl rfl (l.length + 1 - pre.length) pre.length sn (fun j d h1 h3 => by
      rw [hl, List.getElem?_append_right h1] at h3
      exact hb d (List.mem_of_getElem? h3))
    unfold M.attemptFrom
    have hh : ∀ m : M, m.code = jesC → m.hasFirstSet = true := fun m hm => by unfold M.hasFirstSet; rw [hm]; rfl
    rw [hh _ rfl]
    simp only [Bool.not_true, Bool.false_eq_true, if_false]
    rw [ea]
    refine Go.halts (b := 1) (Go.step rfl (Go.done ?_)) (by decide)
    exact ⟨rfl, rfl⟩

/-! the two rewritings -/
theorem mid {pre b rest : List Nat} : (pre ++ (b ++ rest)).toArray.extract pre.length (pre.length + b.length) = b.toArray := by
  apply Array.ext'
  simp
noncomputable def pieceL (b : List Nat) : List (List Nat) := if b = [] then [] else [b]
theorem pieceL_flat (b : List Nat) : (pieceL b).flatten = b := by unfold pieceL; split <;> simp_all
theorem pieceL_len (b : List Nat) : (pieceL b).length ≤ 1 := by unfold pieceL; split <;> simp
theorem piece_eq {l pre b rest : List Nat} (hl : l = pre ++ (b ++ rest)) : (if pre.length < pre.length + b.length then [(⟨(S l).cps.extract pre.length (pre.length + b.length)⟩ : Str)] else []) = (pieceL b).map S := by
  unfold pieceL
  by_cases hb : b = []
  · subst hb; simp
  · have : 0 < b.length := List.length_pos_iff.mpr hb
    rw [if_pos (by omega), if_neg hb]
    show [(⟨l.toArray.extract pre.length (pre.length + b.length)⟩ : Str)] = [S b]
    rw [hl, mid]
noncomputable def ubody (items : List (Nat × List Nat)) : List Nat := items.flatMap fun x => x.1 :: x.2
noncomputable def gEsc (l : List Nat) (sp : List Int) (y : Str) : Prop := ∃ (q c : Nat), sp = [(q : Int), ((q + 2 : Nat) : Int), ((q + 1 : Nat) : Int), ((q + 2 : Nat) : Int)] ∧ l[q + 1]? = some c ∧ y = S [c]
theorem fQ_ne {d : Nat} (h : fQ d = true) : d ≠ 92 := by rintro rfl; cases h
theorem esc_sub {l : List Nat} (hz : l.length ≤ 1000000) : ∀ (items : List (Nat × List Nat)) (pre b : List Nat), QOk items → (∀ d ∈ b, fQ d = true) → l = pre ++ (b ++ qbody items) →
    ∃ (outs : List (List Nat)) (k : Nat), Sub escC 1 (S l) (gEsc l) pre.length pre.length false k (outs.map S) ∧ outs.flatten = b ++ ubody items ∧ outs.length ≤ 2 * items.length + 1
  | [], pre, b, ok, hb, hl => by
    have hl' : l = pre ++ (b ++ []) := hl
    refine ⟨pieceL b, 0, ?_, by rw [pieceL_flat]; simp [ubody], by have := pieceL_len b; simp; omega⟩
    have q := Sub.stop (code := escC) (groups := 1) (x := S l) (g := gEsc l) (start := pre.length) (done := pre.length) (must := false) (by
      have := esc_none (l := l) (pre := pre) (b := b) (by rw [hl']; simp) (fun d hd => fQ_ne (hb d hd)) hz
      simpa using this)
    have e : (S l).cps.size = pre.length + b.length := by show l.toArray.size = _; rw [hl']; simp
    rw [e, piece_eq hl'] at q
    exact q
  | (c, r) :: items, pre, b, ok, hb, hl => by
    have okx := ok _ (List.mem_cons_self ..)
    have hl1 : l = pre ++ (b ++ 92 :: c :: (r ++ qbody items)) := by rw [hl, qbody_cons]
    have hl2 : l = (pre ++ b ++ [92, c]) ++ (r ++ qbody items) := by rw [hl1]; simp
    obtain ⟨outs, k, d, hf, hlen⟩ := esc_sub hz items (pre ++ b ++ [92, c]) r (fun x hx => ok x (List.mem_cons_of_mem _ hx)) okx.2 hl2
    have ep : (pre ++ b ++ [92, c]).length = pre.length + b.length + 2 := by simp; omega
    rw [ep] at d
    have q := Sub.next (code := escC) (groups := 1) (x := S l) (g := gEsc l) (start := pre.length) (done := pre.length) (must := false) (b := pre.length + b.length) (e := pre.length + b.length + 2) (rest := [((pre.length + b.length + 1 : Nat) : Int), ((pre.length + b.length + 2 : Nat) : Int)]) (y := S [c]) (k := k) (out := outs.map S)
      (by have := esc_hit (l := l) (pre := pre) (b := b) (rest := r ++ qbody items) (c := c) hl1 (fun d hd => fQ_ne (hb d hd)) okx.1 hz
          simpa using this)
      ⟨pre.length + b.length, c, rfl, by rw [hl1, Nat.add_assoc, List.getElem?_append_right (by omega), Nat.add_sub_cancel_left, List.getElem?_append_right (by omega), Nat.add_sub_cancel_left]; rfl, rfl⟩
      (by have : ((pre.length + b.length + 2) == (pre.length + b.length)) = false := beq_eq_false_iff_ne.mpr (by omega)
          rw [this]; exact d)
    rw [piece_eq (b := b) (rest := 92 :: c :: (r ++ qbody items)) hl1] at q
    refine ⟨pieceL b ++ [[c]] ++ outs, k + 1, by simpa using q, ?_, by have := pieceL_len b; simp; omega⟩
    rw [List.flatten_append, List.flatten_append, pieceL_flat, hf]
    simp [ubody]
noncomputable def ebody (items : List (Nat × List Nat)) : List Nat := items.flatMap fun x => 92 :: x.1 :: x.2
noncomputable def EOk (items : List (Nat × List Nat)) : Prop := ∀ x ∈ items, fE x.1 = true ∧ ∀ d ∈ x.2, fE d = false
noncomputable def gJes (l : List Nat) (sp : List Int) (y : Str) : Prop := ∃ (q c : Nat), sp = [(q : Int), ((q + 1 : Nat) : Int), (q : Int), ((q + 1 : Nat) : Int)] ∧ l[q]? = some c ∧ y = S [92, c]
theorem jes_sub {l : List Nat} (hz : l.length ≤ 1000000) : ∀ (items : List (Nat × List Nat)) (pre b : List Nat), EOk items → (∀ d ∈ b, fE d = false) → l = pre ++ (b ++ ubody items) →
    ∃ (outs : List (List Nat)) (k : Nat), Sub jesC 1 (S l) (gJes l) pre.length pre.length false k (outs.map S) ∧ outs.flatten = b ++ ebody items ∧ outs.length ≤ 2 * items.length + 1
  | [], pre, b, ok, hb, hl => by
    have hl' : l = pre ++ (b ++ []) := hl
    refine ⟨pieceL b, 0, ?_, by rw [pieceL_flat]; simp [ebody], by have := pieceL_len b; simp; omega⟩
    have q := Sub.stop (code := jesC) (groups := 1) (x := S l) (g := gJes l) (start := pre.length) (done := pre.length) (must := false) (by
      have := jes_none (l := l) (pre := pre) (b := b) (by rw [hl']; simp) hb hz
      simpa using this)
    have e : (S l).cps.size = pre.length + b.length := by show l.toArray.size = _; rw [hl']; simp
    rw [e, piece_eq hl'] at q
    exact q
  | (c, r) :: items, pre, b, ok, hb, hl => by
    have okx := ok _ (List.mem_cons_self ..)
    have hl1 : l = pre ++ (b ++ c :: (r ++ ubody items)) := by rw [hl]; simp [ubody]
    have hl2 : l = (pre ++ b ++ [c]) ++ (r ++ ubody items) := by rw [hl1]; simp
    obtain ⟨outs, k, d, hf, hlen⟩ := jes_sub hz items (pre ++ b ++ [c]) r (fun x hx => ok x (List.mem_cons_of_mem _ hx)) okx.2 hl2
    have ep : (pre ++ b ++ [c]).length = pre.length + b.length + 1 := by simp; omega
    rw [ep] at d
    have q := Sub.next (code := jesC) (groups := 1) (x := S l) (g := gJes l) (start := pre.length) (done := pre.length) (must := false) (b := pre.length + b.length) (e := pre.length + b.length + 1) (rest := [((pre.length + b.length : Nat) : Int), ((pre.length + b.length + 1 : Nat) : Int)]) (y := S [92, c]) (k := k) (out := outs.map S)
      (by have := jes_hit (l := l) (pre := pre) (b := b) (rest := r ++ ubody items) (c := c) hl1 hb okx.1 hz
          simpa using this)
      ⟨pre.length + b.length, c, rfl, by rw [hl1, List.getElem?_append_right (by omega), Nat.add_sub_cancel_left, List.getElem?_append_right (Nat.le_refl _), Nat.sub_self]; rfl, rfl⟩
      (by have : ((pre.length + b.length + 1) == (pre.length + b.length)) = false := beq_eq_false_iff_ne.mpr (by omega)
          rw [this]; exact d)
    rw [piece_eq (b := b) (rest := c :: (r ++ ubody items)) hl1] at q
    refine ⟨pieceL b ++ [[92, c]] ++ outs, k + 1, by simpa using q, ?_, by have := pieceL_len b; simp; omega⟩
    rw [List.flatten_append, List.flatten_append, pieceL_flat, hf]
    simp [ebody]
end Mine
end
section
set_option tactic.hygienic false
open PySem PySem.Calls PySem.W PyProof.Rows
namespace Mine
open PySem.Builtin.Re

noncomputable def lamFs (scope : Scope) (q : Str) (cd : Value) : Fs := { names := scope.names, fn := true, code := cd, qual := q ++ ".<locals>." }
/-- what is asked of a lambda of one argument -/
structure LamOk (params : Arguments) (scope : Scope) (y : Str) : Prop where
  names : scope.names = [(y, .local)]
  kind : scope.kind = .function
  co : scope.isCoroutine = false
  gen : scope.isGenerator = false
  dflt : ∀ env, defaultsOf params env = ([], [])
  clo : ∀ env, closureFor scope env = pure []
  bind : ∀ (q : Str) (body : PySem.Expr) (pm cdv ct u : Value), bindArgs (kla_fn "<lambda>" q params body scope [] pm cdv ct) ⟨[u], []⟩ = pure [(y, u)]

section
variable {C : Cx} {n : Nat} {F : Fs} {σ σ' σ₁ σ₂ σ₃ : List Slot} {v a b c : V}
theorem lam_call {params : Arguments} {scope : Scope} {y q : Str} {body : PySem.Expr} {pm ctv : Value} {c' fa : Addr} {f0 : Frz} {oc : Obj} {vs : Array Value} {tk : Tok} {arg res : V} {σ' : List Slot} (Lk : LamOk params scope y)
    (ho : f0 fa = some (kla_obj "<lambda>" q params body scope [] pm c' ctv)) (hc : f0 c' = some oc) (hd : oc.data = .fields vs) (hv : vs[1]? = some (.str q tk))
    (hbody : ∀ cd, Ev C n (lamFs scope q cd) body [.val arg] res σ') : Cl C (n + 1) f0 (fun us => PySem.call (.ref fa) us) [arg] res := by
  intro A s f us E Q r h0 I le Ra hQ
  obtain ⟨u, rfl, Ru⟩ := RepAll.one Ra
  have hrec : s.heap.CodeRec (.ref c') q := ⟨c', oc, vs, tk, rfl, I.sub _ _ (le _ _ hc), hd, hv⟩
  have DE : DefEnv (lamFs scope q (.ref c')) (kla_fn "<lambda>" q params body scope [] pm (.ref c') ctv) := by
    refine ⟨rfl, ?_, ?_, ?_, Lk.kind, rfl, rfl, rfl, rfl, rfl⟩
    · show (scope.names.map (·.1)).Nodup; rw [Lk.names]; simp
    · show ∀ p ∈ scope.names, p.2 ≠ .free; rw [Lk.names]; intro p hp; rw [List.mem_singleton.mp hp]; exact nofun
    · show ((cellsFrom 0 scope.names []).map (·.1)).Nodup; rw [Lk.names]; exact List.nodup_nil
  refine wpAny_call (kla_callFunE (by have := r.depth; unfold recursionLimit; omega) (I.sub _ _ (le _ _ ho)) rfl Lk.co Lk.gen rfl hrec ?_)
  rw [Lk.bind]
  have hkind : ∀ x ∈ [(y, u)], scope.names.lookup x.1 = some .local ∨ (scope.names.lookup x.1 = some .cell ∧ ((cellsFrom (s.heap.objs.size + 1) scope.names []).lookup x.1).isSome = true) := by
    intro x hx
    rw [List.mem_singleton.mp hx, Lk.names]
    exact .inl (by simp [List.lookup])
  refine wpAny_pure (wp_pos h0 (wpAny_newFunctionEnv_cells Lk.kind hkind fun env he s₁ x hk1 => ?_))
  subst he
  have hz : (((lamFs scope q (.ref c')).names.map (·.1)).zip [u]) = [(y, u)] := by show ((scope.names.map (·.1)).zip [u]) = _; rw [Lk.names]; rfl
  obtain ⟨K, S⟩ := start_sr (args := [arg]) (us := [u]) DE I Ra (by show 1 ≤ scope.names.length; rw [Lk.names]; simp) (fun i z k hi hz => by
    have : scope.names[i]? = some (z, k) := hz
    rw [Lk.names] at this
    have h0 : i = 0 := by simp at hi; omega
    subst h0
    simp at this; exact .inl this.2.symm) (by rw [hz]; exact x)
  obtain ⟨h1, k1, rfl⟩ := x.toInCall.same
  refine ⟨(C.nolimit.keeps fun _ _ => I.ghost).keeps x.toInCall.keep, kla_codeExpr ?_⟩
  have hin : initSlots (lamFs scope q (.ref c')).names [arg] = [.val arg] := by
    show [arg].map Slot.val ++ List.replicate (scope.names.length - 1) Slot.unset = _; rw [Lk.names]; rfl
  rw [hin] at S
  exact hbody (.ref c') (r.deeper _) K hk1 S fun h2 k2 f2 u2 p2 l2 S2 R2 => hQ h2 k2 f2 u2 p2 S2.inv S2.st R2

/-- a lambda is made -/
theorem wp_lambda {A : Around} {E : Value → Shared → Prop} {env : Env} {X oa h₀ f₀} {s : Shared} {f : Frz} {params : Arguments} {scope : Scope} {y q : Str} {body : PySem.Expr} {pos : Pos} {t : Tab} {c : Addr} {Q : Value → Shared → Prop} (Lk : LamOk params scope y) (ht : t ∈ C.T) (hd : ∀ t' ∈ C.T, t'.P = t.P → t' = t)
    (hl : pos.line = t.ln) (hcol : pos.col = t.col) (hq : F.qual ++ "<lambda>" = t.q) (hcode : F.code = .ref c) (CH : CodeHd C.G c t.P) (K : EnvOk F env) (h0 : 0 < s.toks) (S : SR C h₀ f₀ env X oa σ f s.heap)
    (hQ : ∀ h' k f' fa pm c' ctv oc vs tk, 0 < k → FLe f f' → SR C h₀ f₀ env X oa σ f' h' → f' fa = some (kla_obj "<lambda>" t.q params body scope [] pm c' ctv) → f' c' = some oc → oc.data = .fields vs → vs[1]? = some (.str t.q tk) →
      Q (.ref fa) { s with heap := h', toks := k }) : wpAny (model C.prog C.w) A (eval (.Lambda params body scope pos) env) Q E s := by
  refine kla_eval (Lk.dflt env) ?_
  have eq : env.qual ++ "<lambda>" = t.q := by rw [K.qual]; exact hq
  rw [eq]
  have hg : s.heap.Ns mainGlobals C.mg := C.glob.at' fun o e => S.inv.ghost e
  have hb : s.heap.BuiltinsAt C.mg t.P := by
    obtain ⟨bm, o, b1, b2, b3, b4, b5, b6⟩ := C.bat t ht
    exact ⟨bm, o, b1, b2, b3, b4, S.inv.ghost b5, b6⟩
  have CH' : CodeHd s.heap c t.P := CH.keeps fun b o e => S.inv.ghost e
  have fN := (S.inv.tab t ht).1
  rcases (S.inv.tab t ht).2 with e | ⟨c', oc, vs, tk, e, ec, ed, ev⟩
  · refine wp_pos h0 (kla_makeFunction (mg := C.mg) (Lk.clo env) K.globals hg (K.code.trans hcode) CH' e trivial rfl (C.noT t ht) hb fun c' ctv h' tk hx hge hlt hrec htb p1 => ?_)
    obtain ⟨c2, oc, vs, tk2, e2, eoc, edc, evc⟩ := hrec
    cases e2
    have hcF : f c' = none := by
      cases q1 : f c' with
      | none => rfl
      | some o => exact absurd (S.inv.lt q1) (Nat.not_lt.mpr hge)
    have hfF : fset f c' oc h'.objs.size = none := by
      rw [fset_ne (Nat.ne_of_gt hlt)]
      cases q1 : f h'.objs.size with
      | none => rfl
      | some o => exact absurd (S.inv.lt q1) (Nat.not_lt.mpr (Nat.le_trans hge (Nat.le_of_lt hlt)))
    have hPlt := S.inv.tlt ht
    have hPc : t.P ≠ c' := Nat.ne_of_lt (Nat.lt_of_lt_of_le hPlt hge)
    have hPh : t.P ≠ h'.objs.size := Nat.ne_of_lt (Nat.lt_of_lt_of_le hPlt (Nat.le_trans hge (Nat.le_of_lt hlt)))
    generalize hfo : kla_obj "<lambda>" t.q params body scope [] ((C.mg "__name__").getD .none) c' ctv = fo
    have hfree : fo.isFreed = false := by rw [← hfo]; rfl
    have le1 : FLe f (fset (fset f c' oc) h'.objs.size fo) := (fset_le hcF).trans (fset_le hfF)
    have keep : ∀ z o, z ≠ t.P → s.heap.get? z = some o → (h'.push fo).get? z = some o := fun z o hz ez => Heap.get?_push_of_some _ (hx z o hz ez)
    have fnP : ∀ t' ∈ C.T, fset (fset f c' oc) h'.objs.size fo t'.P = none := fun t' ht' => by
      have l' := S.inv.tlt ht'
      rw [fset_ne (Nat.ne_of_lt (Nat.lt_of_lt_of_le l' (Nat.le_trans hge (Nat.le_of_lt hlt)))), fset_ne (Nat.ne_of_lt (Nat.lt_of_lt_of_le l' hge))]
      exact (S.inv.tab t' ht').1
    have I' : Inv C (fset (fset f c' oc) h'.objs.size fo) (h'.push fo) := by
      refine ⟨fun z o qz => ?_, fun z o qz => le1 _ _ (S.inv.gh _ _ qz), fun t' ht' => ?_⟩
      · by_cases q1 : z = h'.objs.size
        · subst q1; rw [fset_self] at qz; cases qz; exact Heap.get?_push_size _ hfree
        · rw [fset_ne q1] at qz
          by_cases q2 : z = c'
          · subst q2; rw [fset_self] at qz; cases qz; exact Heap.get?_push_of_some _ eoc
          · rw [fset_ne q2] at qz
            exact keep z o (S.inv.tne ht qz) (S.inv.sub _ _ qz)
      · by_cases qt : t'.P = t.P
        · have := hd t' ht' qt
          subst this
          refine ⟨fnP _ ht', .inr ⟨c', oc, vs, tk2, ?_, ?_, edc, evc⟩⟩
          · have := Heap.get?_push_of_some fo htb
            rw [hl, hcol] at this
            exact this
          · rw [fset_ne (Nat.ne_of_lt hlt), fset_self]
        · exact (S.inv.tab t' ht').mono le1 (fnP _ ht') fun o eo => keep _ _ qt eo
    have st' : Step C.T f s.heap (fset (fset f c' oc) h'.objs.size fo) (h'.push fo) := by
      refine ⟨by rw [Heap.size_push]; omega, fun z o ez nz => keep z o (nz t ht) ez, fun z hz => ?_⟩
      rw [fset_ne (Nat.ne_of_lt (Nat.lt_of_lt_of_le hz (Nat.le_trans hge (Nat.le_of_lt hlt)))), fset_ne (Nat.ne_of_lt (Nat.lt_of_lt_of_le hz hge))]
    refine hQ _ _ _ h'.objs.size ((C.mg "__name__").getD .none) c' ctv oc vs tk2 p1 le1 (S.step I' st') ?_ ?_ edc evc
    · rw [fset_self, hfo]
    · rw [fset_ne (Nat.ne_of_lt hlt), fset_self]
  · have hcm : codeAmong pos (#[rawInt t.ln, rawInt t.col, Value.ref c'] : Array Value).toList = some (.ref c') := by
      show (if (((t.ln : Int) == (pos.line : Int)) && ((t.col : Int) == (pos.col : Int))) = true then some (Value.ref c') else _) = _
      rw [hl, hcol]; simp
    refine wp_pos h0 (kla_makeFunctionHit (mg := C.mg) (Lk.clo env) K.globals hg (K.code.trans hcode) CH' e trivial hcm hb fun ctv h' tk2 hk hsz p1 => ?_)
    have hfF : f h'.objs.size = none := by
      cases q1 : f h'.objs.size with
      | none => rfl
      | some o => exact absurd (S.inv.lt q1) (Nat.not_lt.mpr hsz)
    generalize hfo : ({ cls := .type "function", data := .func (kla_fn "<lambda>" t.q params body scope [] ((C.mg "__name__").getD .none) (.ref c') ctv) } : Obj) = fo
    have hfree : fo.isFreed = false := by rw [← hfo]; rfl
    have I1 : Inv C f h' := ⟨fun z o qz => hk _ _ (S.inv.sub _ _ qz), S.inv.gh, fun t' ht' => (S.inv.tab t' ht').mono (FLe.refl f) (S.inv.tab t' ht').1 fun o eo => hk _ _ eo⟩
    have st1 : Step C.T f s.heap f h' := ⟨hsz, fun z o ez _ => hk _ _ ez, fun _ _ => rfl⟩
    have I2 := I1.push hfree
    have st2 := Step.push C.T f h' fo
    refine hQ _ _ _ h'.objs.size ((C.mg "__name__").getD .none) c' ctv oc vs tk p1 (fset_le hfF) (S.step I2 (st1.trans st2)) ?_ (fset_le hfF _ _ ec) ed ev
    rw [fset_self, ← hfo]
end
end Mine
end
section
set_option tactic.hygienic false
open PySem PySem.Calls PySem.W PyProof.Rows
namespace Mine
open PySem.Builtin.Re
theorem look_fn_call : ∃ v, typeLookup (.type "function") "__call__" = pure (some v) := ⟨.builtin "function.__call__", by rw [typeLookup_type, builtinLookup_eq_fast]; kernel_rfl⟩
theorem look_str_call : typeLookup (.type "str") "__call__" = pure Option.none := by rw [typeLookup_type, builtinLookup_eq_fast]; kernel_rfl
theorem sub_str_bytearray : isSubtype (.type "str") (.type "bytearray") = pure false := by rw [isSubtype_type]; kernel_rfl
section
variable {C : Cx} {n : Nat} {P : Addr} {code : Array Nat} {groups : Nat}
theorem Lst.new {f : Frz} {h : Heap} (I : Inv C f h) : Lst C h f h.objs.size [] f (h.push { cls := .type "list", data := .seq ([] : List Value).toArray }) :=
  ⟨I.pushU _, Step.pushU C.T f h _, FLe.refl f, Nat.le_refl _, I.fresh, fun t ht => Nat.ne_of_gt (I.tlt ht), [], 0, Heap.get?_push_size _ rfl, .nil⟩

theorem codeAny_slot {T id : String} {name : Str} {b : Builtin} {prog : Program} {w : World} {A : Around} {R : Result → Shared → Prop} {s : Shared} {self : Value} {rest : List Value} (slot : PySem.Slot T name id) (hT : s.TypeIs self T) (hb : entryFor table id = some b) (ha : argsOk id ⟨self :: rest, []⟩)
    (h : wpAny (model prog w) A.in1 (b ⟨self :: rest, []⟩) (fun fin s' => match fin with | .done f => R (.ok f) s' | .again c' => c'.quiet = true ∧ codeAny (model prog w) A c' R s') (fun e s' => R (.error e) s') s) :
    codeAny (model prog w) A (.call (.builtin id) ⟨self :: rest, []⟩) R s :=
  codeAny_call_builtin slot.plain hb (slot.check _ _ _ _ _ _ _ _ hT ha h)

theorem wp_subCall {A : Around} {E : Value → Shared → Prop} {s : Shared} {f : Frz} {x : Str} {t : Tok} {g : List Int → Str → Prop} {repl : Value} {way : Nat} {Q : Value → Shared → Prop} {all : List Str} {num : Nat} {withCount : Bool} (p : PatOk C P code groups) (hx : x.length ≤ 16000000) (r : Room (n + 1) A) (h0 : 0 < s.toks) (I : Inv C f s.heap)
    (hcalled : ∀ {Q' : Option Value → Shared → Prop} {A' E'}, (∀ r, r.isSome = (way == 1) → Q' r s) → wpAny (model C.prog C.w) A' (specialOf repl "__call__") Q' E' s)
    (hway : way = 0 → ∃ y u, repl = .str y u ∧ y.cps.contains 92 = false ∧ ∀ sp z, g sp z → z = y) (hcall : way ≠ 0 → way = 1 ∧ ∀ sp z, g sp z → Cl C n f (fun us => PySem.call repl us) [.mat x sp] (.str z))
    (hall : all.length ≤ 1000000) (hok : JoinOk ⟨#[]⟩ all = true) (d : Sub code groups x g 0 0 false num all)
    (hQ : ∀ h' k f' v, 0 < k → Inv C f' h' → Step C.T f s.heap f' h' → Rep f' (if withCount then .tup [.str (Txt.join ⟨#[]⟩ all), .int num] else .str (Txt.join ⟨#[]⟩ all)) v → Q v { s with heap := h', toks := k }) :
    ∀ {id fn : String}, wpAny (model C.prog C.w) A.in1 (reSubstitute id fn withCount ⟨[.ref P, repl, .str x t], []⟩)
      (fun fin s' => match fin with | .done f => (match (Except.ok f : Result) with | .ok (.ret v) => Q v s' | .ok _ => False | .error e => E e s') | .again c' => c'.quiet = true ∧ codeAny (model C.prog C.w) A c' (fun r s' => match r with | .ok (.ret v) => Q v s' | .ok _ => False | .error e => E e s') s') E s := by
  intro id fn
  unfold reSubstitute
  dsimp only
  refine wpAny_bind (m := reNamed id fn ["repl", "string", "count"] 2 [repl, .str x t] []) (wpAny_of_eq (a := [some repl, some (.str x t), none]) rfl ?_)
  dsimp only
  refine wpAny_bind (wpAny_pure (wpAny_bind (hcalled fun cv hcv => ?_)))
  have loop : codeAny (model C.prog C.w) A (.builtin "re.Pattern.sub.loop" ⟨[.ref P, .str x t, repl, rawInt way, rawInt 0, rawInt 0, rawInt 0, rawInt 0, .bool false, .ref s.heap.objs.size, .bool withCount], []⟩)
      (fun r s' => match r with | .ok (.ret v) => Q v s' | .ok _ => False | .error e => E e s') { s with heap := s.heap.push { cls := .type "list", data := .seq ([] : List Value).toArray }, toks := s.toks } := by
    have := wp_sub (C := C) (n := n) (P := P) (code := code) (groups := groups) (h₀ := s.heap) (f₀ := f) (D := s.heap.objs.size) (A := A) (x := x) (t := t) (g := g) (repl := repl) (way := way) (withCount := withCount) p hx (s₀ := s)
      (R := fun r s' => match r with | .ok (.ret v) => Q v s' | .ok _ => False | .error e => E e s') r (fun h => let ⟨y, u, a, _, b⟩ := hway h; ⟨y, u, a, b⟩) hcall (all := all) (num := num) hall hok (fun h' k f' v p' I' st R => hQ h' k f' v p' I' st R) d (i := 0) (out := []) (f := f) (tk := s.toks) rfl (Nat.zero_add _) h0 (Lst.new I)
    exact this
  have tail : ∀ w' : Int, w' = (way : Int) → wpAny (model C.prog C.w) A.in1 (do
        let _ ← holding [repl] (reWholeTarget (.ref P) (.str x t))
        if (w' == 1) = true then reNotHeld id (.str x t)
        again (.builtin "re.Pattern.sub.loop" ⟨[.ref P, .str x t, repl, rawInt w', rawInt 0, rawInt 0, rawInt 0, rawInt 0, .bool false, ← newList [], .bool withCount], []⟩))
      (fun fin s' => match fin with | .done f => (match (Except.ok f : Result) with | .ok (.ret v) => Q v s' | .ok _ => False | .error e => E e s') | .again c' => c'.quiet = true ∧ codeAny (model C.prog C.w) A c' (fun r s' => match r with | .ok (.ret v) => Q v s' | .ok _ => False | .error e => E e s') s') E s := by
    rintro w' rfl
    refine wpAny_bind (wpAny_holding (wp_whole p I ?_))
    have fin : wpAny (model C.prog C.w) A.in1 (do
        let l ← newList []
        again (.builtin "re.Pattern.sub.loop" ⟨[.ref P, .str x t, repl, rawInt (way : Int), rawInt 0, rawInt 0, rawInt 0, rawInt 0, .bool false, l, .bool withCount], []⟩))
      (fun fin s' => match fin with | .done f => (match (Except.ok f : Result) with | .ok (.ret v) => Q v s' | .ok _ => False | .error e => E e s') | .again c' => c'.quiet = true ∧ codeAny (model C.prog C.w) A c' (fun r s' => match r with | .ok (.ret v) => Q v s' | .ok _ => False | .error e => E e s') s') E s :=
      wpAny_bind (wpAny_newObj_type (wpAny_pure ⟨plainId_quiet plain_re_loop _, loop⟩) (by show (0 : Nat) ≤ sizeLine; exact Nat.zero_le _))
    by_cases h1 : way = 1
    · subst h1
      rw [if_pos (by rfl)]
      unfold reNotHeld
      refine wpAny_bind (wpAny_bind (wpAny_isInstance (T := "str") (typeIs_str _ _ _) sub_str_bytearray ?_))
      rw [if_neg (by decide)]
      exact wpAny_pure fin
    · have : ((way : Int) == 1) = false := by simp; omega
      rw [if_neg (by rw [this]; decide)]
      exact fin
  by_cases hw : way = 0
  · obtain ⟨y, u, rfl, hy, _⟩ := hway hw
    have hc : cv.isSome = false := by rw [hcv, hw]; rfl
    rw [if_neg (by rw [hc]; decide)]
    refine wpAny_bind (m := asStr? (.str y u)) (wpAny_of_eq (a := some y) rfl ?_)
    dsimp only
    refine wpAny_bind (wpAny_pure ?_)
    rw [if_neg (by rw [hc]; decide), hy]
    rw [if_pos (by rfl)]
    exact wpAny_bind (wpAny_pure (tail 0 (by rw [hw]; rfl)))
  · obtain ⟨rfl, _⟩ := hcall hw
    have hc : cv.isSome = true := by rw [hcv]; rfl
    rw [if_pos hc]
    refine wpAny_bind (wpAny_pure ?_)
    rw [if_pos hc]
    exact wpAny_bind (wpAny_pure (tail 1 rfl))
end
end Mine
end
section
set_option tactic.hygienic false
open PySem PySem.Calls PySem.W PyProof.Rows
namespace Mine
open PySem.Builtin.Re
section
variable {C : Cx} {n : Nat} {F : Fs} {σ σ' σ₁ σ₂ σ₃ : List Slot} {v a b c : V} {P : Addr} {code : Array Nat} {groups : Nat}
theorem PatOk.hasT (p : PatOk C P code groups) : HasT C (.val (.ref P)) "re.Pattern" := by
  obtain ⟨fs, T, ws, k, h1, _⟩ := p.ex
  exact HasT.val h1 rfl rfl
theorem Pu.subnLit {x y : Str} {all : List Str} {num : Nat} (p : PatOk C P code groups) (hx : x.length ≤ 16000000) (hy : y.cps.contains 92 = false) (d : Sub code groups x (fun _ z => z = y) 0 0 false num all) (hall : all.length ≤ 1000000) (hok : JoinOk ⟨#[]⟩ all = true) :
    Pu C (n + 1) (fun us => PySem.call (.builtin "re.Pattern.subn") us) [.val (.ref P), .str y, .str x] (.tup [.str (Txt.join ⟨#[]⟩ all), .int num]) := by
  intro A s f us E Q r h0 I R hQ
  obtain ⟨u, v, w, rfl, Ru, Rv, Rw⟩ := RepAll.three R
  rw [Ru.val_inv]
  obtain ⟨t, rfl⟩ := Rv.str_inv; obtain ⟨t2, rfl⟩ := Rw.str_inv
  obtain ⟨fs, T, ws, k, h1, _⟩ := p.ex
  have hT : s.TypeIs (.ref P) "re.Pattern" := ⟨_, I.ghost h1, rfl⟩
  refine wpAny_call (codeAny_slot slot_re_Pattern_subn hT entry_re_Pattern_subn (args_re_Pattern_subn_3 _ _ _) ?_)
  have := wp_subCall (C := C) (n := n) (P := P) (code := code) (groups := groups) (A := A) (E := E) (s := s) (f := f) (x := x) (t := t2) (g := fun _ z => z = y) (repl := .str y t) (way := 0) (Q := Q) (all := all) (num := num) (withCount := true) p hx r h0 I
    (fun h => by
      have e : specialOf (.str y t) "__call__" = pure Option.none := by unfold specialOf; exact look_str_call
      exact wpAny_of_eq e (h _ rfl)) (fun _ => ⟨y, t, rfl, hy, fun _ _ e => e⟩) (fun h => absurd rfl h) hall hok d
    (fun h' k f' v p' I' st R => by rw [if_pos rfl] at R; exact hQ h' k f' v p' I' st R) (id := "re.Pattern.subn") (fn := "subn")
  exact this

theorem Ev.subLam {o e2 : PySem.Expr} {params : Arguments} {body : PySem.Expr} {scope : Scope} {lp apos pos : Pos} {t : Tab} {cA : Addr} {y0 : Str} {x : Str} {g : List Int → Str → Prop} {all : List Str} {num : Nat} {τ : List Slot}
    (ho : Ev C (n + 2) F o σ (.val (.ref P)) σ₁) (p : PatOk C P code groups) (Lk : LamOk params scope y0) (ht : t ∈ C.T) (hd : ∀ t' ∈ C.T, t'.P = t.P → t' = t)
    (hl : lp.line = t.ln) (hcol : lp.col = t.col) (hq : F.qual ++ "<lambda>" = t.q) (hcode : F.code = .ref cA) (CH : CodeHd C.G cA t.P)
    (h2 : Ev C (n + 2) F e2 σ₁ (.str x) σ₂) (hx : x.length ≤ 16000000) (hg : ∀ sp z, g sp z → ∀ cd, Ev C n (lamFs scope t.q cd) body [.val (.mat x sp)] (.str z) τ)
    (d : Sub code groups x g 0 0 false num all) (hall : all.length ≤ 1000000) (hok : JoinOk ⟨#[]⟩ all = true)
    (hbase : ∀ env, attributeBase o "sub" env (eval o env) = eval o env := by intro _; rfl)
    (hfew : ∀ env, ((backTo pos (starEach [.Lambda params body scope lp, e2] env)).all (fun x => !x.1) && (backToKw pos (keywordEach [] env)).all (fun x => x.1.isSome)
      && decide (([.Lambda params body scope lp, e2] : List PySem.Expr).length + ([] : List Keyword).length + (if ([] : List Keyword).isEmpty then 0 else 1) < 30)) = true := by intro _; rfl)
    (hline : (apos.endLine == pos.line) = true := by rfl)
    (hst : ∀ env, starEach [.Lambda params body scope lp, e2] env = [(false, eval (.Lambda params body scope lp) env), (false, eval e2 env)] := by intro _; rfl) :
    Ev C (n + 2) F (.Call (.Attribute o "sub" apos) [.Lambda params body scope lp, e2] [] pos) σ (.str (Txt.join ⟨#[]⟩ all)) σ₂ := by
  intro A env s f X oa h₀ f₀ E Q r K h0 S hQ
  refine wpAny_Call_method_lateS (hbase env) (hfew env) hline (ho r K h0 S fun g1 k1 f1 u1 q1 l1 S1 R1 => ?_)
  obtain ⟨t1, t2⟩ := p.hasT (s := { s with heap := g1, toks := k1 }) S1.inv R1
  refine ⟨"re.Pattern", "re.Pattern.sub", miPat_sub.pa, miPat_sub.slot, miPat_sub.ty, t1, t2, ?_⟩
  rw [R1.val_inv] at t1 ⊢
  rw [hst]
  refine callWith_builtin rfl (evalArgs_plain (spliced_cons (wp_lambda (q := t.q) (pos := lp) Lk ht hd hl hcol hq hcode CH K q1 S1 fun g2 k2 f2 fa pm c' ctv oc vs tk p2 l2 S2 efa ec ed ev => spliced_cons (h2 r K p2 S2 fun g3 k3 f3 u3 p3 l3 S3 R3 => spliced_nil ?_))))
  obtain ⟨tx, rfl⟩ := R3.str_inv
  have hT : ({ s with heap := g3, toks := k3 } : Shared).TypeIs (.ref P) "re.Pattern" := (p.hasT (s := { s with heap := g3, toks := k3 }) S3.inv (.val _)).1
  have efa3 := l3 _ _ efa
  have hTf : ({ s with heap := g3, toks := k3 } : Shared).TypeIs (.ref fa) "function" := ⟨_, S3.inv.sub _ _ efa3, rfl⟩
  show wpAny _ A (PySem.call (.builtin "re.Pattern.sub") [.ref P, .ref fa, .str x tx]) Q E { s with heap := g3, toks := k3 }
  refine wpAny_call (codeAny_slot slot_re_Pattern_sub hT entry_re_Pattern_sub (args_re_Pattern_sub_3 _ _ _) ?_)
  have := wp_subCall (C := C) (n := n + 1) (P := P) (code := code) (groups := groups) (A := A) (E := E) (s := { s with heap := g3, toks := k3 }) (f := f3) (x := x) (t := tx) (g := g) (repl := .ref fa) (way := 1) (Q := Q) (all := all) (num := num) (withCount := false) p hx r p3 S3.inv
    (fun {Q' A' E'} h => by
      obtain ⟨cv, ecv⟩ := look_fn_call
      exact wpAny_specialOf hTf ecv (h _ rfl)) (fun h => absurd h (by decide)) (fun _ => ⟨rfl, fun sp z hz => lam_call Lk efa3 (l3 _ _ ec) ed ev (hg sp z hz)⟩) hall hok d
    (fun h' k f' v p' I' st R => by rw [if_neg (by decide)] at R; exact hQ h' k f' v p' (l1.trans (l2.trans (l3.trans (st.le S3.inv)))) (S3.step I' st) R) (id := "re.Pattern.sub") (fn := "sub")
  exact this
end
end Mine
end
section
set_option tactic.hygienic false
open PySem PySem.Calls PySem.W PyProof.Rows
namespace Mine

/-! a heap with some objects hidden -/
noncomputable def fre : Obj := { cls := .none, data := .freed }
noncomputable def hide (h : Heap) (L : List Addr) : Heap := { h with objs := h.objs.mapIdx fun i o => if i ∈ L then fre else o }
theorem hide_get (h : Heap) (L : List Addr) (a : Addr) : (hide h L).get? a = if a ∈ L then none else h.get? a := by
  unfold Heap.get? hide
  simp only [Array.getElem?_mapIdx]
  cases e : h.objs[a]? with
  | none => simp
  | some o =>
    simp only [Option.map_some]
    by_cases ha : a ∈ L
    · rw [if_pos ha, if_pos ha]; rfl
    · rw [if_neg ha, if_neg ha]
theorem hide_sub {h : Heap} {L : List Addr} {a : Addr} {o : Obj} (e : (hide h L).get? a = some o) : h.get? a = some o := by
  rw [hide_get] at e; split at e
  · cases e
  · exact e
theorem hide_of {h : Heap} {L : List Addr} (hL : ∀ P ∈ L, h.get? P = some (tabObj #[])) {a : Addr} {o : Obj} (e : h.get? a = some o) (ho : o ≠ tabObj #[]) : (hide h L).get? a = some o := by
  rw [hide_get, if_neg]; exact e
  intro ha; rw [hL a ha] at e; cases e; exact ho rfl
theorem hide_ns {h : Heap} {L : List Addr} (hL : ∀ P ∈ L, h.get? P = some (tabObj #[])) {a : Addr} {m} (n : h.Ns a m) : (hide h L).Ns a m := by
  obtain ⟨o, es, ep, ho, hd, r⟩ := n
  exact ⟨o, es, ep, hide_of hL ho (fun q => by rw [q] at hd; cases hd), hd, r⟩

/-- a def of the text, by its place -/
noncomputable def dr (i : Nat) : DefRec := match PySem.Challenge.pw_ik0077_01.main.body[i]? with
  | some (.FunctionDef n a b _ _ _ sc _ _ p) => ⟨n, a, b, sc, p⟩
  | _ => ⟨"", { posonlyargs := [], args := [], vararg := none, kwonlyargs := [], kw_defaults := [], kwarg := none, defaults := [] }, [], { kind := .function, names := [], isGenerator := false, isCoroutine := false, more := [] }, ⟨0, 0, 0, 0⟩⟩
noncomputable def fsOf (d : DefRec) (cd : Value) : Fs := { names := d.scope.names, fn := true, code := cd, qual := d.name ++ ".<locals>." }
noncomputable def okDef (d : DefRec) : Bool := decide (d.scope.names.map (·.1)).Nodup && (d.scope.names.all fun p => !(p.2 == .free)) && decide ((cellsFrom 0 d.scope.names []).map (·.1)).Nodup && (match d.scope.kind with | .function => true | _ => false) && !d.scope.isCoroutine && !d.scope.isGenerator

structure Df (C : Cx) (d : DefRec) : Prop where
  ex : ∃ (fa : Addr) (o : Obj) (pm cd doc : Value), C.mg d.name = some (.ref fa) ∧
    DefOk C (fsOf d cd) fa o (docDef d.name d.params d.body d.scope pm cd doc) d.body
theorem nfree_of {k : NameKind} (h : (!(k == NameKind.free)) = true) : k ≠ .free := by
  rintro rfl; cases h
theorem df_of {C : Cx} {d : DefRec} {mg mb : Str → Option Value} {h : Heap} {loose mean} {L : List Addr} (hL : ∀ P ∈ L, h.get? P = some (tabObj #[])) (hG : C.G = hide h L) (hm : C.mg = mg)
    (T : Top vw loose mean mg mb h) (e : d ∈ recsOf vw) (ok : okDef d = true) : Df C d := by
  obtain ⟨a, o, pm, cd, doc, h1, h2, h3, h4⟩ := T.fn d e
  unfold okDef at ok
  simp only [Bool.and_eq_true, decide_eq_true_eq, List.all_eq_true, Bool.not_eq_true'] at ok
  obtain ⟨⟨⟨⟨⟨k1, k2⟩, k3⟩, k4⟩, k5⟩, k6⟩ := ok
  refine ⟨a, o, pm, cd, doc, by rw [hm]; exact h1, { names := rfl, nd := k1, nofree := fun p hp => nfree_of (by rw [Bool.not_eq_true']; exact k2 p hp), ncell := k3, kind := ?_, globals := rfl, bltn := rfl, fn := rfl, code := rfl, qual := rfl, at_ := ?_, data := h3, rec_ := ?_, body := rfl, clo := rfl, co := k5, gen := k6 }⟩
  · show d.scope.kind = .function
    revert k4; cases d.scope.kind <;> simp
  · rw [hG]; exact hide_of hL h2 (fun q => by rw [q] at h3; cases h3)
  · obtain ⟨c, oc, vs, t, q1, q2, q3, q4⟩ := h4
    refine ⟨c, oc, vs, t, q1, ?_, q3, q4⟩
    rw [hG]; exact hide_of hL q2 (fun q => by rw [q] at q3; cases q3; cases q4)
end Mine
end
section
set_option tactic.hygienic false
open PySem PySem.Calls PySem.W PyProof.Rows
namespace Mine
noncomputable abbrev pw := PySem.Challenge.pw_ik0077_01
/-- a data literal as an abstract value -/
noncomputable def vOf : WData → V
  | .int i => .int i
  | .str x => .str x
  | .tuple l => .tup (vOfs l)
  | _ => .none
where vOfs : List WData → List V
  | [] => []
  | d :: r => vOf d :: vOfs r

/-- the table of codes of a def, as the lambda in it needs it -/
structure LamAt (C : Cx) (d : DefRec) (ln col : Nat) : Prop where
  ex : ∀ (fa : Addr) (o : Obj) (fd : FuncData), C.mg d.name = some (.ref fa) → C.G.get? fa = some o → o.data = .func fd → ∃ (c : Addr) (t : Tab), fd.code = .ref c ∧ t ∈ C.T ∧ CodeHd C.G c t.P ∧ t.ln = ln ∧ t.col = col ∧
    t.q = d.name ++ ".<locals>." ++ "<lambda>" ∧ ∀ t' ∈ C.T, t'.P = t.P → t' = t
noncomputable def bnames : List Str := ["isinstance", "str", "bytes", "type", "issubclass", "len", "enumerate", "range", "max"]
noncomputable def defIx : List Nat := [4, 9, 12, 21, 25, 26, 27, 28, 29, 31, 32, 53, 55, 56, 57, 58, 59, 60, 61, 62, 63, 64]
structure Gd (C : Cx) : Prop where
  prog : C.prog = pw
  defs : ∀ i ∈ defIx, Df C (dr i)
  blt : ∀ x ∈ bnames, C.mg x = none ∧ C.mb x = bootBuiltins x
  pats : ∀ r ∈ Flt.patsOf vw, ∃ P, C.mg r.name = some (.ref P) ∧ Flt.IsPattern C.G P r
  lam9 : LamAt C (dr 9) 29 49
  lam12 : LamAt C (dr 12) 60 50
  nb : NoneBooked C.G
  fm : ∃ v, C.mg "_filemode_table" = some v ∧ Rep C.G.get? (vOf fmT) v

noncomputable def okD : WData → Bool
  | .int _ => true
  | .str _ => true
  | .tuple l => okDs l
  | _ => false
where okDs : List WData → Bool
  | [] => true
  | d :: r => okD d && okDs r
mutual
theorem reads_rep {h : Heap} {L : List Addr} (hL : ∀ P ∈ L, h.get? P = some (tabObj #[])) : ∀ (d : WData) {v : Value} {as : List Addr}, ReadsLit h v d as → okD d = true → Rep (hide h L).get? (vOf d) v
  | .int i, v, as, r, _ => by obtain ⟨t, rfl, _⟩ := readsW_int_inv r; exact .int i t
  | .str i, v, as, r, _ => by obtain ⟨t, rfl, _⟩ := readsW_str_inv r; exact .str i t
  | .tuple l, v, as, r, ok => by
    cases r with
    | tuple e c dd ra =>
      exact .tup ⟨_, hide_of hL e (fun q => by rw [q] at dd; cases dd), c, _, dd⟩ (reads_repA hL l ra ok)
  | .none, v, as, r, ok => by cases ok
  | .bool _, v, as, r, ok => by cases ok
  | .float _, v, as, r, ok => by cases ok
  | .bytes _, v, as, r, ok => by cases ok
  | .bytearray _, v, as, r, ok => by cases ok
  | .list _, v, as, r, ok => by cases ok
  | .dict _, v, as, r, ok => by cases ok
  | .set _, v, as, r, ok => by cases ok
  | .frozenset _, v, as, r, ok => by cases ok
  | .obj _ _, v, as, r, ok => by cases ok
theorem reads_repA {h : Heap} {L : List Addr} (hL : ∀ P ∈ L, h.get? P = some (tabObj #[])) : ∀ (l : List WData) {vs : List Value} {as : List Addr}, ReadsAllW [] (fun _ => none) h vs l as → okD.okDs l = true → RepAll (hide h L).get? (vOf.vOfs l) vs
  | [], vs, as, r, _ => by obtain ⟨rfl, _⟩ := readsAllW_nil_inv r; exact .nil
  | d :: l, vs, as, r, ok => by
    obtain ⟨v, vs', a1, a2, rfl, _, r1, r2⟩ := readsAllW_cons_inv r
    have ok' := Bool.and_eq_true_iff.mp ok
    exact .cons (reads_rep hL d r1 ok'.1) (reads_repA hL l r2 ok'.2)
end
end Mine
end
section
set_option tactic.hygienic false
open PySem PySem.Calls PySem.W PyProof.Rows
namespace Mine
theorem tab_of {d : DefRec} {s₀ mg mb} {h : Heap} (T : Top vw (looseW vw loL) (ExcName.means s₀) mg mb h) (hd : d ∈ recsOf vw) {P : Addr} (e : tabAt mg h d.name = some P) :
    ∃ (fa : Addr) (o : Obj) (fd : FuncData) (c : Addr), mg d.name = some (.ref fa) ∧ h.get? fa = some o ∧ o.data = .func fd ∧ fd.code = .ref c ∧ CodeHd h c P ∧ h.get? P = some (tabObj #[]) := by
  obtain ⟨a, o, fd, c, P', h1, h2, h3, h4, h5, h6⟩ := T.tab d hd
  have : P = P' := by
    obtain ⟨⟨oc, vs, q1, q2, q3, q4⟩, _⟩ := h6
    unfold tabAt at e
    simp only [h1, h2, h3, h4, q1, q3, q4, Option.bind_some, asRef, codeOf, tabIn] at e
    exact (Option.some.inj e).symm
  subst this
  exact ⟨a, o, fd, c, h1, h2, h3, h4, CodeHd.of h5 h6, h6.2⟩
theorem codeHd_hide {h : Heap} {L : List Addr} (hL : ∀ P ∈ L, h.get? P = some (tabObj #[])) {c P : Addr} (x : CodeHd h c P) : CodeHd (hide h L) c P := by
  obtain ⟨o, vs, a, b, d, e, f, g, k, h1, h2, h3, r⟩ := x
  exact ⟨o, vs, a, b, d, e, f, g, k, hide_of hL h1 (fun q => by rw [q] at h2; cases h2), h2, h3, r⟩
theorem codeHd_table {h : Heap} {c P : Addr} (x : CodeHd h c P) : isCodeTable h P := by
  obtain ⟨o, vs, a, b, d, e, f, g, k, h1, h2, h3, h4, r⟩ := x
  exact ⟨c, o, vs, h1, h2, h3, h4⟩
theorem dr_all : (defIx.map fun i => (recsOf vw).find? (fun e => e.name == (dr i).name)) = defIx.map fun i => some (dr i) := by kernel_rfl
theorem dr_ok : (defIx.all fun i => okDef (dr i)) = true := by decide +kernel
theorem rec9 : (recsOf vw).find? (fun e => e.name == nmS) = some (dr 9) := by kernel_rfl
theorem rec12 : (recsOf vw).find? (fun e => e.name == nmJ) = some (dr 12) := by kernel_rfl
theorem name9 : (dr 9).name = nmS := by kernel_rfl
theorem name12 : (dr 12).name = nmJ := by kernel_rfl
theorem blt_ok : (bnames.all fun x => !startupNames.contains x && !(looseW vw (looseW vw loL)).contains x && !(looseW vw loL).contains x && !((recsOf vw).map (·.name)).contains x && !((litsOf vw).map (·.1)).contains x && !((clssOf vw (looseW vw loL)).map (·.name)).contains x && !(x == "__name__")) = true := by decide +kernel
theorem fm_ok : okD fmT = true := by decide +kernel

theorem lamAt_of {C : Cx} {d : DefRec} {s₀ mg mb} {h : Heap} {L : List Addr} (hL : ∀ P ∈ L, h.get? P = some (tabObj #[])) (hG : C.G = hide h L) (hm : C.mg = mg) (T : Top vw (looseW vw loL) (ExcName.means s₀) mg mb h) (hd : d ∈ recsOf vw) {P : Addr} (e : tabAt mg h d.name = some P)
    {t : Tab} (ht : t ∈ C.T) (hP : t.P = P) (hq : t.q = d.name ++ ".<locals>." ++ "<lambda>") (hu : ∀ t' ∈ C.T, t'.P = t.P → t' = t) : LamAt C d t.ln t.col := by
  obtain ⟨fa, o, fd, c, h1, h2, h3, h4, h5, h6⟩ := tab_of T hd e
  refine ⟨fun fa' o' fd' e1 e2 e3 => ?_⟩
  rw [hm, h1] at e1; cases e1
  rw [hG] at e2
  have e2' := hide_sub e2
  rw [h2] at e2'; cases e2'
  rw [h3] at e3; cases e3
  refine ⟨c, t, h4, ht, ?_, rfl, rfl, hq, hu⟩
  rw [hG, hP]; exact codeHd_hide hL h5

theorem gd_of {w : World} {s₀ : Shared} {mg mb : Str → Option Value} {h : Heap} {R : WRecords} (G : Ground vw loL R XPm w s₀ mg mb h) :
    ∃ C : Cx, C.w = w ∧ C.mg = mg ∧ Gd C ∧ Inv C C.G.get? h ∧ (∀ t ∈ C.T, h.get? t.P = some (tabObj #[]) ∧ isCodeTable h t.P) ∧ (∀ a o, h.get? a = some o → (∀ t ∈ C.T, a ≠ t.P) → C.G.get? a = some o) := by
  obtain ⟨⟨hX, hLo⟩, ⟨P, P', hp, hp', hne⟩, hnb⟩ := G.X
  have m9 : dr 9 ∈ recsOf vw := List.mem_of_find?_eq_some rec9
  have m12 : dr 12 ∈ recsOf vw := List.mem_of_find?_eq_some rec12
  have T := G.T
  rw [← name9] at hp
  rw [← name12] at hp'
  obtain ⟨fa, o, fd, c, h1, h2, h3, h4, h5, h6⟩ := tab_of T m9 hp
  obtain ⟨fa', o', fd', c', h1', h2', h3', h4', h5', h6'⟩ := tab_of T m12 hp'
  have hL : ∀ Q ∈ [P, P'], h.get? Q = some (tabObj #[]) := by
    intro Q hQ
    rcases List.mem_cons.mp hQ with rfl | hQ
    · exact h6
    · rw [List.mem_singleton.mp hQ]; exact h6'
  obtain ⟨bm, ob, b1, b2, b3, b4, b5, b6⟩ := T.bmain
  obtain ⟨og, eg, ng, g1, g2, g3⟩ := T.g
  let t1 : Tab := ⟨P, 29, 49, (dr 9).name ++ ".<locals>." ++ "<lambda>"⟩
  let t2 : Tab := ⟨P', 60, 50, (dr 12).name ++ ".<locals>." ++ "<lambda>"⟩
  have tP : ∀ t ∈ [t1, t2], h.get? t.P = some (tabObj #[]) := by
    intro t ht
    rcases List.mem_cons.mp ht with rfl | ht
    · exact h6
    · rw [List.mem_singleton.mp ht]; exact h6'
  let C : Cx := {
    prog := pw, w := w, G := hide h [P, P'], T := [t1, t2], mg := mg, mb := mb, glob := hide_ns hL T.g, bltn := hide_ns hL T.b,
    nolimit := (let ⟨mc, n, e⟩ := T.nolimit; ⟨mc, hide_ns hL n, e⟩),
    noT := fun t ht q => (by have := tP t ht; rw [← q, g1] at this; cases this; cases g2)
    bat := fun t ht => ⟨bm, ob, b1, b2, (fun q => by rw [q, g1] at b3; cases b3; rw [g2] at b6; cases b6), (fun q => by have := tP t ht; rw [← q, b3] at this; cases this; cases b6),
      hide_of hL b3 (fun q => by rw [q] at b6; cases b6), b4, b5, b6⟩ }
  have hu : ∀ t ∈ [t1, t2], ∀ t' ∈ [t1, t2], t'.P = t.P → t' = t := by
    intro t ht t' ht' q
    rcases List.mem_cons.mp ht with rfl | ht <;> rcases List.mem_cons.mp ht' with rfl | ht'
    · rfl
    · rw [List.mem_singleton.mp ht'] at q; exact absurd q.symm hne
    · rw [List.mem_singleton.mp ht] at q; exact absurd q hne
    · rw [List.mem_singleton.mp ht, List.mem_singleton.mp ht']
  have tC : ∀ t ∈ [t1, t2], isCodeTable h t.P := by
    intro t ht
    rcases List.mem_cons.mp ht with rfl | ht
    · exact codeHd_table h5
    · rw [List.mem_singleton.mp ht]; exact codeHd_table h5'
  refine ⟨C, rfl, rfl, ?_, ?_, fun t ht => ⟨tP t ht, tC t ht⟩, ?_⟩
  · refine { prog := rfl, defs := fun i hi => df_of hL rfl rfl T (List.mem_of_find?_eq_some (List.map_inj_left.mp dr_all i hi)) (List.all_eq_true.mp dr_ok i hi), blt := fun x hx => ?_, pats := fun r hr => ?_, lam9 := ?_, lam12 := ?_, nb := (let ⟨mc, n, e⟩ := hnb; ⟨mc, hide_ns hL n, e⟩), fm := ?_ }
    · have := List.all_eq_true.mp blt_ok x hx
      simp only [Bool.and_eq_true, Bool.not_eq_true', List.contains_eq_mem, decide_eq_false_iff_not, beq_eq_false_iff_ne] at this
      obtain ⟨⟨⟨⟨⟨⟨k1, k2⟩, k3⟩, k4⟩, k5⟩, k6⟩, k7⟩ := this
      exact ⟨T.free x k1 k3 k4 k5 k6, T.builtins x k7⟩
    · obtain ⟨a, e, fs, Tt, ws, n, q1, q2, q3, q4, q5, q6⟩ := hX.pats r hr
      exact ⟨a, e, fs, Tt, ws, n, hide_of hL q1 (by intro q; cases q), q2, q3, q4, hide_of hL q5 (by intro q; cases q), q6⟩
    · exact lamAt_of (t := t1) (P := P) hL rfl rfl T m9 hp (List.mem_cons_self ..) rfl rfl (hu t1 (List.mem_cons_self ..))
    · exact lamAt_of (t := t2) (P := P') hL rfl rfl T m12 hp' (List.mem_cons_of_mem _ (List.mem_cons_self ..)) rfl rfl (hu t2 (List.mem_cons_of_mem _ (List.mem_cons_self ..)))
    · obtain ⟨v, e, r⟩ := hLo.val ("_filemode_table", fmT) (List.mem_cons_self ..)
      exact ⟨v, e, reads_rep hL _ r fm_ok⟩
  · refine ⟨fun a o e => hide_sub e, fun a o e => e, fun t ht => ⟨?_, .inl (tP t ht)⟩⟩
    show (hide h [P, P']).get? t.P = none
    rw [hide_get, if_pos]
    rcases List.mem_cons.mp ht with rfl | ht
    · exact List.mem_cons_self ..
    · rw [List.mem_singleton.mp ht]; exact List.mem_cons_of_mem _ (List.mem_cons_self ..)
  · intro a o e ne
    show (hide h [P, P']).get? a = some o
    rw [hide_get, if_neg, e]
    intro ha
    rcases List.mem_cons.mp ha with rfl | ha
    · exact ne t1 (List.mem_cons_self ..) rfl
    · exact ne t2 (List.mem_cons_of_mem _ (List.mem_cons_self ..)) (List.mem_singleton.mp ha)
end Mine
end
section
set_option tactic.hygienic false
open PySem PySem.Calls PySem.W PyProof.Rows
namespace Mine
/-- a def of the text, called by its name -/
noncomputable def PuG (C : Cx) (x : Str) (n : Nat) (args : List V) (res : V) : Prop :=
  ∃ (fa : Addr) (o : Obj) (fd : FuncData), C.mg x = some (.ref fa) ∧ C.G.get? fa = some o ∧ o.data = .func fd ∧ Pu C n (fun us => PySem.call (.ref fa) us) args res
theorem PuG.le {C x n m args res} (p : PuG C x m args res) (h : m ≤ n) : PuG C x n args res :=
  let ⟨fa, o, fd, a, b, c, d⟩ := p; ⟨fa, o, fd, a, b, c, d.le h⟩
noncomputable def hkOk (d : DefRec) (k : Nat) : Bool := (d.scope.names.take k).all fun p => p.2 == .local || p.2 == .cell
theorem hk_of {d : DefRec} {k : Nat} (h : hkOk d k = true) : ∀ (i : Nat) (x : Str) (q : NameKind), i < k → d.scope.names[i]? = some (x, q) → q = .local ∨ q = .cell := by
  intro i x q hi hx
  have hm : (x, q) ∈ d.scope.names.take k := by
    refine List.mem_of_getElem? (i := i) ?_
    rw [List.getElem?_take, if_pos hi, hx]
  have := List.all_eq_true.mp h _ hm
  revert this
  cases q <;> simp
noncomputable def okCall (d : DefRec) (k : Nat) : Bool := decide (k ≤ d.scope.names.length) && hkOk d k
theorem okCall.le {d k} (h : okCall d k = true) : k ≤ d.scope.names.length := of_decide_eq_true (Bool.and_eq_true_iff.mp h).1
theorem okCall.hk {d k} (h : okCall d k = true) : hkOk d k = true := (Bool.and_eq_true_iff.mp h).2
noncomputable def BindOk (d : DefRec) (k : Nat) : Prop := ∀ (pm cd doc : Value) (us : List Value), us.length = k → bindArgs (docDef d.name d.params d.body d.scope pm cd doc) ⟨us, []⟩ = pure ((d.scope.names.map (·.1)).zip us)
noncomputable def bvals : List Value := [.builtin "isinstance", .type "str", .type "bytes", .type "type", .builtin "issubclass", .builtin "len", .type "enumerate", .type "range", .builtin "max"]
theorem bvals_ok : bnames.map bootBuiltins = bvals.map some := by kernel_rfl
theorem bv_at (j : Nat) {x : Str} {fv : Value} (hx : bnames[j]? = some x) (hv : bvals[j]? = some fv) : x ∈ bnames ∧ bootBuiltins x = some fv := by
  refine ⟨List.mem_of_getElem? hx, ?_⟩
  have := congrArg (fun l => l[j]?) bvals_ok
  simp only [List.getElem?_map, hx, hv, Option.map_some] at this
  exact Option.some.inj this
section
variable {C : Cx} {n : Nat} {F : Fs} {σ σ' σ₁ σ₂ σ₃ : List Slot} {v a b c : V}
noncomputable def fs (N : List (Str × NameKind)) (q : Str) (cd : Value) : Fs := { names := N, fn := true, code := cd, qual := q }
theorem PuG.of_def {d : DefRec} {args : List V} {res : V} {N : List (Str × NameKind)} (k : Nat) (D : Df C d) (hc : okCall d k = true) (hb : BindOk d k) (hN : d.scope.names = N)
    (hbody : ∀ cd q, ∃ σ', Ex C n (fs N q cd) d.body (args.map .val ++ List.replicate (N.length - k) .unset) (.ret res) σ') (hl : args.length = k := by rfl) : PuG C d.name (n + 1) args res := by
  obtain ⟨fa, o, pm, cd, doc, h1, h2⟩ := D.ex
  subst hl
  obtain ⟨σ', hx⟩ := hbody cd (d.name ++ ".<locals>.")
  subst hN
  exact ⟨fa, o, _, h1, h2.at_, h2.data, Pu.of_def h2 (okCall.le hc) (hk_of (okCall.hk hc)) (fun us hu => hb pm cd doc us hu) hx⟩
theorem PuG.of_defL {d : DefRec} {ln col : Nat} {args : List V} {res : V} {N : List (Str × NameKind)} (k : Nat) (D : Df C d) (La : LamAt C d ln col) (hc : okCall d k = true) (hb : BindOk d k) (hN : d.scope.names = N)
    (hbody : ∀ cA t, t ∈ C.T → CodeHd C.G cA t.P → t.ln = ln → t.col = col → t.q = d.name ++ ".<locals>." ++ "<lambda>" → (∀ t' ∈ C.T, t'.P = t.P → t' = t) → ∃ σ', Ex C n (fs N (d.name ++ ".<locals>.") (.ref cA)) d.body (args.map .val ++ List.replicate (N.length - k) .unset) (.ret res) σ') (hl : args.length = k := by rfl) : PuG C d.name (n + 1) args res := by
  subst hl
  subst hN
  obtain ⟨fa, o, pm, cd, doc, h1, h2⟩ := D.ex
  obtain ⟨cA, t, q1, q2, q3, q4, q5, q6, q7⟩ := La.ex fa o _ h1 h2.at_ h2.data
  have : cd = .ref cA := q1
  subst this
  obtain ⟨σ', hx⟩ := hbody cA t q2 q3 q4 q5 q6 q7
  exact ⟨fa, o, _, h1, h2.at_, h2.data, Pu.of_def h2 (okCall.le hc) (hk_of (okCall.hk hc)) (fun us hu => hb pm _ doc us hu) hx⟩
noncomputable def BindOkV (d : DefRec) (k m : Nat) : Prop := ∀ (pm cd doc : Value) (us ws : List Value), us.length = k → ws.length = m → bindArgs (docDef d.name d.params d.body d.scope pm cd doc) ⟨us ++ ws, []⟩ = (do let t ← newTuple ws; pure ((d.scope.names.map (·.1)).zip (us ++ [t])))
theorem PuG.of_defV {d : DefRec} {args more : List V} {res : V} {N : List (Str × NameKind)} (k : Nat) (D : Df C d) (hc : okCall d (k + 1) = true) (hl : args.length = k) (hm : more.length ≤ 1000000) (hb : BindOkV d k more.length) (hN : d.scope.names = N)
    (hbody : ∀ cd q, ∃ σ', Ex C n (fs N q cd) d.body ((args ++ [V.tup more]).map Slot.val ++ List.replicate (N.length - (k + 1)) .unset) (.ret res) σ') : PuG C d.name (n + 1) (args ++ more) res := by
  obtain ⟨fa, o, pm, cd, doc, h1, h2⟩ := D.ex
  obtain ⟨σ', hx⟩ := hbody cd (d.name ++ ".<locals>.")
  subst hl
  subst hN
  have hx' : Ex C n (fsOf d cd) d.body (initSlots (fsOf d cd).names (args ++ [.tup more])) (.ret res) σ' := by
    unfold initSlots; rw [List.length_append]; exact hx
  exact ⟨fa, o, _, h1, h2.at_, h2.data, Pu.of_defV h2 (okCall.le hc) (hk_of (okCall.hk hc)) hm (fun us ws hu hw => hb pm cd doc us ws hu hw) hx'⟩

/-- a call of a def of the text by its name -/
theorem Ev.callG (i : Nat) {x : Str} {np pos : Pos} {e₀ : PySem.Expr} {args : List PySem.Expr} {vs : List V} (hi : F.names[i]? = some (x, .globalImplicit)) (ha : Evs C n F (e₀ :: args) σ vs σ₂) (hp : PuG C x n vs v) (h2 : (x == ("__debug__" : Str)) = false := by decide)
    (he : ∀ env, eval (.Call (.Name x np) (e₀ :: args) [] pos) env = (do callWith pos (← eval (.Name x np) env) [] (backTo pos (starEach (e₀ :: args) env)) []) := by intro _; rfl)
    (hs : ∀ env, starEach (e₀ :: args) env = (false, eval e₀ env) :: starEach args env := by intro _; rfl) : Ev C n F (.Call (.Name x np) (e₀ :: args) [] pos) σ v σ₂ := by
  obtain ⟨fa, o, fd, h1, h3, h4, h5⟩ := hp
  exact Ev.callF (Ev.glob i hi h1 h2) ha h5 h3 h4 he hs
/-- a call of a built-in function or type by its name -/
theorem Ev.callN (i : Nat) {x : Str} {np pos : Pos} {e₀ : PySem.Expr} {args : List PySem.Expr} {vs : List V} {fv : Value} (j : Nat) (g : Gd C) (hi : F.names[i]? = some (x, .globalImplicit)) (hx : bnames[j]? = some x) (hb : bvals[j]? = some fv) (ha : Evs C n F (e₀ :: args) σ vs σ₂) (hp : Pu C n (fun us => PySem.call fv us) vs v)
    (hfv : (∃ id, fv = .builtin id) ∨ ∃ id, fv = .type id) (h2 : (x == ("__debug__" : Str)) = false := by decide)
    (he : ∀ env, eval (.Call (.Name x np) (e₀ :: args) [] pos) env = (do callWith pos (← eval (.Name x np) env) [] (backTo pos (starEach (e₀ :: args) env)) []) := by intro _; rfl)
    (hs : ∀ env, starEach (e₀ :: args) env = (false, eval e₀ env) :: starEach args env := by intro _; rfl)
    (hpl : ∀ env, (backTo pos (starEach (e₀ :: args) env)).any (·.1) = false := by intro _; rfl) : Ev C n F (.Call (.Name x np) (e₀ :: args) [] pos) σ v σ₂ :=
  Ev.callB (Ev.bltn i hi (g.blt x (bv_at j hx hb).1).1 ((g.blt x (bv_at j hx hb).1).2.trans (bv_at j hx hb).2) h2) ha hp hfv he hs hpl
theorem Ev.bltnN (i j : Nat) {x : Str} {pos : Pos} {fv : Value} (g : Gd C) (hi : F.names[i]? = some (x, .globalImplicit)) (hx : bnames[j]? = some x) (hb : bvals[j]? = some fv) (h2 : (x == ("__debug__" : Str)) = false := by decide) : Ev C n F (.Name x pos) σ (.val fv) σ :=
  Ev.bltn i hi (g.blt x (bv_at j hx hb).1).1 ((g.blt x (bv_at j hx hb).1).2.trans (bv_at j hx hb).2) h2
end
section
variable {prog : Program} {w : World} {A : Around} {E : Value → Shared → Prop} {s : Shared} {env : Env}
theorem sub_str {value : PySem.Expr} {lower upper : Option PySem.Expr} {p pos : Pos} {Q : Value → Shared → Prop}
    (h : wpAny (model prog w) A (eval value env) (fun o s₁ => wpAny (model prog w) A (evalPart lower env) (fun vl s₂ => wpAny (model prog w) A (evalPart upper env) (fun vu s₃ =>
      ∃ x t l u, o = .str x t ∧ vl = partValue l ∧ vu = partValue u ∧
        (sliceMade x t l u none).post Q { s₃ with heap := s₃.heap.push { cls := .type "slice", data := .fields #[vl, vu, .none] } }) E s₂) E s₁) E s) :
    wpAny (model prog w) A (eval (.Subscript value (.Slice lower upper none p) pos) env) Q E s := by
  refine Subscript_ (wpAny_mono h (fun o s₁ h₁ => wpAny_Slice (wpAny_mono h₁ (fun vl s₂ h₂ => wpAny_mono h₂ (fun vu s₃ h₃ => ?_) fun _ _ e => e) fun _ _ e => e)) fun _ _ e => e)
  obtain ⟨x, t, l, u, rfl, rfl, rfl, hQ⟩ := h₃
  rw [evalPart_none]
  exact wpAny_pure (tail_any (typeIs_str _ x t) F.slot_str_getitem.lookup (wpAny_getItem_str_slice (l := l) (u := u) (st := none) ⟨_, Heap.get?_push_size _ rfl, rfl, rfl⟩ rfl hQ) rfl)
theorem sub_list {value : PySem.Expr} {lower upper : Option PySem.Expr} {p pos : Pos} {Q : Value → Shared → Prop}
    (h : wpAny (model prog w) A (eval value env) (fun o s₁ => wpAny (model prog w) A (evalPart lower env) (fun vl s₂ => wpAny (model prog w) A (evalPart upper env) (fun vu s₃ =>
      ∃ l items lo hi, o = .ref l ∧ s₃.heap.IsList l items ∧ items.size ≤ sizeLine ∧ IsPart vl lo ∧ IsPart vu hi ∧
        Q (.ref (s₃.heap.objs.size + 1)) { s₃ with heap := (s₃.heap.push { cls := .type "slice", data := .fields #[vl, vu, .none] }).push { cls := .type "list", data := .seq (slicePick items lo hi none) } }) E s₂) E s₁) E s) :
    wpAny (model prog w) A (eval (.Subscript value (.Slice lower upper none p) pos) env) Q E s := by
  refine Subscript_ (wpAny_mono h (fun o s₁ h₁ => wpAny_Slice (wpAny_mono h₁ (fun vl s₂ h₂ => wpAny_mono h₂ (fun vu s₃ h₃ => ?_) fun _ _ e => e) fun _ _ e => e)) fun _ _ e => e)
  obtain ⟨l, items, lo, hi, rfl, hl, hsz, pl, pu, hQ⟩ := h₃
  rw [evalPart_none]
  refine wpAny_pure (tail_any (hl.push _).typeIs list_getitem_lookup (wpAny_getItem_list_slice (hl.push _) (Heap.IsSliceOf.new ..) pl pu .none (by simp) ?_ hsz) rfl)
  rw [Heap.size_push]
  exact hQ
end
section
variable {C : Cx} {n : Nat} {F : Fs} {σ σ' σ₁ σ₂ σ₃ : List Slot} {v a b c : V}
theorem Ev.slSG {value : PySem.Expr} {lo hi : Option PySem.Expr} {p pos : Pos} {l : List Nat} {i j : Option Int} (hv : Ev C n F value σ (.str (S l)) σ₁) (h1 : Evp C n F lo σ₁ i σ₂) (h2 : Evp C n F hi σ₂ j σ₃)
    (hi0 : ∀ k, i = Option.some k → 0 ≤ k) (hj0 : ∀ k, j = Option.some k → 0 ≤ k) (hsz : l.length ≤ 16000000) :
    Ev C n F (.Subscript value (.Slice lo hi Option.none p) pos) σ (.str (S (cut l i j))) σ₃ := by
  intro A env s f X oa h₀ f₀ E Q r K h0 Z hQ
  refine sub_str (hv r K h0 Z fun g1 k1 f1 u1 p1 l1 S1 R1 => h1 r K p1 S1 fun g2 k2 f2 u2 p2 l2 S2 R2 => h2 r K p2 S2 fun g3 k3 f3 u3 p3 l3 S3 R3 => ?_)
  obtain ⟨t, rfl⟩ := R1.str_inv
  obtain ⟨ll, rfl, rfl⟩ := IsPart.inv R2
  obtain ⟨uu, rfl, rfl⟩ := IsPart.inv R3
  refine ⟨_, t, ll, uu, rfl, rfl, rfl, sliceMade_post hi0 hj0 hsz p3 fun t' k p4 => ?_⟩
  have st := Step.pushU C.T f3 g3 { cls := .type "slice", data := .fields #[partValue ll, partValue uu, Value.none] }
  exact hQ _ _ _ _ p4 (l1.trans (l2.trans l3)) (S3.step (S3.inv.pushU _) st) (.str _ _)

theorem Ev.slLG {value : PySem.Expr} {lo hi : Option PySem.Expr} {p pos : Pos} {l : List V} {i j : Option Int} (hv : Ev C n F value σ (.list l) σ₁) (h1 : Evp C n F lo σ₁ i σ₂) (h2 : Evp C n F hi σ₂ j σ₃)
    (hi0 : ∀ k, i = Option.some k → 0 ≤ k) (hj0 : ∀ k, j = Option.some k → 0 ≤ k) (hsz : l.length ≤ 16000000) :
    Ev C n F (.Subscript value (.Slice lo hi Option.none p) pos) σ (.list (cut l i j)) σ₃ := by
  intro A env s f X oa h₀ f₀ E Q r K h0 Z hQ
  refine sub_list (hv r K h0 Z fun g1 k1 f1 u1 p1 l1 S1 R1 => h1 r K p1 S1 fun g2 k2 f2 u2 p2 l2 S2 R2 => h2 r K p2 S2 fun g3 k3 f3 u3 p3 l3 S3 R3 => ?_)
  obtain ⟨a, vs, rfl, fl, RA⟩ := R1.list_inv
  have fl3 := FList.mono (l2.trans l3) fl
  have RA3 := RepAll.mono (l2.trans l3) RA
  refine ⟨a, vs.toArray, i, j, rfl, fl3.is S3.inv, by rw [List.size_toArray, ← RA.length, sizeLine_eq]; omega, R2, R3, ?_⟩
  have e : slicePick vs.toArray i j Option.none = (cut vs i j).toArray := by
    rw [slicePick_plain, cut_clip]
    have hc : ∀ q : Option Int, (∀ k, q = Option.some k → 0 ≤ k) → ∀ d, q.elim (min d vs.length) (clipAt vs.toArray.size) = min (q.elim d Int.toNat) vs.length := fun q hq d => by
      cases q with
      | none => rfl
      | some k =>
        show clipAt vs.toArray.size k = min k.toNat vs.length
        unfold clipAt
        rw [clip_nn (hq k rfl)]; rfl
    have e1 := hc i hi0 0
    have e2 := hc j hj0 vs.length
    simp only [Nat.zero_min, Nat.min_self] at e1 e2
    rw [e1]
    have e3 : vs.toArray.size = vs.length := List.size_toArray ..
    rw [e3] at e2 ⊢
    rw [e2]
  rw [e]
  have I1 := S3.inv.pushU { cls := .type "slice", data := .fields #[u2, u3, Value.none] }
  have st1 := Step.pushU C.T f3 g3 { cls := .type "slice", data := .fields #[u2, u3, Value.none] }
  have I2 := I1.push (o := { cls := .type "list", data := .seq (cut vs i j).toArray }) rfl
  have st2 := Step.push C.T f3 (g3.push { cls := .type "slice", data := .fields #[u2, u3, Value.none] }) { cls := .type "list", data := .seq (cut vs i j).toArray }
  have st := st1.trans st2
  have le := st.le S3.inv
  refine hQ _ k3 (fset f3 (g3.push _).objs.size _) (.ref (g3.objs.size + 1)) p3 (l1.trans (l2.trans (l3.trans le))) (S3.step I2 st) (Rep.newList (Heap.size_push ..) (RepAll.mono le (RA3.cut i j)))
end
theorem Gd.df {C : Cx} (g : Gd C) (i : Nat) (h : i ∈ defIx := by decide) : Df C (dr i) := g.defs i h
noncomputable def nth (l : List Stmt) (i : Nat) : Stmt := l.getD i (.Pass ⟨0, 0, 0, 0⟩)
noncomputable def sBody : Stmt → List Stmt
  | .For _ _ b _ _ => b
  | .While _ b _ _ => b
  | .If _ b _ _ => b
  | .Try b _ _ _ _ => b
  | _ => []
noncomputable def sElse : Stmt → List Stmt
  | .For _ _ _ b _ => b
  | .While _ _ b _ => b
  | .If _ _ b _ => b
  | _ => []
noncomputable def sTarget : Stmt → PySem.Expr
  | .For t _ _ _ _ => t
  | _ => .Name "" ⟨0, 0, 0, 0⟩
noncomputable def sTest : Stmt → PySem.Expr
  | .While t _ _ _ => t
  | .If t _ _ _ => t
  | _ => .Name "" ⟨0, 0, 0, 0⟩
end Mine
end
section
set_option tactic.hygienic false
open PySem PySem.Calls PySem.W PyProof.Rows
namespace Mine
open PySem.Builtin PySem.Builtin.Str

theorem S_toList (l : List Nat) : (S l).cps.toList = l := rfl
theorem S_of (x : Str) : x = S x.cps.toList := by cases x; rfl
theorem at_one (l : List Nat) (c i : Nat) : StrLaws.At (S l) (S [c]) (S l).length i ↔ l[i]? = some c := StrLaws.subAt_one (S l) c i
theorem tx_start (l : List Nat) (c : Nat) : Txt.startswith (S l) (S [c]) = (l.head? == some c) := by
  have h := at_one l c 0
  unfold StrLaws.At at h
  unfold Txt.startswith
  rw [Bool.eq_iff_iff, Bool.and_eq_true, decide_eq_true_eq, h, beq_iff_eq]
  cases l <;> simp
theorem tx_end (l : List Nat) (c : Nat) : Txt.endswith (S l) (S [c]) = (l.getLast? == some c) := by
  have h := at_one l c (l.length - 1)
  unfold StrLaws.At at h
  unfold Txt.endswith
  rw [Bool.eq_iff_iff, Bool.and_eq_true, decide_eq_true_eq, beq_iff_eq, List.getLast?_eq_getElem?]
  rw [S_length] at h ⊢
  show (0 + 1 ≤ l.length ∧ subAt (S l) (S [c]) (l.length - 1) = true) ↔ _
  have h' : (l.length - 1 + 1 ≤ l.length ∧ subAt (S l) (S [c]) (l.length - 1) = true) ↔ l[l.length - 1]? = some c := h
  rw [← h']
  constructor
  · rintro ⟨a, b⟩; exact ⟨by omega, b⟩
  · rintro ⟨a, b⟩; exact ⟨by omega, b⟩
theorem tx_rfind {l a b : List Nat} {c : Nat} (e : l = a ++ c :: b) (h : c ∉ b) : Txt.rfind (S l) (S [c]) = (a.length : Int) := by
  unfold Txt.rfind
  have h0 : l[a.length]? = some c := by rw [e]; simp
  rcases StrLaws.last_spec (S l) (S [c]) with ⟨_, q⟩ | ⟨i, q1, q2, q3⟩
  · exact absurd ((at_one l c a.length).mpr h0) (q _)
  · rw [q1]
    have hi := (at_one l c i).mp q2
    rcases Nat.lt_trichotomy i a.length with hlt | heq | hgt
    · exact absurd ((at_one l c a.length).mpr h0) (q3 _ hlt)
    · rw [heq]
    · rw [e, List.getElem?_append_right (by omega)] at hi
      obtain ⟨k, hk⟩ : ∃ k, i - a.length = k + 1 := ⟨i - a.length - 1, by omega⟩
      rw [hk] at hi
      exact absurd (List.mem_of_getElem? (by simpa using hi)) h
theorem tx_contains (l : List Nat) (c : Nat) : Txt.contains (S l) (S [c]) = decide (c ∈ l) := StrLaws.found_one (S l) c

/-- gluing -/
noncomputable def interc (z : List Nat) : List (List Nat) → List Nat
  | [] => []
  | [a] => a
  | a :: b :: r => a ++ z ++ interc z (b :: r)
theorem str_join (z : List Nat) : ∀ ls : List (List Nat), Str.join (S z) (ls.map S) = S (interc z ls)
  | [] => rfl
  | [a] => rfl
  | a :: b :: r => by
    have ih := str_join z (b :: r)
    show S a ++ S z ++ Str.join (S z) (S b :: r.map S) = _
    rw [List.map_cons] at ih
    rw [ih, S_append, S_append]; rfl
theorem tx_join (z : List Nat) (ls : List (List Nat)) : Txt.join (S z) (ls.map S) = S (interc z ls) := by
  unfold Txt.join; rw [StrLaws.glued_eq_join]; exact str_join z ls

noncomputable def splitC (c : Nat) : List Nat → List (List Nat)
  | [] => [[]]
  | x :: r => if x = c then [] :: splitC c r else match splitC c r with
    | p :: ps => (x :: p) :: ps
    | [] => [[x]]
theorem splitC_ne (c : Nat) : ∀ l, splitC c l ≠ []
  | [] => by unfold splitC; exact List.cons_ne_nil _ _
  | x :: r => by
    unfold splitC
    split
    · exact List.cons_ne_nil _ _
    · split <;> exact List.cons_ne_nil _ _
theorem splitC_free {c : Nat} : ∀ {l : List Nat}, c ∉ l → splitC c l = [l]
  | [], _ => rfl
  | x :: r, h => by
    unfold splitC
    rw [if_neg (fun q => h (by rw [q]; exact List.mem_cons_self ..)), splitC_free (fun q => h (List.mem_cons_of_mem _ q))]
theorem splitC_cut {c : Nat} : ∀ {a : List Nat} (b : List Nat), c ∉ a → splitC c (a ++ c :: b) = a :: splitC c b
  | [], b, _ => by show splitC c (c :: b) = _; conv => lhs; unfold splitC
                   rw [if_pos rfl]
  | x :: r, b, h => by
    show splitC c (x :: (r ++ c :: b)) = _
    conv => lhs; unfold splitC
    rw [if_neg (fun q => h (by rw [q]; exact List.mem_cons_self ..)), splitC_cut b (fun q => h (List.mem_cons_of_mem _ q))]
theorem splitC_join {c : Nat} : ∀ {ps : List (List Nat)}, ps ≠ [] → (∀ p ∈ ps, c ∉ p) → splitC c (interc [c] ps) = ps
  | [], h, _ => absurd rfl h
  | [a], _, h => splitC_free (h a (List.mem_cons_self ..))
  | a :: b :: r, _, h => by
    show splitC c (a ++ [c] ++ interc [c] (b :: r)) = _
    rw [List.append_assoc]
    show splitC c (a ++ c :: interc [c] (b :: r)) = _
    rw [splitC_cut _ (h a (List.mem_cons_self ..)), splitC_join (List.cons_ne_nil _ _) fun p hp => h p (List.mem_cons_of_mem _ hp)]
theorem split_ne (x y : Str) : Txt.split x y ≠ [] := by
  have := split_pos x y
  intro e; rw [e] at this; simp at this
theorem tx_split (l : List Nat) (c : Nat) : Txt.split (S l) (S [c]) = (splitC c l).map S := by
  have hf := StrLaws.split_free (S l) c
  have hj := StrLaws.join_split (S l) (S [c])
  have hn := split_ne (S l) (S [c])
  generalize Txt.split (S l) (S [c]) = ps at hf hj hn
  have e : ps = (ps.map fun x => x.cps.toList).map S := by
    rw [List.map_map]
    conv => lhs; rw [← List.map_id ps]
    exact List.map_congr_left fun x _ => S_of x
  rw [e] at hj ⊢
  rw [str_join] at hj
  have hj' := S_inj.mp hj
  rw [← hj', splitC_join]
  · simpa using hn
  · intro p hp
    obtain ⟨x, hx, rfl⟩ := List.mem_map.mp hp
    exact hf x hx
theorem interc_flat (c : Nat) (z : List Nat) : ∀ l : List Nat, interc z (splitC c l) = l.flatMap fun x => if x = c then z else [x]
  | [] => rfl
  | x :: r => by
    have ih := interc_flat c z r
    unfold splitC
    rw [List.flatMap_cons, ← ih]
    cases e : splitC c r with
    | nil => exact absurd e (splitC_ne c r)
    | cons p ps =>
      by_cases h : x = c
      · rw [if_pos h, if_pos h]; rfl
      · rw [if_neg h, if_neg h]
        cases ps <;> rfl
theorem tx_replace (l : List Nat) (c : Nat) (z : List Nat) : Txt.replace (S l) (S [c]) (S z) = S (l.flatMap fun x => if x = c then z else [x]) := by
  rw [← interc_flat, ← str_join, ← tx_split, ← StrLaws.glued_eq_join]
  unfold Txt.replace Txt.split
  have h1 : ((S [c]).length == 0) = false := rfl
  simp only [h1, Bool.false_and, Bool.or_false]
  have whole : ∀ (x : Str), glued (S z) [x] = x := fun x => by rw [StrLaws.glued_eq_join]; rfl
  by_cases h2 : (occurrences (S l) (S [c]) 0 (S l).length ((S l).length + 1)).isEmpty = true
  · rw [if_pos h2, if_pos h2]; split <;> rw [whole]
  · rw [if_neg h2, if_neg h2]
    have : (decide ((S l).length < (S [c]).length) || decide (strKind (S l) < strKind (S [c]))) = false := by
      cases h : (decide ((S l).length < (S [c]).length) || decide (strKind (S l) < strKind (S [c]))) with
      | false => rfl
      | true =>
        exfalso
        apply h2
        have hs : Txt.split (S l) (S [c]) = [S l] := by unfold Txt.split; rw [if_pos h]
        have hc := StrLaws.split_free (S l) c (S l) (by rw [hs]; exact List.mem_singleton.mpr rfl)
        obtain ⟨f, hch⟩ := StrLaws.occ_chain (S l) (S [c]) ((S l).length + 1)
        cases ho : occurrences (S l) (S [c]) 0 (S l).length ((S l).length + 1) with
        | nil => rfl
        | cons i r =>
          rw [ho] at hch
          have := (at_one l c i).mp hch.2.1
          exact absurd (List.mem_of_getElem? this) hc
    rw [this]; simp
theorem sub_S (l : List Nat) (i j : Nat) : strSub (S l) i j = S ((l.drop i).take (j - i)) := by
  rw [S_of (strSub (S l) i j), StrLaws.strSub_toList]
theorem tw_nil {g : Nat → Bool} {l : List Nat} (h : ∀ c, l.head? = some c → g c = false) : l.takeWhile g = [] := by
  cases l with
  | nil => rfl
  | cons x r => rw [List.takeWhile_cons, h x rfl]; rfl
set_option tactic.hygienic true in
theorem strip_id (g : Nat → Bool) (a b : Bool) {l : List Nat} (h1 : ∀ c, l.head? = some c → g c = false ∨ a = false) (h2 : ∀ c, l.getLast? = some c → g c = false ∨ b = false) : Txt.stripBy g a b (S l) = S l := by
  rw [PyProof.Rows.stripBy_eq, sub_S]
  have e1 : stripLo g a (S l) = 0 := by
    unfold stripLo
    split
    · rename_i ha
      rw [S_toList, tw_nil fun c hc => (h1 c hc).resolve_right (by rw [ha]; decide)]; rfl
    · rfl
  have e2 : stripHi g b (S l) 0 = l.length := by
    unfold stripHi
    split
    · rename_i hb
      rw [S_toList, List.drop_zero, tw_nil fun c hc => (h2 c (by rw [← hc, List.head?_reverse])).resolve_right (by rw [hb]; decide), S_length]; rfl
    · exact S_length l
  rw [e1, e2]; simp
theorem tx_rstrip_id {l : List Nat} (h : ∀ c, l.getLast? = some c → Unicode.isSpace c = false) : Txt.rstrip (S l) = S l :=
  strip_id _ _ _ (fun _ _ => .inr rfl) fun c hc => .inl (h c hc)
theorem tx_lstrip_id {l : List Nat} (h : ∀ c, l.head? = some c → Unicode.isSpace c = false) : Txt.lstrip (S l) = S l :=
  strip_id _ _ _ (fun c hc => .inl (h c hc)) fun _ _ => .inr rfl
theorem tx_rstripC {a : List Nat} {c : Nat} (h : ∀ d, a.getLast? = some d → d ≠ c) : Txt.rstripChars (S (a ++ [c])) (S [c]) = S a := by
  unfold Txt.rstripChars
  rw [PyProof.Rows.stripBy_eq, sub_S]
  have e1 : stripLo (S [c]).cps.contains false (S (a ++ [c])) = 0 := rfl
  have e2 : stripHi (S [c]).cps.contains true (S (a ++ [c])) 0 = a.length := by
    unfold stripHi
    rw [if_pos rfl, S_toList, List.drop_zero, List.reverse_append, List.reverse_singleton, List.singleton_append, List.takeWhile_cons]
    have hc : (S [c]).cps.contains c = true := by simp [S]
    rw [hc, if_pos rfl, tw_nil fun d hd => ?_, S_length]
    · simp
    · rw [List.head?_reverse] at hd
      have := h d hd
      simp [S, this]
  rw [e1, e2]; simp
theorem foldl_rep (c : Nat) : ∀ (n : Nat) (acc : Array Nat), ((List.replicate n (S [c]).cps).foldl (· ++ ·) acc) = acc ++ (List.replicate n c).toArray
  | 0, acc => by simp
  | n + 1, acc => by
    rw [List.replicate_succ, List.foldl_cons, foldl_rep c n, List.replicate_succ]
    show acc ++ #[c] ++ _ = _
    rw [Array.append_assoc]
    congr 1
    apply Array.ext'; simp
set_option tactic.hygienic true in
theorem tx_mul (c n : Nat) : Txt.mul (S [c]) (n : Int) = S (List.replicate n c) := by
  unfold Txt.mul
  split
  · have : n = 0 := by omega
    subst this; rfl
  · split
    · rename_i h1 h2
      have : n = 1 := by
        simp only [Bool.or_eq_true, beq_iff_eq] at h2
        rcases h2 with h2 | h2
        · omega
        · cases h2
      subst this; rfl
    · rw [Int.toNat_natCast, foldl_rep]
      simp [S]
set_option tactic.hygienic true in
theorem mulOk (c n : Nat) (h : n ≤ 16000000) : MulOk (S [c]) (n : Int) := by
  refine ⟨?_, fun _ _ => ?_, fun _ _ => ?_⟩
  · simp; omega
  · rw [S_length]
    show ¬ ((1 : Int) > _)
    have : (1 : Int) ≤ (2 ^ 63 - 1) / (n : Int) ∨ n = 0 := by
      by_cases hn : n = 0
      · exact .inr hn
      · left
        rw [Int.le_ediv_iff_mul_le (by omega)]
        omega
    rename_i h1 h2
    rcases this with q | q
    · omega
    · subst q; exact absurd (by decide : ((0 : Nat) : Int) < 1) h1
  · rw [S_length, Int.toNat_natCast]
    show decide (1 * n > sizeLine) = false
    rw [sizeLine_eq]; simp; omega
end Mine
end
section
set_option tactic.hygienic false
open PySem PySem.Calls PySem.W PyProof.Rows
namespace Mine
section
variable {C : Cx} {n : Nat} {F : Fs} {σ σ' σ₁ σ₂ σ₃ : List Slot} {v a b c : V}
theorem Ev.strS {i : Str} {k : Nat} {pos : Pos} (l : List Nat) (h : i = S l) : Ev C n F (.Constant (.str i) k pos) σ (.str (S l)) σ := by
  rw [h]; exact Ev.str
theorem Ev.to {e : PySem.Expr} {v w : V} (h : Ev C n F e σ v σ') (q : v = w) : Ev C n F e σ w σ' := q ▸ h
theorem It.to {e : PySem.Expr} {b d : Bool} (h : It C n F e σ b σ') (q : b = d) : It C n F e σ d σ' := q ▸ h
theorem Op2.to {t : Value → Value → Sem Value} {x y v w : V} (h : Op2 C n t x y v) (q : v = w) : Op2 C n t x y w := q ▸ h
theorem Pu.to {t : List Value → Sem Value} {xs : List V} {v w : V} (h : Pu C n t xs v) (q : v = w) : Pu C n t xs w := q ▸ h
theorem Op2.addT {x y : List Nat} (hz : x.length + y.length ≤ 16000000) : Op2 C n (binaryOp .Add) (.str (S x)) (.str (S y)) (.str (S (x ++ y))) := by
  rw [← S_append]; exact Op2.addS (by rw [S_length, S_length]; exact hz)
theorem Op2.iaddT {x y : List Nat} (hz : x.length + y.length ≤ 16000000) : Op2 C n (inplaceOp .Add) (.str (S x)) (.str (S y)) (.str (S (x ++ y))) := by
  rw [← S_append]; exact Op2.iaddS (by rw [S_length, S_length]; exact hz)
theorem Op2.eqT {x y : List Nat} : Op2 C n (compareOp .Eq) (.str (S x)) (.str (S y)) (.bool (x == y)) := by
  rw [← S_beq]; exact Op2.eqS
theorem Op2.neT {x y : List Nat} : Op2 C n (compareOp .NotEq) (.str (S x)) (.str (S y)) (.bool (x != y)) :=
  Op2.to Op2.neS (by unfold bne; rw [S_beq])
theorem Op2.inT {x : List Nat} {c : Nat} : Op2 C n (compareOp .In) (.str (S [c])) (.str (S x)) (.bool (decide (c ∈ x))) := by
  rw [← tx_contains]; exact Op2.inS
theorem Op2.notinT {x : List Nat} {c : Nat} : Op2 C n (compareOp .NotIn) (.str (S [c])) (.str (S x)) (.bool (!decide (c ∈ x))) := by
  rw [← tx_contains]; exact Op2.notinS
theorem Op2.mulT {c m : Nat} (h : m ≤ 16000000) : Op2 C n (binaryOp .Mult) (.str (S [c])) (.int (m : Int)) (.str (S (List.replicate m c))) := by
  rw [← tx_mul]; exact Op2.mulS (mulOk c m h)
theorem Pu.lenT {x : List Nat} (hz : x.length ≤ 16000000) : Pu C n (fun us => PySem.call (.builtin "len") us) [.str (S x)] (.int (x.length : Int)) :=
  Pu.to (Pu.lenS (by rw [S_length]; exact hz)) (by rw [S_length])
theorem e34 : Str.ofString "\"" = S [34] := by decide +kernel
theorem Op2.quoteT {x : List Nat} (hz : x.length ≤ 1000000) : Op2 C n (binaryOp .Mod) (.str ⟨#[34, 37, 115, 34]⟩) (.str (S x)) (.str (S (34 :: (x ++ [34])))) :=
  Op2.to (Op2.quote (by rw [S_length]; exact hz)) (by rw [e34, S_append, S_append]; rfl)
theorem Pu.startsT {x : List Nat} {c : Nat} : Pu C n (fun us => PySem.call (.builtin "str.startswith") us) [.str (S x), .str (S [c])] (.bool (x.head? == some c)) := by
  rw [← tx_start]; exact Pu.startswith
theorem Pu.endsT {x : List Nat} {c : Nat} : Pu C n (fun us => PySem.call (.builtin "str.endswith") us) [.str (S x), .str (S [c])] (.bool (x.getLast? == some c)) := by
  rw [← tx_end]; exact Pu.endswith
theorem Pu.rfindT {x p q : List Nat} {c : Nat} (e : x = p ++ c :: q) (h : c ∉ q) : Pu C n (fun us => PySem.call (.builtin "str.rfind") us) [.str (S x), .str (S [c])] (.int (p.length : Int)) := by
  rw [← tx_rfind e h]; exact Pu.rfind
theorem Pu.splitT {x : List Nat} {c : Nat} (hz : x.length ≤ 16000000) : Pu C n (fun us => PySem.call (.builtin "str.split") us) [.str (S x), .str (S [c])] (.list ((splitC c x).map fun y => .str (S y))) :=
  Pu.to (Pu.split rfl (by rw [S_length]; exact hz)) (by rw [tx_split, List.map_map]; rfl)
theorem Pu.rstripCT {p : List Nat} {c : Nat} (h : ∀ d, p.getLast? = some d → d ≠ c) (hz : p.length + 1 ≤ 16000000) : Pu C n (fun us => PySem.call (.builtin "str.rstrip") us) [.str (S (p ++ [c])), .str (S [c])] (.str (S p)) :=
  Pu.to (Pu.rstripChars (by rw [S_length]; simp; omega)) (by rw [tx_rstripC h])
theorem Pu.rstripT {x : List Nat} (h : ∀ c, x.getLast? = some c → Unicode.isSpace c = false) (hz : x.length ≤ 16000000) : Pu C n (fun us => PySem.call (.builtin "str.rstrip") us) [.str (S x)] (.str (S x)) :=
  Pu.to (Pu.rstrip (by rw [S_length]; exact hz)) (by rw [tx_rstrip_id h])
theorem Pu.lstripT {x : List Nat} (h : ∀ c, x.head? = some c → Unicode.isSpace c = false) (hz : x.length ≤ 16000000) : Pu C n (fun us => PySem.call (.builtin "str.lstrip") us) [.str (S x)] (.str (S x)) :=
  Pu.to (Pu.lstrip (by rw [S_length]; exact hz)) (by rw [tx_lstrip_id h])
noncomputable def lensum (k : Nat) : List (List Nat) → Nat
  | [] => 0
  | x :: r => x.length + k + lensum k r
theorem joinOk_foldl (z : List Nat) : ∀ (ls : List (List Nat)) (acc : Nat), (ls.map S).foldl (fun (a : Nat) (x : Str) => a + x.length + (S z).length) acc = acc + lensum z.length ls
  | [], acc => rfl
  | x :: r, acc => by
    rw [List.map_cons, List.foldl_cons, joinOk_foldl z r, S_length, S_length]
    show _ = acc + (x.length + z.length + lensum z.length r); omega
theorem joinOk_of {z : List Nat} {ls : List (List Nat)} (h : lensum z.length ls ≤ 16000000) : JoinOk (S z) (ls.map S) = true := by
  unfold JoinOk
  have e : (ls.map S).toArray.foldl (fun (a : Nat) (x : Str) => a + x.length + (S z).length) 0 = lensum z.length ls := by
    rw [← Array.foldl_toList]
    have := joinOk_foldl z ls 0
    simpa using this
  rw [e]
  show (!decide (_ > sizeLine)) = true
  rw [sizeLine_eq]; simp; omega
theorem map_map_str (ls : List (List Nat)) : (ls.map fun y => V.str (S y)) = (ls.map S).map V.str := by rw [List.map_map]; rfl
theorem Pu.joinT {z : List Nat} {ls : List (List Nat)} (h : lensum z.length ls ≤ 16000000) : Pu C n (fun us => PySem.call (.builtin "str.join") us) [.str (S z), .list (ls.map fun y => .str (S y))] (.str (S (interc z ls))) := by
  rw [map_map_str]
  exact Pu.to (Pu.join (joinOk_of h)) (by rw [tx_join])
theorem lenS {α : Type} {l : List α} {n : Nat} (h : l.length = n + 1) : ∃ a r, l = a :: r ∧ r.length = n := by
  cases l with
  | nil => cases h
  | cons a r => exact ⟨a, r, rfl, Nat.succ.inj h⟩
theorem bind1 (i : Nat) (h : ∀ (pm cd doc u : Value), bindArgs (docDef (dr i).name (dr i).params (dr i).body (dr i).scope pm cd doc) ⟨[u], []⟩ = pure (((dr i).scope.names.map (·.1)).zip [u])) : BindOk (dr i) 1 := by
  intro pm cd doc us hu
  obtain ⟨u, r0, rfl, h0⟩ := lenS hu
  obtain rfl := List.length_eq_zero_iff.mp h0
  exact h pm cd doc u
theorem bind2 (i : Nat) (h : ∀ (pm cd doc u v : Value), bindArgs (docDef (dr i).name (dr i).params (dr i).body (dr i).scope pm cd doc) ⟨[u, v], []⟩ = pure (((dr i).scope.names.map (·.1)).zip [u, v])) : BindOk (dr i) 2 := by
  intro pm cd doc us hu
  obtain ⟨u, r0, rfl, h0⟩ := lenS hu
  obtain ⟨v, r1, rfl, h1⟩ := lenS h0
  obtain rfl := List.length_eq_zero_iff.mp h1
  exact h pm cd doc u v
theorem bind5 (i : Nat) (h : ∀ (pm cd doc u v w x y : Value), bindArgs (docDef (dr i).name (dr i).params (dr i).body (dr i).scope pm cd doc) ⟨[u, v, w, x, y], []⟩ = pure (((dr i).scope.names.map (·.1)).zip [u, v, w, x, y])) : BindOk (dr i) 5 := by
  intro pm cd doc us hu
  obtain ⟨u, r0, rfl, h0⟩ := lenS hu
  obtain ⟨v, r1, rfl, h1⟩ := lenS h0
  obtain ⟨w, r2, rfl, h2⟩ := lenS h1
  obtain ⟨x, r3, rfl, h3⟩ := lenS h2
  obtain ⟨y, r4, rfl, h4⟩ := lenS h3
  obtain rfl := List.length_eq_zero_iff.mp h4
  exact h pm cd doc u v w x y
end
end Mine
end
section
set_option tactic.hygienic false
open PySem PySem.Calls PySem.W PyProof.Rows
namespace Mine
section
variable {C : Cx} {n : Nat} {F : Fs} {σ σ' σ₁ σ₂ σ₃ : List Slot} {v a b c : V}
theorem swap_hw {F : Fs} {env : Env} {i j : Nat} {x y : Str} {px py tp p' : Pos} {k k' : Nat} {v1 v2 : PySem.Expr} (K : EnvOk F env) (hi : F.names[i]? = some (x, .local)) (hj : F.names[j]? = some (y, .local))
    (hl : (py.line == px.line) = true) (hne : (y == x) = false) (hs : ([v1, v2].any fun | .Starred .. => true | _ => false) = false) (hf : [v1, v2].all (foldedForSure 8) = false) (hc : [v1, v2].all (constantsAlone 8) = false) :
    swappedStores [.Tuple [.Name x px, .Name y py] k tp] (.Tuple [v1, v2] k' p') env = pure (some [x, y]) := by
  have k1 := K.kindOf hi
  have k2 := K.kindOf hj
  have kb : env.blockKind = .function := by unfold Env.blockKind; rw [K.kind]; rfl
  have e1 : (env.kindOf x == some NameKind.local && px.line == px.line) = true := by rw [k1]; simp
  have e2 : (env.kindOf y == some NameKind.local && py.line == px.line) = true := by rw [k2, hl]; rfl
  unfold swappedStores
  simp only [kb, List.length_cons, List.length_nil]
  rw [if_neg (by decide)]
  refine (if_neg (fun q => Bool.noConfusion (hs.symm.trans q))).trans ?_
  generalize hN : List.filterMap _ _ = N
  have en : N = [x, y] := by
    rw [← hN, List.filterMap_cons]
    have h0 : ((([PySem.Expr.Name x px, .Name y py] : List PySem.Expr).head?.map (·.pos.line)).getD 0) = px.line := rfl
    simp only [h0, e1, e2, if_true, List.filterMap_cons, List.filterMap_nil]
  subst en
  have ed : ([x, y] : List Str).eraseDups = [x, y] := by
    rw [List.eraseDups_cons]
    simp [hne]; rw [List.eraseDups_cons]; simp
  simp only [ed, hf, hc]
  rfl

theorem Ex1.swapN (i j : Nat) {x y : Str} {px py tp p' pos : Pos} {k k' : Nat} {v1 v2 : PySem.Expr} (h : Ev C n F (.Tuple [v1, v2] k' p') σ (.tup [a, b]) σ₁) (hi : F.names[i]? = some (x, .local)) (hj : F.names[j]? = some (y, .local))
    (hl : (py.line == px.line) = true) (hne : (y == x) = false) (hs : ([v1, v2].any fun | .Starred .. => true | _ => false) = false) (hf : [v1, v2].all (foldedForSure 8) = false) (hc : [v1, v2].all (constantsAlone 8) = false)
    (hw : ∀ env, swapsWithSole [.Tuple [.Name x px, .Name y py] k tp] (.Tuple [v1, v2] k' p') pos.line env = pure false := by intro _; rfl) :
    Ex1 C n F (.Assign [.Tuple [.Name x px, .Name y py] k tp] (.Tuple [v1, v2] k' p') pos) σ .next ((σ₁.set j (.val b)).set i (.val a)) :=
  Ex1.swap2 i j h hi (.inl rfl) hj (.inl rfl) (fun env K => swap_hw K hi hj hl hne hs hf hc) hw
theorem cut_lo {l : List Nat} {k : Nat} : cut l none (some (k : Int)) = l.take k := by
  unfold cut; simp
theorem cut_hi {l : List Nat} {k : Nat} : cut l (some (k : Int)) none = l.drop k := by
  unfold cut; simp
end
end Mine
end
section
set_option tactic.hygienic false
open PySem PySem.Calls PySem.W PyProof.Rows
namespace Mine
open PySem.Builtin.Re
structure EvW (C : Cx) (n : Nat) (F : Fs) (e : PySem.Expr) (σ : List Slot) (v : V) (σ' : List Slot) : Prop where h : Ev C n F e σ v σ'
structure EvsW (C : Cx) (n : Nat) (F : Fs) (e : List PySem.Expr) (σ : List Slot) (v : List V) (σ' : List Slot) : Prop where h : Evs C n F e σ v σ'
structure EvpW (C : Cx) (n : Nat) (F : Fs) (e : Option PySem.Expr) (σ : List Slot) (v : Option Int) (σ' : List Slot) : Prop where h : Evp C n F e σ v σ'
structure EvFW (C : Cx) (n : Nat) (F : Fs) (e : PySem.Expr) (σ : List Slot) (v : Str) (σ' : List Slot) : Prop where h : EvF C n F e σ v σ'
structure ItW (C : Cx) (n : Nat) (F : Fs) (e : PySem.Expr) (σ : List Slot) (v : Bool) (σ' : List Slot) : Prop where h : It C n F e σ v σ'
structure ItsW (C : Cx) (n : Nat) (F : Fs) (op : BoolOp) (e : List PySem.Expr) (σ : List Slot) (v : Bool) (σ' : List Slot) : Prop where h : Its C n F op e σ v σ'
structure Ex1W (C : Cx) (n : Nat) (F : Fs) (e : Stmt) (σ : List Slot) (v : Fl) (σ' : List Slot) : Prop where h : Ex1 C n F e σ v σ'
structure ExW (C : Cx) (n : Nat) (F : Fs) (e : List Stmt) (σ : List Slot) (v : Fl) (σ' : List Slot) : Prop where h : Ex C n F e σ v σ'
structure AsW (C : Cx) (F : Fs) (e : PySem.Expr) (v : V) (σ σ' : List Slot) : Prop where h : As C F e v σ σ'
structure AssW (C : Cx) (F : Fs) (e : List PySem.Expr) (v : List V) (σ σ' : List Slot) : Prop where h : Ass C F e v σ σ'
section
variable {C : Cx} {n : Nat} {F : Fs} {σ σ' σ₁ σ₂ σ₃ : List Slot} {v a b c : V} {fl fl' : Fl} {P : Addr} {code : Array Nat} {groups : Nat}
theorem LpW.nil {t : PySem.Expr} {body : List Stmt} : Lp C n F t body [] σ .next σ := .nil
theorem LpW.next {t : PySem.Expr} {body : List Stmt} {x : V} {xs : List V} (h1 : AsW C F t x σ σ₁) (h2 : ExW C n F body σ₁ .next σ₂) (h3 : Lp C n F t body xs σ₂ fl σ₃) : Lp C n F t body (x :: xs) σ fl σ₃ := .next h1.h h2.h h3
theorem LpW.cont {t : PySem.Expr} {body : List Stmt} {x : V} {xs : List V} (h1 : AsW C F t x σ σ₁) (h2 : ExW C n F body σ₁ .cont σ₂) (h3 : Lp C n F t body xs σ₂ fl σ₃) : Lp C n F t body (x :: xs) σ fl σ₃ := .cont h1.h h2.h h3
theorem LpW.brk {t : PySem.Expr} {body : List Stmt} {x : V} {xs : List V} (h1 : AsW C F t x σ σ₁) (h2 : ExW C n F body σ₁ .brk σ₂) : Lp C n F t body (x :: xs) σ .brk σ₂ := .brk h1.h h2.h
theorem LpW.ret {t : PySem.Expr} {body : List Stmt} {x : V} {xs : List V} (h1 : AsW C F t x σ σ₁) (h2 : ExW C n F body σ₁ (.ret v) σ₂) : Lp C n F t body (x :: xs) σ (.ret v) σ₂ := .ret h1.h h2.h
theorem AfterW.next {orelse : List Stmt} (h : ExW C n F orelse σ fl σ') : After C n F orelse .next σ fl σ' := .next h.h
theorem WhW.stop {test : PySem.Expr} {body : List Stmt} {m : Nat} (h : ItW C n F test σ false σ₁) : Wh C n F test body m σ .next σ₁ := .stop h.h
theorem WhW.next {test : PySem.Expr} {body : List Stmt} {m : Nat} (h : ItW C n F test σ true σ₁) (h2 : ExW C n F body σ₁ .next σ₂) (h3 : Wh C n F test body m σ₂ fl σ₃) : Wh C n F test body (m + 1) σ fl σ₃ := .next h.h h2.h h3
theorem ItW.notT {x : PySem.Expr} {pos : Pos} (h : ItW C n F x σ false σ₁) : ItW C n F (.UnaryOp .Not x pos) σ true σ₁ := ⟨It.notx h.h⟩
theorem ItW.notF {x : PySem.Expr} {pos : Pos} (h : ItW C n F x σ true σ₁) : ItW C n F (.UnaryOp .Not x pos) σ false σ₁ := ⟨It.notx h.h⟩
theorem orAnd : (BoolOp.Or == BoolOp.And) = false := by decide
theorem andAnd : (BoolOp.And == BoolOp.And) = true := by decide
theorem ItsW.nilOr : ItsW C n F .Or [] σ false σ := by
  rw [← orAnd]; exact ⟨Its.nil⟩
theorem ItsW.nilAnd : ItsW C n F .And [] σ true σ := by
  rw [← andAnd]; exact ⟨Its.nil⟩
theorem CtW.nil : Ct C n F [] σ true σ := .nil
theorem CtW.one {e : PySem.Expr} {d : Bool} (h : ItW C n F e σ d σ') : Ct C n F [e] σ d σ' := .one h.h
theorem CpW.nil {t : PySem.Expr} {ifs : List PySem.Expr} {elt : PySem.Expr} : Cp C n F t ifs elt [] σ [] σ := .nil
theorem CpW.take {t : PySem.Expr} {ifs : List PySem.Expr} {elt : PySem.Expr} {x v : V} {xs vs : List V} {τ τ₁ τ₂ τ₃ τ' : List Slot} (h1 : AsW C F t x τ τ₁) (h2 : Ct C n F ifs τ₁ true τ₂) (h3 : EvW C n F elt τ₂ v τ₃) (h4 : Cp C n F t ifs elt xs τ₃ vs τ') : Cp C n F t ifs elt (x :: xs) τ (v :: vs) τ' := .take h1.h h2 h3.h h4
theorem CpW.skip {t : PySem.Expr} {ifs : List PySem.Expr} {elt : PySem.Expr} {x : V} {xs vs : List V} {τ τ₁ τ₂ τ' : List Slot} (h1 : AsW C F t x τ τ₁) (h2 : Ct C n F ifs τ₁ false τ₂) (h4 : Cp C n F t ifs elt xs τ₂ vs τ') : Cp C n F t ifs elt (x :: xs) τ vs τ' := .skip h1.h h2 h4
theorem EvW.name (i : Nat) {x : Str} {k : NameKind} {pos : Pos} (hi : F.names[i]? = some (x, k)) (hs : σ[i]? = some (.val v)) (h1 : (x == ("__classdict__" : Str)) = false) (h2 : (x == ("__debug__" : Str)) = false) : EvW C n F (.Name x pos) σ v σ := ⟨Ev.name i hi hs h1 h2⟩
theorem EvW.freeze (i : Nat) {x : Str} {k : NameKind} {pos : Pos} {l : List V} (hi : F.names[i]? = some (x, k)) (hs : σ[i]? = some (.own l)) (h1 : (x == ("__classdict__" : Str)) = false) (h2 : (x == ("__debug__" : Str)) = false) : EvW C n F (.Name x pos) σ (.list l) (σ.set i (.val (.list l))) := ⟨Ev.freeze i hi hs h1 h2⟩
theorem EvW.glob (i : Nat) {x : Str} {pos : Pos} {u : Value} (hi : F.names[i]? = some (x, .globalImplicit)) (hg : C.mg x = some u) (h2 : (x == ("__debug__" : Str)) = false) : EvW C n F (.Name x pos) σ (.val u) σ := ⟨Ev.glob i hi hg h2⟩
theorem EvW.int {i : Int} {k : Nat} {pos : Pos} : EvW C n F (.Constant (.int i) k pos) σ (.int i) σ := ⟨Ev.int ⟩
theorem EvW.none {k : Nat} {pos : Pos} : EvW C n F (.Constant .none k pos) σ .none σ := ⟨Ev.none ⟩
theorem EvW.bool {i : Bool} {k : Nat} {pos : Pos} : EvW C n F (.Constant (.bool i) k pos) σ (.bool i) σ := ⟨Ev.bool ⟩
theorem EvW.binop {l r : PySem.Expr} {op : Operator} {pos : Pos} (hl : EvW C n F l σ a σ₁) (hr : EvW C n F r σ₁ b σ₂) (ho : Op2 C n (binaryOp op) a b v) : EvW C n F (.BinOp l op r pos) σ v σ₂ := ⟨Ev.binop hl.h hr.h ho⟩
theorem EvW.cmp {l r : PySem.Expr} {op : CmpOp} {pos : Pos} (hl : EvW C n F l σ a σ₁) (hr : EvW C n F r σ₁ b σ₂) (ho : Op2 C n (compareOp op) a b v) (hm : behindInMarks op r = false) : EvW C n F (.Compare l [op] [r] pos) σ v σ₂ := ⟨Ev.cmp hl.h hr.h ho hm⟩
theorem ItW.cmp {l r : PySem.Expr} {op : CmpOp} {pos : Pos} {b' : Bool} (hl : EvW C n F l σ a σ₁) (hr : EvW C n F r σ₁ b σ₂) (ho : Op2 C n (compareOp op) a b (.bool b')) (hm : behindInMarks op r = false) : ItW C n F (.Compare l [op] [r] pos) σ b' σ₂ := ⟨It.cmp hl.h hr.h ho hm⟩
theorem EvW.unop {l : PySem.Expr} {op : UnaryOp} {pos : Pos} (hl : EvW C n F l σ a σ₁) (ho : Op1 C n (unaryOp op) a v) : EvW C n F (.UnaryOp op l pos) σ v σ₁ := ⟨Ev.unop hl.h ho⟩
theorem ItsW.stopAnd {x : PySem.Expr} {rest : List PySem.Expr} (h : ItW C n F x σ false σ₁) : ItsW C n F .And (x :: rest) σ false σ₁ := ⟨Its.stopAnd h.h⟩
theorem ItsW.goAnd {x : PySem.Expr} {rest : List PySem.Expr} {b : Bool} (h : ItW C n F x σ true σ₁) (hr : ItsW C n F .And rest σ₁ b σ₂) : ItsW C n F .And (x :: rest) σ b σ₂ := ⟨Its.goAnd h.h hr.h⟩
theorem ItsW.stopOr {x : PySem.Expr} {rest : List PySem.Expr} (h : ItW C n F x σ true σ₁) : ItsW C n F .Or (x :: rest) σ true σ₁ := ⟨Its.stopOr h.h⟩
theorem ItsW.goOr {x : PySem.Expr} {rest : List PySem.Expr} {b : Bool} (h : ItW C n F x σ false σ₁) (hr : ItsW C n F .Or rest σ₁ b σ₂) : ItsW C n F .Or (x :: rest) σ b σ₂ := ⟨Its.goOr h.h hr.h⟩
theorem ItW.boolop {op : BoolOp} {es : List PySem.Expr} {pos : Pos} {b : Bool} (h : ItsW C n F op es σ b σ') : ItW C n F (.BoolOp op es pos) σ b σ' := ⟨It.boolop h.h⟩
theorem ItW.plain {e : PySem.Expr} {b : Bool} (he : ∀ env w, isTrue e env w = (do let v ← w; standAt e.pos; holding [v] (truthy v))) (h : EvW C n F e σ v σ₁) (ht : Tr C n v b) : ItW C n F e σ b σ₁ := ⟨It.plain he h.h ht⟩
theorem EvW.ifT {t x y : PySem.Expr} {pos : Pos} (ht : ItW C n F t σ true σ₁) (h : EvW C n F x σ₁ v σ₂) : EvW C n F (.IfExp t x y pos) σ v σ₂ := ⟨Ev.ifT ht.h h.h⟩
theorem EvW.ifF {t x y : PySem.Expr} {pos : Pos} (ht : ItW C n F t σ false σ₁) (h : EvW C n F y σ₁ v σ₂) : EvW C n F (.IfExp t x y pos) σ v σ₂ := ⟨Ev.ifF ht.h h.h⟩
theorem EvW.orT {x y : PySem.Expr} {pos : Pos} (h : EvW C n F x σ v σ₁) (ht : Tr C n v true) : EvW C n F (.BoolOp .Or [x, y] pos) σ v σ₁ := ⟨Ev.orT h.h ht⟩
theorem EvW.andF {x y : PySem.Expr} {pos : Pos} (h : EvW C n F x σ v σ₁) (ht : Tr C n v false) : EvW C n F (.BoolOp .And [x, y] pos) σ v σ₁ := ⟨Ev.andF h.h ht⟩
theorem EvW.andT {x y : PySem.Expr} {pos : Pos} (h : EvW C n F x σ a σ₁) (ht : Tr C n a true) (hy : EvW C n F y σ₁ v σ₂) : EvW C n F (.BoolOp .And [x, y] pos) σ v σ₂ := ⟨Ev.andT h.h ht hy.h⟩
theorem EvsW.nil : EvsW C n F [] σ [] σ := ⟨Evs.nil ⟩
theorem EvsW.cons {e : PySem.Expr} {rest : List PySem.Expr} {vs : List V} (he : EvW C n F e σ v σ₁) (hr : EvsW C n F rest σ₁ vs σ₂) (hs : ∀ env, starEach (e :: rest) env = (false, eval e env) :: starEach rest env := by intro _; rfl) : EvsW C n F (e :: rest) σ (v :: vs) σ₂ := ⟨Evs.cons he.h hr.h hs⟩
theorem EvW.list {es : List PySem.Expr} {pos : Pos} {vs : List V} (h : EvsW C n F es σ vs σ₁) (hsz : vs.length ≤ 1000000 := by decide) : EvW C n F (.List es pos) σ (.list vs) σ₁ := ⟨Ev.list h.h hsz⟩
theorem EvW.tuple {es : List PySem.Expr} {k : Nat} {pos : Pos} {vs : List V} (h : EvsW C n F es σ vs σ₁) (hsz : vs.length ≤ 1000000 := by decide) : EvW C n F (.Tuple es k pos) σ (.tup vs) σ₁ := ⟨Ev.tuple h.h hsz⟩
theorem EvW.meth {o : PySem.Expr} {name : Str} {apos pos : Pos} {args : List PySem.Expr} {vs : List V} {T id : String} (ho : EvW C n F o σ a σ₁) (ha : EvsW C n F args σ₁ vs σ₂) (hT : HasT C a T) (m : MInfo T name id) (hp : Pu C n (fun us => PySem.call (.builtin id) us) (a :: vs) v) (hbase : ∀ env, attributeBase o name env (eval o env) = eval o env := by intro _; rfl) (hfew : ∀ env, ((backTo pos (starEach args env)).all (fun x => !x.1) && (backToKw pos (keywordEach [] env)).all (fun x => x.1.isSome)
      && decide (args.length + ([] : List Keyword).length + (if ([] : List Keyword).isEmpty then 0 else 1) < 30)) = true := by intro _; rfl) (hline : (apos.endLine == pos.line) = true := by rfl) (hev : ∀ env, evalArgs (.builtin id) true (backTo pos (starEach args env)) [] = (do let vs ← spliced (backTo pos (starEach args env)); pure ⟨vs, []⟩) ∨ args ≠ [] ∧ ∃ x r, starEach args env = (false, x) :: r := by intro _; first | (right; exact ⟨nofun, _, _, rfl⟩) | (left; rfl)) (hpl : ∀ env, (backTo pos (starEach args env)).any (·.1) = false := by intro _; rfl) : EvW C n F (.Call (.Attribute o name apos) args [] pos) σ v σ₂ := ⟨Ev.meth ho.h ha.h hT m hp hbase hfew hline hev hpl⟩
theorem EvW.sub {value slice : PySem.Expr} {pos : Pos} (hv : EvW C n F value σ a σ₁) (hi : EvW C n F slice σ₁ b σ₂) (ho : Op2 C n (subscriptTail value slice) a b v) : EvW C n F (.Subscript value slice pos) σ v σ₂ := ⟨Ev.sub hv.h hi.h ho⟩
theorem EvpW.none : EvpW C n F Option.none σ Option.none σ := ⟨Evp.none ⟩
theorem EvpW.some {e : PySem.Expr} {i : Int} (h : EvW C n F e σ (.int i) σ₁) : EvpW C n F (Option.some e) σ (Option.some i) σ₁ := ⟨Evp.some h.h⟩
theorem EvW.slInit {value : PySem.Expr} {hi : PySem.Expr} {p pos : Pos} {l : List V} (hv : EvW C n F value σ (.list l) σ₁) (h2 : EvW C n F hi σ₁ (.int (-1)) σ₂) (hsz : l.length ≤ 16000000) (ht : ∀ o r, letTemporaryGo value o r = pure () := by intro _ _; rfl) : EvW C n F (.Subscript value (.Slice Option.none (Option.some hi) Option.none p) pos) σ (.list l.dropLast) σ₂ := ⟨Ev.slInit hv.h h2.h hsz ht⟩
theorem ExW.nil : ExW C n F [] σ .next σ := ⟨Ex.nil ⟩
theorem ExW.cons {st : Stmt} {rest : List Stmt} (h1 : Ex1W C n F st σ .next σ₁) (h2 : ExW C n F rest σ₁ fl σ₂) : ExW C n F (st :: rest) σ fl σ₂ := ⟨Ex.cons h1.h h2.h⟩
theorem ExW.ret {st : Stmt} {rest : List Stmt} (h1 : Ex1W C n F st σ (.ret v) σ₁) : ExW C n F (st :: rest) σ (.ret v) σ₁ := ⟨Ex.ret h1.h⟩
theorem ExW.brk {st : Stmt} {rest : List Stmt} (h1 : Ex1W C n F st σ .brk σ₁) : ExW C n F (st :: rest) σ .brk σ₁ := ⟨Ex.brk h1.h⟩
theorem ExW.cont {st : Stmt} {rest : List Stmt} (h1 : Ex1W C n F st σ .cont σ₁) : ExW C n F (st :: rest) σ .cont σ₁ := ⟨Ex.cont h1.h⟩
theorem Ex1W.brk {pos : Pos} : Ex1W C n F (.Break pos) σ .brk σ := ⟨Ex1.brk ⟩
theorem Ex1W.cont {pos : Pos} : Ex1W C n F (.Continue pos) σ .cont σ := ⟨Ex1.cont ⟩
theorem Ex1W.ret {e : PySem.Expr} {pos : Pos} (h : EvW C n F e σ v σ₁) : Ex1W C n F (.Return (some e) pos) σ (.ret v) σ₁ := ⟨Ex1.ret h.h⟩
theorem Ex1W.assign (i : Nat) {x : Str} {k : NameKind} {e : PySem.Expr} {p' pos : Pos} (h : EvW C n F e σ v σ₁) (hi : F.names[i]? = some (x, k)) (hk : k = .local ∨ (k = .cell ∧ F.fn = true)) (hs : ∀ env, swapsWith e (some (.Name x p')) pos.line env = pure false := by intro _; rfl) : Ex1W C n F (.Assign [.Name x p'] e pos) σ .next (σ₁.set i (.val v)) := ⟨Ex1.assign i h.h hi hk hs⟩
theorem Ex1W.assignNew (i : Nat) {x : Str} {k : NameKind} {p' lp pos : Pos} (hi : F.names[i]? = some (x, k)) (hk : k = .local ∨ (k = .cell ∧ F.fn = true)) : Ex1W C n F (.Assign [.Name x p'] (.List [] lp) pos) σ .next (σ.set i (.own [])) := ⟨Ex1.assignNew i hi hk⟩
theorem AsW.name (i : Nat) {x : Str} {k : NameKind} {p : Pos} (hi : F.names[i]? = some (x, k)) (hk : k = .local ∨ (k = .cell ∧ F.fn = true)) : AsW C F (.Name x p) v σ (σ.set i (.val v)) := ⟨As.name i hi hk⟩
theorem AssW.nil : AssW C F [] [] σ σ := ⟨Ass.nil ⟩
theorem AssW.cons {t : PySem.Expr} {ts : List PySem.Expr} {vs : List V} (h1 : AsW C F t v σ σ₁) (h2 : AssW C F ts vs σ₁ σ₂) (he : ∀ env, assignEach (t :: ts) env = (false, assign t env) :: assignEach ts env := by intro _; rfl) : AssW C F (t :: ts) (v :: vs) σ σ₂ := ⟨Ass.cons h1.h h2.h he⟩
theorem AsW.tuple {ts : List PySem.Expr} {k : Nat} {p : Pos} {vs : List V} (h : AssW C F ts vs σ σ') (hn : ∀ env, (assignEach ts env).findIdx? (·.1) = none := by intro _; rfl) (hl : ∀ env, (assignEach ts env).length = vs.length := by intro _; rfl) : AsW C F (.Tuple ts k p) (.tup vs) σ σ' := ⟨As.tuple h.h hn hl⟩
theorem Ex1W.assignT {ts : List PySem.Expr} {k : Nat} {p pos : Pos} {e : PySem.Expr} (h : EvW C n F e σ v σ₁) (ha : AsW C F (.Tuple ts k p) v σ₁ σ₂) (hs : ∀ env, swapsWithSole [.Tuple ts k p] e pos.line env = pure false := by intro _; rfl) (hw : ∀ env, swappedStores [.Tuple ts k p] e env = pure none := by intro _; rfl) : Ex1W C n F (.Assign [.Tuple ts k p] e pos) σ .next σ₂ := ⟨Ex1.assignT h.h ha.h hs hw⟩
theorem Ex1W.aug (i : Nat) {x : Str} {k : NameKind} {op : Operator} {e : PySem.Expr} {p' pos : Pos} (hi : F.names[i]? = some (x, k)) (hk : k = .local ∨ (k = .cell ∧ F.fn = true)) (hs : σ[i]? = some (.val a)) (hx : (x == ("__classdict__" : Str)) = false) (h : EvW C n F e σ b σ₁) (ho : Op2 C n (inplaceOp op) a b v) : Ex1W C n F (.AugAssign (.Name x p') op e pos) σ .next (σ₁.set i (.val v)) := ⟨Ex1.aug i hi hk hs hx h.h ho⟩
theorem Ex1W.ifT {t : PySem.Expr} {body orelse : List Stmt} {pos : Pos} (ht : ItW C n F t σ true σ₁) (h : ExW C n F body σ₁ fl σ₂) : Ex1W C n F (.If t body orelse pos) σ fl σ₂ := ⟨Ex1.ifT ht.h h.h⟩
theorem Ex1W.ifF {t : PySem.Expr} {body orelse : List Stmt} {pos : Pos} (ht : ItW C n F t σ false σ₁) (h : ExW C n F orelse σ₁ fl σ₂) : Ex1W C n F (.If t body orelse pos) σ fl σ₂ := ⟨Ex1.ifF ht.h h.h⟩
theorem Ex1W.assert {t : PySem.Expr} {msg : Option PySem.Expr} {pos : Pos} (ht : ItW C n F t σ true σ₁) : Ex1W C n F (.Assert t msg pos) σ .next σ₁ := ⟨Ex1.assert ht.h⟩
theorem Ex1W.tryNext {body orelse : List Stmt} {hs : List ExceptHandler} {pos : Pos} (h : ExW C n F body σ .next σ₁) (h2 : ExW C n F orelse σ₁ fl σ₂) : Ex1W C n F (.Try body hs orelse [] pos) σ fl σ₂ := ⟨Ex1.tryNext h.h h2.h⟩
theorem Ex1W.for {t iter : PySem.Expr} {body orelse : List Stmt} {pos : Pos} {l : List V} (h : EvW C n F iter σ v σ₁) (hp : PyIt C n v l) (lp : Lp C n F t body l σ₁ fl σ₂) (af : After C n F orelse fl σ₂ fl' σ') (hs : ∀ env x, foldedSetIterable iter env x = pure x := by intro _ _; rfl) : Ex1W C n F (.For t iter body orelse pos) σ fl' σ' := ⟨Ex1.for h.h hp lp af hs⟩
theorem Ex1W.while {test : PySem.Expr} {body orelse : List Stmt} {pos : Pos} {m : Nat} (w : Wh C n F test body m σ fl σ₂) (af : After C n F orelse fl σ₂ fl' σ') : Ex1W C n F (.While test body orelse pos) σ fl' σ' := ⟨Ex1.while w af⟩
theorem ItW.own (i : Nat) {x : Str} {k : NameKind} {p : Pos} {l : List V} (hi : F.names[i]? = some (x, k)) (hs : σ[i]? = some (.own l)) (hx : (x == ("__classdict__" : Str)) = false) (hd : (x == ("__debug__" : Str)) = false) (hz : l.length ≤ 16000000) : ItW C n F (.Name x p) σ (!l.isEmpty) σ := ⟨It.own i hi hs hx hd hz⟩
theorem EvW.ownLast (i : Nat) {x : Str} {k : NameKind} {p pos : Pos} {slice : PySem.Expr} {l : List V} {v : V} (hi : F.names[i]? = some (x, k)) (hs : σ[i]? = some (.own (l ++ [v]))) (hx : (x == ("__classdict__" : Str)) = false) (hd : (x == ("__debug__" : Str)) = false) (hsl : EvW C n F slice σ (.int (-1)) σ) (hz : l.length ≤ 16000000) (hss : ∀ a k u, subscripted slice false (.ref a) (.int k u) = operate [.ref a, .int k u] (getItem (.ref a) (.int k u)) := by intro _ _ _; rfl) : EvW C n F (.Subscript (.Name x p) slice pos) σ v σ := ⟨Ev.ownLast i hi hs hx hd hsl.h hz hss⟩
theorem Ex1W.append (i : Nat) {x : Str} {k : NameKind} {np apos cpos pos : Pos} {e : PySem.Expr} {l : List V} (hi : F.names[i]? = some (x, k)) (hs : σ[i]? = some (.own l)) (hx : (x == ("__classdict__" : Str)) = false) (hd : (x == ("__debug__" : Str)) = false) (he : EvW C n F e σ v σ₁) (hs1 : σ₁[i]? = some (.own l)) (hsz : l.length ≤ 1000000) (hst : ∀ env, starEach [e] env = [(false, eval e env)] := by intro _; rfl) (hline : (apos.endLine == cpos.line) = true := by rfl) : Ex1W C n F (.Expr (.Call (.Attribute (.Name x np) "append" apos) [e] [] cpos) pos) σ .next (σ₁.set i (.own (l ++ [v]))) := ⟨Ex1.append i hi hs hx hd he.h hs1 hsz hst hline⟩
theorem Ex1W.pop (i : Nat) {x : Str} {k : NameKind} {np apos cpos pos : Pos} {l : List V} (hi : F.names[i]? = some (x, k)) (hs : σ[i]? = some (.own (l ++ [.str a']))) (hx : (x == ("__classdict__" : Str)) = false) (hd : (x == ("__debug__" : Str)) = false) (hsz : l.length ≤ 1000000) (hline : (apos.endLine == cpos.line) = true := by rfl) : Ex1W C n F (.Expr (.Call (.Attribute (.Name x np) "pop" apos) [] [] cpos) pos) σ .next (σ.set i (.own l)) := ⟨Ex1.pop i hi hs hx hd hsz hline⟩
theorem EvW.comp {elt t iter : PySem.Expr} {ifs : List PySem.Expr} {scope : Scope} {pos : Pos} {names : List (Str × NameKind)} {τ τ' : List Slot} {l res : List V} (hv : EvW C n F iter σ v σ₁) (hp : PyIt C n v l) (O : CompOk F scope names σ₁ τ) (cp : Cp C n (compFs F names) t ifs elt l τ res τ') (hz : l.length ≤ 1000000) (hs : ∀ env x, foldedSetIterable iter env x = pure x := by intro _ _; rfl) : EvW C n F (.ListComp elt [⟨t, iter, ifs, 0⟩] scope pos) σ (.list res) σ₁ := ⟨Ev.comp hv.h hp O cp hz hs⟩
theorem Ex1W.assignComp (i : Nat) {x : Str} {p' pos : Pos} {elt t iter : PySem.Expr} {ifs : List PySem.Expr} {scope : Scope} {cpos : Pos} {names : List (Str × NameKind)} {τ τ' : List Slot} {l res : List V} (hi : F.names[i]? = some (x, .local)) (hl : (p'.line == cpos.line) = true) (hsc : (scope.names.any fun y => y.1 == x && (y.2 == .local || y.2 == .cell)) = false) (hv : EvW C n F iter σ v σ₁) (hp : PyIt C n v l) (O : CompOk F scope names σ₁ τ) (cp : Cp C n (compFs F names) t ifs elt l τ res τ') (hz : l.length ≤ 1000000) (hs : ∀ env x, foldedSetIterable iter env x = pure x := by intro _ _; rfl) : Ex1W C n F (.Assign [.Name x p'] (.ListComp elt [⟨t, iter, ifs, 0⟩] scope cpos) pos) σ .next (σ₁.set i (.val (.list res))) := ⟨Ex1.assignComp i hi hl hsc hv.h hp O cp hz hs⟩
theorem EvFW.str {i : Str} {k : Nat} {pos : Pos} : EvFW C n F (.Constant (.str i) k pos) σ i σ := ⟨EvF.str ⟩
theorem EvFW.idxS {value slice : PySem.Expr} {pos : Pos} {l : List Nat} {i : Int} {c : Nat} (hv : EvW C n F value σ (.str (S l)) σ₁) (hi : EvW C n F slice σ₁ (.int i) σ₂) (h0 : 0 ≤ i) (hc : l[i.toNat]? = Option.some c) (hf : i < 2 ^ 63) (hs : ∀ x t k u, subscripted slice false (.str x t) (.int k u) = operate [.str x t, .int k u] (getItem (.str x t) (.int k u)) := by intro _ _ _ _; rfl) : EvFW C n F (.Subscript value slice pos) σ (S [c]) σ₂ := ⟨EvF.idxS hv.h hi.h h0 hc hf hs⟩
theorem EvW.string {e : PySem.Expr} {pos : Pos} {x : Str} {sp : List Int} (h : EvW C n F e σ (.mat x sp) σ₁) (hb : ∀ env, attributeBase e "string" env (eval e env) = eval e env := by intro _; rfl) (hl : ∀ o r, letTemporaryGo e o r = pure () := by intro _ _; rfl) : EvW C n F (.Attribute e "string" pos) σ (.str x) σ₁ := ⟨Ev.string h.h hb hl⟩
theorem Ex1W.forEnum {fx e₀ : PySem.Expr} {ts : List PySem.Expr} {k0 : Nat} {p0 pos cpos : Pos} {body orelse : List Stmt} {l : List V} (hf : EvW C n F fx σ (.val (.type "enumerate")) σ₁) (ha : EvW C n F e₀ σ₁ (.tup l) σ₂) (lp : Lp C n F (.Tuple ts k0 p0) body (enumL 0 l) σ₂ fl σ₃) (af : After C n F orelse fl σ₃ fl' σ') (he : ∀ env, eval (.Call fx [e₀] [] cpos) env = (do callWith cpos (← eval fx env) [] (backTo cpos (starEach [e₀] env)) []) := by intro _; rfl) (hst : ∀ env, starEach [e₀] env = [(false, eval e₀ env)] := by intro _; rfl) (hs : ∀ env x, foldedSetIterable (.Call fx [e₀] [] cpos) env x = pure x := by intro _ _; rfl) : Ex1W C n F (.For (.Tuple ts k0 p0) (.Call fx [e₀] [] cpos) body orelse pos) σ fl' σ' := ⟨Ex1.forEnum hf.h ha.h lp af he hst hs⟩
theorem EvsW.star {e : PySem.Expr} {p : Pos} {l : List V} (h : EvW C n F e σ (.list l) σ₁) (hz : l.length ≤ 1000000) : EvsW C n F [.Starred e p] σ l σ₁ := ⟨Evs.star h.h hz⟩
theorem EvW.subLam {o e2 : PySem.Expr} {params : Arguments} {body : PySem.Expr} {scope : Scope} {lp apos pos : Pos} {t : Tab} {cA : Addr} {y0 : Str} {x : Str} {g : List Int → Str → Prop} {all : List Str} {num : Nat} {τ : List Slot} (ho : EvW C (n + 2) F o σ (.val (.ref P)) σ₁) (p : PatOk C P code groups) (Lk : LamOk params scope y0) (ht : t ∈ C.T) (hd : ∀ t' ∈ C.T, t'.P = t.P → t' = t) (hl : lp.line = t.ln) (hcol : lp.col = t.col) (hq : F.qual ++ "<lambda>" = t.q) (hcode : F.code = .ref cA) (CH : CodeHd C.G cA t.P) (h2 : EvW C (n + 2) F e2 σ₁ (.str x) σ₂) (hx : x.length ≤ 16000000) (hg : ∀ sp z, g sp z → ∀ cd, EvW C n (lamFs scope t.q cd) body [.val (.mat x sp)] (.str z) τ) (d : Sub code groups x g 0 0 false num all) (hall : all.length ≤ 1000000) (hok : JoinOk ⟨#[]⟩ all = true) (hbase : ∀ env, attributeBase o "sub" env (eval o env) = eval o env := by intro _; rfl) (hfew : ∀ env, ((backTo pos (starEach [.Lambda params body scope lp, e2] env)).all (fun x => !x.1) && (backToKw pos (keywordEach [] env)).all (fun x => x.1.isSome)
      && decide (([.Lambda params body scope lp, e2] : List PySem.Expr).length + ([] : List Keyword).length + (if ([] : List Keyword).isEmpty then 0 else 1) < 30)) = true := by intro _; rfl) (hline : (apos.endLine == pos.line) = true := by rfl) (hst : ∀ env, starEach [.Lambda params body scope lp, e2] env = [(false, eval (.Lambda params body scope lp) env), (false, eval e2 env)] := by intro _; rfl) : EvW C (n + 2) F (.Call (.Attribute o "sub" apos) [.Lambda params body scope lp, e2] [] pos) σ (.str (Txt.join ⟨#[]⟩ all)) σ₂ := ⟨Ev.subLam ho.h p Lk ht hd hl hcol hq hcode CH h2.h hx (fun sp z hz cd => (hg sp z hz cd).h) d hall hok hbase hfew hline hst⟩
theorem EvW.slSG {value : PySem.Expr} {lo hi : Option PySem.Expr} {p pos : Pos} {l : List Nat} {i j : Option Int} (hv : EvW C n F value σ (.str (S l)) σ₁) (h1 : EvpW C n F lo σ₁ i σ₂) (h2 : EvpW C n F hi σ₂ j σ₃) (hi0 : ∀ k, i = Option.some k → 0 ≤ k) (hj0 : ∀ k, j = Option.some k → 0 ≤ k) (hsz : l.length ≤ 16000000) : EvW C n F (.Subscript value (.Slice lo hi Option.none p) pos) σ (.str (S (cut l i j))) σ₃ := ⟨Ev.slSG hv.h h1.h h2.h hi0 hj0 hsz⟩
theorem EvW.slLG {value : PySem.Expr} {lo hi : Option PySem.Expr} {p pos : Pos} {l : List V} {i j : Option Int} (hv : EvW C n F value σ (.list l) σ₁) (h1 : EvpW C n F lo σ₁ i σ₂) (h2 : EvpW C n F hi σ₂ j σ₃) (hi0 : ∀ k, i = Option.some k → 0 ≤ k) (hj0 : ∀ k, j = Option.some k → 0 ≤ k) (hsz : l.length ≤ 16000000) : EvW C n F (.Subscript value (.Slice lo hi Option.none p) pos) σ (.list (cut l i j)) σ₃ := ⟨Ev.slLG hv.h h1.h h2.h hi0 hj0 hsz⟩
theorem EvW.callG (i : Nat) {x : Str} {np pos : Pos} {e₀ : PySem.Expr} {args : List PySem.Expr} {vs : List V} (hi : F.names[i]? = some (x, .globalImplicit)) (ha : EvsW C n F (e₀ :: args) σ vs σ₂) (hp : PuG C x n vs v) (h2 : (x == ("__debug__" : Str)) = false := by decide) (he : ∀ env, eval (.Call (.Name x np) (e₀ :: args) [] pos) env = (do callWith pos (← eval (.Name x np) env) [] (backTo pos (starEach (e₀ :: args) env)) []) := by intro _; rfl) (hs : ∀ env, starEach (e₀ :: args) env = (false, eval e₀ env) :: starEach args env := by intro _; rfl) : EvW C n F (.Call (.Name x np) (e₀ :: args) [] pos) σ v σ₂ := ⟨Ev.callG i hi ha.h hp h2 he hs⟩
theorem EvW.callN (i : Nat) {x : Str} {np pos : Pos} {e₀ : PySem.Expr} {args : List PySem.Expr} {vs : List V} {fv : Value} (j : Nat) (g : Gd C) (hi : F.names[i]? = some (x, .globalImplicit)) (hx : bnames[j]? = some x) (hb : bvals[j]? = some fv) (ha : EvsW C n F (e₀ :: args) σ vs σ₂) (hp : Pu C n (fun us => PySem.call fv us) vs v) (hfv : (∃ id, fv = .builtin id) ∨ ∃ id, fv = .type id) (h2 : (x == ("__debug__" : Str)) = false := by decide) (he : ∀ env, eval (.Call (.Name x np) (e₀ :: args) [] pos) env = (do callWith pos (← eval (.Name x np) env) [] (backTo pos (starEach (e₀ :: args) env)) []) := by intro _; rfl) (hs : ∀ env, starEach (e₀ :: args) env = (false, eval e₀ env) :: starEach args env := by intro _; rfl) (hpl : ∀ env, (backTo pos (starEach (e₀ :: args) env)).any (·.1) = false := by intro _; rfl) : EvW C n F (.Call (.Name x np) (e₀ :: args) [] pos) σ v σ₂ := ⟨Ev.callN i j g hi hx hb ha.h hp hfv h2 he hs hpl⟩
theorem EvW.bltnN (i j : Nat) {x : Str} {pos : Pos} {fv : Value} (g : Gd C) (hi : F.names[i]? = some (x, .globalImplicit)) (hx : bnames[j]? = some x) (hb : bvals[j]? = some fv) (h2 : (x == ("__debug__" : Str)) = false := by decide) : EvW C n F (.Name x pos) σ (.val fv) σ := ⟨Ev.bltnN i j g hi hx hb h2⟩
theorem EvW.strS {i : Str} {k : Nat} {pos : Pos} (l : List Nat) (h : i = S l) : EvW C n F (.Constant (.str i) k pos) σ (.str (S l)) σ := ⟨Ev.strS l h⟩
theorem EvW.to {e : PySem.Expr} {v w : V} (h : EvW C n F e σ v σ') (q : v = w) : EvW C n F e σ w σ' := ⟨Ev.to h.h q⟩
theorem ItW.to {e : PySem.Expr} {b d : Bool} (h : ItW C n F e σ b σ') (q : b = d) : ItW C n F e σ d σ' := ⟨It.to h.h q⟩
theorem Ex1W.swapN (i j : Nat) {x y : Str} {px py tp p' pos : Pos} {k k' : Nat} {v1 v2 : PySem.Expr} (h : EvW C n F (.Tuple [v1, v2] k' p') σ (.tup [a, b]) σ₁) (hi : F.names[i]? = some (x, .local)) (hj : F.names[j]? = some (y, .local)) (hl : (py.line == px.line) = true) (hne : (y == x) = false) (hs : ([v1, v2].any fun | .Starred .. => true | _ => false) = false) (hf : [v1, v2].all (foldedForSure 8) = false) (hc : [v1, v2].all (constantsAlone 8) = false) (hw : ∀ env, swapsWithSole [.Tuple [.Name x px, .Name y py] k tp] (.Tuple [v1, v2] k' p') pos.line env = pure false := by intro _; rfl) : Ex1W C n F (.Assign [.Tuple [.Name x px, .Name y py] k tp] (.Tuple [v1, v2] k' p') pos) σ .next ((σ₁.set j (.val b)).set i (.val a)) := ⟨Ex1.swapN i j h.h hi hj hl hne hs hf hc hw⟩
theorem PuGW.of_def {d : DefRec} {args : List V} {res : V} {N : List (Str × NameKind)} (k : Nat) (D : Df C d) (hc : okCall d k = true) (hb : BindOk d k) (hN : d.scope.names = N)
    (hbody : ∀ cd q, ∃ σ', ExW C n (fs N q cd) d.body (args.map .val ++ List.replicate (N.length - k) .unset) (.ret res) σ') (hl : args.length = k := by rfl) : PuG C d.name (n + 1) args res :=
  PuG.of_def k D hc hb hN (fun cd q => (hbody cd q).imp fun _ h => h.h) hl
theorem PuGW.of_defL {d : DefRec} {ln col : Nat} {args : List V} {res : V} {N : List (Str × NameKind)} (k : Nat) (D : Df C d) (La : LamAt C d ln col) (hc : okCall d k = true) (hb : BindOk d k) (hN : d.scope.names = N)
    (hbody : ∀ cA t, t ∈ C.T → CodeHd C.G cA t.P → t.ln = ln → t.col = col → t.q = d.name ++ ".<locals>." ++ "<lambda>" → (∀ t' ∈ C.T, t'.P = t.P → t' = t) → ∃ σ', ExW C n (fs N (d.name ++ ".<locals>.") (.ref cA)) d.body (args.map .val ++ List.replicate (N.length - k) .unset) (.ret res) σ') (hl : args.length = k := by rfl) : PuG C d.name (n + 1) args res :=
  PuG.of_defL k D La hc hb hN (fun cA t h1 h2 h3 h4 h5 h6 => (hbody cA t h1 h2 h3 h4 h5 h6).imp fun _ h => h.h) hl
theorem PuGW.of_defV {d : DefRec} {args more : List V} {res : V} {N : List (Str × NameKind)} (k : Nat) (D : Df C d) (hc : okCall d (k + 1) = true) (hl : args.length = k) (hm : more.length ≤ 1000000) (hb : BindOkV d k more.length) (hN : d.scope.names = N)
    (hbody : ∀ cd q, ∃ σ', ExW C n (fs N q cd) d.body ((args ++ [V.tup more]).map Slot.val ++ List.replicate (N.length - (k + 1)) .unset) (.ret res) σ') : PuG C d.name (n + 1) (args ++ more) res :=
  PuG.of_defV k D hc hl hm hb hN (fun cd q => (hbody cd q).imp fun _ h => h.h)
end
end Mine
end
section
set_option tactic.hygienic false
open PySem PySem.Calls PySem.W PyProof.Rows
namespace Mine
section
variable {C : Cx} {n : Nat}
noncomputable def N21 : List (Str × NameKind) := [("path", .local), ("kind", .local), ("hook", .local), ("given", .local), ("type", .globalImplicit), ("issubclass", .globalImplicit), ("str", .globalImplicit), ("bytes", .globalImplicit), ("_abc_plain_meta", .globalImplicit), ("getattr", .globalImplicit), ("TypeError", .globalImplicit), ("_plain_name", .globalImplicit), ("_wall", .globalImplicit), ("len", .globalImplicit)]
theorem fspath_pu (g : Gd C) {x : Str} : PuG C "fspath" (n + 1) [.str x] (.str x) := by
  show PuG C (dr 21).name _ _ _
  exact PuGW.of_def (d := dr 21) 1 (g.df 21) (by decide +kernel) (bind1 21 fun _ _ _ _ => rfl) (N := N21) rfl fun cd q => ⟨_, (ExW.cons (Ex1W.assign 1 (EvW.callN 4 3 g rfl rfl rfl (EvsW.cons (EvW.name 0 rfl rfl rfl rfl) EvsW.nil) Pu.typeS (.inr ⟨_, rfl⟩)) rfl (.inl rfl)) (ExW.ret (Ex1W.ifT (ItW.plain (fun _ _ => rfl) (EvW.callN 5 4 g rfl rfl rfl (EvsW.cons (EvW.name 1 rfl rfl rfl rfl) (EvsW.cons (EvW.tuple (EvsW.cons (EvW.bltnN 6 1 g rfl rfl rfl) (EvsW.cons (EvW.bltnN 7 2 g rfl rfl rfl) EvsW.nil)) (by simp)) EvsW.nil)) Pu.issub (.inl ⟨_, rfl⟩)) Tr.bool) (ExW.ret (Ex1W.ret (EvW.name 0 rfl rfl rfl rfl))))))⟩
noncomputable def N25 : List (Str × NameKind) := [("path", .local), ("isinstance", .globalImplicit), ("bytes", .globalImplicit)]
theorem getsep_pu (g : Gd C) {x : Str} : PuG C "_get_sep" (n + 1) [.str x] (.str (S [47])) := by
  show PuG C (dr 25).name _ _ _
  exact PuGW.of_def (d := dr 25) 1 (g.df 25) (by decide +kernel) (bind1 25 fun _ _ _ _ => rfl) (N := N25) rfl fun cd q => ⟨_, (ExW.ret (Ex1W.ifF (ItW.plain (fun _ _ => rfl) (EvW.callN 1 0 g rfl rfl rfl (EvsW.cons (EvW.name 0 rfl rfl rfl rfl) (EvsW.cons (EvW.bltnN 2 2 g rfl rfl rfl) EvsW.nil)) Pu.isBytes (.inl ⟨_, rfl⟩)) Tr.bool) (ExW.ret (Ex1W.ret (EvW.strS [47] (by decide +kernel))))))⟩
noncomputable def N31 : List (Str × NameKind) := [("mode", .local)]
theorem simode_pu (g : Gd C) {m : Int} : PuG C "S_IMODE" (n + 1) [.int m] (.int (Builtin.bitAnd m 4095)) := by
  show PuG C (dr 31).name _ _ _
  exact PuGW.of_def (d := dr 31) 1 (g.df 31) (by decide +kernel) (bind1 31 fun _ _ _ _ => rfl) (N := N31) rfl fun cd q => ⟨_, (ExW.ret (Ex1W.ret (EvW.binop (EvW.name 0 rfl rfl rfl rfl) EvW.int Op2.andI)))⟩
noncomputable def N32 : List (Str × NameKind) := [("mode", .local)]
theorem sifmt_pu (g : Gd C) {m : Int} : PuG C "S_IFMT" (n + 1) [.int m] (.int (Builtin.bitAnd m 61440)) := by
  show PuG C (dr 32).name _ _ _
  exact PuGW.of_def (d := dr 32) 1 (g.df 32) (by decide +kernel) (bind1 32 fun _ _ _ _ => rfl) (N := N32) rfl fun cd q => ⟨_, (ExW.ret (Ex1W.ret (EvW.binop (EvW.name 0 rfl rfl rfl rfl) EvW.int Op2.andI)))⟩
noncomputable def N27 : List (Str × NameKind) := [("p", .local), ("sep", .local), ("i", .local), ("head", .local), ("tail", .local), ("fspath", .globalImplicit), ("_get_sep", .globalImplicit), ("len", .globalImplicit)]
theorem split0_pu (g : Gd C) {b : List Nat} (h : 47 ∉ b) (hz : b.length ≤ 1000000) : PuG C "split" (n + 2) [.str (S (47 :: b))] (.tup [.str (S [47]), .str (S b)]) := by
  show PuG C (dr 27).name _ _ _
  have hlo : cut ([] ++ 47 :: b) none (some ((([] : List Nat).length : Int) + 1)) = [47] := by
    have := cut_lo (l := [] ++ 47 :: b) (k := 1); simpa using this
  have hhi : cut ([] ++ 47 :: b) (some ((([] : List Nat).length : Int) + 1)) none = b := by
    have := cut_hi (l := [] ++ 47 :: b) (k := 1); simpa using this
  show PuG C (dr 27).name _ [.str (S ([] ++ 47 :: b))] _
  exact PuGW.of_def (d := dr 27) 1 (g.df 27) (by decide +kernel) (bind1 27 fun _ _ _ _ => rfl) (N := N27) rfl fun cd q => ⟨_, (ExW.cons (Ex1W.assign 0 (EvW.callG 5 rfl (EvsW.cons (EvW.name 0 rfl rfl rfl rfl) EvsW.nil) (fspath_pu g)) rfl (.inl rfl)) (ExW.cons (Ex1W.assign 1 (EvW.callG 6 rfl (EvsW.cons (EvW.name 0 rfl rfl rfl rfl) EvsW.nil) (getsep_pu g)) rfl (.inl rfl)) (ExW.cons (Ex1W.assign 2 (EvW.binop (EvW.meth (EvW.name 0 rfl rfl rfl rfl) (EvsW.cons (EvW.name 1 rfl rfl rfl rfl) EvsW.nil) HasT.str mi_rfind (Pu.rfindT rfl h)) EvW.int Op2.addI) rfl (.inl rfl)) (ExW.cons (Ex1W.swapN 3 4 (EvW.tuple (EvsW.cons (EvW.to (EvW.slSG (EvW.name 0 rfl rfl rfl rfl) EvpW.none (EvpW.some (EvW.name 2 rfl rfl rfl rfl)) (by simp <;> omega) (by simp <;> omega) (by first | decide | omega | (simp only [List.length_append, List.length_cons, List.length_nil, List.length_map, List.length_replicate]; omega))) (by rw [hlo])) (EvsW.cons (EvW.to (EvW.slSG (EvW.name 0 rfl rfl rfl rfl) (EvpW.some (EvW.name 2 rfl rfl rfl rfl)) EvpW.none (by simp <;> omega) (by simp <;> omega) (by first | decide | omega | (simp only [List.length_append, List.length_cons, List.length_nil, List.length_map, List.length_replicate]; omega))) (by rw [hhi])) EvsW.nil)) (by simp)) rfl rfl rfl (by decide +kernel) rfl rfl rfl) (ExW.cons (Ex1W.ifF (ItW.boolop (ItsW.goAnd (ItW.to (ItW.plain (fun _ _ => rfl) (EvW.name 3 rfl rfl rfl rfl) (Tr.str (by first | decide | omega | (simp only [List.length_append, List.length_cons, List.length_nil, List.length_map, List.length_replicate]; omega)))) (by rw [bne_iff_ne]; simp)) (ItsW.stopAnd (ItW.to (ItW.cmp (EvW.name 3 rfl rfl rfl rfl) (EvW.binop (EvW.name 1 rfl rfl rfl rfl) (EvW.callN 7 5 g rfl rfl rfl (EvsW.cons (EvW.name 3 rfl rfl rfl rfl) EvsW.nil) (Pu.lenT (by first | decide | omega | (simp only [List.length_append, List.length_cons, List.length_nil, List.length_map, List.length_replicate]; omega))) (.inl ⟨_, rfl⟩)) (Op2.mulT (by first | decide | omega | (simp only [List.length_append, List.length_cons, List.length_nil, List.length_map, List.length_replicate]; omega)))) Op2.neT rfl) (by decide))))) ExW.nil) (ExW.ret (Ex1W.ret (EvW.tuple (EvsW.cons (EvW.name 3 rfl rfl rfl rfl) (EvsW.cons (EvW.name 4 rfl rfl rfl rfl) EvsW.nil)) (by simp)))))))))⟩
theorem split1_pu (g : Gd C) {d b : List Nat} (h : 47 ∉ b) (hd : ∀ c, d.getLast? = some c → c ≠ 47) (hd0 : d ≠ []) (hz : d.length + b.length ≤ 1000000) : PuG C "split" (n + 2) [.str (S (d ++ 47 :: b))] (.tup [.str (S d), .str (S b)]) := by
  show PuG C (dr 27).name _ _ _
  have hlo : cut (d ++ 47 :: b) none (some ((d.length : Int) + 1)) = d ++ [47] := by
    have := cut_lo (l := d ++ 47 :: b) (k := d.length + 1); rw [show ((d.length + 1 : Nat) : Int) = (d.length : Int) + 1 from by omega] at this; rw [this, List.take_append]; rw [show d.length + 1 - d.length = 1 from by omega, List.take_of_length_le (by omega)]; rfl
  have hhi : cut (d ++ 47 :: b) (some ((d.length : Int) + 1)) none = b := by
    have := cut_hi (l := d ++ 47 :: b) (k := d.length + 1); rw [show ((d.length + 1 : Nat) : Int) = (d.length : Int) + 1 from by omega] at this; rw [this, List.drop_append]; simp
  have hne : d ++ [47] ≠ List.replicate (d ++ [47]).length 47 := by
    intro q
    cases e : d.getLast? with
    | none => exact hd0 (List.getLast?_eq_none_iff.mp e)
    | some c =>
      have hm := List.mem_of_getLast? e
      have : c ∈ List.replicate (d ++ [47]).length 47 := by rw [← q]; exact List.mem_append_left _ hm
      exact hd c e (List.eq_of_mem_replicate this)
  exact PuGW.of_def (d := dr 27) 1 (g.df 27) (by decide +kernel) (bind1 27 fun _ _ _ _ => rfl) (N := N27) rfl fun cd q => ⟨_, (ExW.cons (Ex1W.assign 0 (EvW.callG 5 rfl (EvsW.cons (EvW.name 0 rfl rfl rfl rfl) EvsW.nil) (fspath_pu g)) rfl (.inl rfl)) (ExW.cons (Ex1W.assign 1 (EvW.callG 6 rfl (EvsW.cons (EvW.name 0 rfl rfl rfl rfl) EvsW.nil) (getsep_pu g)) rfl (.inl rfl)) (ExW.cons (Ex1W.assign 2 (EvW.binop (EvW.meth (EvW.name 0 rfl rfl rfl rfl) (EvsW.cons (EvW.name 1 rfl rfl rfl rfl) EvsW.nil) HasT.str mi_rfind (Pu.rfindT rfl h)) EvW.int Op2.addI) rfl (.inl rfl)) (ExW.cons (Ex1W.swapN 3 4 (EvW.tuple (EvsW.cons (EvW.to (EvW.slSG (EvW.name 0 rfl rfl rfl rfl) EvpW.none (EvpW.some (EvW.name 2 rfl rfl rfl rfl)) (by simp <;> omega) (by simp <;> omega) (by first | decide | omega | (simp only [List.length_append, List.length_cons, List.length_nil, List.length_map, List.length_replicate]; omega))) (by rw [hlo])) (EvsW.cons (EvW.to (EvW.slSG (EvW.name 0 rfl rfl rfl rfl) (EvpW.some (EvW.name 2 rfl rfl rfl rfl)) EvpW.none (by simp <;> omega) (by simp <;> omega) (by first | decide | omega | (simp only [List.length_append, List.length_cons, List.length_nil, List.length_map, List.length_replicate]; omega))) (by rw [hhi])) EvsW.nil)) (by simp)) rfl rfl rfl (by decide +kernel) rfl rfl rfl) (ExW.cons (Ex1W.ifT (ItW.boolop (ItsW.goAnd (ItW.to (ItW.plain (fun _ _ => rfl) (EvW.name 3 rfl rfl rfl rfl) (Tr.str (by first | decide | omega | (simp only [List.length_append, List.length_cons, List.length_nil, List.length_map, List.length_replicate]; omega)))) (by rw [bne_iff_ne]; simp)) (ItsW.goAnd (ItW.to (ItW.cmp (EvW.name 3 rfl rfl rfl rfl) (EvW.binop (EvW.name 1 rfl rfl rfl rfl) (EvW.callN 7 5 g rfl rfl rfl (EvsW.cons (EvW.name 3 rfl rfl rfl rfl) EvsW.nil) (Pu.lenT (by first | decide | omega | (simp only [List.length_append, List.length_cons, List.length_nil, List.length_map, List.length_replicate]; omega))) (.inl ⟨_, rfl⟩)) (Op2.mulT (by first | decide | omega | (simp only [List.length_append, List.length_cons, List.length_nil, List.length_map, List.length_replicate]; omega)))) Op2.neT rfl) (by rw [bne_iff_ne]; exact hne)) ItsW.nilAnd))) (ExW.cons (Ex1W.assign 3 (EvW.meth (EvW.name 3 rfl rfl rfl rfl) (EvsW.cons (EvW.name 1 rfl rfl rfl rfl) EvsW.nil) HasT.str mi_rstrip (Pu.rstripCT hd (by omega))) rfl (.inl rfl)) ExW.nil)) (ExW.ret (Ex1W.ret (EvW.tuple (EvsW.cons (EvW.name 3 rfl rfl rfl rfl) (EvsW.cons (EvW.name 4 rfl rfl rfl rfl) EvsW.nil)) (by simp)))))))))⟩
end
end Mine
end
section
set_option tactic.hygienic false
open PySem PySem.Calls PySem.W PyProof.Rows
namespace Mine
section
variable {C : Cx} {n : Nat}
theorem Tr.to {a : V} {b d : Bool} (h : Tr C n a b) (q : b = d) : Tr C n a d := q ▸ h
theorem Tr.strT {l : List Nat} (h : l ≠ []) (hz : l.length ≤ 16000000) : Tr C n (.str (S l)) true := Tr.to (Tr.str hz) (by cases l with | nil => exact absurd rfl h | cons => simp)
theorem Tr.strF : Tr C n (.str (S [])) false := Tr.to (Tr.str (by simp)) (by simp)
noncomputable def pj (p b : List Nat) : List Nat := if b.head? = some 47 then b else if p.getLast? = some 47 then p ++ b else p ++ ([47] ++ b)
noncomputable def fS (y : List Nat) : V := .str (S y)
noncomputable def N26 : List (Str × NameKind) := [("a", .local), ("p", .local), ("sep", .local), ("path", .local), ("b", .local), ("fspath", .globalImplicit), ("_get_sep", .globalImplicit), ("TypeError", .globalImplicit), ("AttributeError", .globalImplicit), ("BytesWarning", .globalImplicit), ("_check_arg_types", .globalImplicit)]
noncomputable def loop26 : Stmt := nth (sBody (nth (dr 26).body 3)) 0
theorem join_body (g : Gd C) {q cd a0 p0} {s : Slot} {p b : List Nat} (hp : p ≠ []) (hz : p.length + b.length ≤ 1000000) : ExW C (n + 1) (fs N26 q cd) (sBody loop26) [.val a0, .val p0, .val (.str (S [47])), .val (.str (S p)), .val (.str (S b)), .unset, .unset, .unset, .unset, .unset, .unset] .next [.val a0, .val p0, .val (.str (S [47])), .val (.str (S (pj p b))), .val (.str (S b)), .unset, .unset, .unset, .unset, .unset, .unset] := by
  by_cases h1 : b.head? = some 47
  · have e : pj p b = b := by unfold pj; rw [if_pos h1]
    rw [e]
    exact (ExW.cons (Ex1W.assign 4 (EvW.callG 5 rfl (EvsW.cons (EvW.name 4 rfl rfl rfl rfl) EvsW.nil) (fspath_pu g)) rfl (.inl rfl)) (ExW.cons (Ex1W.ifT (ItW.boolop (ItsW.stopOr (ItW.to (ItW.plain (fun _ _ => rfl) (EvW.meth (EvW.name 4 rfl rfl rfl rfl) (EvsW.cons (EvW.name 2 rfl rfl rfl rfl) EvsW.nil) HasT.str mi_startswith Pu.startsT) Tr.bool) (by rw [h1]; rfl)))) (ExW.cons (Ex1W.assign 3 (EvW.name 4 rfl rfl rfl rfl) rfl (.inl rfl)) ExW.nil)) ExW.nil))
  · by_cases h2 : p.getLast? = some 47
    · have e : pj p b = p ++ b := by unfold pj; rw [if_neg h1, if_pos h2]
      rw [e]
      exact (ExW.cons (Ex1W.assign 4 (EvW.callG 5 rfl (EvsW.cons (EvW.name 4 rfl rfl rfl rfl) EvsW.nil) (fspath_pu g)) rfl (.inl rfl)) (ExW.cons (Ex1W.ifF (ItW.boolop (ItsW.goOr (ItW.to (ItW.plain (fun _ _ => rfl) (EvW.meth (EvW.name 4 rfl rfl rfl rfl) (EvsW.cons (EvW.name 2 rfl rfl rfl rfl) EvsW.nil) HasT.str mi_startswith Pu.startsT) Tr.bool) (by rw [beq_eq_false_iff_ne]; exact h1)) (ItsW.goOr (ItW.notF (ItW.to (ItW.plain (fun _ _ => rfl) (EvW.name 3 rfl rfl rfl rfl) (Tr.str (by first | decide | omega | (simp only [List.length_append, List.length_cons, List.length_nil, List.length_map, List.length_replicate]; omega)))) (by cases p with | nil => exact absurd rfl hp | cons => simp))) ItsW.nilOr))) (ExW.cons (Ex1W.ifT (ItW.to (ItW.plain (fun _ _ => rfl) (EvW.meth (EvW.name 3 rfl rfl rfl rfl) (EvsW.cons (EvW.name 2 rfl rfl rfl rfl) EvsW.nil) HasT.str mi_endswith Pu.endsT) Tr.bool) (by rw [h2]; rfl)) (ExW.cons (Ex1W.aug 3 rfl (.inl rfl) rfl rfl (EvW.name 4 rfl rfl rfl rfl) (Op2.iaddT (by first | decide | omega | (simp only [List.length_append, List.length_cons, List.length_nil, List.length_map, List.length_replicate]; omega)))) ExW.nil)) ExW.nil)) ExW.nil))
    · have e : pj p b = p ++ ([47] ++ b) := by unfold pj; rw [if_neg h1, if_neg h2]
      rw [e]
      exact (ExW.cons (Ex1W.assign 4 (EvW.callG 5 rfl (EvsW.cons (EvW.name 4 rfl rfl rfl rfl) EvsW.nil) (fspath_pu g)) rfl (.inl rfl)) (ExW.cons (Ex1W.ifF (ItW.boolop (ItsW.goOr (ItW.to (ItW.plain (fun _ _ => rfl) (EvW.meth (EvW.name 4 rfl rfl rfl rfl) (EvsW.cons (EvW.name 2 rfl rfl rfl rfl) EvsW.nil) HasT.str mi_startswith Pu.startsT) Tr.bool) (by rw [beq_eq_false_iff_ne]; exact h1)) (ItsW.goOr (ItW.notF (ItW.to (ItW.plain (fun _ _ => rfl) (EvW.name 3 rfl rfl rfl rfl) (Tr.str (by first | decide | omega | (simp only [List.length_append, List.length_cons, List.length_nil, List.length_map, List.length_replicate]; omega)))) (by cases p with | nil => exact absurd rfl hp | cons => simp))) ItsW.nilOr))) (ExW.cons (Ex1W.ifF (ItW.to (ItW.plain (fun _ _ => rfl) (EvW.meth (EvW.name 3 rfl rfl rfl rfl) (EvsW.cons (EvW.name 2 rfl rfl rfl rfl) EvsW.nil) HasT.str mi_endswith Pu.endsT) Tr.bool) (by rw [beq_eq_false_iff_ne]; exact h2)) (ExW.cons (Ex1W.aug 3 rfl (.inl rfl) rfl rfl (EvW.binop (EvW.name 2 rfl rfl rfl rfl) (EvW.name 4 rfl rfl rfl rfl) (Op2.addT (by first | decide | omega | (simp only [List.length_append, List.length_cons, List.length_nil, List.length_map, List.length_replicate]; omega)))) (Op2.iaddT (by first | decide | omega | (simp only [List.length_append, List.length_cons, List.length_nil, List.length_map, List.length_replicate]; omega)))) ExW.nil)) ExW.nil)) ExW.nil))
set_option tactic.hygienic true in
theorem pj_ne {p b : List Nat} (hp : p ≠ []) : pj p b ≠ [] := by
  unfold pj; split
  · rename_i h; intro e; rw [e] at h; cases h
  · split <;> simp [hp]
theorem pj_len {p b : List Nat} : (pj p b).length ≤ p.length + b.length + 1 := by
  unfold pj; split
  · omega
  · split <;> simp <;> omega
theorem join_pu (g : Gd C) {a b c : List Nat} (ha : a ≠ []) (hz : a.length + b.length + c.length ≤ 100000) : PuG C "join" (n + 2) [.str (S a), .str (S b), .str (S c)] (.str (S (pj (pj a b) c))) := by
  show PuG C (dr 26).name _ ([.str (S a)] ++ [.str (S b), .str (S c)]) _
  refine PuGW.of_defV (d := dr 26) 1 (g.df 26) (by decide +kernel) rfl (by simp) (fun pm cd doc us ws hu hw => ?_) (N := N26) rfl fun cd q => ⟨_, (ExW.cons (Ex1W.assign 0 (EvW.callG 5 rfl (EvsW.cons (EvW.name 0 rfl rfl rfl rfl) EvsW.nil) (fspath_pu g)) rfl (.inl rfl)) (ExW.cons (Ex1W.assign 2 (EvW.callG 6 rfl (EvsW.cons (EvW.name 0 rfl rfl rfl rfl) EvsW.nil) (getsep_pu g)) rfl (.inl rfl)) (ExW.cons (Ex1W.assign 3 (EvW.name 0 rfl rfl rfl rfl) rfl (.inl rfl)) (ExW.cons (Ex1W.tryNext (ExW.cons (Ex1W.for (EvW.name 1 rfl rfl rfl rfl) PyIt.tup (LpW.next (AsW.name 4 rfl (.inl rfl)) (join_body g (s := .unset) ha (by omega)) (LpW.next (AsW.name 4 rfl (.inl rfl)) (join_body g (s := .val (.str (S b))) (pj_ne ha) (by have := @pj_len a b; omega)) LpW.nil)) (AfterW.next ExW.nil)) ExW.nil) ExW.nil) (ExW.ret (Ex1W.ret (EvW.name 3 rfl rfl rfl rfl)))))))⟩
  obtain ⟨u, r, rfl, h⟩ := lenS hu
  obtain rfl := List.length_eq_zero_iff.mp h
  obtain ⟨v, r1, rfl, h1⟩ := lenS hw
  obtain ⟨w, r2, rfl, h2⟩ := lenS h1
  obtain rfl := List.length_eq_zero_iff.mp h2
  rfl
noncomputable def N28 : List (Str × NameKind) := [("p", .local), ("sep", .local), ("empty", .local), ("fspath", .globalImplicit), ("isinstance", .globalImplicit), ("bytes", .globalImplicit)]
theorem splitroot_pu (g : Gd C) {t : List Nat} (h : t.head? ≠ some 47) (hz : t.length ≤ 1000000) : PuG C "splitroot" (n + 2) [.str (S (47 :: t))] (.tup [.str (S []), .str (S [47]), .str (S t)]) := by
  show PuG C (dr 28).name _ _ _
  exact PuGW.of_def (d := dr 28) 1 (g.df 28) (by decide +kernel) (bind1 28 fun _ _ _ _ => rfl) (N := N28) rfl fun cd q => ⟨_, (ExW.cons (Ex1W.assign 0 (EvW.callG 3 rfl (EvsW.cons (EvW.name 0 rfl rfl rfl rfl) EvsW.nil) (fspath_pu g)) rfl (.inl rfl)) (ExW.cons (Ex1W.ifF (ItW.plain (fun _ _ => rfl) (EvW.callN 4 0 g rfl rfl rfl (EvsW.cons (EvW.name 0 rfl rfl rfl rfl) (EvsW.cons (EvW.bltnN 5 2 g rfl rfl rfl) EvsW.nil)) Pu.isBytes (.inl ⟨_, rfl⟩)) Tr.bool) (ExW.cons (Ex1W.assign 1 (EvW.strS [47] (by decide +kernel)) rfl (.inl rfl)) (ExW.cons (Ex1W.assign 2 (EvW.strS [] (by decide +kernel)) rfl (.inl rfl)) ExW.nil))) (ExW.ret (Ex1W.ifF (ItW.to (ItW.cmp (EvW.slSG (EvW.name 0 rfl rfl rfl rfl) EvpW.none (EvpW.some EvW.int) (by simp <;> omega) (by simp <;> omega) (by first | decide | omega | (simp only [List.length_append, List.length_cons, List.length_nil, List.length_map, List.length_replicate]; omega))) (EvW.name 1 rfl rfl rfl rfl) Op2.neT rfl) (by simp [cut])) (ExW.ret (Ex1W.ifT (ItW.boolop (ItsW.stopOr (ItW.to (ItW.cmp (EvW.slSG (EvW.name 0 rfl rfl rfl rfl) (EvpW.some EvW.int) (EvpW.some EvW.int) (by simp <;> omega) (by simp <;> omega) (by first | decide | omega | (simp only [List.length_append, List.length_cons, List.length_nil, List.length_map, List.length_replicate]; omega))) (EvW.name 1 rfl rfl rfl rfl) Op2.neT rfl) (by cases t with | nil => simp [cut] | cons x r => simp [cut]; simpa using h)))) (ExW.ret (Ex1W.ret (EvW.tuple (EvsW.cons (EvW.name 2 rfl rfl rfl rfl) (EvsW.cons (EvW.name 1 rfl rfl rfl rfl) (EvsW.cons (EvW.to (EvW.slSG (EvW.name 0 rfl rfl rfl rfl) (EvpW.some EvW.int) EvpW.none (by simp <;> omega) (by simp <;> omega) (by first | decide | omega | (simp only [List.length_append, List.length_cons, List.length_nil, List.length_map, List.length_replicate]; omega))) (by show V.str (S (cut (47 :: t) (some 1) none)) = V.str (S t); congr 2; simp [cut])) EvsW.nil))) (by simp))))))))))⟩
noncomputable def N29 : List (Str × NameKind) := [("path", .local), ("sep", .local), ("dot", .local), ("dotdot", .local), ("_", .local), ("initial_slashes", .local), ("comps", .local), ("new_comps", .local), ("comp", .local), ("fspath", .globalImplicit), ("isinstance", .globalImplicit), ("bytes", .globalImplicit), ("splitroot", .globalImplicit)]
noncomputable def loop29 : Stmt := nth (dr 29).body 6
noncomputable def sg29 (p cs : V) (nc : Slot) (c : Slot) : List Slot := [.val p, .val (.str (S [47])), .val (.str (S [46])), .val (.str (S [46, 46])), .val (.str (S [])), .val (.str (S [47])), .val cs, nc, c, .unset, .unset, .unset, .unset]
noncomputable def nst (acc : List (List Nat)) (c : List Nat) : List (List Nat) := if c = [] ∨ c = [46] then acc else if c = [46, 46] then acc.dropLast else acc ++ [c]
set_option tactic.hygienic true in
theorem nst_inv {acc : List (List Nat)} {c : List Nat} (h : ∀ y ∈ acc, y ≠ [46, 46]) : ∀ y ∈ nst acc c, y ≠ [46, 46] := by
  unfold nst; split
  · exact h
  · split
    · exact fun y hy => h y (List.dropLast_subset _ hy)
    · rename_i h2
      intro y hy
      rcases List.mem_append.mp hy with hy | hy
      · exact h y hy
      · rw [List.mem_singleton.mp hy]; exact h2
theorem nst_len {acc : List (List Nat)} {c : List Nat} : (nst acc c).length ≤ acc.length + 1 := by
  unfold nst; split
  · omega
  · split <;> simp; omega
theorem norm_a (g : Gd C) {q cd p cs} {acc : List (List Nat)} : ExW C (n + 2) (fs N29 q cd) (sBody loop29) (sg29 p cs (.own (acc.map fS)) (.val (.str (S [])))) .cont (sg29 p cs (.own (acc.map fS)) (.val (.str (S [])))) := by
  exact (ExW.cont (Ex1W.ifT (ItW.boolop (ItsW.stopOr (ItW.notT (ItW.to (ItW.plain (fun _ _ => rfl) (EvW.name 8 rfl rfl rfl rfl) (Tr.str (by first | decide | omega | (simp only [List.length_append, List.length_cons, List.length_nil, List.length_map, List.length_replicate]; omega)))) (by simp))))) (ExW.cont Ex1W.cont)))
theorem norm_b (g : Gd C) {q cd p cs} {acc : List (List Nat)} : ExW C (n + 2) (fs N29 q cd) (sBody loop29) (sg29 p cs (.own (acc.map fS)) (.val (.str (S [46])))) .cont (sg29 p cs (.own (acc.map fS)) (.val (.str (S [46])))) := by
  exact (ExW.cont (Ex1W.ifT (ItW.boolop (ItsW.goOr (ItW.notF (ItW.to (ItW.plain (fun _ _ => rfl) (EvW.name 8 rfl rfl rfl rfl) (Tr.str (by first | decide | omega | (simp only [List.length_append, List.length_cons, List.length_nil, List.length_map, List.length_replicate]; omega)))) (by simp))) (ItsW.stopOr (ItW.to (ItW.cmp (EvW.name 8 rfl rfl rfl rfl) (EvW.name 2 rfl rfl rfl rfl) Op2.eqT rfl) (by decide))))) (ExW.cont Ex1W.cont)))
theorem norm_c (g : Gd C) {q cd p cs} {acc : List (List Nat)} {c : List Nat} (h0 : c ≠ []) (h1 : c ≠ [46]) (h2 : c ≠ [46, 46]) (hz : acc.length ≤ 100000) (hc : c.length ≤ 1000000) : ExW C (n + 2) (fs N29 q cd) (sBody loop29) (sg29 p cs (.own (acc.map fS)) (.val (.str (S c)))) .next (sg29 p cs (.own (acc.map fS ++ [fS c])) (.val (.str (S c)))) := by
  exact (ExW.cons (Ex1W.ifF (ItW.boolop (ItsW.goOr (ItW.notF (ItW.to (ItW.plain (fun _ _ => rfl) (EvW.name 8 rfl rfl rfl rfl) (Tr.str (by first | decide | omega | (simp only [List.length_append, List.length_cons, List.length_nil, List.length_map, List.length_replicate]; omega)))) (by cases c with | nil => exact absurd rfl h0 | cons => simp))) (ItsW.goOr (ItW.to (ItW.cmp (EvW.name 8 rfl rfl rfl rfl) (EvW.name 2 rfl rfl rfl rfl) Op2.eqT rfl) (by rw [beq_eq_false_iff_ne]; exact h1)) ItsW.nilOr))) ExW.nil) (ExW.cons (Ex1W.ifT (ItW.boolop (ItsW.stopOr (ItW.to (ItW.cmp (EvW.name 8 rfl rfl rfl rfl) (EvW.name 3 rfl rfl rfl rfl) Op2.neT rfl) (by rw [bne_iff_ne]; exact h2)))) (ExW.cons (Ex1W.append 7 rfl rfl rfl rfl (EvW.name 8 rfl rfl rfl rfl) rfl (by first | decide | omega | (simp only [List.length_append, List.length_cons, List.length_nil, List.length_map, List.length_replicate]; omega))) ExW.nil)) ExW.nil))
theorem norm_d (g : Gd C) {q cd p cs} : ExW C (n + 2) (fs N29 q cd) (sBody loop29) (sg29 p cs (.own []) (.val (.str (S [46, 46])))) .next (sg29 p cs (.own []) (.val (.str (S [46, 46])))) := by
  exact (ExW.cons (Ex1W.ifF (ItW.boolop (ItsW.goOr (ItW.notF (ItW.to (ItW.plain (fun _ _ => rfl) (EvW.name 8 rfl rfl rfl rfl) (Tr.str (by first | decide | omega | (simp only [List.length_append, List.length_cons, List.length_nil, List.length_map, List.length_replicate]; omega)))) (by simp))) (ItsW.goOr (ItW.to (ItW.cmp (EvW.name 8 rfl rfl rfl rfl) (EvW.name 2 rfl rfl rfl rfl) Op2.eqT rfl) (by decide)) ItsW.nilOr))) ExW.nil) (ExW.cons (Ex1W.ifF (ItW.boolop (ItsW.goOr (ItW.to (ItW.cmp (EvW.name 8 rfl rfl rfl rfl) (EvW.name 3 rfl rfl rfl rfl) Op2.neT rfl) (by decide)) (ItsW.goOr (ItW.boolop (ItsW.stopAnd (ItW.notF (ItW.to (ItW.plain (fun _ _ => rfl) (EvW.name 5 rfl rfl rfl rfl) (Tr.str (by first | decide | omega | (simp only [List.length_append, List.length_cons, List.length_nil, List.length_map, List.length_replicate]; omega)))) (by simp))))) (ItsW.goOr (ItW.boolop (ItsW.stopAnd (ItW.to (ItW.own 7 rfl rfl rfl rfl (by first | decide | omega | (simp only [List.length_append, List.length_cons, List.length_nil, List.length_map, List.length_replicate]; omega))) (by simp)))) ItsW.nilOr)))) (ExW.cons (Ex1W.ifF (ItW.to (ItW.own 7 rfl rfl rfl rfl (by first | decide | omega | (simp only [List.length_append, List.length_cons, List.length_nil, List.length_map, List.length_replicate]; omega))) (by simp)) ExW.nil) ExW.nil)) ExW.nil))
theorem norm_e (g : Gd C) {q cd p cs} {acc : List (List Nat)} {y : List Nat} (h1 : y ≠ [46, 46]) (hz : acc.length ≤ 100000) : ExW C (n + 2) (fs N29 q cd) (sBody loop29) (sg29 p cs (.own (acc.map fS ++ [.str (S y)])) (.val (.str (S [46, 46])))) .next (sg29 p cs (.own (acc.map fS)) (.val (.str (S [46, 46])))) := by
  exact (ExW.cons (Ex1W.ifF (ItW.boolop (ItsW.goOr (ItW.notF (ItW.to (ItW.plain (fun _ _ => rfl) (EvW.name 8 rfl rfl rfl rfl) (Tr.str (by first | decide | omega | (simp only [List.length_append, List.length_cons, List.length_nil, List.length_map, List.length_replicate]; omega)))) (by simp))) (ItsW.goOr (ItW.to (ItW.cmp (EvW.name 8 rfl rfl rfl rfl) (EvW.name 2 rfl rfl rfl rfl) Op2.eqT rfl) (by decide)) ItsW.nilOr))) ExW.nil) (ExW.cons (Ex1W.ifF (ItW.boolop (ItsW.goOr (ItW.to (ItW.cmp (EvW.name 8 rfl rfl rfl rfl) (EvW.name 3 rfl rfl rfl rfl) Op2.neT rfl) (by decide)) (ItsW.goOr (ItW.boolop (ItsW.stopAnd (ItW.notF (ItW.to (ItW.plain (fun _ _ => rfl) (EvW.name 5 rfl rfl rfl rfl) (Tr.str (by first | decide | omega | (simp only [List.length_append, List.length_cons, List.length_nil, List.length_map, List.length_replicate]; omega)))) (by simp))))) (ItsW.goOr (ItW.boolop (ItsW.goAnd (ItW.to (ItW.own 7 rfl rfl rfl rfl (by first | decide | omega | (simp only [List.length_append, List.length_cons, List.length_nil, List.length_map, List.length_replicate]; omega))) (by simp)) (ItsW.stopAnd (ItW.to (ItW.cmp (EvW.ownLast 7 rfl rfl rfl rfl (EvW.unop EvW.int Op1.negI) (by simp; omega)) (EvW.name 3 rfl rfl rfl rfl) Op2.eqT rfl) (by rw [beq_eq_false_iff_ne]; exact h1))))) ItsW.nilOr)))) (ExW.cons (Ex1W.ifT (ItW.to (ItW.own 7 rfl rfl rfl rfl (by first | decide | omega | (simp only [List.length_append, List.length_cons, List.length_nil, List.length_map, List.length_replicate]; omega))) (by simp)) (ExW.cons (Ex1W.pop 7 rfl rfl rfl rfl (by first | decide | omega | (simp only [List.length_append, List.length_cons, List.length_nil, List.length_map, List.length_replicate]; omega))) ExW.nil)) ExW.nil)) ExW.nil))
theorem norm_loop (g : Gd C) {q cd p cs} : ∀ (l : List (List Nat)) (acc : List (List Nat)) (c : Slot), (∀ y ∈ acc, y ≠ [46, 46]) → l.length + acc.length ≤ 100000 → (∀ c ∈ l, c.length ≤ 1000000) →
    ∃ c', Lp C (n + 2) (fs N29 q cd) (sTarget loop29) (sBody loop29) (l.map fS) (sg29 p cs (.own (acc.map fS)) c) .next (sg29 p cs (.own ((l.foldl nst acc).map fS)) c')
  | [], acc, c, _, _, _ => ⟨c, Lp.nil⟩
  | x :: l, acc, c, hi, hz, hl => by
    have hlen := @nst_len acc x
    obtain ⟨c', ih⟩ := norm_loop g l (nst acc x) (.val (.str (S x))) (nst_inv hi) (by simp at hz; omega) fun y hy => hl y (List.mem_cons_of_mem _ hy)
    refine ⟨c', ?_⟩
    rw [List.map_cons, List.foldl_cons]
    by_cases h0 : x = []
    · subst h0
      rw [show nst acc [] = acc from if_pos (.inl rfl)] at ih ⊢
      exact LpW.cont (AsW.name 8 rfl (.inl rfl)) (norm_a g) ih
    · by_cases h1 : x = [46]
      · subst h1
        rw [show nst acc [46] = acc from if_pos (.inr rfl)] at ih ⊢
        exact LpW.cont (AsW.name 8 rfl (.inl rfl)) (norm_b g) ih
      · by_cases h2 : x = [46, 46]
        · subst h2
          rw [show nst acc [46, 46] = acc.dropLast from rfl] at ih ⊢
          rcases List.eq_nil_or_concat acc with rfl | ⟨a', y, rfl⟩
          · exact LpW.next (AsW.name 8 rfl (.inl rfl)) (norm_d g) ih
          · have e : (a'.concat y).map fS = a'.map fS ++ [.str (S y)] := by simp [fS]
            rw [e]
            rw [show (a'.concat y).dropLast = a' from by simp] at ih ⊢
            exact LpW.next (AsW.name 8 rfl (.inl rfl)) (norm_e g (hi y (by simp)) (by simp at hz; omega)) ih
        · have e : nst acc x = acc ++ [x] := by unfold nst; rw [if_neg (by simp [h0, h1]), if_neg h2]
          rw [e] at ih ⊢
          rw [show (acc ++ [x]).map fS = acc.map fS ++ [fS x] from by simp] at ih
          exact LpW.next (AsW.name 8 rfl (.inl rfl)) (norm_c g h0 h1 h2 (by simp at hz; omega) (hl x (List.mem_cons_self ..))) ih
set_option tactic.hygienic true in
theorem splitC_len (c : Nat) : ∀ l : List Nat, (splitC c l).length ≤ l.length + 1
  | [] => by simp [splitC]
  | x :: r => by
    have ih := splitC_len c r
    unfold splitC
    split
    · simp; omega
    · split
      · rename_i e; rw [e] at ih; simp at ih ⊢; omega
      · simp
set_option tactic.hygienic true in
theorem splitC_short (c : Nat) : ∀ l : List Nat, ∀ p ∈ splitC c l, p.length ≤ l.length
  | [], p, hp => by simp [splitC] at hp; rw [hp]; simp
  | x :: r, p, hp => by
    have ih := splitC_short c r
    unfold splitC at hp
    split at hp
    · rcases List.mem_cons.mp hp with rfl | hp
      · simp
      · have := ih p hp; simp; omega
    · split at hp
      · rename_i p' ps e
        rw [e] at ih
        rcases List.mem_cons.mp hp with rfl | hp
        · have := ih p' (List.mem_cons_self ..); simp; omega
        · have := ih p (List.mem_cons_of_mem _ hp); simp; omega
      · rw [List.mem_singleton.mp hp]; simp
theorem normpath_pu (g : Gd C) {t : List Nat} (h : t.head? ≠ some 47) (hz : t.length ≤ 10000) (hj : lensum 1 ((splitC 47 t).foldl nst []) ≤ 1000000) (hi : (interc [47] ((splitC 47 t).foldl nst [])).length ≤ 1000000) :
    PuG C "normpath" (n + 3) [.str (S (47 :: t))] (.str (S ([47] ++ interc [47] ((splitC 47 t).foldl nst [])))) := by
  show PuG C (dr 29).name _ _ _
  have hsl := splitC_len 47 t
  refine PuGW.of_def (d := dr 29) 1 (g.df 29) (by decide +kernel) (bind1 29 fun _ _ _ _ => rfl) (N := N29) rfl fun cd q => ?_
  obtain ⟨c', hLp⟩ := norm_loop (C := C) (n := n) g (q := q) (cd := cd) (p := .str (S t)) (cs := .list ((splitC 47 t).map fS)) (splitC 47 t) [] .unset (by simp) (by simp; omega) (fun c hc => by have := splitC_short 47 t c hc; omega)
  exact ⟨_, (ExW.cons (Ex1W.assign 0 (EvW.callG 9 rfl (EvsW.cons (EvW.name 0 rfl rfl rfl rfl) EvsW.nil) (fspath_pu g)) rfl (.inl rfl)) (ExW.cons (Ex1W.ifF (ItW.plain (fun _ _ => rfl) (EvW.callN 10 0 g rfl rfl rfl (EvsW.cons (EvW.name 0 rfl rfl rfl rfl) (EvsW.cons (EvW.bltnN 11 2 g rfl rfl rfl) EvsW.nil)) Pu.isBytes (.inl ⟨_, rfl⟩)) Tr.bool) (ExW.cons (Ex1W.assign 1 (EvW.strS [47] (by decide +kernel)) rfl (.inl rfl)) (ExW.cons (Ex1W.assign 2 (EvW.strS [46] (by decide +kernel)) rfl (.inl rfl)) (ExW.cons (Ex1W.assign 3 (EvW.strS [46, 46] (by decide +kernel)) rfl (.inl rfl)) ExW.nil)))) (ExW.cons (Ex1W.ifF (ItW.notF (ItW.to (ItW.plain (fun _ _ => rfl) (EvW.name 0 rfl rfl rfl rfl) (Tr.str (by first | decide | omega | (simp only [List.length_append, List.length_cons, List.length_nil, List.length_map, List.length_replicate]; omega)))) (by simp))) ExW.nil) (ExW.cons (Ex1W.assignT (EvW.callG 12 rfl (EvsW.cons (EvW.name 0 rfl rfl rfl rfl) EvsW.nil) (splitroot_pu g h (by omega))) (AsW.tuple (AssW.cons (AsW.name 4 rfl (.inl rfl)) (AssW.cons (AsW.name 5 rfl (.inl rfl)) (AssW.cons (AsW.name 0 rfl (.inl rfl)) AssW.nil))))) (ExW.cons (Ex1W.assign 6 (EvW.meth (EvW.name 0 rfl rfl rfl rfl) (EvsW.cons (EvW.name 1 rfl rfl rfl rfl) EvsW.nil) HasT.str mi_split (Pu.splitT (by first | decide | omega | (simp only [List.length_append, List.length_cons, List.length_nil, List.length_map, List.length_replicate]; omega)))) rfl (.inl rfl)) (ExW.cons (Ex1W.assignNew 7 rfl (.inl rfl)) (ExW.cons (Ex1W.for (EvW.name 6 rfl rfl rfl rfl) PyIt.list hLp (AfterW.next ExW.nil)) (ExW.cons (Ex1W.assign 6 (EvW.freeze 7 rfl rfl rfl rfl) rfl (.inl rfl)) (ExW.cons (Ex1W.assign 0 (EvW.binop (EvW.name 5 rfl rfl rfl rfl) (EvW.meth (EvW.name 1 rfl rfl rfl rfl) (EvsW.cons (EvW.name 6 rfl rfl rfl rfl) EvsW.nil) HasT.str mi_join (Pu.joinT (z := [47]) (ls := (splitC 47 t).foldl nst []) (Nat.le_trans hj (by decide)))) (Op2.addT (by first | decide | omega | (simp only [List.length_append, List.length_cons, List.length_nil, List.length_map, List.length_replicate]; omega)))) rfl (.inl rfl)) (ExW.ret (Ex1W.ret (EvW.orT (EvW.name 0 rfl rfl rfl rfl) (Tr.strT (by simp) (by simp; omega))))))))))))))⟩
end
end Mine
end
section
set_option tactic.hygienic false
open PySem PySem.Calls PySem.W PyProof.Rows
namespace Mine
section
variable {C : Cx} {n : Nat}
noncomputable def rngU (l : Int) : Nat → Int → List V
  | 0, _ => []
  | k + 1, i => .int i :: rngU l k (i + l)
theorem rngU_eq (l : Int) : ∀ (k : Nat) (i : Int), rngL i l k = rngU l k i
  | 0, i => rfl
  | k + 1, i => by
    unfold rngU
    rw [← rngU_eq l k (i + l)]
    unfold rngL
    rw [List.range_succ_eq_map, List.map_cons, List.map_map]
    congr 1
    · simp
    · refine List.map_congr_left fun j _ => ?_
      show V.int _ = V.int _
      congr 1
      show i + ((j + 1 : Nat) : Int) * l = _
      rw [Int.natCast_add, Int.add_mul]; simp; omega
theorem PyIt.rngU {i j l : Int} {k : Nat} (hs : Builtin.Range.small i j l = true) (hk : Builtin.Range.rangeSize i j l = k) : PyIt C n (.rng i j l) (rngU l k i) := by
  rw [← rngU_eq]; exact PyIt.rng hs hk
theorem seq_nat {i : Int} {a k : Nat} (h : i = (a : Int)) (hl : a < k) : seqIndex? i k = some a := by
  subst h; exact seqIdx (Int.natCast_nonneg a) hl
theorem fmod_nat (x : Int) (k : Nat) (hk : 0 < k) : ∃ a : Nat, x.fmod k = (a : Int) ∧ a < k := by
  have h1 : 0 ≤ x.fmod k := Int.fmod_nonneg_of_pos x (by omega)
  have h2 : x.fmod k < k := Int.fmod_lt_of_pos x (by omega)
  exact ⟨(x.fmod k).toNat, (Int.toNat_of_nonneg h1).symm, (Int.toNat_lt h1).mpr h2⟩
theorem fdiv_nat (m k : Nat) : (m : Int).fdiv (k : Int) = ((m / k : Nat) : Int) := by
  rw [Int.fdiv_eq_ediv_of_nonneg _ (by omega)]; rfl
theorem fmod_natc (m k : Nat) : (m : Int).fmod (k : Int) = ((m % k : Nat) : Int) := by
  rw [Int.fmod_eq_emod_of_nonneg _ (by omega)]; rfl
theorem band_nat (m k : Nat) : Builtin.bitAnd (m : Int) (k : Int) = ((m &&& k : Nat) : Int) := by
  rw [← bitAnd_eq]
  unfold PySem.Spec.bitAnd
  rw [decide_eq_true (by omega : (0 : Int) ≤ (m : Int)), decide_eq_true (by omega : (0 : Int) ≤ (k : Int))]
  simp
theorem bxor_nat (a b : Nat) (ha : a < 1048576) (hb : b < 1048576) : ∃ c : Nat, Builtin.bitXor (a : Int) (b : Int) = (c : Int) ∧ c < 1048576 := by
  have e : Builtin.bitXor (a : Int) (b : Int) = ((a ||| b : Nat) : Int) - ((a &&& b : Nat) : Int) := by
    rw [← bitXor_eq]
    unfold PySem.Spec.bitXor PySem.Spec.bitOr
    congr 1
    · have n1 : ∀ m : Nat, decide ((0 : Int) ≤ PySem.Spec.bitNot (m : Int)) = false := fun m => by unfold PySem.Spec.bitNot; simp; omega
      have n2 : ∀ m : Nat, PySem.Spec.bitNot (PySem.Spec.bitNot (m : Int)) = (m : Int) := fun m => by unfold PySem.Spec.bitNot; omega
      conv => lhs; arg 1; unfold PySem.Spec.bitAnd
      rw [n1, n1]
      simp only [n2, Int.toNat_natCast]
    all_goals (rw [bitAnd_eq]; exact band_nat a b)
  have h1 : a ||| b < 2 ^ 20 := Nat.or_lt_two_pow ha hb
  have h2 : a &&& b ≤ a ||| b := Nat.le_trans Nat.and_le_left Nat.left_le_or
  exact ⟨(a ||| b) - (a &&& b), by rw [e]; omega, by omega⟩
noncomputable def N59 : List (Str × NameKind) := [("mode", .local)]
noncomputable def lopen (m : Nat) : Bool := m / 4096 % 16 == 4 && m / 64 % 2 == 1
theorem fdm (m a b c : Nat) : (((m : Int).fdiv (a : Int)).fmod (b : Int) == (c : Int)) = (m / a % b == c) := by
  rw [fdiv_nat, fmod_natc, Bool.eq_iff_iff, beq_iff_eq, beq_iff_eq]; omega
theorem lawopen_pu (g : Gd C) {m : Nat} : PuG C "_law_open" (n + 1) [.int (m : Int)] (.bool (lopen m)) := by
  show PuG C (dr 59).name _ _ _
  unfold lopen
  cases h : (m / 4096 % 16 == 4) with
  | true =>
    rw [Bool.true_and]
    exact PuGW.of_def (d := dr 59) 1 (g.df 59) (by decide +kernel) (bind1 59 fun _ _ _ _ => rfl) (N := N59) rfl fun cd q => ⟨_, (ExW.ret (Ex1W.ret (EvW.andT (EvW.to (EvW.cmp (EvW.binop (EvW.binop (EvW.name 0 rfl rfl rfl rfl) EvW.int (Op2.divI (by decide) (by decide))) EvW.int (Op2.modI (by decide))) EvW.int Op2.eqI rfl) (show V.bool (((m : Int).fdiv 4096).fmod 16 == 4) = V.bool true by rw [show (((m : Int).fdiv 4096).fmod 16 == 4) = _ from fdm m 4096 16 4, h])) Tr.bool (EvW.to (EvW.cmp (EvW.binop (EvW.binop (EvW.name 0 rfl rfl rfl rfl) EvW.int (Op2.divI (by decide) (by decide))) EvW.int (Op2.modI (by decide))) EvW.int Op2.eqI rfl) (show V.bool (((m : Int).fdiv 64).fmod 2 == 1) = V.bool (m / 64 % 2 == 1) by rw [show (((m : Int).fdiv 64).fmod 2 == 1) = _ from fdm m 64 2 1])))))⟩
  | false =>
    rw [Bool.false_and]
    exact PuGW.of_def (d := dr 59) 1 (g.df 59) (by decide +kernel) (bind1 59 fun _ _ _ _ => rfl) (N := N59) rfl fun cd q => ⟨_, (ExW.ret (Ex1W.ret (EvW.andF (EvW.to (EvW.cmp (EvW.binop (EvW.binop (EvW.name 0 rfl rfl rfl rfl) EvW.int (Op2.divI (by decide) (by decide))) EvW.int (Op2.modI (by decide))) EvW.int Op2.eqI rfl) (show V.bool (((m : Int).fdiv 4096).fmod 16 == 4) = V.bool false by rw [show (((m : Int).fdiv 4096).fmod 16 == 4) = _ from fdm m 4096 16 4, h])) Tr.bool)))⟩
noncomputable def N4 : List (Str × NameKind) := [("match", .local), ("start", .local), ("end", .local)]
theorem unmatched_pu (g : Gd C) {l : List Nat} {sp : List Int} {e : Nat} (h0 : sp[0]? = some ((0 : Nat) : Int)) (h1 : sp[1]? = some (e : Int)) (hz : l.length ≤ 1000000) (hl : 2 ≤ sp.length) : PuG C "unmatched" (n + 1) [.mat (S l) sp] (.str (S (l.drop e))) := by
  show PuG C (dr 4).name _ _ _
  have c1 := @cut_len Nat l none (some ((0 : Nat) : Int))
  have c2 := @cut_len Nat l (some (e : Int)) none
  have hres : V.str (S (cut l none (some ((0 : Nat) : Int)) ++ cut l (some (e : Int)) none)) = V.str (S (l.drop e)) := by rw [cut_lo, cut_hi]; simp
  exact PuGW.of_def (d := dr 4) 1 (g.df 4) (by decide +kernel) (bind1 4 fun _ _ _ _ => rfl) (N := N4) rfl fun cd q => ⟨_, (ExW.cons (Ex1W.assignT (EvW.meth (EvW.name 0 rfl rfl rfl rfl) (EvsW.cons EvW.int EvsW.nil) HasT.mat miMat_span (Pu.span0 (b := 0) (e := e) h0 h1 (by omega))) (AsW.tuple (AssW.cons (AsW.name 1 rfl (.inl rfl)) (AssW.cons (AsW.name 2 rfl (.inl rfl)) AssW.nil)))) (ExW.ret (Ex1W.ret (EvW.to (EvW.binop (EvW.slSG (EvW.string (EvW.name 0 rfl rfl rfl rfl)) EvpW.none (EvpW.some (EvW.name 1 rfl rfl rfl rfl)) (by simp <;> omega) (by simp <;> omega) (by first | decide | omega | (simp only [List.length_append, List.length_cons, List.length_nil, List.length_map, List.length_replicate]; omega))) (EvW.slSG (EvW.string (EvW.name 0 rfl rfl rfl rfl)) (EvpW.some (EvW.name 2 rfl rfl rfl rfl)) EvpW.none (by simp <;> omega) (by simp <;> omega) (by first | decide | omega | (simp only [List.length_append, List.length_cons, List.length_nil, List.length_map, List.length_replicate]; omega))) (Op2.addT (by first | decide | omega | (simp only [List.length_append, List.length_cons, List.length_nil, List.length_map, List.length_replicate]; omega)))) hres))))⟩
noncomputable def N56 : List (Str × NameKind) := [("path", .local), ("names", .local), ("turn", .local), ("name", .local), ("range", .globalImplicit), ("split", .globalImplicit)]
noncomputable def loop56 : Stmt := nth (dr 56).body 1
noncomputable def pcat (ns : List (List Nat)) : List Nat := ns.flatMap fun x => 47 :: x
noncomputable def pth (ns : List (List Nat)) : List Nat := if ns = [] then [47] else pcat ns
noncomputable def GoodN (ns : List (List Nat)) : Prop := ∀ x ∈ ns, x ≠ [] ∧ 47 ∉ x
theorem pcat_ne {ns : List (List Nat)} (h : ns ≠ []) : pcat ns ≠ [] := by
  cases ns with
  | nil => exact absurd rfl h
  | cons x r => simp [pcat]
theorem pcat_concat (ns : List (List Nat)) (x : List Nat) : pcat (ns ++ [x]) = pcat ns ++ 47 :: x := by simp [pcat]
theorem pcat_last {ns : List (List Nat)} (h : GoodN ns) : ∀ c, (pcat ns).getLast? = some c → c ≠ 47 := by
  intro c hc
  rcases List.eq_nil_or_concat ns with rfl | ⟨a, x, rfl⟩
  · simp [pcat] at hc
  · rw [List.concat_eq_append] at hc h
    have hx := h x (by simp)
    rw [pcat_concat, List.getLast?_append, show (47 :: x : List Nat) = [47] ++ x from rfl, List.getLast?_append] at hc
    cases e : x.getLast? with
    | none => exact absurd (List.getLast?_eq_none_iff.mp e) hx.1
    | some d =>
      rw [e] at hc
      simp at hc
      subst hc
      intro q; subst q
      exact hx.2 (List.mem_of_getLast? e)
theorem pth_concat {ns : List (List Nat)} {x : List Nat} : pth (ns ++ [x]) = pcat ns ++ 47 :: x := by
  unfold pth; rw [if_neg (by simp), pcat_concat]
theorem names_ret (g : Gd C) {q cd} {vs : List V} {s2 s3 : Slot} : ExW C (n + 3) (fs N56 q cd) (sBody loop56) [.val (.str (S (pth []))), .val (.list (vs)), s2, s3, .unset, .unset] (.ret (.list vs)) [.val (.str (S (pth []))), .val (.list (vs)), s2, s3, .unset, .unset] := by
  exact (ExW.ret (Ex1W.ifT (ItW.to (ItW.cmp (EvW.name 0 rfl rfl rfl rfl) (EvW.strS [47] (by decide +kernel)) Op2.eqT rfl) (by decide)) (ExW.ret (Ex1W.ret (EvW.name 1 rfl rfl rfl rfl)))))
theorem names_up (g : Gd C) {q cd} {ns : List (List Nat)} {x : List Nat} {vs : List V} {s2 s3 : Slot} (hg : GoodN (ns ++ [x])) (hz : (pcat ns).length + x.length ≤ 1000000) (hv : vs.length ≤ 100000) :
    ExW C (n + 3) (fs N56 q cd) (sBody loop56) [.val (.str (S (pth (ns ++ [x])))), .val (.list (vs)), s2, s3, .unset, .unset] .next [.val (.str (S (pth ns))), .val (.list ([.str (S x)] ++ vs)), s2, .val (.str (S x)), .unset, .unset] := by
  have hx := hg x (by simp)
  have hns : GoodN ns := fun y hy => hg y (by simp [hy])
  have hne : (pth (ns ++ [x]) == [47]) = false := by
    rw [beq_eq_false_iff_ne, pth_concat]
    cases ns with
    | nil => intro q; simp [pcat] at q; exact hx.1 q
    | cons a r => intro q; simp [pcat] at q
  have hsp : PuG C "split" (n + 3) [.str (S (pth (ns ++ [x])))] (.tup [.str (S (pth ns)), .str (S x)]) := by
    rw [pth_concat]
    by_cases h : ns = []
    · subst h
      exact (split0_pu (n := n) g hx.2 (by simpa [pcat] using hz)).le (by omega)
    · have := split1_pu (C := C) (n := n) g (d := pcat ns) (b := x) hx.2 (pcat_last hns) (pcat_ne h) hz
      have e : pth ns = pcat ns := by unfold pth; rw [if_neg h]
      rw [e]; exact this.le (by omega)
  exact (ExW.cons (Ex1W.ifF (ItW.to (ItW.cmp (EvW.name 0 rfl rfl rfl rfl) (EvW.strS [47] (by decide +kernel)) Op2.eqT rfl) hne) ExW.nil) (ExW.cons (Ex1W.assignT (EvW.callG 5 rfl (EvsW.cons (EvW.name 0 rfl rfl rfl rfl) EvsW.nil) hsp) (AsW.tuple (AssW.cons (AsW.name 0 rfl (.inl rfl)) (AssW.cons (AsW.name 3 rfl (.inl rfl)) AssW.nil)))) (ExW.cons (Ex1W.assign 1 (EvW.binop (EvW.list (EvsW.cons (EvW.name 3 rfl rfl rfl rfl) EvsW.nil) (by simp)) (EvW.name 1 rfl rfl rfl rfl) (Op2.addL (by first | decide | omega | (simp only [List.length_append, List.length_cons, List.length_nil, List.length_map, List.length_replicate]; omega)))) rfl (.inl rfl)) ExW.nil)))
theorem names_loop (g : Gd C) {q cd} : ∀ (m : Nat) (i : Int) (ns : List (List Nat)) (vs : List V) (s2 s3 : Slot), GoodN ns → ns.length < m → (pcat ns).length ≤ 10000 → ns.length + vs.length ≤ 100000 →
    ∃ σ', Lp C (n + 3) (fs N56 q cd) (sTarget loop56) (sBody loop56) (rngU 1 m i) [.val (.str (S (pth ns))), .val (.list (vs)), s2, s3, .unset, .unset] (.ret (.list (ns.map fS ++ vs))) σ'
  | 0, i, ns, vs, s2, s3, _, h, _, _ => absurd h (Nat.not_lt_zero _)
  | m + 1, i, ns, vs, s2, s3, hg, h, hz, hv => by
    rcases List.eq_nil_or_concat ns with rfl | ⟨a, x, rfl⟩
    · exact ⟨_, LpW.ret (AsW.name 2 rfl (.inl rfl)) (names_ret g)⟩
    · rw [List.concat_eq_append] at *
      rw [pcat_concat] at hz
      simp at h hz hv
      obtain ⟨σ', ih⟩ := names_loop g m (i + 1) a ([.str (S x)] ++ vs) (.val (.int i)) (.val (.str (S x))) (fun y hy => hg y (by simp [hy])) (by omega) (by omega) (by simp; omega)
      refine ⟨σ', ?_⟩
      have e : (a ++ [x]).map fS ++ vs = a.map fS ++ ([.str (S x)] ++ vs) := by simp [fS]
      rw [e]
      exact LpW.next (AsW.name 2 rfl (.inl rfl)) (names_up g hg (by omega) (by omega)) ih
theorem lawnames_pu (g : Gd C) {ns : List (List Nat)} (hg : GoodN ns) (h : ns.length < 9) (hz : (pcat ns).length ≤ 10000) : PuG C "_law_names" (n + 4) [.str (S (pth ns))] (.list (ns.map fS)) := by
  show PuG C (dr 56).name _ _ _
  refine PuGW.of_def (d := dr 56) 1 (g.df 56) (by decide +kernel) (bind1 56 fun _ _ _ _ => rfl) (N := N56) rfl fun cd q => ?_
  obtain ⟨σ', hLp⟩ := names_loop (C := C) (n := n) g (q := q) (cd := cd) 9 0 ns [] .unset .unset hg h hz (by simp; omega)
  rw [List.append_nil] at hLp
  exact ⟨_, (ExW.cons (Ex1W.assign 1 (EvW.list EvsW.nil (by simp)) rfl (.inl rfl)) (ExW.ret (Ex1W.for (EvW.callN 4 7 g rfl rfl rfl (EvsW.cons EvW.int EvsW.nil) Pu.range1 (.inr ⟨_, rfl⟩)) (PyIt.rngU (by decide +kernel) (k := 9) (by decide +kernel)) hLp After.ret)))⟩
end
end Mine
end
section
set_option tactic.hygienic false
open PySem PySem.Calls PySem.W PyProof.Rows
namespace Mine
section
variable {C : Cx} {n : Nat}
theorem Ev.globR {F : Fs} {σ : List Slot} (i : Nat) {x : Str} {pos : Pos} {u : Value} {v : V} (hi : F.names[i]? = some (x, .globalImplicit)) (hg : C.mg x = some u) (hr : Rep C.G.get? v u) (h2 : (x == ("__debug__" : Str)) = false) :
    Ev C n F (.Name x pos) σ v σ := by
  intro A env s f X oa h₀ f₀ E Q r K h0 S hQ
  refine Name_function_global K.kind (K.kindOf hi) ?_ h2
  refine loadGlobal_global (mg := C.mg) ?_ hg (hQ s.heap s.toks f u h0 (FLe.refl f) S (hr.mono fun a o e => S.inv.gh a o e))
  rw [K.globals]; exact C.glob.at' fun o e => S.inv.ghost e
theorem fdm2 (m a b : Nat) : ((m : Int).fdiv (a : Int)).fmod (b : Int) = ((m / a % b : Nat) : Int) := by rw [fdiv_nat, fmod_natc]
noncomputable def pairV (p : Nat × Nat) : V := .tup [.int (p.1 : Int), .str (S [p.2])]
noncomputable def rowV (r : List (Nat × Nat)) : V := .tup (r.map pairV)
noncomputable def fmTab : List (List (Nat × Nat)) := [[(40960, 108), (49152, 115), (32768, 45), (24576, 98), (16384, 100), (8192, 99), (4096, 112)], [(256, 114)], [(128, 119)], [(2112, 115), (2048, 83), (64, 120)],
  [(32, 114)], [(16, 119)], [(1032, 115), (1024, 83), (8, 120)], [(4, 114)], [(2, 119)], [(513, 116), (512, 84), (1, 120)]]
theorem fmTab_ok : vOf fmT = .tup (fmTab.map rowV) := by kernel_rfl
noncomputable def fI (m i b : Nat) : Bool := if i = 0 then m &&& 61440 == b else m &&& b == b
noncomputable def dI (i : Nat) : Nat := if i = 0 then 63 else 45
noncomputable def pick (f : Nat → Bool) : List (Nat × Nat) → Option Nat
  | [] => none
  | (b, c) :: r => if f b then some c else pick f r
noncomputable def fmode (m : Nat) : Nat → List (List (Nat × Nat)) → List Nat
  | _, [] => []
  | i, r :: rs => (pick (fI m i) r).getD (dI i) :: fmode m (i + 1) rs
noncomputable def fC (c : Nat) : V := .str (S [c])
theorem beq_cast (a b : Nat) : ((a : Int) == (b : Int)) = (a == b) := by rw [Bool.eq_iff_iff, beq_iff_eq, beq_iff_eq]; omega
theorem band_ifmt (m b : Nat) : (Builtin.bitAnd (m : Int) 61440 == (b : Int)) = (m &&& 61440 == b) := by
  rw [show Builtin.bitAnd (m : Int) 61440 = ((m &&& 61440 : Nat) : Int) from band_nat m 61440, beq_cast]
theorem band_self (m b : Nat) : (Builtin.bitAnd (m : Int) (b : Int) == (b : Int)) = (m &&& b == b) := by rw [band_nat, beq_cast]
theorem interc_nil : ∀ ls : List (List Nat), interc [] ls = ls.flatten
  | [] => rfl
  | [a] => by simp [interc]
  | a :: b :: r => by
    show a ++ [] ++ interc [] (b :: r) = _
    rw [interc_nil (b :: r)]; simp
theorem flatten_one (l : List Nat) : (l.map fun c => [c]).flatten = l := by
  induction l with
  | nil => rfl
  | cons a r ih => show [a] ++ _ = _; rw [ih]; rfl
noncomputable def N53 : List (Str × NameKind) := [("mode", .local), ("perm", .local), ("index", .local), ("table", .local), ("bit", .local), ("char", .local), ("enumerate", .globalImplicit), ("_filemode_table", .globalImplicit), ("S_IFMT", .globalImplicit)]
noncomputable def loop53 : Stmt := nth (dr 53).body 1
noncomputable def in53 : Stmt := nth (sBody loop53) 0
noncomputable def sg53 (m : Nat) (pm : List Nat) (i t b c : Slot) : List Slot := [.val (.int (m : Int)), .own (pm.map fC), i, t, b, c, .unset, .unset, .unset]
theorem fm_a (g : Gd C) {q cd} {m : Nat} {pm : List Nat} {t : Slot} {b c : Nat} (hz : pm.length ≤ 1000) (h : (m &&& 61440 == b) = true) : ExW C (n + 1) (fs N53 q cd) (sBody in53) (sg53 m pm (.val (.int ((0 : Nat) : Int))) t (.val (.int (b : Int))) (.val (.str (S [c])))) .brk (sg53 m (pm ++ [c]) (.val (.int ((0 : Nat) : Int))) t (.val (.int (b : Int))) (.val (.str (S [c])))) := by
  have e : ((pm ++ [c]).map fC) = pm.map fC ++ [.str (S [c])] := by simp [fC]
  unfold sg53; rw [e]
  exact (ExW.brk (Ex1W.ifT (ItW.to (ItW.cmp (EvW.name 2 rfl rfl rfl rfl) EvW.int Op2.eqI rfl) (by decide)) (ExW.brk (Ex1W.ifT (ItW.to (ItW.cmp (EvW.callG 8 rfl (EvsW.cons (EvW.name 0 rfl rfl rfl rfl) EvsW.nil) (sifmt_pu g)) (EvW.name 4 rfl rfl rfl rfl) Op2.eqI rfl) (by rw [band_ifmt]; exact h)) (ExW.cons (Ex1W.append 1 rfl rfl rfl rfl (EvW.name 5 rfl rfl rfl rfl) rfl (by first | decide | omega | (simp only [List.length_append, List.length_cons, List.length_nil, List.length_map, List.length_replicate]; omega))) (ExW.brk Ex1W.brk))))))
theorem fm_b (g : Gd C) {q cd} {m : Nat} {pm : List Nat} {t : Slot} {b c : Nat} (hz : pm.length ≤ 1000) (h : (m &&& 61440 == b) = false) : ExW C (n + 1) (fs N53 q cd) (sBody in53) (sg53 m pm (.val (.int ((0 : Nat) : Int))) t (.val (.int (b : Int))) (.val (.str (S [c])))) .next (sg53 m pm (.val (.int ((0 : Nat) : Int))) t (.val (.int (b : Int))) (.val (.str (S [c])))) := by
  exact (ExW.cons (Ex1W.ifT (ItW.to (ItW.cmp (EvW.name 2 rfl rfl rfl rfl) EvW.int Op2.eqI rfl) (by decide)) (ExW.cons (Ex1W.ifF (ItW.to (ItW.cmp (EvW.callG 8 rfl (EvsW.cons (EvW.name 0 rfl rfl rfl rfl) EvsW.nil) (sifmt_pu g)) (EvW.name 4 rfl rfl rfl rfl) Op2.eqI rfl) (by rw [band_ifmt]; exact h)) ExW.nil) ExW.nil)) ExW.nil)
theorem fm_c (g : Gd C) {q cd} {m : Nat} {pm : List Nat} {t : Slot} {b c : Nat} (hz : pm.length ≤ 1000) {i : Nat} (h : (m &&& b == b) = true) : ExW C (n + 1) (fs N53 q cd) (sBody in53) (sg53 m pm (.val (.int ((i + 1 : Nat) : Int))) t (.val (.int (b : Int))) (.val (.str (S [c])))) .brk (sg53 m (pm ++ [c]) (.val (.int ((i + 1 : Nat) : Int))) t (.val (.int (b : Int))) (.val (.str (S [c])))) := by
  have e : ((pm ++ [c]).map fC) = pm.map fC ++ [.str (S [c])] := by simp [fC]
  unfold sg53; rw [e]
  exact (ExW.brk (Ex1W.ifF (ItW.to (ItW.cmp (EvW.name 2 rfl rfl rfl rfl) EvW.int Op2.eqI rfl) (by rw [beq_eq_false_iff_ne]; omega)) (ExW.brk (Ex1W.ifT (ItW.to (ItW.cmp (EvW.binop (EvW.name 0 rfl rfl rfl rfl) (EvW.name 4 rfl rfl rfl rfl) Op2.andI) (EvW.name 4 rfl rfl rfl rfl) Op2.eqI rfl) (by rw [band_self]; exact h)) (ExW.cons (Ex1W.append 1 rfl rfl rfl rfl (EvW.name 5 rfl rfl rfl rfl) rfl (by first | decide | omega | (simp only [List.length_append, List.length_cons, List.length_nil, List.length_map, List.length_replicate]; omega))) (ExW.brk Ex1W.brk))))))
theorem fm_d (g : Gd C) {q cd} {m : Nat} {pm : List Nat} {t : Slot} {b c : Nat} (hz : pm.length ≤ 1000) {i : Nat} (h : (m &&& b == b) = false) : ExW C (n + 1) (fs N53 q cd) (sBody in53) (sg53 m pm (.val (.int ((i + 1 : Nat) : Int))) t (.val (.int (b : Int))) (.val (.str (S [c])))) .next (sg53 m pm (.val (.int ((i + 1 : Nat) : Int))) t (.val (.int (b : Int))) (.val (.str (S [c])))) := by
  exact (ExW.cons (Ex1W.ifF (ItW.to (ItW.cmp (EvW.name 2 rfl rfl rfl rfl) EvW.int Op2.eqI rfl) (by rw [beq_eq_false_iff_ne]; omega)) (ExW.cons (Ex1W.ifF (ItW.to (ItW.cmp (EvW.binop (EvW.name 0 rfl rfl rfl rfl) (EvW.name 4 rfl rfl rfl rfl) Op2.andI) (EvW.name 4 rfl rfl rfl rfl) Op2.eqI rfl) (by rw [band_self]; exact h)) ExW.nil) ExW.nil)) ExW.nil)
theorem fm_e (g : Gd C) {q cd} {m : Nat} {pm : List Nat} {t b c : Slot} (hz : pm.length ≤ 1000) : ExW C (n + 1) (fs N53 q cd) (sElse in53) (sg53 m pm (.val (.int ((0 : Nat) : Int))) t b c) .next (sg53 m (pm ++ [63]) (.val (.int ((0 : Nat) : Int))) t b c) := by
  have e : ((pm ++ [63]).map fC) = pm.map fC ++ [.str (S [63])] := by simp [fC]
  unfold sg53; rw [e]
  exact (ExW.cons (Ex1W.ifT (ItW.to (ItW.cmp (EvW.name 2 rfl rfl rfl rfl) EvW.int Op2.eqI rfl) (by decide)) (ExW.cons (Ex1W.append 1 rfl rfl rfl rfl (EvW.strS [63] (by decide +kernel)) rfl (by first | decide | omega | (simp only [List.length_append, List.length_cons, List.length_nil, List.length_map, List.length_replicate]; omega))) ExW.nil)) ExW.nil)
theorem fm_f (g : Gd C) {q cd} {m : Nat} {pm : List Nat} {t b c : Slot} (hz : pm.length ≤ 1000) {i : Nat} : ExW C (n + 1) (fs N53 q cd) (sElse in53) (sg53 m pm (.val (.int ((i + 1 : Nat) : Int))) t b c) .next (sg53 m (pm ++ [45]) (.val (.int ((i + 1 : Nat) : Int))) t b c) := by
  have e : ((pm ++ [45]).map fC) = pm.map fC ++ [.str (S [45])] := by simp [fC]
  unfold sg53; rw [e]
  exact (ExW.cons (Ex1W.ifF (ItW.to (ItW.cmp (EvW.name 2 rfl rfl rfl rfl) EvW.int Op2.eqI rfl) (by rw [beq_eq_false_iff_ne]; omega)) (ExW.cons (Ex1W.append 1 rfl rfl rfl rfl (EvW.strS [45] (by decide +kernel)) rfl (by first | decide | omega | (simp only [List.length_append, List.length_cons, List.length_nil, List.length_map, List.length_replicate]; omega))) ExW.nil)) ExW.nil)
theorem fm_in (g : Gd C) {q cd} {m : Nat} {t : Slot} (i : Nat) (pm : List Nat) (hz : pm.length ≤ 1000) : ∀ (r : List (Nat × Nat)) (b c : Slot), ∃ b' c', match pick (fI m i) r with
    | some x => Lp C (n + 1) (fs N53 q cd) (sTarget in53) (sBody in53) (r.map pairV) (sg53 m pm (.val (.int (i : Int))) t b c) .brk (sg53 m (pm ++ [x]) (.val (.int (i : Int))) t b' c')
    | none => Lp C (n + 1) (fs N53 q cd) (sTarget in53) (sBody in53) (r.map pairV) (sg53 m pm (.val (.int (i : Int))) t b c) .next (sg53 m pm (.val (.int (i : Int))) t b' c')
  | [], b, c => ⟨b, c, LpW.nil⟩
  | (x, y) :: r, b, c => by
    have tgt : AsW C (fs N53 q cd) (sTarget in53) (pairV (x, y)) (sg53 m pm (.val (.int (i : Int))) t b c) (sg53 m pm (.val (.int (i : Int))) t (.val (.int (x : Int))) (.val (.str (S [y])))) :=
      AsW.tuple (AssW.cons (AsW.name 4 rfl (.inl rfl)) (AssW.cons (AsW.name 5 rfl (.inl rfl)) AssW.nil))
    have e : pick (fI m i) ((x, y) :: r) = if fI m i x then some y else pick (fI m i) r := rfl
    rw [e]
    cases h : fI m i x with
    | true =>
      refine ⟨.val (.int (x : Int)), .val (.str (S [y])), ?_⟩
      rw [if_pos rfl]
      dsimp only
      refine LpW.brk tgt ?_
      cases i with
      | zero => exact fm_a g hz (by unfold fI at h; rw [if_pos rfl] at h; exact h)
      | succ i => exact fm_c g hz (by unfold fI at h; rw [if_neg (by omega)] at h; exact h)
    | false =>
      obtain ⟨b', c', ih⟩ := fm_in g (q := q) (cd := cd) (m := m) (t := t) i pm hz r (.val (.int (x : Int))) (.val (.str (S [y])))
      refine ⟨b', c', ?_⟩
      rw [if_neg (by decide)]
      have step : ExW C (n + 1) (fs N53 q cd) (sBody in53) (sg53 m pm (.val (.int (i : Int))) t (.val (.int (x : Int))) (.val (.str (S [y])))) .next (sg53 m pm (.val (.int (i : Int))) t (.val (.int (x : Int))) (.val (.str (S [y])))) := by
        cases i with
        | zero => exact fm_b g hz (by unfold fI at h; rw [if_pos rfl] at h; exact h)
        | succ i => exact fm_d g hz (by unfold fI at h; rw [if_neg (by omega)] at h; exact h)
      revert ih
      cases pick (fI m i) r with
      | none => intro ih; exact LpW.next tgt step ih
      | some z => intro ih; exact LpW.next tgt step ih
theorem fm_row (g : Gd C) {q cd} {m : Nat} (i : Nat) (pm : List Nat) (hz : pm.length ≤ 1000) (r : List (Nat × Nat)) (b c : Slot) :
    ∃ b' c', ExW C (n + 1) (fs N53 q cd) (sBody loop53) (sg53 m pm (.val (.int (i : Int))) (.val (rowV r)) b c) .next (sg53 m (pm ++ [(pick (fI m i) r).getD (dI i)]) (.val (.int (i : Int))) (.val (rowV r)) b' c') := by
  obtain ⟨b', c', h⟩ := fm_in g (n := n) (q := q) (cd := cd) (m := m) (t := .val (rowV r)) i pm hz r b c
  refine ⟨b', c', ?_⟩
  revert h
  cases e : pick (fI m i) r with
  | some x =>
    intro h
    exact ExW.cons (Ex1W.for (EvW.name 3 rfl rfl rfl rfl) PyIt.tup h After.brk) ExW.nil
  | none =>
    intro h
    have hel : ExW C (n + 1) (fs N53 q cd) (sElse in53) (sg53 m pm (.val (.int (i : Int))) (.val (rowV r)) b' c') .next (sg53 m (pm ++ [dI i]) (.val (.int (i : Int))) (.val (rowV r)) b' c') := by
      cases i with
      | zero => exact fm_e g hz
      | succ i => exact fm_f g hz
    exact ExW.cons (Ex1W.for (EvW.name 3 rfl rfl rfl rfl) PyIt.tup h (AfterW.next hel)) ExW.nil
theorem fm_loop (g : Gd C) {q cd} {m : Nat} : ∀ (rs : List (List (Nat × Nat))) (i : Nat) (pm : List Nat) (s2 s3 b c : Slot), pm.length + rs.length ≤ 1000 → ∃ σ', Lp C (n + 1) (fs N53 q cd) (sTarget loop53) (sBody loop53) (enumL i (rs.map rowV)) (sg53 m pm s2 s3 b c) .next σ' ∧
    ∃ s2' s3' b' c', σ' = sg53 m (pm ++ fmode m i rs) s2' s3' b' c'
  | [], i, pm, s2, s3, b, c, _ => ⟨_, LpW.nil, s2, s3, b, c, by simp [fmode]⟩
  | r :: rs, i, pm, s2, s3, b, c, hz => by
    simp at hz
    obtain ⟨b1, c1, h1⟩ := fm_row g (n := n) (q := q) (cd := cd) (m := m) i pm (by omega) r b c
    obtain ⟨σ', h2, s2', s3', b', c', e⟩ := fm_loop g (q := q) (cd := cd) (m := m) rs (i + 1) (pm ++ [(pick (fI m i) r).getD (dI i)]) (.val (.int (i : Int))) (.val (rowV r)) b1 c1 (by simp; omega)
    refine ⟨σ', ?_, s2', s3', b', c', by rw [e]; simp [fmode]⟩
    have tgt : AsW C (fs N53 q cd) (sTarget loop53) (.tup [.int (i : Int), rowV r]) (sg53 m pm s2 s3 b c) (sg53 m pm (.val (.int (i : Int))) (.val (rowV r)) b c) :=
      AsW.tuple (AssW.cons (AsW.name 2 rfl (.inl rfl)) (AssW.cons (AsW.name 3 rfl (.inl rfl)) AssW.nil))
    exact LpW.next tgt h1 h2
noncomputable def fmo (m : Nat) : List Nat := fmode m 0 fmTab
theorem filemode_pu (g : Gd C) {m : Nat} : PuG C "filemode" (n + 2) [.int (m : Int)] (.str (S (fmo m))) := by
  show PuG C (dr 53).name _ _ _
  obtain ⟨fv, e1, e2⟩ := g.fm
  rw [fmTab_ok] at e2
  refine PuGW.of_def (d := dr 53) 1 (g.df 53) (by decide +kernel) (bind1 53 fun _ _ _ _ => rfl) (N := N53) rfl fun cd q => ?_
  obtain ⟨σ', hlp, s2', s3', b', c', e⟩ := fm_loop g (n := n) (q := q) (cd := cd) (m := m) fmTab 0 [] .unset .unset .unset .unset (by decide)
  rw [List.nil_append] at e
  subst e
  have hlen : (fmode m 0 fmTab).length = 10 := rfl
  have hjoin : Pu C (n + 1) (fun us => PySem.call (.builtin "str.join") us) [.str (S []), .list ((fmode m 0 fmTab).map fC)] (.str (S (fmo m))) := by
    have : ∀ l : List Nat, lensum 0 (l.map fun c => [c]) = l.length := fun l => by
      induction l with
      | nil => rfl
      | cons a r ih => show 1 + 0 + lensum 0 _ = _; rw [ih]; simp; omega
    have hs : lensum ([] : List Nat).length ((fmode m 0 fmTab).map fun c => [c]) ≤ 16000000 := by
      show lensum 0 _ ≤ _
      rw [this, hlen]; decide
    have h := @Pu.joinT C (n + 1) [] ((fmode m 0 fmTab).map fun c => [c]) hs
    rw [List.map_map, interc_nil, flatten_one] at h
    exact @h
  have hev : EvW C (n + 1) (fs N53 q cd) (.Name "_filemode_table" (match nth (dr 53).body 1 with | .For _ (.Call _ [e] _ _) _ _ _ => e.pos | _ => ⟨0, 0, 0, 0⟩)) [.val (.int (m : Int)), .own [], .unset, .unset, .unset, .unset, .unset, .unset, .unset] (.tup (fmTab.map rowV)) [.val (.int (m : Int)), .own [], .unset, .unset, .unset, .unset, .unset, .unset, .unset] :=
    ⟨Ev.globR 7 rfl e1 e2 rfl⟩
  exact ⟨_, (ExW.cons (Ex1W.assignNew 1 rfl (.inl rfl)) (ExW.cons (Ex1W.forEnum (EvW.bltnN 6 6 g rfl rfl rfl) hev hlp (AfterW.next ExW.nil)) (ExW.ret (Ex1W.ret (EvW.meth (EvW.strS [] (by decide +kernel)) (EvsW.cons (EvW.freeze 1 rfl rfl rfl rfl) EvsW.nil) HasT.str mi_join hjoin)))))⟩
noncomputable def N62 : List (Str × NameKind) := [("mode", .local), ("name", .local), ("unit", .local), ("above", .local), ("ran", .local), ("figure", .local)]
noncomputable def loop62 : Stmt := nth (dr 62).body 1
noncomputable def lbits (m u a : Nat) (r : List Nat) : List Nat := [[45, 114].getD (m / u % 8 / 4) 0, [45, 119].getD (m / u % 8 / 2 % 2) 0, (if m / a % 2 = 0 then [45, 120] else r).getD (m / u % 8 % 2) 0]
noncomputable def tuV (u a : Nat) (r : List Nat) : V := .tup [.int (u : Int), .int (a : Int), .str (S r)]
noncomputable def kindL : List Nat := [63, 112, 99, 63, 100, 63, 98, 63, 45, 63, 108, 63, 115, 63, 63, 63]
noncomputable def lname (m : Nat) : List Nat := [kindL.getD (m / 4096 % 16) 0] ++ lbits m 64 2048 [83, 115] ++ lbits m 8 1024 [83, 115] ++ lbits m 1 512 [84, 116]
theorem getD_at {l : List Nat} {i : Nat} (h : i < l.length) : l[((i : Nat) : Int).toNat]? = some (l.getD i 0) := by
  rw [Int.toNat_natCast, List.getD_eq_getElem?_getD, List.getElem?_eq_getElem h]; rfl
theorem lname_body (g : Gd C) {q cd} {m u a : Nat} {x r : List Nat} {s5 : Slot} (hr : r.length = 2) (hu : 0 < u) (ha : 0 < a) (hu2 : u < 10000) (ha2 : a < 10000) (hx : x.length ≤ 1000) :
    ∃ s4' s5', ExW C (n + 1) (fs N62 q cd) (sBody loop62) [.val (.int (m : Int)), .val (.str (S x)), .val (.int (u : Int)), .val (.int (a : Int)), .val (.str (S r)), s5] .next [.val (.int (m : Int)), .val (.str (S (x ++ lbits m u a r))), .val (.int (u : Int)), .val (.int (a : Int)), s4', s5'] := by
  by_cases h : m / a % 2 = 0
  · refine ⟨.val (.str (S [45, 120])), .val (.int ((m / u % 8 : Nat) : Int)), ?_⟩
    unfold lbits; rw [if_pos h]
    exact (ExW.cons (Ex1W.assign 5 (EvW.to (EvW.binop (EvW.binop (EvW.name 0 rfl rfl rfl rfl) (EvW.name 2 rfl rfl rfl rfl) (Op2.divI (by omega) (by omega))) EvW.int (Op2.modI (by decide))) (show V.int (((m : Int).fdiv (u : Int)).fmod 8) = V.int ((m / u % 8 : Nat) : Int) by rw [show ((m : Int).fdiv (u : Int)).fmod 8 = _ from fdm2 m u 8])) rfl (.inl rfl)) (ExW.cons (Ex1W.ifT (ItW.to (ItW.cmp (EvW.binop (EvW.binop (EvW.name 0 rfl rfl rfl rfl) (EvW.name 3 rfl rfl rfl rfl) (Op2.divI (by omega) (by omega))) EvW.int (Op2.modI (by decide))) EvW.int Op2.eqI rfl) (by rw [show (((m : Int).fdiv (a : Int)).fmod 2 == 0) = _ from fdm m a 2 0]; exact beq_iff_eq.mpr h)) (ExW.cons (Ex1W.assign 4 (EvW.strS [45, 120] (by decide +kernel)) rfl (.inl rfl)) ExW.nil)) (ExW.cons (Ex1W.aug 1 rfl (.inl rfl) rfl rfl (EvW.binop (EvW.binop (EvW.sub (EvW.strS [45, 114] (by decide +kernel)) (EvW.to (EvW.binop (EvW.name 5 rfl rfl rfl rfl) EvW.int (Op2.divI (by decide) (by decide))) (show V.int (((m / u % 8 : Nat) : Int).fdiv 4) = V.int ((m / u % 8 / 4 : Nat) : Int) by rw [show ((m / u % 8 : Nat) : Int).fdiv 4 = _ from fdiv_nat _ 4])) (Op2.idxS (by omega) (getD_at (l := [45, 114]) (i := m / u % 8 / 4) (by simp; omega)) (by omega))) (EvW.sub (EvW.strS [45, 119] (by decide +kernel)) (EvW.to (EvW.binop (EvW.binop (EvW.name 5 rfl rfl rfl rfl) EvW.int (Op2.divI (by decide) (by decide))) EvW.int (Op2.modI (by decide))) (show V.int ((((m / u % 8 : Nat) : Int).fdiv 2).fmod 2) = V.int ((m / u % 8 / 2 % 2 : Nat) : Int) by rw [show (((m / u % 8 : Nat) : Int).fdiv 2).fmod 2 = _ from fdm2 (m / u % 8) 2 2])) (Op2.idxS (by omega) (getD_at (l := [45, 119]) (i := m / u % 8 / 2 % 2) (by simp; omega)) (by omega))) (Op2.addT (by first | decide | omega | (simp only [List.length_append, List.length_cons, List.length_nil, List.length_map, List.length_replicate]; omega)))) (EvW.sub (EvW.name 4 rfl rfl rfl rfl) (EvW.to (EvW.binop (EvW.name 5 rfl rfl rfl rfl) EvW.int (Op2.modI (by decide))) (show V.int (((m / u % 8 : Nat) : Int).fmod 2) = V.int ((m / u % 8 % 2 : Nat) : Int) by rw [show ((m / u % 8 : Nat) : Int).fmod 2 = _ from fmod_natc _ 2])) (Op2.idxS (by omega) (getD_at (l := [45, 120]) (i := m / u % 8 % 2) (by simp; omega)) (by omega))) (Op2.addT (by first | decide | omega | (simp only [List.length_append, List.length_cons, List.length_nil, List.length_map, List.length_replicate]; omega)))) (Op2.iaddT (by first | decide | omega | (simp only [List.length_append, List.length_cons, List.length_nil, List.length_map, List.length_replicate]; omega)))) ExW.nil)))
  · refine ⟨.val (.str (S r)), .val (.int ((m / u % 8 : Nat) : Int)), ?_⟩
    unfold lbits; rw [if_neg h]
    exact (ExW.cons (Ex1W.assign 5 (EvW.to (EvW.binop (EvW.binop (EvW.name 0 rfl rfl rfl rfl) (EvW.name 2 rfl rfl rfl rfl) (Op2.divI (by omega) (by omega))) EvW.int (Op2.modI (by decide))) (show V.int (((m : Int).fdiv (u : Int)).fmod 8) = V.int ((m / u % 8 : Nat) : Int) by rw [show ((m : Int).fdiv (u : Int)).fmod 8 = _ from fdm2 m u 8])) rfl (.inl rfl)) (ExW.cons (Ex1W.ifF (ItW.to (ItW.cmp (EvW.binop (EvW.binop (EvW.name 0 rfl rfl rfl rfl) (EvW.name 3 rfl rfl rfl rfl) (Op2.divI (by omega) (by omega))) EvW.int (Op2.modI (by decide))) EvW.int Op2.eqI rfl) (by rw [show (((m : Int).fdiv (a : Int)).fmod 2 == 0) = _ from fdm m a 2 0]; exact beq_eq_false_iff_ne.mpr h)) ExW.nil) (ExW.cons (Ex1W.aug 1 rfl (.inl rfl) rfl rfl (EvW.binop (EvW.binop (EvW.sub (EvW.strS [45, 114] (by decide +kernel)) (EvW.to (EvW.binop (EvW.name 5 rfl rfl rfl rfl) EvW.int (Op2.divI (by decide) (by decide))) (show V.int (((m / u % 8 : Nat) : Int).fdiv 4) = V.int ((m / u % 8 / 4 : Nat) : Int) by rw [show ((m / u % 8 : Nat) : Int).fdiv 4 = _ from fdiv_nat _ 4])) (Op2.idxS (by omega) (getD_at (l := [45, 114]) (i := m / u % 8 / 4) (by simp; omega)) (by omega))) (EvW.sub (EvW.strS [45, 119] (by decide +kernel)) (EvW.to (EvW.binop (EvW.binop (EvW.name 5 rfl rfl rfl rfl) EvW.int (Op2.divI (by decide) (by decide))) EvW.int (Op2.modI (by decide))) (show V.int ((((m / u % 8 : Nat) : Int).fdiv 2).fmod 2) = V.int ((m / u % 8 / 2 % 2 : Nat) : Int) by rw [show (((m / u % 8 : Nat) : Int).fdiv 2).fmod 2 = _ from fdm2 (m / u % 8) 2 2])) (Op2.idxS (by omega) (getD_at (l := [45, 119]) (i := m / u % 8 / 2 % 2) (by simp; omega)) (by omega))) (Op2.addT (by first | decide | omega | (simp only [List.length_append, List.length_cons, List.length_nil, List.length_map, List.length_replicate]; omega)))) (EvW.sub (EvW.name 4 rfl rfl rfl rfl) (EvW.to (EvW.binop (EvW.name 5 rfl rfl rfl rfl) EvW.int (Op2.modI (by decide))) (show V.int (((m / u % 8 : Nat) : Int).fmod 2) = V.int ((m / u % 8 % 2 : Nat) : Int) by rw [show ((m / u % 8 : Nat) : Int).fmod 2 = _ from fmod_natc _ 2])) (Op2.idxS (by omega) (getD_at (l := r) (i := m / u % 8 % 2) (by simp; omega)) (by omega))) (Op2.addT (by first | decide | omega | (simp only [List.length_append, List.length_cons, List.length_nil, List.length_map, List.length_replicate]; omega)))) (Op2.iaddT (by first | decide | omega | (simp only [List.length_append, List.length_cons, List.length_nil, List.length_map, List.length_replicate]; omega)))) ExW.nil)))
theorem lawname_pu (g : Gd C) {m : Nat} : PuG C "_law_name" (n + 2) [.int (m : Int)] (.str (S (lname m))) := by
  show PuG C (dr 62).name _ _ _
  refine PuGW.of_def (d := dr 62) 1 (g.df 62) (by decide +kernel) (bind1 62 fun _ _ _ _ => rfl) (N := N62) rfl fun cd q => ?_
  obtain ⟨p1, q1, h1⟩ := lname_body g (n := n) (q := q) (cd := cd) (m := m) (u := 64) (a := 2048) (x := [kindL.getD (m / 4096 % 16) 0]) (r := [83, 115]) (s5 := .unset) rfl (by decide) (by decide) (by decide) (by decide) (by simp)
  obtain ⟨p2, q2, h2⟩ := lname_body g (n := n) (q := q) (cd := cd) (m := m) (u := 8) (a := 1024) (x := [kindL.getD (m / 4096 % 16) 0] ++ lbits m 64 2048 [83, 115]) (r := [83, 115]) (s5 := q1) rfl (by decide) (by decide) (by decide) (by decide) (by simp [lbits])
  obtain ⟨p3, q3, h3⟩ := lname_body g (n := n) (q := q) (cd := cd) (m := m) (u := 1) (a := 512) (x := [kindL.getD (m / 4096 % 16) 0] ++ lbits m 64 2048 [83, 115] ++ lbits m 8 1024 [83, 115]) (r := [84, 116]) (s5 := q2) rfl (by decide) (by decide) (by decide) (by decide) (by simp [lbits])
  have hlp : Lp C (n + 1) (fs N62 q cd) (sTarget loop62) (sBody loop62) [tuV 64 2048 [83, 115], tuV 8 1024 [83, 115], tuV 1 512 [84, 116]]
      [.val (.int (m : Int)), .val (.str (S [kindL.getD (m / 4096 % 16) 0])), .unset, .unset, .unset, .unset] .next _ := LpW.next (AsW.tuple (AssW.cons (AsW.name 2 rfl (.inl rfl)) (AssW.cons (AsW.name 3 rfl (.inl rfl)) (AssW.cons (AsW.name 4 rfl (.inl rfl)) AssW.nil)))) h1 (LpW.next (AsW.tuple (AssW.cons (AsW.name 2 rfl (.inl rfl)) (AssW.cons (AsW.name 3 rfl (.inl rfl)) (AssW.cons (AsW.name 4 rfl (.inl rfl)) AssW.nil)))) h2 (LpW.next (AsW.tuple (AssW.cons (AsW.name 2 rfl (.inl rfl)) (AssW.cons (AsW.name 3 rfl (.inl rfl)) (AssW.cons (AsW.name 4 rfl (.inl rfl)) AssW.nil)))) h3 LpW.nil))
  exact ⟨_, (ExW.cons (Ex1W.assign 1 (EvW.sub (EvW.strS [63, 112, 99, 63, 100, 63, 98, 63, 45, 63, 108, 63, 115, 63, 63, 63] (by decide +kernel)) (EvW.to (EvW.binop (EvW.binop (EvW.name 0 rfl rfl rfl rfl) EvW.int (Op2.divI (by decide) (by decide))) EvW.int (Op2.modI (by decide))) (show V.int (((m : Int).fdiv 4096).fmod 16) = V.int ((m / 4096 % 16 : Nat) : Int) by rw [show ((m : Int).fdiv 4096).fmod 16 = _ from fdm2 m 4096 16])) (Op2.idxS (by omega) (getD_at (l := kindL) (i := m / 4096 % 16) (by show _ < 16; omega)) (by omega))) rfl (.inl rfl)) (ExW.cons (Ex1W.for (EvW.tuple (EvsW.cons (EvW.tuple (EvsW.cons EvW.int (EvsW.cons EvW.int (EvsW.cons (EvW.strS [83, 115] (by decide +kernel)) EvsW.nil))) (by simp)) (EvsW.cons (EvW.tuple (EvsW.cons EvW.int (EvsW.cons EvW.int (EvsW.cons (EvW.strS [83, 115] (by decide +kernel)) EvsW.nil))) (by simp)) (EvsW.cons (EvW.tuple (EvsW.cons EvW.int (EvsW.cons EvW.int (EvsW.cons (EvW.strS [84, 116] (by decide +kernel)) EvsW.nil))) (by simp)) EvsW.nil))) (by simp)) PyIt.tup hlp (AfterW.next ExW.nil)) (ExW.ret (Ex1W.ret (EvW.name 1 rfl rfl rfl rfl)))))⟩
end
end Mine
end
section
set_option tactic.hygienic false
open PySem PySem.Calls PySem.W PyProof.Rows
namespace Mine
section
variable {C : Cx} {n : Nat}
theorem pats_ok : Flt.patsOf vw = [⟨"_twin_re_7", junC.toList, 0, 0⟩, ⟨"HEADER_TOKEN_RE", tokC.toList, 1, 0⟩, ⟨"HEADER_QUOTED_VALUE_RE", quoC.toList, 1, 0⟩, ⟨"HEADER_VALUE_RE", valC.toList, 1, 0⟩, ⟨"HEADER_ESCAPE_RE", escC.toList, 1, 0⟩, ⟨"HEADER_JOIN_TOKEN_RE", jtkC.toList, 0, 0⟩, ⟨"HEADER_JOIN_ESCAPE_RE", jesC.toList, 1, 0⟩] := by kernel_rfl
theorem SR.forget {h₀ f₀ env X oa σ f h} (S : SR C h₀ f₀ env X oa σ f h) : SR C h₀ f₀ env X oa [] f h :=
  ⟨S.inv, S.st, S.t0, S.ns, S.low, S.fL, S.cell, S.capart, S.cw, S.x, S.xd, fun i x sl _ hs => by simp at hs, fun i l hs => by simp at hs, fun i j l l' hs => by simp at hs⟩
theorem Ev.forget {F : Fs} {e : PySem.Expr} {σ σ' : List Slot} {v : V} (h : Ev C n F e σ v σ') : Ev C n F e σ v [] := by
  intro A env s f X oa h₀ f₀ E Q r K h0 S hQ
  exact h r K h0 S fun h1 k1 f1 u1 p1 l1 S1 R1 => hQ h1 k1 f1 u1 p1 l1 S1.forget R1
theorem EvW.forget {F : Fs} {e : PySem.Expr} {σ σ' : List Slot} {v : V} (h : EvW C n F e σ v σ') : EvW C n F e σ v [] := ⟨Ev.forget h.h⟩
noncomputable def PatG (C : Cx) (x : Str) (code : Array Nat) (groups : Nat) : Prop := ∃ P, C.mg x = some (.ref P) ∧ PatOk C P code groups
theorem patG_of (g : Gd C) {x : Str} {code : Array Nat} {k : Nat} (h : (⟨x, code.toList, k, 0⟩ : Flt.PatRec) ∈ Flt.patsOf vw) : PatG C x code k := by
  obtain ⟨P, e, fs, T, ws, m, h1, h2, h3, h4, h5, h6⟩ := g.pats _ h
  exact ⟨P, e, ⟨fs, T, ws, m, h1, h2, h3, h4, h5, Array.toList_inj.mp h6⟩⟩
theorem pat_junC (g : Gd C) : PatG C "_twin_re_7" junC 0 := patG_of g (by rw [pats_ok]; exact (List.mem_cons_self ..))
theorem pat_tokC (g : Gd C) : PatG C "HEADER_TOKEN_RE" tokC 1 := patG_of g (by rw [pats_ok]; exact List.mem_cons_of_mem _ ((List.mem_cons_self ..)))
theorem pat_quoC (g : Gd C) : PatG C "HEADER_QUOTED_VALUE_RE" quoC 1 := patG_of g (by rw [pats_ok]; exact List.mem_cons_of_mem _ (List.mem_cons_of_mem _ ((List.mem_cons_self ..))))
theorem pat_valC (g : Gd C) : PatG C "HEADER_VALUE_RE" valC 1 := patG_of g (by rw [pats_ok]; exact List.mem_cons_of_mem _ (List.mem_cons_of_mem _ (List.mem_cons_of_mem _ ((List.mem_cons_self ..)))))
theorem pat_escC (g : Gd C) : PatG C "HEADER_ESCAPE_RE" escC 1 := patG_of g (by rw [pats_ok]; exact List.mem_cons_of_mem _ (List.mem_cons_of_mem _ (List.mem_cons_of_mem _ (List.mem_cons_of_mem _ ((List.mem_cons_self ..))))))
theorem pat_jtkC (g : Gd C) : PatG C "HEADER_JOIN_TOKEN_RE" jtkC 0 := patG_of g (by rw [pats_ok]; exact List.mem_cons_of_mem _ (List.mem_cons_of_mem _ (List.mem_cons_of_mem _ (List.mem_cons_of_mem _ (List.mem_cons_of_mem _ ((List.mem_cons_self ..)))))))
theorem pat_jesC (g : Gd C) : PatG C "HEADER_JOIN_ESCAPE_RE" jesC 1 := patG_of g (by rw [pats_ok]; exact List.mem_cons_of_mem _ (List.mem_cons_of_mem _ (List.mem_cons_of_mem _ (List.mem_cons_of_mem _ (List.mem_cons_of_mem _ (List.mem_cons_of_mem _ ((List.mem_cons_self ..))))))))
theorem Pu.searchM {P : Addr} {code : Array Nat} {k : Nat} {l : List Nat} {sp : List Int} (p : PatOk C P code k) (hz : l.length ≤ 1000000) (h : Halts (Sre.forSearch code l.toArray k 0 l.length false) (Ends k (some sp))) :
    Pu C n (fun us => PySem.call (.builtin "re.Pattern.search") us) [.val (.ref P), .str (S l)] (.mat (S l) sp) := Pu.search p (by rw [S_length]; omega) h
theorem Pu.searchN {P : Addr} {code : Array Nat} {k : Nat} {l : List Nat} (p : PatOk C P code k) (hz : l.length ≤ 1000000) (h : Halts (Sre.forSearch code l.toArray k 0 l.length false) (Ends k none)) :
    Pu C n (fun us => PySem.call (.builtin "re.Pattern.search") us) [.val (.ref P), .str (S l)] .none := Pu.search p (by rw [S_length]; omega) h
theorem Pu.fullM {P : Addr} {code : Array Nat} {k : Nat} {l : List Nat} {sp : List Int} (p : PatOk C P code k) (hz : l.length ≤ 1000000) (h : Halts (Sre.forMatch code l.toArray k 0 l.length true false) (Ends k (some sp))) :
    Pu C n (fun us => PySem.call (.builtin "re.Pattern.fullmatch") us) [.val (.ref P), .str (S l)] (.mat (S l) sp) := Pu.fullmatch p (by rw [S_length]; omega) h
theorem Pu.fullN {P : Addr} {code : Array Nat} {k : Nat} {l : List Nat} (p : PatOk C P code k) (hz : l.length ≤ 1000000) (h : Halts (Sre.forMatch code l.toArray k 0 l.length true false) (Ends k none)) :
    Pu C n (fun us => PySem.call (.builtin "re.Pattern.fullmatch") us) [.val (.ref P), .str (S l)] .none := Pu.fullmatch p (by rw [S_length]; omega) h
theorem Pu.groupT {l t : List Nat} {sp : List Int} {b e : Nat} (h2 : sp[2]? = some (b : Int)) (h3 : sp[3]? = some (e : Int)) (hl : sp.length = 4) (hz : l.length ≤ 1000000) (ht : (l.drop b).take (e - b) = t) :
    Pu C n (fun us => PySem.call (.builtin "re.Match.group") us) [.mat (S l) sp, .int 1] (.str (S t)) :=
  Pu.to (Pu.group1 h2 h3 hl (by rw [S_length]; omega)) (by rw [← ht]; congr 1; rw [S_of ⟨(S l).cps.extract b e⟩]; congr 1; simp)
theorem unm_pu (g : Gd C) {l r : List Nat} {sp : List Int} {e : Nat} (h0 : sp[0]? = some ((0 : Nat) : Int)) (h1 : sp[1]? = some (e : Int)) (hz : l.length ≤ 1000000) (hl : 2 ≤ sp.length) (hr : l.drop e = r) : PuG C "unmatched" (n + 1) [.mat (S l) sp] (.str (S r)) := by
  rw [← hr]; exact unmatched_pu g h0 h1 hz hl
structure LamH (C : Cx) (cA : Addr) (t : Tab) (ln col : Nat) (q : Str) : Prop where
  ht : t ∈ C.T
  CH : CodeHd C.G cA t.P
  hl : t.ln = ln
  hc : t.col = col
  hq : q ++ "<lambda>" = t.q
  hu : ∀ t' ∈ C.T, t'.P = t.P → t' = t
theorem lamOk {params : Arguments} {scope : Scope} {y : Str} (h1 : scope.names = [(y, .local)]) (h2 : scope.kind = .function) (h3 : scope.isCoroutine = false) (h4 : scope.isGenerator = false) (h5 : ∀ env, defaultsOf params env = ([], [])) (h6 : ∀ env, closureFor scope env = pure [])
    (h7 : ∀ (q : Str) (body : PySem.Expr) (pm cdv ct u : Value), bindArgs (kla_fn "<lambda>" q params body scope [] pm cdv ct) ⟨[u], []⟩ = pure [(y, u)]) : LamOk params scope y := ⟨h1, h2, h3, h4, h5, h6, h7⟩
theorem lensum0 : ∀ ls : List (List Nat), lensum 0 ls = ls.flatten.length
  | [] => rfl
  | a :: r => by
    show a.length + 0 + lensum 0 r = _
    rw [lensum0 r]; simp
theorem joinOk0 {outs : List (List Nat)} (h : outs.flatten.length ≤ 16000000) : JoinOk ⟨#[]⟩ (outs.map S) = true := joinOk_of (z := []) (by show lensum 0 outs ≤ _; rw [lensum0]; exact h)
theorem join0 (outs : List (List Nat)) : Txt.join ⟨#[]⟩ (outs.map S) = S outs.flatten := by
  rw [← interc_nil]; exact tx_join [] outs
noncomputable def PV (p : List Nat × Option (List Nat)) : V := .tup [.str (S p.1), match p.2 with | none => .none | some v => .str (S v)]
noncomputable def N9 : List (Str × NameKind) := [("header_values", .local), ("result", .local), ("text", .local), ("orig_text", .local), ("pairs", .local), ("m", .local), ("name", .local), ("value", .local), ("non_junk", .local), ("nr_junk_chars", .local), ("isinstance", .globalImplicit), ("str", .globalImplicit), ("HEADER_TOKEN_RE", .globalImplicit), ("unmatched", .globalImplicit), ("HEADER_QUOTED_VALUE_RE", .globalImplicit), ("HEADER_ESCAPE_RE", .globalImplicit), ("HEADER_VALUE_RE", .globalImplicit), ("_twin_re_7", .globalImplicit)]
noncomputable def for9 : Stmt := nth (dr 9).body 2
noncomputable def wh9 : Stmt := nth (sBody for9) 2
noncomputable def sg9 (hv : V) (res : List V) (tx : List Nat) (og : Slot) (pr : List V) (s5 s6 s7 s8 s9 : Slot) : List Slot := [.val hv, .own res, .val (.str (S tx)), og, .own pr, s5, s6, s7, s8, s9, .unset, .unset, .unset, .unset, .unset, .unset, .unset, .unset]
theorem spl_none (g : Gd C) {q : Str} {cA : Addr} {hv : V} {res pr : List V} {og s5 s6 s7 s8 s9 : Slot} (hpr : pr.length ≤ 1000) {tok rest : List Nat} (hne : tok ≠ []) (h1 : ∀ c ∈ tok, fTok c = true) (h2 : ∀ c, rest.head? = some c → fTok c = false) (h3 : ∀ c, rest.head? = some c → sp c = false ∧ c ≠ 61) (hz : (tok ++ rest).length ≤ 1000000) :
    ExW C (n + 3) (fs N9 q (.ref cA)) (sBody wh9) (sg9 hv res (tok ++ rest) og pr s5 s6 s7 s8 s9) .next (sg9 hv res rest og (pr ++ [PV (tok, none)]) (.val .none) (.val (.str (S tok))) (.val .none) s8 s9) := by
  obtain ⟨P1, e1, p1⟩ := pat_tokC g
  obtain ⟨P2, e2, p2⟩ := pat_quoC g
  obtain ⟨P3, e3, p3⟩ := pat_valC g
  obtain ⟨P4, e4, p4⟩ := pat_escC g
  obtain ⟨P5, e5, p5⟩ := pat_junC g
  exact (ExW.cons (Ex1W.assign 5 (EvW.meth (EvW.glob 12 rfl e1 rfl) (EvsW.cons (EvW.name 2 rfl rfl rfl rfl) EvsW.nil) p1.hasT miPat_search (Pu.searchM p1 hz (tok_yes rfl hne h1 h2 hz))) rfl (.inl rfl)) (ExW.cons (Ex1W.ifT (ItW.plain (fun _ _ => rfl) (EvW.name 5 rfl rfl rfl rfl) (Tr.mat match_bool match_len)) (ExW.cons (Ex1W.assign 2 (EvW.callG 13 rfl (EvsW.cons (EvW.name 5 rfl rfl rfl rfl) EvsW.nil) (unm_pu g (e := tok.length) rfl rfl hz (by simp) (by simp))) rfl (.inl rfl)) (ExW.cons (Ex1W.assign 6 (EvW.meth (EvW.name 5 rfl rfl rfl rfl) (EvsW.cons EvW.int EvsW.nil) HasT.mat miMat_group (Pu.groupT (b := 0) (e := tok.length) rfl rfl rfl hz (by simp))) rfl (.inl rfl)) (ExW.cons (Ex1W.assign 5 (EvW.meth (EvW.glob 14 rfl e2 rfl) (EvsW.cons (EvW.name 2 rfl rfl rfl rfl) EvsW.nil) p2.hasT miPat_search (Pu.searchN p2 (by simp at hz; omega) (quo_no h3 (by simp at hz; omega)))) rfl (.inl rfl)) (ExW.cons (Ex1W.ifF (ItW.plain (fun _ _ => rfl) (EvW.name 5 rfl rfl rfl rfl) Tr.none) (ExW.cons (Ex1W.assign 5 (EvW.meth (EvW.glob 16 rfl e3 rfl) (EvsW.cons (EvW.name 2 rfl rfl rfl rfl) EvsW.nil) p3.hasT miPat_search (Pu.searchN p3 (by simp at hz; omega) (val_no h3 (by simp at hz; omega)))) rfl (.inl rfl)) (ExW.cons (Ex1W.ifF (ItW.plain (fun _ _ => rfl) (EvW.name 5 rfl rfl rfl rfl) Tr.none) (ExW.cons (Ex1W.assign 7 EvW.none rfl (.inl rfl)) ExW.nil)) ExW.nil))) (ExW.cons (Ex1W.append 4 rfl rfl rfl rfl (EvW.tuple (EvsW.cons (EvW.name 6 rfl rfl rfl rfl) (EvsW.cons (EvW.name 7 rfl rfl rfl rfl) EvsW.nil)) (by simp)) rfl (by first | decide | omega | (simp only [List.length_append, List.length_cons, List.length_nil, List.length_map, List.length_replicate]; omega))) ExW.nil)))))) ExW.nil))
theorem e61sp : sp 61 = false := by decide +kernel
theorem e34sp : sp 34 = false := by decide +kernel
theorem spl_bare (g : Gd C) {q : Str} {cA : Addr} {hv : V} {res pr : List V} {og s5 s6 s7 s8 s9 : Slot} (hpr : pr.length ≤ 1000) {tok v rest : List Nat} (hne : tok ≠ []) (h1 : ∀ c ∈ tok, fTok c = true) (hv0 : v ≠ []) (hq : ∀ c, v.head? = some c → c ≠ 34) (h4 : ∀ c ∈ v, fVal c = true) (h5 : ∀ c, rest.head? = some c → fVal c = false ∧ sp c = false) (hz : (tok ++ 61 :: (v ++ rest)).length ≤ 1000000) :
    ∃ s5', ExW C (n + 3) (fs N9 q (.ref cA)) (sBody wh9) (sg9 hv res (tok ++ 61 :: (v ++ rest)) og pr s5 s6 s7 s8 s9) .next (sg9 hv res rest og (pr ++ [PV (tok, some v)]) s5' (.val (.str (S tok))) (.val (.str (S v))) s8 s9) := by
  obtain ⟨P1, e1, p1⟩ := pat_tokC g
  obtain ⟨P2, e2, p2⟩ := pat_quoC g
  obtain ⟨P3, e3, p3⟩ := pat_valC g
  obtain ⟨P4, e4, p4⟩ := pat_escC g
  obtain ⟨P5, e5, p5⟩ := pat_junC g
  have h2 : ∀ c, (61 :: (v ++ rest)).head? = some c → fTok c = false := fun c hc => by simp at hc; subst hc; decide +kernel
  have hz2 : (61 :: (v ++ rest)).length ≤ 1000000 := by simp at hz ⊢; omega
  have hspv : ∀ c ∈ v, sp c = false := fun c hc => by
    have := h4 c hc
    unfold fVal at this
    cases e : sp c with
    | false => rfl
    | true => rw [e] at this; simp at this
  obtain ⟨d, hd⟩ : ∃ d, v.head? = some d := by cases v with | nil => exact absurd rfl hv0 | cons a r => exact ⟨a, rfl⟩
  have hcons : (61 :: (v ++ rest)) = 61 :: d :: (v.tail ++ rest) := by cases v with | nil => exact absurd rfl hv0 | cons a r => simp at hd; subst hd; rfl
  have hd1 : sp d = false := hspv d (List.mem_of_head? hd)
  have hd3 := hq d hd
  have hd2 : (61 :: (v ++ rest)).drop (1 + v.length) = rest := by rw [Nat.add_comm]; simp
  have hg2 : ((61 :: (v ++ rest)).drop 1).take (1 + v.length - 1) = v := by simp
  have hlast : ∀ c, v.getLast? = some c → Unicode.isSpace c = false := fun c hc => hspv c (List.mem_of_getLast? hc)
  exact ⟨_, (ExW.cons (Ex1W.assign 5 (EvW.meth (EvW.glob 12 rfl e1 rfl) (EvsW.cons (EvW.name 2 rfl rfl rfl rfl) EvsW.nil) p1.hasT miPat_search (Pu.searchM p1 hz (tok_yes rfl hne h1 h2 hz))) rfl (.inl rfl)) (ExW.cons (Ex1W.ifT (ItW.plain (fun _ _ => rfl) (EvW.name 5 rfl rfl rfl rfl) (Tr.mat match_bool match_len)) (ExW.cons (Ex1W.assign 2 (EvW.callG 13 rfl (EvsW.cons (EvW.name 5 rfl rfl rfl rfl) EvsW.nil) (unm_pu g (e := tok.length) rfl rfl hz (by simp) (by simp))) rfl (.inl rfl)) (ExW.cons (Ex1W.assign 6 (EvW.meth (EvW.name 5 rfl rfl rfl rfl) (EvsW.cons EvW.int EvsW.nil) HasT.mat miMat_group (Pu.groupT (b := 0) (e := tok.length) rfl rfl rfl hz (by simp))) rfl (.inl rfl)) (ExW.cons (Ex1W.assign 5 (EvW.meth (EvW.glob 14 rfl e2 rfl) (EvsW.cons (EvW.name 2 rfl rfl rfl rfl) EvsW.nil) p2.hasT miPat_search (Pu.searchN p2 hz2 (quo_no2 (r := v.tail ++ rest) (d := d) hcons e61sp hd1 hd3 hz2))) rfl (.inl rfl)) (ExW.cons (Ex1W.ifF (ItW.plain (fun _ _ => rfl) (EvW.name 5 rfl rfl rfl rfl) Tr.none) (ExW.cons (Ex1W.assign 5 (EvW.meth (EvW.glob 16 rfl e3 rfl) (EvsW.cons (EvW.name 2 rfl rfl rfl rfl) EvsW.nil) p3.hasT miPat_search (Pu.searchM p3 hz2 (val_yes rfl h4 h5 e61sp hz2))) rfl (.inl rfl)) (ExW.cons (Ex1W.ifT (ItW.plain (fun _ _ => rfl) (EvW.name 5 rfl rfl rfl rfl) (Tr.mat match_bool match_len)) (ExW.cons (Ex1W.assign 2 (EvW.callG 13 rfl (EvsW.cons (EvW.name 5 rfl rfl rfl rfl) EvsW.nil) (unm_pu g (e := 1 + v.length) rfl rfl hz2 (by simp) hd2)) rfl (.inl rfl)) (ExW.cons (Ex1W.assign 7 (EvW.meth (EvW.name 5 rfl rfl rfl rfl) (EvsW.cons EvW.int EvsW.nil) HasT.mat miMat_group (Pu.groupT (b := 1) (e := 1 + v.length) rfl rfl rfl hz2 hg2)) rfl (.inl rfl)) (ExW.cons (Ex1W.assign 7 (EvW.meth (EvW.name 7 rfl rfl rfl rfl) EvsW.nil HasT.str mi_rstrip (Pu.rstripT hlast (by simp at hz2; omega))) rfl (.inl rfl)) ExW.nil)))) ExW.nil))) (ExW.cons (Ex1W.append 4 rfl rfl rfl rfl (EvW.tuple (EvsW.cons (EvW.name 6 rfl rfl rfl rfl) (EvsW.cons (EvW.name 7 rfl rfl rfl rfl) EvsW.nil)) (by simp)) rfl (by first | decide | omega | (simp only [List.length_append, List.length_cons, List.length_nil, List.length_map, List.length_replicate]; omega))) ExW.nil)))))) ExW.nil))⟩
theorem spl_quo (g : Gd C) {q : Str} {cA : Addr} {hv : V} {res pr : List V} {og s5 s6 s7 s8 s9 : Slot} (hpr : pr.length ≤ 1000) {t : Tab} (L : LamH C cA t 29 49 q) {tok s1 s2 b0 rest : List Nat} {items : List (Nat × List Nat)} (hne : tok ≠ []) (h1 : ∀ c ∈ tok, fTok c = true) (h3 : ∀ c ∈ s1, sp c = true) (h4 : ∀ c ∈ s2, sp c = true) (hb : ∀ d ∈ b0, fQ d = true) (ok : QOk items)
    (hz : (tok ++ (s1 ++ (61 :: (s2 ++ (34 :: (b0 ++ (qbody items ++ 34 :: rest))))))).length ≤ 1000000) :
    ∃ s5', ExW C (n + 3) (fs N9 q (.ref cA)) (sBody wh9) (sg9 hv res (tok ++ (s1 ++ (61 :: (s2 ++ (34 :: (b0 ++ (qbody items ++ 34 :: rest))))))) og pr s5 s6 s7 s8 s9) .next (sg9 hv res rest og (pr ++ [PV (tok, some (b0 ++ ubody items))]) s5' (.val (.str (S tok))) (.val (.str (S (b0 ++ ubody items)))) s8 s9) := by
  obtain ⟨P1, e1, p1⟩ := pat_tokC g
  obtain ⟨P2, e2, p2⟩ := pat_quoC g
  obtain ⟨P3, e3, p3⟩ := pat_valC g
  obtain ⟨P4, e4, p4⟩ := pat_escC g
  obtain ⟨P5, e5, p5⟩ := pat_junC g
  have h2 : ∀ c, (s1 ++ (61 :: (s2 ++ (34 :: (b0 ++ (qbody items ++ 34 :: rest)))))).head? = some c → fTok c = false := fun c hc => by
    cases s1 with
    | nil => simp at hc; subst hc; decide +kernel
    | cons a r =>
      simp at hc; subst hc
      have := h3 a (List.mem_cons_self ..)
      unfold fTok; rw [this]; simp
  have hz2 : (s1 ++ (61 :: (s2 ++ (34 :: (b0 ++ (qbody items ++ 34 :: rest)))))).length ≤ 1000000 := by simp at hz ⊢; omega
  have hd2 : (s1 ++ (61 :: (s2 ++ (34 :: (b0 ++ (qbody items ++ 34 :: rest)))))).drop (s1.length + s2.length + 2 + (b0.length + (qbody items).length) + 1) = rest := by
    have e : s1 ++ (61 :: (s2 ++ (34 :: (b0 ++ (qbody items ++ 34 :: rest))))) = (s1 ++ [61] ++ s2 ++ [34] ++ b0 ++ qbody items ++ [34]) ++ rest := by simp
    rw [e, List.drop_left']; simp <;> omega
  have hg2 : ((s1 ++ (61 :: (s2 ++ (34 :: (b0 ++ (qbody items ++ 34 :: rest)))))).drop (s1.length + s2.length + 2)).take (s1.length + s2.length + 2 + (b0.length + (qbody items).length) - (s1.length + s2.length + 2)) = b0 ++ qbody items := by
    have e : s1 ++ (61 :: (s2 ++ (34 :: (b0 ++ (qbody items ++ 34 :: rest))))) = (s1 ++ [61] ++ s2 ++ [34]) ++ ((b0 ++ qbody items) ++ 34 :: rest) := by simp
    rw [e, List.drop_left' (by simp <;> omega), List.take_left' (by simp <;> omega)]
  have hzv : (b0 ++ qbody items).length ≤ 1000000 := by simp at hz ⊢; omega
  have hzv' : (S (b0 ++ qbody items)).length ≤ 16000000 := by rw [S_length]; omega
  have hqi : ∀ it : List (Nat × List Nat), 2 * it.length ≤ (qbody it).length := fun it => by
    induction it with
    | nil => simp [qbody]
    | cons a r ih => simp [qbody] at ih ⊢; omega
  have hqi' := hqi items
  obtain ⟨outs, kk, dS, hfl', hlen⟩ := esc_sub (l := b0 ++ qbody items) hzv items [] b0 ok hb rfl
  have hul : ∀ it : List (Nat × List Nat), (ubody it).length ≤ (qbody it).length := fun it => by
    induction it with
    | nil => simp [qbody, ubody]
    | cons a r ih => simp [qbody, ubody] at ih ⊢; omega
  have hul' := hul items
  have hfl : outs.flatten.length ≤ 16000000 := by rw [hfl']; simp at hzv ⊢; omega
  have hol : outs.length ≤ 1000000 := by
    simp at hz
    omega
  have hres : V.str (Txt.join ⟨#[]⟩ (outs.map S)) = V.str (S (b0 ++ ubody items)) := by rw [join0, hfl']
  exact ⟨_, (ExW.cons (Ex1W.assign 5 (EvW.meth (EvW.glob 12 rfl e1 rfl) (EvsW.cons (EvW.name 2 rfl rfl rfl rfl) EvsW.nil) p1.hasT miPat_search (Pu.searchM p1 hz (tok_yes rfl hne h1 h2 hz))) rfl (.inl rfl)) (ExW.cons (Ex1W.ifT (ItW.plain (fun _ _ => rfl) (EvW.name 5 rfl rfl rfl rfl) (Tr.mat match_bool match_len)) (ExW.cons (Ex1W.assign 2 (EvW.callG 13 rfl (EvsW.cons (EvW.name 5 rfl rfl rfl rfl) EvsW.nil) (unm_pu g (e := tok.length) rfl rfl hz (by simp) (by simp))) rfl (.inl rfl)) (ExW.cons (Ex1W.assign 6 (EvW.meth (EvW.name 5 rfl rfl rfl rfl) (EvsW.cons EvW.int EvsW.nil) HasT.mat miMat_group (Pu.groupT (b := 0) (e := tok.length) rfl rfl rfl hz (by simp))) rfl (.inl rfl)) (ExW.cons (Ex1W.assign 5 (EvW.meth (EvW.glob 14 rfl e2 rfl) (EvsW.cons (EvW.name 2 rfl rfl rfl rfl) EvsW.nil) p2.hasT miPat_search (Pu.searchM p2 hz2 (quo_yes rfl h3 h4 e61sp e34sp hb ok hz2))) rfl (.inl rfl)) (ExW.cons (Ex1W.ifT (ItW.plain (fun _ _ => rfl) (EvW.name 5 rfl rfl rfl rfl) (Tr.mat match_bool match_len)) (ExW.cons (Ex1W.assign 2 (EvW.callG 13 rfl (EvsW.cons (EvW.name 5 rfl rfl rfl rfl) EvsW.nil) (unm_pu g (e := s1.length + s2.length + 2 + (b0.length + (qbody items).length) + 1) rfl rfl hz2 (by simp) hd2)) rfl (.inl rfl)) (ExW.cons (Ex1W.assign 7 (EvW.meth (EvW.name 5 rfl rfl rfl rfl) (EvsW.cons EvW.int EvsW.nil) HasT.mat miMat_group (Pu.groupT (b := s1.length + s2.length + 2) (e := s1.length + s2.length + 2 + (b0.length + (qbody items).length)) rfl rfl rfl hz2 hg2)) rfl (.inl rfl)) (ExW.cons (Ex1W.assign 7 (EvW.to (EvW.subLam (τ := []) (EvW.glob 15 rfl e4 rfl) p4 (lamOk rfl rfl rfl rfl (fun _ => rfl) (fun _ => rfl) (fun _ _ _ _ _ _ => rfl)) L.ht L.hu L.hl.symm L.hc.symm L.hq rfl L.CH (EvW.name 7 rfl rfl rfl rfl) hzv' (fun sp z hsp cd => by
    obtain ⟨q0, c, rfl, hc, rfl⟩ := hsp
    have hgr : ((b0 ++ qbody items).drop (q0 + 1)).take (q0 + 2 - (q0 + 1)) = [c] := by rw [show q0 + 2 - (q0 + 1) = 1 from by omega, List.take_one, List.head?_drop, hc]; rfl
    exact EvW.forget (EvW.to (EvW.binop (EvW.strS [] (by decide +kernel)) (EvW.orT (EvW.meth (EvW.name 0 rfl rfl rfl rfl) (EvsW.cons EvW.int EvsW.nil) HasT.mat miMat_group (Pu.groupT (b := q0 + 1) (e := q0 + 2) rfl rfl rfl hzv hgr)) (Tr.strT (by simp) (by simp))) (Op2.addT (by simp))) rfl)) dS (by simp; omega) (joinOk0 hfl)) hres) rfl (.inl rfl)) ExW.nil)))) (ExW.cons (Ex1W.append 4 rfl rfl rfl rfl (EvW.tuple (EvsW.cons (EvW.name 6 rfl rfl rfl rfl) (EvsW.cons (EvW.name 7 rfl rfl rfl rfl) EvsW.nil)) (by simp)) rfl (by first | decide | omega | (simp only [List.length_append, List.length_cons, List.length_nil, List.length_map, List.length_replicate]; omega))) ExW.nil)))))) ExW.nil))⟩
set_option tactic.hygienic true in
theorem spl_junk (g : Gd C) {q : Str} {cA : Addr} {hv : V} {res pr : List V} {og s5 s6 s7 s8 s9 : Slot} (hpr : pr.length ≤ 1000) {r rest : List Nat} (hr : r ≠ []) (h1 : ∀ c ∈ r, fJ c = true) (h2 : ∀ c, rest.head? = some c → fJ c = false) (h3 : ∀ c, (r ++ rest).head? = some c → sp c = false ∧ fTok c = false ∧ c ≠ 44) (hz : (r ++ rest).length ≤ 1000000) :
    ∃ s5' s8' s9', ExW C (n + 3) (fs N9 q (.ref cA)) (sBody wh9) (sg9 hv res (r ++ rest) og pr s5 s6 s7 s8 s9) .next (sg9 hv res rest og pr s5' s6 s7 s8' s9') := by
  obtain ⟨P1, e1, p1⟩ := pat_tokC g
  obtain ⟨P2, e2, p2⟩ := pat_quoC g
  obtain ⟨P3, e3, p3⟩ := pat_valC g
  obtain ⟨P4, e4, p4⟩ := pat_escC g
  obtain ⟨P5, e5, p5⟩ := pat_junC g
  obtain ⟨c, hc⟩ : ∃ c, (r ++ rest).head? = some c := by cases r with | nil => exact absurd rfl hr | cons a b => exact ⟨a, rfl⟩
  obtain ⟨hsp, hft, h44⟩ := h3 c hc
  have hls : ∀ d, (r ++ rest).head? = some d → Unicode.isSpace d = false := fun d hd => (h3 d hd).1
  have dJ := jun_sub (l := r ++ rest) rfl hr h1 h2 hz
  have hall : (S [] :: if r.length < (r ++ rest).length then [⟨(r ++ rest).toArray.extract r.length (r ++ rest).length⟩] else []) = (if r.length < (r ++ rest).length then [[], rest] else [[]]).map S := by
    split
    · rw [S_of ⟨(r ++ rest).toArray.extract r.length (r ++ rest).length⟩]; simp
    · rfl
  rw [hall] at dJ
  have hal : ((if r.length < (r ++ rest).length then [[], rest] else [[]]).map S).length ≤ 1000000 := by split <;> simp
  have hfl : (if r.length < (r ++ rest).length then [[], rest] else [[]]).flatten = rest := by
    split
    · simp
    · rename_i hlt; simp at hlt; simp [hlt]
  have hjo := joinOk0 (outs := if r.length < (r ++ rest).length then [[], rest] else [[]]) (by rw [hfl]; simp at hz; omega)
  have hres : V.tup [.str (Txt.join ⟨#[]⟩ ((if r.length < (r ++ rest).length then [[], rest] else [[]]).map S)), .int ((1 : Nat) : Int)] = V.tup [.str (S rest), .int 1] := by rw [join0, hfl]; rfl
  exact ⟨_, _, _, (ExW.cons (Ex1W.assign 5 (EvW.meth (EvW.glob 12 rfl e1 rfl) (EvsW.cons (EvW.name 2 rfl rfl rfl rfl) EvsW.nil) p1.hasT miPat_search (Pu.searchN p1 hz (tok_no hc hsp hft hz))) rfl (.inl rfl)) (ExW.cons (Ex1W.ifF (ItW.plain (fun _ _ => rfl) (EvW.name 5 rfl rfl rfl rfl) Tr.none) (ExW.cons (Ex1W.ifF (ItW.to (ItW.plain (fun _ _ => rfl) (EvW.meth (EvW.meth (EvW.name 2 rfl rfl rfl rfl) EvsW.nil HasT.str mi_lstrip (Pu.lstripT hls (by omega))) (EvsW.cons (EvW.strS [44] (by decide +kernel)) EvsW.nil) HasT.str mi_startswith Pu.startsT) Tr.bool) (by rw [beq_eq_false_iff_ne]; intro q; exact (h3 _ q).2.2 rfl)) (ExW.cons (Ex1W.assignT (EvW.meth (EvW.glob 17 rfl e5 rfl) (EvsW.cons (EvW.strS [] (by decide +kernel)) (EvsW.cons (EvW.name 2 rfl rfl rfl rfl) EvsW.nil)) p5.hasT miPat_subn (Pu.to (Pu.subnLit p5 (by rw [S_length]; omega) (by decide +kernel) dJ hal hjo) hres)) (AsW.tuple (AssW.cons (AsW.name 8 rfl (.inl rfl)) (AssW.cons (AsW.name 9 rfl (.inl rfl)) AssW.nil)))) (ExW.cons (Ex1W.assert (ItW.to (ItW.cmp (EvW.name 9 rfl rfl rfl rfl) EvW.int Op2.gtI rfl) (by decide))) (ExW.cons (Ex1W.assign 2 (EvW.name 8 rfl rfl rfl rfl) rfl (.inl rfl)) ExW.nil)))) ExW.nil)) ExW.nil))⟩
end
end Mine
end
section
set_option tactic.hygienic false
open PySem PySem.Calls PySem.W PyProof.Rows
namespace Mine
section
variable {C : Cx} {n : Nat}
theorem Ev.fmtS {F : Fs} {e : PySem.Expr} {pos : Pos} {σ σ₁ : List Slot} {x : Str} (h : Ev C n F e σ (.str x) σ₁) (hz : x.length ≤ 16000000) : Ev C n F (.FormattedValue e 115 .none pos) σ (.str x) σ₁ := by
  intro A env s f X oa h₀ f₀ E Q r K h0 S hQ
  refine wpAny_FormattedValue_s (h r K h0 S fun h1 k1 f1 u1 p1 l1 S1 R1 => ?_)
  obtain ⟨t, rfl⟩ := R1.str_inv
  have hsz : x.length ≤ sizeLine := by rw [sizeLine_eq]; omega
  show wpAny _ A (habitSame "fstring-hands-on-the-str" (.str x t)) _ E _
  refine wp_pos p1 (habitSame_str (fun t' tk p2 => ?_) hsz)
  exact wp_pos p2 (formatField_str (fun t2 tk2 p3 => hQ h1 tk2 f1 _ p3 l1 S1 (.str ..)) hsz)
theorem Ev.joined3 {F : Fs} {e1 e2 e3 : PySem.Expr} {pos : Pos} {σ σ₁ σ₂ σ₃ : List Slot} {x y z : List Nat} (h1 : Ev C n F e1 σ (.str (S x)) σ₁) (h2 : Ev C n F e2 σ₁ (.str (S y)) σ₂) (h3 : Ev C n F e3 σ₂ (.str (S z)) σ₃) (hz : x.length + y.length + z.length ≤ 16000000) :
    Ev C n F (.JoinedStr [e1, e2, e3] pos) σ (.str (S (x ++ y ++ z))) σ₃ := by
  intro A env s f X oa h₀ f₀ E Q r K h0 Z hQ
  have e0 : Str.empty = S [] := rfl
  refine JoinedStr_many (joinParts_cons (h1 r K h0 Z fun g1 k1 f1 u1 p1 l1 S1 R1 => ?_))
  obtain ⟨t1, rfl⟩ := R1.str_inv
  refine ⟨by rw [e0, S_append, S_length, sizeLine_eq]; simp; omega, joinParts_cons (h2 r K p1 S1 fun g2 k2 f2 u2 p2 l2 S2 R2 => ?_)⟩
  obtain ⟨t2, rfl⟩ := R2.str_inv
  refine ⟨by rw [e0, S_append, S_append, S_length, sizeLine_eq]; simp; omega, joinParts_cons (rest := []) (h3 r K p2 S2 fun g3 k3 f3 u3 p3 l3 S3 R3 => ?_)⟩
  obtain ⟨t3, rfl⟩ := R3.str_inv
  refine ⟨by rw [e0, S_append, S_append, S_append, S_length, sizeLine_eq]; simp; omega, ?_⟩
  rw [e0, S_append, S_append, S_append, List.nil_append]
  exact joinParts_nil (hQ g3 _ f3 _ (Nat.succ_pos _) (l1.trans (l2.trans l3)) S3 (.str ..)) (by rw [S_length, sizeLine_eq]; simp; omega)
theorem EvW.fmtS {F : Fs} {e : PySem.Expr} {pos : Pos} {σ σ₁ : List Slot} {x : Str} (h : EvW C n F e σ (.str x) σ₁) (hz : x.length ≤ 16000000) : EvW C n F (.FormattedValue e 115 .none pos) σ (.str x) σ₁ := ⟨Ev.fmtS h.h hz⟩
theorem EvW.joined3 {F : Fs} {e1 e2 e3 : PySem.Expr} {pos : Pos} {σ σ₁ σ₂ σ₃ : List Slot} {x y z : List Nat} (h1 : EvW C n F e1 σ (.str (S x)) σ₁) (h2 : EvW C n F e2 σ₁ (.str (S y)) σ₂) (h3 : EvW C n F e3 σ₂ (.str (S z)) σ₃) (hz : x.length + y.length + z.length ≤ 16000000) :
    EvW C n F (.JoinedStr [e1, e2, e3] pos) σ (.str (S (x ++ y ++ z))) σ₃ := ⟨Ev.joined3 h1.h h2.h h3.h hz⟩
/-- a header text and what it is read as, with the number of turns -/
inductive Tx : List Nat → List (List Nat × Option (List Nat)) → Nat → Prop
  | nil : Tx [] [] 0
  | junk {r rest : List Nat} {ps m} : r ≠ [] → (∀ c ∈ r, fJ c = true) → (∀ c, rest.head? = some c → fJ c = false) → (∀ c, (r ++ rest).head? = some c → sp c = false ∧ fTok c = false ∧ c ≠ 44) → Tx rest ps m → Tx (r ++ rest) ps (m + 1)
  | none {tok rest : List Nat} {ps m} : tok ≠ [] → (∀ c ∈ tok, fTok c = true) → (∀ c, rest.head? = some c → fTok c = false) → (∀ c, rest.head? = some c → sp c = false ∧ c ≠ 61) → Tx rest ps m → Tx (tok ++ rest) ((tok, .none) :: ps) (m + 1)
  | bare {tok v rest : List Nat} {ps m} : tok ≠ [] → (∀ c ∈ tok, fTok c = true) → v ≠ [] → (∀ c, v.head? = some c → c ≠ 34) → (∀ c ∈ v, fVal c = true) → (∀ c, rest.head? = some c → fVal c = false ∧ sp c = false) → Tx rest ps m →
      Tx (tok ++ 61 :: (v ++ rest)) ((tok, some v) :: ps) (m + 1)
  | quo {tok s1 s2 b0 rest : List Nat} {items : List (Nat × List Nat)} {ps m} : tok ≠ [] → (∀ c ∈ tok, fTok c = true) → (∀ c ∈ s1, sp c = true) → (∀ c ∈ s2, sp c = true) → (∀ d ∈ b0, fQ d = true) → QOk items → Tx rest ps m →
      Tx (tok ++ (s1 ++ (61 :: (s2 ++ (34 :: (b0 ++ (qbody items ++ 34 :: rest))))))) ((tok, some (b0 ++ ubody items)) :: ps) (m + 1)
theorem wh_test {q : Str} {cA : Addr} {hv : V} {res pr : List V} {l : List Nat} {og s5 s6 s7 s8 s9 : Slot} (hl : l ≠ []) (hz : l.length ≤ 1000000) : ItW C (n + 3) (fs N9 q (.ref cA)) (sTest wh9) (sg9 hv res l og pr s5 s6 s7 s8 s9) true (sg9 hv res l og pr s5 s6 s7 s8 s9) :=
  ItW.plain (fun _ _ => rfl) (EvW.name 2 rfl rfl rfl rfl) (Tr.strT hl (by omega))
theorem wh_stop {q : Str} {cA : Addr} {hv : V} {res pr : List V} {og s5 s6 s7 s8 s9 : Slot} : ItW C (n + 3) (fs N9 q (.ref cA)) (sTest wh9) (sg9 hv res [] og pr s5 s6 s7 s8 s9) false (sg9 hv res [] og pr s5 s6 s7 s8 s9) :=
  ItW.plain (fun _ _ => rfl) (EvW.name 2 rfl rfl rfl rfl) Tr.strF
theorem wh_run (g : Gd C) {q : Str} {cA : Addr} {t : Tab} (L : LamH C cA t 29 49 q) {hv : V} {res : List V} {og : Slot} {l : List Nat} {ps : List (List Nat × Option (List Nat))} {m : Nat} (x : Tx l ps m) : ∀ {pr : List V} {s5 s6 s7 s8 s9 : Slot}, l.length ≤ 1000000 → pr.length + ps.length ≤ 1000 →
    ∃ s5' s6' s7' s8' s9', Wh C (n + 3) (fs N9 q (.ref cA)) (sTest wh9) (sBody wh9) m (sg9 hv res l og pr s5 s6 s7 s8 s9) .next (sg9 hv res [] og (pr ++ ps.map PV) s5' s6' s7' s8' s9') := by
  induction x with
  | nil => intro pr s5 s6 s7 s8 s9 _ _; exact ⟨s5, s6, s7, s8, s9, by rw [List.map_nil, List.append_nil]; exact WhW.stop wh_stop⟩
  | @junk r rest ps m h1 h2 h3 h4 _ ih =>
    intro pr s5 s6 s7 s8 s9 hz hp
    obtain ⟨a5, a8, a9, hb⟩ := spl_junk (n := n) g (q := q) (cA := cA) (hv := hv) (res := res) (pr := pr) (og := og) (s5 := s5) (s6 := s6) (s7 := s7) (s8 := s8) (s9 := s9) (by omega) h1 h2 h3 h4 hz
    obtain ⟨s5', s6', s7', s8', s9', hw⟩ := ih (pr := pr) (s5 := a5) (s6 := s6) (s7 := s7) (s8 := a8) (s9 := a9) (by simp at hz; omega) hp
    exact ⟨_, _, _, _, _, WhW.next (wh_test (by simp [h1]) hz) hb hw⟩
  | @none tok rest ps m h1 h2 h3 h4 _ ih =>
    intro pr s5 s6 s7 s8 s9 hz hp
    simp only [List.length_cons] at hp
    have hb := spl_none (n := n) g (q := q) (cA := cA) (hv := hv) (res := res) (pr := pr) (og := og) (s5 := s5) (s6 := s6) (s7 := s7) (s8 := s8) (s9 := s9) (by omega) h1 h2 h3 h4 hz
    obtain ⟨s5', s6', s7', s8', s9', hw⟩ := ih (pr := pr ++ [PV (tok, .none)]) (s5 := .val .none) (s6 := .val (.str (S tok))) (s7 := .val .none) (s8 := s8) (s9 := s9) (by simp at hz; omega) (by simp; omega)
    refine ⟨s5', s6', s7', s8', s9', ?_⟩
    rw [List.append_assoc] at hw
    exact WhW.next (wh_test (by simp [h1]) hz) hb hw
  | @bare tok v rest ps m h1 h2 h3 h4 h5 h6 _ ih =>
    intro pr s5 s6 s7 s8 s9 hz hp
    simp only [List.length_cons] at hp
    obtain ⟨a5, hb⟩ := spl_bare (n := n) g (q := q) (cA := cA) (hv := hv) (res := res) (pr := pr) (og := og) (s5 := s5) (s6 := s6) (s7 := s7) (s8 := s8) (s9 := s9) (by omega) h1 h2 h3 h4 h5 h6 hz
    obtain ⟨s5', s6', s7', s8', s9', hw⟩ := ih (pr := pr ++ [PV (tok, some v)]) (s5 := a5) (s6 := .val (.str (S tok))) (s7 := .val (.str (S v))) (s8 := s8) (s9 := s9) (by simp at hz; omega) (by simp; omega)
    refine ⟨s5', s6', s7', s8', s9', ?_⟩
    rw [List.append_assoc] at hw
    exact WhW.next (wh_test (by simp [h1]) hz) hb hw
  | @quo tok s1 s2 b0 rest items ps m h1 h2 h3 h4 h5 h6 _ ih =>
    intro pr s5 s6 s7 s8 s9 hz hp
    simp only [List.length_cons] at hp
    obtain ⟨a5, hb⟩ := spl_quo (n := n) g (q := q) (cA := cA) (hv := hv) (res := res) (pr := pr) (og := og) (s5 := s5) (s6 := s6) (s7 := s7) (s8 := s8) (s9 := s9) (by omega) L h1 h2 h3 h4 h5 h6 hz
    obtain ⟨s5', s6', s7', s8', s9', hw⟩ := ih (pr := pr ++ [PV (tok, some (b0 ++ ubody items))]) (s5 := a5) (s6 := .val (.str (S tok))) (s7 := .val (.str (S (b0 ++ ubody items)))) (s8 := s8) (s9 := s9) (by simp at hz; omega) (by simp; omega)
    refine ⟨s5', s6', s7', s8', s9', ?_⟩
    rw [List.append_assoc] at hw
    exact WhW.next (wh_test (by simp [h1]) hz) hb hw
theorem for_body (g : Gd C) {q : Str} {cA : Addr} {t : Tab} (L : LamH C cA t 29 49 q) {hv : V} {l : List Nat} {ps : List (List Nat × Option (List Nat))} {m : Nat} (x : Tx l ps m) (hps : ps ≠ []) (hz : l.length ≤ 1000000) (hp : ps.length ≤ 1000) :
    ∃ σ', ExW C (n + 3) (fs N9 q (.ref cA)) (sBody for9) [.val hv, .own [], .val (.str (S l)), .unset, .unset, .unset, .unset, .unset, .unset, .unset, .unset, .unset, .unset, .unset, .unset, .unset, .unset, .unset] .next σ' ∧
      σ'[1]? = some (.own [.list (ps.map PV)]) ∧ ∃ a b c d e f g h, σ' = [.val hv, .own [.list (ps.map PV)], a, b, c, d, e, f, g, h, .unset, .unset, .unset, .unset, .unset, .unset, .unset, .unset] := by
  obtain ⟨s5', s6', s7', s8', s9', hw⟩ := wh_run (n := n) g (q := q) L (hv := hv) (res := []) (og := .val (.str (S l))) x (pr := []) (s5 := .unset) (s6 := .unset) (s7 := .unset) (s8 := .unset) (s9 := .unset) hz (by simpa using hp)
  rw [List.nil_append] at hw
  have hsz : (ps.map PV).length ≤ 16000000 := by simp; omega
  exact ⟨_, (ExW.cons (Ex1W.assign 3 (EvW.name 2 rfl rfl rfl rfl) rfl (.inl rfl)) (ExW.cons (Ex1W.assignNew 4 rfl (.inl rfl)) (ExW.cons (Ex1W.while hw (AfterW.next ExW.nil)) (ExW.cons (Ex1W.ifT (ItW.to (ItW.own 4 rfl rfl rfl rfl (by first | decide | omega | (simp only [List.length_append, List.length_cons, List.length_nil, List.length_map, List.length_replicate]; omega))) (by cases ps with | nil => exact absurd rfl hps | cons => rfl)) (ExW.cons (Ex1W.append 1 rfl rfl rfl rfl (EvW.freeze 4 rfl rfl rfl rfl) rfl (by first | decide | omega | (simp only [List.length_append, List.length_cons, List.length_nil, List.length_map, List.length_replicate]; omega))) ExW.nil)) ExW.nil)))), rfl, _, _, _, _, _, _, _, _, rfl⟩
theorem split_header_pu (g : Gd C) {l : List Nat} {ps : List (List Nat × Option (List Nat))} {m : Nat} (x : Tx l ps m) (hps : ps ≠ []) (hz : l.length ≤ 1000000) (hp : ps.length ≤ 1000) : PuG C "split_header_words" (n + 4) [.list [.str (S l)]] (.list [.list (ps.map PV)]) := by
  show PuG C (dr 9).name _ _ _
  refine PuGW.of_defL (d := dr 9) 1 (g.df 9) g.lam9 (by decide +kernel) (bind1 9 fun _ _ _ _ => rfl) (N := N9) rfl fun cA t h1 h2 h3 h4 h5 h6 => ?_
  obtain ⟨σ', hb, _, a1, a2, a3, a4, a5, a6, a7, a8, e⟩ := for_body (n := n) g (q := (dr 9).name ++ ".<locals>.") (cA := cA) (t := t) ⟨h1, h2, h3, h4, h5.symm, h6⟩ (hv := .list [.str (S l)]) x hps hz hp
  subst e
  exact ⟨_, (ExW.cons (Ex1W.assert (ItW.notT (ItW.plain (fun _ _ => rfl) (EvW.callN 10 0 g rfl rfl rfl (EvsW.cons (EvW.name 0 rfl rfl rfl rfl) (EvsW.cons (EvW.bltnN 11 1 g rfl rfl rfl) EvsW.nil)) Pu.isStrL (.inl ⟨_, rfl⟩)) Tr.bool))) (ExW.cons (Ex1W.assignNew 1 rfl (.inl rfl)) (ExW.cons (Ex1W.for (EvW.name 0 rfl rfl rfl rfl) PyIt.list (LpW.next (AsW.name 2 rfl (.inl rfl)) hb LpW.nil) (AfterW.next ExW.nil)) (ExW.ret (Ex1W.ret (EvW.freeze 1 rfl rfl rfl rfl))))))⟩
noncomputable def N12 : List (Str × NameKind) := [("lists", .local), ("headers", .local), ("pairs", .local), ("attr", .local), ("k", .local), ("v", .local), ("HEADER_JOIN_TOKEN_RE", .globalImplicit), ("HEADER_JOIN_ESCAPE_RE", .globalImplicit)]
noncomputable def for12 : Stmt := nth (dr 12).body 1
noncomputable def in12 : Stmt := nth (sBody for12) 1
noncomputable def esc (v : List Nat) : List Nat := v.flatMap fun c => if fE c then [92, c] else [c]
noncomputable def tokV (v : List Nat) : Bool := v.all fT
noncomputable def valT (v : List Nat) : List Nat := if tokV v then v else 34 :: (esc v ++ [34])
noncomputable def itemT (p : List Nat × Option (List Nat)) : List Nat := match p.2 with
  | none => p.1
  | some v => p.1 ++ 61 :: valT v
theorem edec : ∀ v : List Nat, ∃ (b : List Nat) (items : List (Nat × List Nat)), EOk items ∧ (∀ d ∈ b, fE d = false) ∧ v = b ++ ubody items ∧ esc v = b ++ ebody items ∧ 1 * items.length ≤ v.length
  | [] => ⟨[], [], fun x hx => by simp at hx, fun d hd => by simp at hd, rfl, rfl, Nat.le_refl _⟩
  | c :: r => by
    obtain ⟨b, items, h1, h2, h3, h4, h5⟩ := edec r
    cases hc : fE c with
    | true =>
      refine ⟨[], (c, b) :: items, fun x hx => ?_, fun d hd => by simp at hd, ?_, ?_, by simp; omega⟩
      · rcases List.mem_cons.mp hx with rfl | hx
        · exact ⟨hc, h2⟩
        · exact h1 x hx
      · rw [h3]; rfl
      · show (if fE c then [92, c] else [c]) ++ esc r = _
        rw [hc, h4]; rfl
    | false =>
      refine ⟨c :: b, items, h1, fun d hd => ?_, ?_, ?_, by simp; omega⟩
      · rcases List.mem_cons.mp hd with rfl | hd
        · exact hc
        · exact h2 d hd
      · rw [h3]; rfl
      · show (if fE c then [92, c] else [c]) ++ esc r = _
        rw [hc, h4]; rfl
theorem not_all : ∀ {v : List Nat}, tokV v = false → ∃ r c rest, v = r ++ c :: rest ∧ (∀ d ∈ r, fT d = true) ∧ fT c = false
  | [], h => by cases h
  | a :: v, h => by
    cases ha : fT a with
    | false => exact ⟨[], a, v, rfl, fun d hd => by simp at hd, ha⟩
    | true =>
      have : tokV v = false := by unfold tokV at h ⊢; rw [List.all_cons, ha, Bool.true_and] at h; exact h
      obtain ⟨r, c, rest, e, h1, h2⟩ := not_all this
      refine ⟨a :: r, c, rest, by rw [e]; rfl, fun d hd => ?_, h2⟩
      rcases List.mem_cons.mp hd with rfl | hd
      · exact ha
      · exact h1 d hd
theorem esc_len (v : List Nat) : (esc v).length ≤ 2 * v.length := by
  induction v with
  | nil => simp [esc]
  | cons c r ih =>
    show ((if fE c then [92, c] else [c]) ++ esc r).length ≤ _
    rw [List.length_append, List.length_cons]
    split <;> simp <;> omega
noncomputable def sg12 (ls : V) (hd : List V) (pa : V) (at_ : List (List Nat)) (k v : Slot) : List Slot := [.val ls, .own hd, .val pa, .own (at_.map fS), k, v, .unset, .unset]
theorem jn_none (g : Gd C) {q : Str} {cA : Addr} {ls pa : V} {hd : List V} {at_ : List (List Nat)} {k : List Nat} (ha : at_.length ≤ 1000) : ExW C (n + 3) (fs N12 q (.ref cA)) (sBody in12) (sg12 ls hd pa at_ (.val (.str (S k))) (.val .none)) .next (sg12 ls hd pa (at_ ++ [k]) (.val (.str (S k))) (.val .none)) := by
  have ea : (at_ ++ [k]).map fS = at_.map fS ++ [.str (S (k))] := by simp [fS]
  unfold sg12; rw [ea]
  exact (ExW.cons (Ex1W.ifF (ItW.cmp (EvW.name 5 rfl rfl rfl rfl) EvW.none Op2.noneIsNotNone rfl) ExW.nil) (ExW.cons (Ex1W.append 3 rfl rfl rfl rfl (EvW.name 4 rfl rfl rfl rfl) rfl (by first | decide | omega | (simp only [List.length_append, List.length_cons, List.length_nil, List.length_map, List.length_replicate]; omega))) ExW.nil))
theorem jn_bare (g : Gd C) {q : Str} {cA : Addr} {ls pa : V} {hd : List V} {at_ : List (List Nat)} {k : List Nat} (ha : at_.length ≤ 1000) {v : List Nat} (hv0 : v ≠ []) (h1 : ∀ c ∈ v, fT c = true) (hz : v.length ≤ 1000000) (hk : k.length ≤ 1000) : ExW C (n + 3) (fs N12 q (.ref cA)) (sBody in12) (sg12 ls hd pa at_ (.val (.str (S k))) (.val (.str (S v)))) .next (sg12 ls hd pa (at_ ++ [k ++ 61 :: v]) (.val (.str (S (k ++ 61 :: v)))) (.val (.str (S v)))) := by
  obtain ⟨P1, e1, p1⟩ := pat_jtkC g
  obtain ⟨P2, e2, p2⟩ := pat_jesC g
  have ea : (at_ ++ [k ++ 61 :: v]).map fS = at_.map fS ++ [.str (S (k ++ 61 :: v))] := by simp [fS]
  unfold sg12; rw [ea]
  exact (ExW.cons (Ex1W.ifT (ItW.cmp (EvW.name 5 rfl rfl rfl rfl) EvW.none Op2.strIsNotNone rfl) (ExW.cons (Ex1W.ifF (ItW.notF (ItW.plain (fun _ _ => rfl) (EvW.meth (EvW.glob 6 rfl e1 rfl) (EvsW.cons (EvW.name 5 rfl rfl rfl rfl) EvsW.nil) p1.hasT miPat_fullmatch (Pu.fullM p1 hz (jtk_yes hv0 h1 hz))) (Tr.mat match_bool match_len))) ExW.nil) (ExW.cons (Ex1W.assign 4 (EvW.to (EvW.joined3 (EvW.fmtS (EvW.name 4 rfl rfl rfl rfl) (by rw [S_length]; omega)) (EvW.strS [61] (by decide +kernel)) (EvW.fmtS (EvW.name 5 rfl rfl rfl rfl) (by rw [S_length]; omega)) (by simp; omega)) (by rw [List.append_assoc]; rfl)) rfl (.inl rfl)) ExW.nil))) (ExW.cons (Ex1W.append 3 rfl rfl rfl rfl (EvW.name 4 rfl rfl rfl rfl) rfl (by first | decide | omega | (simp only [List.length_append, List.length_cons, List.length_nil, List.length_map, List.length_replicate]; omega))) ExW.nil))
theorem jn_quo (g : Gd C) {q : Str} {cA : Addr} {ls pa : V} {hd : List V} {at_ : List (List Nat)} {k : List Nat} (ha : at_.length ≤ 1000) {t : Tab} (L : LamH C cA t 60 50 q) {v r rest : List Nat} {c : Nat} (hv : v = r ++ c :: rest) (h1 : ∀ d ∈ r, fT d = true) (h2 : fT c = false) (hz : v.length ≤ 400000) (hk : k.length ≤ 1000) :
    ExW C (n + 3) (fs N12 q (.ref cA)) (sBody in12) (sg12 ls hd pa at_ (.val (.str (S k))) (.val (.str (S v)))) .next (sg12 ls hd pa (at_ ++ [k ++ 61 :: (34 :: (esc v ++ [34]))]) (.val (.str (S (k ++ 61 :: (34 :: (esc v ++ [34])))))) (.val (.str (S (34 :: (esc v ++ [34])))))) := by
  obtain ⟨P1, e1, p1⟩ := pat_jtkC g
  obtain ⟨P2, e2, p2⟩ := pat_jesC g
  have hz' := hz
  replace hz : v.length ≤ 1000000 := by omega
  obtain ⟨b, items, k1, k2, k3, k4, k5⟩ := edec v
  obtain ⟨outs, kk, dS, hfl', hlen⟩ := jes_sub (l := v) hz items [] b k1 k2 k3
  rw [← k4] at hfl'
  have hel := esc_len v
  have hzv : (S v).length ≤ 16000000 := by rw [S_length]; omega
  have hfl : outs.flatten.length ≤ 16000000 := by rw [hfl']; omega
  have hres : V.str (Txt.join ⟨#[]⟩ (outs.map S)) = V.str (S (esc v)) := by rw [join0, hfl']
  have ea : (at_ ++ [k ++ 61 :: (34 :: (esc v ++ [34]))]).map fS = at_.map fS ++ [.str (S (k ++ 61 :: (34 :: (esc v ++ [34]))))] := by simp [fS]
  unfold sg12; rw [ea]
  exact (ExW.cons (Ex1W.ifT (ItW.cmp (EvW.name 5 rfl rfl rfl rfl) EvW.none Op2.strIsNotNone rfl) (ExW.cons (Ex1W.ifT (ItW.notT (ItW.plain (fun _ _ => rfl) (EvW.meth (EvW.glob 6 rfl e1 rfl) (EvsW.cons (EvW.name 5 rfl rfl rfl rfl) EvsW.nil) p1.hasT miPat_fullmatch (Pu.fullN p1 hz (jtk_no hv h1 h2 hz))) Tr.none)) (ExW.cons (Ex1W.assign 5 (EvW.to (EvW.subLam (τ := []) (EvW.glob 7 rfl e2 rfl) p2 (lamOk rfl rfl rfl rfl (fun _ => rfl) (fun _ => rfl) (fun _ _ _ _ _ _ => rfl)) L.ht L.hu L.hl.symm L.hc.symm L.hq rfl L.CH (EvW.name 5 rfl rfl rfl rfl) hzv (fun sp z hsp cd => by
    obtain ⟨q0, c, rfl, hc, rfl⟩ := hsp
    have hgr : (v.drop q0).take (q0 + 1 - q0) = [c] := by rw [show q0 + 1 - q0 = 1 from by omega, List.take_one, List.head?_drop, hc]; rfl
    exact EvW.forget (EvW.to (EvW.binop (EvW.strS [92] (by decide +kernel)) (EvW.orT (EvW.meth (EvW.name 0 rfl rfl rfl rfl) (EvsW.cons EvW.int EvsW.nil) HasT.mat miMat_group (Pu.groupT (b := q0) (e := q0 + 1) rfl rfl rfl hz hgr)) (Tr.strT (by simp) (by simp))) (Op2.addT (by simp))) rfl)) dS (by simp; omega) (joinOk0 hfl)) hres) rfl (.inl rfl)) (ExW.cons (Ex1W.assign 5 (EvW.binop (EvW.strS [34, 37, 115, 34] (by decide +kernel)) (EvW.name 5 rfl rfl rfl rfl) (Op2.quoteT (by omega))) rfl (.inl rfl)) ExW.nil))) (ExW.cons (Ex1W.assign 4 (EvW.to (EvW.joined3 (EvW.fmtS (EvW.name 4 rfl rfl rfl rfl) (by rw [S_length]; omega)) (EvW.strS [61] (by decide +kernel)) (EvW.fmtS (EvW.name 5 rfl rfl rfl rfl) (by rw [S_length]; simp; omega)) (by simp; omega)) (by rw [List.append_assoc]; rfl)) rfl (.inl rfl)) ExW.nil))) (ExW.cons (Ex1W.append 3 rfl rfl rfl rfl (EvW.name 4 rfl rfl rfl rfl) rfl (by first | decide | omega | (simp only [List.length_append, List.length_cons, List.length_nil, List.length_map, List.length_replicate]; omega))) ExW.nil))
/-- what a row of pairs must be for join_header_words -/
noncomputable def JOk (p : List Nat × Option (List Nat)) : Prop := p.1.length ≤ 1000 ∧ ∀ v, p.2 = some v → v ≠ [] ∧ v.length ≤ 400000
theorem jn_loop (g : Gd C) {q : Str} {cA : Addr} {t : Tab} (L : LamH C cA t 60 50 q) {ls pa : V} {hd : List V} : ∀ (ps : List (List Nat × Option (List Nat))) (at_ : List (List Nat)) (k v : Slot), (∀ p ∈ ps, JOk p) → at_.length + ps.length ≤ 1000 →
    ∃ k' v', Lp C (n + 3) (fs N12 q (.ref cA)) (sTarget in12) (sBody in12) (ps.map PV) (sg12 ls hd pa at_ k v) .next (sg12 ls hd pa (at_ ++ ps.map itemT) k' v')
  | [], at_, k, v, _, _ => ⟨k, v, by rw [List.map_nil, List.map_nil, List.append_nil]; exact LpW.nil⟩
  | (x, y) :: ps, at_, k, v, h, hz => by
    simp only [List.length_cons] at hz
    obtain ⟨hx, hy⟩ := h (x, y) (List.mem_cons_self ..)
    have hps : ∀ p ∈ ps, JOk p := fun p hp => h p (List.mem_cons_of_mem _ hp)
    have e : ∀ z, at_ ++ (z :: ps.map itemT) = (at_ ++ [z]) ++ ps.map itemT := fun z => by simp
    rw [List.map_cons, List.map_cons]
    cases y with
    | none =>
      have tgt : AsW C (fs N12 q (.ref cA)) (sTarget in12) (PV (x, none)) (sg12 ls hd pa at_ k v) (sg12 ls hd pa at_ (.val (.str (S x))) (.val .none)) := AsW.tuple (AssW.cons (AsW.name 4 rfl (.inl rfl)) (AssW.cons (AsW.name 5 rfl (.inl rfl)) AssW.nil))
      obtain ⟨k', v', ih⟩ := jn_loop g L ps (at_ ++ [x]) (.val (.str (S x))) (.val .none) hps (by simp; omega)
      exact ⟨k', v', by rw [show itemT (x, none) = x from rfl, e]; exact LpW.next tgt (jn_none g (by omega)) ih⟩
    | some w =>
      obtain ⟨w0, wz⟩ := hy w rfl
      have tgt : AsW C (fs N12 q (.ref cA)) (sTarget in12) (PV (x, some w)) (sg12 ls hd pa at_ k v) (sg12 ls hd pa at_ (.val (.str (S x))) (.val (.str (S w)))) := AsW.tuple (AssW.cons (AsW.name 4 rfl (.inl rfl)) (AssW.cons (AsW.name 5 rfl (.inl rfl)) AssW.nil))
      cases ht : tokV w with
      | true =>
        obtain ⟨k', v', ih⟩ := jn_loop g L ps (at_ ++ [x ++ 61 :: w]) (.val (.str (S (x ++ 61 :: w)))) (.val (.str (S w))) hps (by simp; omega)
        have ei : itemT (x, some w) = x ++ 61 :: w := by show x ++ 61 :: (if tokV w then w else _) = _; rw [ht]; rfl
        exact ⟨k', v', by rw [ei, e]; exact LpW.next tgt (jn_bare g (by omega) w0 (fun c hc => List.all_eq_true.mp ht c hc) (by omega) hx) ih⟩
      | false =>
        obtain ⟨r, c, rest, hv, h1, h2⟩ := not_all ht
        obtain ⟨k', v', ih⟩ := jn_loop g L ps (at_ ++ [x ++ 61 :: (34 :: (esc w ++ [34]))]) (.val (.str (S (x ++ 61 :: (34 :: (esc w ++ [34])))))) (.val (.str (S (34 :: (esc w ++ [34]))))) hps (by simp; omega)
        have ei : itemT (x, some w) = x ++ 61 :: (34 :: (esc w ++ [34])) := by show x ++ 61 :: (if tokV w then w else _) = _; rw [ht]; rfl
        exact ⟨k', v', by rw [ei, e]; exact LpW.next tgt (jn_quo g (by omega) L hv h1 h2 wz hx) ih⟩
theorem join_header_pu (g : Gd C) {ps : List (List Nat × Option (List Nat))} (hps : ps ≠ []) (h : ∀ p ∈ ps, JOk p) (hp : ps.length ≤ 1000) (hj : lensum 2 (ps.map itemT) ≤ 16000000) (hj' : (interc [59, 32] (ps.map itemT)).length ≤ 1000000) :
    PuG C "join_header_words" (n + 4) [.list [.list (ps.map PV)]] (.str (S (interc [59, 32] (ps.map itemT)))) := by
  show PuG C (dr 12).name _ _ _
  have hj2 : lensum ([44, 32] : List Nat).length [interc [59, 32] (ps.map itemT)] ≤ 16000000 := by show _ + 2 + 0 ≤ _; omega
  have hsz : (ps.map itemT).length ≤ 16000000 := by simp; omega
  refine PuGW.of_defL (d := dr 12) 1 (g.df 12) g.lam12 (by decide +kernel) (bind1 12 fun _ _ _ _ => rfl) (N := N12) rfl fun cA t h1 h2 h3 h4 h5 h6 => ?_
  obtain ⟨k', v', hlp⟩ := jn_loop (n := n) g (q := (dr 12).name ++ ".<locals>.") (cA := cA) (t := t) ⟨h1, h2, h3, h4, h5.symm, h6⟩ (ls := .list [.list (ps.map PV)]) (pa := .list (ps.map PV)) (hd := []) ps [] .unset .unset h (by simpa using hp)
  rw [List.nil_append] at hlp
  exact ⟨_, (ExW.cons (Ex1W.assignNew 1 rfl (.inl rfl)) (ExW.cons (Ex1W.for (EvW.name 0 rfl rfl rfl rfl) PyIt.list (LpW.next (AsW.name 2 rfl (.inl rfl)) (ExW.cons (Ex1W.assignNew 3 rfl (.inl rfl)) (ExW.cons (Ex1W.for (EvW.name 2 rfl rfl rfl rfl) PyIt.list hlp (AfterW.next ExW.nil)) (ExW.cons (Ex1W.ifT (ItW.to (ItW.own 3 rfl rfl rfl rfl (by first | decide | omega | (simp only [List.length_append, List.length_cons, List.length_nil, List.length_map, List.length_replicate]; omega))) (by cases ps with | nil => exact absurd rfl hps | cons => rfl)) (ExW.cons (Ex1W.append 1 rfl rfl rfl rfl (EvW.meth (EvW.strS [59, 32] (by decide +kernel)) (EvsW.cons (EvW.freeze 3 rfl rfl rfl rfl) EvsW.nil) HasT.str mi_join (Pu.joinT (z := [59, 32]) (ls := ps.map itemT) hj)) rfl (by first | decide | omega | (simp only [List.length_append, List.length_cons, List.length_nil, List.length_map, List.length_replicate]; omega))) ExW.nil)) ExW.nil))) LpW.nil) (AfterW.next ExW.nil)) (ExW.ret (Ex1W.ret (EvW.meth (EvW.strS [44, 32] (by decide +kernel)) (EvsW.cons (EvW.freeze 1 rfl rfl rfl rfl) EvsW.nil) HasT.str mi_join (Pu.joinT (z := [44, 32]) (ls := [interc [59, 32] (ps.map itemT)]) hj2))))))⟩
end
end Mine
end
section
set_option tactic.hygienic false
open PySem PySem.Calls PySem.W PyProof.Rows
namespace Mine
section
variable {C : Cx} {n : Nat}
/-! str.replace, whatever is put in -/
theorem Ev.replaceB (g : Gd C) {F : Fs} {σ σ₁ σ₂ : List Slot} {o e2 : PySem.Expr} {apos pos p1 : Pos} {k1c : Nat} {x y z : Str} (ho : Ev C n F o σ (.str x) σ₁) (h2 : EvF C n F e2 σ₁ z σ₂) (hb : x.length + (x.length + 1) * z.length ≤ 16777216)
    (hbase : ∀ env, attributeBase o "replace" env (eval o env) = eval o env := by intro _; rfl)
    (hfew : ∀ env, ((backTo pos (starEach [.Constant (.str y) k1c p1, e2] env)).all (fun x => !x.1) && (backToKw pos (keywordEach [] env)).all (fun x => x.1.isSome)
      && decide (([.Constant (.str y) k1c p1, e2] : List PySem.Expr).length + ([] : List Keyword).length + (if ([] : List Keyword).isEmpty then 0 else 1) < 30)) = true := by intro _; rfl)
    (hline : (apos.endLine == pos.line) = true := by rfl)
    (hst : ∀ env, starEach [.Constant (.str y) k1c p1, e2] env = [(false, eval (.Constant (.str y) k1c p1) env), (false, eval e2 env)] := by intro _; rfl) :
    Ev C n F (.Call (.Attribute o "replace" apos) [.Constant (.str y) k1c p1, e2] [] pos) σ (.str (Txt.replace x y z)) σ₂ := by
  intro A env s f X oa h₀ f₀ E Q r K h0 S hQ
  refine wpAny_Call_method_lateS (hbase env) (hfew env) hline (ho r K h0 S fun g1 k1 f1 u1 q1 l1 S1 R1 => ?_)
  obtain ⟨t1, t2⟩ := HasT.str (C := C) (s := { s with heap := g1, toks := k1 }) S1.inv R1
  obtain ⟨t, rfl⟩ := R1.str_inv
  refine ⟨"str", "str.replace", mi_replace.pa, mi_replace.slot, mi_replace.ty, t1, t2, ?_⟩
  rw [hst]
  refine callWith_builtin rfl (evalArgs_plain (spliced_cons (Constant_str (k := k1c) (pos := p1) (spliced_cons (h2 r K (Nat.lt_succ_of_lt q1) S1 fun g2 k2 f2 v q2 lv l2 S2 => spliced_nil ?_)))))
  have hv : k1 + 1 ≤ v := lv
  obtain ⟨mc, hn, hk⟩ := g.nb
  exact wp_pos q2 (SC.replaceA (Nat.ne_of_gt q1) (Nat.ne_of_gt (Nat.lt_of_lt_of_le (Nat.succ_pos k1) hv)) (Nat.ne_of_lt (Nat.lt_of_lt_of_le (Nat.lt_succ_self k1) hv)) hb (fun t' k p => hQ g2 k f2 _ p (l1.trans l2) S2 (.str _ _)) ⟨mc, hn.at' fun o e => S2.inv.ghost e, hk⟩)
noncomputable def rpl (y z x : List Nat) : List Nat := (Txt.replace (S x) (S y) (S z)).cps.toList
theorem rpl_one (c : Nat) (z x : List Nat) : rpl [c] z x = x.flatMap fun d => if d = c then z else [d] := by unfold rpl; rw [tx_replace]
theorem EvW.replaceY (g : Gd C) {F : Fs} {σ σ₁ σ₂ : List Slot} {o e2 : PySem.Expr} {apos pos p1 : Pos} {k1c : Nat} {y : Str} {x z : List Nat} (yy : List Nat) (hy : y = S yy) (ho : EvW C n F o σ (.str (S x)) σ₁) (h2 : EvFW C n F e2 σ₁ (S z) σ₂) (hb : x.length + (x.length + 1) * z.length ≤ 16777216)
    (hbase : ∀ env, attributeBase o "replace" env (eval o env) = eval o env := by intro _; rfl)
    (hfew : ∀ env, ((backTo pos (starEach [.Constant (.str y) k1c p1, e2] env)).all (fun x => !x.1) && (backToKw pos (keywordEach [] env)).all (fun x => x.1.isSome)
      && decide (([.Constant (.str y) k1c p1, e2] : List PySem.Expr).length + ([] : List Keyword).length + (if ([] : List Keyword).isEmpty then 0 else 1) < 30)) = true := by intro _; rfl)
    (hline : (apos.endLine == pos.line) = true := by rfl)
    (hst : ∀ env, starEach [.Constant (.str y) k1c p1, e2] env = [(false, eval (.Constant (.str y) k1c p1) env), (false, eval e2 env)] := by intro _; rfl) :
    EvW C n F (.Call (.Attribute o "replace" apos) [.Constant (.str y) k1c p1, e2] [] pos) σ (.str (S (rpl yy z x))) σ₂ := by
  subst hy
  have : S (rpl yy z x) = Txt.replace (S x) (S yy) (S z) := (S_of _).symm
  rw [this]
  exact ⟨Ev.replaceB g ho.h h2.h (by rw [S_length, S_length]; exact hb) hbase hfew hline hst⟩
theorem EvFW.strS {F : Fs} {σ : List Slot} {i : Str} {k : Nat} {pos : Pos} (l : List Nat) (h : i = S l) : EvFW C n F (.Constant (.str i) k pos) σ (S l) σ := by
  rw [h]; exact EvFW.str
/-! the nodes -/
structure Nd where
  up : Int
  nm : List Nat
  md : Nat
noncomputable def NV (d : Nd) : V := .tup [.int d.up, .str (S d.nm), .int (d.md : Int)]
noncomputable def nodesV (nds : List Nd) : V := .list (nds.map NV)
noncomputable def rangeV (a m : Nat) : List V := (List.range' a m).map fun j : Nat => V.int (j : Int)
theorem rangeV_eq : ∀ (m a : Nat), rngU 1 m (a : Int) = rangeV a m
  | 0, a => rfl
  | m + 1, a => by
    unfold rngU
    rw [show ((a : Int) + 1) = ((a + 1 : Nat) : Int) from by omega, rangeV_eq m (a + 1)]
    rfl
theorem fits_of {i : Int} (h1 : -1000000000 ≤ i) (h2 : i ≤ 1000000000) : Builtin.Range.rangeFitsLong i = true := by
  unfold Builtin.Range.rangeFitsLong
  rw [Bool.and_eq_true, decide_eq_true_eq, decide_eq_true_eq]
  constructor <;> omega
theorem small_of {a b c : Int} (a1 : -1000000 ≤ a) (a2 : a ≤ 1000000) (b1 : -1000000 ≤ b) (b2 : b ≤ 1000000) (c1 : -1000 ≤ c) (c2 : c ≤ 1000) (r1 : -1000000 ≤ Builtin.Range.rangeSize a b c) (r2 : Builtin.Range.rangeSize a b c ≤ 1000000) : Builtin.Range.small a b c = true := by
  unfold Builtin.Range.small
  rw [fits_of (i := a) (by omega) (by omega), fits_of (i := b) (by omega) (by omega), fits_of (i := c) (by omega) (by omega), fits_of (i := Builtin.Range.rangeSize a b c) (by omega) (by omega)]
  rw [fits_of (i := b + (c - 1)) (by omega) (by omega), fits_of (i := b + (c + 1)) (by omega) (by omega)]
  simp
theorem PyIt.range {a b : Nat} (ha : a ≤ 1000000) (hb : b ≤ 1000000) : PyIt C n (.rng (a : Int) (b : Int) 1) (rangeV a (b - a)) := by
  rw [← rangeV_eq]
  refine PyIt.rngU ?_ ?_
  · exact small_of (by omega) (by omega) (by omega) (by omega) (by decide) (by decide) (by unfold Builtin.Range.rangeSize; rw [if_pos (by decide)]; split <;> (try rw [Int.ediv_one]) <;> omega) (by unfold Builtin.Range.rangeSize; rw [if_pos (by decide)]; split <;> (try rw [Int.ediv_one]) <;> omega)
  · unfold Builtin.Range.rangeSize
    rw [if_pos (by decide)]
    split
    · rw [Int.ediv_one]; omega
    · omega
noncomputable def isKid (nds : List Nd) (k : Nat) (x : List Nat) (j : Nat) : Bool := match nds[j]? with
  | some d => d.up == (k : Int) && d.nm == x
  | none => false
noncomputable def lbelow (nds : List Nd) (k : Nat) (x : List Nat) : List Nat := (List.range' 1 (nds.length - 1)).filter (isKid nds k x)
noncomputable def mdAt (nds : List Nd) (k : Nat) : Nat := match nds[k]? with
  | some d => d.md
  | none => 0
noncomputable def pfind (nds : List Nd) : Nat → List (List Nat) → Option Nat
  | k, [] => some k
  | k, x :: r => match lbelow nds k x with
    | [] => none
    | j :: _ => if lopen (mdAt nds k) then pfind nds j r else none
noncomputable def pfindI (nds : List Nd) (names : List (List Nat)) : Int := match pfind nds 0 names with
  | some k => (k : Int)
  | none => -1
theorem nodes_at {nds : List Nd} {j : Nat} {d : Nd} (h : nds[j]? = some d) : (nds.map NV)[((j : Nat) : Int).toNat]? = some (NV d) := by
  rw [Int.toNat_natCast, List.getElem?_map, h]; rfl
theorem lbelow_lt {nds : List Nd} {k : Nat} {x : List Nat} {j : Nat} (h : j ∈ lbelow nds k x) : 1 ≤ j ∧ j < nds.length ∧ isKid nds k x j = true := by
  unfold lbelow at h
  obtain ⟨h1, h2⟩ := List.mem_filter.mp h
  obtain ⟨i, hi, rfl⟩ := List.mem_range'.mp h1
  exact ⟨by omega, by omega, h2⟩
noncomputable def N60 : List (Str × NameKind) := [("nodes", .cell), ("names", .local), ("k", .cell), ("name", .cell), ("below", .local), ("range", .globalImplicit), ("len", .globalImplicit), ("_law_open", .globalImplicit)]
noncomputable def loop60 : Stmt := nth (dr 60).body 1
noncomputable def NC60 : List (Str × NameKind) := [(".0", .local), ("j", .local), ("k", .cell), ("name", .cell), ("nodes", .cell)]
noncomputable def NS60 : List (Str × NameKind) := [(".0", .local), ("j", .local), ("k", .free), ("name", .free), ("nodes", .free)]
theorem comp60 {cd : Value} {q : Str} {scope : Scope} (hn : scope.names = NS60) (hk : scope.kind = .function) {vn vk vx v1 : V} {b : Slot} : CompOk (fs N60 q cd) scope NC60 [.val vn, .val v1, .val vk, .val vx, b, .unset, .unset, .unset] [.unset, .unset, .val vk, .val vx, .val vn] := by
  refine ⟨hk, ?_, ?_, ?_, ?_, ?_, ?_⟩
  · rw [hn]; decide
  · rw [hn]; decide
  · rw [hn]; rfl
  · rw [hn]
    intro j x h
    match j with
    | 0 => cases h
    | 1 => cases h
    | 2 => cases h; exact ⟨2, .cell, vk, rfl, .inl rfl, rfl, rfl⟩
    | 3 => cases h; exact ⟨3, .cell, vx, rfl, .inl rfl, rfl, rfl⟩
    | 4 => cases h; exact ⟨0, .cell, vn, rfl, .inl rfl, rfl, rfl⟩
    | j + 5 => cases h
  · rw [hn]
    intro j x k h hf sl hs
    match j with
    | 0 => cases hs; rfl
    | 1 => cases hs; rfl
    | 2 => cases h; exact absurd rfl hf
    | 3 => cases h; exact absurd rfl hf
    | 4 => cases h; exact absurd rfl hf
    | j + 5 => cases hs
  · rw [hn]
    intro j sl hs
    match j with
    | 0 => exact .inl ⟨_, rfl⟩
    | 1 => exact .inl ⟨_, rfl⟩
    | 2 => exact .inl ⟨_, rfl⟩
    | 3 => exact .inl ⟨_, rfl⟩
    | 4 => exact .inl ⟨_, rfl⟩
    | j + 5 => cases hs
noncomputable def tgt60 : PySem.Expr := match nth (sBody loop60) 0 with
  | .Assign _ (.ListComp _ [⟨t, _, _, _⟩] _ _) _ => t
  | _ => .Name "" ⟨0, 0, 0, 0⟩
noncomputable def ifs60 : List PySem.Expr := match nth (sBody loop60) 0 with
  | .Assign _ (.ListComp _ [⟨_, _, i, _⟩] _ _) _ => i
  | _ => []
noncomputable def elt60 : PySem.Expr := match nth (sBody loop60) 0 with
  | .Assign _ (.ListComp e _ _ _) _ => e
  | _ => .Name "" ⟨0, 0, 0, 0⟩
theorem cp60 {cd : Value} {q : Str} {nds : List Nd} (hz : nds.length ≤ 100000) (k : Nat) (x : List Nat) : ∀ (js : List Nat) (s1 : Slot), (∀ j ∈ js, j < nds.length) →
    ∃ s1', Cp C n (compFs (fs N60 q cd) NC60) tgt60 ifs60 elt60 (js.map fun j : Nat => V.int (j : Int)) [.unset, s1, .val (.int (k : Int)), .val (.str (S x)), .val (nodesV nds)] ((js.filter (isKid nds k x)).map fun j : Nat => V.int (j : Int)) [.unset, s1', .val (.int (k : Int)), .val (.str (S x)), .val (nodesV nds)]
  | [], s1, _ => ⟨s1, CpW.nil⟩
  | j :: js, s1, hj => by
    obtain ⟨s1', ih⟩ := cp60 (cd := cd) (q := q) hz k x js (.val (.int (j : Int))) (fun i hi => hj i (List.mem_cons_of_mem _ hi))
    have hlt := hj j (List.mem_cons_self ..)
    obtain ⟨d, hd⟩ : ∃ d, nds[j]? = some d := ⟨_, List.getElem?_eq_getElem hlt⟩
    have ek : isKid nds k x j = (d.up == (k : Int) && d.nm == x) := by unfold isKid; rw [hd]
    refine ⟨s1', ?_⟩
    rw [List.map_cons, List.filter_cons, ek]
    have tg : AsW C (compFs (fs N60 q cd) NC60) tgt60 (V.int (j : Int)) [.unset, s1, .val (.int (k : Int)), .val (.str (S x)), .val (nodesV nds)] [.unset, (.val (.int (j : Int))), .val (.int (k : Int)), .val (.str (S x)), .val (nodesV nds)] := AsW.name 1 rfl (.inl rfl)
    cases h1 : (d.up == (k : Int)) with
    | false =>
      rw [Bool.false_and, if_neg (by decide)]
      exact CpW.skip tg (CtW.one (ItW.boolop (ItsW.stopAnd (ItW.to (ItW.cmp (EvW.sub (EvW.sub (EvW.name 4 rfl rfl rfl rfl) (EvW.name 1 rfl rfl rfl rfl) (Op2.idxL (by omega) (nodes_at hd) (by omega))) EvW.int (Op2.idxT (j := 0) rfl rfl ⟨by decide, by decide⟩)) (EvW.name 2 rfl rfl rfl rfl) Op2.eqI rfl) h1)))) ih
    | true =>
      cases h2 : (d.nm == x) with
      | false =>
        rw [Bool.true_and, if_neg (by decide)]
        exact CpW.skip tg (CtW.one (ItW.boolop (ItsW.goAnd (ItW.to (ItW.cmp (EvW.sub (EvW.sub (EvW.name 4 rfl rfl rfl rfl) (EvW.name 1 rfl rfl rfl rfl) (Op2.idxL (by omega) (nodes_at hd) (by omega))) EvW.int (Op2.idxT (j := 0) rfl rfl ⟨by decide, by decide⟩)) (EvW.name 2 rfl rfl rfl rfl) Op2.eqI rfl) h1) (ItsW.stopAnd (ItW.to (ItW.cmp (EvW.sub (EvW.sub (EvW.name 4 rfl rfl rfl rfl) (EvW.name 1 rfl rfl rfl rfl) (Op2.idxL (by omega) (nodes_at hd) (by omega))) EvW.int (Op2.idxT (j := 1) rfl rfl ⟨by decide, by decide⟩)) (EvW.name 3 rfl rfl rfl rfl) Op2.eqT rfl) h2))))) ih
      | true =>
        rw [Bool.true_and, if_pos rfl, List.map_cons]
        exact CpW.take tg (CtW.one (ItW.boolop (ItsW.goAnd (ItW.to (ItW.cmp (EvW.sub (EvW.sub (EvW.name 4 rfl rfl rfl rfl) (EvW.name 1 rfl rfl rfl rfl) (Op2.idxL (by omega) (nodes_at hd) (by omega))) EvW.int (Op2.idxT (j := 0) rfl rfl ⟨by decide, by decide⟩)) (EvW.name 2 rfl rfl rfl rfl) Op2.eqI rfl) h1) (ItsW.goAnd (ItW.to (ItW.cmp (EvW.sub (EvW.sub (EvW.name 4 rfl rfl rfl rfl) (EvW.name 1 rfl rfl rfl rfl) (Op2.idxL (by omega) (nodes_at hd) (by omega))) EvW.int (Op2.idxT (j := 1) rfl rfl ⟨by decide, by decide⟩)) (EvW.name 3 rfl rfl rfl rfl) Op2.eqT rfl) h2) ItsW.nilAnd)))) (EvW.name 1 rfl rfl rfl rfl) ih
theorem find_a (g : Gd C) {q : Str} {cd : Value} {nds : List Nd} {v1 : V} {k : Nat} {x : List Nat} {b : Slot} {d : Nd} (hz : nds.length ≤ 10000) (hd : nds[k]? = some d) (hb : lbelow nds k x = []) : ∃ σ', ExW C (n + 1) (fs N60 q cd) (sBody loop60) [.val (nodesV nds), .val v1, .val (.int (k : Int)), .val (.str (S x)), b, .unset, .unset, .unset] (.ret (.int (-1))) σ' := by
  have hkl := (List.getElem?_eq_some_iff.mp hd).1
  obtain ⟨s1', hcp⟩ := cp60 (C := C) (n := n + 1) (cd := cd) (q := q) (nds := nds) (by omega) k x (List.range' 1 (nds.length - 1)) .unset (fun j hj => by obtain ⟨i, hi, rfl⟩ := List.mem_range'.mp hj; omega)
  have el : (List.range' 1 (nds.length - 1)).filter (isKid nds k x) = lbelow nds k x := rfl
  rw [el] at hcp
  rw [show nds.length = (nds.map NV).length from (List.length_map ..).symm] at hcp
  have hlb : (lbelow nds k x).length ≤ nds.length := by unfold lbelow; have := List.length_filter_le (isKid nds k x) (List.range' 1 (nds.length - 1)); simp at this; omega
  rw [hb] at hcp
  exact ⟨_, (ExW.cons (Ex1W.assignComp 4 rfl rfl rfl (EvW.callN 5 7 g rfl rfl rfl (EvsW.cons EvW.int (EvsW.cons (EvW.callN 6 5 g rfl rfl rfl (EvsW.cons (EvW.name 0 rfl rfl rfl rfl) EvsW.nil) (Pu.lenL (by first | decide | omega | (simp only [List.length_append, List.length_cons, List.length_nil, List.length_map, List.length_replicate]; omega))) (.inl ⟨_, rfl⟩)) EvsW.nil)) Pu.range2 (.inr ⟨_, rfl⟩)) (PyIt.range (a := 1) (by omega) (by rw [List.length_map]; omega)) (comp60 rfl rfl) hcp (by simp [rangeV]; omega)) (ExW.ret (Ex1W.ifT (ItW.boolop (ItsW.stopOr (ItW.to (ItW.cmp (EvW.name 4 rfl rfl rfl rfl) (EvW.list EvsW.nil (by first | (simp; done) | decide)) (Op2.eqNil (by first | decide | omega | (simp only [List.length_append, List.length_cons, List.length_nil, List.length_map, List.length_replicate]; omega))) rfl) (by rfl)))) (ExW.ret (Ex1W.ret (EvW.unop EvW.int Op1.negI))))))⟩
theorem find_b (g : Gd C) {q : Str} {cd : Value} {nds : List Nd} {v1 : V} {k : Nat} {x : List Nat} {b : Slot} {d : Nd} (hz : nds.length ≤ 10000) (hd : nds[k]? = some d) {j : Nat} {js : List Nat} (hb : lbelow nds k x = j :: js) (ho : lopen d.md = false) : ∃ σ', ExW C (n + 1) (fs N60 q cd) (sBody loop60) [.val (nodesV nds), .val v1, .val (.int (k : Int)), .val (.str (S x)), b, .unset, .unset, .unset] (.ret (.int (-1))) σ' := by
  have hkl := (List.getElem?_eq_some_iff.mp hd).1
  obtain ⟨s1', hcp⟩ := cp60 (C := C) (n := n + 1) (cd := cd) (q := q) (nds := nds) (by omega) k x (List.range' 1 (nds.length - 1)) .unset (fun j hj => by obtain ⟨i, hi, rfl⟩ := List.mem_range'.mp hj; omega)
  have el : (List.range' 1 (nds.length - 1)).filter (isKid nds k x) = lbelow nds k x := rfl
  rw [el] at hcp
  rw [show nds.length = (nds.map NV).length from (List.length_map ..).symm] at hcp
  have hlb : (lbelow nds k x).length ≤ nds.length := by unfold lbelow; have := List.length_filter_le (isKid nds k x) (List.range' 1 (nds.length - 1)); simp at this; omega
  rw [hb] at hcp hlb
  simp only [List.length_cons] at hlb
  exact ⟨_, (ExW.cons (Ex1W.assignComp 4 rfl rfl rfl (EvW.callN 5 7 g rfl rfl rfl (EvsW.cons EvW.int (EvsW.cons (EvW.callN 6 5 g rfl rfl rfl (EvsW.cons (EvW.name 0 rfl rfl rfl rfl) EvsW.nil) (Pu.lenL (by first | decide | omega | (simp only [List.length_append, List.length_cons, List.length_nil, List.length_map, List.length_replicate]; omega))) (.inl ⟨_, rfl⟩)) EvsW.nil)) Pu.range2 (.inr ⟨_, rfl⟩)) (PyIt.range (a := 1) (by omega) (by rw [List.length_map]; omega)) (comp60 rfl rfl) hcp (by simp [rangeV]; omega)) (ExW.ret (Ex1W.ifT (ItW.boolop (ItsW.goOr (ItW.to (ItW.cmp (EvW.name 4 rfl rfl rfl rfl) (EvW.list EvsW.nil (by first | (simp; done) | decide)) (Op2.eqNil (by first | decide | omega | (simp only [List.length_append, List.length_cons, List.length_nil, List.length_map, List.length_replicate]; omega))) rfl) (by rfl)) (ItsW.stopOr (ItW.notT (ItW.to (ItW.plain (fun _ _ => rfl) (EvW.callG 7 rfl (EvsW.cons (EvW.sub (EvW.sub (EvW.name 0 rfl rfl rfl rfl) (EvW.name 2 rfl rfl rfl rfl) (Op2.idxL (by omega) (nodes_at hd) (by omega))) EvW.int (Op2.idxT (j := 2) rfl rfl ⟨by decide, by decide⟩)) EvsW.nil) (lawopen_pu g)) Tr.bool) ho))))) (ExW.ret (Ex1W.ret (EvW.unop EvW.int Op1.negI))))))⟩
theorem find_c (g : Gd C) {q : Str} {cd : Value} {nds : List Nd} {v1 : V} {k : Nat} {x : List Nat} {b : Slot} {d : Nd} (hz : nds.length ≤ 10000) (hd : nds[k]? = some d) {j : Nat} {js : List Nat} (hb : lbelow nds k x = j :: js) (ho : lopen d.md = true) : ∃ b', ExW C (n + 1) (fs N60 q cd) (sBody loop60) [.val (nodesV nds), .val v1, .val (.int (k : Int)), .val (.str (S x)), b, .unset, .unset, .unset] .next [.val (nodesV nds), .val v1, .val (.int (j : Int)), .val (.str (S x)), b', .unset, .unset, .unset] := by
  have hkl := (List.getElem?_eq_some_iff.mp hd).1
  obtain ⟨s1', hcp⟩ := cp60 (C := C) (n := n + 1) (cd := cd) (q := q) (nds := nds) (by omega) k x (List.range' 1 (nds.length - 1)) .unset (fun j hj => by obtain ⟨i, hi, rfl⟩ := List.mem_range'.mp hj; omega)
  have el : (List.range' 1 (nds.length - 1)).filter (isKid nds k x) = lbelow nds k x := rfl
  rw [el] at hcp
  rw [show nds.length = (nds.map NV).length from (List.length_map ..).symm] at hcp
  have hlb : (lbelow nds k x).length ≤ nds.length := by unfold lbelow; have := List.length_filter_le (isKid nds k x) (List.range' 1 (nds.length - 1)); simp at this; omega
  rw [hb] at hcp hlb
  simp only [List.length_cons] at hlb
  exact ⟨_, (ExW.cons (Ex1W.assignComp 4 rfl rfl rfl (EvW.callN 5 7 g rfl rfl rfl (EvsW.cons EvW.int (EvsW.cons (EvW.callN 6 5 g rfl rfl rfl (EvsW.cons (EvW.name 0 rfl rfl rfl rfl) EvsW.nil) (Pu.lenL (by first | decide | omega | (simp only [List.length_append, List.length_cons, List.length_nil, List.length_map, List.length_replicate]; omega))) (.inl ⟨_, rfl⟩)) EvsW.nil)) Pu.range2 (.inr ⟨_, rfl⟩)) (PyIt.range (a := 1) (by omega) (by rw [List.length_map]; omega)) (comp60 rfl rfl) hcp (by simp [rangeV]; omega)) (ExW.cons (Ex1W.ifF (ItW.boolop (ItsW.goOr (ItW.to (ItW.cmp (EvW.name 4 rfl rfl rfl rfl) (EvW.list EvsW.nil (by first | (simp; done) | decide)) (Op2.eqNil (by first | decide | omega | (simp only [List.length_append, List.length_cons, List.length_nil, List.length_map, List.length_replicate]; omega))) rfl) (by rfl)) (ItsW.goOr (ItW.notF (ItW.to (ItW.plain (fun _ _ => rfl) (EvW.callG 7 rfl (EvsW.cons (EvW.sub (EvW.sub (EvW.name 0 rfl rfl rfl rfl) (EvW.name 2 rfl rfl rfl rfl) (Op2.idxL (by omega) (nodes_at hd) (by omega))) EvW.int (Op2.idxT (j := 2) rfl rfl ⟨by decide, by decide⟩)) EvsW.nil) (lawopen_pu g)) Tr.bool) ho)) ItsW.nilOr))) ExW.nil) (ExW.cons (Ex1W.assign 2 (EvW.sub (EvW.name 4 rfl rfl rfl rfl) EvW.int (Op2.idxL (by omega) rfl (by omega))) rfl (.inr ⟨rfl, rfl⟩)) ExW.nil)))⟩
theorem find_loop (g : Gd C) {q : Str} {cd : Value} {nds : List Nd} {v1 : V} (hz : nds.length ≤ 10000) : ∀ (names : List (List Nat)) (k : Nat) (s3 b : Slot), k < nds.length → ∃ σ', match pfind nds k names with
    | some j => Lp C (n + 1) (fs N60 q cd) (sTarget loop60) (sBody loop60) (names.map fS) [.val (nodesV nds), .val v1, .val (.int (k : Int)), s3, b, .unset, .unset, .unset] .next σ' ∧ ∃ s3' b', σ' = [.val (nodesV nds), .val v1, .val (.int (j : Int)), s3', b', .unset, .unset, .unset]
    | none => Lp C (n + 1) (fs N60 q cd) (sTarget loop60) (sBody loop60) (names.map fS) [.val (nodesV nds), .val v1, .val (.int (k : Int)), s3, b, .unset, .unset, .unset] (.ret (.int (-1))) σ'
  | [], k, s3, b, _ => ⟨_, LpW.nil, s3, b, rfl⟩
  | x :: r, k, s3, b, hk => by
    obtain ⟨d, hd⟩ : ∃ d, nds[k]? = some d := ⟨_, List.getElem?_eq_getElem hk⟩
    have em : mdAt nds k = d.md := by unfold mdAt; rw [hd]
    have ep : pfind nds k (x :: r) = match lbelow nds k x with
      | [] => none
      | j :: _ => if lopen d.md then pfind nds j r else none := by rw [← em]; rfl
    have tg : AsW C (fs N60 q cd) (sTarget loop60) (fS x) [.val (nodesV nds), .val v1, .val (.int (k : Int)), s3, b, .unset, .unset, .unset] [.val (nodesV nds), .val v1, .val (.int (k : Int)), .val (.str (S x)), b, .unset, .unset, .unset] := AsW.name 3 rfl (.inr ⟨rfl, rfl⟩)
    cases hb : lbelow nds k x with
    | nil =>
      obtain ⟨σ', h⟩ := find_a (n := n) g (q := q) (cd := cd) (v1 := v1) (b := b) hz hd hb
      refine ⟨σ', ?_⟩
      rw [ep, hb]
      exact LpW.ret tg h
    | cons j js =>
      have hj := (lbelow_lt (nds := nds) (k := k) (x := x) (j := j) (by rw [hb]; exact List.mem_cons_self ..)).2.1
      cases ho : lopen d.md with
      | false =>
        obtain ⟨σ', h⟩ := find_b (n := n) g (q := q) (cd := cd) (v1 := v1) (b := b) hz hd hb ho
        refine ⟨σ', ?_⟩
        rw [ep, hb]
        simp only [ho]
        exact LpW.ret tg h
      | true =>
        obtain ⟨b', h⟩ := find_c (n := n) g (q := q) (cd := cd) (v1 := v1) (b := b) hz hd hb ho
        obtain ⟨σ', ih⟩ := find_loop g (q := q) (cd := cd) (v1 := v1) hz r j (.val (.str (S x))) b' hj
        refine ⟨σ', ?_⟩
        rw [ep, hb]
        simp only [ho, if_true]
        revert ih
        cases pfind nds j r with
        | none => intro ih; exact LpW.next tg h ih
        | some i => intro ih; exact ⟨LpW.next tg h ih.1, ih.2⟩
theorem lawfind_pu (g : Gd C) {nds : List Nd} {names : List (List Nat)} (h0 : 0 < nds.length) (hz : nds.length ≤ 10000) : PuG C "_law_find" (n + 2) [nodesV nds, .list (names.map fS)] (.int (pfindI nds names)) := by
  show PuG C (dr 60).name _ _ _
  refine PuGW.of_def (d := dr 60) 2 (g.df 60) (by decide +kernel) (bind2 60 fun _ _ _ _ _ => rfl) (N := N60) rfl fun cd q => ?_
  obtain ⟨σ', h⟩ := find_loop (n := n) g (q := q) (cd := cd) (nds := nds) (v1 := .list (names.map fS)) hz names 0 .unset .unset h0
  unfold pfindI
  revert h
  cases pfind nds 0 names with
  | none => intro h; exact ⟨_, (ExW.cons (Ex1W.assign 2 EvW.int rfl (.inr ⟨rfl, rfl⟩)) (ExW.ret (Ex1W.for (EvW.name 1 rfl rfl rfl rfl) PyIt.list h After.ret)))⟩
  | some j =>
    rintro ⟨h, s3', b', rfl⟩
    exact ⟨_, (ExW.cons (Ex1W.assign 2 EvW.int rfl (.inr ⟨rfl, rfl⟩)) (ExW.cons (Ex1W.for (EvW.name 1 rfl rfl rfl rfl) PyIt.list h (AfterW.next ExW.nil)) (ExW.ret (Ex1W.ret (EvW.name 2 rfl rfl rfl rfl)))))⟩
noncomputable def N55 : List (Str × NameKind) := [("x", .local), ("parts", .local), ("modes", .local)]
noncomputable def partsP : List (List Nat × Nat × List (List Nat)) := [([], 0, []), ([97], 0, [[97]]), ([46, 46], 1, []), ([98, 34], 0, [[98, 34]]), ([47, 97, 47], 9, [[97]]), ([99, 92, 47, 46], 0, [[99, 92]]), ([46, 46, 47, 98, 34], 1, [[98, 34]]), ([97, 47, 47, 46, 46, 47, 99, 92], 0, [[99, 92]])]
noncomputable def partV (p : List Nat × Nat × List (List Nat)) : V := .tup [.str (S p.1), .int (p.2.1 : Int), .list (p.2.2.map fS)]
noncomputable def modesL : List Nat := [16877, 33184, 17865, 17261]
noncomputable def partAt (i : Nat) : List Nat × Nat × List (List Nat) := partsP.getD i ([], 0, [])
theorem part_len : (partsP.map partV).length = 8 := rfl
theorem mode_len : (modesL.map fun m : Nat => V.int (m : Int)).length = 4 := rfl
theorem part_at {i : Nat} (h : i < 8) : (partsP.map partV)[i]? = some (partV (partAt i)) := by
  rw [List.getElem?_map]; unfold partAt
  rw [List.getD_eq_getElem?_getD, List.getElem?_eq_getElem (show i < partsP.length from h)]; rfl
theorem mode_at {i : Nat} (h : i < 4) : (modesL.map fun m : Nat => V.int (m : Int))[i]? = some (.int ((modesL.getD i 0 : Nat) : Int)) := by
  rw [List.getElem?_map, List.getD_eq_getElem?_getD, List.getElem?_eq_getElem (show i < modesL.length from h)]; rfl
theorem mode_lt {i : Nat} (h : i < 4) : modesL.getD i 0 < 1048576 := by
  match i, h with
  | 0, _ => decide
  | 1, _ => decide
  | 2, _ => decide
  | 3, _ => decide
theorem lawstep_pu (g : Gd C) {x : Int} : ∃ (w a b m : Nat), w < 2 ∧ a < 8 ∧ b < 8 ∧ m < 1048576 ∧ ∀ n, PuG C "_law_step" (n + 1) [.int x] (.tup [.int (w : Int), .list [partV (partAt a), partV (partAt b)], .int (m : Int)]) := by
  obtain ⟨w, hw, hw2⟩ := fmod_nat x 2 (by decide)
  obtain ⟨a, ha, ha2⟩ := fmod_nat (x.fdiv 8) 8 (by decide)
  obtain ⟨b, hb, hb2⟩ := fmod_nat (x.fdiv 64) 8 (by decide)
  obtain ⟨c, hc, hc2⟩ := fmod_nat (x.fdiv 2) 4 (by decide)
  obtain ⟨e, he, he2⟩ := fmod_nat (x.fdiv 512) 1048576 (by decide)
  obtain ⟨m, hm, hm2⟩ := bxor_nat (modesL.getD c 0) e (mode_lt hc2) he2
  refine ⟨w, a, b, m, hw2, ha2, hb2, hm2, fun n => ?_⟩
  replace hw : x.fmod 2 = (w : Int) := hw
  replace ha : (x.fdiv 8).fmod 8 = (a : Int) := ha
  replace hb : (x.fdiv 64).fmod 8 = (b : Int) := hb
  replace hc : (x.fdiv 2).fmod 4 = (c : Int) := hc
  replace he : (x.fdiv 512).fmod 1048576 = (e : Int) := he
  show PuG C (dr 55).name _ _ _
  exact PuGW.of_def (d := dr 55) 1 (g.df 55) (by decide +kernel) (bind1 55 fun _ _ _ _ => rfl) (N := N55) rfl fun cd q => ⟨_, (ExW.cons (Ex1W.assign 1 (v := .tup (partsP.map partV)) (EvW.tuple (EvsW.cons (EvW.tuple (EvsW.cons (EvW.strS [] (by decide +kernel)) (EvsW.cons EvW.int (EvsW.cons (EvW.list EvsW.nil (by first | (simp; done) | decide)) EvsW.nil))) (by first | (simp; done) | decide)) (EvsW.cons (EvW.tuple (EvsW.cons (EvW.strS [97] (by decide +kernel)) (EvsW.cons EvW.int (EvsW.cons (EvW.list (EvsW.cons (EvW.strS [97] (by decide +kernel)) EvsW.nil) (by first | (simp; done) | decide)) EvsW.nil))) (by first | (simp; done) | decide)) (EvsW.cons (EvW.tuple (EvsW.cons (EvW.strS [46, 46] (by decide +kernel)) (EvsW.cons EvW.int (EvsW.cons (EvW.list EvsW.nil (by first | (simp; done) | decide)) EvsW.nil))) (by first | (simp; done) | decide)) (EvsW.cons (EvW.tuple (EvsW.cons (EvW.strS [98, 34] (by decide +kernel)) (EvsW.cons EvW.int (EvsW.cons (EvW.list (EvsW.cons (EvW.strS [98, 34] (by decide +kernel)) EvsW.nil) (by first | (simp; done) | decide)) EvsW.nil))) (by first | (simp; done) | decide)) (EvsW.cons (EvW.tuple (EvsW.cons (EvW.strS [47, 97, 47] (by decide +kernel)) (EvsW.cons EvW.int (EvsW.cons (EvW.list (EvsW.cons (EvW.strS [97] (by decide +kernel)) EvsW.nil) (by first | (simp; done) | decide)) EvsW.nil))) (by first | (simp; done) | decide)) (EvsW.cons (EvW.tuple (EvsW.cons (EvW.strS [99, 92, 47, 46] (by decide +kernel)) (EvsW.cons EvW.int (EvsW.cons (EvW.list (EvsW.cons (EvW.strS [99, 92] (by decide +kernel)) EvsW.nil) (by first | (simp; done) | decide)) EvsW.nil))) (by first | (simp; done) | decide)) (EvsW.cons (EvW.tuple (EvsW.cons (EvW.strS [46, 46, 47, 98, 34] (by decide +kernel)) (EvsW.cons EvW.int (EvsW.cons (EvW.list (EvsW.cons (EvW.strS [98, 34] (by decide +kernel)) EvsW.nil) (by first | (simp; done) | decide)) EvsW.nil))) (by first | (simp; done) | decide)) (EvsW.cons (EvW.tuple (EvsW.cons (EvW.strS [97, 47, 47, 46, 46, 47, 99, 92] (by decide +kernel)) (EvsW.cons EvW.int (EvsW.cons (EvW.list (EvsW.cons (EvW.strS [99, 92] (by decide +kernel)) EvsW.nil) (by first | (simp; done) | decide)) EvsW.nil))) (by first | (simp; done) | decide)) EvsW.nil)))))))) (by first | (simp; done) | decide)) rfl (.inl rfl)) (ExW.cons (Ex1W.assign 2 (v := .tup (modesL.map fun m : Nat => V.int (m : Int))) (EvW.tuple (EvsW.cons EvW.int (EvsW.cons EvW.int (EvsW.cons EvW.int (EvsW.cons EvW.int EvsW.nil)))) (by first | (simp; done) | decide)) rfl (.inl rfl)) (ExW.ret (Ex1W.ret (EvW.tuple (EvsW.cons (EvW.to (EvW.binop (EvW.name 0 rfl rfl rfl rfl) EvW.int (Op2.modI (by decide))) (show V.int (x.fmod 2) = V.int (w : Int) by rw [hw])) (EvsW.cons (EvW.list (EvsW.cons (EvW.sub (EvW.name 1 rfl rfl rfl rfl) (EvW.binop (EvW.binop (EvW.name 0 rfl rfl rfl rfl) EvW.int (Op2.divI (by decide) (by decide))) EvW.int (Op2.modI (by decide))) (Op2.idxT (j := a) (by rw [part_len]; exact seq_nat ha ha2) (part_at ha2) ⟨by omega, by omega⟩)) (EvsW.cons (EvW.sub (EvW.name 1 rfl rfl rfl rfl) (EvW.binop (EvW.binop (EvW.name 0 rfl rfl rfl rfl) EvW.int (Op2.divI (by decide) (by decide))) EvW.int (Op2.modI (by decide))) (Op2.idxT (j := b) (by rw [part_len]; exact seq_nat hb hb2) (part_at hb2) ⟨by omega, by omega⟩)) EvsW.nil)) (by first | (simp; done) | decide)) (EvsW.cons (EvW.to (EvW.binop (EvW.sub (EvW.name 2 rfl rfl rfl rfl) (EvW.binop (EvW.binop (EvW.name 0 rfl rfl rfl rfl) EvW.int (Op2.divI (by decide) (by decide))) EvW.int (Op2.modI (by decide))) (Op2.idxT (j := c) (by rw [mode_len]; exact seq_nat hc hc2) (mode_at hc2) ⟨by omega, by omega⟩)) (EvW.binop (EvW.binop (EvW.name 0 rfl rfl rfl rfl) EvW.int (Op2.divI (by decide) (by decide))) EvW.int (Op2.modI (by decide))) Op2.xorI) (show V.int (Builtin.bitXor ((modesL.getD c 0 : Nat) : Int) ((x.fdiv 512).fmod 1048576)) = V.int (m : Int) by rw [he, hm])) EvsW.nil))) (by first | (simp; done) | decide))))))⟩
end
end Mine
end
section
set_option tactic.hygienic false
open PySem PySem.Calls PySem.W PyProof.Rows
namespace Mine
section
variable {C : Cx} {n : Nat}
noncomputable def N63 : List (Str × NameKind) := [("nodes", .local), ("k", .local), ("text", .local), ("j", .local), ("inner", .local), ("_law_name", .globalImplicit), ("range", .globalImplicit), ("len", .globalImplicit), ("_law_text", .globalImplicit)]
noncomputable def loop63 : Stmt := nth (dr 63).body 1
theorem esc_two (t : List Nat) : (t.flatMap fun d => if d = 92 then [92, 92] else [d]).flatMap (fun d => if d = 34 then [92, 34] else [d]) = esc t := by
  induction t with
  | nil => rfl
  | cons c r ih =>
    rw [List.flatMap_cons, List.flatMap_append, ih]
    show _ = (if fE c then [92, c] else [c]) ++ esc r
    congr 1
    by_cases h1 : c = 92
    · subst h1; rfl
    · by_cases h2 : c = 34
      · subst h2; rfl
      · have : fE c = false := by unfold fE; simp [h1, h2]
        rw [this, if_neg h1]; simp [h2]
theorem rpl92_len (t : List Nat) : (rpl [92] [92, 92] t).length ≤ 2 * t.length := by
  rw [rpl_one]
  induction t with
  | nil => simp
  | cons a r ih => rw [List.flatMap_cons, List.length_append, List.length_cons]; split <;> simp at ih ⊢ <;> omega
noncomputable def big (t : List Nat) : Bool := decide (10 < t.length) || t.head? == some 63
noncomputable def qv (t : List Nat) : List Nat := if big t then 34 :: (esc t ++ [34]) else t
noncomputable def upAt (nds : List Nd) (j : Nat) : Int := match nds[j]? with
  | some d => d.up
  | none => -5
noncomputable def nmAt (nds : List Nd) (j : Nat) : List Nat := match nds[j]? with
  | some d => d.nm
  | none => []
noncomputable def ltext (nds : List Nd) : Nat → Nat → List Nat
  | 0, _ => []
  | f + 1, k => lname (mdAt nds k) ++ (List.range' 1 (nds.length - 1)).flatMap fun j => if upAt nds j = (k : Int) then [59, 32] ++ nmAt nds j ++ [61] ++ qv (ltext nds f j) else []
theorem text_no (g : Gd C) {q : Str} {cd : Value} {nds : List Nd} {k j : Nat} {d : Nd} {acc : List Nat} {s4 : Slot} (hz : nds.length ≤ 1000) (hd : nds[j]? = some d) (hu : d.up ≠ (k : Int)) : ExW C n (fs N63 q cd) (sBody loop63) [.val (nodesV nds), .val (.int (k : Int)), .val (.str (S acc)), .val (.int (j : Int)), s4, .unset, .unset, .unset, .unset] .next [.val (nodesV nds), .val (.int (k : Int)), .val (.str (S acc)), .val (.int (j : Int)), s4, .unset, .unset, .unset, .unset] := by
  have hjl := (List.getElem?_eq_some_iff.mp hd).1
  exact (ExW.cons (Ex1W.ifF (ItW.to (ItW.cmp (EvW.sub (EvW.sub (EvW.name 0 rfl rfl rfl rfl) (EvW.name 3 rfl rfl rfl rfl) (Op2.idxL (by omega) (nodes_at hd) (by omega))) EvW.int (Op2.idxT (j := 0) rfl rfl ⟨by decide, by decide⟩)) (EvW.name 1 rfl rfl rfl rfl) Op2.eqI rfl) (by rw [beq_eq_false_iff_ne]; exact hu)) ExW.nil) ExW.nil)
theorem text_yes (g : Gd C) {q : Str} {cd : Value} {nds : List Nd} {k j : Nat} {d : Nd} {acc : List Nat} {s4 : Slot} (hz : nds.length ≤ 1000) (hd : nds[j]? = some d) {t : List Nat} (hu : d.up = (k : Int)) (ht : PuG C "_law_text" n [nodesV nds, .int (j : Int)] (.str (S t))) (ht0 : t ≠ []) (htz : t.length ≤ 300000) (hacc : acc.length + d.nm.length ≤ 900000) :
    ∃ s4', ExW C n (fs N63 q cd) (sBody loop63) [.val (nodesV nds), .val (.int (k : Int)), .val (.str (S acc)), .val (.int (j : Int)), s4, .unset, .unset, .unset, .unset] .next [.val (nodesV nds), .val (.int (k : Int)), .val (.str (S (acc ++ ([59, 32] ++ d.nm ++ [61] ++ qv t)))), .val (.int (j : Int)), s4', .unset, .unset, .unset, .unset] := by
  have hjl := (List.getElem?_eq_some_iff.mp hd).1
  obtain ⟨c, hc⟩ : ∃ c, t.head? = some c := by cases t with | nil => exact absurd rfl ht0 | cons a r => exact ⟨a, rfl⟩
  have h0 : t[(0 : Int).toNat]? = some c := by rw [← hc, List.head?_eq_getElem?]; rfl
  have hel := esc_len t
  have hrl : (rpl [92] [92, 92] t).length + ((rpl [92] [92, 92] t).length + 1) * ([92, 34] : List Nat).length ≤ 16777216 := by
    have := rpl92_len t
    simp; omega
  by_cases h1 : 10 < t.length
  · have eq : qv t = 34 :: (esc t ++ [34]) := by unfold qv big; rw [decide_eq_true h1]; rfl
    rw [eq]
    exact ⟨_, (ExW.cons (Ex1W.ifT (ItW.to (ItW.cmp (EvW.sub (EvW.sub (EvW.name 0 rfl rfl rfl rfl) (EvW.name 3 rfl rfl rfl rfl) (Op2.idxL (by omega) (nodes_at hd) (by omega))) EvW.int (Op2.idxT (j := 0) rfl rfl ⟨by decide, by decide⟩)) (EvW.name 1 rfl rfl rfl rfl) Op2.eqI rfl) (by rw [beq_iff_eq]; exact hu)) (ExW.cons (Ex1W.assign 4 (EvW.callG 8 rfl (EvsW.cons (EvW.name 0 rfl rfl rfl rfl) (EvsW.cons (EvW.name 3 rfl rfl rfl rfl) EvsW.nil)) ht) rfl (.inl rfl)) (ExW.cons (Ex1W.ifT (ItW.boolop (ItsW.stopOr (ItW.to (ItW.cmp (EvW.callN 7 5 g rfl rfl rfl (EvsW.cons (EvW.name 4 rfl rfl rfl rfl) EvsW.nil) (Pu.lenT (by first | decide | omega | (simp only [List.length_append, List.length_cons, List.length_nil, List.length_map, List.length_replicate, List.length_take, List.length_drop]; omega))) (.inl ⟨_, rfl⟩)) EvW.int Op2.gtI rfl) (by rw [decide_eq_true_eq]; omega)))) (ExW.cons (Ex1W.assign 4 (EvW.binop (EvW.binop (EvW.strS [34] (by decide +kernel)) (EvW.to (EvW.replaceY g [34] (by decide +kernel) (EvW.replaceY g [92] (by decide +kernel) (EvW.name 4 rfl rfl rfl rfl) (EvFW.strS [92, 92] (by decide +kernel)) (by simp; omega)) (EvFW.strS [92, 34] (by decide +kernel)) hrl) (show V.str (S (rpl [34] [92, 34] (rpl [92] [92, 92] t))) = V.str (S (esc t)) by rw [rpl_one, rpl_one, esc_two])) (Op2.addT (by first | decide | omega | (simp only [List.length_append, List.length_cons, List.length_nil, List.length_map, List.length_replicate, List.length_take, List.length_drop]; omega)))) (EvW.strS [34] (by decide +kernel)) (Op2.addT (by first | decide | omega | (simp only [List.length_append, List.length_cons, List.length_nil, List.length_map, List.length_replicate, List.length_take, List.length_drop]; omega)))) rfl (.inl rfl)) ExW.nil)) (ExW.cons (Ex1W.aug 2 rfl (.inl rfl) rfl rfl (EvW.binop (EvW.binop (EvW.binop (EvW.strS [59, 32] (by decide +kernel)) (EvW.sub (EvW.sub (EvW.name 0 rfl rfl rfl rfl) (EvW.name 3 rfl rfl rfl rfl) (Op2.idxL (by omega) (nodes_at hd) (by omega))) EvW.int (Op2.idxT (j := 1) rfl rfl ⟨by decide, by decide⟩)) (Op2.addT (by first | decide | omega | (simp only [List.length_append, List.length_cons, List.length_nil, List.length_map, List.length_replicate, List.length_take, List.length_drop]; omega)))) (EvW.strS [61] (by decide +kernel)) (Op2.addT (by first | decide | omega | (simp only [List.length_append, List.length_cons, List.length_nil, List.length_map, List.length_replicate, List.length_take, List.length_drop]; omega)))) (EvW.name 4 rfl rfl rfl rfl) (Op2.addT (by first | decide | omega | (simp only [List.length_append, List.length_cons, List.length_nil, List.length_map, List.length_replicate, List.length_take, List.length_drop]; omega)))) (Op2.iaddT (by first | decide | omega | (simp only [List.length_append, List.length_cons, List.length_nil, List.length_map, List.length_replicate, List.length_take, List.length_drop]; omega)))) ExW.nil)))) ExW.nil)⟩
  · by_cases h2 : c = 63
    · have eq : qv t = 34 :: (esc t ++ [34]) := by unfold qv big; rw [hc, h2]; simp
      rw [eq]
      exact ⟨_, (ExW.cons (Ex1W.ifT (ItW.to (ItW.cmp (EvW.sub (EvW.sub (EvW.name 0 rfl rfl rfl rfl) (EvW.name 3 rfl rfl rfl rfl) (Op2.idxL (by omega) (nodes_at hd) (by omega))) EvW.int (Op2.idxT (j := 0) rfl rfl ⟨by decide, by decide⟩)) (EvW.name 1 rfl rfl rfl rfl) Op2.eqI rfl) (by rw [beq_iff_eq]; exact hu)) (ExW.cons (Ex1W.assign 4 (EvW.callG 8 rfl (EvsW.cons (EvW.name 0 rfl rfl rfl rfl) (EvsW.cons (EvW.name 3 rfl rfl rfl rfl) EvsW.nil)) ht) rfl (.inl rfl)) (ExW.cons (Ex1W.ifT (ItW.boolop (ItsW.goOr (ItW.to (ItW.cmp (EvW.callN 7 5 g rfl rfl rfl (EvsW.cons (EvW.name 4 rfl rfl rfl rfl) EvsW.nil) (Pu.lenT (by first | decide | omega | (simp only [List.length_append, List.length_cons, List.length_nil, List.length_map, List.length_replicate, List.length_take, List.length_drop]; omega))) (.inl ⟨_, rfl⟩)) EvW.int Op2.gtI rfl) (by rw [decide_eq_false_iff_not]; omega)) (ItsW.stopOr (ItW.to (ItW.cmp (EvW.sub (EvW.name 4 rfl rfl rfl rfl) EvW.int (Op2.idxS (by decide) h0 (by decide))) (EvW.strS [63] (by decide +kernel)) Op2.eqT rfl) (by rw [h2]; rfl))))) (ExW.cons (Ex1W.assign 4 (EvW.binop (EvW.binop (EvW.strS [34] (by decide +kernel)) (EvW.to (EvW.replaceY g [34] (by decide +kernel) (EvW.replaceY g [92] (by decide +kernel) (EvW.name 4 rfl rfl rfl rfl) (EvFW.strS [92, 92] (by decide +kernel)) (by simp; omega)) (EvFW.strS [92, 34] (by decide +kernel)) hrl) (show V.str (S (rpl [34] [92, 34] (rpl [92] [92, 92] t))) = V.str (S (esc t)) by rw [rpl_one, rpl_one, esc_two])) (Op2.addT (by first | decide | omega | (simp only [List.length_append, List.length_cons, List.length_nil, List.length_map, List.length_replicate, List.length_take, List.length_drop]; omega)))) (EvW.strS [34] (by decide +kernel)) (Op2.addT (by first | decide | omega | (simp only [List.length_append, List.length_cons, List.length_nil, List.length_map, List.length_replicate, List.length_take, List.length_drop]; omega)))) rfl (.inl rfl)) ExW.nil)) (ExW.cons (Ex1W.aug 2 rfl (.inl rfl) rfl rfl (EvW.binop (EvW.binop (EvW.binop (EvW.strS [59, 32] (by decide +kernel)) (EvW.sub (EvW.sub (EvW.name 0 rfl rfl rfl rfl) (EvW.name 3 rfl rfl rfl rfl) (Op2.idxL (by omega) (nodes_at hd) (by omega))) EvW.int (Op2.idxT (j := 1) rfl rfl ⟨by decide, by decide⟩)) (Op2.addT (by first | decide | omega | (simp only [List.length_append, List.length_cons, List.length_nil, List.length_map, List.length_replicate, List.length_take, List.length_drop]; omega)))) (EvW.strS [61] (by decide +kernel)) (Op2.addT (by first | decide | omega | (simp only [List.length_append, List.length_cons, List.length_nil, List.length_map, List.length_replicate, List.length_take, List.length_drop]; omega)))) (EvW.name 4 rfl rfl rfl rfl) (Op2.addT (by first | decide | omega | (simp only [List.length_append, List.length_cons, List.length_nil, List.length_map, List.length_replicate, List.length_take, List.length_drop]; omega)))) (Op2.iaddT (by first | decide | omega | (simp only [List.length_append, List.length_cons, List.length_nil, List.length_map, List.length_replicate, List.length_take, List.length_drop]; omega)))) ExW.nil)))) ExW.nil)⟩
    · have eq : qv t = t := by unfold qv big; rw [hc, decide_eq_false h1]; simp [h2]
      rw [eq]
      exact ⟨_, (ExW.cons (Ex1W.ifT (ItW.to (ItW.cmp (EvW.sub (EvW.sub (EvW.name 0 rfl rfl rfl rfl) (EvW.name 3 rfl rfl rfl rfl) (Op2.idxL (by omega) (nodes_at hd) (by omega))) EvW.int (Op2.idxT (j := 0) rfl rfl ⟨by decide, by decide⟩)) (EvW.name 1 rfl rfl rfl rfl) Op2.eqI rfl) (by rw [beq_iff_eq]; exact hu)) (ExW.cons (Ex1W.assign 4 (EvW.callG 8 rfl (EvsW.cons (EvW.name 0 rfl rfl rfl rfl) (EvsW.cons (EvW.name 3 rfl rfl rfl rfl) EvsW.nil)) ht) rfl (.inl rfl)) (ExW.cons (Ex1W.ifF (ItW.boolop (ItsW.goOr (ItW.to (ItW.cmp (EvW.callN 7 5 g rfl rfl rfl (EvsW.cons (EvW.name 4 rfl rfl rfl rfl) EvsW.nil) (Pu.lenT (by first | decide | omega | (simp only [List.length_append, List.length_cons, List.length_nil, List.length_map, List.length_replicate, List.length_take, List.length_drop]; omega))) (.inl ⟨_, rfl⟩)) EvW.int Op2.gtI rfl) (by rw [decide_eq_false_iff_not]; omega)) (ItsW.goOr (ItW.to (ItW.cmp (EvW.sub (EvW.name 4 rfl rfl rfl rfl) EvW.int (Op2.idxS (by decide) h0 (by decide))) (EvW.strS [63] (by decide +kernel)) Op2.eqT rfl) (by rw [beq_eq_false_iff_ne]; simpa using h2)) ItsW.nilOr))) ExW.nil) (ExW.cons (Ex1W.aug 2 rfl (.inl rfl) rfl rfl (EvW.binop (EvW.binop (EvW.binop (EvW.strS [59, 32] (by decide +kernel)) (EvW.sub (EvW.sub (EvW.name 0 rfl rfl rfl rfl) (EvW.name 3 rfl rfl rfl rfl) (Op2.idxL (by omega) (nodes_at hd) (by omega))) EvW.int (Op2.idxT (j := 1) rfl rfl ⟨by decide, by decide⟩)) (Op2.addT (by first | decide | omega | (simp only [List.length_append, List.length_cons, List.length_nil, List.length_map, List.length_replicate, List.length_take, List.length_drop]; omega)))) (EvW.strS [61] (by decide +kernel)) (Op2.addT (by first | decide | omega | (simp only [List.length_append, List.length_cons, List.length_nil, List.length_map, List.length_replicate, List.length_take, List.length_drop]; omega)))) (EvW.name 4 rfl rfl rfl rfl) (Op2.addT (by first | decide | omega | (simp only [List.length_append, List.length_cons, List.length_nil, List.length_map, List.length_replicate, List.length_take, List.length_drop]; omega)))) (Op2.iaddT (by first | decide | omega | (simp only [List.length_append, List.length_cons, List.length_nil, List.length_map, List.length_replicate, List.length_take, List.length_drop]; omega)))) ExW.nil)))) ExW.nil)⟩
noncomputable def kidT (nds : List Nd) (f k j : Nat) : List Nat := if upAt nds j = (k : Int) then [59, 32] ++ nmAt nds j ++ [61] ++ qv (ltext nds f j) else []
theorem text_loop (g : Gd C) {q : Str} {cd : Value} {nds : List Nd} {k f : Nat} (hz : nds.length ≤ 1000) (IH : ∀ j, j < nds.length → upAt nds j = (k : Int) → PuG C "_law_text" n [nodesV nds, .int (j : Int)] (.str (S (ltext nds f j))) ∧ ltext nds f j ≠ [] ∧ (ltext nds f j).length ≤ 300000) :
    ∀ (js : List Nat) (acc : List Nat) (s3 s4 : Slot), (∀ j ∈ js, j < nds.length) → acc.length + (js.flatMap (kidT nds f k)).length ≤ 900000 →
    ∃ s3' s4', Lp C n (fs N63 q cd) (sTarget loop63) (sBody loop63) (js.map fun j : Nat => V.int (j : Int)) [.val (nodesV nds), .val (.int (k : Int)), .val (.str (S acc)), s3, s4, .unset, .unset, .unset, .unset] .next [.val (nodesV nds), .val (.int (k : Int)), .val (.str (S (acc ++ js.flatMap (kidT nds f k)))), s3', s4', .unset, .unset, .unset, .unset]
  | [], acc, s3, s4, _, _ => ⟨s3, s4, by rw [List.flatMap_nil, List.append_nil]; exact LpW.nil⟩
  | j :: js, acc, s3, s4, hj, hs => by
    have hlt := hj j (List.mem_cons_self ..)
    obtain ⟨d, hd⟩ : ∃ d, nds[j]? = some d := ⟨_, List.getElem?_eq_getElem hlt⟩
    have eu : upAt nds j = d.up := by unfold upAt; rw [hd]
    have en : nmAt nds j = d.nm := by unfold nmAt; rw [hd]
    have tg : AsW C (fs N63 q cd) (sTarget loop63) (V.int (j : Int)) [.val (nodesV nds), .val (.int (k : Int)), .val (.str (S acc)), s3, s4, .unset, .unset, .unset, .unset] [.val (nodesV nds), .val (.int (k : Int)), .val (.str (S acc)), .val (.int (j : Int)), s4, .unset, .unset, .unset, .unset] := AsW.name 3 rfl (.inl rfl)
    rw [List.flatMap_cons, List.length_append] at hs
    rw [List.map_cons, List.flatMap_cons, ← List.append_assoc]
    by_cases hu : d.up = (k : Int)
    · obtain ⟨h1, h2, h3⟩ := IH j hlt (eu.trans hu)
      have ek : kidT nds f k j = [59, 32] ++ d.nm ++ [61] ++ qv (ltext nds f j) := by unfold kidT; rw [if_pos (eu.trans hu), en]
      have hn : acc.length + d.nm.length ≤ 900000 := by rw [ek] at hs; simp at hs; omega
      obtain ⟨s4', hb⟩ := text_yes (n := n) g (q := q) (cd := cd) (acc := acc) (s4 := s4) hz hd hu h1 h2 h3 hn
      obtain ⟨s3'', s4'', ih⟩ := text_loop g (q := q) (cd := cd) hz IH js (acc ++ kidT nds f k j) (.val (.int (j : Int))) s4' (fun i hi => hj i (List.mem_cons_of_mem _ hi)) (by rw [List.length_append]; omega)
      refine ⟨s3'', s4'', ?_⟩
      rw [← ek] at hb
      exact LpW.next tg hb ih
    · have ek : kidT nds f k j = [] := by unfold kidT; rw [if_neg (fun e => hu (eu.symm.trans e))]
      obtain ⟨s3'', s4'', ih⟩ := text_loop g (q := q) (cd := cd) hz IH js acc (.val (.int (j : Int))) s4 (fun i hi => hj i (List.mem_cons_of_mem _ hi)) (by omega)
      refine ⟨s3'', s4'', ?_⟩
      rw [ek, List.append_nil]
      exact LpW.next tg (text_no g hz hd hu) ih
theorem lname_len (m : Nat) : (lname m).length = 10 := by simp [lname, lbits]
theorem ltext_ne (nds : List Nd) (f k : Nat) : ltext nds (f + 1) k ≠ [] := by
  intro e
  have := congrArg List.length e
  unfold ltext at this
  rw [List.length_append, lname_len] at this
  simp at this
/-- the sizes and the order of the nodes -/
structure NOk (nds : List Nd) : Prop where
  pos : 0 < nds.length
  few : nds.length ≤ 1000
  up : ∀ (j : Nat) (d : Nd), nds[j]? = some d → d.up < (j : Int)
  size : ∀ f k, (ltext nds f k).length ≤ 300000
theorem lawtext_pu (g : Gd C) {nds : List Nd} (ok : NOk nds) : ∀ (f k : Nat), k < nds.length → nds.length ≤ k + f + 1 → PuG C "_law_text" (n + 3 + f) [nodesV nds, .int (k : Int)] (.str (S (ltext nds (f + 1) k)))
  | f, k, hk, hf => by
    have hz := ok.few
    obtain ⟨d, hd⟩ : ∃ d, nds[k]? = some d := ⟨_, List.getElem?_eq_getElem hk⟩
    have em : mdAt nds k = d.md := by unfold mdAt; rw [hd]
    show PuG C (dr 63).name _ _ _
    rw [show n + 3 + f = (n + 2 + f) + 1 from by omega]
    refine PuGW.of_def (d := dr 63) 2 (g.df 63) (by decide +kernel) (bind2 63 fun _ _ _ _ _ => rfl) (N := N63) rfl fun cd q => ?_
    have IH : ∀ j, j < nds.length → upAt nds j = (k : Int) → PuG C "_law_text" (n + 2 + f) [nodesV nds, .int (j : Int)] (.str (S (ltext nds f j))) ∧ ltext nds f j ≠ [] ∧ (ltext nds f j).length ≤ 300000 := by
      intro j hj hu
      obtain ⟨dj, hdj⟩ : ∃ d, nds[j]? = some d := ⟨_, List.getElem?_eq_getElem hj⟩
      have hup := ok.up j dj hdj
      have eu : upAt nds j = dj.up := by unfold upAt; rw [hdj]
      rw [← eu, hu] at hup
      have hlt : k < j := by omega
      match f, hf with
      | 0, hf => omega
      | f + 1, hf =>
        refine ⟨?_, ltext_ne nds f j, ok.size _ _⟩
        have := lawtext_pu g ok f j hj (by omega)
        rw [show n + 2 + (f + 1) = n + 3 + f from by omega]
        exact this
    have hsz := ok.size (f + 1) k
    have e1 : ltext nds (f + 1) k = lname d.md ++ (List.range' 1 (nds.length - 1)).flatMap (kidT nds f k) := by rw [← em]; rfl
    rw [e1] at hsz ⊢
    obtain ⟨s3', s4', hlp⟩ := text_loop (n := n + 2 + f) g (q := q) (cd := cd) hz IH (List.range' 1 (nds.length - 1)) (lname d.md) .unset .unset (fun j hj => by obtain ⟨i, hi, rfl⟩ := List.mem_range'.mp hj; omega) (by rw [List.length_append] at hsz; omega)
    have hnm : PuG C "_law_name" (n + 2 + f) [.int (d.md : Int)] (.str (S (lname d.md))) := (lawname_pu g (n := n)).le (by omega)
    have e2 : (List.range' 1 (nds.length - 1)).map (fun j : Nat => V.int (j : Int)) = rangeV 1 ((nds.map NV).length - 1) := by rw [List.length_map]; rfl
    rw [e2] at hlp
    exact ⟨_, (ExW.cons (Ex1W.assign 2 (EvW.callG 5 rfl (EvsW.cons (EvW.sub (EvW.sub (EvW.name 0 rfl rfl rfl rfl) (EvW.name 1 rfl rfl rfl rfl) (Op2.idxL (by omega) (nodes_at hd) (by omega))) EvW.int (Op2.idxT (j := 2) rfl rfl ⟨by decide, by decide⟩)) EvsW.nil) hnm) rfl (.inl rfl)) (ExW.cons (Ex1W.for (EvW.callN 6 7 g rfl rfl rfl (EvsW.cons EvW.int (EvsW.cons (EvW.callN 7 5 g rfl rfl rfl (EvsW.cons (EvW.name 0 rfl rfl rfl rfl) EvsW.nil) (Pu.lenL (by first | decide | omega | (simp only [List.length_append, List.length_cons, List.length_nil, List.length_map, List.length_replicate, List.length_take, List.length_drop]; omega))) (.inl ⟨_, rfl⟩)) EvsW.nil)) Pu.range2 (.inr ⟨_, rfl⟩)) (PyIt.range (a := 1) (by omega) (by rw [List.length_map]; omega)) hlp (AfterW.next ExW.nil)) (ExW.ret (Ex1W.ret (EvW.name 2 rfl rfl rfl rfl)))))⟩
noncomputable def N61 : List (Str × NameKind) := [("nodes", .local), ("spot", .local), ("way", .local), ("parts", .local), ("mode", .local), ("names", .local), ("text", .local), ("ups", .local), ("more", .local), ("k", .local), ("above", .local), ("name", .local), ("old", .local), ("max", .globalImplicit), ("len", .globalImplicit), ("_law_find", .globalImplicit), ("_law_open", .globalImplicit)]
noncomputable def loop61 : Stmt := nth (dr 61).body 1
noncomputable def stepN (names : List (List Nat)) (p : List Nat × Nat × List (List Nat)) : List (List Nat) := names.take (names.length - p.2.1) ++ p.2.2
theorem cutL_lo {α : Type} {l : List α} {k : Nat} : cut l none (some (k : Int)) = l.take k := by unfold cut; simp
theorem cutL_hi {α : Type} {l : List α} {k : Nat} : cut l (some (k : Int)) none = l.drop k := by unfold cut; simp
theorem model_body (g : Gd C) {q : Str} {cd : Value} {nds : List Nd} {sp wv pv mv : V} {ns : List (List Nat)} {p : List Nat × Nat × List (List Nat)} (hn : ns.length ≤ 1000) (hp : p.2.2.length ≤ 1000) :
    ExW C (n + 3) (fs N61 q cd) (sBody loop61) [.val (nodesV nds), .val sp, .val wv, .val pv, .val mv, .val (.list (ns.map fS)), .val (.str (S p.1)), .val (.int (p.2.1 : Int)), .val (.list (p.2.2.map fS)), .unset, .unset, .unset, .unset, .unset, .unset, .unset, .unset] .next [.val (nodesV nds), .val sp, .val wv, .val pv, .val mv, .val (.list ((stepN ns p).map fS)), .val (.str (S p.1)), .val (.int (p.2.1 : Int)), .val (.list (p.2.2.map fS)), .unset, .unset, .unset, .unset, .unset, .unset, .unset, .unset] := by
  exact (ExW.cons (Ex1W.assign 5 (EvW.to (EvW.binop (EvW.to (EvW.slLG (EvW.name 5 rfl rfl rfl rfl) EvpW.none (EvpW.some (EvW.to (EvW.callN 13 8 g rfl rfl rfl (EvsW.cons EvW.int (EvsW.cons (EvW.binop (EvW.callN 14 5 g rfl rfl rfl (EvsW.cons (EvW.name 5 rfl rfl rfl rfl) EvsW.nil) (Pu.to (Pu.lenL (by rw [List.length_map]; omega)) (by rw [List.length_map])) (.inl ⟨_, rfl⟩)) (EvW.name 7 rfl rfl rfl rfl) Op2.subI) EvsW.nil)) Pu.maxII (.inl ⟨_, rfl⟩)) (show V.int (if ((ns.length : Nat) : Int) - (p.2.1 : Int) > 0 then ((ns.length : Nat) : Int) - (p.2.1 : Int) else 0) = V.int ((ns.length - p.2.1 : Nat) : Int) by split <;> (congr 1; omega)))) (by simp) (by simp <;> omega) (by rw [List.length_map]; omega)) (show V.list (cut (ns.map fS) none (some ((ns.length - p.2.1 : Nat) : Int))) = V.list ((ns.take (ns.length - p.2.1)).map fS) by rw [cutL_lo, List.map_take])) (EvW.name 8 rfl rfl rfl rfl) (Op2.addL (by simp; omega))) (show V.list ((ns.take (ns.length - p.2.1)).map fS ++ p.2.2.map fS) = V.list ((stepN ns p).map fS) by unfold stepN; rw [List.map_append])) rfl (.inl rfl)) ExW.nil)
theorem PuG.to {x : Str} {args : List V} {v w : V} {n : Nat} (h : PuG C x n args v) (e : v = w) : PuG C x n args w := e ▸ h
theorem model_pre (g : Gd C) {nds : List Nd} {spot : List (List Nat)} {w m : Nat} {p1 p2 : List Nat × Nat × List (List Nat)} {ns : List (List Nat)} (ens : ns = stepN (stepN spot p1) p2) (hz : nds.length ≤ 1000) (h0 : 0 < nds.length) (hs : spot.length ≤ 100) (hp1 : p1.2.2.length ≤ 100) (hp2 : p2.2.2.length ≤ 100) {kk : Int} (hk : pfindI nds ns = kk) {r : V} (h : ∀ (cd : Value) (q : Str) (s6 s7 s8 : Slot), ∃ σ', ExW C (n + 3) (fs N61 q cd) ((dr 61).body.drop 3) [.val (nodesV nds), .val (.list (spot.map fS)), .val (.int (w : Int)), .val (.list [partV p1, partV p2]), .val (.int (m : Int)), .val (.list (ns.map fS)), s6, s7, s8, .val (.int kk), .unset, .unset, .unset, .unset, .unset, .unset, .unset] (.ret r) σ') : PuG C "_law_model" (n + 4) [nodesV nds, .list (spot.map fS), .int (w : Int), .list [partV p1, partV p2], .int (m : Int)] r := by
  show PuG C (dr 61).name _ _ _
  have hl1 : (stepN spot p1).length ≤ 200 := by unfold stepN; simp; omega
  have hl2 : ns.length ≤ 300 := by rw [ens]; unfold stepN; simp; omega
  refine PuGW.of_def (d := dr 61) 5 (g.df 61) (by decide +kernel) (bind5 61 fun _ _ _ _ _ _ _ _ => rfl) (N := N61) rfl fun cd q => ?_
  have hlp : Lp C (n + 3) (fs N61 q cd) (sTarget loop61) (sBody loop61) [partV p1, partV p2] [.val (nodesV nds), .val (.list (spot.map fS)), .val (.int (w : Int)), .val (.list [partV p1, partV p2]), .val (.int (m : Int)), .val (.list (spot.map fS)), .unset, .unset, .unset, .unset, .unset, .unset, .unset, .unset, .unset, .unset, .unset] .next _ :=
    LpW.next (AsW.tuple (AssW.cons (AsW.name 6 rfl (.inl rfl)) (AssW.cons (AsW.name 7 rfl (.inl rfl)) (AssW.cons (AsW.name 8 rfl (.inl rfl)) AssW.nil)))) (model_body g (by omega) (by omega)) (LpW.next (AsW.tuple (AssW.cons (AsW.name 6 rfl (.inl rfl)) (AssW.cons (AsW.name 7 rfl (.inl rfl)) (AssW.cons (AsW.name 8 rfl (.inl rfl)) AssW.nil)))) (model_body g (by omega) (by omega)) LpW.nil)
  rw [← ens] at hlp
  obtain ⟨σ', ht⟩ := h cd q _ _ _
  exact ⟨_, (ExW.cons (Ex1W.assign 5 (EvW.name 1 rfl rfl rfl rfl) rfl (.inl rfl)) (ExW.cons (Ex1W.for (EvW.name 3 rfl rfl rfl rfl) PyIt.list hlp (AfterW.next ExW.nil)) (ExW.cons (Ex1W.assign 9 (EvW.callG 15 rfl (EvsW.cons (EvW.name 0 rfl rfl rfl rfl) (EvsW.cons (EvW.name 5 rfl rfl rfl rfl) EvsW.nil)) (PuG.to (PuG.le (lawfind_pu (n := n) g h0 (by omega)) (by omega)) (congrArg V.int hk))) rfl (.inl rfl)) ht)))⟩
theorem model_1 (g : Gd C) {nds : List Nd} {spot : List (List Nat)} {w m : Nat} {p1 p2 : List Nat × Nat × List (List Nat)} {ns : List (List Nat)} (ens : ns = stepN (stepN spot p1) p2) (hz : nds.length ≤ 1000) (h0 : 0 < nds.length) (hs : spot.length ≤ 100) (hp1 : p1.2.2.length ≤ 100) (hp2 : p2.2.2.length ≤ 100) {k : Nat} {d : Nd} (hf : pfind nds 0 ns = some k) (hd : nds[k]? = some d) (hw : w = 0) (ho : lopen d.md = true) : PuG C "_law_model" (n + 4) [nodesV nds, .list (spot.map fS), .int (w : Int), .list [partV p1, partV p2], .int (m : Int)] (.tup [nodesV nds, .list (ns.map fS)]) := by
  have hl2 : ns.length ≤ 300 := by rw [ens]; unfold stepN; simp; omega
  have hkl := (List.getElem?_eq_some_iff.mp hd).1
  exact model_pre g ens hz h0 hs hp1 hp2 (show pfindI nds ns = (k : Int) by unfold pfindI; rw [hf]) fun cd q s6 s7 s8 => ⟨_, (ExW.ret (Ex1W.ifT (ItW.to (ItW.cmp (EvW.name 2 rfl rfl rfl rfl) EvW.int Op2.eqI rfl) (by rw [beq_iff_eq]; omega)) (ExW.ret (Ex1W.ret (EvW.tuple (EvsW.cons (EvW.name 0 rfl rfl rfl rfl) (EvsW.cons (EvW.ifT (ItW.boolop (ItsW.goAnd (ItW.to (ItW.cmp (EvW.name 9 rfl rfl rfl rfl) EvW.int Op2.geI rfl) (by rw [decide_eq_true_eq]; omega)) (ItsW.goAnd (ItW.to (ItW.plain (fun _ _ => rfl) (EvW.callG 16 rfl (EvsW.cons (EvW.sub (EvW.sub (EvW.name 0 rfl rfl rfl rfl) (EvW.name 9 rfl rfl rfl rfl) (Op2.idxL (by omega) (nodes_at hd) (by omega))) EvW.int (Op2.idxT (j := 2) rfl rfl ⟨by decide, by decide⟩)) EvsW.nil) (lawopen_pu g)) Tr.bool) ho) ItsW.nilAnd))) (EvW.name 5 rfl rfl rfl rfl)) EvsW.nil)) (by first | (simp; done) | decide))))))⟩
theorem model_2 (g : Gd C) {nds : List Nd} {spot : List (List Nat)} {w m : Nat} {p1 p2 : List Nat × Nat × List (List Nat)} {ns : List (List Nat)} (ens : ns = stepN (stepN spot p1) p2) (hz : nds.length ≤ 1000) (h0 : 0 < nds.length) (hs : spot.length ≤ 100) (hp1 : p1.2.2.length ≤ 100) (hp2 : p2.2.2.length ≤ 100) {k : Nat} {d : Nd} (hf : pfind nds 0 ns = some k) (hd : nds[k]? = some d) (hw : w = 0) (ho : lopen d.md = false) : PuG C "_law_model" (n + 4) [nodesV nds, .list (spot.map fS), .int (w : Int), .list [partV p1, partV p2], .int (m : Int)] (.tup [nodesV nds, .list (spot.map fS)]) := by
  have hl2 : ns.length ≤ 300 := by rw [ens]; unfold stepN; simp; omega
  have hkl := (List.getElem?_eq_some_iff.mp hd).1
  exact model_pre g ens hz h0 hs hp1 hp2 (show pfindI nds ns = (k : Int) by unfold pfindI; rw [hf]) fun cd q s6 s7 s8 => ⟨_, (ExW.ret (Ex1W.ifT (ItW.to (ItW.cmp (EvW.name 2 rfl rfl rfl rfl) EvW.int Op2.eqI rfl) (by rw [beq_iff_eq]; omega)) (ExW.ret (Ex1W.ret (EvW.tuple (EvsW.cons (EvW.name 0 rfl rfl rfl rfl) (EvsW.cons (EvW.ifF (ItW.boolop (ItsW.goAnd (ItW.to (ItW.cmp (EvW.name 9 rfl rfl rfl rfl) EvW.int Op2.geI rfl) (by rw [decide_eq_true_eq]; omega)) (ItsW.stopAnd (ItW.to (ItW.plain (fun _ _ => rfl) (EvW.callG 16 rfl (EvsW.cons (EvW.sub (EvW.sub (EvW.name 0 rfl rfl rfl rfl) (EvW.name 9 rfl rfl rfl rfl) (Op2.idxL (by omega) (nodes_at hd) (by omega))) EvW.int (Op2.idxT (j := 2) rfl rfl ⟨by decide, by decide⟩)) EvsW.nil) (lawopen_pu g)) Tr.bool) ho)))) (EvW.name 1 rfl rfl rfl rfl)) EvsW.nil)) (by first | (simp; done) | decide))))))⟩
theorem model_3 (g : Gd C) {nds : List Nd} {spot : List (List Nat)} {w m : Nat} {p1 p2 : List Nat × Nat × List (List Nat)} {ns : List (List Nat)} (ens : ns = stepN (stepN spot p1) p2) (hz : nds.length ≤ 1000) (h0 : 0 < nds.length) (hs : spot.length ≤ 100) (hp1 : p1.2.2.length ≤ 100) (hp2 : p2.2.2.length ≤ 100) (hf : pfind nds 0 ns = none) (hw : w = 0) : PuG C "_law_model" (n + 4) [nodesV nds, .list (spot.map fS), .int (w : Int), .list [partV p1, partV p2], .int (m : Int)] (.tup [nodesV nds, .list (spot.map fS)]) := by
  exact model_pre g ens hz h0 hs hp1 hp2 (show pfindI nds ns = -1 by unfold pfindI; rw [hf]) fun cd q s6 s7 s8 => ⟨_, (ExW.ret (Ex1W.ifT (ItW.to (ItW.cmp (EvW.name 2 rfl rfl rfl rfl) EvW.int Op2.eqI rfl) (by rw [beq_iff_eq]; omega)) (ExW.ret (Ex1W.ret (EvW.tuple (EvsW.cons (EvW.name 0 rfl rfl rfl rfl) (EvsW.cons (EvW.ifF (ItW.boolop (ItsW.stopAnd (ItW.to (ItW.cmp (EvW.name 9 rfl rfl rfl rfl) EvW.int Op2.geI rfl) (by decide)))) (EvW.name 1 rfl rfl rfl rfl)) EvsW.nil)) (by first | (simp; done) | decide))))))⟩
theorem model_4 (g : Gd C) {nds : List Nd} {spot : List (List Nat)} {w m : Nat} {p1 p2 : List Nat × Nat × List (List Nat)} {ns : List (List Nat)} (ens : ns = stepN (stepN spot p1) p2) (hz : nds.length ≤ 1000) (h0 : 0 < nds.length) (hs : spot.length ≤ 100) (hp1 : p1.2.2.length ≤ 100) (hp2 : p2.2.2.length ≤ 100) {k : Nat} {d : Nd} (hf : pfind nds 0 ns = some k) (hd : nds[k]? = some d) (hw : w ≠ 0) : PuG C "_law_model" (n + 4) [nodesV nds, .list (spot.map fS), .int (w : Int), .list [partV p1, partV p2], .int (m : Int)] (.tup [nodesV (nds.take k ++ [⟨d.up, d.nm, d.md / 4096 * 4096 + m % 4096⟩] ++ nds.drop (k + 1)), .list (spot.map fS)]) := by
  have hl2 : ns.length ≤ 300 := by rw [ens]; unfold stepN; simp; omega
  have hkl := (List.getElem?_eq_some_iff.mp hd).1
  exact model_pre g ens hz h0 hs hp1 hp2 (show pfindI nds ns = (k : Int) by unfold pfindI; rw [hf]) fun cd q s6 s7 s8 => ⟨_, (ExW.cons (Ex1W.ifF (ItW.to (ItW.cmp (EvW.name 2 rfl rfl rfl rfl) EvW.int Op2.eqI rfl) (by rw [beq_eq_false_iff_ne]; omega)) ExW.nil) (ExW.ret (Ex1W.ifT (ItW.to (ItW.cmp (EvW.name 9 rfl rfl rfl rfl) EvW.int Op2.geI rfl) (by rw [decide_eq_true_eq]; omega)) (ExW.cons (Ex1W.assignT (EvW.sub (EvW.name 0 rfl rfl rfl rfl) (EvW.name 9 rfl rfl rfl rfl) (Op2.idxL (by omega) (nodes_at hd) (by omega))) (AsW.tuple (AssW.cons (AsW.name 10 rfl (.inl rfl)) (AssW.cons (AsW.name 11 rfl (.inl rfl)) (AssW.cons (AsW.name 12 rfl (.inl rfl)) AssW.nil))))) (ExW.ret (Ex1W.ret (EvW.tuple (EvsW.cons (EvW.to (EvW.binop (EvW.binop (EvW.to (EvW.slLG (EvW.name 0 rfl rfl rfl rfl) EvpW.none (EvpW.some (EvW.name 9 rfl rfl rfl rfl)) (by simp) (by simp <;> omega) (by rw [List.length_map]; omega)) (show V.list (cut (nds.map NV) none (some (k : Int))) = V.list ((nds.take k).map NV) by rw [cutL_lo, List.map_take])) (EvW.list (EvsW.cons (EvW.tuple (EvsW.cons (EvW.name 10 rfl rfl rfl rfl) (EvsW.cons (EvW.name 11 rfl rfl rfl rfl) (EvsW.cons (EvW.to (EvW.binop (EvW.binop (EvW.binop (EvW.name 12 rfl rfl rfl rfl) EvW.int (Op2.divI (by decide) (by decide))) EvW.int (Op2.mulI (IntMulOk.of_right (by decide)))) (EvW.binop (EvW.name 4 rfl rfl rfl rfl) EvW.int (Op2.modI (by decide))) Op2.addI) (show V.int (((d.md : Nat) : Int).fdiv 4096 * 4096 + ((m : Nat) : Int).fmod 4096) = V.int ((d.md / 4096 * 4096 + m % 4096 : Nat) : Int) by rw [show ((d.md : Nat) : Int).fdiv 4096 = _ from fdiv_nat _ 4096, show ((m : Nat) : Int).fmod 4096 = _ from fmod_natc _ 4096]; congr 1)) EvsW.nil))) (by first | (simp; done) | decide)) EvsW.nil) (by first | (simp; done) | decide)) (Op2.addL (by first | decide | omega | (simp only [List.length_append, List.length_cons, List.length_nil, List.length_map, List.length_replicate, List.length_take, List.length_drop]; omega)))) (EvW.to (EvW.slLG (EvW.name 0 rfl rfl rfl rfl) (EvpW.some (EvW.binop (EvW.name 9 rfl rfl rfl rfl) EvW.int Op2.addI)) EvpW.none (by simp <;> omega) (by simp) (by rw [List.length_map]; omega)) (show V.list (cut (nds.map NV) (some ((k : Int) + 1)) none) = V.list ((nds.drop (k + 1)).map NV) by rw [show ((k : Int) + 1) = ((k + 1 : Nat) : Int) from by omega, cutL_hi, List.map_drop])) (Op2.addL (by first | decide | omega | (simp only [List.length_append, List.length_cons, List.length_nil, List.length_map, List.length_replicate, List.length_take, List.length_drop]; omega)))) (show V.list ((nds.take k).map NV ++ [NV ⟨d.up, d.nm, d.md / 4096 * 4096 + m % 4096⟩] ++ (nds.drop (k + 1)).map NV) = nodesV (nds.take k ++ [⟨d.up, d.nm, d.md / 4096 * 4096 + m % 4096⟩] ++ nds.drop (k + 1)) by unfold nodesV; simp)) (EvsW.cons (EvW.name 1 rfl rfl rfl rfl) EvsW.nil)) (by first | (simp; done) | decide))))))))⟩
theorem model_5 (g : Gd C) {nds : List Nd} {spot : List (List Nat)} {w m : Nat} {p1 p2 : List Nat × Nat × List (List Nat)} {ns : List (List Nat)} (ens : ns = stepN (stepN spot p1) p2) (hz : nds.length ≤ 1000) (h0 : 0 < nds.length) (hs : spot.length ≤ 100) (hp1 : p1.2.2.length ≤ 100) (hp2 : p2.2.2.length ≤ 100) (hf : pfind nds 0 ns = none) {k : Nat} {d : Nd} (hf2 : pfind nds 0 ns.dropLast = some k) (hd : nds[k]? = some d) (hw : w ≠ 0) {x : List Nat} (hx : ns.getLast? = some x) (h4 : ns.length < 4) (ho : lopen d.md = true) (hwr : (d.md / 128 % 2 == 1) = true) : PuG C "_law_model" (n + 4) [nodesV nds, .list (spot.map fS), .int (w : Int), .list [partV p1, partV p2], .int (m : Int)] (.tup [nodesV (nds ++ [⟨(k : Int), x, m⟩]), .list (spot.map fS)]) := by
  have hl2 : ns.length ≤ 300 := by rw [ens]; unfold stepN; simp; omega
  have hkl := (List.getElem?_eq_some_iff.mp hd).1
  have hn0 : 0 < ns.length := by cases ns with | nil => cases hx | cons => simp
  have hlast : (ns.map fS)[((-1 : Int) + ((ns.map fS).length : Int)).toNat]? = some (.str (S x)) := by
    rw [List.length_map, show ((-1 : Int) + (ns.length : Int)).toNat = ns.length - 1 from by omega, List.getElem?_map, ← List.getLast?_eq_getElem?, hx]; rfl
  exact model_pre g ens hz h0 hs hp1 hp2 (show pfindI nds ns = -1 by unfold pfindI; rw [hf]) fun cd q s6 s7 s8 => ⟨_, (ExW.cons (Ex1W.ifF (ItW.to (ItW.cmp (EvW.name 2 rfl rfl rfl rfl) EvW.int Op2.eqI rfl) (by rw [beq_eq_false_iff_ne]; omega)) ExW.nil) (ExW.cons (Ex1W.ifF (ItW.to (ItW.cmp (EvW.name 9 rfl rfl rfl rfl) EvW.int Op2.geI rfl) (by decide)) ExW.nil) (ExW.cons (Ex1W.assign 9 (EvW.callG 15 rfl (EvsW.cons (EvW.name 0 rfl rfl rfl rfl) (EvsW.cons (EvW.to (EvW.slInit (EvW.name 5 rfl rfl rfl rfl) (EvW.unop EvW.int Op1.negI) (by simp; omega)) (show V.list ((ns.map fS).dropLast) = V.list (ns.dropLast.map fS) by rw [List.map_dropLast])) EvsW.nil)) (PuG.to (PuG.le (lawfind_pu (n := n) g h0 (by omega)) (by omega)) (show V.int (pfindI nds ns.dropLast) = V.int (k : Int) by unfold pfindI; rw [hf2]))) rfl (.inl rfl)) (ExW.ret (Ex1W.ifT (ItW.boolop (ItsW.goAnd (ItW.to (ItW.cmp (EvW.name 9 rfl rfl rfl rfl) EvW.int Op2.geI rfl) (by rw [decide_eq_true_eq]; omega)) (ItsW.goAnd (ItW.to (ItW.cmp (EvW.callN 14 5 g rfl rfl rfl (EvsW.cons (EvW.name 5 rfl rfl rfl rfl) EvsW.nil) (Pu.to (Pu.lenL (by rw [List.length_map]; omega)) (by rw [List.length_map])) (.inl ⟨_, rfl⟩)) EvW.int Op2.ltI rfl) (by rw [decide_eq_true_eq]; omega)) (ItsW.goAnd (ItW.to (ItW.plain (fun _ _ => rfl) (EvW.callG 16 rfl (EvsW.cons (EvW.sub (EvW.sub (EvW.name 0 rfl rfl rfl rfl) (EvW.name 9 rfl rfl rfl rfl) (Op2.idxL (by omega) (nodes_at hd) (by omega))) EvW.int (Op2.idxT (j := 2) rfl rfl ⟨by decide, by decide⟩)) EvsW.nil) (lawopen_pu g)) Tr.bool) ho) (ItsW.goAnd (ItW.to (ItW.cmp (EvW.binop (EvW.binop (EvW.sub (EvW.sub (EvW.name 0 rfl rfl rfl rfl) (EvW.name 9 rfl rfl rfl rfl) (Op2.idxL (by omega) (nodes_at hd) (by omega))) EvW.int (Op2.idxT (j := 2) rfl rfl ⟨by decide, by decide⟩)) EvW.int (Op2.divI (by decide) (by decide))) EvW.int (Op2.modI (by decide))) EvW.int Op2.eqI rfl) (by rw [show ((((d.md : Nat) : Int).fdiv 128).fmod 2 == 1) = _ from fdm d.md 128 2 1]; exact hwr)) ItsW.nilAnd))))) (ExW.ret (Ex1W.ret (EvW.tuple (EvsW.cons (EvW.to (EvW.binop (EvW.name 0 rfl rfl rfl rfl) (EvW.list (EvsW.cons (EvW.tuple (EvsW.cons (EvW.name 9 rfl rfl rfl rfl) (EvsW.cons (EvW.sub (EvW.name 5 rfl rfl rfl rfl) (EvW.unop EvW.int Op1.negI) (Op2.idxLn (by decide) (by simp; omega) hlast (by decide))) (EvsW.cons (EvW.name 4 rfl rfl rfl rfl) EvsW.nil))) (by first | (simp; done) | decide)) EvsW.nil) (by first | (simp; done) | decide)) (Op2.addL (by first | decide | omega | (simp only [List.length_append, List.length_cons, List.length_nil, List.length_map, List.length_replicate, List.length_take, List.length_drop]; omega)))) (show V.list (nds.map NV ++ [NV ⟨(k : Int), x, m⟩]) = nodesV (nds ++ [⟨(k : Int), x, m⟩]) by unfold nodesV; simp)) (EvsW.cons (EvW.name 1 rfl rfl rfl rfl) EvsW.nil)) (by first | (simp; done) | decide)))))))))⟩
theorem model_6 (g : Gd C) {nds : List Nd} {spot : List (List Nat)} {w m : Nat} {p1 p2 : List Nat × Nat × List (List Nat)} {ns : List (List Nat)} (ens : ns = stepN (stepN spot p1) p2) (hz : nds.length ≤ 1000) (h0 : 0 < nds.length) (hs : spot.length ≤ 100) (hp1 : p1.2.2.length ≤ 100) (hp2 : p2.2.2.length ≤ 100) (hf : pfind nds 0 ns = none) {k : Nat} {d : Nd} (hf2 : pfind nds 0 ns.dropLast = some k) (hd : nds[k]? = some d) (hw : w ≠ 0) (h4 : ¬ ns.length < 4) : PuG C "_law_model" (n + 4) [nodesV nds, .list (spot.map fS), .int (w : Int), .list [partV p1, partV p2], .int (m : Int)] (.tup [nodesV nds, .list (spot.map fS)]) := by
  have hl2 : ns.length ≤ 300 := by rw [ens]; unfold stepN; simp; omega
  have hkl := (List.getElem?_eq_some_iff.mp hd).1
  exact model_pre g ens hz h0 hs hp1 hp2 (show pfindI nds ns = -1 by unfold pfindI; rw [hf]) fun cd q s6 s7 s8 => ⟨_, (ExW.cons (Ex1W.ifF (ItW.to (ItW.cmp (EvW.name 2 rfl rfl rfl rfl) EvW.int Op2.eqI rfl) (by rw [beq_eq_false_iff_ne]; omega)) ExW.nil) (ExW.cons (Ex1W.ifF (ItW.to (ItW.cmp (EvW.name 9 rfl rfl rfl rfl) EvW.int Op2.geI rfl) (by decide)) ExW.nil) (ExW.cons (Ex1W.assign 9 (EvW.callG 15 rfl (EvsW.cons (EvW.name 0 rfl rfl rfl rfl) (EvsW.cons (EvW.to (EvW.slInit (EvW.name 5 rfl rfl rfl rfl) (EvW.unop EvW.int Op1.negI) (by simp; omega)) (show V.list ((ns.map fS).dropLast) = V.list (ns.dropLast.map fS) by rw [List.map_dropLast])) EvsW.nil)) (PuG.to (PuG.le (lawfind_pu (n := n) g h0 (by omega)) (by omega)) (show V.int (pfindI nds ns.dropLast) = V.int (k : Int) by unfold pfindI; rw [hf2]))) rfl (.inl rfl)) (ExW.cons (Ex1W.ifF (ItW.boolop (ItsW.goAnd (ItW.to (ItW.cmp (EvW.name 9 rfl rfl rfl rfl) EvW.int Op2.geI rfl) (by rw [decide_eq_true_eq]; omega)) (ItsW.stopAnd (ItW.to (ItW.cmp (EvW.callN 14 5 g rfl rfl rfl (EvsW.cons (EvW.name 5 rfl rfl rfl rfl) EvsW.nil) (Pu.to (Pu.lenL (by rw [List.length_map]; omega)) (by rw [List.length_map])) (.inl ⟨_, rfl⟩)) EvW.int Op2.ltI rfl) (by rw [decide_eq_false_iff_not]; omega))))) ExW.nil) (ExW.ret (Ex1W.ret (EvW.tuple (EvsW.cons (EvW.name 0 rfl rfl rfl rfl) (EvsW.cons (EvW.name 1 rfl rfl rfl rfl) EvsW.nil)) (by first | (simp; done) | decide))))))))⟩
theorem model_7 (g : Gd C) {nds : List Nd} {spot : List (List Nat)} {w m : Nat} {p1 p2 : List Nat × Nat × List (List Nat)} {ns : List (List Nat)} (ens : ns = stepN (stepN spot p1) p2) (hz : nds.length ≤ 1000) (h0 : 0 < nds.length) (hs : spot.length ≤ 100) (hp1 : p1.2.2.length ≤ 100) (hp2 : p2.2.2.length ≤ 100) (hf : pfind nds 0 ns = none) {k : Nat} {d : Nd} (hf2 : pfind nds 0 ns.dropLast = some k) (hd : nds[k]? = some d) (hw : w ≠ 0) (h4 : ns.length < 4) (ho : lopen d.md = false) : PuG C "_law_model" (n + 4) [nodesV nds, .list (spot.map fS), .int (w : Int), .list [partV p1, partV p2], .int (m : Int)] (.tup [nodesV nds, .list (spot.map fS)]) := by
  have hl2 : ns.length ≤ 300 := by rw [ens]; unfold stepN; simp; omega
  have hkl := (List.getElem?_eq_some_iff.mp hd).1
  exact model_pre g ens hz h0 hs hp1 hp2 (show pfindI nds ns = -1 by unfold pfindI; rw [hf]) fun cd q s6 s7 s8 => ⟨_, (ExW.cons (Ex1W.ifF (ItW.to (ItW.cmp (EvW.name 2 rfl rfl rfl rfl) EvW.int Op2.eqI rfl) (by rw [beq_eq_false_iff_ne]; omega)) ExW.nil) (ExW.cons (Ex1W.ifF (ItW.to (ItW.cmp (EvW.name 9 rfl rfl rfl rfl) EvW.int Op2.geI rfl) (by decide)) ExW.nil) (ExW.cons (Ex1W.assign 9 (EvW.callG 15 rfl (EvsW.cons (EvW.name 0 rfl rfl rfl rfl) (EvsW.cons (EvW.to (EvW.slInit (EvW.name 5 rfl rfl rfl rfl) (EvW.unop EvW.int Op1.negI) (by simp; omega)) (show V.list ((ns.map fS).dropLast) = V.list (ns.dropLast.map fS) by rw [List.map_dropLast])) EvsW.nil)) (PuG.to (PuG.le (lawfind_pu (n := n) g h0 (by omega)) (by omega)) (show V.int (pfindI nds ns.dropLast) = V.int (k : Int) by unfold pfindI; rw [hf2]))) rfl (.inl rfl)) (ExW.cons (Ex1W.ifF (ItW.boolop (ItsW.goAnd (ItW.to (ItW.cmp (EvW.name 9 rfl rfl rfl rfl) EvW.int Op2.geI rfl) (by rw [decide_eq_true_eq]; omega)) (ItsW.goAnd (ItW.to (ItW.cmp (EvW.callN 14 5 g rfl rfl rfl (EvsW.cons (EvW.name 5 rfl rfl rfl rfl) EvsW.nil) (Pu.to (Pu.lenL (by rw [List.length_map]; omega)) (by rw [List.length_map])) (.inl ⟨_, rfl⟩)) EvW.int Op2.ltI rfl) (by rw [decide_eq_true_eq]; omega)) (ItsW.stopAnd (ItW.to (ItW.plain (fun _ _ => rfl) (EvW.callG 16 rfl (EvsW.cons (EvW.sub (EvW.sub (EvW.name 0 rfl rfl rfl rfl) (EvW.name 9 rfl rfl rfl rfl) (Op2.idxL (by omega) (nodes_at hd) (by omega))) EvW.int (Op2.idxT (j := 2) rfl rfl ⟨by decide, by decide⟩)) EvsW.nil) (lawopen_pu g)) Tr.bool) ho))))) ExW.nil) (ExW.ret (Ex1W.ret (EvW.tuple (EvsW.cons (EvW.name 0 rfl rfl rfl rfl) (EvsW.cons (EvW.name 1 rfl rfl rfl rfl) EvsW.nil)) (by first | (simp; done) | decide))))))))⟩
theorem model_8 (g : Gd C) {nds : List Nd} {spot : List (List Nat)} {w m : Nat} {p1 p2 : List Nat × Nat × List (List Nat)} {ns : List (List Nat)} (ens : ns = stepN (stepN spot p1) p2) (hz : nds.length ≤ 1000) (h0 : 0 < nds.length) (hs : spot.length ≤ 100) (hp1 : p1.2.2.length ≤ 100) (hp2 : p2.2.2.length ≤ 100) (hf : pfind nds 0 ns = none) {k : Nat} {d : Nd} (hf2 : pfind nds 0 ns.dropLast = some k) (hd : nds[k]? = some d) (hw : w ≠ 0) (h4 : ns.length < 4) (ho : lopen d.md = true) (hwr : (d.md / 128 % 2 == 1) = false) : PuG C "_law_model" (n + 4) [nodesV nds, .list (spot.map fS), .int (w : Int), .list [partV p1, partV p2], .int (m : Int)] (.tup [nodesV nds, .list (spot.map fS)]) := by
  have hl2 : ns.length ≤ 300 := by rw [ens]; unfold stepN; simp; omega
  have hkl := (List.getElem?_eq_some_iff.mp hd).1
  exact model_pre g ens hz h0 hs hp1 hp2 (show pfindI nds ns = -1 by unfold pfindI; rw [hf]) fun cd q s6 s7 s8 => ⟨_, (ExW.cons (Ex1W.ifF (ItW.to (ItW.cmp (EvW.name 2 rfl rfl rfl rfl) EvW.int Op2.eqI rfl) (by rw [beq_eq_false_iff_ne]; omega)) ExW.nil) (ExW.cons (Ex1W.ifF (ItW.to (ItW.cmp (EvW.name 9 rfl rfl rfl rfl) EvW.int Op2.geI rfl) (by decide)) ExW.nil) (ExW.cons (Ex1W.assign 9 (EvW.callG 15 rfl (EvsW.cons (EvW.name 0 rfl rfl rfl rfl) (EvsW.cons (EvW.to (EvW.slInit (EvW.name 5 rfl rfl rfl rfl) (EvW.unop EvW.int Op1.negI) (by simp; omega)) (show V.list ((ns.map fS).dropLast) = V.list (ns.dropLast.map fS) by rw [List.map_dropLast])) EvsW.nil)) (PuG.to (PuG.le (lawfind_pu (n := n) g h0 (by omega)) (by omega)) (show V.int (pfindI nds ns.dropLast) = V.int (k : Int) by unfold pfindI; rw [hf2]))) rfl (.inl rfl)) (ExW.cons (Ex1W.ifF (ItW.boolop (ItsW.goAnd (ItW.to (ItW.cmp (EvW.name 9 rfl rfl rfl rfl) EvW.int Op2.geI rfl) (by rw [decide_eq_true_eq]; omega)) (ItsW.goAnd (ItW.to (ItW.cmp (EvW.callN 14 5 g rfl rfl rfl (EvsW.cons (EvW.name 5 rfl rfl rfl rfl) EvsW.nil) (Pu.to (Pu.lenL (by rw [List.length_map]; omega)) (by rw [List.length_map])) (.inl ⟨_, rfl⟩)) EvW.int Op2.ltI rfl) (by rw [decide_eq_true_eq]; omega)) (ItsW.goAnd (ItW.to (ItW.plain (fun _ _ => rfl) (EvW.callG 16 rfl (EvsW.cons (EvW.sub (EvW.sub (EvW.name 0 rfl rfl rfl rfl) (EvW.name 9 rfl rfl rfl rfl) (Op2.idxL (by omega) (nodes_at hd) (by omega))) EvW.int (Op2.idxT (j := 2) rfl rfl ⟨by decide, by decide⟩)) EvsW.nil) (lawopen_pu g)) Tr.bool) ho) (ItsW.stopAnd (ItW.to (ItW.cmp (EvW.binop (EvW.binop (EvW.sub (EvW.sub (EvW.name 0 rfl rfl rfl rfl) (EvW.name 9 rfl rfl rfl rfl) (Op2.idxL (by omega) (nodes_at hd) (by omega))) EvW.int (Op2.idxT (j := 2) rfl rfl ⟨by decide, by decide⟩)) EvW.int (Op2.divI (by decide) (by decide))) EvW.int (Op2.modI (by decide))) EvW.int Op2.eqI rfl) (by rw [show ((((d.md : Nat) : Int).fdiv 128).fmod 2 == 1) = _ from fdm d.md 128 2 1]; exact hwr))))))) ExW.nil) (ExW.ret (Ex1W.ret (EvW.tuple (EvsW.cons (EvW.name 0 rfl rfl rfl rfl) (EvsW.cons (EvW.name 1 rfl rfl rfl rfl) EvsW.nil)) (by first | (simp; done) | decide))))))))⟩
theorem model_9 (g : Gd C) {nds : List Nd} {spot : List (List Nat)} {w m : Nat} {p1 p2 : List Nat × Nat × List (List Nat)} {ns : List (List Nat)} (ens : ns = stepN (stepN spot p1) p2) (hz : nds.length ≤ 1000) (h0 : 0 < nds.length) (hs : spot.length ≤ 100) (hp1 : p1.2.2.length ≤ 100) (hp2 : p2.2.2.length ≤ 100) (hf : pfind nds 0 ns = none) (hf2 : pfind nds 0 ns.dropLast = none) (hw : w ≠ 0) : PuG C "_law_model" (n + 4) [nodesV nds, .list (spot.map fS), .int (w : Int), .list [partV p1, partV p2], .int (m : Int)] (.tup [nodesV nds, .list (spot.map fS)]) := by
  have hl2 : ns.length ≤ 300 := by rw [ens]; unfold stepN; simp; omega
  exact model_pre g ens hz h0 hs hp1 hp2 (show pfindI nds ns = -1 by unfold pfindI; rw [hf]) fun cd q s6 s7 s8 => ⟨_, (ExW.cons (Ex1W.ifF (ItW.to (ItW.cmp (EvW.name 2 rfl rfl rfl rfl) EvW.int Op2.eqI rfl) (by rw [beq_eq_false_iff_ne]; omega)) ExW.nil) (ExW.cons (Ex1W.ifF (ItW.to (ItW.cmp (EvW.name 9 rfl rfl rfl rfl) EvW.int Op2.geI rfl) (by decide)) ExW.nil) (ExW.cons (Ex1W.assign 9 (EvW.callG 15 rfl (EvsW.cons (EvW.name 0 rfl rfl rfl rfl) (EvsW.cons (EvW.to (EvW.slInit (EvW.name 5 rfl rfl rfl rfl) (EvW.unop EvW.int Op1.negI) (by simp; omega)) (show V.list ((ns.map fS).dropLast) = V.list (ns.dropLast.map fS) by rw [List.map_dropLast])) EvsW.nil)) (PuG.to (PuG.le (lawfind_pu (n := n) g h0 (by omega)) (by omega)) (show V.int (pfindI nds ns.dropLast) = V.int (-1) by unfold pfindI; rw [hf2]))) rfl (.inl rfl)) (ExW.cons (Ex1W.ifF (ItW.boolop (ItsW.stopAnd (ItW.to (ItW.cmp (EvW.name 9 rfl rfl rfl rfl) EvW.int Op2.geI rfl) (by decide)))) ExW.nil) (ExW.ret (Ex1W.ret (EvW.tuple (EvsW.cons (EvW.name 0 rfl rfl rfl rfl) (EvsW.cons (EvW.name 1 rfl rfl rfl rfl) EvsW.nil)) (by first | (simp; done) | decide))))))))⟩
end
end Mine
end
section
set_option tactic.hygienic false
open PySem PySem.Calls PySem.W PyProof.Rows
namespace Mine
section
variable {C : Cx} {n : Nat}
noncomputable abbrev Pr := List Nat × Option (List Nat)
noncomputable def rwV (ps : List Pr) : V := .list (ps.map PV)
noncomputable def rowsV (rs : List (List Pr)) : V := .list (rs.map rwV)
noncomputable def valV : Option (List Nat) → V
  | none => .none
  | some v => .str (S v)
theorem PV_eq (p : Pr) : PV p = .tup [.str (S p.1), valV p.2] := by
  obtain ⟨k, v⟩ := p
  cases v <;> rfl
theorem last_at {init : List (List Pr)} {ps : List Pr} : ((init ++ [ps]).map rwV)[((-1 : Int) + (((init ++ [ps]).map rwV).length : Int)).toNat]? = some (rwV ps) := by
  rw [List.length_map, List.length_append]
  simp only [List.length_cons, List.length_nil]
  rw [show ((-1 : Int) + ((init.length + (0 + 1) : Nat) : Int)).toNat = init.length from by omega, List.getElem?_map]
  simp
theorem getD_some {l : List Nat} {i : Nat} (h : i < l.length) : l[i]? = some (l.getD i 0) := by
  rw [List.getD_eq_getElem?_getD, List.getElem?_eq_getElem h]; rfl
/-- the rows that a way of names is told by -/
inductive Rw : List Pr → List (List Nat) → List (List Pr) → Prop
  | done {ps} : Rw ps [] []
  | shut0 {m : List Nat} {kids : List Pr} {x r} : 3 < m.length → ((m, none) :: kids).length ≤ 1000 → m.getD 0 0 ≠ 100 → Rw ((m, none) :: kids) (x :: r) []
  | shut3 {m : List Nat} {kids : List Pr} {x r} : 3 < m.length → ((m, none) :: kids).length ≤ 1000 → m.getD 0 0 = 100 → m.getD 3 0 ∉ [120, 115] → Rw ((m, none) :: kids) (x :: r) []
  | miss {m : List Nat} {kids : List Pr} {x r} : 3 < m.length → m.getD 0 0 = 100 → m.getD 3 0 ∈ [120, 115] → ((m, none) :: kids).length ≤ 1000 → ((m, none) :: kids).filter (fun p : Pr => p.1 == x) = [] → Rw ((m, none) :: kids) (x :: r) []
  | down {m : List Nat} {kids : List Pr} {x r y t qs k out} : 3 < m.length → m.getD 0 0 = 100 → m.getD 3 0 ∈ [120, 115] → ((m, none) :: kids).length ≤ 1000 → ((m, none) :: kids).filter (fun p : Pr => p.1 == x) = [(y, some t)] → Tx t qs k → qs ≠ [] → t.length ≤ 1000000 → qs.length ≤ 1000 → Rw qs r out → Rw ((m, none) :: kids) (x :: r) (qs :: out)
noncomputable def N57 : List (Str × NameKind) := [("tree", .local), ("names", .local), ("rows", .local), ("name", .cell), ("first", .local), ("inner", .local), ("split_header_words", .globalImplicit)]
noncomputable def loop57 : Stmt := nth (dr 57).body 1
noncomputable def NC57 : List (Str × NameKind) := [(".0", .local), ("key", .local), ("value", .local), ("name", .cell)]
noncomputable def NS57 : List (Str × NameKind) := [(".0", .local), ("key", .local), ("value", .local), ("name", .free)]
theorem comp57 {cd : Value} {q : Str} {scope : Scope} (hn : scope.names = NS57) (hk : scope.kind = .function) {v0 v1 v2 vx : V} {s4 s5 : Slot} : CompOk (fs N57 q cd) scope NC57 [.val v0, .val v1, .val v2, .val vx, s4, s5, .unset] [.unset, .unset, .unset, .val vx] := by
  refine ⟨hk, ?_, ?_, ?_, ?_, ?_, ?_⟩
  · rw [hn]; decide
  · rw [hn]; decide
  · rw [hn]; rfl
  · rw [hn]
    intro j x h
    match j with
    | 0 => cases h
    | 1 => cases h
    | 2 => cases h
    | 3 => cases h; exact ⟨3, .cell, vx, rfl, .inl rfl, rfl, rfl⟩
    | j + 4 => cases h
  · rw [hn]
    intro j x k h hf sl hs
    match j with
    | 0 => cases hs; rfl
    | 1 => cases hs; rfl
    | 2 => cases hs; rfl
    | 3 => cases h; exact absurd rfl hf
    | j + 4 => cases hs
  · rw [hn]
    intro j sl hs
    match j with
    | 0 => exact .inl ⟨_, rfl⟩
    | 1 => exact .inl ⟨_, rfl⟩
    | 2 => exact .inl ⟨_, rfl⟩
    | 3 => exact .inl ⟨_, rfl⟩
    | j + 4 => cases hs
noncomputable def tgt57 : PySem.Expr := match nth (sBody loop57) 1 with
  | .Assign _ (.ListComp e [⟨t, _, i, _⟩] _ _) _ => t
  | _ => .Name "" ⟨0, 0, 0, 0⟩
noncomputable def ifs57 : List PySem.Expr := match nth (sBody loop57) 1 with
  | .Assign _ (.ListComp e [⟨t, _, i, _⟩] _ _) _ => i
  | _ => []
noncomputable def elt57 : PySem.Expr := match nth (sBody loop57) 1 with
  | .Assign _ (.ListComp e [⟨t, _, i, _⟩] _ _) _ => e
  | _ => .Name "" ⟨0, 0, 0, 0⟩
theorem cp57 {cd : Value} {q : Str} (x : List Nat) : ∀ (ps : List Pr) (s1 s2 : Slot),
    ∃ s1' s2', Cp C n (compFs (fs N57 q cd) NC57) tgt57 ifs57 elt57 (ps.map PV) [.unset, s1, s2, .val (.str (S x))] ((ps.filter (fun p : Pr => p.1 == x)).map fun p => valV p.2) [.unset, s1', s2', .val (.str (S x))]
  | [], s1, s2 => ⟨s1, s2, CpW.nil⟩
  | (k, v) :: ps, s1, s2 => by
    obtain ⟨s1', s2', ih⟩ := cp57 (cd := cd) (q := q) x ps (.val (.str (S k))) (.val (valV v))
    have tg : AsW C (compFs (fs N57 q cd) NC57) tgt57 (.tup [.str (S k), valV v]) [.unset, s1, s2, .val (.str (S x))] [.unset, (.val (.str (S k))), (.val (valV v)), .val (.str (S x))] := (AsW.tuple (AssW.cons (AsW.name 1 rfl (.inl rfl)) (AssW.cons (AsW.name 2 rfl (.inl rfl)) AssW.nil)))
    rw [← PV_eq (k, v)] at tg
    refine ⟨s1', s2', ?_⟩
    rw [List.map_cons, List.filter_cons]
    cases h : (k == x) with
    | false =>
      simp only [h, Bool.false_eq_true, if_false]
      exact CpW.skip tg (CtW.one (ItW.to (ItW.cmp (EvW.name 1 rfl rfl rfl rfl) (EvW.name 3 rfl rfl rfl rfl) Op2.eqT rfl) h)) ih
    | true =>
      simp only [h, if_true, List.map_cons]
      exact CpW.take tg (CtW.one (ItW.to (ItW.cmp (EvW.name 1 rfl rfl rfl rfl) (EvW.name 3 rfl rfl rfl rfl) Op2.eqT rfl) h)) (EvW.name 2 rfl rfl rfl rfl) ih
theorem rows_a (g : Gd C) {q : Str} {cd : Value} {tr vn : V} {init : List (List Pr)} {m : List Nat} {kids : List Pr} {x : List Nat} {s4 s5 : Slot} (hi : init.length ≤ 100) (h3 : 3 < m.length) (hkl : ((m, none) :: kids).length ≤ 1000) (h0 : m.getD 0 0 ≠ 100) : ∃ σ', ExW C (n + 4) (fs N57 q cd) (sBody loop57) [.val tr, .val vn, .val (rowsV (init ++ [(m, none) :: kids])), .val (.str (S x)), s4, s5, .unset] (.ret (rowsV (init ++ [(m, none) :: kids]))) σ' := by
  obtain ⟨s1', s2', hcp⟩ := cp57 (C := C) (n := n + 4) (cd := cd) (q := q) x ((m, none) :: kids) .unset .unset
  exact ⟨_, (ExW.cons (Ex1W.assign 4 (EvW.sub (EvW.sub (EvW.sub (EvW.name 2 rfl rfl rfl rfl) (EvW.unop EvW.int Op1.negI) (Op2.idxLn (by decide) (by simp; omega) last_at (by decide))) EvW.int (Op2.idxL (by decide) (v := PV (m, none)) rfl (by decide))) EvW.int (Op2.idxT (j := 0) (l := [.str (S m), .none]) rfl rfl ⟨by decide, by decide⟩)) rfl (.inl rfl)) (ExW.cons (Ex1W.assignComp 5 rfl rfl rfl (EvW.sub (EvW.name 2 rfl rfl rfl rfl) (EvW.unop EvW.int Op1.negI) (Op2.idxLn (by decide) (by simp; omega) last_at (by decide))) (PyIt.list (l := ((m, none) :: kids).map PV)) (comp57 rfl rfl) hcp (by simp at hkl ⊢; omega)) (ExW.ret (Ex1W.ifT (ItW.boolop (ItsW.stopOr (ItW.to (ItW.cmp (EvW.sub (EvW.name 4 rfl rfl rfl rfl) EvW.int (Op2.idxS (c := m.getD 0 0) (by decide) (show m[(0 : Int).toNat]? = _ from getD_some (by omega)) (by decide))) (EvW.strS [100] (by decide +kernel)) Op2.neT rfl) (by rw [bne_iff_ne]; intro e; exact h0 (by simpa using e))))) (ExW.ret (Ex1W.ret (EvW.name 2 rfl rfl rfl rfl)))))))⟩
theorem rows_b (g : Gd C) {q : Str} {cd : Value} {tr vn : V} {init : List (List Pr)} {m : List Nat} {kids : List Pr} {x : List Nat} {s4 s5 : Slot} (hi : init.length ≤ 100) (h3 : 3 < m.length) (hkl : ((m, none) :: kids).length ≤ 1000) (h0 : m.getD 0 0 = 100) (hx : m.getD 3 0 ∉ [120, 115]) : ∃ σ', ExW C (n + 4) (fs N57 q cd) (sBody loop57) [.val tr, .val vn, .val (rowsV (init ++ [(m, none) :: kids])), .val (.str (S x)), s4, s5, .unset] (.ret (rowsV (init ++ [(m, none) :: kids]))) σ' := by
  obtain ⟨s1', s2', hcp⟩ := cp57 (C := C) (n := n + 4) (cd := cd) (q := q) x ((m, none) :: kids) .unset .unset
  exact ⟨_, (ExW.cons (Ex1W.assign 4 (EvW.sub (EvW.sub (EvW.sub (EvW.name 2 rfl rfl rfl rfl) (EvW.unop EvW.int Op1.negI) (Op2.idxLn (by decide) (by simp; omega) last_at (by decide))) EvW.int (Op2.idxL (by decide) (v := PV (m, none)) rfl (by decide))) EvW.int (Op2.idxT (j := 0) (l := [.str (S m), .none]) rfl rfl ⟨by decide, by decide⟩)) rfl (.inl rfl)) (ExW.cons (Ex1W.assignComp 5 rfl rfl rfl (EvW.sub (EvW.name 2 rfl rfl rfl rfl) (EvW.unop EvW.int Op1.negI) (Op2.idxLn (by decide) (by simp; omega) last_at (by decide))) (PyIt.list (l := ((m, none) :: kids).map PV)) (comp57 rfl rfl) hcp (by simp at hkl ⊢; omega)) (ExW.ret (Ex1W.ifT (ItW.boolop (ItsW.goOr (ItW.to (ItW.cmp (EvW.sub (EvW.name 4 rfl rfl rfl rfl) EvW.int (Op2.idxS (c := m.getD 0 0) (by decide) (show m[(0 : Int).toNat]? = _ from getD_some (by omega)) (by decide))) (EvW.strS [100] (by decide +kernel)) Op2.neT rfl) (by rw [h0]; rfl)) (ItsW.stopOr (ItW.to (ItW.cmp (EvW.sub (EvW.name 4 rfl rfl rfl rfl) EvW.int (Op2.idxS (c := m.getD 3 0) (by decide) (show m[(3 : Int).toNat]? = _ from getD_some h3) (by decide))) (EvW.strS [120, 115] (by decide +kernel)) Op2.notinT rfl) (by rw [decide_eq_false hx]; rfl))))) (ExW.ret (Ex1W.ret (EvW.name 2 rfl rfl rfl rfl)))))))⟩
theorem rows_c (g : Gd C) {q : Str} {cd : Value} {tr vn : V} {init : List (List Pr)} {m : List Nat} {kids : List Pr} {x : List Nat} {s4 s5 : Slot} (hi : init.length ≤ 100) (h3 : 3 < m.length) (hkl : ((m, none) :: kids).length ≤ 1000) (h0 : m.getD 0 0 = 100) (hx : m.getD 3 0 ∈ [120, 115]) (hf : ((m, none) :: kids).filter (fun p : Pr => p.1 == x) = []) : ∃ σ', ExW C (n + 4) (fs N57 q cd) (sBody loop57) [.val tr, .val vn, .val (rowsV (init ++ [(m, none) :: kids])), .val (.str (S x)), s4, s5, .unset] (.ret (rowsV (init ++ [(m, none) :: kids]))) σ' := by
  obtain ⟨s1', s2', hcp⟩ := cp57 (C := C) (n := n + 4) (cd := cd) (q := q) x ((m, none) :: kids) .unset .unset
  rw [hf] at hcp
  exact ⟨_, (ExW.cons (Ex1W.assign 4 (EvW.sub (EvW.sub (EvW.sub (EvW.name 2 rfl rfl rfl rfl) (EvW.unop EvW.int Op1.negI) (Op2.idxLn (by decide) (by simp; omega) last_at (by decide))) EvW.int (Op2.idxL (by decide) (v := PV (m, none)) rfl (by decide))) EvW.int (Op2.idxT (j := 0) (l := [.str (S m), .none]) rfl rfl ⟨by decide, by decide⟩)) rfl (.inl rfl)) (ExW.cons (Ex1W.assignComp 5 rfl rfl rfl (EvW.sub (EvW.name 2 rfl rfl rfl rfl) (EvW.unop EvW.int Op1.negI) (Op2.idxLn (by decide) (by simp; omega) last_at (by decide))) (PyIt.list (l := ((m, none) :: kids).map PV)) (comp57 rfl rfl) hcp (by simp at hkl ⊢; omega)) (ExW.ret (Ex1W.ifT (ItW.boolop (ItsW.goOr (ItW.to (ItW.cmp (EvW.sub (EvW.name 4 rfl rfl rfl rfl) EvW.int (Op2.idxS (c := m.getD 0 0) (by decide) (show m[(0 : Int).toNat]? = _ from getD_some (by omega)) (by decide))) (EvW.strS [100] (by decide +kernel)) Op2.neT rfl) (by rw [h0]; rfl)) (ItsW.goOr (ItW.to (ItW.cmp (EvW.sub (EvW.name 4 rfl rfl rfl rfl) EvW.int (Op2.idxS (c := m.getD 3 0) (by decide) (show m[(3 : Int).toNat]? = _ from getD_some h3) (by decide))) (EvW.strS [120, 115] (by decide +kernel)) Op2.notinT rfl) (by rw [decide_eq_true hx]; rfl)) (ItsW.stopOr (ItW.to (ItW.cmp (EvW.name 5 rfl rfl rfl rfl) (EvW.list EvsW.nil (by first | (simp; done) | decide)) (Op2.eqNil (by first | decide | omega | (simp only [List.length_append, List.length_cons, List.length_nil, List.length_map, List.length_replicate, List.length_take, List.length_drop]; omega))) rfl) (by rfl)))))) (ExW.ret (Ex1W.ret (EvW.name 2 rfl rfl rfl rfl)))))))⟩
theorem rows_d (g : Gd C) {q : Str} {cd : Value} {tr vn : V} {init : List (List Pr)} {m : List Nat} {kids : List Pr} {x : List Nat} {s4 s5 : Slot} (hi : init.length ≤ 100) (h3 : 3 < m.length) (hkl : ((m, none) :: kids).length ≤ 1000) {y t : List Nat} {qs : List Pr} {k : Nat} (h0 : m.getD 0 0 = 100) (hx : m.getD 3 0 ∈ [120, 115]) (hf : ((m, none) :: kids).filter (fun p : Pr => p.1 == x) = [(y, some t)]) (ht : Tx t qs k) (hq : qs ≠ []) (htz : t.length ≤ 1000000) (hqz : qs.length ≤ 1000) :
    ∃ s4' s5', ExW C (n + 4) (fs N57 q cd) (sBody loop57) [.val tr, .val vn, .val (rowsV (init ++ [(m, none) :: kids])), .val (.str (S x)), s4, s5, .unset] .next [.val tr, .val vn, .val (rowsV (init ++ [(m, none) :: kids] ++ [qs])), .val (.str (S x)), s4', s5', .unset] := by
  obtain ⟨s1', s2', hcp⟩ := cp57 (C := C) (n := n + 4) (cd := cd) (q := q) x ((m, none) :: kids) .unset .unset
  rw [hf] at hcp
  exact ⟨.val (.str (S m)), .val (.list [.str (S t)]), (ExW.cons (Ex1W.assign 4 (EvW.sub (EvW.sub (EvW.sub (EvW.name 2 rfl rfl rfl rfl) (EvW.unop EvW.int Op1.negI) (Op2.idxLn (by decide) (by simp; omega) last_at (by decide))) EvW.int (Op2.idxL (by decide) (v := PV (m, none)) rfl (by decide))) EvW.int (Op2.idxT (j := 0) (l := [.str (S m), .none]) rfl rfl ⟨by decide, by decide⟩)) rfl (.inl rfl)) (ExW.cons (Ex1W.assignComp 5 rfl rfl rfl (EvW.sub (EvW.name 2 rfl rfl rfl rfl) (EvW.unop EvW.int Op1.negI) (Op2.idxLn (by decide) (by simp; omega) last_at (by decide))) (PyIt.list (l := ((m, none) :: kids).map PV)) (comp57 rfl rfl) hcp (by simp at hkl ⊢; omega)) (ExW.cons (Ex1W.ifF (ItW.boolop (ItsW.goOr (ItW.to (ItW.cmp (EvW.sub (EvW.name 4 rfl rfl rfl rfl) EvW.int (Op2.idxS (c := m.getD 0 0) (by decide) (show m[(0 : Int).toNat]? = _ from getD_some (by omega)) (by decide))) (EvW.strS [100] (by decide +kernel)) Op2.neT rfl) (by rw [h0]; rfl)) (ItsW.goOr (ItW.to (ItW.cmp (EvW.sub (EvW.name 4 rfl rfl rfl rfl) EvW.int (Op2.idxS (c := m.getD 3 0) (by decide) (show m[(3 : Int).toNat]? = _ from getD_some h3) (by decide))) (EvW.strS [120, 115] (by decide +kernel)) Op2.notinT rfl) (by rw [decide_eq_true hx]; rfl)) (ItsW.goOr (ItW.to (ItW.cmp (EvW.name 5 rfl rfl rfl rfl) (EvW.list EvsW.nil (by first | (simp; done) | decide)) (Op2.eqNil (by first | decide | omega | (simp only [List.length_append, List.length_cons, List.length_nil, List.length_map, List.length_replicate, List.length_take, List.length_drop]; omega))) rfl) (by rfl)) ItsW.nilOr)))) ExW.nil) (ExW.cons (Ex1W.assign 2 (EvW.to (EvW.binop (EvW.name 2 rfl rfl rfl rfl) (EvW.callG 6 rfl (EvsW.cons (EvW.name 5 rfl rfl rfl rfl) EvsW.nil) (split_header_pu g ht hq htz hqz)) (Op2.addL (by simp; omega))) (show V.list ((init ++ [(m, none) :: kids]).map rwV ++ [rwV qs]) = rowsV (init ++ [(m, none) :: kids] ++ [qs]) by unfold rowsV; simp)) rfl (.inl rfl)) ExW.nil))))⟩
theorem rows_loop (g : Gd C) {q : Str} {cd : Value} {tr vn : V} {ps : List Pr} {names : List (List Nat)} {out : List (List Pr)} (x : Rw ps names out) : ∀ {init : List (List Pr)} {s3 s4 s5 : Slot}, init.length + names.length ≤ 100 →
    (∃ σ', Lp C (n + 4) (fs N57 q cd) (sTarget loop57) (sBody loop57) (names.map fS) [.val tr, .val vn, .val (rowsV (init ++ [ps])), s3, s4, s5, .unset] (.ret (rowsV (init ++ [ps] ++ out))) σ') ∨
    (∃ s3' s4' s5', Lp C (n + 4) (fs N57 q cd) (sTarget loop57) (sBody loop57) (names.map fS) [.val tr, .val vn, .val (rowsV (init ++ [ps])), s3, s4, s5, .unset] .next [.val tr, .val vn, .val (rowsV (init ++ [ps] ++ out)), s3', s4', s5', .unset]) := by
  have tg : ∀ {rs : List (List Pr)} {x : List Nat} {s3 s4 s5 : Slot}, AsW C (fs N57 q cd) (sTarget loop57) (fS x) [.val tr, .val vn, .val (rowsV rs), s3, s4, s5, .unset] [.val tr, .val vn, .val (rowsV rs), .val (.str (S x)), s4, s5, .unset] := AsW.name 3 rfl (.inr ⟨rfl, rfl⟩)
  induction x with
  | done => intro init s3 s4 s5 _; exact .inr ⟨s3, s4, s5, by rw [List.append_nil]; exact LpW.nil⟩
  | @shut0 m kids x r h3 hk h0 =>
    intro init s3 s4 s5 hi
    simp only [List.length_cons] at hi
    obtain ⟨σ', h⟩ := rows_a (n := n) g (q := q) (cd := cd) (tr := tr) (vn := vn) (x := x) (init := init) (s4 := s4) (s5 := s5) (by omega) h3 hk h0
    exact .inl ⟨σ', by rw [List.append_nil]; exact LpW.ret tg h⟩
  | @shut3 m kids x r h3 hk h0 hx =>
    intro init s3 s4 s5 hi
    simp only [List.length_cons] at hi
    obtain ⟨σ', h⟩ := rows_b (n := n) g (q := q) (cd := cd) (tr := tr) (vn := vn) (x := x) (init := init) (s4 := s4) (s5 := s5) (by omega) h3 hk h0 hx
    exact .inl ⟨σ', by rw [List.append_nil]; exact LpW.ret tg h⟩
  | @miss m kids x r h3 h0 hx hk hf =>
    intro init s3 s4 s5 hi
    simp only [List.length_cons] at hi
    obtain ⟨σ', h⟩ := rows_c (n := n) g (q := q) (cd := cd) (tr := tr) (vn := vn) (init := init) (s4 := s4) (s5 := s5) (by omega) h3 hk h0 hx hf
    exact .inl ⟨σ', by rw [List.append_nil]; exact LpW.ret tg h⟩
  | @down m kids x r y t qs k out h3 h0 hx hk hf ht hq htz hqz _ ih =>
    intro init s3 s4 s5 hi
    simp only [List.length_cons] at hi
    obtain ⟨s4', s5', h⟩ := rows_d (n := n) g (q := q) (cd := cd) (tr := tr) (vn := vn) (init := init) (s4 := s4) (s5 := s5) (by omega) h3 hk h0 hx hf ht hq htz hqz
    have e : init ++ [(m, none) :: kids] ++ qs :: out = init ++ [(m, none) :: kids] ++ [qs] ++ out := by simp
    rw [e]
    rcases ih (init := init ++ [(m, none) :: kids]) (s3 := .val (.str (S x))) (s4 := s4') (s5 := s5') (by simp; omega) with ⟨σ', h'⟩ | ⟨a, b, c, h'⟩
    · exact .inl ⟨σ', LpW.next tg h h'⟩
    · exact .inr ⟨a, b, c, LpW.next tg h h'⟩
theorem lawrows_pu (g : Gd C) {tree : List Nat} {names : List (List Nat)} {ps : List Pr} {out : List (List Pr)} {k : Nat} (ht : Tx (rpl [61, 34, 100] [32, 61, 32, 34, 92, 100] tree) ps k) (hps : ps ≠ []) (hz : tree.length ≤ 900000) (htz : (rpl [61, 34, 100] [32, 61, 32, 34, 92, 100] tree).length ≤ 1000000) (hpz : ps.length ≤ 1000) (x : Rw ps names out) (hn : names.length ≤ 100) :
    PuG C "_law_rows" (n + 5) [.str (S tree), .list (names.map fS)] (rowsV (ps :: out)) := by
  show PuG C (dr 57).name _ _ _
  refine PuGW.of_def (d := dr 57) 2 (g.df 57) (by decide +kernel) (bind2 57 fun _ _ _ _ _ => rfl) (N := N57) rfl fun cd q => ?_
  rcases rows_loop (n := n) g (q := q) (cd := cd) (tr := .str (S tree)) (vn := .list (names.map fS)) x (init := []) (s3 := .unset) (s4 := .unset) (s5 := .unset) (by simpa using hn) with ⟨σ', h⟩ | ⟨a, b, c, h⟩
  · exact ⟨_, (ExW.cons (Ex1W.assign 2 (EvW.callG 6 rfl (EvsW.cons (EvW.list (EvsW.cons (EvW.replaceY g [61, 34, 100] (by decide +kernel) (EvW.name 0 rfl rfl rfl rfl) (EvFW.strS [32, 61, 32, 34, 92, 100] (by decide +kernel)) (by simp; omega)) EvsW.nil) (by first | (simp; done) | decide)) EvsW.nil) (split_header_pu g ht hps htz hpz)) rfl (.inl rfl)) (ExW.ret (Ex1W.for (EvW.name 1 rfl rfl rfl rfl) PyIt.list h After.ret)))⟩
  · exact ⟨_, (ExW.cons (Ex1W.assign 2 (EvW.callG 6 rfl (EvsW.cons (EvW.list (EvsW.cons (EvW.replaceY g [61, 34, 100] (by decide +kernel) (EvW.name 0 rfl rfl rfl rfl) (EvFW.strS [32, 61, 32, 34, 92, 100] (by decide +kernel)) (by simp; omega)) EvsW.nil) (by first | (simp; done) | decide)) EvsW.nil) (split_header_pu g ht hps htz hpz)) rfl (.inl rfl)) (ExW.cons (Ex1W.for (EvW.name 1 rfl rfl rfl rfl) PyIt.list h (AfterW.next ExW.nil)) (ExW.ret (Ex1W.ret (EvW.name 2 rfl rfl rfl rfl)))))⟩
end
end Mine
end
section
set_option tactic.hygienic false
open PySem PySem.Calls PySem.W PyProof.Rows
namespace Mine
section
variable {C : Cx} {n : Nat}
noncomputable def N58 : List (Str × NameKind) := [("tree", .local), ("here", .local), ("way", .local), ("parts", .local), ("mode", .local), ("target", .local), ("names", .cell), ("rows", .local), ("first", .local), ("free", .local), ("words", .local), ("text", .cell), ("k", .cell), ("normpath", .globalImplicit), ("join", .globalImplicit), ("_law_names", .globalImplicit), ("_law_rows", .globalImplicit), ("len", .globalImplicit), ("filemode", .globalImplicit), ("S_IMODE", .globalImplicit), ("join_header_words", .globalImplicit), ("range", .globalImplicit)]
noncomputable def loop58 : Stmt := nth (dr 58).body 8
noncomputable def freeE : PySem.Expr := match nth (dr 58).body 4 with
  | .Assign _ e _ => e
  | _ => .Name "" ⟨0, 0, 0, 0⟩
noncomputable def NC58 : List (Str × NameKind) := [(".0", .local), ("key", .local), ("value", .local), ("k", .cell), ("names", .cell), ("text", .cell)]
noncomputable def NS58 : List (Str × NameKind) := [(".0", .local), ("key", .local), ("value", .local), ("k", .free), ("names", .free), ("text", .free)]
theorem comp58 {cd : Value} {q : Str} {scope : Scope} (hn : scope.names = NS58) (hk : scope.kind = .function) {v0 v1 v2 v3 v4 v5 v7 v8 v9 vn vt vk : V} {s10 : Slot} : CompOk (fs N58 q cd) scope NC58 [.val v0, .val v1, .val v2, .val v3, .val v4, .val v5, .val vn, .val v7, .val v8, .val v9, s10, .val vt, .val vk, .unset, .unset, .unset, .unset, .unset, .unset, .unset, .unset, .unset] [.unset, .unset, .unset, .val vk, .val vn, .val vt] := by
  refine ⟨hk, ?_, ?_, ?_, ?_, ?_, ?_⟩
  · rw [hn]; decide
  · rw [hn]; decide
  · rw [hn]; rfl
  · rw [hn]
    intro j x h
    match j with
    | 0 => cases h
    | 1 => cases h
    | 2 => cases h
    | 3 => cases h; exact ⟨12, .cell, vk, rfl, .inl rfl, rfl, rfl⟩
    | 4 => cases h; exact ⟨6, .cell, vn, rfl, .inl rfl, rfl, rfl⟩
    | 5 => cases h; exact ⟨11, .cell, vt, rfl, .inl rfl, rfl, rfl⟩
    | j + 6 => cases h
  · rw [hn]
    intro j x k h hf sl hs
    match j with
    | 0 => cases hs; rfl
    | 1 => cases hs; rfl
    | 2 => cases hs; rfl
    | 3 => cases h; exact absurd rfl hf
    | 4 => cases h; exact absurd rfl hf
    | 5 => cases h; exact absurd rfl hf
    | j + 6 => cases hs
  · rw [hn]
    intro j sl hs
    match j with
    | 0 => exact .inl ⟨_, rfl⟩
    | 1 => exact .inl ⟨_, rfl⟩
    | 2 => exact .inl ⟨_, rfl⟩
    | 3 => exact .inl ⟨_, rfl⟩
    | 4 => exact .inl ⟨_, rfl⟩
    | 5 => exact .inl ⟨_, rfl⟩
    | j + 6 => cases hs
noncomputable def tgt58 : PySem.Expr := match nth (sBody loop58) 0 with
  | .Assign _ (.Call _ [.List [.List [.ListComp e [⟨t, _, i, _⟩] _ _] _] _] _ _) _ => t
  | .Assign _ (.Call _ [.List [.ListComp e [⟨t, _, i, _⟩] _ _] _] _ _) _ => t
  | _ => .Name "" ⟨0, 0, 0, 0⟩
noncomputable def ifs58 : List PySem.Expr := match nth (sBody loop58) 0 with
  | .Assign _ (.Call _ [.List [.List [.ListComp e [⟨t, _, i, _⟩] _ _] _] _] _ _) _ => i
  | .Assign _ (.Call _ [.List [.ListComp e [⟨t, _, i, _⟩] _ _] _] _ _) _ => i
  | _ => []
noncomputable def elt58 : PySem.Expr := match nth (sBody loop58) 0 with
  | .Assign _ (.Call _ [.List [.List [.ListComp e [⟨t, _, i, _⟩] _ _] _] _] _ _) _ => e
  | .Assign _ (.Call _ [.List [.ListComp e [⟨t, _, i, _⟩] _ _] _] _ _) _ => e
  | _ => .Name "" ⟨0, 0, 0, 0⟩
noncomputable def upd1 (x t : List Nat) (p : Pr) : Pr := (p.1, if p.1 == x then some t else p.2)
theorem cp58 {cd : Value} {q : Str} {ns : List (List Nat)} {k : Nat} {x : List Nat} (t : List Nat) (hkz : k ≤ 1000) (hx : (ns.map fS)[((k : Nat) : Int).toNat]? = some (.str (S x))) : ∀ (ps : List Pr) (s1 s2 : Slot),
    ∃ s1' s2', Cp C n (compFs (fs N58 q cd) NC58) tgt58 ifs58 elt58 (ps.map PV) [.unset, s1, s2, .val (.int ((k + 1 : Nat) : Int)), .val (.list (ns.map fS)), .val (.str (S t))] ((ps.map (upd1 x t)).map PV) [.unset, s1', s2', .val (.int ((k + 1 : Nat) : Int)), .val (.list (ns.map fS)), .val (.str (S t))]
  | [], s1, s2 => ⟨s1, s2, CpW.nil⟩
  | (a, v) :: ps, s1, s2 => by
    obtain ⟨s1', s2', ih⟩ := cp58 (cd := cd) (q := q) t hkz hx ps (.val (.str (S a))) (.val (valV v))
    have tg : AsW C (compFs (fs N58 q cd) NC58) tgt58 (.tup [.str (S a), valV v]) [.unset, s1, s2, .val (.int ((k + 1 : Nat) : Int)), .val (.list (ns.map fS)), .val (.str (S t))] [.unset, (.val (.str (S a))), (.val (valV v)), .val (.int ((k + 1 : Nat) : Int)), .val (.list (ns.map fS)), .val (.str (S t))] := (AsW.tuple (AssW.cons (AsW.name 1 rfl (.inl rfl)) (AssW.cons (AsW.name 2 rfl (.inl rfl)) AssW.nil)))
    rw [← PV_eq (a, v)] at tg
    refine ⟨s1', s2', ?_⟩
    rw [List.map_cons, List.map_cons, List.map_cons, PV_eq (upd1 x t (a, v))]
    cases h : (a == x) with
    | false =>
      have e : upd1 x t (a, v) = (a, v) := by unfold upd1; simp only [h]; rfl
      rw [e]
      exact CpW.take tg CtW.nil (EvW.tuple (EvsW.cons (EvW.name 1 rfl rfl rfl rfl) (EvsW.cons (EvW.ifF (ItW.to (ItW.cmp (EvW.name 1 rfl rfl rfl rfl) (EvW.sub (EvW.name 4 rfl rfl rfl rfl) (EvW.to (EvW.binop (EvW.name 3 rfl rfl rfl rfl) EvW.int Op2.subI) (show V.int (((k + 1 : Nat) : Int) - 1) = V.int (k : Int) by congr 1; omega)) (Op2.idxL (by omega) hx (by omega))) Op2.eqT rfl) h) (EvW.name 2 rfl rfl rfl rfl)) EvsW.nil)) (by first | (simp; done) | decide)) ih
    | true =>
      have e : upd1 x t (a, v) = (a, some t) := by unfold upd1; simp only [h]; rfl
      rw [e]
      exact CpW.take tg CtW.nil (EvW.tuple (EvsW.cons (EvW.name 1 rfl rfl rfl rfl) (EvsW.cons (EvW.ifT (ItW.to (ItW.cmp (EvW.name 1 rfl rfl rfl rfl) (EvW.sub (EvW.name 4 rfl rfl rfl rfl) (EvW.to (EvW.binop (EvW.name 3 rfl rfl rfl rfl) EvW.int Op2.subI) (show V.int (((k + 1 : Nat) : Int) - 1) = V.int (k : Int) by congr 1; omega)) (Op2.idxL (by omega) hx (by omega))) Op2.eqT rfl) h) (EvW.name 5 rfl rfl rfl rfl)) EvsW.nil)) (by first | (simp; done) | decide)) ih
noncomputable def jtx (ps : List Pr) : List Nat := interc [59, 32] (ps.map itemT)
structure JR (ps : List Pr) : Prop where
  ne : ps ≠ []
  all : ∀ p ∈ ps, JOk p
  few : ps.length ≤ 1000
  sum : lensum 2 (ps.map itemT) ≤ 16000000
  size : (jtx ps).length ≤ 1000000
/-- the text is built again, from a row up to the root -/
inductive Clm (rs : List (List Pr)) (ns : List (List Nat)) : Nat → List Nat → List Nat → Prop
  | zero {t} : Clm rs ns 0 t t
  | succ {k t u ps x} : rs[k]? = some ps → ns[k]? = some x → ps.length ≤ 1000 → JR (ps.map (upd1 x t)) → Clm rs ns k (jtx (ps.map (upd1 x t))) u → Clm rs ns (k + 1) t u
theorem run_turn (g : Gd C) {q : Str} {cd : Value} {tr hr wv pv mv tg fi fr : V} {wd : Slot} {ns : List (List Nat)} {rs : List (List Pr)} {k : Nat} {t x : List Nat} {ps : List Pr} (hk : k ≤ 100) (h1 : rs[k]? = some ps) (h2 : ns[k]? = some x) (hl : ps.length ≤ 1000) (hj : JR (ps.map (upd1 x t))) :
    ExW C (n + 5) (fs N58 q cd) (sBody loop58) [.val tr, .val hr, .val wv, .val pv, .val mv, .val tg, .val (.list (ns.map fS)), .val (rowsV rs), .val fi, .val fr, wd, .val (.str (S t)), .val (.int ((k + 1 : Nat) : Int)), .unset, .unset, .unset, .unset, .unset, .unset, .unset, .unset, .unset] .next [.val tr, .val hr, .val wv, .val pv, .val mv, .val tg, .val (.list (ns.map fS)), .val (rowsV rs), .val fi, .val fr, wd, .val (.str (S (jtx (ps.map (upd1 x t))))), .val (.int ((k + 1 : Nat) : Int)), .unset, .unset, .unset, .unset, .unset, .unset, .unset, .unset, .unset] := by
  have hx : (ns.map fS)[((k : Nat) : Int).toNat]? = some (.str (S x)) := by rw [Int.toNat_natCast, List.getElem?_map, h2]; rfl
  have hr : (rs.map rwV)[((k : Nat) : Int).toNat]? = some (rwV ps) := by rw [Int.toNat_natCast, List.getElem?_map, h1]; rfl
  obtain ⟨s1', s2', hcp⟩ := cp58 (C := C) (n := n + 5) (cd := cd) (q := q) (ns := ns) (k := k) (x := x) t (by omega) hx ps .unset .unset
  exact (ExW.cons (Ex1W.assign 11 (EvW.callG 20 rfl (EvsW.cons (EvW.list (EvsW.cons (EvW.comp (EvW.sub (EvW.name 7 rfl rfl rfl rfl) (EvW.to (EvW.binop (EvW.name 12 rfl rfl rfl rfl) EvW.int Op2.subI) (show V.int (((k + 1 : Nat) : Int) - 1) = V.int (k : Int) by congr 1; omega)) (Op2.idxL (by omega) hr (by omega))) (PyIt.list (l := ps.map PV)) (comp58 rfl rfl) hcp (by simp; omega)) EvsW.nil) (by first | (simp; done) | decide)) EvsW.nil) (join_header_pu (n := n + 1) g hj.ne hj.all hj.few hj.sum hj.size)) rfl (.inr ⟨rfl, rfl⟩)) ExW.nil)
theorem run_loop (g : Gd C) {q : Str} {cd : Value} {tr hr wv pv mv tg fi fr : V} {wd : Slot} {ns : List (List Nat)} {rs : List (List Pr)} : ∀ (k : Nat) {t u : List Nat} {s12 : Slot}, k ≤ 100 → Clm rs ns k t u →
    ∃ s12', Lp C (n + 5) (fs N58 q cd) (sTarget loop58) (sBody loop58) (rngU (-1) k (k : Int)) [.val tr, .val hr, .val wv, .val pv, .val mv, .val tg, .val (.list (ns.map fS)), .val (rowsV rs), .val fi, .val fr, wd, .val (.str (S t)), s12, .unset, .unset, .unset, .unset, .unset, .unset, .unset, .unset, .unset] .next [.val tr, .val hr, .val wv, .val pv, .val mv, .val tg, .val (.list (ns.map fS)), .val (rowsV rs), .val fi, .val fr, wd, .val (.str (S u)), s12', .unset, .unset, .unset, .unset, .unset, .unset, .unset, .unset, .unset]
  | 0, t, u, s12, _, h => by cases h; exact ⟨s12, LpW.nil⟩
  | k + 1, t, u, s12, hk, h => by
    cases h with
    | succ h1 h2 hl hj h' =>
      obtain ⟨s', ih⟩ := run_loop g (q := q) (cd := cd) (tr := tr) (hr := hr) (wv := wv) (pv := pv) (mv := mv) (tg := tg) (fi := fi) (fr := fr) (wd := wd) k (s12 := .val (.int ((k + 1 : Nat) : Int))) (by omega) h'
      refine ⟨s', ?_⟩
      unfold rngU
      rw [show (((k + 1 : Nat) : Int) + -1) = (k : Int) from by omega]
      exact LpW.next (AsW.name 12 rfl (.inr ⟨rfl, rfl⟩)) (run_turn g (by omega) h1 h2 hl hj) ih
theorem down_it {k : Nat} (hk : k ≤ 1000) : PyIt C n (.rng (k : Int) 0 (-1)) (rngU (-1) k (k : Int)) := by
  have hs : Builtin.Range.rangeSize (k : Int) 0 (-1) = (k : Int) := by
    unfold Builtin.Range.rangeSize
    rw [if_neg (by decide)]
    split
    · rw [show (-(-1 : Int)) = 1 from rfl, Int.ediv_one]; omega
    · omega
  have hsm : Builtin.Range.small (k : Int) 0 (-1) = true := small_of (by omega) (by omega) (by decide) (by decide) (by decide) (by decide) (by rw [hs]; omega) (by rw [hs]; omega)
  exact @PyIt.rngU C n (k : Int) 0 (-1) k hsm hs
noncomputable def frB (mm : List Nat) : Bool := mm.getD 0 0 == 100 && decide (mm.getD 3 0 ∈ [120, 115])
theorem one_beq (a b : Nat) : ([a] == [b]) = (a == b) := by rw [Bool.eq_iff_iff, beq_iff_eq, beq_iff_eq]; simp
theorem run_free {q : Str} {cd : Value} {v0 v1 v2 v3 v4 v5 v6 v7 : V} {s9 s10 s11 s12 : Slot} {mm : List Nat} (h3 : 3 < mm.length) : EvW C n (fs N58 q cd) freeE [.val v0, .val v1, .val v2, .val v3, .val v4, .val v5, .val v6, .val v7, .val (.str (S mm)), s9, s10, s11, s12, .unset, .unset, .unset, .unset, .unset, .unset, .unset, .unset, .unset] (.bool (frB mm)) [.val v0, .val v1, .val v2, .val v3, .val v4, .val v5, .val v6, .val v7, .val (.str (S mm)), s9, s10, s11, s12, .unset, .unset, .unset, .unset, .unset, .unset, .unset, .unset, .unset] := by
  unfold frB
  cases h : (mm.getD 0 0 == 100) with
  | false =>
    rw [Bool.false_and]
    exact (EvW.andF (EvW.to (EvW.cmp (EvW.sub (EvW.name 8 rfl rfl rfl rfl) EvW.int (Op2.idxS (c := mm.getD 0 0) (by decide) (show mm[(0 : Int).toNat]? = _ from getD_some (by omega)) (by decide))) (EvW.strS [100] (by decide +kernel)) Op2.eqT rfl) (show V.bool ([mm.getD 0 0] == [100]) = V.bool false by rw [one_beq, h])) Tr.bool)
  | true =>
    rw [Bool.true_and]
    exact (EvW.andT (EvW.to (EvW.cmp (EvW.sub (EvW.name 8 rfl rfl rfl rfl) EvW.int (Op2.idxS (c := mm.getD 0 0) (by decide) (show mm[(0 : Int).toNat]? = _ from getD_some (by omega)) (by decide))) (EvW.strS [100] (by decide +kernel)) Op2.eqT rfl) (show V.bool ([mm.getD 0 0] == [100]) = V.bool true by rw [one_beq, h])) Tr.bool (EvW.cmp (EvW.sub (EvW.name 8 rfl rfl rfl rfl) EvW.int (Op2.idxS (c := mm.getD 3 0) (by decide) (show mm[(3 : Int).toNat]? = _ from getD_some h3) (by decide))) (EvW.strS [120, 115] (by decide +kernel)) Op2.inT rfl))
theorem run_pre (g : Gd C) {tree here a c t mm : List Nat} {w m : Nat} {ns : List (List Nat)} {ps : List Pr} {out init : List (List Pr)} {kids : List Pr} {kt : Nat} (hh : here ≠ []) (hhz : here.length + a.length + c.length ≤ 10000) (hJ : pj (pj here a) c = 47 :: t) (h47 : t.head? ≠ some 47) (htz : t.length ≤ 10000)
    (hls : lensum 1 ((splitC 47 t).foldl nst []) ≤ 1000000) (hli : (interc [47] ((splitC 47 t).foldl nst [])).length ≤ 1000000) (hN : [47] ++ interc [47] ((splitC 47 t).foldl nst []) = pth ns) (hg : GoodN ns) (hn : ns.length < 9) (hpz : (pcat ns).length ≤ 10000)
    (hT : Tx (rpl [61, 34, 100] [32, 61, 32, 34, 92, 100] tree) ps kt) (hps : ps ≠ []) (hz : tree.length ≤ 900000) (htz2 : (rpl [61, 34, 100] [32, 61, 32, 34, 92, 100] tree).length ≤ 1000000) (hpl : ps.length ≤ 1000) (hR : Rw ps ns out) (hrs : ps :: out = init ++ [(mm, none) :: kids]) (h3 : 3 < mm.length) (hil : init.length ≤ 100) (hkl : kids.length ≤ 900) {r : V} (hb : ∀ (cd : Value) (q : Str), ∃ σ', ExW C (n + 5) (fs N58 q cd) ((dr 58).body.drop 5) [.val (.str (S tree)), .val (.str (S here)), .val (.int (w : Int)), .val (.list [.str (S a), .str (S c)]), .val (.int (m : Int)), .val (.str (S (pth ns))), .val (.list (ns.map fS)), .val (rowsV (init ++ [(mm, none) :: kids])), .val (.str (S mm)), .val (.bool (frB mm)), .unset, .unset, .unset, .unset, .unset, .unset, .unset, .unset, .unset, .unset, .unset, .unset] (.ret r) σ') : PuG C "_law_run" (n + 6) [.str (S tree), .str (S here), .int (w : Int), .list [.str (S a), .str (S c)], .int (m : Int)] r := by
  show PuG C (dr 58).name _ _ _
  have hnp : PuG C "normpath" (n + 5) [.str (S (pj (pj here a) c))] (.str (S (pth ns))) := by
    rw [hJ, ← hN]; exact PuG.le (normpath_pu (n := n) g h47 htz hls hli) (by omega)
  refine PuGW.of_def (d := dr 58) 5 (g.df 58) (by decide +kernel) (bind5 58 fun _ _ _ _ _ _ _ _ => rfl) (N := N58) rfl fun cd q => ?_
  obtain ⟨σ', ht⟩ := hb cd q
  exact ⟨_, (ExW.cons (Ex1W.assign 5 (EvW.callG 13 rfl (EvsW.cons (EvW.callG 14 rfl (EvsW.cons (EvW.name 1 rfl rfl rfl rfl) (EvsW.star (EvW.name 3 rfl rfl rfl rfl) (by simp))) (PuG.le (join_pu (n := n) g hh (by omega)) (by omega))) EvsW.nil) hnp) rfl (.inl rfl)) (ExW.cons (Ex1W.assign 6 (EvW.callG 15 rfl (EvsW.cons (EvW.name 5 rfl rfl rfl rfl) EvsW.nil) (PuG.le (lawnames_pu (n := n) g hg hn hpz) (by omega))) rfl (.inr ⟨rfl, rfl⟩)) (ExW.cons (Ex1W.assign 7 (EvW.callG 16 rfl (EvsW.cons (EvW.name 0 rfl rfl rfl rfl) (EvsW.cons (EvW.name 6 rfl rfl rfl rfl) EvsW.nil)) (PuG.to (lawrows_pu (n := n) g hT hps hz htz2 hpl hR (by omega)) (show rowsV (ps :: out) = rowsV (init ++ [(mm, none) :: kids]) by rw [hrs]))) rfl (.inl rfl)) (ExW.cons (Ex1W.assign 8 (EvW.sub (EvW.sub (EvW.sub (EvW.name 7 rfl rfl rfl rfl) (EvW.unop EvW.int Op1.negI) (Op2.idxLn (by decide) (by simp; omega) last_at (by decide))) EvW.int (Op2.idxL (by decide) (v := PV (mm, none)) rfl (by decide))) EvW.int (Op2.idxT (j := 0) (l := [.str (S mm), .none]) rfl rfl ⟨by decide, by decide⟩)) rfl (.inl rfl)) (ExW.cons (Ex1W.assign 9 (run_free h3) rfl (.inl rfl)) ht)))))⟩
theorem run_1 (g : Gd C) {tree here a c t mm : List Nat} {w m : Nat} {ns : List (List Nat)} {ps : List Pr} {out init : List (List Pr)} {kids : List Pr} {kt : Nat} (hh : here ≠ []) (hhz : here.length + a.length + c.length ≤ 10000) (hJ : pj (pj here a) c = 47 :: t) (h47 : t.head? ≠ some 47) (htz : t.length ≤ 10000)
    (hls : lensum 1 ((splitC 47 t).foldl nst []) ≤ 1000000) (hli : (interc [47] ((splitC 47 t).foldl nst [])).length ≤ 1000000) (hN : [47] ++ interc [47] ((splitC 47 t).foldl nst []) = pth ns) (hg : GoodN ns) (hn : ns.length < 9) (hpz : (pcat ns).length ≤ 10000)
    (hT : Tx (rpl [61, 34, 100] [32, 61, 32, 34, 92, 100] tree) ps kt) (hps : ps ≠ []) (hz : tree.length ≤ 900000) (htz2 : (rpl [61, 34, 100] [32, 61, 32, 34, 92, 100] tree).length ≤ 1000000) (hpl : ps.length ≤ 1000) (hR : Rw ps ns out) (hrs : ps :: out = init ++ [(mm, none) :: kids]) (h3 : 3 < mm.length) (hil : init.length ≤ 100) (hkl : kids.length ≤ 900) (hw : w = 0) (hfr : frB mm = true) (hlen : ns.length < (init ++ [(mm, none) :: kids]).length)  : PuG C "_law_run" (n + 6) [.str (S tree), .str (S here), .int (w : Int), .list [.str (S a), .str (S c)], .int (m : Int)] (.tup [.str (S tree), .str (S (pth ns))]) := by
  refine run_pre g hh hhz hJ h47 htz hls hli hN hg hn hpz hT hps hz htz2 hpl hR hrs h3 hil hkl fun cd q => ?_
  exact ⟨_, (ExW.ret (Ex1W.ifT (ItW.to (ItW.cmp (EvW.name 2 rfl rfl rfl rfl) EvW.int Op2.eqI rfl) (by rw [beq_iff_eq]; omega)) (ExW.ret (Ex1W.ret (EvW.tuple (EvsW.cons (EvW.name 0 rfl rfl rfl rfl) (EvsW.cons (EvW.ifT (ItW.boolop (ItsW.goAnd (ItW.to (ItW.plain (fun _ _ => rfl) (EvW.name 9 rfl rfl rfl rfl) Tr.bool) hfr) (ItsW.goAnd (ItW.to (ItW.cmp (EvW.callN 17 5 g rfl rfl rfl (EvsW.cons (EvW.name 7 rfl rfl rfl rfl) EvsW.nil) (Pu.to (Pu.lenL (by rw [List.length_map, List.length_append]; simp; omega)) (by rw [List.length_map])) (.inl ⟨_, rfl⟩)) (EvW.callN 17 5 g rfl rfl rfl (EvsW.cons (EvW.name 6 rfl rfl rfl rfl) EvsW.nil) (Pu.to (Pu.lenL (by rw [List.length_map]; omega)) (by rw [List.length_map])) (.inl ⟨_, rfl⟩)) Op2.gtI rfl) (by rw [decide_eq_true_eq]; omega)) ItsW.nilAnd))) (EvW.name 5 rfl rfl rfl rfl)) EvsW.nil)) (by first | (simp; done) | decide))))))⟩
theorem run_2 (g : Gd C) {tree here a c t mm : List Nat} {w m : Nat} {ns : List (List Nat)} {ps : List Pr} {out init : List (List Pr)} {kids : List Pr} {kt : Nat} (hh : here ≠ []) (hhz : here.length + a.length + c.length ≤ 10000) (hJ : pj (pj here a) c = 47 :: t) (h47 : t.head? ≠ some 47) (htz : t.length ≤ 10000)
    (hls : lensum 1 ((splitC 47 t).foldl nst []) ≤ 1000000) (hli : (interc [47] ((splitC 47 t).foldl nst [])).length ≤ 1000000) (hN : [47] ++ interc [47] ((splitC 47 t).foldl nst []) = pth ns) (hg : GoodN ns) (hn : ns.length < 9) (hpz : (pcat ns).length ≤ 10000)
    (hT : Tx (rpl [61, 34, 100] [32, 61, 32, 34, 92, 100] tree) ps kt) (hps : ps ≠ []) (hz : tree.length ≤ 900000) (htz2 : (rpl [61, 34, 100] [32, 61, 32, 34, 92, 100] tree).length ≤ 1000000) (hpl : ps.length ≤ 1000) (hR : Rw ps ns out) (hrs : ps :: out = init ++ [(mm, none) :: kids]) (h3 : 3 < mm.length) (hil : init.length ≤ 100) (hkl : kids.length ≤ 900) (hw : w = 0) (hfr : frB mm = true) (hlen : ¬ ns.length < (init ++ [(mm, none) :: kids]).length)  : PuG C "_law_run" (n + 6) [.str (S tree), .str (S here), .int (w : Int), .list [.str (S a), .str (S c)], .int (m : Int)] (.tup [.str (S tree), .str (S here)]) := by
  refine run_pre g hh hhz hJ h47 htz hls hli hN hg hn hpz hT hps hz htz2 hpl hR hrs h3 hil hkl fun cd q => ?_
  exact ⟨_, (ExW.ret (Ex1W.ifT (ItW.to (ItW.cmp (EvW.name 2 rfl rfl rfl rfl) EvW.int Op2.eqI rfl) (by rw [beq_iff_eq]; omega)) (ExW.ret (Ex1W.ret (EvW.tuple (EvsW.cons (EvW.name 0 rfl rfl rfl rfl) (EvsW.cons (EvW.ifF (ItW.boolop (ItsW.goAnd (ItW.to (ItW.plain (fun _ _ => rfl) (EvW.name 9 rfl rfl rfl rfl) Tr.bool) hfr) (ItsW.stopAnd (ItW.to (ItW.cmp (EvW.callN 17 5 g rfl rfl rfl (EvsW.cons (EvW.name 7 rfl rfl rfl rfl) EvsW.nil) (Pu.to (Pu.lenL (by rw [List.length_map, List.length_append]; simp; omega)) (by rw [List.length_map])) (.inl ⟨_, rfl⟩)) (EvW.callN 17 5 g rfl rfl rfl (EvsW.cons (EvW.name 6 rfl rfl rfl rfl) EvsW.nil) (Pu.to (Pu.lenL (by rw [List.length_map]; omega)) (by rw [List.length_map])) (.inl ⟨_, rfl⟩)) Op2.gtI rfl) (by rw [decide_eq_false_iff_not]; omega))))) (EvW.name 1 rfl rfl rfl rfl)) EvsW.nil)) (by first | (simp; done) | decide))))))⟩
theorem run_3 (g : Gd C) {tree here a c t mm : List Nat} {w m : Nat} {ns : List (List Nat)} {ps : List Pr} {out init : List (List Pr)} {kids : List Pr} {kt : Nat} (hh : here ≠ []) (hhz : here.length + a.length + c.length ≤ 10000) (hJ : pj (pj here a) c = 47 :: t) (h47 : t.head? ≠ some 47) (htz : t.length ≤ 10000)
    (hls : lensum 1 ((splitC 47 t).foldl nst []) ≤ 1000000) (hli : (interc [47] ((splitC 47 t).foldl nst [])).length ≤ 1000000) (hN : [47] ++ interc [47] ((splitC 47 t).foldl nst []) = pth ns) (hg : GoodN ns) (hn : ns.length < 9) (hpz : (pcat ns).length ≤ 10000)
    (hT : Tx (rpl [61, 34, 100] [32, 61, 32, 34, 92, 100] tree) ps kt) (hps : ps ≠ []) (hz : tree.length ≤ 900000) (htz2 : (rpl [61, 34, 100] [32, 61, 32, 34, 92, 100] tree).length ≤ 1000000) (hpl : ps.length ≤ 1000) (hR : Rw ps ns out) (hrs : ps :: out = init ++ [(mm, none) :: kids]) (h3 : 3 < mm.length) (hil : init.length ≤ 100) (hkl : kids.length ≤ 900) (hw : w = 0) (hfr : frB mm = false)  : PuG C "_law_run" (n + 6) [.str (S tree), .str (S here), .int (w : Int), .list [.str (S a), .str (S c)], .int (m : Int)] (.tup [.str (S tree), .str (S here)]) := by
  refine run_pre g hh hhz hJ h47 htz hls hli hN hg hn hpz hT hps hz htz2 hpl hR hrs h3 hil hkl fun cd q => ?_
  exact ⟨_, (ExW.ret (Ex1W.ifT (ItW.to (ItW.cmp (EvW.name 2 rfl rfl rfl rfl) EvW.int Op2.eqI rfl) (by rw [beq_iff_eq]; omega)) (ExW.ret (Ex1W.ret (EvW.tuple (EvsW.cons (EvW.name 0 rfl rfl rfl rfl) (EvsW.cons (EvW.ifF (ItW.boolop (ItsW.stopAnd (ItW.to (ItW.plain (fun _ _ => rfl) (EvW.name 9 rfl rfl rfl rfl) Tr.bool) hfr))) (EvW.name 1 rfl rfl rfl rfl)) EvsW.nil)) (by first | (simp; done) | decide))))))⟩
theorem fmo_len (m : Nat) : (fmo m).length = 10 := rfl
theorem run_4 (g : Gd C) {tree here a c t mm : List Nat} {w m : Nat} {ns : List (List Nat)} {ps : List Pr} {out init : List (List Pr)} {kids : List Pr} {kt : Nat} (hh : here ≠ []) (hhz : here.length + a.length + c.length ≤ 10000) (hJ : pj (pj here a) c = 47 :: t) (h47 : t.head? ≠ some 47) (htz : t.length ≤ 10000)
    (hls : lensum 1 ((splitC 47 t).foldl nst []) ≤ 1000000) (hli : (interc [47] ((splitC 47 t).foldl nst [])).length ≤ 1000000) (hN : [47] ++ interc [47] ((splitC 47 t).foldl nst []) = pth ns) (hg : GoodN ns) (hn : ns.length < 9) (hpz : (pcat ns).length ≤ 10000)
    (hT : Tx (rpl [61, 34, 100] [32, 61, 32, 34, 92, 100] tree) ps kt) (hps : ps ≠ []) (hz : tree.length ≤ 900000) (htz2 : (rpl [61, 34, 100] [32, 61, 32, 34, 92, 100] tree).length ≤ 1000000) (hpl : ps.length ≤ 1000) (hR : Rw ps ns out) (hrs : ps :: out = init ++ [(mm, none) :: kids]) (h3 : 3 < mm.length) (hil : init.length ≤ 100) (hkl : kids.length ≤ 900) (hw : w ≠ 0) (hlen : ns.length < (init ++ [(mm, none) :: kids]).length) {u : List Nat} (hj : JR ((rpl [63] [mm.getD 0 0] (fmo (m &&& 4095)), none) :: kids)) (hC : Clm (init ++ [(mm, none) :: kids]) ns init.length (jtx ((rpl [63] [mm.getD 0 0] (fmo (m &&& 4095)), none) :: kids)) u)  : PuG C "_law_run" (n + 6) [.str (S tree), .str (S here), .int (w : Int), .list [.str (S a), .str (S c)], .int (m : Int)] (.tup [.str (S u), .str (S here)]) := by
  refine run_pre g hh hhz hJ h47 htz hls hli hN hg hn hpz hT hps hz htz2 hpl hR hrs h3 hil hkl fun cd q => ?_
  obtain ⟨s12', hlp⟩ := run_loop (n := n) g (q := q) (cd := cd) (tr := .str (S tree)) (hr := .str (S here)) (wv := .int (w : Int)) (pv := .list [.str (S a), .str (S c)]) (mv := .int (m : Int)) (tg := .str (S (pth ns))) (fi := .str (S mm)) (fr := .bool (frB mm)) (wd := .val (.list (((rpl [63] [mm.getD 0 0] (fmo (m &&& 4095)), none) :: kids).map PV))) (ns := ns) (rs := init ++ [(mm, none) :: kids]) init.length (s12 := .unset) hil hC
  exact ⟨_, (ExW.cons (Ex1W.ifF (ItW.to (ItW.cmp (EvW.name 2 rfl rfl rfl rfl) EvW.int Op2.eqI rfl) (by rw [beq_eq_false_iff_ne]; omega)) ExW.nil) (ExW.cons (Ex1W.ifT (ItW.to (ItW.cmp (EvW.callN 17 5 g rfl rfl rfl (EvsW.cons (EvW.name 7 rfl rfl rfl rfl) EvsW.nil) (Pu.to (Pu.lenL (by rw [List.length_map, List.length_append]; simp; omega)) (by rw [List.length_map])) (.inl ⟨_, rfl⟩)) (EvW.callN 17 5 g rfl rfl rfl (EvsW.cons (EvW.name 6 rfl rfl rfl rfl) EvsW.nil) (Pu.to (Pu.lenL (by rw [List.length_map]; omega)) (by rw [List.length_map])) (.inl ⟨_, rfl⟩)) Op2.gtI rfl) (by rw [decide_eq_true_eq]; omega)) (ExW.cons (Ex1W.assign 10 (EvW.to (EvW.binop (EvW.list (EvsW.cons (EvW.tuple (EvsW.cons (EvW.replaceY g [63] (by decide +kernel) (EvW.callG 18 rfl (EvsW.cons (EvW.callG 19 rfl (EvsW.cons (EvW.name 4 rfl rfl rfl rfl) EvsW.nil) (PuG.to (PuG.le (simode_pu (n := n) g) (by omega)) (show V.int (Builtin.bitAnd (m : Int) 4095) = V.int ((m &&& 4095 : Nat) : Int) by rw [show Builtin.bitAnd (m : Int) 4095 = _ from band_nat m 4095]))) EvsW.nil) (PuG.le (filemode_pu (n := n) g) (by omega))) (EvFW.idxS (c := mm.getD 0 0) (EvW.name 8 rfl rfl rfl rfl) EvW.int (by decide) (show mm[(0 : Int).toNat]? = _ from getD_some (by omega)) (by decide)) (by rw [fmo_len]; show 10 + (10 + 1) * 1 ≤ 16777216; decide)) (EvsW.cons EvW.none EvsW.nil)) (by first | (simp; done) | decide)) EvsW.nil) (by first | (simp; done) | decide)) (EvW.to (EvW.slLG (EvW.sub (EvW.name 7 rfl rfl rfl rfl) (EvW.unop EvW.int Op1.negI) (Op2.idxLn (by decide) (by simp; omega) last_at (by decide))) (EvpW.some EvW.int) EvpW.none (by simp) (by simp) (by simp; omega)) (show V.list (cut (((mm, none) :: kids).map PV) (some ((1 : Nat) : Int)) none) = V.list (kids.map PV) by rw [cutL_hi]; rfl)) (Op2.addL (by first | decide | omega | (simp only [List.length_append, List.length_cons, List.length_nil, List.length_map, List.length_replicate, List.length_take, List.length_drop]; omega)))) (show V.list ([.tup [.str (S (rpl [63] [mm.getD 0 0] (fmo (m &&& 4095)))), .none]] ++ kids.map PV) = V.list ((((rpl [63] [mm.getD 0 0] (fmo (m &&& 4095))), none) :: kids : List Pr).map PV) by rfl)) rfl (.inl rfl)) ExW.nil)) (ExW.cons (Ex1W.assign 11 (EvW.callG 20 rfl (EvsW.cons (EvW.list (EvsW.cons (EvW.name 10 rfl rfl rfl rfl) EvsW.nil) (by first | (simp; done) | decide)) EvsW.nil) (PuG.le (join_header_pu (n := n) g hj.ne hj.all hj.few hj.sum hj.size) (by omega))) rfl (.inr ⟨rfl, rfl⟩)) (ExW.cons (Ex1W.for (EvW.callN 21 7 g rfl rfl rfl (EvsW.cons (EvW.to (EvW.binop (EvW.callN 17 5 g rfl rfl rfl (EvsW.cons (EvW.name 7 rfl rfl rfl rfl) EvsW.nil) (Pu.to (Pu.lenL (by rw [List.length_map, List.length_append]; simp; omega)) (by rw [List.length_map])) (.inl ⟨_, rfl⟩)) EvW.int Op2.subI) (show V.int (((init ++ [(mm, none) :: kids]).length : Int) - 1) = V.int (init.length : Int) by congr 1; rw [List.length_append]; simp)) (EvsW.cons EvW.int (EvsW.cons (EvW.unop EvW.int Op1.negI) EvsW.nil))) (Pu.range3 (by decide) (by decide)) (.inr ⟨_, rfl⟩)) (down_it (k := init.length) (by omega)) hlp (AfterW.next ExW.nil)) (ExW.ret (Ex1W.ret (EvW.tuple (EvsW.cons (EvW.name 11 rfl rfl rfl rfl) (EvsW.cons (EvW.name 1 rfl rfl rfl rfl) EvsW.nil)) (by first | (simp; done) | decide))))))))⟩
theorem run_5 (g : Gd C) {tree here a c t mm : List Nat} {w m : Nat} {ns : List (List Nat)} {ps : List Pr} {out init : List (List Pr)} {kids : List Pr} {kt : Nat} (hh : here ≠ []) (hhz : here.length + a.length + c.length ≤ 10000) (hJ : pj (pj here a) c = 47 :: t) (h47 : t.head? ≠ some 47) (htz : t.length ≤ 10000)
    (hls : lensum 1 ((splitC 47 t).foldl nst []) ≤ 1000000) (hli : (interc [47] ((splitC 47 t).foldl nst [])).length ≤ 1000000) (hN : [47] ++ interc [47] ((splitC 47 t).foldl nst []) = pth ns) (hg : GoodN ns) (hn : ns.length < 9) (hpz : (pcat ns).length ≤ 10000)
    (hT : Tx (rpl [61, 34, 100] [32, 61, 32, 34, 92, 100] tree) ps kt) (hps : ps ≠ []) (hz : tree.length ≤ 900000) (htz2 : (rpl [61, 34, 100] [32, 61, 32, 34, 92, 100] tree).length ≤ 1000000) (hpl : ps.length ≤ 1000) (hR : Rw ps ns out) (hrs : ps :: out = init ++ [(mm, none) :: kids]) (h3 : 3 < mm.length) (hil : init.length ≤ 100) (hkl : kids.length ≤ 900) (hw : w ≠ 0) (heq : (init ++ [(mm, none) :: kids]).length = ns.length) (hfr : frB mm = true) (hw2 : (mm.getD 2 0 == 119) = true) (h4 : ns.length < 4) {u x : List Nat} (hx : ns.getLast? = some x) (hj : JR (((mm, none) :: kids) ++ [(x, some (fmo m))])) (hC : Clm (init ++ [(mm, none) :: kids]) ns init.length (jtx (((mm, none) :: kids) ++ [(x, some (fmo m))])) u)  : PuG C "_law_run" (n + 6) [.str (S tree), .str (S here), .int (w : Int), .list [.str (S a), .str (S c)], .int (m : Int)] (.tup [.str (S u), .str (S here)]) := by
  refine run_pre g hh hhz hJ h47 htz hls hli hN hg hn hpz hT hps hz htz2 hpl hR hrs h3 hil hkl fun cd q => ?_
  have hn0 : 0 < ns.length := by cases ns with | nil => cases hx | cons => simp
  have hlast : (ns.map fS)[((-1 : Int) + ((ns.map fS).length : Int)).toNat]? = some (.str (S x)) := by
    rw [List.length_map, show ((-1 : Int) + (ns.length : Int)).toNat = ns.length - 1 from by omega, List.getElem?_map, ← List.getLast?_eq_getElem?, hx]; rfl
  obtain ⟨s12', hlp⟩ := run_loop (n := n) g (q := q) (cd := cd) (tr := .str (S tree)) (hr := .str (S here)) (wv := .int (w : Int)) (pv := .list [.str (S a), .str (S c)]) (mv := .int (m : Int)) (tg := .str (S (pth ns))) (fi := .str (S mm)) (fr := .bool (frB mm)) (wd := .val (.list ((((mm, none) :: kids) ++ [(x, some (fmo m))]).map PV))) (ns := ns) (rs := init ++ [(mm, none) :: kids]) init.length (s12 := .unset) hil hC
  exact ⟨_, (ExW.cons (Ex1W.ifF (ItW.to (ItW.cmp (EvW.name 2 rfl rfl rfl rfl) EvW.int Op2.eqI rfl) (by rw [beq_eq_false_iff_ne]; omega)) ExW.nil) (ExW.cons (Ex1W.ifF (ItW.to (ItW.cmp (EvW.callN 17 5 g rfl rfl rfl (EvsW.cons (EvW.name 7 rfl rfl rfl rfl) EvsW.nil) (Pu.to (Pu.lenL (by rw [List.length_map, List.length_append]; simp; omega)) (by rw [List.length_map])) (.inl ⟨_, rfl⟩)) (EvW.callN 17 5 g rfl rfl rfl (EvsW.cons (EvW.name 6 rfl rfl rfl rfl) EvsW.nil) (Pu.to (Pu.lenL (by rw [List.length_map]; omega)) (by rw [List.length_map])) (.inl ⟨_, rfl⟩)) Op2.gtI rfl) (by rw [decide_eq_false_iff_not]; omega)) (ExW.cons (Ex1W.ifT (ItW.boolop (ItsW.goAnd (ItW.to (ItW.plain (fun _ _ => rfl) (EvW.name 9 rfl rfl rfl rfl) Tr.bool) hfr) (ItsW.goAnd (ItW.to (ItW.cmp (EvW.sub (EvW.name 8 rfl rfl rfl rfl) EvW.int (Op2.idxS (c := mm.getD 2 0) (by decide) (show mm[(2 : Int).toNat]? = _ from getD_some (by omega)) (by decide))) (EvW.strS [119] (by decide +kernel)) Op2.eqT rfl) (by rw [one_beq]; exact hw2)) (ItsW.goAnd (ItW.to (ItW.cmp (EvW.callN 17 5 g rfl rfl rfl (EvsW.cons (EvW.name 7 rfl rfl rfl rfl) EvsW.nil) (Pu.to (Pu.lenL (by rw [List.length_map, List.length_append]; simp; omega)) (by rw [List.length_map])) (.inl ⟨_, rfl⟩)) (EvW.callN 17 5 g rfl rfl rfl (EvsW.cons (EvW.name 6 rfl rfl rfl rfl) EvsW.nil) (Pu.to (Pu.lenL (by rw [List.length_map]; omega)) (by rw [List.length_map])) (.inl ⟨_, rfl⟩)) Op2.eqI rfl) (by rw [beq_iff_eq]; omega)) (ItsW.goAnd (ItW.to (ItW.cmp (EvW.callN 17 5 g rfl rfl rfl (EvsW.cons (EvW.name 6 rfl rfl rfl rfl) EvsW.nil) (Pu.to (Pu.lenL (by rw [List.length_map]; omega)) (by rw [List.length_map])) (.inl ⟨_, rfl⟩)) EvW.int Op2.ltI rfl) (by rw [decide_eq_true_eq]; omega)) ItsW.nilAnd))))) (ExW.cons (Ex1W.assign 10 (EvW.to (EvW.binop (EvW.sub (EvW.name 7 rfl rfl rfl rfl) (EvW.unop EvW.int Op1.negI) (Op2.idxLn (by decide) (by simp; omega) last_at (by decide))) (EvW.list (EvsW.cons (EvW.tuple (EvsW.cons (EvW.sub (EvW.name 6 rfl rfl rfl rfl) (EvW.unop EvW.int Op1.negI) (Op2.idxLn (by decide) (by simp; omega) hlast (by decide))) (EvsW.cons (EvW.callG 18 rfl (EvsW.cons (EvW.name 4 rfl rfl rfl rfl) EvsW.nil) (PuG.le (filemode_pu (n := n) g) (by omega))) EvsW.nil)) (by first | (simp; done) | decide)) EvsW.nil) (by first | (simp; done) | decide)) (Op2.addL (by first | decide | omega | (simp only [List.length_append, List.length_cons, List.length_nil, List.length_map, List.length_replicate, List.length_take, List.length_drop]; omega)))) (show V.list (((mm, none) :: kids).map PV ++ [.tup [.str (S x), .str (S (fmo m))]]) = V.list ((((mm, none) :: kids) ++ [(x, some (fmo m))]).map PV) by rw [List.map_append]; rfl)) rfl (.inl rfl)) ExW.nil)) ExW.nil)) (ExW.cons (Ex1W.assign 11 (EvW.callG 20 rfl (EvsW.cons (EvW.list (EvsW.cons (EvW.name 10 rfl rfl rfl rfl) EvsW.nil) (by first | (simp; done) | decide)) EvsW.nil) (PuG.le (join_header_pu (n := n) g hj.ne hj.all hj.few hj.sum hj.size) (by omega))) rfl (.inr ⟨rfl, rfl⟩)) (ExW.cons (Ex1W.for (EvW.callN 21 7 g rfl rfl rfl (EvsW.cons (EvW.to (EvW.binop (EvW.callN 17 5 g rfl rfl rfl (EvsW.cons (EvW.name 7 rfl rfl rfl rfl) EvsW.nil) (Pu.to (Pu.lenL (by rw [List.length_map, List.length_append]; simp; omega)) (by rw [List.length_map])) (.inl ⟨_, rfl⟩)) EvW.int Op2.subI) (show V.int (((init ++ [(mm, none) :: kids]).length : Int) - 1) = V.int (init.length : Int) by congr 1; rw [List.length_append]; simp)) (EvsW.cons EvW.int (EvsW.cons (EvW.unop EvW.int Op1.negI) EvsW.nil))) (Pu.range3 (by decide) (by decide)) (.inr ⟨_, rfl⟩)) (down_it (k := init.length) (by omega)) hlp (AfterW.next ExW.nil)) (ExW.ret (Ex1W.ret (EvW.tuple (EvsW.cons (EvW.name 11 rfl rfl rfl rfl) (EvsW.cons (EvW.name 1 rfl rfl rfl rfl) EvsW.nil)) (by first | (simp; done) | decide))))))))⟩
theorem run_6 (g : Gd C) {tree here a c t mm : List Nat} {w m : Nat} {ns : List (List Nat)} {ps : List Pr} {out init : List (List Pr)} {kids : List Pr} {kt : Nat} (hh : here ≠ []) (hhz : here.length + a.length + c.length ≤ 10000) (hJ : pj (pj here a) c = 47 :: t) (h47 : t.head? ≠ some 47) (htz : t.length ≤ 10000)
    (hls : lensum 1 ((splitC 47 t).foldl nst []) ≤ 1000000) (hli : (interc [47] ((splitC 47 t).foldl nst [])).length ≤ 1000000) (hN : [47] ++ interc [47] ((splitC 47 t).foldl nst []) = pth ns) (hg : GoodN ns) (hn : ns.length < 9) (hpz : (pcat ns).length ≤ 10000)
    (hT : Tx (rpl [61, 34, 100] [32, 61, 32, 34, 92, 100] tree) ps kt) (hps : ps ≠ []) (hz : tree.length ≤ 900000) (htz2 : (rpl [61, 34, 100] [32, 61, 32, 34, 92, 100] tree).length ≤ 1000000) (hpl : ps.length ≤ 1000) (hR : Rw ps ns out) (hrs : ps :: out = init ++ [(mm, none) :: kids]) (h3 : 3 < mm.length) (hil : init.length ≤ 100) (hkl : kids.length ≤ 900) (hw : w ≠ 0) (hlen : ¬ ns.length < (init ++ [(mm, none) :: kids]).length) (hfr : frB mm = false)  : PuG C "_law_run" (n + 6) [.str (S tree), .str (S here), .int (w : Int), .list [.str (S a), .str (S c)], .int (m : Int)] (.tup [.str (S tree), .str (S here)]) := by
  refine run_pre g hh hhz hJ h47 htz hls hli hN hg hn hpz hT hps hz htz2 hpl hR hrs h3 hil hkl fun cd q => ?_
  exact ⟨_, (ExW.cons (Ex1W.ifF (ItW.to (ItW.cmp (EvW.name 2 rfl rfl rfl rfl) EvW.int Op2.eqI rfl) (by rw [beq_eq_false_iff_ne]; omega)) ExW.nil) (ExW.ret (Ex1W.ifF (ItW.to (ItW.cmp (EvW.callN 17 5 g rfl rfl rfl (EvsW.cons (EvW.name 7 rfl rfl rfl rfl) EvsW.nil) (Pu.to (Pu.lenL (by rw [List.length_map, List.length_append]; simp; omega)) (by rw [List.length_map])) (.inl ⟨_, rfl⟩)) (EvW.callN 17 5 g rfl rfl rfl (EvsW.cons (EvW.name 6 rfl rfl rfl rfl) EvsW.nil) (Pu.to (Pu.lenL (by rw [List.length_map]; omega)) (by rw [List.length_map])) (.inl ⟨_, rfl⟩)) Op2.gtI rfl) (by rw [decide_eq_false_iff_not]; omega)) (ExW.ret (Ex1W.ifF (ItW.boolop (ItsW.stopAnd (ItW.to (ItW.plain (fun _ _ => rfl) (EvW.name 9 rfl rfl rfl rfl) Tr.bool) hfr))) (ExW.ret (Ex1W.ret (EvW.tuple (EvsW.cons (EvW.name 0 rfl rfl rfl rfl) (EvsW.cons (EvW.name 1 rfl rfl rfl rfl) EvsW.nil)) (by first | (simp; done) | decide)))))))))⟩
theorem run_7 (g : Gd C) {tree here a c t mm : List Nat} {w m : Nat} {ns : List (List Nat)} {ps : List Pr} {out init : List (List Pr)} {kids : List Pr} {kt : Nat} (hh : here ≠ []) (hhz : here.length + a.length + c.length ≤ 10000) (hJ : pj (pj here a) c = 47 :: t) (h47 : t.head? ≠ some 47) (htz : t.length ≤ 10000)
    (hls : lensum 1 ((splitC 47 t).foldl nst []) ≤ 1000000) (hli : (interc [47] ((splitC 47 t).foldl nst [])).length ≤ 1000000) (hN : [47] ++ interc [47] ((splitC 47 t).foldl nst []) = pth ns) (hg : GoodN ns) (hn : ns.length < 9) (hpz : (pcat ns).length ≤ 10000)
    (hT : Tx (rpl [61, 34, 100] [32, 61, 32, 34, 92, 100] tree) ps kt) (hps : ps ≠ []) (hz : tree.length ≤ 900000) (htz2 : (rpl [61, 34, 100] [32, 61, 32, 34, 92, 100] tree).length ≤ 1000000) (hpl : ps.length ≤ 1000) (hR : Rw ps ns out) (hrs : ps :: out = init ++ [(mm, none) :: kids]) (h3 : 3 < mm.length) (hil : init.length ≤ 100) (hkl : kids.length ≤ 900) (hw : w ≠ 0) (hlen : ¬ ns.length < (init ++ [(mm, none) :: kids]).length) (hfr : frB mm = true) (hw2 : (mm.getD 2 0 == 119) = false)  : PuG C "_law_run" (n + 6) [.str (S tree), .str (S here), .int (w : Int), .list [.str (S a), .str (S c)], .int (m : Int)] (.tup [.str (S tree), .str (S here)]) := by
  refine run_pre g hh hhz hJ h47 htz hls hli hN hg hn hpz hT hps hz htz2 hpl hR hrs h3 hil hkl fun cd q => ?_
  exact ⟨_, (ExW.cons (Ex1W.ifF (ItW.to (ItW.cmp (EvW.name 2 rfl rfl rfl rfl) EvW.int Op2.eqI rfl) (by rw [beq_eq_false_iff_ne]; omega)) ExW.nil) (ExW.ret (Ex1W.ifF (ItW.to (ItW.cmp (EvW.callN 17 5 g rfl rfl rfl (EvsW.cons (EvW.name 7 rfl rfl rfl rfl) EvsW.nil) (Pu.to (Pu.lenL (by rw [List.length_map, List.length_append]; simp; omega)) (by rw [List.length_map])) (.inl ⟨_, rfl⟩)) (EvW.callN 17 5 g rfl rfl rfl (EvsW.cons (EvW.name 6 rfl rfl rfl rfl) EvsW.nil) (Pu.to (Pu.lenL (by rw [List.length_map]; omega)) (by rw [List.length_map])) (.inl ⟨_, rfl⟩)) Op2.gtI rfl) (by rw [decide_eq_false_iff_not]; omega)) (ExW.ret (Ex1W.ifF (ItW.boolop (ItsW.goAnd (ItW.to (ItW.plain (fun _ _ => rfl) (EvW.name 9 rfl rfl rfl rfl) Tr.bool) hfr) (ItsW.stopAnd (ItW.to (ItW.cmp (EvW.sub (EvW.name 8 rfl rfl rfl rfl) EvW.int (Op2.idxS (c := mm.getD 2 0) (by decide) (show mm[(2 : Int).toNat]? = _ from getD_some (by omega)) (by decide))) (EvW.strS [119] (by decide +kernel)) Op2.eqT rfl) (by rw [one_beq]; exact hw2))))) (ExW.ret (Ex1W.ret (EvW.tuple (EvsW.cons (EvW.name 0 rfl rfl rfl rfl) (EvsW.cons (EvW.name 1 rfl rfl rfl rfl) EvsW.nil)) (by first | (simp; done) | decide)))))))))⟩
theorem run_8 (g : Gd C) {tree here a c t mm : List Nat} {w m : Nat} {ns : List (List Nat)} {ps : List Pr} {out init : List (List Pr)} {kids : List Pr} {kt : Nat} (hh : here ≠ []) (hhz : here.length + a.length + c.length ≤ 10000) (hJ : pj (pj here a) c = 47 :: t) (h47 : t.head? ≠ some 47) (htz : t.length ≤ 10000)
    (hls : lensum 1 ((splitC 47 t).foldl nst []) ≤ 1000000) (hli : (interc [47] ((splitC 47 t).foldl nst [])).length ≤ 1000000) (hN : [47] ++ interc [47] ((splitC 47 t).foldl nst []) = pth ns) (hg : GoodN ns) (hn : ns.length < 9) (hpz : (pcat ns).length ≤ 10000)
    (hT : Tx (rpl [61, 34, 100] [32, 61, 32, 34, 92, 100] tree) ps kt) (hps : ps ≠ []) (hz : tree.length ≤ 900000) (htz2 : (rpl [61, 34, 100] [32, 61, 32, 34, 92, 100] tree).length ≤ 1000000) (hpl : ps.length ≤ 1000) (hR : Rw ps ns out) (hrs : ps :: out = init ++ [(mm, none) :: kids]) (h3 : 3 < mm.length) (hil : init.length ≤ 100) (hkl : kids.length ≤ 900) (hw : w ≠ 0) (hlen : ¬ ns.length < (init ++ [(mm, none) :: kids]).length) (hfr : frB mm = true) (hw2 : (mm.getD 2 0 == 119) = true) (heq : (init ++ [(mm, none) :: kids]).length ≠ ns.length)  : PuG C "_law_run" (n + 6) [.str (S tree), .str (S here), .int (w : Int), .list [.str (S a), .str (S c)], .int (m : Int)] (.tup [.str (S tree), .str (S here)]) := by
  refine run_pre g hh hhz hJ h47 htz hls hli hN hg hn hpz hT hps hz htz2 hpl hR hrs h3 hil hkl fun cd q => ?_
  exact ⟨_, (ExW.cons (Ex1W.ifF (ItW.to (ItW.cmp (EvW.name 2 rfl rfl rfl rfl) EvW.int Op2.eqI rfl) (by rw [beq_eq_false_iff_ne]; omega)) ExW.nil) (ExW.ret (Ex1W.ifF (ItW.to (ItW.cmp (EvW.callN 17 5 g rfl rfl rfl (EvsW.cons (EvW.name 7 rfl rfl rfl rfl) EvsW.nil) (Pu.to (Pu.lenL (by rw [List.length_map, List.length_append]; simp; omega)) (by rw [List.length_map])) (.inl ⟨_, rfl⟩)) (EvW.callN 17 5 g rfl rfl rfl (EvsW.cons (EvW.name 6 rfl rfl rfl rfl) EvsW.nil) (Pu.to (Pu.lenL (by rw [List.length_map]; omega)) (by rw [List.length_map])) (.inl ⟨_, rfl⟩)) Op2.gtI rfl) (by rw [decide_eq_false_iff_not]; omega)) (ExW.ret (Ex1W.ifF (ItW.boolop (ItsW.goAnd (ItW.to (ItW.plain (fun _ _ => rfl) (EvW.name 9 rfl rfl rfl rfl) Tr.bool) hfr) (ItsW.goAnd (ItW.to (ItW.cmp (EvW.sub (EvW.name 8 rfl rfl rfl rfl) EvW.int (Op2.idxS (c := mm.getD 2 0) (by decide) (show mm[(2 : Int).toNat]? = _ from getD_some (by omega)) (by decide))) (EvW.strS [119] (by decide +kernel)) Op2.eqT rfl) (by rw [one_beq]; exact hw2)) (ItsW.stopAnd (ItW.to (ItW.cmp (EvW.callN 17 5 g rfl rfl rfl (EvsW.cons (EvW.name 7 rfl rfl rfl rfl) EvsW.nil) (Pu.to (Pu.lenL (by rw [List.length_map, List.length_append]; simp; omega)) (by rw [List.length_map])) (.inl ⟨_, rfl⟩)) (EvW.callN 17 5 g rfl rfl rfl (EvsW.cons (EvW.name 6 rfl rfl rfl rfl) EvsW.nil) (Pu.to (Pu.lenL (by rw [List.length_map]; omega)) (by rw [List.length_map])) (.inl ⟨_, rfl⟩)) Op2.eqI rfl) (by rw [beq_eq_false_iff_ne]; omega)))))) (ExW.ret (Ex1W.ret (EvW.tuple (EvsW.cons (EvW.name 0 rfl rfl rfl rfl) (EvsW.cons (EvW.name 1 rfl rfl rfl rfl) EvsW.nil)) (by first | (simp; done) | decide)))))))))⟩
theorem run_9 (g : Gd C) {tree here a c t mm : List Nat} {w m : Nat} {ns : List (List Nat)} {ps : List Pr} {out init : List (List Pr)} {kids : List Pr} {kt : Nat} (hh : here ≠ []) (hhz : here.length + a.length + c.length ≤ 10000) (hJ : pj (pj here a) c = 47 :: t) (h47 : t.head? ≠ some 47) (htz : t.length ≤ 10000)
    (hls : lensum 1 ((splitC 47 t).foldl nst []) ≤ 1000000) (hli : (interc [47] ((splitC 47 t).foldl nst [])).length ≤ 1000000) (hN : [47] ++ interc [47] ((splitC 47 t).foldl nst []) = pth ns) (hg : GoodN ns) (hn : ns.length < 9) (hpz : (pcat ns).length ≤ 10000)
    (hT : Tx (rpl [61, 34, 100] [32, 61, 32, 34, 92, 100] tree) ps kt) (hps : ps ≠ []) (hz : tree.length ≤ 900000) (htz2 : (rpl [61, 34, 100] [32, 61, 32, 34, 92, 100] tree).length ≤ 1000000) (hpl : ps.length ≤ 1000) (hR : Rw ps ns out) (hrs : ps :: out = init ++ [(mm, none) :: kids]) (h3 : 3 < mm.length) (hil : init.length ≤ 100) (hkl : kids.length ≤ 900) (hw : w ≠ 0) (hlen : ¬ ns.length < (init ++ [(mm, none) :: kids]).length) (hfr : frB mm = true) (hw2 : (mm.getD 2 0 == 119) = true) (heq : (init ++ [(mm, none) :: kids]).length = ns.length) (h4 : ¬ ns.length < 4)  : PuG C "_law_run" (n + 6) [.str (S tree), .str (S here), .int (w : Int), .list [.str (S a), .str (S c)], .int (m : Int)] (.tup [.str (S tree), .str (S here)]) := by
  refine run_pre g hh hhz hJ h47 htz hls hli hN hg hn hpz hT hps hz htz2 hpl hR hrs h3 hil hkl fun cd q => ?_
  exact ⟨_, (ExW.cons (Ex1W.ifF (ItW.to (ItW.cmp (EvW.name 2 rfl rfl rfl rfl) EvW.int Op2.eqI rfl) (by rw [beq_eq_false_iff_ne]; omega)) ExW.nil) (ExW.ret (Ex1W.ifF (ItW.to (ItW.cmp (EvW.callN 17 5 g rfl rfl rfl (EvsW.cons (EvW.name 7 rfl rfl rfl rfl) EvsW.nil) (Pu.to (Pu.lenL (by rw [List.length_map, List.length_append]; simp; omega)) (by rw [List.length_map])) (.inl ⟨_, rfl⟩)) (EvW.callN 17 5 g rfl rfl rfl (EvsW.cons (EvW.name 6 rfl rfl rfl rfl) EvsW.nil) (Pu.to (Pu.lenL (by rw [List.length_map]; omega)) (by rw [List.length_map])) (.inl ⟨_, rfl⟩)) Op2.gtI rfl) (by rw [decide_eq_false_iff_not]; omega)) (ExW.ret (Ex1W.ifF (ItW.boolop (ItsW.goAnd (ItW.to (ItW.plain (fun _ _ => rfl) (EvW.name 9 rfl rfl rfl rfl) Tr.bool) hfr) (ItsW.goAnd (ItW.to (ItW.cmp (EvW.sub (EvW.name 8 rfl rfl rfl rfl) EvW.int (Op2.idxS (c := mm.getD 2 0) (by decide) (show mm[(2 : Int).toNat]? = _ from getD_some (by omega)) (by decide))) (EvW.strS [119] (by decide +kernel)) Op2.eqT rfl) (by rw [one_beq]; exact hw2)) (ItsW.goAnd (ItW.to (ItW.cmp (EvW.callN 17 5 g rfl rfl rfl (EvsW.cons (EvW.name 7 rfl rfl rfl rfl) EvsW.nil) (Pu.to (Pu.lenL (by rw [List.length_map, List.length_append]; simp; omega)) (by rw [List.length_map])) (.inl ⟨_, rfl⟩)) (EvW.callN 17 5 g rfl rfl rfl (EvsW.cons (EvW.name 6 rfl rfl rfl rfl) EvsW.nil) (Pu.to (Pu.lenL (by rw [List.length_map]; omega)) (by rw [List.length_map])) (.inl ⟨_, rfl⟩)) Op2.eqI rfl) (by rw [beq_iff_eq]; omega)) (ItsW.stopAnd (ItW.to (ItW.cmp (EvW.callN 17 5 g rfl rfl rfl (EvsW.cons (EvW.name 6 rfl rfl rfl rfl) EvsW.nil) (Pu.to (Pu.lenL (by rw [List.length_map]; omega)) (by rw [List.length_map])) (.inl ⟨_, rfl⟩)) EvW.int Op2.ltI rfl) (by rw [decide_eq_false_iff_not]; omega))))))) (ExW.ret (Ex1W.ret (EvW.tuple (EvsW.cons (EvW.name 0 rfl rfl rfl rfl) (EvsW.cons (EvW.name 1 rfl rfl rfl rfl) EvsW.nil)) (by first | (simp; done) | decide)))))))))⟩
end
end Mine
end
section
set_option tactic.hygienic false
open PySem PySem.Calls PySem.W PyProof.Rows
namespace Mine
/-! the words of a mode -/
theorem md2 (q : Nat) : q % 2 < 2 := Nat.mod_lt _ (by decide)
theorem md8 (q : Nat) : q % 8 < 8 := Nat.mod_lt _ (by decide)
theorem md16 (q : Nat) : q % 16 < 16 := Nat.mod_lt _ (by decide)
theorem oct (q : Nat) : q % 8 = q / 4 % 2 * 4 + q / 2 % 2 * 2 + q % 2 := by
  rw [show q % 8 = q % 2 + 2 * (q / 2 % 4) from Nat.mod_mul (a := 2) (b := 4), show q / 2 % 4 = q / 2 % 2 + 2 * (q / 2 / 2 % 2) from Nat.mod_mul (a := 2) (b := 2), show q / 2 / 2 = q / 4 from Nat.div_div_eq_div_mul q 2 2]
  generalize q % 2 = a
  generalize q / 2 % 2 = b
  generalize q / 4 % 2 = c
  omega
theorem octs (m k : Nat) : m / 2 ^ k % 8 = m / 2 ^ (k + 2) % 2 * 4 + m / 2 ^ (k + 1) % 2 * 2 + m / 2 ^ k % 2 := by
  rw [Nat.pow_add, Nat.pow_add, ← Nat.div_div_eq_div_mul, ← Nat.div_div_eq_div_mul]; exact oct _
theorem hexs (m k : Nat) : m / 2 ^ k % 16 = m / 2 ^ (k + 3) % 2 * 8 + m / 2 ^ (k + 2) % 2 * 4 + m / 2 ^ (k + 1) % 2 * 2 + m / 2 ^ k % 2 := by
  rw [Nat.pow_add, Nat.pow_add, Nat.pow_add, ← Nat.div_div_eq_div_mul, ← Nat.div_div_eq_div_mul, ← Nat.div_div_eq_div_mul]
  generalize m / 2 ^ k = q
  show q % 16 = q / 8 % 2 * 8 + q / 4 % 2 * 4 + q / 2 % 2 * 2 + q % 2
  rw [show q % 16 = q % 8 + 8 * (q / 8 % 2) from Nat.mod_mul (a := 8) (b := 2), oct q, Nat.mul_comm 8, Nat.add_comm, Nat.add_assoc, Nat.add_assoc]
  simp only [Nat.add_assoc]
theorem low (x y a b c : Nat) (ha : 0 < a) : (x * (a * (b * c)) + y) / a % b = y / a % b := by
  rw [show x * (a * (b * c)) + y = y + a * (b * (c * x)) from by rw [Nat.add_comm, Nat.mul_comm x, Nat.mul_assoc, Nat.mul_assoc], Nat.add_mul_div_left _ _ ha, Nat.add_mul_mod_self_left]
noncomputable def lb (f e : Nat) (r : List Nat) : List Nat := [[45, 114].getD (f / 4) 0, [45, 119].getD (f / 2 % 2) 0, (if e = 0 then [45, 120] else r).getD (f % 2) 0]
theorem lbits_eq (m u a : Nat) (r : List Nat) : lbits m u a r = lb (m / u % 8) (m / a % 2) r := rfl
noncomputable def LCb : List Nat := [45, 114, 119, 120, 115, 83, 116, 84]
noncomputable def LC : List Nat := [63, 112, 99, 100, 98, 45, 108, 115]
theorem kind_mem : ∀ i, i < 16 → kindL.getD i 0 ∈ LC := by decide
theorem lb_mem1 : ∀ f, f < 8 → ∀ e, e < 2 → ∀ c ∈ lb f e [83, 115], c ∈ LCb := by decide
theorem lb_mem2 : ∀ f, f < 8 → ∀ e, e < 2 → ∀ c ∈ lb f e [84, 116], c ∈ LCb := by decide
noncomputable def bits9 (m : Nat) : List Nat := lbits m 64 2048 [83, 115] ++ lbits m 8 1024 [83, 115] ++ lbits m 1 512 [84, 116]
theorem lname_eq (m : Nat) : lname m = kindL.getD (m / 4096 % 16) 0 :: bits9 m := by
  unfold lname bits9; simp
theorem bits9_mem {m c : Nat} (h : c ∈ bits9 m) : c ∈ LCb := by
  unfold bits9 at h
  rw [lbits_eq, lbits_eq, lbits_eq] at h
  rcases List.mem_append.mp h with h | h
  · rcases List.mem_append.mp h with h | h
    · exact lb_mem1 _ (md8 _) _ (md2 _) c h
    · exact lb_mem1 _ (md8 _) _ (md2 _) c h
  · exact lb_mem2 _ (md8 _) _ (md2 _) c h
theorem lname_mem {m c : Nat} (h : c ∈ lname m) : c ∈ LC ∨ c ∈ LCb := by
  rw [lname_eq] at h
  rcases List.mem_cons.mp h with rfl | h
  · exact .inl (kind_mem _ (md16 _))
  · exact .inr (bits9_mem h)
theorem chars_tok : ∀ c ∈ LC ++ LCb, fTok c = true ∧ fVal c = true ∧ c ≠ 61 ∧ c ≠ 34 ∧ fE c = false := by decide +kernel
theorem lname_ok {m c : Nat} (h : c ∈ lname m) : fTok c = true ∧ fVal c = true ∧ c ≠ 61 ∧ c ≠ 34 ∧ fE c = false :=
  chars_tok c (List.mem_append.mpr (lname_mem h))
theorem bits_fT : ∀ c ∈ LCb, fT c = true ∧ c ≠ 63 := by decide +kernel
theorem kind_fT : ∀ c ∈ LC, fT c = !(c == 63) := by decide +kernel
theorem lname_head (m : Nat) : (lname m).head? = some (kindL.getD (m / 4096 % 16) 0) := by rw [lname_eq]; rfl
theorem tokV_lname (m : Nat) : tokV (lname m) = !((lname m).head? == some 63) := by
  rw [lname_head]
  have h1 := kind_fT _ (kind_mem (m / 4096 % 16) (by omega))
  unfold tokV
  rw [lname_eq, List.all_cons, h1]
  have h2 : (bits9 m).all fT = true := List.all_eq_true.mpr fun c hc => (bits_fT c (bits9_mem hc)).1
  rw [h2, Bool.and_true]; rfl
theorem open_fr : ∀ i, i < 16 → ∀ f, f < 8 → ∀ e, e < 2 → (kindL.getD i 0 == 100 && decide ((lb f e [83, 115]).getD 2 0 ∈ [120, 115])) = (i == 4 && f % 2 == 1) := by decide +kernel
theorem frB_lname (m : Nat) : frB (lname m) = lopen m := by
  have h := open_fr (m / 4096 % 16) (md16 _) (m / 64 % 8) (md8 _) (m / 2048 % 2) (md2 _)
  unfold frB lopen
  have e0 : (lname m).getD 0 0 = kindL.getD (m / 4096 % 16) 0 := by rw [lname_eq]; rfl
  have e3 : (lname m).getD 3 0 = (lb (m / 64 % 8) (m / 2048 % 2) [83, 115]).getD 2 0 := by rw [lname_eq]; rfl
  rw [e0, e3, h, Nat.mod_mod_of_dvd _ (show 2 ∣ 8 by decide)]
theorem w_fr : ∀ f, f < 8 → ∀ e, e < 2 → ((lb f e [83, 115]).getD 1 0 == 119) = (f / 2 % 2 == 1) := by decide +kernel
theorem wB_lname (m : Nat) : ((lname m).getD 2 0 == 119) = (m / 128 % 2 == 1) := by
  have h := w_fr (m / 64 % 8) (md8 _) (m / 2048 % 2) (md2 _)
  have e2 : (lname m).getD 2 0 = (lb (m / 64 % 8) (m / 2048 % 2) [83, 115]).getD 1 0 := by rw [lname_eq]; rfl
  rw [e2, h, show m / 64 % 8 / 2 % 2 = m / 128 % 2 from by rw [show m / 128 = m / 64 / 2 from (Nat.div_div_eq_div_mul m 64 2).symm]; generalize m / 64 = q; rw [show q % 8 = q % 2 + 2 * (q / 2 % 4) from Nat.mod_mul (a := 2) (b := 4), Nat.add_mul_div_left _ _ (by decide : 0 < 2), Nat.div_eq_of_lt (md2 q), Nat.zero_add, Nat.mod_mod_of_dvd _ (show 2 ∣ 4 by decide)]]
/-! filemode answers the law's words -/
theorem and_pow (m k : Nat) : m &&& 2 ^ k = m / 2 ^ k % 2 * 2 ^ k := by
  have hb : m.testBit k = decide (m / 2 ^ k % 2 = 1) := Nat.testBit_eq_decide_div_mod_eq
  have b : m / 2 ^ k % 2 = 0 ∨ m / 2 ^ k % 2 = 1 := by have : m / 2 ^ k % 2 < 2 := Nat.mod_lt _ (by decide); omega
  rcases b with h | h
  · rw [h, Nat.zero_mul]
    rw [h] at hb
    apply Nat.eq_of_testBit_eq
    intro i
    rw [Nat.testBit_and, Nat.testBit_two_pow, Nat.zero_testBit]
    by_cases e : k = i
    · subst e; rw [hb]; simp
    · simp [e]
  · rw [h, Nat.one_mul]
    rw [h] at hb
    apply Nat.eq_of_testBit_eq
    intro i
    rw [Nat.testBit_and, Nat.testBit_two_pow]
    by_cases e : k = i
    · subst e; rw [hb]; simp
    · simp [e]
theorem and_kind (m : Nat) : m &&& 61440 = m / 4096 % 16 * 4096 := by
  have e : 61440 = 2 ^ 15 ||| (2 ^ 14 ||| (2 ^ 13 ||| 2 ^ 12)) := by decide
  rw [e, Nat.and_or_distrib_left, Nat.and_or_distrib_left, Nat.and_or_distrib_left, and_pow, and_pow, and_pow, and_pow]
  have h : m / 4096 % 16 = m / 2 ^ 15 % 2 * 8 + m / 2 ^ 14 % 2 * 4 + m / 2 ^ 13 % 2 * 2 + m / 2 ^ 12 % 2 := hexs m 12
  rw [h]
  have b : ∀ k, m / 2 ^ k % 2 = 0 ∨ m / 2 ^ k % 2 = 1 := fun k => by have : m / 2 ^ k % 2 < 2 := Nat.mod_lt _ (by decide); omega
  rcases b 15 with h1 | h1 <;> rcases b 14 with h2 | h2 <;> rcases b 13 with h3 | h3 <;> rcases b 12 with h4 | h4 <;> rw [h1, h2, h3, h4] <;> decide
theorem kind_pick : ∀ i, i < 16 → (pick (fun b => i * 4096 == b) [(40960, 108), (49152, 115), (32768, 45), (24576, 98), (16384, 100), (8192, 99), (4096, 112)]).getD 63 = kindL.getD i 0 := by decide +kernel
theorem bit_one (m k : Nat) : (m &&& 2 ^ k == 2 ^ k) = (m / 2 ^ k % 2 == 1) := by
  rw [and_pow]
  have : m / 2 ^ k % 2 < 2 := Nat.mod_lt _ (by decide)
  have p : 0 < 2 ^ k := Nat.two_pow_pos k
  rcases Nat.lt_or_ge (m / 2 ^ k % 2) 1 with h | h
  · have e : m / 2 ^ k % 2 = 0 := by omega
    rw [e]
    have : (0 * 2 ^ k == 2 ^ k) = false := beq_eq_false_iff_ne.mpr (by omega)
    rw [this]; rfl
  · have e : m / 2 ^ k % 2 = 1 := by omega
    rw [e]; simp
theorem bit_two (m j k : Nat) (h : j ≠ k) : (m &&& (2 ^ j ||| 2 ^ k) == (2 ^ j ||| 2 ^ k)) = ((m / 2 ^ j % 2 == 1) && (m / 2 ^ k % 2 == 1)) := by
  rw [← bit_one, ← bit_one, Bool.eq_iff_iff, Bool.and_eq_true, beq_iff_eq, beq_iff_eq, beq_iff_eq]
  constructor
  · intro e
    constructor
    · have this : (m &&& (2 ^ j ||| 2 ^ k)) &&& 2 ^ j = (2 ^ j ||| 2 ^ k) &&& 2 ^ j := congrArg (fun x => x &&& 2 ^ j) e
      rw [Nat.and_assoc, Nat.and_or_distrib_right, Nat.and_self] at this
      rw [show (2 ^ j ||| 2 ^ k &&& 2 ^ j) = 2 ^ j from by
        apply Nat.eq_of_testBit_eq; intro i
        simp only [Nat.testBit_or, Nat.testBit_and]
        cases (2 ^ j).testBit i <;> simp] at this
      exact this
    · have this : (m &&& (2 ^ j ||| 2 ^ k)) &&& 2 ^ k = (2 ^ j ||| 2 ^ k) &&& 2 ^ k := congrArg (fun x => x &&& 2 ^ k) e
      rw [Nat.and_assoc, Nat.and_or_distrib_right, Nat.and_self] at this
      rw [show (2 ^ j &&& 2 ^ k ||| 2 ^ k) = 2 ^ k from by
        apply Nat.eq_of_testBit_eq; intro i
        simp only [Nat.testBit_or, Nat.testBit_and]
        cases (2 ^ k).testBit i <;> simp] at this
      exact this
  · rintro ⟨e1, e2⟩
    rw [Nat.and_or_distrib_left, e1, e2]
theorem fm_row1 (m i b c : Nat) (k : Nat) (hb : b = 2 ^ k) : (pick (fI m (i + 1)) [(b, c)]).getD (dI (i + 1)) = if m / 2 ^ k % 2 = 1 then c else 45 := by
  subst hb
  have e : fI m (i + 1) (2 ^ k) = (m / 2 ^ k % 2 == 1) := by unfold fI; rw [if_neg (by omega), bit_one]
  show (if fI m (i + 1) (2 ^ k) then some c else none).getD (dI (i + 1)) = _
  rw [e]
  by_cases h : m / 2 ^ k % 2 = 1
  · rw [if_pos (beq_iff_eq.mpr h), if_pos h]; rfl
  · rw [if_neg (by rw [beq_iff_eq]; exact h), if_neg h]; rfl
theorem fm_row3 (m i b1 b2 b3 x y z j k : Nat) (hjk : j ≠ k) (h1 : b1 = 2 ^ j ||| 2 ^ k) (h2 : b2 = 2 ^ j) (h3 : b3 = 2 ^ k) :
    (pick (fI m (i + 1)) [(b1, x), (b2, y), (b3, z)]).getD (dI (i + 1)) = if m / 2 ^ j % 2 = 1 then (if m / 2 ^ k % 2 = 1 then x else y) else (if m / 2 ^ k % 2 = 1 then z else 45) := by
  subst h1 h2 h3
  have e1 : fI m (i + 1) (2 ^ j ||| 2 ^ k) = ((m / 2 ^ j % 2 == 1) && (m / 2 ^ k % 2 == 1)) := by unfold fI; rw [if_neg (by omega), bit_two _ _ _ hjk]
  have e2 : fI m (i + 1) (2 ^ j) = (m / 2 ^ j % 2 == 1) := by unfold fI; rw [if_neg (by omega), bit_one]
  have e3 : fI m (i + 1) (2 ^ k) = (m / 2 ^ k % 2 == 1) := by unfold fI; rw [if_neg (by omega), bit_one]
  show (if fI m (i + 1) (2 ^ j ||| 2 ^ k) then some x else if fI m (i + 1) (2 ^ j) then some y else if fI m (i + 1) (2 ^ k) then some z else none).getD (dI (i + 1)) = _
  rw [e1, e2, e3]
  have b : ∀ k, m / 2 ^ k % 2 = 0 ∨ m / 2 ^ k % 2 = 1 := fun k => by have : m / 2 ^ k % 2 < 2 := Nat.mod_lt _ (by decide); omega
  rcases b j with hj | hj <;> rcases b k with hk | hk <;> rw [hj, hk] <;> rfl
theorem fm_bits : ∀ (r : Nat) (p w x s : Nat), p < 2 → w < 2 → x < 2 → s < 2 → (r = 83 ∨ r = 84) →
    lb (p * 4 + w * 2 + x) s [r, r + 32] = [if p = 1 then 114 else 45, if w = 1 then 119 else 45, if s = 1 then (if x = 1 then r + 32 else r) else (if x = 1 then 120 else 45)] := by
  intro r p w x s hp hw hx hs hr
  rcases hr with rfl | rfl <;> revert s <;> revert x <;> revert w <;> revert p <;> decide
theorem fmo_lname (m : Nat) : fmo m = lname m := by
  have h0 : (pick (fI m 0) [(40960, 108), (49152, 115), (32768, 45), (24576, 98), (16384, 100), (8192, 99), (4096, 112)]).getD (dI 0) = kindL.getD (m / 4096 % 16) 0 := by
    have : fI m 0 = fun b => m / 4096 % 16 * 4096 == b := by funext b; unfold fI; rw [if_pos rfl, and_kind]
    rw [this]; exact kind_pick _ (md16 _)
  have b1 := fm_bits 83 (m / 2 ^ 8 % 2) (m / 2 ^ 7 % 2) (m / 2 ^ 6 % 2) (m / 2 ^ 11 % 2) (md2 _) (md2 _) (md2 _) (md2 _) (.inl rfl)
  have b2 := fm_bits 83 (m / 2 ^ 5 % 2) (m / 2 ^ 4 % 2) (m / 2 ^ 3 % 2) (m / 2 ^ 10 % 2) (md2 _) (md2 _) (md2 _) (md2 _) (.inl rfl)
  have b3 := fm_bits 84 (m / 2 ^ 2 % 2) (m / 2 ^ 1 % 2) (m / 2 ^ 0 % 2) (m / 2 ^ 9 % 2) (md2 _) (md2 _) (md2 _) (md2 _) (.inr rfl)
  rw [lname_eq]
  unfold bits9
  rw [lbits_eq, lbits_eq, lbits_eq, show m / 64 % 8 = m / 2 ^ 8 % 2 * 4 + m / 2 ^ 7 % 2 * 2 + m / 2 ^ 6 % 2 from octs m 6, show m / 8 % 8 = m / 2 ^ 5 % 2 * 4 + m / 2 ^ 4 % 2 * 2 + m / 2 ^ 3 % 2 from octs m 3,
    show m / 1 % 8 = m / 2 ^ 2 % 2 * 4 + m / 2 ^ 1 % 2 * 2 + m / 2 ^ 0 % 2 from octs m 0, show m / 2048 % 2 = m / 2 ^ 11 % 2 from rfl, show m / 1024 % 2 = m / 2 ^ 10 % 2 from rfl, show m / 512 % 2 = m / 2 ^ 9 % 2 from rfl,
    show ([83, 115] : List Nat) = [83, 83 + 32] from rfl, show ([84, 116] : List Nat) = [84, 84 + 32] from rfl, b1, b2, b3]
  show [_, _, _, _, _, _, _, _, _, _] = [_, _, _, _, _, _, _, _, _, _]
  rw [h0, fm_row1 m 0 256 114 8 rfl, fm_row1 m 1 128 119 7 rfl, fm_row3 m 2 2112 2048 64 115 83 120 11 6 (by decide) rfl rfl rfl, fm_row1 m 3 32 114 5 rfl, fm_row1 m 4 16 119 4 rfl, fm_row3 m 5 1032 1024 8 115 83 120 10 3 (by decide) rfl rfl rfl,
    fm_row1 m 6 4 114 2 rfl, fm_row1 m 7 2 119 1 rfl, fm_row3 m 8 513 512 1 116 84 120 9 0 (by decide) rfl rfl rfl]
theorem imode (m : Nat) : m &&& 4095 = m % 4096 := Nat.and_two_pow_sub_one_eq_mod m 12
theorem flat_id (z : List Nat) : ∀ {l : List Nat}, (∀ c ∈ l, c ≠ 63) → l.flatMap (fun d => if d = 63 then z else [d]) = l
  | [], _ => rfl
  | c :: l, h => by
    rw [List.flatMap_cons, if_neg (h c (List.mem_cons_self ..)), flat_id z fun d hd => h d (List.mem_cons_of_mem _ hd)]; rfl
theorem chmod (old m : Nat) : rpl [63] [(lname old).getD 0 0] (fmo (m &&& 4095)) = lname (old / 4096 * 4096 + m % 4096) := by
  rw [rpl_one, fmo_lname, imode, lname_eq (m % 4096), lname_eq (old / 4096 * 4096 + m % 4096)]
  have e0 : (lname old).getD 0 0 = kindL.getD (old / 4096 % 16) 0 := by rw [lname_eq]; rfl
  have e1 : m % 4096 / 4096 % 16 = 0 := by rw [Nat.div_eq_of_lt (Nat.mod_lt _ (by decide))]
  have e2 : (old / 4096 * 4096 + m % 4096) / 4096 % 16 = old / 4096 % 16 := by rw [Nat.add_comm, Nat.add_mul_div_right _ _ (by decide : 0 < 4096), Nat.div_eq_of_lt (Nat.mod_lt _ (by decide)), Nat.zero_add]
  have e3 : bits9 (old / 4096 * 4096 + m % 4096) = bits9 (m % 4096) := by
    unfold bits9
    rw [lbits_eq, lbits_eq, lbits_eq, lbits_eq, lbits_eq, lbits_eq]
    rw [show (old / 4096 * 4096 + m % 4096) / 64 % 8 = m % 4096 / 64 % 8 from low _ _ 64 8 8 (by decide), show (old / 4096 * 4096 + m % 4096) / 8 % 8 = m % 4096 / 8 % 8 from low _ _ 8 8 64 (by decide), show (old / 4096 * 4096 + m % 4096) / 1 % 8 = m % 4096 / 1 % 8 from low _ _ 1 8 512 (by decide),
      show (old / 4096 * 4096 + m % 4096) / 2048 % 2 = m % 4096 / 2048 % 2 from low _ _ 2048 2 1 (by decide), show (old / 4096 * 4096 + m % 4096) / 1024 % 2 = m % 4096 / 1024 % 2 from low _ _ 1024 2 2 (by decide), show (old / 4096 * 4096 + m % 4096) / 512 % 2 = m % 4096 / 512 % 2 from low _ _ 512 2 4 (by decide)]
  rw [e0, e1, e2, e3, List.flatMap_cons, show kindL.getD 0 0 = 63 from rfl, if_pos rfl, flat_id _ fun c hc => (bits_fT c (bits9_mem hc)).2]
  rfl
end Mine
end
section
set_option tactic.hygienic false
open PySem PySem.Calls PySem.W PyProof.Rows
namespace Mine
open PySem.Builtin PySem.Builtin.Str
/-! the marks of the folders turned: str.replace of three signs -/
noncomputable def Z6 : List Nat := [32, 61, 32, 34, 92, 100]
noncomputable def rp3 : List Nat → List Nat
  | 61 :: 34 :: 100 :: r => Z6 ++ rp3 r
  | x :: r => x :: rp3 r
  | [] => []
set_option tactic.hygienic true in
theorem rp3_no {c : Nat} {t : List Nat} (h : ∀ r, c :: t ≠ 61 :: 34 :: 100 :: r) : rp3 (c :: t) = c :: rp3 t := by
  conv => lhs; unfold rp3
  split
  · rename_i r e; exact absurd e (h r)
  · rename_i x r _ e; cases e; rfl
  · rename_i e; cases e
theorem rp3_yes (r : List Nat) : rp3 (61 :: 34 :: 100 :: r) = Z6 ++ rp3 r := by rw [rp3]
theorem at3 {l : List Nat} {k : Nat} : StrLaws.At (S l) (S [61, 34, 100]) (S l).length k ↔ ∃ r, l.drop k = 61 :: 34 :: 100 :: r := by
  unfold StrLaws.At
  rw [StrLaws.subAt_eq, S_length, S_length, S_toList, S_toList]
  show (k + 3 ≤ l.length ∧ ((l.drop k).take 3 == [61, 34, 100]) = true) ↔ _
  rw [beq_iff_eq]
  constructor
  · rintro ⟨h1, h2⟩
    refine ⟨(l.drop k).drop 3, ?_⟩
    have := List.take_append_drop 3 (l.drop k)
    rw [h2] at this
    exact this.symm
  · rintro ⟨r, e⟩
    have := congrArg List.length e
    simp at this
    exact ⟨by omega, by rw [e]; rfl⟩
theorem scanA (l : List Nat) : ∀ (d a : Nat), a + d ≤ l.length → (∀ k, a ≤ k → k < a + d → ¬ StrLaws.At (S l) (S [61, 34, 100]) (S l).length k) → rp3 (l.drop a) = (l.drop a).take d ++ rp3 (l.drop (a + d))
  | 0, a, _, _ => by simp
  | d + 1, a, h, hn => by
    have ha : a < l.length := by omega
    have e : l.drop a = l[a] :: l.drop (a + 1) := List.drop_eq_getElem_cons ha
    have h0 : ∀ r, l[a] :: l.drop (a + 1) ≠ 61 :: 34 :: 100 :: r := fun r q => hn a (Nat.le_refl _) (by omega) (at3.mpr ⟨r, e.trans q⟩)
    have ih := scanA l d (a + 1) (by omega) fun k h1 h2 => hn k (by omega) (by omega)
    rw [e, rp3_no h0, ih, List.take_succ_cons, show a + 1 + d = a + (d + 1) from by omega]
    rfl
theorem scanC (l : List Nat) : ∀ (cuts : List Nat) (a f : Nat), a ≤ l.length → StrLaws.ChainG (S l) (S [61, 34, 100]) (S l).length a cuts f → (∀ k, f ≤ k → ¬ StrLaws.At (S l) (S [61, 34, 100]) (S l).length k) →
    interc Z6 ((StrLaws.partsFrom (S l) 3 a cuts).map fun x => x.cps.toList) = rp3 (l.drop a)
  | [], a, f, ha, hc, hn => by
    have e : f = a := hc
    subst e
    show (strSub (S l) f (S l).length).cps.toList = _
    rw [StrLaws.strSub_toList, scanA l (l.length - f) f (by omega) (fun k h1 _ => hn k h1), S_toList, S_length]
    rw [show f + (l.length - f) = l.length from by omega, List.drop_length]
    simp [rp3]
  | c :: r, a, f, ha, hc, hn => by
    obtain ⟨h1, h2, h3, h4⟩ := hc
    obtain ⟨s, es⟩ := at3.mp h2
    have hl := congrArg List.length es
    simp at hl
    have ih := scanC l r (c + 3) f (by omega) h4 hn
    have hd : l.drop (c + 3) = s := by
      rw [← List.drop_drop, es]; rfl
    obtain ⟨p, q, ep⟩ := StrLaws.partsFrom_ne (S l) 3 (c + 3) r
    show interc Z6 ((strSub (S l) a c).cps.toList :: (StrLaws.partsFrom (S l) 3 (c + 3) r).map fun x => x.cps.toList) = _
    rw [ep] at ih ⊢
    show (strSub (S l) a c).cps.toList ++ Z6 ++ interc Z6 ((p :: q).map fun x => x.cps.toList) = _
    rw [ih, StrLaws.strSub_toList, S_toList, scanA l (c - a) a (by omega) (fun k k1 k2 => h3 k k1 (by omega)), show a + (c - a) = c from by omega, es, rp3_yes, hd, List.append_assoc]
set_option tactic.hygienic true in
theorem rpl_rp3 (l : List Nat) : rpl [61, 34, 100] [32, 61, 32, 34, 92, 100] l = rp3 l := by
  obtain ⟨f, hG, hn⟩ := StrLaws.occ_tight (S l) (S [61, 34, 100]) (by decide)
  have h := scanC l _ 0 f (Nat.zero_le _) hG hn
  rw [List.drop_zero] at h
  rw [← h]
  unfold rpl Txt.replace
  have h1 : ((S [61, 34, 100]).length == 0) = false := rfl
  simp only [h1, Bool.false_and, Bool.or_false]
  have gl : ∀ cuts, (glued (S [32, 61, 32, 34, 92, 100]) (partsBetween (S l) cuts (S [61, 34, 100]).length)).cps.toList = interc Z6 ((StrLaws.partsFrom (S l) 3 0 cuts).map fun x => x.cps.toList) := fun cuts => by
    rw [StrLaws.glued_eq_join, StrLaws.partsBetween_eq]
    show (Str.join (S Z6) (StrLaws.partsFrom (S l) 3 0 cuts)).cps.toList = _
    have e : StrLaws.partsFrom (S l) 3 0 cuts = ((StrLaws.partsFrom (S l) 3 0 cuts).map fun x => x.cps.toList).map S := by
      rw [List.map_map]
      conv => lhs; rw [← List.map_id (StrLaws.partsFrom (S l) 3 0 cuts)]
      exact List.map_congr_left fun x _ => S_of x
    conv => lhs; rw [e, str_join]
  split
  · rename_i he
    rw [List.isEmpty_iff.mp he]
    show l = (strSub (S l) 0 (S l).length).cps.toList
    rw [StrLaws.sub_whole]
  · exact gl _
theorem rp3_skip {l : List Nat} (r : List Nat) (h : ∀ c ∈ l, c ≠ 61) : rp3 (l ++ r) = l ++ rp3 r := by
  induction l with
  | nil => rfl
  | cons c t ih =>
    show rp3 (c :: (t ++ r)) = _
    rw [rp3_no (fun s e => h c (List.mem_cons_self ..) (by injection e)), ih fun d hd => h d (List.mem_cons_of_mem _ hd)]; rfl
theorem esc_cons (c : Nat) (t : List Nat) : esc (c :: t) = (if fE c then [92, c] else [c]) ++ esc t := rfl
theorem rp3_esc : ∀ (t r : List Nat), r.head? ≠ some 100 → rp3 (esc t ++ 34 :: r) = esc t ++ 34 :: rp3 r
  | [], r, _ => by
    show rp3 (34 :: r) = 34 :: rp3 r
    exact rp3_no fun s e => by injection e with e1; exact absurd e1 (by decide)
  | c :: t, r, hr => by
    have ih := rp3_esc t r hr
    rw [esc_cons]
    cases hc : fE c with
    | true =>
      have hc61 : c ≠ 61 := by rintro rfl; exact absurd hc (by decide)
      rw [if_pos rfl]
      show rp3 (92 :: c :: (esc t ++ 34 :: r)) = 92 :: c :: (esc t ++ 34 :: rp3 r)
      rw [rp3_no (fun s e => by injection e with e1; exact absurd e1 (by decide)), rp3_no (fun s e => by injection e with e1; exact hc61 e1), ih]
    | false =>
      rw [if_neg (by decide)]
      show rp3 (c :: (esc t ++ 34 :: r)) = c :: (esc t ++ 34 :: rp3 r)
      rw [rp3_no (fun s e => ?_), ih]
      injection e with e1 e2
      cases t with
      | nil =>
        have e3 : 34 :: r = 34 :: 100 :: s := e2
        injection e3 with _ e4
        exact hr (by rw [e4]; rfl)
      | cons d u =>
        rw [esc_cons] at e2
        cases hd : fE d with
        | true => rw [hd] at e2; injection e2 with e3; exact absurd e3 (by decide)
        | false => rw [hd] at e2; injection e2 with e3; subst e3; exact absurd hd (by decide)
/-! a node's text is read as its words -/
noncomputable def NM : List (List Nat) := [[97], [98, 34], [99, 92]]
theorem nm_ok : ∀ x ∈ NM, x ≠ [] ∧ (∀ c ∈ x, fTok c = true ∧ c ≠ 61) ∧ (∀ c, x.head? = some c → fJ c = false) ∧ x.length ≤ 2 := by decide +kernel
/-- a mode's words, and more behind a semicolon -/
noncomputable def NT (t : List Nat) : Prop := ∃ m rest, t = lname m ++ rest ∧ (rest = [] ∨ ∃ r, rest = 59 :: r)
theorem NT.ne {t : List Nat} (h : NT t) : t ≠ [] := by
  obtain ⟨m, rest, rfl, _⟩ := h
  rw [lname_eq]; simp
theorem NT.tok {t : List Nat} (h : NT t) : tokV t = !big t := by
  obtain ⟨m, rest, rfl, h | ⟨r, h⟩⟩ := h
  · subst h
    rw [List.append_nil, tokV_lname]
    unfold big
    rw [lname_len]; rfl
  · subst h
    have h1 : tokV (lname m ++ 59 :: r) = false := by
      unfold tokV
      rw [List.all_append, List.all_cons, show fT 59 = false from by decide +kernel]; simp
    have h2 : big (lname m ++ 59 :: r) = true := by
      unfold big
      rw [decide_eq_true (by simp [lname_len])]; rfl
    rw [h1, h2]; rfl
theorem NT.val {t : List Nat} (h : NT t) : valT t = qv t := by
  unfold valT qv; rw [h.tok]; cases big t <;> rfl
theorem NT.small {t : List Nat} (h : NT t) (hb : big t = false) : ∃ m, t = lname m := by
  obtain ⟨m, rest, rfl, h | ⟨r, h⟩⟩ := h
  · exact ⟨m, by rw [h, List.append_nil]⟩
  · subst h
    unfold big at hb
    rw [decide_eq_true (by simp [lname_len])] at hb; cases hb
theorem NT.head {t : List Nat} (h : NT t) : ∃ c t', t = c :: t' ∧ c ∈ LC := by
  obtain ⟨m, rest, rfl, _⟩ := h
  exact ⟨_, _, by rw [lname_eq]; rfl, kind_mem _ (by omega)⟩
noncomputable def kidS (p : List Nat × List Nat) : List Nat := [59, 32] ++ p.1 ++ [61] ++ qv p.2
noncomputable def KidOk (p : List Nat × List Nat) : Prop := p.1 ∈ NM ∧ NT p.2
theorem semi (c : Nat) (h : c = 59) : fTok c = false ∧ sp c = false ∧ c ≠ 61 ∧ fVal c = false ∧ c ≠ 44 ∧ c ≠ 100 := by subst h; decide +kernel
theorem kids_head (ks : List (List Nat × List Nat)) : ∀ c, (ks.flatMap kidS).head? = some c → c = 59 := by
  cases ks with
  | nil => intro c h; cases h
  | cons p r => intro c h; simp [kidS] at h; exact h.symm
theorem qok_of {items : List (Nat × List Nat)} (h : EOk items) : QOk items := fun x hx => by
  obtain ⟨h1, h2⟩ := h x hx
  refine ⟨?_, fun d hd => ?_⟩
  · intro e; rw [e] at h1; exact absurd h1 (by decide)
  · have := h2 d hd
    unfold fE at this; unfold fQ; rw [this]; rfl
theorem fq_of {b : List Nat} (h : ∀ d ∈ b, fE d = false) : ∀ d ∈ b, fQ d = true := fun d hd => by
  have := h d hd
  unfold fE at this; unfold fQ; rw [this]; rfl
theorem e_q (items : List (Nat × List Nat)) : ebody items = qbody items := rfl
/-- one child -/
theorem tx_kid {x t rest : List Nat} {ps : List Pr} {m : Nat} (hx : x ∈ NM) (ht : NT t) (hr : ∀ c, rest.head? = some c → c = 59) (h : Tx rest ps m) : Tx ([59, 32] ++ (x ++ 61 :: (qv t ++ rest))) ((x, some t) :: ps) (m + 1 + 1) := by
  obtain ⟨n1, n2, n3, _⟩ := nm_ok x hx
  have hh : ∀ c, (x ++ 61 :: (qv t ++ rest)).head? = some c → fJ c = false := fun c hc => by
    cases x with
    | nil => exact absurd rfl n1
    | cons a b => exact n3 c hc
  refine Tx.junk (by simp) (by decide +kernel) hh (fun c hc => ?_) ?_
  · have : c = 59 := by simpa using hc.symm
    exact ⟨(semi c this).2.1, (semi c this).1, (semi c this).2.2.2.2.1⟩
  · cases hb : big t with
    | false =>
      obtain ⟨md, rfl⟩ := ht.small hb
      have e : qv (lname md) = lname md := by unfold qv; rw [hb]; rfl
      rw [e]
      refine Tx.bare n1 (fun c hc => (n2 c hc).1) ht.ne (fun c hc => ?_) (fun c hc => (lname_ok hc).2.1) (fun c hc => ⟨(semi c (hr c hc)).2.2.2.1, (semi c (hr c hc)).2.1⟩) h
      exact (lname_ok (List.mem_of_head? hc)).2.2.2.1
    | true =>
      have e : qv t = 34 :: (esc t ++ [34]) := by unfold qv; rw [hb]; rfl
      obtain ⟨b, items, k1, k2, k3, k4, _⟩ := edec t
      have e2 : x ++ 61 :: (qv t ++ rest) = x ++ ([] ++ (61 :: ([] ++ (34 :: (b ++ (qbody items ++ 34 :: rest)))))) := by
        rw [e, k4, e_q]; simp
      rw [e2]
      have := Tx.quo (s1 := []) (s2 := []) (rest := rest) n1 (fun c hc => (n2 c hc).1) (by simp) (by simp) (fq_of k2) (qok_of k1) h
      rw [← k3] at this
      exact this
theorem tx_kids : ∀ (ks : List (List Nat × List Nat)), (∀ p ∈ ks, KidOk p) → ∃ m, Tx (ks.flatMap kidS) (ks.map fun p => (p.1, some p.2)) m
  | [], _ => ⟨0, Tx.nil⟩
  | p :: ks, h => by
    obtain ⟨m, ih⟩ := tx_kids ks fun q hq => h q (List.mem_cons_of_mem _ hq)
    have hp := h p (List.mem_cons_self ..)
    refine ⟨m + 1 + 1, ?_⟩
    have := tx_kid hp.1 hp.2 (kids_head ks) ih
    rw [List.flatMap_cons, List.map_cons]
    have e : kidS p ++ ks.flatMap kidS = [59, 32] ++ (p.1 ++ 61 :: (qv p.2 ++ ks.flatMap kidS)) := by unfold kidS; simp
    rw [e]; exact this
theorem tx_head {md : Nat} {rest : List Nat} {ps : List Pr} {m : Nat} (hr : ∀ c, rest.head? = some c → c = 59) (h : Tx rest ps m) : Tx (lname md ++ rest) ((lname md, none) :: ps) (m + 1) :=
  Tx.none (by rw [lname_eq]; simp) (fun c hc => (lname_ok hc).1) (fun c hc => (semi c (hr c hc)).1) (fun c hc => ⟨(semi c (hr c hc)).2.1, (semi c (hr c hc)).2.2.1⟩) h
theorem tx_node (md : Nat) (ks : List (List Nat × List Nat)) (h : ∀ p ∈ ks, KidOk p) : ∃ m, Tx (lname md ++ ks.flatMap kidS) ((lname md, none) :: ks.map fun p => (p.1, some p.2)) m := by
  obtain ⟨m, hm⟩ := tx_kids ks h
  exact ⟨m + 1, tx_head (kids_head ks) hm⟩
theorem rp3_head : ∀ (l : List Nat), (∀ c, l.head? = some c → c = 59) → ∀ c, (rp3 l).head? = some c → c = 59
  | [], _, c, hc => by rw [rp3] at hc; cases hc
  | x :: r, h, c, hc => by
    have : x = 59 := h x rfl
    subst this
    rw [rp3_no (fun s e => by injection e with e1; exact absurd e1 (by decide))] at hc
    simpa using hc.symm
/-- one child, its mark turned -/
theorem tx_kid3 {x t rest : List Nat} {ps : List Pr} {m : Nat} (hx : x ∈ NM) (ht : NT t) (hr : ∀ c, rest.head? = some c → c = 59) (h : Tx (rp3 rest) ps m) : Tx (rp3 ([59, 32] ++ (x ++ 61 :: (qv t ++ rest)))) ((x, some t) :: ps) (m + 1 + 1) := by
  obtain ⟨n1, n2, n3, _⟩ := nm_ok x hx
  have hr3 := rp3_head rest hr
  have e0 : rp3 ([59, 32] ++ (x ++ 61 :: (qv t ++ rest))) = [59, 32] ++ (x ++ rp3 (61 :: (qv t ++ rest))) := by
    rw [rp3_skip _ (by decide), rp3_skip _ fun c hc => (n2 c hc).2]
  rw [e0]
  have hh : ∀ y, ∀ c, (x ++ y).head? = some c → fJ c = false := fun y c hc => by
    cases x with
    | nil => exact absurd rfl n1
    | cons a b => exact n3 c hc
  refine Tx.junk (by simp) (by decide +kernel) (hh _) (fun c hc => ?_) ?_
  · have : c = 59 := by simpa using hc.symm
    exact ⟨(semi c this).2.1, (semi c this).1, (semi c this).2.2.2.2.1⟩
  · cases hb : big t with
    | false =>
      obtain ⟨md, rfl⟩ := ht.small hb
      have e : qv (lname md) = lname md := by unfold qv; rw [hb]; rfl
      have e1 : rp3 (61 :: (lname md ++ rest)) = 61 :: (lname md ++ rp3 rest) := by
        rw [rp3_no, rp3_skip _ fun c hc => (lname_ok hc).2.2.1]
        intro s q
        injection q with _ q
        have q1 : (lname md ++ rest).head? = some 34 := by rw [q]; rfl
        rw [lname_eq] at q1
        have q2 : kindL.getD (md / 4096 % 16) 0 = 34 := by simpa using q1
        exact (lname_ok (m := md) (c := kindL.getD (md / 4096 % 16) 0) (by rw [lname_eq]; exact List.mem_cons_self ..)).2.2.2.1 q2
      rw [e, e1]
      refine Tx.bare n1 (fun c hc => (n2 c hc).1) ht.ne (fun c hc => ?_) (fun c hc => (lname_ok hc).2.1) (fun c hc => ⟨(semi c (hr3 c hc)).2.2.2.1, (semi c (hr3 c hc)).2.1⟩) h
      exact (lname_ok (List.mem_of_head? hc)).2.2.2.1
    | true =>
      have e : qv t = 34 :: (esc t ++ [34]) := by unfold qv; rw [hb]; rfl
      obtain ⟨c, t', et, hc⟩ := ht.head
      have hcE : fE c = false := (chars_tok c (List.mem_append_left _ hc)).2.2.2.2
      have hrest : rest.head? ≠ some 100 := fun q => by have := hr _ q; exact absurd this (by decide)
      have ee : esc t = c :: esc t' := by rw [et, esc_cons, hcE]; rfl
      by_cases h100 : c = 100
      · have e1 : rp3 (61 :: (qv t ++ rest)) = Z6 ++ (esc t' ++ 34 :: rp3 rest) := by
          rw [e, ee, h100]
          show rp3 (61 :: 34 :: 100 :: ((esc t' ++ [34]) ++ rest)) = _
          rw [rp3_yes, List.append_assoc]
          show Z6 ++ rp3 (esc t' ++ 34 :: rest) = _
          rw [rp3_esc t' rest hrest]
        obtain ⟨b, items, k1, k2, k3, k4, _⟩ := edec t'
        have e2 : x ++ (Z6 ++ (esc t' ++ 34 :: rp3 rest)) = x ++ ([32] ++ (61 :: ([32] ++ (34 :: ([] ++ (qbody ((100, b) :: items) ++ 34 :: rp3 rest)))))) := by
          rw [k4, e_q]; simp [Z6, qbody]
        rw [e1, e2]
        have := Tx.quo (tok := x) (s1 := [32]) (s2 := [32]) (b0 := []) (items := (100, b) :: items) (rest := rp3 rest) n1 (fun c hc => (n2 c hc).1) (by decide +kernel) (by decide +kernel) (by simp) (fun y hy => by
          rcases List.mem_cons.mp hy with rfl | hy
          · exact ⟨(by show (100 : Nat) ≠ 10; decide), fq_of k2⟩
          · exact qok_of k1 y hy) h
        have e3 : ([] : List Nat) ++ ubody ((100, b) :: items) = t := by rw [et, h100, k3]; rfl
        rw [e3] at this
        exact this
      · have e1 : rp3 (61 :: (qv t ++ rest)) = 61 :: 34 :: (esc t ++ 34 :: rp3 rest) := by
          rw [e]
          show rp3 (61 :: 34 :: ((esc t ++ [34]) ++ rest)) = _
          rw [List.append_assoc]
          show rp3 (61 :: 34 :: (esc t ++ 34 :: rest)) = _
          rw [rp3_no, rp3_no, rp3_esc t rest hrest]
          · intro s q; injection q with q1; exact absurd q1 (by decide)
          · intro s q
            rw [ee] at q
            injection q with _ q; injection q with _ q; injection q with q1
            exact h100 q1
        obtain ⟨b, items, k1, k2, k3, k4, _⟩ := edec t
        have e2 : x ++ (61 :: 34 :: (esc t ++ 34 :: rp3 rest)) = x ++ ([] ++ (61 :: ([] ++ (34 :: (b ++ (qbody items ++ 34 :: rp3 rest)))))) := by
          rw [k4, e_q]; simp
        rw [e1, e2]
        have := Tx.quo (s1 := []) (s2 := []) (rest := rp3 rest) n1 (fun c hc => (n2 c hc).1) (by simp) (by simp) (fq_of k2) (qok_of k1) h
        rw [← k3] at this
        exact this
theorem tx_kids3 : ∀ (ks : List (List Nat × List Nat)), (∀ p ∈ ks, KidOk p) → ∃ m, Tx (rp3 (ks.flatMap kidS)) (ks.map fun p => (p.1, some p.2)) m
  | [], _ => ⟨0, by rw [List.flatMap_nil, rp3]; exact Tx.nil⟩
  | p :: ks, h => by
    obtain ⟨m, ih⟩ := tx_kids3 ks fun q hq => h q (List.mem_cons_of_mem _ hq)
    have hp := h p (List.mem_cons_self ..)
    refine ⟨m + 1 + 1, ?_⟩
    have := tx_kid3 hp.1 hp.2 (kids_head ks) ih
    rw [List.flatMap_cons, List.map_cons]
    have e : kidS p ++ ks.flatMap kidS = [59, 32] ++ (p.1 ++ 61 :: (qv p.2 ++ ks.flatMap kidS)) := by unfold kidS; simp
    rw [e]; exact this
theorem tx_root (md : Nat) (ks : List (List Nat × List Nat)) (h : ∀ p ∈ ks, KidOk p) : ∃ m, Tx (rpl [61, 34, 100] [32, 61, 32, 34, 92, 100] (lname md ++ ks.flatMap kidS)) ((lname md, none) :: ks.map fun p => (p.1, some p.2)) m := by
  obtain ⟨m, hm⟩ := tx_kids3 ks h
  rw [rpl_rp3, rp3_skip _ fun c hc => (lname_ok hc).2.2.1]
  exact ⟨m + 1, tx_head (rp3_head _ (kids_head ks)) hm⟩
set_option tactic.hygienic true in
theorem rp3_len : ∀ (n : Nat) (l : List Nat), l.length ≤ n → (rp3 l).length ≤ 2 * l.length
  | 0, l, h => by
    have : l = [] := List.length_eq_zero_iff.mp (by omega)
    subst this; rw [rp3]; simp
  | n + 1, l, h => by
    unfold rp3
    split
    · rename_i r
      have := rp3_len n r (by simp at h; omega)
      simp [Z6] at this ⊢; omega
    · rename_i x r _
      have := rp3_len n r (by simp at h; omega)
      simp at this ⊢; omega
    · simp
end Mine
end
section
set_option tactic.hygienic false
open PySem PySem.Calls PySem.W PyProof.Rows
namespace Mine
/-! ways and names -/
noncomputable def Fn (acc : List (List Nat)) (l : List Nat) : List (List Nat) := (splitC 47 l).foldl nst acc
theorem splitC_cons (c x : Nat) (r : List Nat) : splitC c (x :: r) = if x = c then [] :: splitC c r else match splitC c r with
    | p :: ps => (x :: p) :: ps
    | [] => [[x]] := by
  (conv => lhs; unfold splitC) <;> split <;> first | rfl | (cases splitC c r <;> rfl)
theorem splitC_app (c : Nat) : ∀ (u v : List Nat), splitC c (u ++ c :: v) = splitC c u ++ splitC c v
  | [], v => by
    show splitC c (c :: v) = [[]] ++ splitC c v
    rw [splitC_cons, if_pos rfl]; rfl
  | x :: u, v => by
    have ih := splitC_app c u v
    show splitC c (x :: (u ++ c :: v)) = _
    rw [splitC_cons, splitC_cons c x u, ih]
    by_cases h : x = c
    · rw [if_pos h, if_pos h]; rfl
    · rw [if_neg h, if_neg h]
      cases e : splitC c u with
      | nil => exact absurd e (splitC_ne c u)
      | cons p ps => rfl
theorem Fn_app (acc : List (List Nat)) (u v : List Nat) : Fn acc (u ++ 47 :: v) = Fn (Fn acc u) v := by
  unfold Fn; rw [splitC_app, List.foldl_append]
theorem Fn_nil (acc : List (List Nat)) : Fn acc [] = acc := by
  show nst acc [] = acc
  unfold nst; rw [if_pos (.inl rfl)]
/-- a way from the root, without two slashes at its front -/
noncomputable def Way (P : List Nat) (ns : List (List Nat)) : Prop := ∃ t, P = 47 :: t ∧ t.head? ≠ some 47 ∧ Fn [] t = ns
theorem way_rel {P a : List Nat} {ns : List (List Nat)} (h : Way P ns) (ha : a.head? ≠ some 47) : Way (pj P a) (Fn ns a) := by
  obtain ⟨t, rfl, ht, hF⟩ := h
  unfold pj
  rw [if_neg ha]
  by_cases hl : (47 :: t).getLast? = some 47
  · rw [if_pos hl]
    rcases List.eq_nil_or_concat t with rfl | ⟨u, c, rfl⟩
    · refine ⟨a, rfl, ha, ?_⟩
      rw [← hF, Fn_nil]
    · rw [List.concat_eq_append] at *
      have hc : c = 47 := by
        rw [show 47 :: (u ++ [c]) = (47 :: u) ++ [c] from rfl, List.getLast?_append] at hl
        simpa using hl
      subst hc
      refine ⟨u ++ [47] ++ a, rfl, ?_, ?_⟩
      · cases u with
        | nil => exact absurd rfl ht
        | cons x r => exact ht
      · rw [← hF, List.append_assoc]
        show Fn [] (u ++ 47 :: a) = Fn (Fn [] (u ++ 47 :: [])) a
        rw [Fn_app, Fn_app, Fn_nil]
  · rw [if_neg hl]
    refine ⟨t ++ 47 :: a, rfl, ?_, by rw [Fn_app, hF]⟩
    cases t with
    | nil => exact absurd rfl hl
    | cons x r => exact ht
theorem way_abs {P a : List Nat} {ns : List (List Nat)} (h : Way (47 :: a) ns) : Way (pj P (47 :: a)) ns := by
  unfold pj; rw [if_pos (show (47 :: a).head? = some 47 from rfl)]; exact h
theorem part_cases (i : Nat) (h : i < 8) : partAt i ∈ partsP := by
  unfold partAt
  rw [List.getD_eq_getElem?_getD, List.getElem?_eq_getElem (show i < partsP.length from h)]
  exact List.getElem_mem _
noncomputable def Good (ns : List (List Nat)) : Prop := ∀ x ∈ ns, x ∈ NM
theorem nm_nst {acc : List (List Nat)} : ∀ x ∈ NM, nst acc x = acc ++ [x] := fun x hx => by
  have : x ≠ [] ∧ x ≠ [46] ∧ x ≠ [46, 46] := by revert x; decide
  unfold nst; rw [if_neg (by simp [this.1, this.2.1]), if_neg this.2.2]
theorem take_sub {α : Type} (l : List α) : l.take (l.length - 1) = l.dropLast := (List.dropLast_eq_take ..).symm
theorem way_part {P : List Nat} {ns : List (List Nat)} (h : Way P ns) (hn : ns.length ≤ 9) {p : List Nat × Nat × List (List Nat)} (hp : p ∈ partsP) : Way (pj P p.1) (stepN ns p) := by
  have two : ∀ (x y : List Nat), Fn ns (x ++ 47 :: y) = Fn (Fn ns x) y := fun x y => Fn_app ns x y
  simp only [partsP, List.mem_cons, List.not_mem_nil, or_false] at hp
  have one : ∀ x ∈ NM, splitC 47 x = [x] := by decide
  have fone : ∀ (acc : List (List Nat)) (x : List Nat), x ∈ NM → Fn acc x = acc ++ [x] := fun acc x hx => by
    unfold Fn; rw [one x hx]; exact nm_nst x hx
  rcases hp with rfl | rfl | rfl | rfl | rfl | rfl | rfl | rfl
  · have := way_rel h (a := []) (by simp)
    rw [Fn_nil] at this
    have e : stepN ns ([], 0, []) = ns := by unfold stepN; simp
    rw [e]; exact this
  · have := way_rel h (a := [97]) (by decide)
    rw [fone _ _ (by decide)] at this
    have e : stepN ns ([97], 0, [[97]]) = ns ++ [[97]] := by unfold stepN; simp
    rw [e]; exact this
  · have := way_rel h (a := [46, 46]) (by decide)
    have e0 : Fn ns [46, 46] = ns.dropLast := rfl
    have e : stepN ns ([46, 46], 1, []) = ns.dropLast := by unfold stepN; simp [take_sub]
    rw [e, ← e0]; exact this
  · have := way_rel h (a := [98, 34]) (by decide)
    rw [fone _ _ (by decide)] at this
    have e : stepN ns ([98, 34], 0, [[98, 34]]) = ns ++ [[98, 34]] := by unfold stepN; simp
    rw [e]; exact this
  · have e : stepN ns ([47, 97, 47], 9, [[97]]) = [[97]] := by
      unfold stepN
      rw [show ns.length - 9 = 0 from by omega]; rfl
    rw [e]
    exact way_abs (a := [97, 47]) ⟨[97, 47], rfl, by decide, by decide⟩
  · have := way_rel h (a := [99, 92, 47, 46]) (by decide)
    have e0 : Fn ns [99, 92, 47, 46] = ns ++ [[99, 92]] := by
      show Fn ns ([99, 92] ++ 47 :: [46]) = _
      rw [Fn_app, fone ns [99, 92] (by decide)]; rfl
    have e : stepN ns ([99, 92, 47, 46], 0, [[99, 92]]) = ns ++ [[99, 92]] := by unfold stepN; simp
    rw [e, ← e0]; exact this
  · have := way_rel h (a := [46, 46, 47, 98, 34]) (by decide)
    have e0 : Fn ns [46, 46, 47, 98, 34] = ns.dropLast ++ [[98, 34]] := by
      show Fn ns ([46, 46] ++ 47 :: [98, 34]) = _
      rw [Fn_app, fone _ [98, 34] (by decide)]; rfl
    have e : stepN ns ([46, 46, 47, 98, 34], 1, [[98, 34]]) = ns.dropLast ++ [[98, 34]] := by unfold stepN; simp [take_sub]
    rw [e, ← e0]; exact this
  · have := way_rel h (a := [97, 47, 47, 46, 46, 47, 99, 92]) (by decide)
    have e0 : Fn ns [97, 47, 47, 46, 46, 47, 99, 92] = ns ++ [[99, 92]] := by
      show Fn ns ([97] ++ 47 :: ([] ++ 47 :: ([46, 46] ++ 47 :: [99, 92]))) = _
      rw [Fn_app, Fn_app, Fn_app, fone ns [97] (by decide), fone _ [99, 92] (by decide), Fn_nil]
      show (ns ++ [[97]]).dropLast ++ [[99, 92]] = _
      simp
    have e : stepN ns ([97, 47, 47, 46, 46, 47, 99, 92], 0, [[99, 92]]) = ns ++ [[99, 92]] := by unfold stepN; simp
    rw [e, ← e0]; exact this
set_option tactic.hygienic true in
theorem pth_eq (ns : List (List Nat)) : pth ns = 47 :: interc [47] ns := by
  unfold pth
  split
  · rename_i h; subst h; rfl
  · rename_i h
    have : ∀ (ns : List (List Nat)), ns ≠ [] → pcat ns = 47 :: interc [47] ns := fun ns => by
      induction ns with
      | nil => intro h; exact absurd rfl h
      | cons x r ih =>
        intro _
        cases r with
        | nil => simp [pcat, interc]
        | cons y s =>
          have := ih (by simp)
          show 47 :: x ++ pcat (y :: s) = _
          rw [this]; simp [interc]
    exact this ns h
theorem good_n {ns : List (List Nat)} (h : Good ns) : GoodN ns := fun x hx => by
  have : ∀ x ∈ NM, x ≠ [] ∧ 47 ∉ x := by decide
  exact this x (h x hx)
theorem fold_good : ∀ (ns acc : List (List Nat)), Good ns → ns.foldl nst acc = acc ++ ns
  | [], acc, _ => by simp
  | x :: r, acc, h => by
    rw [List.foldl_cons, nm_nst x (h x (List.mem_cons_self ..)), fold_good r _ fun y hy => h y (List.mem_cons_of_mem _ hy)]; simp
theorem way_pth {ns : List (List Nat)} (h : Good ns) : Way (pth ns) ns := by
  refine ⟨interc [47] ns, pth_eq ns, ?_, ?_⟩
  · cases ns with
    | nil => simp [interc]
    | cons x r =>
      have hx := (good_n h) x (List.mem_cons_self ..)
      cases x with
      | nil => exact absurd rfl hx.1
      | cons c s =>
        have : (interc [47] ((c :: s) :: r)).head? = some c := by cases r <;> rfl
        rw [this]
        intro e
        exact hx.2 (by injection e with e; rw [e]; exact List.mem_cons_self ..)
  · cases ns with
    | nil => rfl
    | cons x r =>
      unfold Fn
      rw [splitC_join (List.cons_ne_nil _ _) fun p hp => (good_n h p hp).2, fold_good _ _ h]; rfl
theorem step_good {ns : List (List Nat)} (h : Good ns) {p : List Nat × Nat × List (List Nat)} (hp : p ∈ partsP) : Good (stepN ns p) := by
  have : ∀ p ∈ partsP, ∀ x ∈ p.2.2, x ∈ NM := by decide
  intro x hx
  rcases List.mem_append.mp hx with hx | hx
  · exact h x (List.mem_of_mem_take hx)
  · exact this p hp x hx
theorem part_small : ∀ p ∈ partsP, p.2.2.length ≤ 1 ∧ p.1.length ≤ 8 := by decide
theorem step_len {ns : List (List Nat)} {p : List Nat × Nat × List (List Nat)} (hp : p ∈ partsP) : (stepN ns p).length ≤ ns.length + 1 := by
  have := (part_small p hp).1
  unfold stepN; simp; omega
theorem pcat_len {ns : List (List Nat)} (h : Good ns) : (pcat ns).length ≤ 3 * ns.length := by
  have h2 : ∀ x ∈ NM, x.length ≤ 2 := by decide
  induction ns with
  | nil => simp [pcat]
  | cons x r ih =>
    have := ih fun y hy => h y (List.mem_cons_of_mem _ hy)
    have hx := h2 x (h x (List.mem_cons_self ..))
    show (47 :: x ++ pcat r).length ≤ _
    simp; omega
theorem pth_len' {ns : List (List Nat)} (h : Good ns) : (pth ns).length ≤ 3 * ns.length + 1 := by
  have := pcat_len h
  unfold pth; split <;> simp <;> omega
theorem lensum_good {ns : List (List Nat)} (h : Good ns) : lensum 1 ns ≤ 3 * ns.length := by
  have h2 : ∀ x ∈ NM, x.length ≤ 2 := by decide
  induction ns with
  | nil => simp [lensum]
  | cons x r ih =>
    have := ih fun y hy => h y (List.mem_cons_of_mem _ hy)
    have hx := h2 x (h x (List.mem_cons_self ..))
    show x.length + 1 + lensum 1 r ≤ _
    simp; omega
/-- what is asked of the way that two parts lead from a place -/
theorem way_two {spot : List (List Nat)} (h : Good spot) (hl : spot.length ≤ 6) {p1 p2 : List Nat × Nat × List (List Nat)} (h1 : p1 ∈ partsP) (h2 : p2 ∈ partsP) :
    ∃ t, pj (pj (pth spot) p1.1) p2.1 = 47 :: t ∧ t.head? ≠ some 47 ∧ (splitC 47 t).foldl nst [] = stepN (stepN spot p1) p2 ∧ Good (stepN (stepN spot p1) p2) ∧ (stepN (stepN spot p1) p2).length ≤ 8 ∧ t.length ≤ 1000 := by
  have l1 := step_len (ns := spot) h1
  have l2 := step_len (ns := stepN spot p1) h2
  obtain ⟨t, e1, e2, e3⟩ := way_part (way_part (way_pth h) (by omega) h1) (by omega) h2
  refine ⟨t, e1, e2, e3, step_good (step_good h h1) h2, by omega, ?_⟩
  have k1 := @pj_len (pj (pth spot) p1.1) p2.1
  have k2 := @pj_len (pth spot) p1.1
  have k3 := pth_len' h
  have k4 := (part_small p1 h1).2
  have k5 := (part_small p2 h2).2
  have := congrArg List.length e1
  simp at this
  omega
end Mine
end
section
set_option tactic.hygienic false
open PySem PySem.Calls PySem.W PyProof.Rows
namespace Mine
structure Inv' (nds : List Nd) : Prop where
  pos : 0 < nds.length
  few : nds.length ≤ 10
  root : ∃ md, nds[0]? = some ⟨-1, [], md⟩
  par : ∀ (j : Nat) (d : Nd), 1 ≤ j → nds[j]? = some d → ∃ p : Nat, d.up = (p : Int) ∧ p < j
  nm : ∀ (j : Nat) (d : Nd), 1 ≤ j → nds[j]? = some d → d.nm ∈ NM
  sib : ∀ (i j : Nat) (d e : Nd), 1 ≤ i → 1 ≤ j → nds[i]? = some d → nds[j]? = some e → d.up = e.up → d.nm = e.nm → i = j
  dep : ∃ dp : Nat → Nat, dp 0 = 0 ∧ ∀ (j : Nat) (d : Nd) (p : Nat), 1 ≤ j → nds[j]? = some d → d.up = (p : Int) → dp j = dp p + 1 ∧ dp j ≤ 3
noncomputable def tx (nds : List Nd) (k : Nat) : List Nat := ltext nds (18 + 1 + 1) k
noncomputable def kidsL (nds : List Nd) (k : Nat) : List Nat := (List.range' 1 (nds.length - 1)).filter fun j => decide (upAt nds j = (k : Int))
theorem at_lt {nds : List Nd} {j : Nat} (h : j < nds.length) : ∃ d, nds[j]? = some d ∧ upAt nds j = d.up ∧ nmAt nds j = d.nm ∧ mdAt nds j = d.md := by
  refine ⟨nds[j], List.getElem?_eq_getElem h, ?_, ?_, ?_⟩
  · unfold upAt; rw [List.getElem?_eq_getElem h]
  · unfold nmAt; rw [List.getElem?_eq_getElem h]
  · unfold mdAt; rw [List.getElem?_eq_getElem h]
theorem range_mem {n j : Nat} : j ∈ List.range' 1 (n - 1) ↔ 1 ≤ j ∧ j < n := by
  rw [List.mem_range']
  constructor
  · rintro ⟨i, hi, rfl⟩; omega
  · rintro ⟨h1, h2⟩; exact ⟨j - 1, by omega, by omega⟩
theorem kids_mem {nds : List Nd} {k j : Nat} : j ∈ kidsL nds k ↔ 1 ≤ j ∧ j < nds.length ∧ upAt nds j = (k : Int) := by
  unfold kidsL
  rw [List.mem_filter, range_mem, decide_eq_true_eq, and_assoc]
theorem Inv'.gt {nds : List Nd} (I : Inv' nds) {k j : Nat} (h1 : 1 ≤ j) (h2 : j < nds.length) (h3 : upAt nds j = (k : Int)) : k < j := by
  obtain ⟨d, e1, e2, _⟩ := at_lt h2
  obtain ⟨p, q1, q2⟩ := I.par j d h1 e1
  rw [e2, q1] at h3
  omega
theorem flat_filter {α β : Type} (p : α → Bool) (f : α → List β) : ∀ l : List α, (l.flatMap fun j => if p j = true then f j else []) = (l.filter p).flatMap f
  | [] => rfl
  | a :: l => by
    rw [List.flatMap_cons, List.filter_cons, flat_filter p f l]
    cases h : p a <;> simp
theorem flat_congr {α β : Type} {f g : α → List β} : ∀ {l : List α}, (∀ a ∈ l, f a = g a) → l.flatMap f = l.flatMap g
  | [], _ => rfl
  | a :: l, h => by rw [List.flatMap_cons, List.flatMap_cons, h a (List.mem_cons_self ..), flat_congr fun b hb => h b (List.mem_cons_of_mem _ hb)]
theorem ltext_eq (nds : List Nd) (f k : Nat) : ltext nds (f + 1) k = lname (mdAt nds k) ++ (kidsL nds k).flatMap fun j => kidS (nmAt nds j, ltext nds f j) := by
  show lname (mdAt nds k) ++ _ = _
  congr 1
  unfold kidsL
  rw [← flat_filter]
  refine flat_congr fun j _ => ?_
  simp only [decide_eq_true_eq]
  rfl
theorem fuel_eq {nds : List Nd} (I : Inv' nds) : ∀ (f f' k : Nat), nds.length ≤ k + f + 1 → nds.length ≤ k + f' + 1 → ltext nds (f + 1) k = ltext nds (f' + 1) k
  | f, f', k, h, h' => by
    rw [ltext_eq, ltext_eq]
    congr 1
    refine flat_congr fun j hj => ?_
    obtain ⟨h1, h2, h3⟩ := kids_mem.mp hj
    have hg := I.gt h1 h2 h3
    match f, f', h, h' with
    | 0, _, h, _ => omega
    | _ + 1, 0, _, h' => omega
    | f + 1, f' + 1, h, h' =>
      have := fuel_eq I f f' j (by omega) (by omega)
      show kidS (nmAt nds j, ltext nds (f + 1) j) = kidS (nmAt nds j, ltext nds (f' + 1) j)
      rw [this]
theorem tx_unf0 {nds : List Nd} (I : Inv' nds) (f k : Nat) (hf : nds.length ≤ f + 1) : ltext nds (f + 1 + 1) k = lname (mdAt nds k) ++ (kidsL nds k).flatMap fun j => kidS (nmAt nds j, ltext nds (f + 1 + 1) j) := by
  rw [ltext_eq nds (f + 1) k]
  refine congrArg (fun z => lname (mdAt nds k) ++ z) (flat_congr fun j hj => ?_)
  exact congrArg (fun z => kidS (nmAt nds j, z)) (fuel_eq I f (f + 1) j (by omega) (by omega))
theorem tx_unf {nds : List Nd} (I : Inv' nds) (k : Nat) : tx nds k = lname (mdAt nds k) ++ (kidsL nds k).flatMap fun j => kidS (nmAt nds j, tx nds j) := by
  have := I.few
  unfold tx
  exact tx_unf0 I 18 k (by omega)
theorem nt_of {m : Nat} (ks : List (List Nat × List Nat)) : NT (lname m ++ ks.flatMap kidS) := by
  refine ⟨m, ks.flatMap kidS, rfl, ?_⟩
  cases ks with
  | nil => exact .inl rfl
  | cons p r => exact .inr ⟨32 :: (p.1 ++ [61] ++ qv p.2 ++ r.flatMap kidS), by simp [kidS]⟩
theorem flat_map {α β γ : Type} (f : α → β) (g : β → List γ) : ∀ l : List α, l.flatMap (fun a => g (f a)) = (l.map f).flatMap g
  | [] => rfl
  | a :: l => by rw [List.flatMap_cons, List.map_cons, List.flatMap_cons, flat_map f g l]
theorem tx_nt {nds : List Nd} (I : Inv' nds) (k : Nat) : NT (tx nds k) := by
  rw [tx_unf I, flat_map (fun j => (nmAt nds j, tx nds j)) kidS]; exact nt_of _
noncomputable def prs (nds : List Nd) (k : Nat) : List Pr := (lname (mdAt nds k), none) :: (kidsL nds k).map fun j => (nmAt nds j, some (tx nds j))
theorem kid_nm {nds : List Nd} (I : Inv' nds) {k j : Nat} (h : j ∈ kidsL nds k) : nmAt nds j ∈ NM := by
  obtain ⟨h1, h2, h3⟩ := kids_mem.mp h
  obtain ⟨d, e1, _, e2, _⟩ := at_lt h2
  rw [e2]; exact I.nm j d h1 e1
theorem kids_ok {nds : List Nd} (I : Inv' nds) (k : Nat) : ∀ p ∈ (kidsL nds k).map fun j => (nmAt nds j, tx nds j), KidOk p := by
  intro p hp
  obtain ⟨j, hj, rfl⟩ := List.mem_map.mp hp
  exact ⟨kid_nm I hj, tx_nt I j⟩
theorem prs_tx {nds : List Nd} (I : Inv' nds) (k : Nat) : ∃ m, Tx (tx nds k) (prs nds k) m := by
  have := tx_node (mdAt nds k) _ (kids_ok I k)
  rw [List.map_map] at this
  rw [tx_unf I, flat_map (fun j => (nmAt nds j, tx nds j)) kidS]
  exact this
theorem prs_root {nds : List Nd} (I : Inv' nds) (k : Nat) : ∃ m, Tx (rpl [61, 34, 100] [32, 61, 32, 34, 92, 100] (tx nds k)) (prs nds k) m := by
  have := tx_root (mdAt nds k) _ (kids_ok I k)
  rw [List.map_map] at this
  rw [tx_unf I, flat_map (fun j => (nmAt nds j, tx nds j)) kidS]
  exact this
theorem interc_cons (z a : List Nat) : ∀ l : List (List Nat), interc z (a :: l) = a ++ l.flatMap fun x => z ++ x
  | [] => by simp [interc]
  | b :: r => by
    show a ++ z ++ interc z (b :: r) = _
    rw [interc_cons z b r]; simp
theorem jtx_prs {nds : List Nd} (I : Inv' nds) (k : Nat) : jtx (prs nds k) = tx nds k := by
  rw [tx_unf I]
  unfold jtx prs
  rw [List.map_cons, interc_cons, List.map_map]
  show lname (mdAt nds k) ++ _ = _
  congr 1
  rw [← flat_map]
  refine flat_congr fun j hj => ?_
  show [59, 32] ++ (nmAt nds j ++ 61 :: valT (tx nds j)) = [59, 32] ++ nmAt nds j ++ [61] ++ qv (tx nds j)
  rw [(tx_nt I j).val]; simp
/-! sizes -/
noncomputable def Bd : Nat → Nat
  | 0 => 10
  | m + 1 => 3 * Bd m + 7
theorem Bd_ge : ∀ m, 10 ≤ Bd m
  | 0 => Nat.le_refl _
  | m + 1 => by have := Bd_ge m; show 10 ≤ 3 * Bd m + 7; omega
theorem Bd_mono : ∀ {a b : Nat}, a ≤ b → Bd a ≤ Bd b := fun {a b} h => by
  induction h with
  | refl => exact Nat.le_refl _
  | step h ih => have := Bd_ge; show Bd a ≤ 3 * Bd _ + 7; omega
theorem kidS_len {x t : List Nat} (hx : x ∈ NM) : (kidS (x, t)).length ≤ 7 + 2 * t.length := by
  have h1 := (nm_ok x hx).2.2.2
  have h2 := esc_len t
  unfold kidS qv
  split <;> simp <;> omega
theorem sum_len {nds : List Nd} (I : Inv' nds) (k f : Nat) (IH : ∀ j, k < j → j < nds.length → (ltext nds f j).length ≤ Bd (nds.length - 1 - j)) : ∀ (c a : Nat), 1 ≤ a → a + c = nds.length → k < a →
    (((List.range' a c).filter fun j => decide (upAt nds j = (k : Int))).flatMap fun j => kidS (nmAt nds j, ltext nds f j)).length + 10 ≤ Bd c
  | 0, a, _, _, _ => by simp [Bd]
  | c + 1, a, h1, h2, h3 => by
    have ih := sum_len I k f IH c (a + 1) (by omega) (by omega) (by omega)
    rw [List.range'_succ, List.filter_cons]
    show _ ≤ 3 * Bd c + 7
    have hB := Bd_ge c
    cases hd : decide (upAt nds a = (k : Int)) with
    | false => simp only [Bool.false_eq_true, if_false]; omega
    | true =>
      rw [if_pos rfl, List.flatMap_cons, List.length_append]
      have ha : a < nds.length := by omega
      have hk : a ∈ kidsL nds k := kids_mem.mpr ⟨h1, ha, of_decide_eq_true hd⟩
      have l1 := kidS_len (t := ltext nds f a) (kid_nm I hk)
      have l2 := IH a h3 ha
      rw [show nds.length - 1 - a = c from by omega] at l2
      omega
theorem size_all {nds : List Nd} (I : Inv' nds) : ∀ (f k : Nat), (ltext nds f k).length ≤ Bd (nds.length - 1 - k)
  | 0, k => by simp [ltext]
  | f + 1, k => by
    have hpos := I.pos
    rw [ltext_eq, List.length_append, lname_len]
    have IH : ∀ j, k < j → j < nds.length → (ltext nds f j).length ≤ Bd (nds.length - 1 - j) := fun j _ _ => size_all I f j
    by_cases hk : k + 1 ≤ nds.length
    · have h := sum_len I k f IH (nds.length - 1 - k) (k + 1) (by omega) (by omega) (by omega)
      have e : List.range' 1 (nds.length - 1) = List.range' 1 k ++ List.range' (k + 1) (nds.length - 1 - k) := by
        rw [show nds.length - 1 = k + (nds.length - 1 - k) from by omega, ← List.range'_append_1, Nat.add_comm 1 k]
        rw [show k + (nds.length - 1 - k) - k = nds.length - 1 - k from by omega]
      have e0 : (List.range' 1 k).filter (fun j => decide (upAt nds j = (k : Int))) = [] := by
        rw [List.filter_eq_nil_iff]
        intro j hj
        obtain ⟨i, hi, rfl⟩ := List.mem_range'.mp hj
        rw [decide_eq_true_eq]
        intro q
        have := I.gt (k := k) (by omega) (by omega) q
        omega
      unfold kidsL
      rw [e, List.filter_append, e0, List.nil_append]
      omega
    · have e0 : kidsL nds k = [] := by
        rw [List.eq_nil_iff_forall_not_mem]
        intro j hj
        obtain ⟨h1, h2, h3⟩ := kids_mem.mp hj
        have := I.gt h1 h2 h3
        omega
      rw [e0]
      have := Bd_ge (nds.length - 1 - k)
      simp; omega
theorem size_le {nds : List Nd} (I : Inv' nds) (f k : Nat) : (ltext nds f k).length ≤ 300000 := by
  have h := size_all I f k
  have hf := I.few
  have h2 : Bd (nds.length - 1 - k) ≤ Bd 9 := Bd_mono (by omega)
  have h3 : Bd 9 ≤ 300000 := by decide
  omega
theorem Inv'.nok {nds : List Nd} (I : Inv' nds) : NOk nds where
  pos := I.pos
  few := by have := I.few; omega
  up := fun j d hd => by
    by_cases h : 1 ≤ j
    · obtain ⟨p, e, hp⟩ := I.par j d h hd
      rw [e]; omega
    · have : j = 0 := by omega
      subst this
      obtain ⟨md, e⟩ := I.root
      rw [e] at hd; cases hd; show (-1 : Int) < ((0 : Nat) : Int); decide
  size := size_le I
theorem kids_len {nds : List Nd} (I : Inv' nds) (k : Nat) : (kidsL nds k).length ≤ 10 := by
  unfold kidsL
  have := List.length_filter_le (fun j => decide (upAt nds j = (k : Int))) (List.range' 1 (nds.length - 1))
  have hf := I.few
  simp at this ⊢; omega
theorem prs_len {nds : List Nd} (I : Inv' nds) (k : Nat) : (prs nds k).length ≤ 11 := by
  have := kids_len I k
  unfold prs; simp; omega
theorem lensum_interc (z a : List Nat) : ∀ l : List (List Nat), lensum z.length (a :: l) = (interc z (a :: l)).length + z.length
  | [] => by simp [lensum, interc]
  | b :: r => by
    have := lensum_interc z b r
    show a.length + z.length + lensum z.length (b :: r) = (a ++ z ++ interc z (b :: r)).length + z.length
    rw [this]; simp; omega
theorem prs_jr {nds : List Nd} (I : Inv' nds) (k : Nat) : JR (prs nds k) where
  ne := by unfold prs; simp
  all := fun p hp => by
    unfold prs at hp
    rcases List.mem_cons.mp hp with rfl | hp
    · exact ⟨by rw [lname_len]; decide, nofun⟩
    · obtain ⟨j, hj, rfl⟩ := List.mem_map.mp hp
      have h1 := (nm_ok _ (kid_nm I hj)).2.2.2
      refine ⟨by show (nmAt nds j).length ≤ 1000; omega, fun v hv => ?_⟩
      cases hv
      have := size_le I (18 + 1 + 1) j
      exact ⟨(tx_nt I j).ne, by show (ltext nds (18 + 1 + 1) j).length ≤ _; omega⟩
  few := by have := prs_len I k; omega
  sum := by
    have h := jtx_prs I k
    have hs := size_le I (18 + 1 + 1) k
    unfold jtx at h
    have e : (prs nds k).map itemT = itemT (lname (mdAt nds k), none) :: ((kidsL nds k).map fun j => (nmAt nds j, some (tx nds j))).map itemT := rfl
    rw [e] at h ⊢
    have := lensum_interc [59, 32] (itemT (lname (mdAt nds k), none)) (((kidsL nds k).map fun j => (nmAt nds j, some (tx nds j))).map itemT)
    rw [h] at this
    show lensum ([59, 32] : List Nat).length _ ≤ _
    rw [this]
    show (ltext nds (18 + 1 + 1) k).length + 2 ≤ _
    omega
  size := by
    rw [jtx_prs I]
    have := size_le I (18 + 1 + 1) k
    show (ltext nds (18 + 1 + 1) k).length ≤ _
    omega
end Mine
end
section
set_option tactic.hygienic false
open PySem PySem.Calls PySem.W PyProof.Rows
namespace Mine
theorem filter_congr' {α : Type} {p q : α → Bool} : ∀ {l : List α}, (∀ a ∈ l, p a = q a) → l.filter p = l.filter q
  | [], _ => rfl
  | a :: l, h => by rw [List.filter_cons, List.filter_cons, h a (List.mem_cons_self ..), filter_congr' fun b hb => h b (List.mem_cons_of_mem _ hb)]
theorem lbelow_eq (nds : List Nd) (k : Nat) (x : List Nat) : lbelow nds k x = (kidsL nds k).filter fun j => nmAt nds j == x := by
  unfold lbelow kidsL
  rw [List.filter_filter]
  refine filter_congr' fun j hj => ?_
  obtain ⟨d, e1, e2, e3, _⟩ := at_lt (range_mem.mp hj).2
  unfold isKid
  rw [e1, e2, e3]
  show (d.up == (k : Int) && d.nm == x) = (d.nm == x && decide (d.up = (k : Int)))
  rw [Bool.and_comm]; rfl
theorem lbelow_mem {nds : List Nd} {k j : Nat} {x : List Nat} : j ∈ lbelow nds k x ↔ j ∈ kidsL nds k ∧ nmAt nds j = x := by
  rw [lbelow_eq, List.mem_filter, beq_iff_eq]
theorem sib_eq {nds : List Nd} (I : Inv' nds) {k i j : Nat} (hi : i ∈ kidsL nds k) (hj : j ∈ kidsL nds k) (h : nmAt nds i = nmAt nds j) : i = j := by
  obtain ⟨i1, i2, i3⟩ := kids_mem.mp hi
  obtain ⟨j1, j2, j3⟩ := kids_mem.mp hj
  obtain ⟨d, d1, d2, d3, _⟩ := at_lt i2
  obtain ⟨e, e1, e2, e3, _⟩ := at_lt j2
  exact I.sib i j d e i1 j1 d1 e1 (by rw [← d2, ← e2, i3, j3]) (by rw [← d3, ← e3, h])
theorem kids_nodup (nds : List Nd) (k : Nat) : (kidsL nds k).Nodup := List.Pairwise.filter _ (List.nodup_range' ..)
theorem lbelow_one {nds : List Nd} (I : Inv' nds) (k : Nat) (x : List Nat) : lbelow nds k x = [] ∨ ∃ j, lbelow nds k x = [j] := by
  cases e : lbelow nds k x with
  | nil => exact .inl rfl
  | cons a r =>
    cases r with
    | nil => exact .inr ⟨a, rfl⟩
    | cons b s =>
      exfalso
      have ha : a ∈ lbelow nds k x := by rw [e]; exact List.mem_cons_self ..
      have hb : b ∈ lbelow nds k x := by rw [e]; exact List.mem_cons_of_mem _ (List.mem_cons_self ..)
      obtain ⟨a1, a2⟩ := lbelow_mem.mp ha
      obtain ⟨b1, b2⟩ := lbelow_mem.mp hb
      have nd : (lbelow nds k x).Nodup := by rw [lbelow_eq]; exact List.Pairwise.filter _ (kids_nodup nds k)
      rw [e] at nd
      have := (List.nodup_cons.mp nd).1
      exact this (by rw [sib_eq I a1 b1 (a2.trans b2.symm)]; exact List.mem_cons_self ..)
theorem lname_ne {m : Nat} {x : List Nat} (h : x ∈ NM) : (lname m == x) = false := by
  rw [beq_eq_false_iff_ne]
  intro e
  have h1 := (nm_ok x h).2.2.2
  rw [← e, lname_len] at h1
  omega
theorem prs_filter {nds : List Nd} {k : Nat} {x : List Nat} (hx : x ∈ NM) : (prs nds k).filter (fun p : Pr => p.1 == x) = (lbelow nds k x).map fun j => (nmAt nds j, some (tx nds j)) := by
  unfold prs
  rw [List.filter_cons, lname_ne hx, if_neg (by decide), lbelow_eq, List.filter_map]
  rfl
noncomputable def pathN (nds : List Nd) : Nat → List (List Nat) → List Nat
  | _, [] => []
  | k, x :: r => match lbelow nds k x with
    | [] => []
    | j :: _ => if lopen (mdAt nds k) then j :: pathN nds j r else []
theorem rw_path {nds : List Nd} (I : Inv' nds) : ∀ (names : List (List Nat)) (k : Nat), Good names → Rw (prs nds k) names ((pathN nds k names).map (prs nds))
  | [], k, _ => Rw.done
  | x :: r, k, hg => by
    have hx := hg x (List.mem_cons_self ..)
    have h3 : 3 < (lname (mdAt nds k)).length := by rw [lname_len]; decide
    have hl := prs_len I k
    have hl' : (prs nds k).length ≤ 1000 := by omega
    have hfr := frB_lname (mdAt nds k)
    have hf := prs_filter (nds := nds) (k := k) hx
    have ep : pathN nds k (x :: r) = match lbelow nds k x with
      | [] => []
      | j :: _ => if lopen (mdAt nds k) then j :: pathN nds j r else [] := rfl
    cases ho : lopen (mdAt nds k) with
    | false =>
      have e : pathN nds k (x :: r) = [] := by rw [ep, ho]; cases lbelow nds k x <;> rfl
      rw [e]
      rw [ho] at hfr
      unfold frB at hfr
      by_cases h0 : (lname (mdAt nds k)).getD 0 0 = 100
      · rw [h0] at hfr
        have h4 : (lname (mdAt nds k)).getD 3 0 ∉ [120, 115] := by
          intro q
          rw [decide_eq_true q] at hfr; cases hfr
        exact Rw.shut3 h3 hl' h0 h4
      · exact Rw.shut0 h3 hl' h0
    | true =>
      rw [ho] at hfr
      unfold frB at hfr
      obtain ⟨q1, q2⟩ := Bool.and_eq_true_iff.mp hfr
      have h0 := beq_iff_eq.mp q1
      have h4 := of_decide_eq_true q2
      rcases lbelow_one I k x with hb | ⟨j, hb⟩
      · have e : pathN nds k (x :: r) = [] := by rw [ep, hb]
        rw [e]
        rw [hb] at hf
        exact Rw.miss h3 h0 h4 hl' hf
      · have e : pathN nds k (x :: r) = j :: pathN nds j r := by rw [ep, hb, ho]; rfl
        rw [e, List.map_cons]
        rw [hb] at hf
        obtain ⟨m, hm⟩ := prs_tx I j
        have hs := size_le I (18 + 1 + 1) j
        have hlj := prs_len I j
        exact Rw.down h3 h0 h4 hl' hf hm (by unfold prs; simp) (by show (ltext nds (18 + 1 + 1) j).length ≤ _; omega) (by omega) (rw_path I r j fun y hy => hg y (List.mem_cons_of_mem _ hy))
theorem pf_path (nds : List Nd) : ∀ (names : List (List Nat)) (k : Nat), match pfind nds k names with
    | some j => (pathN nds k names).length = names.length ∧ (k :: pathN nds k names).getLast? = some j
    | none => (pathN nds k names).length < names.length
  | [], k => ⟨rfl, rfl⟩
  | x :: r, k => by
    have ep : pathN nds k (x :: r) = match lbelow nds k x with
      | [] => []
      | j :: _ => if lopen (mdAt nds k) then j :: pathN nds j r else [] := rfl
    have ef : pfind nds k (x :: r) = match lbelow nds k x with
      | [] => none
      | j :: _ => if lopen (mdAt nds k) then pfind nds j r else none := rfl
    rw [ef, ep]
    cases hb : lbelow nds k x with
    | nil => simp
    | cons j js =>
      cases ho : lopen (mdAt nds k) with
      | false => simp
      | true =>
        simp only [if_true]
        have ih := pf_path nds r j
        revert ih
        cases pfind nds j r with
        | none => intro ih; simp at ih ⊢; exact ih
        | some i => intro ih; exact ⟨by simp [ih.1], by rw [← ih.2]; simp⟩
theorem path_snoc (nds : List Nd) (x : List Nat) : ∀ (a : List (List Nat)) (k : Nat), ∃ ext, pathN nds k (a ++ [x]) = pathN nds k a ++ ext ∧ (pfind nds k a = none → ext = []) ∧ ext.length ≤ 1
  | [], k => by
    refine ⟨pathN nds k [x], rfl, (fun h => by cases h), ?_⟩
    have ep : pathN nds k [x] = match lbelow nds k x with
      | [] => []
      | j :: _ => if lopen (mdAt nds k) then j :: pathN nds j [] else [] := rfl
    rw [ep]
    cases lbelow nds k x with
    | nil => simp
    | cons j js => cases lopen (mdAt nds k) <;> simp [pathN]
  | y :: r, k => by
    have ep : ∀ s, pathN nds k (y :: s) = match lbelow nds k y with
      | [] => []
      | j :: _ => if lopen (mdAt nds k) then j :: pathN nds j s else [] := fun _ => rfl
    have ef : pfind nds k (y :: r) = match lbelow nds k y with
      | [] => none
      | j :: _ => if lopen (mdAt nds k) then pfind nds j r else none := rfl
    rw [List.cons_append, ep, ep, ef]
    cases hb : lbelow nds k y with
    | nil => exact ⟨[], rfl, fun _ => rfl, by simp⟩
    | cons j js =>
      cases ho : lopen (mdAt nds k) with
      | false => exact ⟨[], rfl, fun _ => rfl, by simp⟩
      | true =>
        obtain ⟨ext, e1, e2, e3⟩ := path_snoc nds x r j
        refine ⟨ext, by simp [e1], ?_, e3⟩
        simp only [if_true]
        exact e2
/-- above a node, or the node -/
inductive Anc (nds : List Nd) : Nat → Nat → Prop
  | self {k} : Anc nds k k
  | up {a k p} : k ∈ kidsL nds p → Anc nds a p → Anc nds a k
theorem Anc.le {nds : List Nd} (I : Inv' nds) {a k : Nat} (h : Anc nds a k) : a ≤ k := by
  induction h with
  | self => exact Nat.le_refl _
  | up hk _ ih =>
    obtain ⟨h1, h2, h3⟩ := kids_mem.mp hk
    have := I.gt h1 h2 h3
    omega
theorem par_eq {nds : List Nd} {j p q : Nat} (h1 : j ∈ kidsL nds p) (h2 : j ∈ kidsL nds q) : p = q := by
  have a := (kids_mem.mp h1).2.2
  have b := (kids_mem.mp h2).2.2
  rw [a] at b; omega
theorem kid_gt {nds : List Nd} (I : Inv' nds) {j p : Nat} (h : j ∈ kidsL nds p) : p < j := by
  obtain ⟨h1, h2, h3⟩ := kids_mem.mp h
  exact I.gt h1 h2 h3
theorem Anc.trans {nds : List Nd} {a b k : Nat} (h1 : Anc nds b k) (h2 : Anc nds a b) : Anc nds a k := by
  induction h1 with
  | self => exact h2
  | up hk _ ih => exact .up hk ih
theorem Anc.one {nds : List Nd} (I : Inv' nds) {a b k p : Nat} (h1 : Anc nds a k) : Anc nds b k → a ∈ kidsL nds p → b ∈ kidsL nds p → a = b := by
  induction h1 with
  | self =>
    intro h2 ha hb
    cases h2 with
    | self => rfl
    | up hk h =>
      have e := par_eq hk ha
      subst e
      have := h.le I
      have := kid_gt I hb
      omega
  | up hk h ih =>
    intro h2 ha hb
    cases h2 with
    | self =>
      have e := par_eq hk hb
      subst e
      have := h.le I
      have := kid_gt I ha
      omega
    | up hk' h' =>
      have e := par_eq hk hk'
      subst e
      exact ih h' ha hb
/-- the nodes change at one place alone -/
structure Chg (nds nds' : List Nd) (K : Nat) : Prop where
  I : Inv' nds
  I' : Inv' nds'
  md : ∀ j, j < nds.length → j ≠ K → mdAt nds' j = mdAt nds j
  nm : ∀ j, j < nds.length → nmAt nds' j = nmAt nds j
  kids : ∀ j, j < nds.length → j ≠ K → kidsL nds' j = kidsL nds j
theorem Chg.same {nds nds' : List Nd} {K : Nat} (c : Chg nds nds' K) : ∀ (m j : Nat), nds.length ≤ j + m → j < nds.length → ¬ Anc nds j K → tx nds' j = tx nds j
  | 0, j, h, hj, _ => by omega
  | m + 1, j, h, hj, hn => by
    have ne : j ≠ K := fun e => hn (by rw [e]; exact .self)
    rw [tx_unf c.I, tx_unf c.I', c.md j hj ne, c.kids j hj ne]
    refine congrArg (fun z => lname (mdAt nds j) ++ z) (flat_congr fun i hi => ?_)
    have hg := kid_gt c.I hi
    have hl := (kids_mem.mp hi).2.1
    rw [c.nm i hl]
    refine congrArg (fun z => kidS (nmAt nds i, z)) (Chg.same c m i (by omega) hl fun ha => hn ?_)
    exact ha.trans (.up hi .self)
theorem Chg.row {nds nds' : List Nd} {K : Nat} (c : Chg nds nds' K) {p j : Nat} {x : List Nat} (hp : p < nds.length) (hne : p ≠ K) (hx : x ∈ NM) (hj : j ∈ lbelow nds p x) (ha : Anc nds j K) : (prs nds p).map (upd1 x (tx nds' j)) = prs nds' p := by
  obtain ⟨hk, hnm⟩ := lbelow_mem.mp hj
  unfold prs
  rw [List.map_cons, c.md p hp hne, c.kids p hp hne, List.map_map]
  congr 1
  · unfold upd1; rw [lname_ne hx]; rfl
  · refine List.map_congr_left fun i hi => ?_
    have hl := (kids_mem.mp hi).2.1
    show upd1 x (tx nds' j) (nmAt nds i, some (tx nds i)) = (nmAt nds' i, some (tx nds' i))
    rw [c.nm i hl]
    unfold upd1
    by_cases e : nmAt nds i = x
    · have : i = j := sib_eq c.I hi hk (e.trans hnm.symm)
      subst this
      simp [e]
    · have hna : ¬ Anc nds i K := fun q => e (by rw [Anc.one c.I q ha hi hk]; exact hnm)
      have := c.same nds.length i (by omega) hl hna
      simp [e, this]
theorem path_chain (nds : List Nd) : ∀ (names : List (List Nat)) (k i : Nat), i < (pathN nds k names).length →
    ∃ p c x, (k :: pathN nds k names)[i]? = some p ∧ (k :: pathN nds k names)[i + 1]? = some c ∧ names[i]? = some x ∧ c ∈ lbelow nds p x
  | [], k, i, h => by simp [pathN] at h
  | x :: r, k, i, h => by
    have ep : pathN nds k (x :: r) = match lbelow nds k x with
      | [] => []
      | j :: _ => if lopen (mdAt nds k) then j :: pathN nds j r else [] := rfl
    rw [ep] at h ⊢
    cases hb : lbelow nds k x with
    | nil => rw [hb] at h; simp at h
    | cons j js =>
      rw [hb] at h
      cases ho : lopen (mdAt nds k) with
      | false => rw [ho] at h; simp at h
      | true =>
        rw [ho] at h
        simp only [if_true] at h ⊢
        cases i with
        | zero => exact ⟨k, j, x, rfl, rfl, rfl, by rw [hb]; exact List.mem_cons_self ..⟩
        | succ i =>
          obtain ⟨p, c, y, h1, h2, h3, h4⟩ := path_chain nds r j i (by simpa using h)
          exact ⟨p, c, y, by simpa using h1, by simpa using h2, by simpa using h3, h4⟩
theorem path_lt {nds : List Nd} {names : List (List Nat)} {k : Nat} (hk : k < nds.length) : ∀ p ∈ k :: pathN nds k names, p < nds.length := by
  intro p hp
  obtain ⟨i, hi⟩ := List.getElem?_of_mem hp
  cases i with
  | zero => simp at hi; rw [← hi]; exact hk
  | succ i =>
    have hl := (List.getElem?_eq_some_iff.mp hi).1
    obtain ⟨q, c, x, h1, h2, h3, h4⟩ := path_chain nds names k i (by simpa using hl)
    rw [hi] at h2; cases h2
    exact (kids_mem.mp (lbelow_mem.mp h4).1).2.1
theorem path_anc {nds : List Nd} {names : List (List Nat)} {k K : Nat} (hK : (k :: pathN nds k names).getLast? = some K) : ∀ (m i p : Nat), (k :: pathN nds k names).length ≤ i + m → (k :: pathN nds k names)[i]? = some p → Anc nds p K
  | 0, i, p, h, hp => by have := (List.getElem?_eq_some_iff.mp hp).1; omega
  | m + 1, i, p, h, hp => by
    by_cases hl : i < (pathN nds k names).length
    · obtain ⟨q, c, x, h1, h2, h3, h4⟩ := path_chain nds names k i hl
      rw [hp] at h1; cases h1
      exact (path_anc hK m (i + 1) c (by omega) h2).trans (.up (lbelow_mem.mp h4).1 .self)
    · have hi := (List.getElem?_eq_some_iff.mp hp).1
      have e : i = (k :: pathN nds k names).length - 1 := by simp at hi ⊢; omega
      rw [List.getLast?_eq_getElem?, ← e, hp] at hK
      cases hK
      exact .self
theorem Chg.climb {nds nds' : List Nd} {K : Nat} (c : Chg nds nds' K) {names : List (List Nat)} (hg : Good names) (hK : (0 :: pathN nds 0 names).getLast? = some K) : ∀ (i p : Nat), (0 :: pathN nds 0 names)[i]? = some p →
    Clm ((0 :: pathN nds 0 names).map (prs nds)) names i (tx nds' p) (tx nds' 0)
  | 0, p, hp => by
    have : p = 0 := by simpa using hp.symm
    subst this
    exact .zero
  | i + 1, p, hp => by
    have hi := (List.getElem?_eq_some_iff.mp hp).1
    obtain ⟨q, b, x, h1, h2, h3, h4⟩ := path_chain nds names 0 i (by simpa using hi)
    rw [hp] at h2; cases h2
    have hq := path_lt c.I.pos q (List.mem_of_getElem? h1)
    have ha := path_anc hK (0 :: pathN nds 0 names).length (i + 1) p (by omega) hp
    have hqp := kid_gt c.I (lbelow_mem.mp h4).1
    have hqK : q ≠ K := by have := ha.le c.I; omega
    have hx := hg x (List.mem_of_getElem? h3)
    have hrow := c.row hq hqK hx h4 ha
    have hl := prs_len c.I q
    refine .succ (ps := prs nds q) (x := x) (by rw [List.getElem?_map, h1]; rfl) h3 (by omega) (by rw [hrow]; exact prs_jr c.I' q) ?_
    rw [hrow, jtx_prs c.I']
    exact Chg.climb c hg hK i q h1
end Mine
end
section
set_option tactic.hygienic false
open PySem PySem.Calls PySem.W PyProof.Rows
namespace Mine
/-! the two changes of the nodes -/
theorem pf_dep {nds : List Nd} (I : Inv' nds) {dp : Nat → Nat} (h0 : dp 0 = 0) (hd : ∀ (j : Nat) (d : Nd) (p : Nat), 1 ≤ j → nds[j]? = some d → d.up = (p : Int) → dp j = dp p + 1 ∧ dp j ≤ 3) : ∀ (names : List (List Nat)) (k j : Nat), pfind nds k names = some j → dp j = dp k + names.length
  | [], k, j, h => by cases h; rfl
  | x :: r, k, j, h => by
    have ef : pfind nds k (x :: r) = match lbelow nds k x with
      | [] => none
      | j :: _ => if lopen (mdAt nds k) then pfind nds j r else none := rfl
    rw [ef] at h
    cases hb : lbelow nds k x with
    | nil => rw [hb] at h; cases h
    | cons i is =>
      rw [hb] at h
      cases ho : lopen (mdAt nds k) with
      | false => rw [ho] at h; cases h
      | true =>
        rw [ho] at h
        simp only [if_true] at h
        have ih := pf_dep I h0 hd r i j h
        obtain ⟨h1, h2, h3⟩ := kids_mem.mp (lbelow_mem.mp (by rw [hb]; exact List.mem_cons_self .. : i ∈ lbelow nds k x)).1
        obtain ⟨d, e1, e2, _⟩ := at_lt h2
        have := (hd i d k h1 e1 (by rw [← e2]; exact h3)).1
        simp; omega
theorem pf_lt {nds : List Nd} : ∀ (names : List (List Nat)) (k j : Nat), k < nds.length → pfind nds k names = some j → j < nds.length
  | [], k, j, hk, h => by cases h; exact hk
  | x :: r, k, j, hk, h => by
    have ef : pfind nds k (x :: r) = match lbelow nds k x with
      | [] => none
      | j :: _ => if lopen (mdAt nds k) then pfind nds j r else none := rfl
    rw [ef] at h
    cases hb : lbelow nds k x with
    | nil => rw [hb] at h; cases h
    | cons i is =>
      rw [hb] at h
      cases ho : lopen (mdAt nds k) with
      | false => rw [ho] at h; cases h
      | true =>
        rw [ho] at h
        exact pf_lt r i j (lbelow_lt (nds := nds) (k := k) (x := x) (by rw [hb]; exact List.mem_cons_self ..)).2.1 h
theorem set_get' {nds : List Nd} {K : Nat} {d e : Nd} (hd : nds[K]? = some d) (j : Nat) : (nds.take K ++ [e] ++ nds.drop (K + 1))[j]? = if j = K then some e else nds[j]? := by
  have hK := (List.getElem?_eq_some_iff.mp hd).1
  have ht : (nds.take K).length = K := by simp; omega
  rw [List.append_assoc]
  by_cases h : j < K
  · rw [List.getElem?_append_left (by omega), if_neg (by omega), List.getElem?_take, if_pos h]
  · rw [List.getElem?_append_right (by omega), ht]
    by_cases h2 : j = K
    · subst h2; simp
    · rw [if_neg h2]
      obtain ⟨m, hm⟩ : ∃ m, j - K = m + 1 := ⟨j - K - 1, by omega⟩
      rw [hm, List.singleton_append, List.getElem?_cons_succ, List.getElem?_drop]
      congr 1; omega
theorem set_len {nds : List Nd} {K : Nat} {d e : Nd} (hd : nds[K]? = some d) : (nds.take K ++ [e] ++ nds.drop (K + 1)).length = nds.length := by
  have hK := (List.getElem?_eq_some_iff.mp hd).1
  simp; omega
noncomputable def chNd (nds : List Nd) (K : Nat) (d : Nd) (m : Nat) : List Nd := nds.take K ++ [⟨d.up, d.nm, d.md / 4096 * 4096 + m % 4096⟩] ++ nds.drop (K + 1)
theorem ch_get {nds : List Nd} {K m : Nat} {d : Nd} (hd : nds[K]? = some d) (j : Nat) : (chNd nds K d m)[j]? = if j = K then some ⟨d.up, d.nm, d.md / 4096 * 4096 + m % 4096⟩ else nds[j]? := set_get' hd j
set_option tactic.hygienic true in
/-- the other words of a node are as they were -/
theorem ch_has {nds : List Nd} {K m : Nat} {d : Nd} (hd : nds[K]? = some d) {j : Nat} {e : Nd} (h : (chNd nds K d m)[j]? = some e) : ∃ e0, nds[j]? = some e0 ∧ e0.up = e.up ∧ e0.nm = e.nm := by
  rw [ch_get hd] at h
  split at h
  · rename_i hj; subst hj; cases h; exact ⟨d, hd, rfl, rfl⟩
  · exact ⟨e, h, rfl, rfl⟩
theorem ch_inv {nds : List Nd} {K m : Nat} {d : Nd} (I : Inv' nds) (hd : nds[K]? = some d) : Inv' (chNd nds K d m) where
  pos := by unfold chNd; rw [set_len hd]; exact I.pos
  few := by unfold chNd; rw [set_len hd]; exact I.few
  root := by
    obtain ⟨md, e⟩ := I.root
    rw [ch_get hd]
    by_cases h : 0 = K
    · subst h
      rw [e] at hd; cases hd
      exact ⟨_, by rw [if_pos rfl]⟩
    · exact ⟨md, by rw [if_neg h]; exact e⟩
  par := fun j e h1 h => by
    obtain ⟨e0, q1, q2, _⟩ := ch_has hd h
    rw [← q2]; exact I.par j e0 h1 q1
  nm := fun j e h1 h => by
    obtain ⟨e0, q1, _, q3⟩ := ch_has hd h
    rw [← q3]; exact I.nm j e0 h1 q1
  sib := fun i j e f hi hj h1 h2 hu hn => by
    obtain ⟨e0, a1, a2, a3⟩ := ch_has hd h1
    obtain ⟨f0, b1, b2, b3⟩ := ch_has hd h2
    exact I.sib i j e0 f0 hi hj a1 b1 (by rw [a2, b2, hu]) (by rw [a3, b3, hn])
  dep := by
    obtain ⟨dp, h0, h⟩ := I.dep
    refine ⟨dp, h0, fun j e p h1 he hp => ?_⟩
    obtain ⟨e0, q1, q2, _⟩ := ch_has hd he
    exact h j e0 p h1 q1 (q2.trans hp)
theorem ch_up {nds : List Nd} {K m : Nat} {d : Nd} (hd : nds[K]? = some d) (j : Nat) : upAt (chNd nds K d m) j = upAt nds j := by
  unfold upAt
  rw [ch_get hd]
  by_cases h : j = K
  · subst h; rw [if_pos rfl, hd]
  · rw [if_neg h]
theorem ch_nm {nds : List Nd} {K m : Nat} {d : Nd} (hd : nds[K]? = some d) (j : Nat) : nmAt (chNd nds K d m) j = nmAt nds j := by
  unfold nmAt
  rw [ch_get hd]
  by_cases h : j = K
  · subst h; rw [if_pos rfl, hd]
  · rw [if_neg h]
theorem ch_kids {nds : List Nd} {K m : Nat} {d : Nd} (hd : nds[K]? = some d) (j : Nat) : kidsL (chNd nds K d m) j = kidsL nds j := by
  unfold kidsL
  rw [show (chNd nds K d m).length = nds.length from by unfold chNd; exact set_len hd]
  exact filter_congr' fun i _ => by rw [ch_up hd]
theorem ch_chg {nds : List Nd} {K m : Nat} {d : Nd} (I : Inv' nds) (hd : nds[K]? = some d) : Chg nds (chNd nds K d m) K where
  I := I
  I' := ch_inv I hd
  md := fun j _ hne => by unfold mdAt; rw [ch_get hd, if_neg hne]
  nm := fun j _ => ch_nm hd j
  kids := fun j _ _ => ch_kids hd j
theorem Chg.below {nds nds' : List Nd} {K : Nat} (c : Chg nds nds' K) {j : Nat} (h : j ∈ kidsL nds K) : tx nds' j = tx nds j :=
  c.same nds.length j (by omega) (kids_mem.mp h).2.1 fun ha => by
    have := ha.le c.I
    have := kid_gt c.I h
    omega
theorem ch_prs {nds : List Nd} {K m : Nat} {d : Nd} (I : Inv' nds) (hd : nds[K]? = some d) :
    prs (chNd nds K d m) K = (rpl [63] [(lname d.md).getD 0 0] (fmo (m &&& 4095)), none) :: (kidsL nds K).map fun j => (nmAt nds j, some (tx nds j)) := by
  have c := ch_chg (m := m) I hd
  unfold prs
  rw [ch_kids hd, chmod]
  have e : mdAt (chNd nds K d m) K = d.md / 4096 * 4096 + m % 4096 := by unfold mdAt; rw [ch_get hd, if_pos rfl]
  rw [e]
  congr 1
  exact List.map_congr_left fun j hj => by rw [ch_nm hd, c.below hj]
/-! a new node -/
noncomputable def adNd (nds : List Nd) (K : Nat) (x : List Nat) (m : Nat) : List Nd := nds ++ [⟨(K : Int), x, m⟩]
theorem ad_len (nds : List Nd) (K : Nat) (x : List Nat) (m : Nat) : (adNd nds K x m).length = nds.length + 1 := by unfold adNd; simp
theorem ad_old {nds : List Nd} {K : Nat} {x : List Nat} {m j : Nat} (h : j < nds.length) : (adNd nds K x m)[j]? = nds[j]? := by
  unfold adNd; rw [List.getElem?_append_left h]
theorem ad_new {nds : List Nd} {K : Nat} {x : List Nat} {m : Nat} : (adNd nds K x m)[nds.length]? = some ⟨(K : Int), x, m⟩ := by
  unfold adNd; simp
theorem ad_has {nds : List Nd} {K : Nat} {x : List Nat} {m j : Nat} {e : Nd} (h : (adNd nds K x m)[j]? = some e) : (j < nds.length ∧ nds[j]? = some e) ∨ (j = nds.length ∧ e = ⟨(K : Int), x, m⟩) := by
  have hl := (List.getElem?_eq_some_iff.mp h).1
  rw [ad_len] at hl
  by_cases hj : j < nds.length
  · rw [ad_old hj] at h; exact .inl ⟨hj, h⟩
  · have : j = nds.length := by omega
    subst this
    rw [ad_new] at h; cases h; exact .inr ⟨rfl, rfl⟩
theorem ad_inv {nds : List Nd} {K m : Nat} {x : List Nat} {names : List (List Nat)} (I : Inv' nds) (hf : nds.length ≤ 9) (hx : x ∈ NM) (hK : pfind nds 0 names = some K) (hn : names.length < 3) (hno : ∀ j ∈ kidsL nds K, nmAt nds j ≠ x) : Inv' (adNd nds K x m) := by
  have hKl := pf_lt names 0 K I.pos hK
  have old : ∀ {j : Nat} {e : Nd}, 1 ≤ j → j < nds.length → nds[j]? = some e → e.up = (K : Int) → e.nm ≠ x := fun {j e} h1 h2 h3 h4 => by
    obtain ⟨d, e1, e2, e3, _⟩ := at_lt h2
    rw [h3] at e1; cases e1
    rw [← e3]
    exact hno j (kids_mem.mpr ⟨h1, h2, e2.trans h4⟩)
  refine ⟨?_, ?_, ?_, ?_, ?_, ?_, ?_⟩
  · rw [ad_len]; omega
  · rw [ad_len]; omega
  · obtain ⟨md, e⟩ := I.root
    exact ⟨md, by rw [ad_old I.pos]; exact e⟩
  · intro j e h1 h
    rcases ad_has h with ⟨_, q⟩ | ⟨rfl, rfl⟩
    · exact I.par j e h1 q
    · exact ⟨K, rfl, hKl⟩
  · intro j e h1 h
    rcases ad_has h with ⟨_, q⟩ | ⟨rfl, rfl⟩
    · exact I.nm j e h1 q
    · exact hx
  · intro i j e f hi hj h1 h2 hu hm
    rcases ad_has h1 with ⟨a1, a2⟩ | ⟨a1, a2⟩ <;> rcases ad_has h2 with ⟨b1, b2⟩ | ⟨b1, b2⟩
    · exact I.sib i j e f hi hj a2 b2 hu hm
    · subst b2; exact absurd hm (old hi a1 a2 hu)
    · subst a2; exact absurd hm.symm (old hj b1 b2 hu.symm)
    · omega
  · obtain ⟨dp, h0, h⟩ := I.dep
    have hdK := pf_dep I h0 h names 0 K hK
    rw [h0] at hdK
    refine ⟨fun j => if j = nds.length then dp K + 1 else dp j, by simp only []; rw [if_neg (by have := I.pos; omega)]; exact h0, fun j e p h1 he hp => ?_⟩
    rcases ad_has he with ⟨q1, q2⟩ | ⟨q1, q2⟩
    · obtain ⟨p', e1, e2⟩ := I.par j e h1 q2
      have : p' = p := by rw [e1] at hp; omega
      subst this
      simp only []
      rw [if_neg (by omega), if_neg (by omega)]
      exact h j e p' h1 q2 e1
    · subst q2
      have : p = K := by
        have : ((K : Nat) : Int) = (p : Int) := hp
        omega
      subst this
      simp only []
      rw [if_pos q1, if_neg (by omega)]
      exact ⟨rfl, by omega⟩
theorem ad_up {nds : List Nd} {K : Nat} {x : List Nat} {m j : Nat} (h : j < nds.length) : upAt (adNd nds K x m) j = upAt nds j := by unfold upAt; rw [ad_old h]
theorem ad_nm {nds : List Nd} {K : Nat} {x : List Nat} {m j : Nat} (h : j < nds.length) : nmAt (adNd nds K x m) j = nmAt nds j := by unfold nmAt; rw [ad_old h]
theorem ad_kids {nds : List Nd} {K : Nat} {x : List Nat} {m : Nat} (hp : 0 < nds.length) (j : Nat) : kidsL (adNd nds K x m) j = kidsL nds j ++ if j = K then [nds.length] else [] := by
  unfold kidsL
  rw [ad_len, show nds.length + 1 - 1 = (nds.length - 1) + 1 from by omega, List.range'_1_concat, List.filter_append, show 1 + (nds.length - 1) = nds.length from by omega]
  congr 1
  · refine filter_congr' fun i hi => ?_
    rw [ad_up (range_mem.mp hi).2]
  · have e : upAt (adNd nds K x m) nds.length = (K : Int) := by unfold upAt; rw [ad_new]
    rw [List.filter_cons, e, List.filter_nil]
    by_cases h : j = K
    · subst h; simp
    · have : ¬ ((K : Int) = (j : Int)) := by omega
      simp [h, this]
theorem ad_chg {nds : List Nd} {K m : Nat} {x : List Nat} {names : List (List Nat)} (I : Inv' nds) (hf : nds.length ≤ 9) (hx : x ∈ NM) (hK : pfind nds 0 names = some K) (hn : names.length < 3) (hno : ∀ j ∈ kidsL nds K, nmAt nds j ≠ x) : Chg nds (adNd nds K x m) K where
  I := I
  I' := ad_inv I hf hx hK hn hno
  md := fun j hj _ => by unfold mdAt; rw [ad_old hj]
  nm := fun j hj => ad_nm hj
  kids := fun j _ hne => by rw [ad_kids I.pos, if_neg hne, List.append_nil]
theorem ad_prs {nds : List Nd} {K m : Nat} {x : List Nat} {names : List (List Nat)} (I : Inv' nds) (hf : nds.length ≤ 9) (hx : x ∈ NM) (hK : pfind nds 0 names = some K) (hn : names.length < 3) (hno : ∀ j ∈ kidsL nds K, nmAt nds j ≠ x) :
    prs (adNd nds K x m) K = prs nds K ++ [(x, some (fmo m))] := by
  have c := ad_chg (m := m) I hf hx hK hn hno
  have hKl := pf_lt names 0 K I.pos hK
  unfold prs
  rw [ad_kids I.pos, if_pos rfl, List.map_append]
  have e1 : mdAt (adNd nds K x m) K = mdAt nds K := by unfold mdAt; rw [ad_old hKl]
  have e2 : nmAt (adNd nds K x m) nds.length = x := by unfold nmAt; rw [ad_new]
  have e3 : tx (adNd nds K x m) nds.length = fmo m := by
    rw [tx_unf c.I', ad_kids I.pos, if_neg (by omega), List.append_nil]
    have ek : kidsL nds nds.length = [] := by
      rw [List.eq_nil_iff_forall_not_mem]
      intro j hj
      have := kid_gt I hj
      have := (kids_mem.mp hj).2.1
      omega
    rw [ek, fmo_lname]
    have : mdAt (adNd nds K x m) nds.length = m := by unfold mdAt; rw [ad_new]
    rw [this]; simp
  rw [e1, List.cons_append]
  congr 1
  congr 1
  · exact List.map_congr_left fun j hj => by rw [ad_nm (kids_mem.mp hj).2.1, c.below hj]
  · rw [List.map_cons, List.map_nil, e2, e3]
end Mine
end
section
set_option tactic.hygienic false
open PySem PySem.Calls PySem.W PyProof.Rows
namespace Mine
theorem pf_snoc (nds : List Nd) (x : List Nat) : ∀ (a : List (List Nat)) (k j : Nat), pfind nds k a = some j → pfind nds k (a ++ [x]) = pfind nds j [x]
  | [], k, j, h => by cases h; rfl
  | y :: r, k, j, h => by
    have ef : ∀ s, pfind nds k (y :: s) = match lbelow nds k y with
      | [] => none
      | i :: _ => if lopen (mdAt nds k) then pfind nds i s else none := fun _ => rfl
    rw [ef] at h
    rw [List.cons_append, ef]
    cases hb : lbelow nds k y with
    | nil => rw [hb] at h; cases h
    | cons i is =>
      rw [hb] at h
      cases ho : lopen (mdAt nds k) with
      | false => rw [ho] at h; cases h
      | true =>
        rw [ho] at h
        simp only [if_true] at h ⊢
        exact pf_snoc nds x r i j h
theorem path_le (nds : List Nd) (names : List (List Nat)) (k : Nat) : (pathN nds k names).length ≤ names.length := by
  have := pf_path nds names k
  revert this
  cases pfind nds k names with
  | none => intro h; exact Nat.le_of_lt h
  | some j => intro h; omega
section
variable {C : Cx}
noncomputable def StepC (C : Cx) (nds : List Nd) (spot : List (List Nat)) (w m : Nat) (p1 p2 : List Nat × Nat × List (List Nat)) : Prop :=
    ∃ nds' spot', Inv' nds' ∧ nds'.length ≤ nds.length + 1 ∧ Good spot' ∧ spot'.length ≤ 3 ∧
      (∀ n, PuG C "_law_run" (n + 6) [.str (S (tx nds 0)), .str (S (pth spot)), .int (w : Int), .list [.str (S p1.1), .str (S p2.1)], .int (m : Int)] (.tup [.str (S (tx nds' 0)), .str (S (pth spot'))])) ∧
      (∀ n, PuG C "_law_model" (n + 4) [nodesV nds, .list (spot.map fS), .int (w : Int), .list [partV p1, partV p2], .int (m : Int)] (.tup [nodesV nds', .list (spot'.map fS)]))
theorem StepC.mk {nds : List Nd} {spot : List (List Nat)} {w m : Nat} {p1 p2 : List Nat × Nat × List (List Nat)} (nds' : List Nd) (spot' : List (List Nat)) (h1 : Inv' nds') (h2 : nds'.length ≤ nds.length + 1) (h3 : Good spot') (h4 : spot'.length ≤ 3)
    (h5 : ∀ n, PuG C "_law_run" (n + 6) [.str (S (tx nds 0)), .str (S (pth spot)), .int (w : Int), .list [.str (S p1.1), .str (S p2.1)], .int (m : Int)] (.tup [.str (S (tx nds' 0)), .str (S (pth spot'))]))
    (h6 : ∀ n, PuG C "_law_model" (n + 4) [nodesV nds, .list (spot.map fS), .int (w : Int), .list [partV p1, partV p2], .int (m : Int)] (.tup [nodesV nds', .list (spot'.map fS)])) : StepC C nds spot w m p1 p2 := ⟨nds', spot', h1, h2, h3, h4, h5, h6⟩
theorem law_step (g : Gd C) {nds : List Nd} {spot : List (List Nat)} (I : Inv' nds) (hf : nds.length ≤ 9) (hs : Good spot) (hl : spot.length ≤ 3) {w a b m : Nat} (ha : a < 8) (hb : b < 8) : StepC C nds spot w m (partAt a) (partAt b) := by
  have h1 := part_cases a ha
  have h2 := part_cases b hb
  generalize hp1 : partAt a = p1 at *
  generalize hp2 : partAt b = p2 at *
  obtain ⟨t, hJ, h47, hfold, hgo, hns8, htl⟩ := way_two hs (by omega) h1 h2
  generalize ens : stepN (stepN spot p1) p2 = ns at *
  have hgn := good_n hgo
  -- the rows
  obtain ⟨kt, hT⟩ := prs_root I 0
  have hR := rw_path I ns 0 hgo
  have hpl := path_le nds ns 0
  obtain ⟨K, hK⟩ : ∃ K, (0 :: pathN nds 0 ns).getLast? = some K := by
    rw [List.getLast?_eq_some_getLast (List.cons_ne_nil _ _)]; exact ⟨_, rfl⟩
  obtain ⟨Pi, hPi⟩ := List.getLast?_eq_some_iff.mp hK
  have hlenP : Pi.length = (pathN nds 0 ns).length := by
    have := congrArg List.length hPi
    simp at this; omega
  have hKl : K < nds.length := path_lt I.pos K (by rw [hPi]; simp)
  obtain ⟨d, hd, _, _, hmd⟩ := at_lt hKl
  have hrows : (0 :: pathN nds 0 ns).map (prs nds) = Pi.map (prs nds) ++ [prs nds K] := by rw [hPi, List.map_append]; rfl
  have hrs : prs nds 0 :: (pathN nds 0 ns).map (prs nds) = Pi.map (prs nds) ++ [(lname d.md, none) :: (kidsL nds K).map fun j => (nmAt nds j, some (tx nds j))] := by
    rw [← hmd]; exact hrows
  have hfr := frB_lname d.md
  have hwb := wB_lname d.md
  have hlast : (0 :: pathN nds 0 ns)[Pi.length]? = some K := by rw [hPi]; simp
  -- sizes
  have s1 : pth spot ≠ [] := by rw [pth_eq]; exact List.cons_ne_nil _ _
  have s2 : (pth spot).length + p1.1.length + p2.1.length ≤ 10000 := by
    have := pth_len' hs
    have := (part_small p1 h1).2
    have := (part_small p2 h2).2
    omega
  have s3 : lensum 1 ((splitC 47 t).foldl nst []) ≤ 1000000 := by rw [hfold]; have := lensum_good hgo; omega
  have s4 : (interc [47] ((splitC 47 t).foldl nst [])).length ≤ 1000000 := by
    rw [hfold]
    have e := pth_eq ns
    have := congrArg List.length e
    have := pth_len' hgo
    simp at *; omega
  have s5 : [47] ++ interc [47] ((splitC 47 t).foldl nst []) = pth ns := by rw [hfold, pth_eq]; rfl
  have s6 : (pcat ns).length ≤ 10000 := by have := pcat_len hgo; omega
  have s7 : (prs nds 0) ≠ [] := by unfold prs; exact List.cons_ne_nil _ _
  have s8 : (tx nds 0).length ≤ 300000 := size_le I (18 + 1 + 1) 0
  have s9 : (rpl [61, 34, 100] [32, 61, 32, 34, 92, 100] (tx nds 0)).length ≤ 1000000 := by
    rw [rpl_rp3]
    have := rp3_len (tx nds 0).length (tx nds 0) (Nat.le_refl _)
    omega
  have s10 : (prs nds 0).length ≤ 1000 := by have := prs_len I 0; omega
  have s11 : 3 < (lname d.md).length := by rw [lname_len]; decide
  have s12 : (Pi.map (prs nds)).length ≤ 100 := by rw [List.length_map]; omega
  have s13 : ((kidsL nds K).map fun j => (nmAt nds j, some (tx nds j))).length ≤ 900 := by rw [List.length_map]; have := kids_len I K; omega
  have s14 : t.length ≤ 10000 := by omega
  have s15 : ns.length < 9 := by omega
  have s16 : (tx nds 0).length ≤ 900000 := by omega
  have m1 := (part_small p1 h1).1
  have m2 := (part_small p2 h2).1
  have lenR : (Pi.map (prs nds) ++ [(lname d.md, none) :: (kidsL nds K).map fun j => (nmAt nds j, some (tx nds j))]).length = (pathN nds 0 ns).length + 1 := by
    rw [List.length_append, List.length_map, hlenP]; rfl
  have hpf := pf_path nds ns 0
  cases hfind : pfind nds 0 ns with
  | some k =>
    rw [hfind] at hpf
    obtain ⟨hlen, hk⟩ := hpf
    rw [hK] at hk; cases hk
    have hgt : ns.length < (Pi.map (prs nds) ++ [(lname d.md, none) :: (kidsL nds K).map fun j => (nmAt nds j, some (tx nds j))]).length := by omega
    by_cases hw : w = 0
    · cases ho : lopen d.md with
      | true =>
        rw [ho] at hfr
        refine StepC.mk nds ns I (by omega) hgo ?_ (fun n => ?_) (fun n => ?_)
        · obtain ⟨dp, d0, dd⟩ := I.dep
          have e := pf_dep I d0 dd ns 0 K hfind
          rw [d0] at e
          by_cases hK0 : 1 ≤ K
          · obtain ⟨p, q1, _⟩ := I.par K d hK0 hd
            have := (dd K d p hK0 hd q1).2
            omega
          · have : K = 0 := by omega
            rw [this, d0] at e; omega
        · exact run_1 (n := n) g s1 s2 hJ h47 s14 s3 s4 s5 hgn s15 s6 hT s7 s16 s9 s10 hR hrs s11 s12 s13 hw hfr hgt
        · exact model_1 (n := n) g ens.symm (by omega) I.pos (by omega) (by omega) (by omega) hfind hd hw ho
      | false =>
        rw [ho] at hfr
        exact StepC.mk nds spot I (by omega) hs hl (fun n => run_3 (n := n) g s1 s2 hJ h47 s14 s3 s4 s5 hgn s15 s6 hT s7 s16 s9 s10 hR hrs s11 s12 s13 hw hfr)
          (fun n => model_2 (n := n) g ens.symm (by omega) I.pos (by omega) (by omega) (by omega) hfind hd hw ho)
    · have c := ch_chg (m := m) I hd
      have hwords := ch_prs (m := m) I hd
      refine StepC.mk (chNd nds K d m) spot c.I' (by unfold chNd; rw [set_len hd]; omega) hs hl (fun n => ?_) (fun n => ?_)
      · have hj := prs_jr c.I' K
        have hC := c.climb hgo hK Pi.length K hlast
        rw [← jtx_prs c.I', hrows, ← List.length_map (f := prs nds)] at hC
        rw [hwords] at hj hC
        have e : prs nds K = (lname d.md, none) :: (kidsL nds K).map fun j => (nmAt nds j, some (tx nds j)) := by rw [← hmd]; rfl
        rw [e] at hC
        exact run_4 (n := n) g s1 s2 hJ h47 s14 s3 s4 s5 hgn s15 s6 hT s7 s16 s9 s10 hR hrs s11 s12 s13 hw hgt hj hC
      · exact model_4 (n := n) g ens.symm (by omega) I.pos (by omega) (by omega) (by omega) hfind hd hw
  | none =>
    rw [hfind] at hpf
    replace hpf : (pathN nds 0 ns).length < ns.length := hpf
    have hle : ¬ ns.length < (Pi.map (prs nds) ++ [(lname d.md, none) :: (kidsL nds K).map fun j => (nmAt nds j, some (tx nds j))]).length := by omega
    by_cases hw : w = 0
    · refine StepC.mk nds spot I (by omega) hs hl (fun n => ?_) (fun n => model_3 (n := n) g ens.symm (by omega) I.pos (by omega) (by omega) (by omega) hfind hw)
      cases ho : lopen d.md with
      | true =>
        rw [ho] at hfr
        exact run_2 (n := n) g s1 s2 hJ h47 s14 s3 s4 s5 hgn s15 s6 hT s7 s16 s9 s10 hR hrs s11 s12 s13 hw hfr hle
      | false =>
        rw [ho] at hfr
        exact run_3 (n := n) g s1 s2 hJ h47 s14 s3 s4 s5 hgn s15 s6 hT s7 s16 s9 s10 hR hrs s11 s12 s13 hw hfr
    · obtain ⟨a0, x, hcat⟩ : ∃ a0 x, ns = a0 ++ [x] := by
        rcases List.eq_nil_or_concat ns with h | ⟨a0, x, h⟩
        · rw [h] at hpf; simp at hpf
        · exact ⟨a0, x, by rw [h, List.concat_eq_append]⟩
      have hdl : ns.dropLast = a0 := by rw [hcat]; simp
      have hxl : ns.getLast? = some x := by rw [hcat]; simp
      have hxN : x ∈ NM := hgo x (by rw [hcat]; simp)
      have hnl : ns.length = a0.length + 1 := by rw [hcat]; simp
      obtain ⟨ext, he1, he2, he3⟩ := path_snoc nds x a0 0
      rw [← hcat] at he1
      have hpa := pf_path nds a0 0
      cases hfa : pfind nds 0 a0 with
      | none =>
        rw [hfa] at hpa
        replace hpa : (pathN nds 0 a0).length < a0.length := hpa
        have hext := he2 hfa
        have hpl2 : (pathN nds 0 ns).length < a0.length := by rw [he1, hext, List.append_nil]; exact hpa
        have hneq : (Pi.map (prs nds) ++ [(lname d.md, none) :: (kidsL nds K).map fun j => (nmAt nds j, some (tx nds j))]).length ≠ ns.length := by omega
        refine StepC.mk nds spot I (by omega) hs hl (fun n => ?_) (fun n => model_9 (n := n) g ens.symm (by omega) I.pos (by omega) (by omega) (by omega) hfind (by rw [hdl]; exact hfa) hw)
        cases ho : lopen d.md with
        | false =>
          rw [ho] at hfr
          exact run_6 (n := n) g s1 s2 hJ h47 s14 s3 s4 s5 hgn s15 s6 hT s7 s16 s9 s10 hR hrs s11 s12 s13 hw hle hfr
        | true =>
          rw [ho] at hfr
          cases hww : (d.md / 128 % 2 == 1) with
          | false =>
            rw [hww] at hwb
            exact run_7 (n := n) g s1 s2 hJ h47 s14 s3 s4 s5 hgn s15 s6 hT s7 s16 s9 s10 hR hrs s11 s12 s13 hw hle hfr hwb
          | true =>
            rw [hww] at hwb
            exact run_8 (n := n) g s1 s2 hJ h47 s14 s3 s4 s5 hgn s15 s6 hT s7 s16 s9 s10 hR hrs s11 s12 s13 hw hle hfr hwb hneq
      | some k =>
        rw [hfa] at hpa
        obtain ⟨q1, q2⟩ := hpa
        have hext : ext = [] := by
          have := congrArg List.length he1
          rw [List.length_append] at this
          exact List.length_eq_zero_iff.mp (by omega)
        have hpe : pathN nds 0 ns = pathN nds 0 a0 := by rw [he1, hext, List.append_nil]
        have hkK : k = K := by rw [← hpe, hK] at q2; cases q2; rfl
        subst hkK
        have heq : (Pi.map (prs nds) ++ [(lname d.md, none) :: (kidsL nds k).map fun j => (nmAt nds j, some (tx nds j))]).length = ns.length := by rw [lenR, hpe, q1, hnl]
        have hfa' : pfind nds 0 ns.dropLast = some k := by rw [hdl]; exact hfa
        by_cases h4 : ns.length < 4
        · cases ho : lopen d.md with
          | false =>
            rw [ho] at hfr
            exact StepC.mk nds spot I (by omega) hs hl (fun n => run_6 (n := n) g s1 s2 hJ h47 s14 s3 s4 s5 hgn s15 s6 hT s7 s16 s9 s10 hR hrs s11 s12 s13 hw hle hfr)
              (fun n => model_7 (n := n) g ens.symm (by omega) I.pos (by omega) (by omega) (by omega) hfind hfa' hd hw h4 ho)
          | true =>
            rw [ho] at hfr
            cases hww : (d.md / 128 % 2 == 1) with
            | false =>
              rw [hww] at hwb
              exact StepC.mk nds spot I (by omega) hs hl (fun n => run_7 (n := n) g s1 s2 hJ h47 s14 s3 s4 s5 hgn s15 s6 hT s7 s16 s9 s10 hR hrs s11 s12 s13 hw hle hfr hwb)
                (fun n => model_8 (n := n) g ens.symm (by omega) I.pos (by omega) (by omega) (by omega) hfind hfa' hd hw h4 ho hww)
            | true =>
              rw [hww] at hwb
              have hno : ∀ j ∈ kidsL nds k, nmAt nds j ≠ x := by
                intro j hj hjx
                have hsn := pf_snoc nds x a0 0 k hfa
                rw [← hcat, hfind] at hsn
                have hmem : j ∈ lbelow nds k x := lbelow_mem.mpr ⟨hj, hjx⟩
                have ef : pfind nds k [x] = match lbelow nds k x with
                  | [] => none
                  | i :: _ => if lopen (mdAt nds k) then pfind nds i [] else none := rfl
                rw [ef, hmd, ho] at hsn
                cases hbb : lbelow nds k x with
                | nil => rw [hbb] at hmem; cases hmem
                | cons i is => rw [hbb] at hsn; cases hsn
              have c := ad_chg (m := m) I hf hxN hfa (by omega) hno
              have hwords := ad_prs (m := m) I hf hxN hfa (by omega) hno
              refine StepC.mk (adNd nds k x m) spot c.I' (by rw [ad_len]; omega) hs hl (fun n => ?_) (fun n => ?_)
              · have hj := prs_jr c.I' k
                have hC := c.climb hgo hK Pi.length k hlast
                rw [← jtx_prs c.I', hrows, ← List.length_map (f := prs nds)] at hC
                rw [hwords] at hj hC
                have e : prs nds k = (lname d.md, none) :: (kidsL nds k).map fun j => (nmAt nds j, some (tx nds j)) := by rw [← hmd]; rfl
                rw [e] at hC hj
                exact run_5 (n := n) g s1 s2 hJ h47 s14 s3 s4 s5 hgn s15 s6 hT s7 s16 s9 s10 hR hrs s11 s12 s13 hw heq hfr hwb h4 hxl hj hC
              · exact model_5 (n := n) g ens.symm (by omega) I.pos (by omega) (by omega) (by omega) hfind hfa' hd hw hxl h4 ho hww
        · refine StepC.mk nds spot I (by omega) hs hl (fun n => ?_) (fun n => model_6 (n := n) g ens.symm (by omega) I.pos (by omega) (by omega) (by omega) hfind hfa' hd hw h4)
          cases ho : lopen d.md with
          | false =>
            rw [ho] at hfr
            exact run_6 (n := n) g s1 s2 hJ h47 s14 s3 s4 s5 hgn s15 s6 hT s7 s16 s9 s10 hR hrs s11 s12 s13 hw hle hfr
          | true =>
            rw [ho] at hfr
            cases hww : (d.md / 128 % 2 == 1) with
            | false =>
              rw [hww] at hwb
              exact run_7 (n := n) g s1 s2 hJ h47 s14 s3 s4 s5 hgn s15 s6 hT s7 s16 s9 s10 hR hrs s11 s12 s13 hw hle hfr hwb
            | true =>
              rw [hww] at hwb
              exact run_9 (n := n) g s1 s2 hJ h47 s14 s3 s4 s5 hgn s15 s6 hT s7 s16 s9 s10 hR hrs s11 s12 s13 hw hle hfr hwb heq h4
end
end Mine
end
section
set_option tactic.hygienic false
open PySem PySem.Calls PySem.W PyProof.Rows
namespace Mine
section
variable {C : Cx} {n : Nat}
noncomputable def N64 : List (Str × NameKind) := [("script", .local), ("tree", .local), ("here", .local), ("nodes", .local), ("spot", .local), ("x", .local), ("way", .local), ("parts", .local), ("mode", .local), ("join_header_words", .globalImplicit), ("filemode", .globalImplicit), ("_law_step", .globalImplicit), ("_law_run", .globalImplicit), ("_law_model", .globalImplicit), ("_law_text", .globalImplicit)]
noncomputable def loop64 : Stmt := nth (dr 64).body 4
noncomputable def NC64 : List (Str × NameKind) := [(".0", .local), ("part", .local)]
theorem comp64 {cd : Value} {q : Str} {scope : Scope} (hn : scope.names = NC64) (hk : scope.kind = .function) {v0 v1 v2 v3 v4 v5 v6 v7 v8 : V} : CompOk (fs N64 q cd) scope NC64 [.val v0, .val v1, .val v2, .val v3, .val v4, .val v5, .val v6, .val v7, .val v8, .unset, .unset, .unset, .unset, .unset, .unset] [.unset, .unset] := by
  refine ⟨hk, ?_, ?_, ?_, ?_, ?_, ?_⟩
  · rw [hn]; decide
  · rw [hn]; decide
  · rw [hn]; rfl
  · rw [hn]
    intro j x h
    match j with
    | 0 => cases h
    | 1 => cases h
    | j + 2 => cases h
  · rw [hn]
    intro j x k h hf sl hs
    match j with
    | 0 => cases hs; rfl
    | 1 => cases hs; rfl
    | j + 2 => cases hs
  · rw [hn]
    intro j sl hs
    match j with
    | 0 => exact .inl ⟨_, rfl⟩
    | 1 => exact .inl ⟨_, rfl⟩
    | j + 2 => cases hs
theorem law_body (g : Gd C) {q : Str} {cd : Value} {sc : V} {nds : List Nd} {spot : List (List Nat)} {x : Int} {s6 s7 s8 : Slot} (I : Inv' nds) (hf : nds.length ≤ 9) (hs : Good spot) (hl : spot.length ≤ 3) :
    ∃ nds' spot' s6' s7' s8', Inv' nds' ∧ nds'.length ≤ nds.length + 1 ∧ Good spot' ∧ spot'.length ≤ 3 ∧ ExW C (n + 12) (fs N64 q cd) (sBody loop64) [.val sc, .val (.str (S (tx nds 0))), .val (.str (S (pth spot))), .val (nodesV nds), .val (.list (spot.map fS)), .val (.int x), s6, s7, s8, .unset, .unset, .unset, .unset, .unset, .unset] .next [.val sc, .val (.str (S (tx nds' 0))), .val (.str (S (pth spot'))), .val (nodesV nds'), .val (.list (spot'.map fS)), .val (.int x), s6', s7', s8', .unset, .unset, .unset, .unset, .unset, .unset] := by
  obtain ⟨w, a, b, m, hw, ha, hb, hm, hstep⟩ := lawstep_pu (C := C) g (x := x)
  obtain ⟨nds', spot', I', hlen, hs', hl', hr, hmo⟩ := law_step g I hf hs hl (w := w) (m := m) ha hb
  generalize partAt a = p1 at *
  generalize partAt b = p2 at *
  have hst := (hstep n).le (show n + 1 ≤ n + 12 by omega)
  have hrun := (hr n).le (show n + 6 ≤ n + 12 by omega)
  have hmod := (hmo n).le (show n + 4 ≤ n + 12 by omega)
  have hpos := I'.pos
  have hfew := I'.few
  have e0 : tx nds' 0 = ltext nds' ((nds'.length - 1) + 1) 0 := fuel_eq I' (18 + 1) (nds'.length - 1) 0 (by omega) (by omega)
  have htx : PuG C "_law_text" (n + 12) [nodesV nds', .int 0] (.str (S (tx nds' 0))) := by
    rw [e0]
    exact (lawtext_pu (n := n) g I'.nok (nds'.length - 1) 0 hpos (by omega)).le (by omega)
  have hjs : lensum ([47] : List Nat).length spot' ≤ 16000000 := by have := lensum_good hs'; show lensum 1 spot' ≤ _; omega
  have hjl : (interc [47] spot').length ≤ 1000 := by
    have e := pth_eq spot'
    have := congrArg List.length e
    have := pth_len' hs'
    simp at *; omega
  refine ⟨nds', spot', .val (.int (w : Int)), .val (.list [partV p1, partV p2]), .val (.int (m : Int)), I', hlen, hs', hl', ?_⟩
  exact (ExW.cons (Ex1W.assignT (EvW.callG 11 rfl (EvsW.cons (EvW.name 5 rfl rfl rfl rfl) EvsW.nil) hst) (AsW.tuple (AssW.cons (AsW.name 6 rfl (.inl rfl)) (AssW.cons (AsW.name 7 rfl (.inl rfl)) (AssW.cons (AsW.name 8 rfl (.inl rfl)) AssW.nil))))) (ExW.cons (Ex1W.assignT (EvW.callG 12 rfl (EvsW.cons (EvW.name 1 rfl rfl rfl rfl) (EvsW.cons (EvW.name 2 rfl rfl rfl rfl) (EvsW.cons (EvW.name 6 rfl rfl rfl rfl) (EvsW.cons (EvW.comp (EvW.name 7 rfl rfl rfl rfl) (PyIt.list (l := [partV p1, partV p2])) (comp64 rfl rfl) (res := [.str (S p1.1), .str (S p2.1)]) (CpW.take (AsW.name 1 rfl (.inl rfl)) CtW.nil (EvW.sub (EvW.name 1 rfl rfl rfl rfl) EvW.int (Op2.idxT (j := 0) rfl rfl ⟨by decide, by decide⟩)) (CpW.take (AsW.name 1 rfl (.inl rfl)) CtW.nil (EvW.sub (EvW.name 1 rfl rfl rfl rfl) EvW.int (Op2.idxT (j := 0) rfl rfl ⟨by decide, by decide⟩)) CpW.nil)) (by simp)) (EvsW.cons (EvW.name 8 rfl rfl rfl rfl) EvsW.nil))))) hrun) (AsW.tuple (AssW.cons (AsW.name 1 rfl (.inl rfl)) (AssW.cons (AsW.name 2 rfl (.inl rfl)) AssW.nil)))) (ExW.cons (Ex1W.assignT (EvW.callG 13 rfl (EvsW.cons (EvW.name 3 rfl rfl rfl rfl) (EvsW.cons (EvW.name 4 rfl rfl rfl rfl) (EvsW.cons (EvW.name 6 rfl rfl rfl rfl) (EvsW.cons (EvW.name 7 rfl rfl rfl rfl) (EvsW.cons (EvW.name 8 rfl rfl rfl rfl) EvsW.nil))))) hmod) (AsW.tuple (AssW.cons (AsW.name 3 rfl (.inl rfl)) (AssW.cons (AsW.name 4 rfl (.inl rfl)) AssW.nil)))) (ExW.cons (Ex1W.ifF (ItW.boolop (ItsW.goOr (ItW.to (ItW.cmp (EvW.name 1 rfl rfl rfl rfl) (EvW.callG 14 rfl (EvsW.cons (EvW.name 3 rfl rfl rfl rfl) (EvsW.cons EvW.int EvsW.nil)) htx) Op2.neT rfl) (by rw [bne_self_eq_false])) (ItsW.goOr (ItW.to (ItW.cmp (EvW.name 2 rfl rfl rfl rfl) (EvW.binop (EvW.strS [47] (by decide +kernel)) (EvW.meth (EvW.strS [47] (by decide +kernel)) (EvsW.cons (EvW.name 4 rfl rfl rfl rfl) EvsW.nil) HasT.str mi_join (Pu.joinT (z := [47]) (ls := spot') hjs)) (Op2.addT (by first | decide | omega | (simp only [List.length_append, List.length_cons, List.length_nil, List.length_map, List.length_replicate, List.length_take, List.length_drop]; omega)))) Op2.neT rfl) (by rw [pth_eq]; exact bne_self_eq_false _)) ItsW.nilOr))) ExW.nil) ExW.nil))))
theorem law_loop (g : Gd C) {q : Str} {cd : Value} {sc : V} : ∀ (xs : List Int) (nds : List Nd) (spot : List (List Nat)) (s5 s6 s7 s8 : Slot), Inv' nds → nds.length + xs.length ≤ 10 → Good spot → spot.length ≤ 3 →
    ∃ σ', Lp C (n + 12) (fs N64 q cd) (sTarget loop64) (sBody loop64) (xs.map V.int) [.val sc, .val (.str (S (tx nds 0))), .val (.str (S (pth spot))), .val (nodesV nds), .val (.list (spot.map fS)), s5, s6, s7, s8, .unset, .unset, .unset, .unset, .unset, .unset] .next σ'
  | [], nds, spot, s5, s6, s7, s8, _, _, _, _ => ⟨_, LpW.nil⟩
  | x :: xs, nds, spot, s5, s6, s7, s8, I, hf, hs, hl => by
    simp only [List.length_cons] at hf
    obtain ⟨nds', spot', s6', s7', s8', I', hlen, hs', hl', hb⟩ := law_body (n := n) g (q := q) (cd := cd) (sc := sc) (x := x) (s6 := s6) (s7 := s7) (s8 := s8) I (by omega) hs hl
    obtain ⟨σ', ih⟩ := law_loop g (q := q) (cd := cd) (sc := sc) xs nds' spot' (.val (.int x)) s6' s7' s8' I' (by omega) hs' hl'
    exact ⟨σ', LpW.next (AsW.name 5 rfl (.inl rfl)) hb ih⟩
noncomputable def nds0 : List Nd := [⟨-1, [], 16877⟩]
theorem inv0 : Inv' nds0 where
  pos := by decide
  few := by decide
  root := ⟨16877, rfl⟩
  par := fun j d h1 h => by have := (List.getElem?_eq_some_iff.mp h).1; simp [nds0] at this; omega
  nm := fun j d h1 h => by have := (List.getElem?_eq_some_iff.mp h).1; simp [nds0] at this; omega
  sib := fun i j d e h1 h2 h h' _ _ => by have := (List.getElem?_eq_some_iff.mp h).1; simp [nds0] at this; omega
  dep := ⟨fun _ => 0, rfl, fun j d p h1 h _ => by have := (List.getElem?_eq_some_iff.mp h).1; simp [nds0] at this; omega⟩
theorem prs0 : prs nds0 0 = [(fmo 16877, none)] := by rw [fmo_lname]; rfl
theorem law_run (g : Gd C) {is : List Int} (h : is.length ≤ 63) (cd : Value) (q : Str) : ∃ σ', ExW C (n + 12) (fs N64 q cd) (dr 64).body ([V.list (is.map V.int)].map Slot.val ++ List.replicate (N64.length - 1) .unset) (.ret (.bool true)) σ' := by
  have e1 : jtx [(fmo 16877, none)] = tx nds0 0 := by rw [← prs0]; exact jtx_prs inv0 0
  have hjr := prs_jr inv0 0
  rw [prs0] at hjr
  have hj0 : PuG C "join_header_words" (n + 12) [.list [.list ([(fmo 16877, none)].map PV)]] (.str (S (tx nds0 0))) := by
    rw [← e1]
    exact (join_header_pu (n := n) g hjr.ne hjr.all hjr.few hjr.sum hjr.size).le (by omega)
  obtain ⟨σ', hlp⟩ := law_loop (n := n) g (q := q) (cd := cd) (sc := .list (is.map V.int)) (([9, 203, 333, 205, 8] : List Int) ++ is.take 4) nds0 [] .unset .unset .unset .unset inv0 (by simp [nds0]; omega) (fun x hx => by cases hx) (by simp)
  exact ⟨_, (ExW.cons (Ex1W.assign 1 (EvW.callG 9 rfl (EvsW.cons (EvW.list (EvsW.cons (EvW.list (EvsW.cons (EvW.tuple (EvsW.cons (EvW.callG 10 rfl (EvsW.cons EvW.int EvsW.nil) (PuG.le (filemode_pu (n := n) (m := 16877) g) (by omega))) (EvsW.cons EvW.none EvsW.nil)) (by first | (simp; done) | decide)) EvsW.nil) (by first | (simp; done) | decide)) EvsW.nil) (by first | (simp; done) | decide)) EvsW.nil) hj0) rfl (.inl rfl)) (ExW.cons (Ex1W.assign 2 (EvW.strS [47] (by decide +kernel)) rfl (.inl rfl)) (ExW.cons (Ex1W.assign 3 (EvW.to (EvW.list (EvsW.cons (EvW.tuple (EvsW.cons (EvW.unop EvW.int Op1.negI) (EvsW.cons (EvW.strS [] (by decide +kernel)) (EvsW.cons EvW.int EvsW.nil))) (by first | (simp; done) | decide)) EvsW.nil) (by first | (simp; done) | decide)) (show V.list [.tup [.int (-1), .str (S []), .int 16877]] = nodesV nds0 from rfl)) rfl (.inl rfl)) (ExW.cons (Ex1W.assign 4 (EvW.to (EvW.list EvsW.nil (by first | (simp; done) | decide)) (show V.list [] = V.list (([] : List (List Nat)).map fS) from rfl)) rfl (.inl rfl)) (ExW.cons (Ex1W.for (EvW.to (EvW.binop (EvW.list (EvsW.cons EvW.int (EvsW.cons EvW.int (EvsW.cons EvW.int (EvsW.cons EvW.int (EvsW.cons EvW.int EvsW.nil))))) (by first | (simp; done) | decide)) (EvW.to (EvW.slLG (EvW.name 0 rfl rfl rfl rfl) EvpW.none (EvpW.some EvW.int) (by simp) (by simp) (by simp; omega)) (show V.list (cut (is.map V.int) none (some ((4 : Nat) : Int))) = V.list ((is.take 4).map V.int) by rw [cutL_lo, List.map_take])) (Op2.addL (by simp; omega))) (show V.list ([.int 9, .int 203, .int 333, .int 205, .int 8] ++ (is.take 4).map V.int) = V.list ((([9, 203, 333, 205, 8] : List Int) ++ is.take 4).map V.int) by rw [List.map_append]; rfl)) PyIt.list hlp (AfterW.next ExW.nil)) (ExW.ret (Ex1W.ret EvW.bool)))))))⟩
/-! the call of the law: no token is asked for -/
theorem cellsFrom_nil : ∀ (names : List (Str × NameKind)) (n : Nat) (acc : List (Str × Addr)), (∀ x ∈ names, x.2 ≠ .cell) → cellsFrom n names acc = acc
  | [], _, _, _ => rfl
  | (x, k) :: r, n, acc, h => by
    have hk := h (x, k) (List.mem_cons_self ..)
    unfold cellsFrom
    have : (k == NameKind.cell) = false := by revert hk; cases k <;> simp
    rw [this, if_neg (by decide)]
    exact cellsFrom_nil r n acc fun y hy => h y (List.mem_cons_of_mem _ hy)
theorem top_call {d : DefRec} {N : List (Str × NameKind)} {a res : V} (D : Df C d) (hc : okCall d 1 = true) (hb : BindOk d 1) (hN : d.scope.names = N) (hnc : ∀ x ∈ N, x.2 ≠ .cell) {x0 : Str} (h0 : N[0]? = some (x0, .local)) (hbody : ∀ cd q, ∃ σ', ExW C n (fs N q cd) d.body ([a].map .val ++ List.replicate (N.length - 1) .unset) (.ret res) σ')
    {fa : Addr} (hfa : C.mg d.name = some (.ref fa)) {A : Around} {s : Shared} {f : Frz} {u : Value} {E : Value → Shared → Prop} {Q : Value → Shared → Prop} (r : Room (n + 1) A) (I : Inv C f s.heap) (Ru : Rep f a u)
    (hQ : ∀ h' k f' v, Inv C f' h' → Step C.T f s.heap f' h' → Rep f' res v → Q v { s with heap := h', toks := k }) : wpAny (model C.prog C.w) A (PySem.call (.ref fa) [u]) Q E s := by
  subst hN
  obtain ⟨fa', o, pm, cd, doc, h1, D⟩ := D.ex
  rw [hfa] at h1; cases h1
  obtain ⟨σ', hx⟩ := hbody cd (d.name ++ ".<locals>.")
  have hrec : s.heap.CodeRec cd d.name := by
    obtain ⟨c, oc, vs, t, h1, h2, h3, h4⟩ := D.rec_
    exact ⟨c, oc, vs, t, h1, I.ghost h2, h3, h4⟩
  refine wpAny_call (codeAny_call_function (by have := r.depth; unfold recursionLimit; omega) (I.ghost D.at_) D.data D.co D.gen D.body hrec ?_)
  rw [hb pm cd doc [u] rfl]
  obtain ⟨rest, hrest⟩ : ∃ rest, d.scope.names = (x0, .local) :: rest := by
    cases e : d.scope.names with
    | nil => rw [e] at h0; cases h0
    | cons y ys => rw [e] at h0; simp at h0; exact ⟨ys, by rw [h0]⟩
  have hz : (d.scope.names.map (·.1)).zip [u] = [(x0, u)] := by rw [hrest]; simp
  rw [hz]
  have hlk : d.scope.names.lookup x0 = some .local := by rw [hrest]; simp [List.lookup]
  refine wpAny_pure (wpAny_newFunctionEnv (closure := []) hnc (fun y hy => by rw [List.mem_singleton.mp hy]; exact hlk) (fun h' hns hsb => ?_) D.kind)
  have hce : callEnvC (docDef d.name d.params d.body d.scope pm cd doc) s.heap.objs.size fa = newEnv d.scope s.heap.objs.size mainGlobals [] (d.name ++ ".<locals>.") (some fa) cd none builtinsNs := by
    unfold callEnvC
    show newEnv d.scope _ _ (cellsFrom _ d.scope.names []) _ _ _ _ _ = _
    rw [cellsFrom_nil _ _ _ hnc]; rfl
  have hkd : (callEnvC (docDef d.name d.params d.body d.scope pm cd doc) s.heap.objs.size fa).kindOf x0 = some .local := by
    rw [hce]; exact hlk
  have hxc : InCallC s (callEnvC (docDef d.name d.params d.body d.scope pm cd doc) s.heap.objs.size fa).locals (bindL (callEnvC (docDef d.name d.params d.body d.scope pm cd doc) s.heap.objs.size fa).kindOf (((fsOf d cd).names.map (·.1)).zip [u]) fun _ => none) (callEnvC (docDef d.name d.params d.body d.scope pm cd doc) s.heap.objs.size fa).cells
      (bindC (callEnvC (docDef d.name d.params d.body d.scope pm cd doc) s.heap.objs.size fa).kindOf (((fsOf d cd).names.map (·.1)).zip [u]) fun _ => none) { s with heap := h', toks := s.toks + [(x0, u)].length } := by
    show InCallC s _ (bindL _ ((d.scope.names.map (·.1)).zip [u]) _) _ (bindC _ ((d.scope.names.map (·.1)).zip [u]) _) _
    rw [hz]
    have em : bindL (callEnvC (docDef d.name d.params d.body d.scope pm cd doc) s.heap.objs.size fa).kindOf [(x0, u)] (fun _ => none) = fun y => [(x0, u)].reverse.lookup y := by
      funext y
      unfold bindL
      rw [if_pos hkd]
      unfold bindL
      by_cases e : y = x0
      · subst e; simp [List.lookup]
      · simp [List.lookup, e]
        rw [beq_eq_false_iff_ne.mpr e]
    rw [em, hce]
    refine ⟨⟨⟨h', _, rfl⟩, hns, fun b o e => ?_, Nat.le_refl _⟩, (fun m c hm => by cases hm), List.Pairwise.nil, (fun m c hm => by cases hm)⟩
    have hlt := Heap.lt_size e
    exact (hsb.2 b (Nat.ne_of_lt hlt)).trans (Heap.get?_push_of_some _ e)
  obtain ⟨K, S⟩ := start_sr (args := [a]) (us := [u]) (s := s) D.toDefEnv I (.cons Ru .nil) (okCall.le hc) (hk_of (okCall.hk hc)) hxc
  rw [hce] at K S
  refine ⟨(C.nolimit.keeps fun _ _ => I.ghost).keeps hxc.toInCall.keep, codeAny_func ?_⟩
  refine hx.h (r.deeper _) K (Nat.succ_pos _) S fun h2 k2 f2 v oa2 p2 l2 S2 R2 => ?_
  cases R2 with | ret Rv =>
  exact hQ h2 k2 f2 _ S2.inv S2.st Rv
end
end Mine
end
section
set_option tactic.hygienic false
open PySem PySem.Calls PySem.W PyProof.Rows
namespace Mine
theorem law_name : (defOf vw PySem.Challenge.rw_ik0077_01.row.name).map (fun x => x.1.name) = some (dr 64).name := by kernel_rfl
theorem ints_rep {f : Frz} : ∀ {vs : List Value} {is : List Int}, IntsAre vs is → RepAll f (is.map V.int) vs
  | _, _, .nil => .nil
  | _, _, .cons n t r => .cons (.int n t) (ints_rep r)
theorem oldK_of {C : Cx} {h h' : Heap} {f f' : Frz} (hT : ∀ t ∈ C.T, h.get? t.P = some (tabObj #[]) ∧ isCodeTable h t.P) (S : Step C.T f h f' h') (I : Inv C f' h') : OldK h h' := by
  have key : ∀ b o, h.get? b = some o → asItWas h h' b o ∧ ∃ o', h'.get? b = some o' := by
    intro b o e
    by_cases hb : ∃ t ∈ C.T, b = t.P
    · obtain ⟨t, ht, rfl⟩ := hb
      obtain ⟨e1, e2⟩ := hT t ht
      rw [e1] at e; cases e
      rcases (I.tab t ht).2 with q | ⟨c', o', vs, k, q, _⟩
      · exact ⟨.inl q, _, q⟩
      · exact ⟨.inr (.inl ⟨e2, rfl, #[], #[rawInt t.ln, rawInt t.col, .ref c'], rfl, q⟩), _, q⟩
    · have := S.keep b o e fun t ht q => hb ⟨t, ht, q⟩
      exact ⟨.inl this, _, this⟩
  exact ⟨fun b o e => (key b o e).1, fun b o e => (key b o e).2⟩
theorem names64 : (dr 64).scope.names = N64 := by kernel_rfl
theorem okCall64 : okCall (dr 64) 1 = true := by decide +kernel
theorem post_ok (args : List WData) : PySem.Challenge.rw_ik0077_01.row.claim.post args (.bool true) args = true := by
  exact postW_of (by wrow_shape) (by wtm_val) (by str_meet; first | done | w_fin)
set_option tactic.hygienic true in
theorem hc_all (d : DefRec) (kwd : List (Str × PySem.Expr)) (hdef : defOf vw PySem.Challenge.rw_ik0077_01.row.name = some (d, kwd)) :
    WalkO vw loL XPm (Hook.says Hook.none) PySem.Challenge.rw_ik0077_01.row.toRowW d kwd (fun f vs => PySem.call f vs) := by
  have hdn : d.name = (dr 64).name := by
    have := law_name
    rw [hdef] at this
    exact Option.some.inj this
  intro w s₀ s₁ mg mb G Y fa o pm cd doc dV kV ho hd hcd hD hmg hg args vals as hpre hlay hrd hwl hlo
  wrow_args hpre hlay hrd hwl hlo
  rename_i is _ _ _ _ _ _ _ a0 vs0 _ hL _ _ _ hI _ hn _
  have hlen : is.length ≤ 63 := by omega
  obtain ⟨C, hw, hm, g, I, hT, hk⟩ := gd_of G
  subst hw
  have hfa : C.mg (dr 64).name = some (.ref fa) := by rw [hm, ← hdn]; exact hmg
  obtain ⟨ol, l1, l2, nl, l3⟩ := hL
  have hfl : FList C.G.get? a0 vs0 := by
    refine ⟨ol, hk a0 ol l1 fun t ht q => ?_, l2, nl, l3⟩
    rw [q, (hT t ht).1] at l1; cases l1; cases l2
  have hp : PySem.Challenge.rw_ik0077_01.row.prog = C.prog := by rw [g.prog]; rfl
  rw [hp]
  refine top_call (n := 12) (a := .list (is.map V.int)) (res := .bool true) (f := C.G.get?) (g.df 64) okCall64 (bind1 64 fun pm cd doc u => by kernel_rfl) names64 (by decide) (x0 := "script") rfl (fun cd q => law_run (n := 0) g hlen cd q) hfa ⟨rfl, by decide, by decide⟩ I (.list hfl (ints_rep hI)) (fun h' k f' v I' S Rv => ?_)
  cases Rv
  refine ⟨.inl ⟨_, _, [], rfl, fun cls => rfl, .bool true, post_ok _, fun _ => ⟨.nil, fun a ha => by cases ha⟩⟩, oldK_of hT S I', rfl, ?_⟩
  show AllBare s₁.gens
  rw [hg]
  intro y hy
  simp at hy
end Mine
end
section
set_option tactic.hygienic false
open PySem PySem.W PyProof.Rows
set_option maxHeartbeats 0
theorem PySem.Challenge.cw_ik0077_01_holds : PySem.Challenge.rw_ik0077_01.Holds := by
  w_on
  refine holds_law Mine.said fun said => ?_
  refine holds_open (q := Mine.vw) (loose := Mine.loL) (Xt := Mine.xpt) (XP := Mine.XPm) (Yf := Hook.obs Hook.none) (Ya := Hook.val Hook.none) (YP := Hook.says Hook.none) (N := 4800) ?hl (Hook.of Hook.none) (Hook.keeps Hook.none) (fun s e => Mine.xpm_of s e) Mine.XPm.keeps (by rfl) (by rfl) (by rfl) (fun s e => recFacts_nil rfl) (by first | rfl | fail "no") (by first | assumption | decide +kernel) (by decide +kernel) ⟨rfl, rfl, rfl, rfl, rfl, by decide +kernel⟩ ?hw ?hc
  case hw => w_witness2
  case hl => exact Mine.leftHere
  case hc => exact Mine.hc_all _ _ (by rfl)
end
