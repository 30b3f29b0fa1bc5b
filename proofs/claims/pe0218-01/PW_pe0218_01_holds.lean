import PyProof.Rows.All
import Wide.All
import OpenK.AllK
import Wide.FinOn
import Lean
import PySem.Challenge.RW_pe0218_01
open PySem PySem.W PySem.Calls PyProof.Rows
set_option Elab.async false
set_option autoImplicit false
set_option maxRecDepth 100000
set_option linter.all false
set_option maxHeartbeats 8000000
set_option bootstrap.genMatcherCode false
set_option compiler.extract_closed false
set_option genSizeOf false
namespace Mine.Internal
section
local macro_rules | `(tactic| o_head $_) => `(tactic| assumption)
theorem hk (h : PySem.Challenge.rw_pe0218_01.row.Holds) : PySem.Challenge.rw_pe0218_01.row.Holds := by k_head
end
noncomputable abbrev P : Program := PySem.Challenge.rw_pe0218_01.row.prog
theorem lk1 : namesResolve P = true := by kernel_rfl
theorem lk2 : (sreFenced P.main && ((moduleNames P.main.body).isEmpty || lookedIntoSs (moduleNames P.main.body) P.main.body)) = true := by kernel_rfl
theorem lk3 : P.boundNames.all (fun n => !worldNames.contains n) = true := by kernel_rfl
theorem lk4 : noRoadLSs { strict := !(importedModules P.main.body).all cThrough.contains, foot := none, bare := (["vars", "dir", "locals"] : List Str).filter (readsOut P P.main.body) } P.main.body = true := by kernel_rfl
theorem lk5 : namesMeet P P.main.body (fun _ n => attrL n) = true := by kernel_rfl
theorem hlk : looksOpen P = true := look_both (look_both (look_both (look_both lk2 lk1) lk3) lk4) lk5
theorem lrow : PySem.Challenge.rw_pe0218_01.row.wellSaid = true := by
  unfold OpenRow.wellSaid OpenRow.partSaid
  rw [show looksOpen PySem.Challenge.rw_pe0218_01.row.toRowW.prog = true from hlk]
  kernel_rfl
theorem lsaid : PySem.Challenge.rw_pe0218_01.wellSaid = true := by
  unfold OpenLaw.wellSaid
  rw [lrow]
  kernel_rfl
noncomputable def stm (n : Nat) : PySem.Stmt := (P.main.body[n]?).getD (.Pass ⟨0, 0, 0, 0⟩)
noncomputable def hview : Program := { P with main := { P.main with body := [stm 15] } }
noncomputable abbrev hloose : List Str := [Str.ofString "_wall", Str.ofString "_netrclex", Str.ofString "TupleComp", Str.ofString "add_func_stats", Str.ofString "add_callers", Str.ofString "Whitespace", Str.ofString "_law_machine", Str.ofString "_law_written", Str.ofString "_law_lead", Str.ofString "_law_column", Str.ofString "_law_least"]
noncomputable abbrev hXt (s : Shared) : Bool := xlAt hview [] s && recOk (RowW.records (OpenRow.toRowW (OpenLaw.row PySem.Challenge.rw_pe0218_01))) s
noncomputable abbrev hH : Hook := kmHook hk.heap_1 [2, 3, 15, 17, 18, 20, 21, 29, 31, 32, 34, 35, 36, 38, 39, 41, 42, 43, 45, 46, 48, 49, 50, 52, 53, 55, 56, 57, 58, 59, 60, 61, 71, 73, 74, 76, 77, 78, 80, 81, 83, 84, 85, 86, 87, 88, 89, 92, 94, 95, 97, 98, 99, 101, 102, 104, 105, 116, 118, 119, 121, 122, 123, 125, 126, 128, 129, 130, 132, 133, 135, 136, 137, 139, 140, 142, 143, 144, 146, 147, 149, 150, 151, 153, 154, 156, 157, 158, 160, 161, 163, 164, 165, 166, 167, 168, 169, 172, 174, 175, 177, 178, 179, 182, 183, 184, 186, 187, 189, 190, 191, 193, 194, 196, 197, 198, 201, 202, 203, 206, 207] (fun _ => by kernel_rfl) [173]
theorem left_of {p q : Program} {loose : List Str} {Xt : Shared → Bool} {α : Type} {Yf : Shared → α} {Ya : World → α} {N m₀ : Nat} {ann : Option Value} (row : String)
    (e : opening p = plainProg p.main.scope.names) (hN : Nat.ble 600 N = true) (f : ∀ s, fenceModules? p s = some s)
    (size : ∀ w : World, ((boot_heap w.params).isNs mainGlobals, (boot_heap w.params).objs.size, (boot_heap w.params).nsMap mainGlobals "__annotations__") = (true, m₀, ann))
    (h : ∀ (b : Bool) (w : World) (os : OsState), (topRun treeTable p (w.withFollow row b) m₀ ann N ⟨boot_heap w.params, #[], boot_drawn, boot_toks, os⟩ (topStub p)).map (fun s => (staticsOk (importedModules p.main.body) (boot_heap w.params) s.heap && namesBound p s.heap && gensDone s && laidKept (boot_heap w.params) s.heap, openSeen q loose (importedModules p.main.body) Xt true s, Yf s)) = some (true, openGood q loose, Ya (w.withFollow row b))) :
    LeftO p q loose Xt Yf Ya N true := fun w => by
  obtain ⟨⟨hp, gs, d, k, os⟩, e1, e2⟩ := Option.map_eq_some_iff.mp (boot_open e hN f w)
  obtain ⟨rfl, rfl, rfl, rfl⟩ : hp = boot_heap w.params ∧ gs = #[] ∧ d = boot_drawn ∧ k = boot_toks := by simpa using e2
  have h0 := h (w.params.followText row) w os
  rw [World.withFollow_self] at h0
  obtain ⟨s, hs, hv⟩ := Option.map_eq_some_iff.mp h0
  obtain ⟨v1, v2⟩ := Prod.mk.inj hv
  obtain ⟨z1, z2, z3⟩ : _ ∧ _ ∧ _ := by simpa only [Prod.mk.injEq] using size w
  have t : topFrom treeTable p w N ⟨boot_heap w.params, #[], boot_drawn, boot_toks, os⟩ = some s := by
    unfold topFrom
    dsimp only
    rw [z1, z2, z3, hs]
    show (match staticsOk (importedModules p.main.body) (boot_heap w.params) s.heap && namesBound p s.heap && gensDone s && laidKept (boot_heap w.params) s.heap with | true => _ | false => _) = _
    rw [v1]
  unfold openEnds
  rw [e1]
  show (topFrom treeTable p w N _).map _ = _
  rw [t]
  exact congrArg some v2
noncomputable abbrev hm0 : Nat := 11
noncomputable abbrev hobs (w : World) (b : Bool) (os : OsState) : Prop := (topRun treeTable P (w.withFollow "special-get-raises" b) hm0 (some (.ref 6)) 2892 ⟨boot_heap w.params, #[], boot_drawn, boot_toks, os⟩ (topStub P)).map (fun s => (staticsOk (importedModules P.main.body) (boot_heap w.params) s.heap && namesBound P s.heap && gensDone s && laidKept (boot_heap w.params) s.heap, openSeen hview hloose (importedModules P.main.body) hXt true s, hH.obs s)) = some (true, openGood hview hloose, hH.val (w.withFollow "special-get-raises" b))
theorem hrunF (w : World) (os : OsState) : hobs w false os := by
  unfold hobs
  rw [PySem.W.Fast.te14082659384304107361]
  kernel_rfl
theorem hrunT (w : World) (os : OsState) : hobs w true os := by
  unfold hobs
  rw [PySem.W.Fast.te14082659384304107361]
  kernel_rfl
theorem hleft : LeftO P hview hloose hXt hH.obs hH.val 2892 true :=
  left_of (m₀ := hm0) (ann := some (.ref 6)) "special-get-raises" (by rfl) (by decide) (fun s => by rfl) (fun w => by kernel_rfl) fun b w os => match b with
    | false => hrunF w os
    | true => hrunT w os
set_option tactic.hygienic false
local macro_rules | `(tactic| cases $e:ident) => `(tactic| focus (injection $e; done))
local macro_rules | `(tactic| omega) => do `(tactic| first | with_reducible assumption | exact Nat.zero_le _ | exact Nat.le_refl _ | $(← ["Nat.le_of_lt", "Nat.le_succ_of_le", "Nat.ne_of_gt", "Nat.ne_of_lt"].foldrM (fun s t => `(tactic| first | (refine $(Lean.mkIdent s.toName) ?_; with_reducible assumption) | $t:tactic)) (← `(tactic| lia))):tactic)
def tacs (l : Array Lean.Syntax) : Lean.Syntax := Lean.mkNode `Lean.Parser.Tactic.tacticSeq #[Lean.mkNode `Lean.Parser.Tactic.tacticSeq1Indented #[Lean.mkNullNode l]]
def tacR : Lean.Syntax := Lean.mkNode `Lean.Parser.Tactic.tacticRfl #[Lean.mkAtom "rfl"]
def aRfl : Lean.Syntax := tacs #[tacR]
def aIRfl : Lean.Syntax := tacs #[Lean.mkNode `Lean.Parser.Tactic.intros #[Lean.mkAtom "intros", Lean.mkNullNode], Lean.mkAtom ";", tacR]

noncomputable abbrev KF (w : World) : Frag := hk.heap_1 w.params
noncomputable abbrev tbA : Addr := 173

abbrev Cs := List Nat
noncomputable def S (x : Cs) : Str := ⟨x.toArray⟩
theorem S_inj {x y : Cs} (h : S x = S y) : x = y := by
  have := congrArg (fun z : Str => z.cps.toList) h
  simpa [S] using this
theorem S_of (x : Str) : S x.cps.toList = x := by cases x; simp [S]

inductive SV where
  | none
  | bool (b : Bool)
  | int (z : Int)
  | str (x : Cs)
  | tup (vs : List SV)
  | list (vs : List SV)
  | dict (ks : List Cs) (vs : List SV)
  | inst (C : Addr) (ks : List Str) (vs : List SV)
  | obj (i : Nat)
  | iobj (C : Addr) (i : Nat)
  | gl (v : Value)
  | rng (a b : Int)
  | view (n : Nat) (ks : List Cs) (vs : List SV)
  | meth (f : Addr) (self : SV)
  | rdr (i : Nat) (x : Cs)

inductive SO where
  | list (vs : List SV)
  | dict (ks : List Cs) (vs : List SV)
  | attrs (ks : List Str) (vs : List SV)
  | citer (f sent : SV)
  | gone

abbrev Led := List (Addr × Obj)

noncomputable def SeqO (cls : String) (o : Obj) (xs : List Value) : Prop := ∃ n, o = { cls := .type cls, data := .seq xs.toArray n }
inductive AttrO (o : Obj) (kvs : List (Str × Value)) : Prop
  | mk (es : Array DictEntry) (ep : Nat) (d : o.data = .dict es ep) (k : StrKeys es) (u : UniqKeys es) (f : ∀ x, nsFind es x = kvs.lookup x) : AttrO o kvs

noncomputable abbrev viewObj (n : Nat) (d : Addr) : Obj := { cls := .type (if n = 0 then "dict_values" else "dict_items"), data := .fields #[.ref d] }
noncomputable abbrev rngObj (a b : Int) (t u v : Tok) : Obj := { cls := .type "range", data := .fields #[.int a t, .int b u, .int 1 v] }
noncomputable def nest (s : PySem.Stmt) (n : Nat) : PySem.Stmt := match s with
  | .FunctionDef w1_ w2_ b w3_ w4_ w5_ w6_ w7_ w8_ w9_ => (b[n]?).getD (.Pass ⟨0, 0, 0, 0⟩)
  | .ClassDef w1_ w2_ w3_ b w4_ w5_ w6_ w7_ w8_ w9_ w10_ => (b[n]?).getD (.Pass ⟨0, 0, 0, 0⟩)
  | _ => .Pass ⟨0, 0, 0, 0⟩
noncomputable def dBody : PySem.Stmt → List PySem.Stmt
  | .FunctionDef w1_ w2_ b w3_ w4_ w5_ w6_ w7_ w8_ w9_ => b
  | _ => []
noncomputable def dScope : PySem.Stmt → Scope
  | .FunctionDef w1_ w2_ w3_ w4_ w5_ w6_ s w7_ w8_ w9_ => s
  | _ => default
noncomputable def dParams : PySem.Stmt → Arguments
  | .FunctionDef w1_ a w2_ w3_ w4_ w5_ w6_ w7_ w8_ w9_ => a
  | _ => default
noncomputable abbrev readOn : PySem.Stmt := nest (stm 10) 1
inductive RdrAt (Z : Led) (x : Cs) (la a : Addr) : Prop
  | mk (fo : Obj) (d : Addr) (od : Obj) (g : Addr) (go : Obj) (c1 : Addr) (o1 : Obj) (c2 : Addr) (o2 : Obj) (t1 : Tok) (cc : Addr) (oc : Obj) (vs : Array Value) (tc : Tok) (dc pm ct : Value) (fd : FuncData) (m1 : (a, fo) ∈ Z) (m2 : fo.cls = .type "function") (m3 : fo.dict = some d) (m4 : fo.data = .func fd) (m5 : (d, od) ∈ Z) (m6 : od.cls = .type "dict") (m7 : AttrO od [("read", .ref g)]) (m8 : (g, go) ∈ Z)
    (m9 : go.cls = .type "function") (m10 : go.data = .func (fnX "_law_read_on" "_law_machine.<locals>._law_read_on" (dParams readOn) (dBody readOn) (dScope readOn) [("text", c1), ("at", c2)] .none .none dc pm none (.ref cc) ct))
    (m11 : (c1, o1) ∈ Z) (m12 : o1.data = .cell (some (.str (S x) t1))) (m13 : (c2, o2) ∈ Z) (m14 : o2.data = .cell (some (.ref la))) (m15 : (cc, oc) ∈ Z) (m16 : oc.data = .fields vs) (m17 : vs[1]? = some (.str "_law_machine.<locals>._law_read_on" tc)) : RdrAt Z x la a
theorem RdrAt.mono {Z Z' : Led} {x : Cs} {la a : Addr} (hz : ∀ p ∈ Z, p ∈ Z') (h : RdrAt Z x la a) : RdrAt Z' x la a := by
  obtain ⟨fo, d, od, g, go, c1, o1, c2, o2, t1, cc, oc, vs, tc, dc, pm, ct, fd, h1, h2, h3, h4, h5, h6, h7, h8, h9, h10, h11, h12, h13, h14, h15, h16, h17⟩ := h
  exact ⟨fo, d, od, g, go, c1, o1, c2, o2, t1, cc, oc, vs, tc, dc, pm, ct, fd, hz _ h1, h2, h3, h4, hz _ h5, h6, h7, hz _ h8, h9, h10, hz _ h11, h12, hz _ h13, h14, hz _ h15, h16, h17⟩

mutual
noncomputable def VR (w : World) (Z : Led) (al : List Addr) : SV → Value → Prop
  | .none, v => v = .none
  | .bool b, v => v = .bool b
  | .int z, v => ∃ t, v = .int z t
  | .str x, v => ∃ t, v = .str (S x) t
  | .tup vs, v => ∃ a o xs, v = .ref a ∧ (a, o) ∈ Z ∧ SeqO "tuple" o xs ∧ VRs w Z al vs xs
  | .list vs, v => ∃ a o xs, v = .ref a ∧ (a, o) ∈ Z ∧ SeqO "list" o xs ∧ VRs w Z al vs xs
  | .dict ks vs, v => ∃ a o kvs, v = .ref a ∧ (a, o) ∈ Z ∧ o.IsDictOf (strKind P w) kvs ∧ kvs.map (·.1) = ks.map S ∧ VRs w Z al vs (kvs.map (·.2))
  | .inst C ks vs, v => ∃ x dx o kvs, v = .ref x ∧ (x, instObj C dx) ∈ Z ∧ (dx, o) ∈ Z ∧ AttrO o kvs ∧ kvs.map (·.1) = ks ∧ VRs w Z al vs (kvs.map (·.2))
  | .obj i, v => ∃ a, al[i]? = some a ∧ v = .ref a
  | .iobj C i, v => ∃ x dx, v = .ref x ∧ (x, instObj C dx) ∈ Z ∧ al[i]? = some dx
  | .gl g, v => v = g
  | .rng a b, v => ∃ r t u t', v = .ref r ∧ (r, rngObj a b t u t') ∈ Z
  | .view n ks vs, v => ∃ a d o kvs, v = .ref a ∧ (a, viewObj n d) ∈ Z ∧ (d, o) ∈ Z ∧ o.IsDictOf (strKind P w) kvs ∧ kvs.map (·.1) = ks.map S ∧ VRs w Z al vs (kvs.map (·.2))
  | .meth f sv, v => ∃ a u, v = .ref a ∧ (a, methodObj (.ref f) u) ∈ Z ∧ VR w Z al sv u
  | .rdr i x, v => ∃ a la, v = .ref a ∧ RdrAt Z x la a ∧ al[i]? = some la
noncomputable def VRs (w : World) (Z : Led) (al : List Addr) : List SV → List Value → Prop
  | [], xs => xs = []
  | s :: ss, xs => ∃ v r, xs = v :: r ∧ VR w Z al s v ∧ VRs w Z al ss r
end

noncomputable def OR (w : World) (Z : Led) (al : List Addr) : SO → Obj → Prop
  | .list vs, o => ∃ xs, SeqO "list" o xs ∧ VRs w Z al vs xs
  | .dict ks vs, o => ∃ kvs, o.IsDictOf (strKind P w) kvs ∧ kvs.map (·.1) = ks.map S ∧ VRs w Z al vs (kvs.map (·.2))
  | .attrs ks vs, o => ∃ kvs, AttrO o kvs ∧ kvs.map (·.1) = ks ∧ VRs w Z al vs (kvs.map (·.2))
  | .citer f e, o => ∃ vf ve, o = { cls := .type "callable_iterator", data := .fields #[vf, ve, .bool false] } ∧ VR w Z al f vf ∧ VR w Z al e ve
  | .gone, w1_ => True

section
variable {w : World} {Z Z' : Led} {al al' : List Addr}
theorem pre_get {al al' : List Addr} {i : Nat} {a : Addr} (hp : al <+: al') (h : al[i]? = some a) : al'[i]? = some a := by
  obtain ⟨t, rfl⟩ := hp
  have hi : i < al.length := by
    rcases Nat.lt_or_ge i al.length with q | q
    · exact q
    · rw [List.getElem?_eq_none q] at h; cases h
  rw [List.getElem?_append_left hi]; exact h
mutual
theorem VR.mono (hz : ∀ p ∈ Z, p ∈ Z') (hp : al <+: al') : ∀ {sv : SV} {v : Value}, VR w Z al sv v → VR w Z' al' sv v
  | .none, w1_, h => h
  | .bool w1_, w2_, h => h
  | .int w1_, w2_, h => h
  | .str w1_, w2_, h => h
  | .tup vs, w1_, h => by
    obtain ⟨a, o, xs, e, m, q, r⟩ := h
    exact ⟨a, o, xs, e, hz _ m, q, VRs.mono hz hp r⟩
  | .list vs, w1_, h => by
    obtain ⟨a, o, xs, e, m, q, r⟩ := h
    exact ⟨a, o, xs, e, hz _ m, q, VRs.mono hz hp r⟩
  | .dict ks vs, w1_, h => by
    obtain ⟨a, o, kvs, e, m, q, q2, r⟩ := h
    exact ⟨a, o, kvs, e, hz _ m, q, q2, VRs.mono hz hp r⟩
  | .inst C ks vs, w1_, h => by
    obtain ⟨x, dx, o, kvs, e, m, m2, q, q2, r⟩ := h
    exact ⟨x, dx, o, kvs, e, hz _ m, hz _ m2, q, q2, VRs.mono hz hp r⟩
  | .obj i, w1_, h => by
    obtain ⟨a, e, r⟩ := h
    exact ⟨a, pre_get hp e, r⟩
  | .iobj C i, w1_, h => by
    obtain ⟨x, dx, e, m, r⟩ := h
    exact ⟨x, dx, e, hz _ m, pre_get hp r⟩
  | .gl w1_, w2_, h => h
  | .rng w1_ w2_, w3_, h => by
    obtain ⟨r, t, u, t', e, m⟩ := h
    exact ⟨r, t, u, t', e, hz _ m⟩
  | .view n ks vs, w1_, h => by
    obtain ⟨a, d, o, kvs, e, m, m2, q, q2, r⟩ := h
    exact ⟨a, d, o, kvs, e, hz _ m, hz _ m2, q, q2, VRs.mono hz hp r⟩
  | .meth f sv, w1_, h => by
    obtain ⟨a, u, e, m, r⟩ := h
    exact ⟨a, u, e, hz _ m, VR.mono hz hp r⟩
  | .rdr i x, w1_, h => by
    obtain ⟨a, la, e, m, r⟩ := h
    exact ⟨a, la, e, m.mono hz, pre_get hp r⟩
theorem VRs.mono (hz : ∀ p ∈ Z, p ∈ Z') (hp : al <+: al') : ∀ {ss : List SV} {xs : List Value}, VRs w Z al ss xs → VRs w Z' al' ss xs
  | [], w1_, h => h
  | s :: ss, w1_, h => by
    obtain ⟨v, r, e, h1, h2⟩ := h
    exact ⟨v, r, e, VR.mono hz hp h1, VRs.mono hz hp h2⟩
end
theorem OR.mono (hz : ∀ p ∈ Z, p ∈ Z') (hp : al <+: al') {so : SO} {o : Obj} (h : OR w Z al so o) : OR w Z' al' so o := by
  cases so with
  | list vs => obtain ⟨xs, a, b⟩ := h; exact ⟨xs, a, b.mono hz hp⟩
  | dict ks vs => obtain ⟨kvs, a, b, c⟩ := h; exact ⟨kvs, a, b, c.mono hz hp⟩
  | attrs ks vs => obtain ⟨kvs, a, b, c⟩ := h; exact ⟨kvs, a, b, c.mono hz hp⟩
  | citer f e => obtain ⟨vf, ve, a, b, c⟩ := h; exact ⟨vf, ve, a, b.mono hz hp, c.mono hz hp⟩
  | gone => trivial
theorem VRs.length : ∀ {ss : List SV} {xs : List Value}, VRs w Z al ss xs → xs.length = ss.length
  | [], w1_, h => by cases (h : _ = _); rfl
  | s :: ss, w1_, h => by
    obtain ⟨v, r, rfl, _, h2⟩ := h
    simp [VRs.length h2]
theorem VRs.get : ∀ {ss : List SV} {xs : List Value}, VRs w Z al ss xs → ∀ {i : Nat} {s : SV}, ss[i]? = some s → ∃ v, xs[i]? = some v ∧ VR w Z al s v
  | [], w1_, w2_, i, s, e => by simp at e
  | s₀ :: ss, w1_, h, i, s, e => by
    obtain ⟨v, r, rfl, h1, h2⟩ := h
    cases i with
    | zero => simp at e; subst e; exact ⟨v, rfl, h1⟩
    | succ i => simpa using VRs.get h2 (by simpa using e)
theorem VRs.append : ∀ {ss : List SV} {xs : List Value} {tt : List SV} {ys : List Value}, VRs w Z al ss xs → VRs w Z al tt ys → VRs w Z al (ss ++ tt) (xs ++ ys)
  | [], w1_, w2_, w3_, h, h' => by cases (h : _ = _); simpa using h'
  | s₀ :: ss, w1_, w2_, w3_, h, h' => by
    obtain ⟨v, r, rfl, h1, h2⟩ := h
    exact ⟨v, _, rfl, h1, VRs.append h2 h'⟩
theorem VRs.one {s : SV} {v : Value} (h : VR w Z al s v) : VRs w Z al [s] [v] := by
  exact ⟨v, [], rfl, h, rfl⟩
theorem VRs.set : ∀ {ss : List SV} {xs : List Value}, VRs w Z al ss xs → ∀ (i : Nat) {s : SV} {v : Value}, VR w Z al s v → VRs w Z al (ss.set i s) (xs.set i v)
  | [], w1_, h, i, s, v, w2_ => by cases (h : _ = _); exact Eq.refl _
  | s₀ :: ss, w1_, h, i, s, v, e => by
    obtain ⟨v', r, rfl, h1, h2⟩ := h
    cases i with
    | zero => exact ⟨v, r, rfl, e, h2⟩
    | succ i => exact ⟨v', _, rfl, h1, VRs.set h2 i e⟩
theorem VRs.take : ∀ {ss : List SV} {xs : List Value}, VRs w Z al ss xs → ∀ (n : Nat), VRs w Z al (ss.take n) (xs.take n)
  | [], w1_, h, n => by cases (h : _ = _); cases n <;> exact Eq.refl _
  | s₀ :: ss, w1_, h, n => by
    obtain ⟨v', r, rfl, h1, h2⟩ := h
    cases n with
    | zero => exact Eq.refl _
    | succ i => exact ⟨v', _, rfl, h1, VRs.take h2 i⟩
theorem VRs.drop : ∀ {ss : List SV} {xs : List Value}, VRs w Z al ss xs → ∀ (n : Nat), VRs w Z al (ss.drop n) (xs.drop n)
  | [], w1_, h, n => by cases (h : _ = _); cases n <;> exact Eq.refl _
  | s₀ :: ss, w1_, h, n => by
    cases n with
    | zero => exact h
    | succ i =>
      obtain ⟨v', r, rfl, h1, h2⟩ := h
      exact VRs.drop h2 i
end

structure Grd (w : World) (hB : Heap) : Prop where
  X : (KF w).In hB
  top : ∃ p loose mg mb, TopRead p loose mg mb hB
  hid : hB.get? tbA = none
  code : CodeHd hB 177 tbA
  boot : ∃ mg bm ob, hB.Ns mainGlobals mg ∧ mg "__builtins__" = some (.ref bm) ∧ bm ≠ builtinsNs ∧ hB.get? bm = some ob ∧ ob.cls = .type "module" ∧ ob.dict = some builtinsNs ∧ ob.data = .plain

noncomputable def dPos : PySem.Stmt → Pos
  | .FunctionDef w1_ w2_ w3_ w4_ w5_ w6_ w7_ w8_ w9_ p => p
  | _ => ⟨0, 0, 0, 0⟩
noncomputable abbrev qRead : Str := "_law_machine.<locals>._law_read_on"
noncomputable def TabIn (Z : Led) (ps : Array Value) : Prop := TriplesOk ps.toList ∧ ∀ cv, codeAmong (dPos readOn) ps.toList = some cv → ∃ cc oc vs t, cv = .ref cc ∧ (cc, oc) ∈ Z ∧ oc.data = .fields vs ∧ vs[1]? = some (.str qRead t)
theorem TabIn.mono {Z Z' : Led} {ps : Array Value} (hz : ∀ p ∈ Z, p ∈ Z') (h : TabIn Z ps) : TabIn Z' ps :=
  ⟨h.1, fun cv e => let ⟨cc, oc, vs, t, a, b, c⟩ := h.2 cv e; ⟨cc, oc, vs, t, a, hz _ b, c⟩⟩
noncomputable def TabOk (Z : Led) (h : Heap) : Prop := ∃ ps, h.get? tbA = some (tabObj ps) ∧ TabIn Z ps
theorem TabOk.mono {Z Z' : Led} {h : Heap} (hz : ∀ p ∈ Z, p ∈ Z') (x : TabOk Z h) : TabOk Z' h := let ⟨ps, a, b⟩ := x; ⟨ps, a, b.mono hz⟩

structure Rel0 (w : World) (hB : Heap) (hp : List SO) (al : List Addr) (Z : Led) (s : Shared) : Prop where
  grd : Grd w hB
  base : ∀ b o, hB.get? b = some o → s.heap.get? b = some o
  tab : TabOk Z s.heap
  len : al.length = hp.length
  live : ∀ (i : Nat) so a, hp[i]? = some so → al[i]? = some a → ∃ o, s.heap.get? a = some o ∧ OR w Z al so o
  frz : ∀ p ∈ Z, s.heap.get? p.1 = some p.2
  new : ∀ a ∈ al, hB.get? a = none ∧ a ≠ tbA
  nodup : al.Nodup
  zap : ∀ p ∈ Z, p.1 ∉ al ∧ p.1 ≠ tbA
  nomod : (∀ a ∈ al, a ≠ sysModules) ∧ ∀ p ∈ Z, p.2.cls = .type "dict" → p.1 ≠ sysModules

inductive Slt where
  | loc
  | cell (a : Addr)
  | capt (a : Addr)

structure Cx where
  ht : Nat
  pin : Nat
  A : Around
  env : Env
  cells : List Addr
  slots : List (Str × Slt)

structure St where
  loc : List (Option SV)
  heap : List SO

noncomputable def St.setL (st : St) (i : Nat) (v : SV) : St := { st with loc := st.loc.set i (some v) }
noncomputable def St.setH (st : St) (i : Nat) (o : SO) : St := { st with heap := st.heap.set i o }
noncomputable def St.addH (st : St) (o : SO) : St := { st with heap := st.heap ++ [o] }
noncomputable abbrev Cx.own (c : Cx) : List Addr := c.env.locals :: c.cells

structure Cx.Ok (c : Cx) : Prop where
  kind : c.env.scope.kind = .function
  glob : c.env.globals = mainGlobals
  blt : c.env.builtins = builtinsNs
  hand : c.A.handled = none
  depth : c.A.depth + 2 * c.ht ≤ 600
  units : c.A.units + 10 * c.ht + 200 ≤ cLine
  nodup : (c.slots.map (·.1)).Nodup
  onodup : c.own.Nodup
  sloc : ∀ x, (x, Slt.loc) ∈ c.slots → c.env.kindOf x = some .local
  scell : ∀ x a, (x, Slt.cell a) ∈ c.slots → c.env.kindOf x = some .cell ∧ c.env.cells.lookup x = some a ∧ a ∈ c.cells
  sone : ∀ x y a, (x, Slt.cell a) ∈ c.slots → (y, Slt.cell a) ∈ c.slots → x = y
  scapt : ∀ x a, (x, Slt.capt a) ∈ c.slots → (c.env.kindOf x = some .cell ∨ c.env.kindOf x = some .free) ∧ c.env.cells.lookup x = some a

structure SRel (w : World) (hB : Heap) (c : Cx) (st : St) (al : List Addr) (Z : Led) (s : Shared) : Prop extends Rel0 w hB st.heap al Z s where
  ok : c.Ok
  pinl : c.pin ≤ al.length
  ns : ∃ m, s.heap.Ns c.env.locals m ∧ ∀ (i : Nat) x sv, c.slots[i]? = some (x, .loc) → st.loc[i]? = some (some sv) → ∃ v, m x = some v ∧ VR w Z al sv v
  cell : ∀ (i : Nat) x a, (c.slots[i]? = some (x, .cell a) ∨ c.slots[i]? = some (x, .capt a)) → ∃ vo, s.heap.IsCell a vo ∧ ∀ sv, st.loc[i]? = some (some sv) → ∃ v, vo = some v ∧ VR w Z al sv v
  own : ∀ a ∈ c.own, hB.get? a = none ∧ a ≠ tbA ∧ a ∉ al ∧ ∃ o, s.heap.get? a = some o
  ownz : ∀ p ∈ Z, p.1 ∉ c.own
  capt : ∀ x a, (x, Slt.capt a) ∈ c.slots → a ∉ c.own ∧ a ∉ al ∧ a ≠ tbA

noncomputable def Frame (D : List Addr) (h h' : Heap) : Prop := ∀ b o, h.get? b = some o → b ∉ D → b ≠ tbA → h'.get? b = some o

structure Post (w : World) (hB : Heap) (c : Cx) (al : List Addr) (Z : Led) (s : Shared) (st' : St) (al' : List Addr) (Z' : Led) (s' : Shared) : Prop where
  rel : SRel w hB c st' al' Z' s'
  pre : al <+: al'
  sub : ∀ p ∈ Z, p ∈ Z'
  frame : Frame (c.own ++ al) s.heap s'.heap
  fresh : ∀ a ∈ al', a ∈ al ∨ s.heap.get? a = none
  zfresh : ∀ p ∈ Z', p ∈ Z ∨ s.heap.get? p.1 = none
  gens : s'.gens = s.gens
  os : s'.os = s.os

structure PostS (w : World) (hB : Heap) (c : Cx) (al : List Addr) (Z : Led) (s : Shared) (st' : St) (al' : List Addr) (Z' : Led) (s' : Shared) : Prop where
  rel : SRel w hB c st' al' Z' s'
  pin : ∀ i, i < c.pin → al'[i]? = al[i]?
  sub : ∀ p ∈ Z, p ∈ Z'
  frame : Frame (c.own ++ al) s.heap s'.heap
  fresh : ∀ a ∈ al', a ∈ al ∨ s.heap.get? a = none
  zfresh : ∀ p ∈ Z', p ∈ Z ∨ s.heap.get? p.1 = none
  there : ∀ b o, s.heap.get? b = some o → ∃ o', s'.heap.get? b = some o'
  gens : s'.gens = s.gens
  os : s'.os = s.os

theorem Post.refl {w : World} {hB : Heap} {c : Cx} {st : St} {al : List Addr} {Z : Led} {s : Shared} (R : SRel w hB c st al Z s) : Post w hB c al Z s st al Z s :=
  ⟨R, List.prefix_refl _, fun u_ h => h, fun u_ u_ h u_ u_ => h, fun u_ h => .inl h, fun u_ h => .inl h, rfl, rfl⟩

theorem Post.trans {w : World} {hB : Heap} {c : Cx} {st1 st2 : St} {al al1 al2 : List Addr} {Z Z1 Z2 : Led} {s s1 s2 : Shared} (p : Post w hB c al Z s st1 al1 Z1 s1) (q : Post w hB c al1 Z1 s1 st2 al2 Z2 s2) : Post w hB c al Z s st2 al2 Z2 s2 where
  rel := q.rel
  pre := p.pre.trans q.pre
  sub := fun x h => q.sub _ (p.sub _ h)
  frame := fun b o h hn ht => by
    refine q.frame b o (p.frame b o h hn ht) (fun hm => ?_) ht
    rcases List.mem_append.mp hm with hm | hm
    · exact hn (List.mem_append_left _ hm)
    · rcases p.fresh b hm with hm | hm
      · exact hn (List.mem_append_right _ hm)
      · rw [hm] at h; cases h
  fresh := fun a h => by
    rcases q.fresh a h with h | h
    · exact p.fresh a h
    · by_cases ha : a ∈ al
      · exact .inl ha
      · right
        cases hs : s.heap.get? a with
        | none => rfl
        | some o =>
          by_cases ho : a ∈ c.own
          · exact absurd (q.rel.own a ho).2.2.1 (fun hh => hh (by assumption))
          · by_cases ht : a = tbA
            · subst ht; exact absurd rfl (q.rel.new _ (by assumption)).2
            · have := p.frame a o hs (fun hm => (List.mem_append.mp hm).elim ho ha) ht
              rw [this] at h; cases h
  zfresh := fun x h => by
    rcases q.zfresh x h with h1 | h1
    · exact p.zfresh x h1
    · right
      cases hs : s.heap.get? x.1 with
      | none => rfl
      | some o =>
        have := p.frame x.1 o hs (fun hm => (List.mem_append.mp hm).elim (q.rel.ownz x h) fun hm => (q.rel.zap x h).1 ((p.pre.trans q.pre).subset hm)) (q.rel.zap x h).2
        rw [this] at h1; cases h1
  gens := q.gens.trans p.gens
  os := q.os.trans p.os

theorem Post.there {w : World} {hB : Heap} {c : Cx} {st1 : St} {al al1 : List Addr} {Z Z1 : Led} {s s1 : Shared} (p : Post w hB c al Z s st1 al1 Z1 s1) (b : Addr) (o : Obj) (h : s.heap.get? b = some o) : ∃ o', s1.heap.get? b = some o' := by
  by_cases h1 : b ∈ c.own
  · exact (p.rel.own b h1).2.2.2
  · by_cases h2 : b ∈ al
    · obtain ⟨i, hi⟩ := List.getElem?_of_mem h2
      have hi' := pre_get p.pre hi
      have hl : i < st1.heap.length := by
        rw [← p.rel.len]
        rcases Nat.lt_or_ge i al1.length with q | q
        · exact q
        · rw [List.getElem?_eq_none q] at hi'; cases hi'
      obtain ⟨o', ho', _⟩ := p.rel.live i st1.heap[i] _ (List.getElem?_eq_getElem hl) hi'
      exact ⟨o', ho'⟩
    · by_cases h3 : b = tbA
      · subst h3; obtain ⟨ps, e, _⟩ := p.rel.tab; exact ⟨_, e⟩
      · exact ⟨o, p.frame b o h (fun hm => (List.mem_append.mp hm).elim h1 h2) h3⟩
theorem Post.toS {w : World} {hB : Heap} {c : Cx} {st1 : St} {al al1 : List Addr} {Z Z1 : Led} {s s1 : Shared} (hp : c.pin ≤ al.length) (p : Post w hB c al Z s st1 al1 Z1 s1) : PostS w hB c al Z s st1 al1 Z1 s1 :=
  ⟨p.rel, fun i hi => by rw [List.getElem?_eq_getElem (Nat.lt_of_lt_of_le hi hp)]; exact pre_get p.pre (List.getElem?_eq_getElem _), p.sub, p.frame, p.fresh, p.zfresh, p.there, p.gens, p.os⟩
theorem PostS.refl {w : World} {hB : Heap} {c : Cx} {st : St} {al : List Addr} {Z : Led} {s : Shared} (R : SRel w hB c st al Z s) : PostS w hB c al Z s st al Z s := (Post.refl R).toS R.pinl
theorem PostS.trans {w : World} {hB : Heap} {c : Cx} {st1 st2 : St} {al al1 al2 : List Addr} {Z Z1 Z2 : Led} {s s1 s2 : Shared} (p : PostS w hB c al Z s st1 al1 Z1 s1) (q : PostS w hB c al1 Z1 s1 st2 al2 Z2 s2) : PostS w hB c al Z s st2 al2 Z2 s2 where
  rel := q.rel
  pin := fun i hi => (q.pin i hi).trans (p.pin i hi)
  sub := fun x h => q.sub _ (p.sub _ h)
  frame := fun b o h hn ht => by
    refine q.frame b o (p.frame b o h hn ht) (fun hm => ?_) ht
    rcases List.mem_append.mp hm with hm | hm
    · exact hn (List.mem_append_left _ hm)
    · rcases p.fresh b hm with hm | hm
      · exact hn (List.mem_append_right _ hm)
      · rw [hm] at h; cases h
  fresh := fun a h => by
    rcases q.fresh a h with h | h
    · exact p.fresh a h
    · by_cases ha : a ∈ al
      · exact .inl ha
      · right
        cases hs : s.heap.get? a with
        | none => rfl
        | some o =>
          by_cases ho : a ∈ c.own
          · exact absurd (q.rel.own a ho).2.2.1 (fun hh => hh (by assumption))
          · by_cases ht : a = tbA
            · subst ht; exact absurd rfl (q.rel.new _ (by assumption)).2
            · have := p.frame a o hs (fun hm => (List.mem_append.mp hm).elim ho ha) ht
              rw [this] at h; cases h
  zfresh := fun x h => by
    rcases q.zfresh x h with h1 | h1
    · exact p.zfresh x h1
    · right
      cases hs : s.heap.get? x.1 with
      | none => rfl
      | some o =>
        obtain ⟨o', e⟩ := p.there _ _ hs
        rw [e] at h1; cases h1
  there := fun b o h => let ⟨o', h'⟩ := p.there b o h; q.there b o' h'
  gens := q.gens.trans p.gens
  os := q.os.trans p.os

theorem cps {P : Prop} (h : ∀ G : Prop, (P → G) → G) : P := h P id
inductive On1 {α : Type} (o : Option α) (f : α → Prop) : Prop
  | mk (x : α) (e : o = some x) (h : f x) : On1 o f
noncomputable def on1 {α : Type} (o : Option α) (f : α → Prop) (e : Prop) : Prop := match o with
  | some x => f x
  | none => e
theorem on1.or {α : Type} {o : Option α} {f : α → Prop} {e : Prop} (h : on1 o f e) : On1 o f ∨ e := by
  cases o with
  | some x => exact .inl ⟨x, rfl, h⟩
  | none => exact .inr h
theorem on1.get {α : Type} {o : Option α} {f : α → Prop} (h : on1 o f False) : On1 o f := h.or.resolve_right id
theorem on1.up {α : Type} {o : Option α} {f : α → Prop} {e : Prop} {x : α} (q : o = some x) (h : f x) : on1 o f e := by rw [q]; exact h
section
variable {w : World} {Z : Led} {al : List Addr}
inductive As1 (w : World) (Z : Led) (al : List Addr) (f : SV → Prop) : List SV → List Value → Prop
  | mk (a : SV) (v : Value) (r : VR w Z al a v) (h : f a) : As1 w Z al f [a] [v]
inductive As2 (w : World) (Z : Led) (al : List Addr) (f : SV → SV → Prop) : List SV → List Value → Prop
  | mk (a b : SV) (v u : Value) (r : VR w Z al a v) (q : VR w Z al b u) (h : f a b) : As2 w Z al f [a, b] [v, u]
inductive As3 (w : World) (Z : Led) (al : List Addr) (f : SV → SV → SV → Prop) : List SV → List Value → Prop
  | mk (a b c : SV) (v u t : Value) (r : VR w Z al a v) (q : VR w Z al b u) (p : VR w Z al c t) (h : f a b c) : As3 w Z al f [a, b, c] [v, u, t]
noncomputable def args1 (as : List SV) (f : SV → Prop) : Prop := match as with
  | [a] => f a
  | _ => False
noncomputable def args2 (as : List SV) (f : SV → SV → Prop) : Prop := match as with
  | [a, b] => f a b
  | _ => False
noncomputable def args3 (as : List SV) (f : SV → SV → SV → Prop) : Prop := match as with
  | [a, b, c] => f a b c
  | _ => False
theorem args1.g {as : List SV} {f : SV → Prop} (h : args1 as f) : ∃ a, as = [a] ∧ f a := by
  rcases as with _ | ⟨a, _ | ⟨b, as⟩⟩
  · exact h.elim
  · exact ⟨a, rfl, h⟩
  · exact h.elim
theorem args2.g {as : List SV} {f : SV → SV → Prop} (h : args2 as f) : ∃ a b, as = [a, b] ∧ f a b := by
  rcases as with _ | ⟨a, _ | ⟨b, _ | ⟨c, as⟩⟩⟩
  · exact h.elim
  · exact h.elim
  · exact ⟨a, b, rfl, h⟩
  · exact h.elim
theorem args1.v {as : List SV} {vs : List Value} {f : SV → Prop} (h : args1 as f) (r : VRs w Z al as vs) : As1 w Z al f as vs := by
  rcases as with _ | ⟨a, _ | ⟨b, as⟩⟩
  · exact h.elim
  · obtain ⟨v, _, rfl, r, rfl⟩ := r
    exact ⟨a, v, r, h⟩
  · exact h.elim
theorem args2.v {as : List SV} {vs : List Value} {f : SV → SV → Prop} (h : args2 as f) (r : VRs w Z al as vs) : As2 w Z al f as vs := by
  rcases as with _ | ⟨a, _ | ⟨b, _ | ⟨c, as⟩⟩⟩
  · exact h.elim
  · exact h.elim
  · obtain ⟨v, _, rfl, r, u, _, rfl, q, rfl⟩ := r
    exact ⟨a, b, v, u, r, q, h⟩
  · exact h.elim
theorem args3.v {as : List SV} {vs : List Value} {f : SV → SV → SV → Prop} (h : args3 as f) (r : VRs w Z al as vs) : As3 w Z al f as vs := by
  rcases as with _ | ⟨a, _ | ⟨b, _ | ⟨c, _ | ⟨d, as⟩⟩⟩⟩
  · exact h.elim
  · exact h.elim
  · exact h.elim
  · obtain ⟨v, _, rfl, r, u, _, rfl, q, t, _, rfl, p, rfl⟩ := r
    exact ⟨a, b, c, v, u, t, r, q, p, h⟩
  · exact h.elim
inductive IntV (f : Int → Prop) : SV → Value → Prop
  | mk (x : Int) (t : Tok) (h : f x) : IntV f (.int x) (.int x t)
noncomputable def asInt (a : SV) (f : Int → Prop) (e : Prop) : Prop := match a with
  | .int x => f x
  | _ => e
theorem asInt.or {a : SV} {va : Value} {f : Int → Prop} {e : Prop} (h : asInt a f e) : VR w Z al a va → IntV f a va ∨ e := by
  cases a with
  | int x => exact fun ⟨t, e⟩ => e ▸ .inl ⟨x, t, h⟩
  | _ => exact fun u_ => .inr h
theorem asInt.v {a : SV} {va : Value} {f : Int → Prop} (h : asInt a f False) (r : VR w Z al a va) : IntV f a va := (h.or r).resolve_right id
inductive StrV (f : Cs → Prop) : SV → Value → Prop
  | mk (x : Cs) (t : Tok) (h : f x) : StrV f (.str x) (.str (S x) t)
noncomputable def asStr (a : SV) (f : Cs → Prop) (e : Prop) : Prop := match a with
  | .str x => f x
  | _ => e
theorem asStr.or {a : SV} {va : Value} {f : Cs → Prop} {e : Prop} (h : asStr a f e) : VR w Z al a va → StrV f a va ∨ e := by
  cases a with
  | str x => exact fun ⟨t, e⟩ => e ▸ .inl ⟨x, t, h⟩
  | _ => exact fun u_ => .inr h
theorem asStr.v {a : SV} {va : Value} {f : Cs → Prop} (h : asStr a f False) (r : VR w Z al a va) : StrV f a va := (h.or r).resolve_right id
inductive ObjV (al : List Addr) (f : Nat → Prop) : SV → Value → Prop
  | mk (i : Nat) (l : Addr) (e : al[i]? = some l) (h : f i) : ObjV al f (.obj i) (.ref l)
noncomputable def asObj (a : SV) (f : Nat → Prop) : Prop := match a with
  | .obj i => f i
  | _ => False
theorem asObj.v {a : SV} {va : Value} {f : Nat → Prop} (h : asObj a f) : VR w Z al a va → ObjV al f a va := by
  cases a with
  | obj i => exact fun ⟨l, q, e⟩ => e ▸ ⟨i, l, q, h⟩
  | _ => exact h.elim
inductive OnL (o : Option SO) (f : List SV → Prop) : Prop
  | mk (x : List SV) (e : o = some (.list x)) (h : f x) : OnL o f
noncomputable def onL (o : Option SO) (f : List SV → Prop) : Prop := match o with
  | some (.list x) => f x
  | _ => False
theorem onL.get {o : Option SO} {f : List SV → Prop} (h : onL o f) : OnL o f := by
  rcases o with _ | o
  · exact h.elim
  · cases o <;> first | exact h.elim | exact ⟨_, rfl, h⟩
inductive OnD (o : Option SO) (f : List Cs → List SV → Prop) : Prop
  | mk (x : List Cs) (y : List SV) (e : o = some (.dict x y)) (h : f x y) : OnD o f
noncomputable def onD (o : Option SO) (f : List Cs → List SV → Prop) : Prop := match o with
  | some (.dict x y) => f x y
  | _ => False
theorem onD.get {o : Option SO} {f : List Cs → List SV → Prop} (h : onD o f) : OnD o f := by
  rcases o with _ | o
  · exact h.elim
  · cases o <;> first | exact h.elim | exact ⟨_, _, rfl, h⟩
theorem asInt.g {a : SV} {f : Int → Prop} (h : asInt a f False) : ∃ x, a = .int x ∧ f x := by
  cases a <;> first | exact h.elim | exact ⟨_, rfl, h⟩
theorem asStr.g {a : SV} {f : Cs → Prop} (h : asStr a f False) : ∃ x, a = .str x ∧ f x := by
  cases a <;> first | exact h.elim | exact ⟨_, rfl, h⟩
noncomputable def asIobj (a : SV) (f : Addr → Nat → Prop) : Prop := match a with
  | .iobj C i => f C i
  | _ => False
theorem asIobj.g {a : SV} {f : Addr → Nat → Prop} (h : asIobj a f) : ∃ C i, a = .iobj C i ∧ f C i := by
  cases a <;> first | exact h.elim | exact ⟨_, _, rfl, h⟩
inductive One {α : Type} (f : α → Prop) : List α → Prop
  | mk (x : α) (h : f x) : One f [x]
noncomputable def one {α : Type} (l : List α) (f : α → Prop) (e : Prop) : Prop := match l with
  | [x] => f x
  | _ => e
theorem one.or {α : Type} {l : List α} {f : α → Prop} {e : Prop} (h : one l f e) : One f l ∨ e :=
  match l, h with
  | [x], h => .inl ⟨x, h⟩
  | [], h => .inr h
  | w1_ :: w2_ :: w3_, h => .inr h
theorem one.get {α : Type} {l : List α} {f : α → Prop} (h : one l f False) : One f l := h.or.resolve_right id
theorem vInt (x : Int) (t : Tok) : VR w Z al (.int x) (.int x t) := Exists.intro t rfl
theorem vStr (x : Cs) (t : Tok) : VR w Z al (.str x) (.str (S x) t) := Exists.intro t rfl
theorem vBool (b : Bool) : VR w Z al (.bool b) (.bool b) := Eq.refl _
theorem vNone : VR w Z al .none .none := Eq.refl _
theorem vGl (v : Value) : VR w Z al (.gl v) v := Eq.refl _
end

section
variable {w : World} {hB : Heap} {c : Cx} {st : St} {al : List Addr} {Z : Led} {s : Shared}

structure Untr (hB : Heap) (c : Cx) (al : List Addr) (Z : Led) (n : Addr) : Prop where
  o1 : n ∉ c.own
  o2 : n ∉ al
  o3 : ∀ p ∈ Z, p.1 ≠ n
  o4 : hB.get? n = none
  o5 : n ≠ tbA
  o6 : ∀ x, (x, Slt.capt n) ∉ c.slots
theorem SRel.alive (R : SRel w hB c st al Z s) {a : Addr} (h : a ∈ al) : ∃ o, s.heap.get? a = some o := by
  obtain ⟨i, hi⟩ := List.getElem?_of_mem h
  have hl : i < st.heap.length := by
    rw [← R.len]
    rcases Nat.lt_or_ge i al.length with q | q
    · exact q
    · rw [List.getElem?_eq_none q] at hi; cases hi
  obtain ⟨o, ho, _⟩ := R.live i st.heap[i] _ (List.getElem?_eq_getElem hl) hi
  exact ⟨o, ho⟩
theorem SRel.untrN (R : SRel w hB c st al Z s) {I : Addr} (hI : s.heap.get? I = none) : Untr hB c al Z I := by
  refine ⟨fun hm => ?_, fun hm => ?_, fun p hp e => ?_, ?_, fun e => ?_, fun x hx => ?_⟩
  · obtain ⟨o', ho'⟩ := (R.own I hm).2.2.2
    rw [hI] at ho'; cases ho'
  · obtain ⟨o', ho'⟩ := R.alive hm
    rw [hI] at ho'; cases ho'
  · have := R.frz p hp
    rw [e, hI] at this; cases this
  · cases q : hB.get? I with
    | none => rfl
    | some o' => have := R.base _ _ q; rw [hI] at this; cases this
  · obtain ⟨ps, e', _⟩ := R.tab
    rw [← e, hI] at e'; cases e'
  · obtain ⟨i, hi⟩ := List.getElem?_of_mem hx
    obtain ⟨vo, ⟨o', e', _⟩, _⟩ := R.cell i x I (.inr hi)
    rw [hI] at e'; cases e'
theorem Untr.stepS {st1 : St} {al1 : List Addr} {Z1 : Led} {s1 : Shared} {n : Addr} {o : Obj} (u : Untr hB c al Z n) (p : PostS w hB c al Z s st1 al1 Z1 s1) (ex : s.heap.get? n = some o) : Untr hB c al1 Z1 n := by
  refine ⟨u.o1, fun hm => ?_, fun q hq e => ?_, u.o4, u.o5, u.o6⟩
  · rcases p.fresh n hm with h | h
    · exact u.o2 h
    · rw [ex] at h; cases h
  · rcases p.zfresh q hq with h | h
    · exact u.o3 q h e
    · rw [e, ex] at h; cases h

theorem Rel0.frame0 {hp : List SO} {s' : Shared} (R : Rel0 w hB hp al Z s) (N : Addr → Prop) (hN : ∀ n, N n → n ∉ al ∧ (∀ p ∈ Z, p.1 ≠ n) ∧ hB.get? n = none ∧ n ≠ tbA)
    (hk : ∀ b o, s.heap.get? b = some o → ¬ N b → s'.heap.get? b = some o) : Rel0 w hB hp al Z s' where
  grd := R.grd
  base := fun b o e => hk b o (R.base b o e) fun n => by have := (hN b n).2.2.1; rw [this] at e; cases e
  tab := by
    obtain ⟨ps, e, t⟩ := R.tab
    exact ⟨ps, hk _ _ e (fun n => (hN _ n).2.2.2 rfl), t⟩
  len := R.len
  live := fun i so a e1 e2 => by
    obtain ⟨o, ho, r⟩ := R.live i so a e1 e2
    exact ⟨o, hk _ _ ho (fun n => (hN _ n).1 (List.mem_of_getElem? e2)), r⟩
  frz := fun p hp => hk _ _ (R.frz p hp) fun n => (hN _ n).2.1 p hp rfl
  new := R.new
  nodup := R.nodup
  zap := R.zap
  nomod := R.nomod

theorem SRel.untr {s' : Shared} (R : SRel w hB c st al Z s) (N : Addr → Prop) (hN : ∀ n, N n → Untr hB c al Z n)
    (hk : ∀ b o, s.heap.get? b = some o → ¬ N b → s'.heap.get? b = some o) : SRel w hB c st al Z s' where
  toRel0 := R.toRel0.frame0 N (fun n h => ⟨(hN n h).o2, (hN n h).o3, (hN n h).o4, (hN n h).o5⟩) hk
  ok := R.ok
  pinl := R.pinl
  ns := by
    obtain ⟨m, ⟨o, es, ep, e, r⟩, hm⟩ := R.ns
    exact ⟨m, ⟨o, es, ep, hk _ _ e (fun n => (hN _ n).o1 (.head _)), r⟩, hm⟩
  cell := fun i x a h => by
    obtain ⟨vo, ⟨o, e, r⟩, hv⟩ := R.cell i x a h
    refine ⟨vo, ⟨o, hk _ _ e (fun n => ?_), r⟩, hv⟩
    rcases h with h | h
    · exact (hN _ n).o1 (.tail _ (R.ok.scell x a (List.mem_of_getElem? h)).2.2)
    · exact (hN _ n).o6 x (List.mem_of_getElem? h)
  own := fun a ha => let ⟨h1, h2, h3, o, h4⟩ := R.own a ha; ⟨h1, h2, h3, o, hk _ _ h4 fun n => (hN _ n).o1 ha⟩
  ownz := R.ownz
  capt := R.capt

theorem SRel.keeps {s' : Shared} (R : SRel w hB c st al Z s) (hk : ∀ b o, s.heap.get? b = some o → s'.heap.get? b = some o) : SRel w hB c st al Z s' :=
  R.untr (fun u_ => False) (fun u_ h => h.elim) (fun b o h u_ => hk b o h)

theorem Post.keep {s' : Shared} (R : SRel w hB c st al Z s) (hk : ∀ b o, s.heap.get? b = some o → s'.heap.get? b = some o)
    (hg : autoParam (s'.gens = s.gens) aRfl) (ho : autoParam (s'.os = s.os) aRfl) : Post w hB c al Z s st al Z s' :=
  ⟨R.keeps hk, List.prefix_refl _, fun u_ h => h, fun b o h u_ u_ => hk b o h, fun u_ h => .inl h, fun u_ h => .inl h, hg, ho⟩

theorem get?_size_none (h : Heap) : h.get? h.objs.size = none := by
  cases hq : h.get? h.objs.size with
  | none => rfl
  | some o => exact absurd (Heap.lt_size hq) (Nat.lt_irrefl _)
theorem Post.toks (R : SRel w hB c st al Z s) (t : Nat) : Post w hB c al Z s st al Z { s with toks := t } := Post.keep R (fun u_ u_ e => e)


theorem Rel0.fresh {hp : List SO} (R : Rel0 w hB hp al Z s) : hB.get? s.heap.objs.size = none ∧ s.heap.objs.size ∉ al ∧ (∀ p ∈ Z, p.1 ≠ s.heap.objs.size) ∧ s.heap.objs.size ≠ tbA := by
  refine ⟨?_, fun hm => ?_, fun p hp e => ?_, fun e => ?_⟩
  · cases h : hB.get? s.heap.objs.size with
    | none => rfl
    | some o => exact absurd (Heap.lt_size (R.base _ _ h)) (Nat.lt_irrefl _)
  · obtain ⟨i, hi⟩ := List.getElem?_of_mem hm
    have hl : i < hp.length := by
      rw [← R.len]
      rcases Nat.lt_or_ge i al.length with q | q
      · exact q
      · rw [List.getElem?_eq_none q] at hi; cases hi
    obtain ⟨o, ho, _⟩ := R.live i hp[i] _ (List.getElem?_eq_getElem hl) hi
    exact absurd (Heap.lt_size ho) (Nat.lt_irrefl _)
  · have := Heap.lt_size (R.frz p hp)
    rw [e] at this; exact Nat.lt_irrefl _ this
  · obtain ⟨ps, h, _⟩ := R.tab
    have := Heap.lt_size h
    rw [← e] at this; exact Nat.lt_irrefl _ this

theorem Rel0.fresh_mod {hp : List SO} (R : Rel0 w hB hp al Z s) : s.heap.objs.size ≠ sysModules := by
  obtain ⟨_, _, _, _, T⟩ := R.grd.top
  exact Nat.ne_of_gt (modules_low (T.nolimit.keeps R.base))
theorem SRel.fresh_own (R : SRel w hB c st al Z s) : s.heap.objs.size ∉ c.own := fun h => let ⟨_, q⟩ := (R.own _ h).2.2.2; Nat.lt_irrefl _ (Heap.lt_size q)

theorem SRel.addZ (R : SRel w hB c st al Z s) {a : Addr} {o : Obj} (h : s.heap.get? a = some o) (h1 : a ∉ c.own) (h2 : a ∉ al) (h3 : a ≠ tbA) (h6 : o.cls = .type "dict" → a ≠ sysModules) : SRel w hB c st al ((a, o) :: Z) s where
  grd := R.grd
  base := R.base
  tab := R.tab.mono (fun u_ h => .tail _ h)
  len := R.len
  live := fun i so a' e1 e2 => let ⟨o', ho, r⟩ := R.live i so a' e1 e2; ⟨o', ho, r.mono (fun u_ h => .tail _ h) (List.prefix_refl _)⟩
  frz := fun p hp => by
    cases hp with
    | head => exact h
    | tail w1_ hp => exact R.frz p hp
  new := R.new
  nodup := R.nodup
  zap := fun p hp => by
    cases hp with
    | head => exact ⟨h2, h3⟩
    | tail w1_ hp => exact R.zap p hp
  nomod := ⟨R.nomod.1, fun p hp => by
    cases hp with
    | head => exact h6
    | tail w1_ hp => exact R.nomod.2 p hp⟩
  ok := R.ok
  pinl := R.pinl
  ns := let ⟨m, a, b⟩ := R.ns; ⟨m, a, fun i x sv e1 e2 => let ⟨v, p, q⟩ := b i x sv e1 e2; ⟨v, p, q.mono (fun u_ h => .tail _ h) (List.prefix_refl _)⟩⟩
  cell := fun i x a h => let ⟨vo, p, q⟩ := R.cell i x a h; ⟨vo, p, fun sv e => let ⟨v, p, q⟩ := q sv e; ⟨v, p, q.mono (fun u_ h => .tail _ h) (List.prefix_refl _)⟩⟩
  own := R.own
  ownz := fun p hp => by
    cases hp with
    | head => exact h1
    | tail w1_ hp => exact R.ownz p hp
  capt := R.capt

theorem Post.allocZ (R : SRel w hB c st al Z s) {o : Obj} (hf : o.isFreed = false) (t : Nat) :
    Post w hB c al Z s st al ((s.heap.objs.size, o) :: Z) { s with heap := s.heap.push o, toks := t } := by
  have R' : SRel w hB c st al Z { s with heap := s.heap.push o, toks := t } := R.keeps (fun u_ u_ e => Heap.get?_push_of_some _ e)
  refine ⟨R'.addZ (Heap.get?_push_size _ hf) R.fresh_own R.toRel0.fresh.2.1 R.toRel0.fresh.2.2.2 (fun u_ => R.toRel0.fresh_mod), List.prefix_refl _, fun u_ h => .tail _ h, fun u_ u_ e u_ u_ => Heap.get?_push_of_some _ e, fun u_ h => .inl h, fun p hp => ?_, rfl, rfl⟩
  cases hp with
  | head => exact .inr (get?_size_none _)
  | tail w1_ hp => exact .inl hp

theorem SRel.addL (R : SRel w hB c st al Z s) {a : Addr} {o : Obj} {so : SO} (h : s.heap.get? a = some o) (hb : hB.get? a = none) (h1 : a ∉ c.own) (h2 : a ∉ al) (h3 : a ≠ tbA) (h4 : ∀ p ∈ Z, p.1 ≠ a)
    (h5 : ∀ x, (x, Slt.capt a) ∉ c.slots) (h6 : a ≠ sysModules) (hr : OR w Z (al ++ [a]) so o) : SRel w hB c { st with heap := st.heap ++ [so] } (al ++ [a]) Z s where
  grd := R.grd
  base := R.base
  tab := R.tab
  len := by simp [R.len]
  live := fun i so' a' e1 e2 => by
    rcases Nat.lt_or_ge i al.length with q | q
    · rw [List.getElem?_append_left q] at e2
      dsimp only at e1
      rw [List.getElem?_append_left (R.len ▸ q)] at e1
      obtain ⟨o', ho, r⟩ := R.live i so' a' e1 e2
      exact ⟨o', ho, r.mono (fun u_ h => h) (List.prefix_append _ _)⟩
    · dsimp only at e1
      rw [List.getElem?_append_right q] at e2
      rw [List.getElem?_append_right (R.len ▸ q), ← R.len] at e1
      cases hq : i - al.length with
      | zero => rw [hq] at e1 e2; simp at e1 e2; subst e1 e2; exact ⟨o, h, hr⟩
      | succ n => rw [hq] at e1; simp at e1
  frz := R.frz
  new := fun b hb' => by
    rcases List.mem_append.mp hb' with q | q
    · exact R.new b q
    · simp at q; subst q; exact ⟨hb, h3⟩
  nodup := by
    rw [List.nodup_append]
    exact ⟨R.nodup, by simp, fun x hx y hy e => by simp at hy; subst hy; subst e; exact h2 hx⟩
  zap := fun p hp => ⟨fun hm => by
    rcases List.mem_append.mp hm with q | q
    · exact (R.zap p hp).1 q
    · simp at q; exact h4 p hp q, (R.zap p hp).2⟩
  nomod := ⟨fun b hb' => by
    rcases List.mem_append.mp hb' with q | q
    · exact R.nomod.1 b q
    · simp at q; subst q; exact h6, R.nomod.2⟩
  ok := R.ok
  pinl := by rw [List.length_append]; exact Nat.le_trans R.pinl (Nat.le_add_right _ _)
  ns := let ⟨m, a, b⟩ := R.ns; ⟨m, a, fun i x sv e1 e2 => let ⟨v, p, q⟩ := b i x sv e1 e2; ⟨v, p, q.mono (fun u_ h => h) (List.prefix_append _ _)⟩⟩
  cell := fun i x a h => let ⟨vo, p, q⟩ := R.cell i x a h; ⟨vo, p, fun sv e => let ⟨v, p, q⟩ := q sv e; ⟨v, p, q.mono (fun u_ h => h) (List.prefix_append _ _)⟩⟩
  own := fun b hb' => by
    obtain ⟨p1, p2, p3, p4⟩ := R.own b hb'
    refine ⟨p1, p2, fun hm => ?_, p4⟩
    rcases List.mem_append.mp hm with q | q
    · exact p3 q
    · simp at q; subst q; exact h1 hb'
  ownz := R.ownz
  capt := fun x b hx => by
    obtain ⟨p1, p2, p3⟩ := R.capt x b hx
    refine ⟨p1, fun hm => ?_, p3⟩
    rcases List.mem_append.mp hm with q | q
    · exact p2 q
    · simp at q; subst q; exact h5 x hx

theorem SRel.capt_lt (R : SRel w hB c st al Z s) (x : Str) : (x, Slt.capt s.heap.objs.size) ∉ c.slots := fun h => by
  obtain ⟨i, hi⟩ := List.getElem?_of_mem h
  obtain ⟨vo, ⟨o, e, _⟩, _⟩ := R.cell i x _ (.inr hi)
  exact Nat.lt_irrefl _ (Heap.lt_size e)

theorem Post.allocL (R : SRel w hB c st al Z s) {o : Obj} {so : SO} (hf : o.isFreed = false) (t : Nat) (hr : OR w Z (al ++ [s.heap.objs.size]) so o) :
    Post w hB c al Z s { st with heap := st.heap ++ [so] } (al ++ [s.heap.objs.size]) Z { s with heap := s.heap.push o, toks := t } := by
  have R' : SRel w hB c st al Z { s with heap := s.heap.push o, toks := t } := R.keeps (fun u_ u_ e => Heap.get?_push_of_some _ e)
  have F := R.toRel0.fresh
  refine ⟨R'.addL (Heap.get?_push_size _ hf) F.1 R.fresh_own F.2.1 F.2.2.2 F.2.2.1 R.capt_lt R.toRel0.fresh_mod hr, List.prefix_append _ _, fun u_ h => h, fun u_ u_ e u_ u_ => Heap.get?_push_of_some _ e, fun a h => ?_, fun u_ h => .inl h, rfl, rfl⟩
  rcases List.mem_append.mp h with q | q
  · exact .inl q
  · simp at q; subst q
    right
    cases hq : s.heap.get? s.heap.objs.size with
    | none => rfl
    | some o => exact absurd (Heap.lt_size hq) (Nat.lt_irrefl _)

theorem Post.updL {s' : Shared} (R : SRel w hB c st al Z s) {i : Nat} {a : Addr} {o' : Obj} {so' : SO} (hi : i < st.heap.length) (ha : al[i]? = some a) (hs : Heap.SameBut a s.heap s'.heap) (ho : s'.heap.get? a = some o') (hr : OR w Z al so' o')
    (hg : autoParam (s'.gens = s.gens) aRfl) (hos : autoParam (s'.os = s.os) aRfl) :
    Post w hB c al Z s { st with heap := st.heap.set i so' } al Z s' := by
  have ham : a ∈ al := List.mem_of_getElem? ha
  have keep : ∀ b o, s.heap.get? b = some o → b ≠ a → s'.heap.get? b = some o := fun b o e hb => (hs.2 b hb).trans e
  refine ⟨{ grd := R.grd, base := fun b o e => keep b o (R.base b o e) (fun q => by rw [q, (R.new a ham).1] at e; cases e), tab := ?_, len := by simp [R.len], live := ?_, frz := fun p hp => keep _ _ (R.frz p hp) (fun q => (R.zap p hp).1 (q ▸ ham)), new := R.new, nodup := R.nodup, zap := R.zap, nomod := R.nomod, ok := R.ok, pinl := R.pinl, ns := ?_, cell := ?_, own := fun b hb => ?_, ownz := R.ownz, capt := R.capt }, List.prefix_refl _, fun u_ h => h, fun b o e hn u_ => keep b o e (fun q => hn (List.mem_append_right _ (q ▸ ham))), fun u_ h => .inl h, fun u_ h => .inl h, hg, hos⟩
  · obtain ⟨ps, e, t⟩ := R.tab
    exact ⟨ps, keep _ _ e (fun q => (R.new a ham).2 q.symm), t⟩
  · intro j so b e1 e2
    by_cases hj : j = i
    · subst hj
      rw [ha] at e2; cases e2
      dsimp only at e1
      rw [List.getElem?_set_self hi] at e1
      cases e1
      exact ⟨o', ho, hr⟩
    · dsimp only at e1
      rw [List.getElem?_set_ne (Ne.symm hj)] at e1
      obtain ⟨o, h1, h2⟩ := R.live j so b e1 e2
      refine ⟨o, keep _ _ h1 (fun q => ?_), h2⟩
      subst q
      have l1 : i < al.length := R.len ▸ hi
      have l2 : j < al.length := by
        rcases Nat.lt_or_ge j al.length with q | q
        · exact q
        · rw [List.getElem?_eq_none q] at e2; cases e2
      rw [List.getElem?_eq_getElem l1] at ha
      rw [List.getElem?_eq_getElem l2] at e2
      exact hj ((List.getElem?_inj l2 R.nodup).mp (by rw [List.getElem?_eq_getElem l2, e2, List.getElem?_eq_getElem l1, ha]))
  · obtain ⟨m, ⟨o, es, ep, e, r⟩, hm⟩ := R.ns
    exact ⟨m, ⟨o, es, ep, keep _ _ e (fun q => (R.own _ (.head _)).2.2.1 (q ▸ ham)), r⟩, hm⟩
  · intro j x b h
    obtain ⟨vo, ⟨o, e, r⟩, hv⟩ := R.cell j x b h
    refine ⟨vo, ⟨o, keep _ _ e (fun q => ?_), r⟩, hv⟩
    subst q
    rcases h with h | h
    · exact (R.own _ (.tail _ (R.ok.scell x _ (List.mem_of_getElem? h)).2.2)).2.2.1 ham
    · exact (R.capt x _ (List.mem_of_getElem? h)).2.1 ham
  · obtain ⟨p1, p2, p3, o, p4⟩ := R.own b hb
    exact ⟨p1, p2, p3, o, keep _ _ p4 (fun q => p3 (q ▸ ham))⟩

theorem slot_inj (ok : c.Ok) {i j : Nat} {x : Str} {a b : Slt} (h1 : c.slots[i]? = some (x, a)) (h2 : c.slots[j]? = some (x, b)) : i = j := by
  have l1 : i < c.slots.length := by
    rcases Nat.lt_or_ge i c.slots.length with q | q
    · exact q
    · rw [List.getElem?_eq_none q] at h1; cases h1
  have l2 : j < c.slots.length := by
    rcases Nat.lt_or_ge j c.slots.length with q | q
    · exact q
    · rw [List.getElem?_eq_none q] at h2; cases h2
  rw [List.getElem?_eq_getElem l1] at h1
  rw [List.getElem?_eq_getElem l2] at h2
  have n := ok.nodup
  have e : (c.slots.map (·.1))[i]'(by simpa using l1) = (c.slots.map (·.1))[j]'(by simpa using l2) := by
    simp only [List.getElem_map]
    rw [Option.some.inj h1, Option.some.inj h2]
  exact (List.getElem?_inj (by simpa using l1) n).mp (by rw [List.getElem?_eq_getElem (by simpa using l1), List.getElem?_eq_getElem (by simpa using l2), e])

theorem Post.setLoc {h' : Heap} {m : Str → Option Value} (R : SRel w hB c st al Z s) {i : Nat} {x : Str} {sv : SV} {v : Value} (hi : c.slots[i]? = some (x, .loc)) (hv : VR w Z al sv v)
    (hm : s.heap.Ns c.env.locals m) (hn : h'.Ns c.env.locals (fun y => if y = x then some v else m y)) (hs : Heap.SameBut c.env.locals s.heap h') (t : Nat) :
    Post w hB c al Z s { st with loc := st.loc.set i (some sv) } al Z { s with heap := h', toks := t } := by
  have keep : ∀ b o, s.heap.get? b = some o → b ≠ c.env.locals → h'.get? b = some o := fun b o e hb => (hs.2 b hb).trans e
  have own := R.own c.env.locals (.head _)
  refine ⟨{ grd := R.grd, base := fun b o e => keep b o (R.base b o e) (fun q => by rw [q, own.1] at e; cases e), tab := ?_, len := R.len, live := ?_, frz := fun p hp => keep _ _ (R.frz p hp) (fun q => R.ownz p hp (q ▸ .head _)), new := R.new, nodup := R.nodup, zap := R.zap, nomod := R.nomod, ok := R.ok, pinl := R.pinl, ns := ⟨_, hn, ?_⟩, cell := ?_, own := fun b hb => ?_, ownz := R.ownz, capt := R.capt }, List.prefix_refl _, fun u_ h => h, fun b o e hn u_ => keep b o e (fun q => hn (q ▸ .head _)), fun u_ h => .inl h, fun u_ h => .inl h, rfl, rfl⟩
  · obtain ⟨ps, e, t⟩ := R.tab
    exact ⟨ps, keep _ _ e (fun q => own.2.1 q.symm), t⟩
  · intro j so b e1 e2
    obtain ⟨o, h1, h2⟩ := R.live j so b e1 e2
    exact ⟨o, keep _ _ h1 (fun q => own.2.2.1 (q ▸ List.mem_of_getElem? e2)), h2⟩
  · intro j y sv' e1 e2
    by_cases hj : j = i
    · subst hj
      rw [hi] at e1; cases e1
      refine ⟨v, if_pos rfl, ?_⟩
      dsimp only at e2
      rw [List.getElem?_set] at e2
      simp only [if_true] at e2
      split at e2
      · cases e2; exact hv
      · cases e2
    · obtain ⟨m0, h1, h2⟩ := R.ns
      dsimp only at e2
      rw [List.getElem?_set_ne (Ne.symm hj)] at e2
      obtain ⟨v', h3, h4⟩ := h2 j y sv' e1 e2
      have hm0 : m0 = m := h1.eq_nsMap.trans hm.eq_nsMap.symm
      subst hm0
      exact ⟨v', by rw [if_neg (fun q => hj (slot_inj R.ok (q ▸ e1) hi))]; exact h3, h4⟩
  · intro j y b h
    obtain ⟨vo, ⟨o, e, r⟩, hv⟩ := R.cell j y b h
    refine ⟨vo, ⟨o, keep _ _ e (fun q => ?_), r⟩, fun sv' e' => ?_⟩
    · subst q
      rcases h with h | h
      · have := R.ok.onodup
        exact (List.nodup_cons.mp this).1 (R.ok.scell y _ (List.mem_of_getElem? h)).2.2
      · exact (R.capt y _ (List.mem_of_getElem? h)).1 (.head _)
    · dsimp only at e'
      rw [List.getElem?_set_ne (fun q => by subst q; rcases h with h | h <;> (rw [hi] at h; cases h))] at e'
      exact hv sv' e'
  · obtain ⟨p1, p2, p3, o, p4⟩ := R.own b hb
    refine ⟨p1, p2, p3, ?_⟩
    by_cases q : b = c.env.locals
    · subst q; obtain ⟨o, _, _, e, _⟩ := hn; exact ⟨o, e⟩
    · exact ⟨o, keep _ _ p4 q⟩

theorem Post.setCell {h' : Heap} (R : SRel w hB c st al Z s) {i : Nat} {x : Str} {a : Addr} {sv : SV} {v : Value} (hi : c.slots[i]? = some (x, .cell a)) (hv : VR w Z al sv v)
    (hn : h'.IsCell a (some v)) (hs : Heap.SameBut a s.heap h') (t : Nat) :
    Post w hB c al Z s { st with loc := st.loc.set i (some sv) } al Z { s with heap := h', toks := t } := by
  have hc := R.ok.scell x a (List.mem_of_getElem? hi)
  have own := R.own a (.tail _ hc.2.2)
  have keep : ∀ b o, s.heap.get? b = some o → b ≠ a → h'.get? b = some o := fun b o e hb => (hs.2 b hb).trans e
  have hne : c.env.locals ≠ a := fun q => (List.nodup_cons.mp R.ok.onodup).1 (q ▸ hc.2.2)
  refine ⟨{ grd := R.grd, base := fun b o e => keep b o (R.base b o e) (fun q => by rw [q, own.1] at e; cases e), tab := ?_, len := R.len, live := ?_, frz := fun p hp => keep _ _ (R.frz p hp) (fun q => R.ownz p hp (q ▸ .tail _ hc.2.2)), new := R.new, nodup := R.nodup, zap := R.zap, nomod := R.nomod, ok := R.ok, pinl := R.pinl, ns := ?_, cell := ?_, own := fun b hb => ?_, ownz := R.ownz, capt := R.capt }, List.prefix_refl _, fun u_ h => h, fun b o e hn u_ => keep b o e (fun q => hn (q ▸ List.mem_append_left _ (.tail _ hc.2.2))), fun u_ h => .inl h, fun u_ h => .inl h, rfl, rfl⟩
  · obtain ⟨ps, e, t⟩ := R.tab
    exact ⟨ps, keep _ _ e (fun q => own.2.1 q.symm), t⟩
  · intro j so b e1 e2
    obtain ⟨o, h1, h2⟩ := R.live j so b e1 e2
    exact ⟨o, keep _ _ h1 (fun q => own.2.2.1 (q ▸ List.mem_of_getElem? e2)), h2⟩
  · obtain ⟨m, h1, h2⟩ := R.ns
    refine ⟨m, h1.sameBut hs hne, fun j y sv' e1 e2 => ?_⟩
    dsimp only at e2
    rw [List.getElem?_set_ne (fun q => by subst q; rw [hi] at e1; cases e1)] at e2
    exact h2 j y sv' e1 e2
  · intro j y b h
    by_cases hj : j = i
    · subst hj
      rcases h with h | h
      · rw [hi] at h; cases h
        refine ⟨some v, hn, fun sv' e' => ⟨v, rfl, ?_⟩⟩
        dsimp only at e'
        rw [List.getElem?_set] at e'
        simp only [if_true] at e'
        split at e'
        · cases e'; exact hv
        · cases e'
      · rw [hi] at h; cases h
    · obtain ⟨vo, hcl, hv'⟩ := R.cell j y b h
      refine ⟨vo, hcl.sameBut hs (fun q => ?_), fun sv' e' => ?_⟩
      · subst q
        rcases h with h | h
        · have := R.ok.sone x y b (List.mem_of_getElem? hi) (List.mem_of_getElem? h)
          subst this
          exact hj (slot_inj R.ok h hi)
        · exact (R.capt y _ (List.mem_of_getElem? h)).1 (.tail _ hc.2.2)
      · dsimp only at e'
        rw [List.getElem?_set_ne (Ne.symm hj)] at e'
        exact hv' sv' e'
  · obtain ⟨p1, p2, p3, o, p4⟩ := R.own b hb
    refine ⟨p1, p2, p3, ?_⟩
    by_cases q : b = a
    · subst q; obtain ⟨o, e, _⟩ := hn; exact ⟨o, e⟩
    · exact ⟨o, keep _ _ p4 q⟩

end

abbrev T (β : Type) := (β → St → Prop) → St → Prop

section
variable {β γ δ : Type} (w : World) (hB : Heap) (c : Cx)
inductive Ret (al : List Addr) (Z : Led) (s : Shared) (R : Led → List Addr → β → γ → Prop) (k : β → St → Prop) (x : γ) (s' : Shared) : Prop
  | intro (st' : St) (al' : List Addr) (Z' : Led) (b : β) (p : Post w hB c al Z s st' al' Z' s') (r : R Z' al' b x) (hk : k b st') : Ret al Z s R k x s'
noncomputable abbrev WP (A : Around) {γ : Type} (t : Sem γ) (Q : γ → Shared → Prop) (s : Shared) : Prop := wpAny (model P w) A t Q (fun u_ u_ => False) s
noncomputable def Tri (R : Led → List Addr → β → γ → Prop) (t : Sem γ) (W : T β) : Prop :=
  ∀ st al Z s k, SRel w hB c st al Z s → W k st → WP w c.A t (Ret w hB c al Z s R k) s
noncomputable abbrev EvalsTo (e : PySem.Expr) (W : T SV) : Prop := Tri w hB c (VR w) (eval e c.env) W
noncomputable abbrev BoolR (_ : Led) (_ : List Addr) (b x : Bool) : Prop := x = b
noncomputable abbrev UnitR (_ : Led) (_ : List Addr) (_ : Unit) (_ : Unit) : Prop := True
noncomputable abbrev TestsTo (e : PySem.Expr) (W : T Bool) : Prop := Tri w hB c BoolR (isTrue e c.env (eval e c.env)) W
noncomputable abbrev ListsTo (pos : Pos) (es : List PySem.Expr) (W : T (List SV)) : Prop := Tri w hB c (VRs w) (spliced (backTo pos (starEach es c.env))) W
noncomputable def Op1 (R : Led → List Addr → β → γ → Prop) (t : Value → Sem γ) (W : SV → T β) : Prop :=
  ∀ st al Z s k a va, SRel w hB c st al Z s → VR w Z al a va → W a k st → WP w c.A (t va) (Ret w hB c al Z s R k) s
noncomputable def Op2 (R : Led → List Addr → β → γ → Prop) (t : Value → Value → Sem γ) (W : SV → SV → T β) : Prop :=
  ∀ st al Z s k a va b vb, SRel w hB c st al Z s → VR w Z al a va → VR w Z al b vb → W a b k st → WP w c.A (t va vb) (Ret w hB c al Z s R k) s
noncomputable def Op3 (R : Led → List Addr → β → γ → Prop) (t : Value → Value → Value → Sem γ) (W : SV → SV → SV → T β) : Prop :=
  ∀ st al Z s k a va b vb d vd, SRel w hB c st al Z s → VR w Z al a va → VR w Z al b vb → VR w Z al d vd → W a b d k st → WP w c.A (t va vb vd) (Ret w hB c al Z s R k) s
noncomputable def OpN (R : Led → List Addr → β → γ → Prop) (t : List Value → Sem γ) (W : List SV → T β) : Prop :=
  ∀ st al Z s k as vs, SRel w hB c st al Z s → VRs w Z al as vs → W as k st → WP w c.A (t vs) (Ret w hB c al Z s R k) s
end

section
variable {β γ δ : Type} {w : World} {hB : Heap} {c : Cx} {st st' : St} {al al' : List Addr} {Z Z' : Led} {s s' : Shared} {R : Led → List Addr → β → γ → Prop} {k : β → St → Prop} {t : Sem γ}

theorem Post.lift {A : Around} {E : Value → Shared → Prop} (p : Post w hB c al Z s st' al' Z' s') (h : wpAny (model P w) A t (Ret w hB c al' Z' s' R k) E s') : wpAny (model P w) A t (Ret w hB c al Z s R k) E s' :=
  wpAny_mono h (fun u1_ u2_ ⟨st2, al2, Z2, b, q, r, hk⟩ => ⟨st2, al2, Z2, b, p.trans q, r, hk⟩) fun u_ u_ h => h

theorem Ret.here {b : β} {x : γ} (R0 : SRel w hB c st al Z s) (r : R Z al b x) (hk : k b st) : Ret w hB c al Z s R k x s := ⟨st, al, Z, b, Post.refl R0, r, hk⟩
theorem Ret.toks {b : β} {x : γ} (R0 : SRel w hB c st al Z s) (t : Nat) (r : R Z al b x) (hk : k b st) : Ret w hB c al Z s R k x { s with toks := t } := ⟨st, al, Z, b, Post.toks R0 t, r, hk⟩
theorem Ret.mk {b : β} {x : γ} (p : Post w hB c al Z s st' al' Z' s') (r : R Z' al' b x) (hk : k b st') : Ret w hB c al Z s R k x s' := ⟨st', al', Z', b, p, r, hk⟩

theorem Tri.bind {α ε : Type} {R' : Led → List Addr → α → ε → Prop} {t' : ε → Sem γ} {u : Sem ε} {W : T α} {W' : α → T β} (h : Tri w hB c R' u W)
    (hf : ∀ st al Z s k a x, SRel w hB c st al Z s → R' Z al a x → W' a k st → WP w c.A (t' x) (Ret w hB c al Z s R k) s) :
    Tri w hB c R (u >>= t') (fun k => W fun a => W' a k) := by
  intro st al Z s k R0 hw
  refine wpAny_bind (wpAny_mono (h st al Z s _ R0 hw) (fun x s1 h1 => ?_) fun u_ u_ h => h)
  obtain ⟨st1, al1, Z1, a, p, r, hk⟩ := h1
  exact p.lift (hf st1 al1 Z1 s1 k a x p.rel r hk)
theorem Tri.of_eq {t' : Sem γ} {W : T β} (e : t = t') (h : Tri w hB c R t' W) : Tri w hB c R t W := e ▸ h
theorem Tri.none {t' : Sem γ} : Tri w hB c R t' (fun u_ u_ => False) := fun u_ u_ u_ u_ u_ u_ h => h.elim
end

noncomputable def hget : List SO → Nat → Option SO
  | [], w1_ => none
  | x :: w1_, 0 => some x
  | w1_ :: l, n + 1 => hget l n
theorem hget_eq : ∀ {l : List SO} {n : Nat} {so : SO}, hget l n = some so → l[n]? = some so
  | [], w1_, w2_, h => by simp [hget] at h
  | x :: w1_, 0, w2_, h => by simpa [hget] using h
  | w1_ :: l, n + 1, w2_, h => by simpa using hget_eq (l := l) (by simpa [hget] using h)
theorem hget_lt {l : List SO} {n : Nat} {so : SO} (h : hget l n = some so) : n < l.length := by
  have := hget_eq h
  rcases Nat.lt_or_ge n l.length with q | q
  · exact q
  · rw [List.getElem?_eq_none q] at this; cases this

noncomputable def look : List (Option SV) → Nat → Option SV
  | [], w1_ => none
  | x :: w1_, 0 => x
  | w1_ :: l, n + 1 => look l n
theorem look_eq : ∀ {l : List (Option SV)} {n : Nat} {sv : SV}, look l n = some sv → l[n]? = some (some sv)
  | [], w1_, w2_, h => by simp [look] at h
  | x :: w1_, 0, w2_, h => by simpa [look] using h
  | w1_ :: l, n + 1, w2_, h => by simpa using look_eq (l := l) (by simpa [look] using h)
noncomputable def wName (i : Nat) : T SV := fun k st => match look st.loc i with
  | some sv => k sv st
  | none => False
noncomputable def wConst (sv : SV) : T SV := fun k st => k sv st

section
variable {w : World} {hB : Heap} {c : Cx}

set_option tactic.hygienic true in
theorem ld_loc {i : Nat} {x : Str} (hi : c.slots[i]? = some (x, .loc)) : Tri w hB c (VR w) (loadName c.env x) (wName i) := by
  intro st al Z s k R hw
  unfold wName at hw
  split at hw
  · rename_i sv e
    obtain ⟨m, hm, hv⟩ := R.ns
    obtain ⟨v, h1, h2⟩ := hv i x sv hi (look_eq e)
    exact wpAny_loadName_local R.ok.kind (R.ok.sloc x (List.mem_of_getElem? hi)) hm h1 (Ret.here R h2 hw)
  · exact hw.elim
theorem ev_loc {i : Nat} {x : Str} {pos : Pos} (hi : c.slots[i]? = some (x, .loc)) (hd : (x == ("__debug__" : Str)) = false := by decide) : EvalsTo w hB c (.Name x pos) (wName i) :=
  fun st al Z s k R hw => wpAny_Name (ld_loc hi st al Z s k R hw) hd
set_option tactic.hygienic true in
theorem ev_cell {i : Nat} {x : Str} {a : Addr} {pos : Pos} (hi : c.slots[i]? = some (x, .cell a)) (hd : (x == ("__debug__" : Str)) = false := by decide) : EvalsTo w hB c (.Name x pos) (wName i) := by
  intro st al Z s k R hw
  unfold wName at hw
  split at hw
  · rename_i sv e
    obtain ⟨vo, hc, hv⟩ := R.cell i x a (.inl hi)
    obtain ⟨v, rfl, h2⟩ := hv sv (look_eq e)
    have := R.ok.scell x a (List.mem_of_getElem? hi)
    exact wpAny_Name (wpAny_loadName_cell R.ok.kind this.1 this.2.1 hc (Ret.here R h2 hw)) hd
  · exact hw.elim
set_option tactic.hygienic true in
theorem ev_capt {i : Nat} {x : Str} {a : Addr} {pos : Pos} (hi : c.slots[i]? = some (x, .capt a)) (hd : (x == ("__debug__" : Str)) = false := by decide) (hn : (x == ("__classdict__" : Str)) = false := by decide) : EvalsTo w hB c (.Name x pos) (wName i) := by
  intro st al Z s k R hw
  unfold wName at hw
  split at hw
  · rename_i sv e
    obtain ⟨vo, hc, hv⟩ := R.cell i x a (.inr hi)
    obtain ⟨v, rfl, h2⟩ := hv sv (look_eq e)
    have := R.ok.scapt x a (List.mem_of_getElem? hi)
    rcases this.1 with q | q
    · exact wpAny_Name (wpAny_loadName_cell R.ok.kind q this.2 hc (Ret.here R h2 hw)) hd
    · exact wpAny_Name (wpAny_loadName_free R.ok.kind q this.2 hc (Ret.here R h2 hw) hn) hd
  · exact hw.elim
theorem ev_glob {x : Str} {v : Value} {pos : Pos} (hk : c.env.kindOf x = some .globalImplicit) (e : nsIn (KF w) mainGlobals x = some (some v)) (hd : (x == ("__debug__" : Str)) = false := by decide) :
    EvalsTo w hB c (.Name x pos) (wConst (.gl v)) := by
  intro st al Z s k R hw
  obtain ⟨p, loose, mg, mb, T⟩ := R.grd.top
  refine Name_function_global R.ok.kind hk (loadGlobal_global (mg := mg) ?_ (mg_of R.grd.X T.g e) (Ret.here R ?_ hw)) hd
  · rw [R.ok.glob]; exact T.g.keeps R.base
  · exact Eq.refl _
theorem ev_blt {x : Str} {v : Value} {pos : Pos} (hk : c.env.kindOf x = some .globalImplicit) (e : nsIn (KF w) mainGlobals x = some none) (hv : bootBuiltins x = some v) (hn : x ≠ "__name__" := by decide) (hd : (x == ("__debug__" : Str)) = false := by decide) :
    EvalsTo w hB c (.Name x pos) (wConst (.gl v)) := by
  intro st al Z s k R hw
  obtain ⟨p, loose, mg, mb, T⟩ := R.grd.top
  refine Name_function_global R.ok.kind hk (loadGlobal_builtin (mg := mg) (mb := mb) ?_ (mg_none_of R.grd.X T.g e) ?_ ((T.builtins x hn).trans hv) (Ret.here R ?_ hw)) hd
  · rw [R.ok.glob]; exact T.g.keeps R.base
  · rw [R.ok.blt]; exact T.b.keeps R.base
  · exact Eq.refl _

theorem ev_int {z : Int} {kk : Nat} {pos : Pos} : EvalsTo w hB c (.Constant (.int z) kk pos) (wConst (.int z)) :=
  fun u_ u_ u_ u_ u_ R hw => wpAny_Constant_int (Ret.toks R _ (vInt _ _) hw)
theorem ev_str {x : Str} (cs : Cs) {kk : Nat} {pos : Pos} (h : x = S cs := by decide +kernel) : EvalsTo w hB c (.Constant (.str x) kk pos) (wConst (.str cs)) :=
  fun u_ u_ u_ u_ u_ R hw => wpAny_Constant_str (Ret.toks R _ (h ▸ vStr _ _) hw)
theorem ev_bool {b : Bool} {kk : Nat} {pos : Pos} : EvalsTo w hB c (.Constant (.bool b) kk pos) (wConst (.bool b)) :=
  fun u_ u_ u_ u_ u_ R hw => wpAny_Constant_bool (Ret.here R (vBool _) hw)
theorem ev_none {kk : Nat} {pos : Pos} : EvalsTo w hB c (.Constant .none kk pos) (wConst .none) :=
  fun u_ u_ u_ u_ u_ R hw => wpAny_Constant_none (Ret.here R vNone hw)

theorem ev_bin {l r : PySem.Expr} {op : Operator} {pos : Pos} {wl wr : T SV} {wo : SV → SV → T SV} (hl : EvalsTo w hB c l wl) (hr : EvalsTo w hB c r wr) (ho : Op2 w hB c (VR w) (binaryOp op) wo) :
    EvalsTo w hB c (.BinOp l op r pos) (fun k => wl fun a => wr fun b => wo a b k) := by
  intro st al Z s k R hw
  refine wpAny_BinOp (wpAny_mono (hl st al Z s _ R hw) (fun va s1 h1 => ?_) fun u_ u_ h => h)
  obtain ⟨st1, al1, Z1, a, p1, r1, hk1⟩ := h1
  refine wpAny_mono (hr st1 al1 Z1 s1 _ p1.rel hk1) (fun vb s2 h2 => ?_) fun u_ u_ h => h
  obtain ⟨st2, al2, Z2, b, p2, r2, hk2⟩ := h2
  exact (p1.trans p2).lift (ho st2 al2 Z2 s2 k a va b vb p2.rel (r1.mono p2.sub p2.pre) r2 hk2)
theorem ev_un {x : PySem.Expr} {op : UnaryOp} {pos : Pos} {wx : T SV} {wo : SV → T SV} (hx : EvalsTo w hB c x wx) (ho : Op1 w hB c (VR w) (unaryOp op) wo) :
    EvalsTo w hB c (.UnaryOp op x pos) (fun k => wx fun a => wo a k) := by
  intro st al Z s k R hw
  refine wpAny_UnaryOp (wpAny_mono (hx st al Z s _ R hw) (fun va s1 h1 => ?_) fun u_ u_ h => h)
  obtain ⟨st1, al1, Z1, a, p1, r1, hk1⟩ := h1
  exact p1.lift (ho st1 al1 Z1 s1 k a va p1.rel r1 hk1)
theorem ev_cmp {l r : PySem.Expr} {op : CmpOp} {pos : Pos} {wl wr : T SV} {wo : SV → SV → T SV} (hl : EvalsTo w hB c l wl) (hr : EvalsTo w hB c r wr) (ho : Op2 w hB c (VR w) (compareOp op) wo)
    (hm : behindInMarks op r = false := by with_unfolding_all rfl) :
    EvalsTo w hB c (.Compare l [op] [r] pos) (fun k => wl fun a => wr fun b => wo a b k) := by
  intro st al Z s k R hw
  refine wpAny_Compare1 (wpAny_mono (hl st al Z s _ R hw) (fun va s1 h1 => ?_) fun u_ u_ h => h) hm
  obtain ⟨st1, al1, Z1, a, p1, r1, hk1⟩ := h1
  refine wpAny_mono (hr st1 al1 Z1 s1 _ p1.rel hk1) (fun vb s2 h2 => ?_) fun u_ u_ h => h
  obtain ⟨st2, al2, Z2, b, p2, r2, hk2⟩ := h2
  exact (p1.trans p2).lift (ho st2 al2 Z2 s2 k a va b vb p2.rel (r1.mono p2.sub p2.pre) r2 hk2)

noncomputable def SV.bool? : SV → Option Bool
  | .bool b => some b
  | _ => Option.none
noncomputable def SV.int? : SV → Option Int
  | .int z => some z
  | _ => Option.none
noncomputable def SV.str? : SV → Option Cs
  | .str x => some x
  | _ => Option.none
theorem bool?_eq {v : SV} {b : Bool} (h : v.bool? = some b) : v = .bool b := by
  cases v with
  | bool b => cases h; rfl
  | _ => cases h
theorem int?_eq {v : SV} {z : Int} (h : v.int? = some z) : v = .int z := by
  cases v with
  | int b => cases h; rfl
  | _ => cases h
theorem str?_eq {v : SV} {x : Cs} (h : v.str? = some x) : v = .str x := by
  cases v with
  | str b => cases h; rfl
  | _ => cases h

noncomputable def wB (wo : SV → SV → T SV) (a b : SV) (k : Bool → St → Prop) (st : St) : Prop := wo a b (fun v st => match v.bool? with | some b => k b st | none => False) st
set_option tactic.hygienic true in
theorem te_cmp {l r : PySem.Expr} {op : CmpOp} {pos : Pos} {wl wr : T SV} {wo : SV → SV → T SV} (hl : EvalsTo w hB c l wl) (hr : EvalsTo w hB c r wr) (ho : Op2 w hB c (VR w) (compareOp op) wo)
    (hm : behindInMarks op r = false := by with_unfolding_all rfl) :
    TestsTo w hB c (.Compare l [op] [r] pos) (fun k => wl fun a => wr fun b => wB wo a b k) := by
  intro st al Z s k R hw
  refine wpAny_isTrue_Compare1 (wpAny_mono (hl st al Z s _ R hw) (fun va s1 h1 => ?_) fun u_ u_ h => h) hm
  obtain ⟨st1, al1, Z1, a, p1, r1, hk1⟩ := h1
  refine wpAny_mono (hr st1 al1 Z1 s1 _ p1.rel hk1) (fun vb s2 h2 => ?_) fun u_ u_ h => h
  obtain ⟨st2, al2, Z2, b, p2, r2, hk2⟩ := h2
  refine wpAny_mono (ho st2 al2 Z2 s2 _ a va b vb p2.rel (r1.mono p2.sub p2.pre) r2 hk2) (fun vc s3 h3 => ?_) fun u_ u_ h => h
  obtain ⟨st3, al3, Z3, d, p3, r3, hk3⟩ := h3
  split at hk3
  · rename_i b' e
    rw [bool?_eq e] at r3
    cases (r3 : _ = _)
    exact wpAny_truthy_bool (Ret.mk ((p1.trans p2).trans p3) rfl hk3)
  · exact hk3.elim
theorem te_and {x y : PySem.Expr} {pos : Pos} {wx wy : T Bool} (hx : TestsTo w hB c x wx) (hy : TestsTo w hB c y wy) :
    TestsTo w hB c (.BoolOp .And [x, y] pos) (fun k => wx fun b => if b then wy k else k false) := by
  intro st al Z s k R hw
  refine wpAny_isTrue_BoolOp (wpAny_allTrue_And_cons (wpAny_mono (hx st al Z s _ R hw) (fun b s1 h1 => ?_) fun u_ u_ h => h))
  obtain ⟨st1, al1, Z1, a, p1, r1, hk1⟩ := h1
  obtain rfl : b = a := r1
  cases b with
  | false => exact Ret.mk p1 rfl hk1
  | true =>
    refine wpAny_allTrue_And_cons (wpAny_mono (hy st1 al1 Z1 s1 _ p1.rel hk1) (fun b s2 h2 => ?_) fun u_ u_ h => h)
    obtain ⟨st2, al2, Z2, a2, p2, r2, hk2⟩ := h2
    obtain rfl : b = a2 := r2
    cases b with
    | false => exact Ret.mk (p1.trans p2) rfl hk2
    | true => exact wpAny_allTrue_And_nil (Ret.mk (p1.trans p2) rfl hk2)
theorem te_or {x y : PySem.Expr} {pos : Pos} {wx wy : T Bool} (hx : TestsTo w hB c x wx) (hy : TestsTo w hB c y wy) :
    TestsTo w hB c (.BoolOp .Or [x, y] pos) (fun k => wx fun b => if b then k true else wy k) := by
  intro st al Z s k R hw
  refine wpAny_isTrue_BoolOp (wpAny_allTrue_Or_cons (wpAny_mono (hx st al Z s _ R hw) (fun b s1 h1 => ?_) fun u_ u_ h => h))
  obtain ⟨st1, al1, Z1, a, p1, r1, hk1⟩ := h1
  obtain rfl : b = a := r1
  cases b with
  | true => exact Ret.mk p1 rfl hk1
  | false =>
    refine wpAny_allTrue_Or_cons (wpAny_mono (hy st1 al1 Z1 s1 _ p1.rel hk1) (fun b s2 h2 => ?_) fun u_ u_ h => h)
    obtain ⟨st2, al2, Z2, a2, p2, r2, hk2⟩ := h2
    obtain rfl : b = a2 := r2
    cases b with
    | true => exact Ret.mk (p1.trans p2) rfl hk2
    | false => exact wpAny_allTrue_Or_nil (Ret.mk (p1.trans p2) rfl hk2)
theorem te_or3 {x y z : PySem.Expr} {pos : Pos} {wx wy k_go : T Bool} (hx : TestsTo w hB c x wx) (hy : TestsTo w hB c y wy) (hz : TestsTo w hB c z k_go) :
    TestsTo w hB c (.BoolOp .Or [x, y, z] pos) (fun k => wx fun b => if b then k true else wy fun b => if b then k true else k_go k) := by
  intro st al Z s k R hw
  refine wpAny_isTrue_BoolOp (wpAny_allTrue_Or_cons (wpAny_mono (hx st al Z s _ R hw) (fun b s1 h1 => ?_) fun u_ u_ h => h))
  obtain ⟨st1, al1, Z1, a, p1, r1, hk1⟩ := h1
  obtain rfl : b = a := r1
  cases b with
  | true => exact Ret.mk p1 rfl hk1
  | false =>
    refine wpAny_allTrue_Or_cons (wpAny_mono (hy st1 al1 Z1 s1 _ p1.rel hk1) (fun b s2 h2 => ?_) fun u_ u_ h => h)
    obtain ⟨st2, al2, Z2, a2, p2, r2, hk2⟩ := h2
    obtain rfl : b = a2 := r2
    cases b with
    | true => exact Ret.mk (p1.trans p2) rfl hk2
    | false =>
      refine wpAny_allTrue_Or_cons (wpAny_mono (hz st2 al2 Z2 s2 _ p2.rel hk2) (fun b s3 h3 => ?_) fun u_ u_ h => h)
      obtain ⟨st3, al3, Z3, a3, p3, r3, hk3⟩ := h3
      obtain rfl : b = a3 := r3
      cases b with
      | true => exact Ret.mk ((p1.trans p2).trans p3) rfl hk3
      | false => exact wpAny_allTrue_Or_nil (Ret.mk ((p1.trans p2).trans p3) rfl hk3)
theorem te_val {e : PySem.Expr} {we : T SV} {wo : SV → T Bool} (he : EvalsTo w hB c e we) (ho : Op1 w hB c BoolR truthy wo)
    (hi : autoParam (isTrue e c.env (eval e c.env) = (do let v ← eval e c.env; standAt e.pos; holding [v] (truthy v))) aRfl) : TestsTo w hB c e (fun k => we fun a => wo a k) := by
  intro st al Z s k R hw
  refine wpAny_isTrue_value (wpAny_mono (he st al Z s _ R hw) (fun va s1 h1 => ?_) fun u_ u_ h => h) hi
  obtain ⟨st1, al1, Z1, a, p1, r1, hk1⟩ := h1
  exact p1.lift (ho st1 al1 Z1 s1 k a va p1.rel r1 hk1)

theorem li_nil {pos : Pos} : ListsTo w hB c pos [] (fun k => k []) := fun u_ u_ u_ u_ u_ R hw => wpAny_items_nil (Ret.here R (by exact Eq.refl _) hw)
theorem li_cons {pos : Pos} {e : PySem.Expr} {es : List PySem.Expr} {we : T SV} {wr : T (List SV)} (he : EvalsTo w hB c e we) (hr : ListsTo w hB c pos es wr)
    (hs : autoParam (starEach (e :: es) c.env = (false, eval e c.env) :: starEach es c.env) aRfl) : ListsTo w hB c pos (e :: es) (fun k => we fun a => wr fun r => k (a :: r)) := by
  intro st al Z s k R hw
  refine wpAny_items_cons (wpAny_mono (he st al Z s _ R hw) (fun va s1 h1 => ?_) fun u_ u_ h => h) hs
  obtain ⟨st1, al1, Z1, a, p1, r1, hk1⟩ := h1
  refine wpAny_mono (hr st1 al1 Z1 s1 _ p1.rel hk1) (fun vs s2 h2 => ?_) fun u_ u_ h => h
  obtain ⟨st2, al2, Z2, b, p2, r2, hk2⟩ := h2
  refine Ret.mk (p1.trans p2) ?_ hk2
  exact ⟨va, vs, rfl, r1.mono p2.sub p2.pre, r2⟩

theorem tupO (vs : List Value) : SeqO "tuple" ({ cls := .type "tuple", data := .seq vs.toArray } : Obj) vs := ⟨0, rfl⟩
theorem listO (vs : List Value) : SeqO "list" ({ cls := .type "list", data := .seq vs.toArray } : Obj) vs := ⟨0, rfl⟩
noncomputable def wTup (as : List SV) : T SV := fun k st => as.length ≤ 1000 ∧ k (.tup as) st
noncomputable def wListZ (as : List SV) : T SV := fun k st => as.length ≤ 1000 ∧ k (.list as) st
noncomputable def wListL (as : List SV) : T SV := fun k st => as.length ≤ 1000 ∧ k (.obj st.heap.length) (st.addH (.list as))
theorem ev_tup {es : List PySem.Expr} {n : Nat} {pos : Pos} {we : T (List SV)} (he : ListsTo w hB c pos es we) : EvalsTo w hB c (.Tuple es n pos) (fun k => we fun as => wTup as k) := by
  intro st al Z s k R hw
  refine wpAny_Tuple (wpAny_mono (he st al Z s _ R hw) (fun vs s1 h1 => ?_) fun u_ u_ h => h)
  obtain ⟨st1, al1, Z1, as, p1, r1, hk1⟩ := h1
  refine ⟨by rw [r1.length, sizeLine_eq]; have := hk1.1; omega, ?_⟩
  have p2 := Post.allocZ p1.rel (o := { cls := .type "tuple", data := .seq vs.toArray }) rfl s1.toks
  refine Ret.mk (p1.trans p2) ?_ hk1.2
  exact ⟨_, _, vs, rfl, .head _, tupO vs, r1.mono (fun u_ h => .tail _ h) (List.prefix_refl _)⟩
theorem ev_listZ {es : List PySem.Expr} {pos : Pos} {we : T (List SV)} (he : ListsTo w hB c pos es we) : EvalsTo w hB c (.List es pos) (fun k => we fun as => wListZ as k) := by
  intro st al Z s k R hw
  refine wpAny_List (wpAny_mono (he st al Z s _ R hw) (fun vs s1 h1 => ?_) fun u_ u_ h => h)
  obtain ⟨st1, al1, Z1, as, p1, r1, hk1⟩ := h1
  refine ⟨by rw [r1.length, sizeLine_eq]; have := hk1.1; omega, ?_⟩
  have p2 := Post.allocZ p1.rel (o := { cls := .type "list", data := .seq vs.toArray }) rfl s1.toks
  refine Ret.mk (p1.trans p2) ?_ hk1.2
  exact ⟨_, _, vs, rfl, .head _, listO vs, r1.mono (fun u_ h => .tail _ h) (List.prefix_refl _)⟩
theorem ev_listL {es : List PySem.Expr} {pos : Pos} {we : T (List SV)} (he : ListsTo w hB c pos es we) : EvalsTo w hB c (.List es pos) (fun k => we fun as => wListL as k) := by
  intro st al Z s k R hw
  refine wpAny_List (wpAny_mono (he st al Z s _ R hw) (fun vs s1 h1 => ?_) fun u_ u_ h => h)
  obtain ⟨st1, al1, Z1, as, p1, r1, hk1⟩ := h1
  refine ⟨by rw [r1.length, sizeLine_eq]; have := hk1.1; omega, ?_⟩
  have p2 := Post.allocL p1.rel (o := { cls := .type "list", data := .seq vs.toArray }) (so := .list as) rfl s1.toks ⟨vs, listO vs, r1.mono (fun u_ h => h) (List.prefix_append _ _)⟩
  refine Ret.mk (p1.trans p2) ?_ hk1.2
  exact ⟨_, by rw [← p1.rel.len]; simp, rfl⟩
end

inductive AFl where
  | next | brk | cont
  | ret (v : SV)
noncomputable def FR (w : World) (Z : Led) (al : List Addr) : AFl → Flow → Prop
  | .next, f => f = .next
  | .brk, f => f = .brk
  | .cont, f => f = .cont
  | .ret sv, f => ∃ v, f = .ret v ∧ VR w Z al sv v

section
variable {β γ : Type} (w : World) (hB : Heap) (c : Cx)
inductive RetS (al : List Addr) (Z : Led) (s : Shared) (R : Led → List Addr → β → γ → Prop) (k : β → St → Prop) (x : γ) (s' : Shared) : Prop
  | intro (st' : St) (al' : List Addr) (Z' : Led) (b : β) (p : PostS w hB c al Z s st' al' Z' s') (r : R Z' al' b x) (hk : k b st') : RetS al Z s R k x s'
noncomputable def TriS (R : Led → List Addr → β → γ → Prop) (t : Sem γ) (W : T β) : Prop :=
  ∀ st al Z s k, SRel w hB c st al Z s → W k st → WP w c.A t (RetS w hB c al Z s R k) s
end
section
variable {β γ : Type} {w : World} {hB : Heap} {c : Cx} {st st' : St} {al al' : List Addr} {Z Z' : Led} {s s' : Shared} {R : Led → List Addr → β → γ → Prop} {k : β → St → Prop} {t : Sem γ}
theorem PostS.lift {A : Around} {E : Value → Shared → Prop} (p : PostS w hB c al Z s st' al' Z' s') (h : wpAny (model P w) A t (RetS w hB c al' Z' s' R k) E s') : wpAny (model P w) A t (RetS w hB c al Z s R k) E s' :=
  wpAny_mono h (fun u1_ u2_ ⟨st2, al2, Z2, b, q, r, hk⟩ => ⟨st2, al2, Z2, b, p.trans q, r, hk⟩) fun u_ u_ h => h
theorem RetS.here {b : β} {x : γ} (R0 : SRel w hB c st al Z s) (r : R Z al b x) (hk : k b st) : RetS w hB c al Z s R k x s := ⟨st, al, Z, b, PostS.refl R0, r, hk⟩
theorem RetS.mk {b : β} {x : γ} (p : PostS w hB c al Z s st' al' Z' s') (r : R Z' al' b x) (hk : k b st') : RetS w hB c al Z s R k x s' := ⟨st', al', Z', b, p, r, hk⟩
theorem TriS.none {t' : Sem γ} : TriS w hB c R t' (fun u_ u_ => False) := fun u_ u_ u_ u_ u_ u_ h => h.elim
end

mutual
noncomputable def RN (io : List Nat) : SV → SV → Prop
  | .obj j, v => ∃ i, io[j]? = some i ∧ v = .obj i
  | .iobj C j, v => ∃ i, io[j]? = some i ∧ v = .iobj C i
  | .tup vs, v => ∃ us, v = .tup us ∧ RNs io vs us
  | .list vs, v => ∃ us, v = .list us ∧ RNs io vs us
  | .dict ks vs, v => ∃ us, v = .dict ks us ∧ RNs io vs us
  | .inst C ks vs, v => ∃ us, v = .inst C ks us ∧ RNs io vs us
  | .none, v => v = .none
  | .bool b, v => v = .bool b
  | .int z, v => v = .int z
  | .str x, v => v = .str x
  | .gl g, v => v = .gl g
  | .rng a b, v => v = .rng a b
  | .view n ks vs, v => ∃ us, v = .view n ks us ∧ RNs io vs us
  | .meth f sv, v => ∃ u, v = .meth f u ∧ RN io sv u
  | .rdr j x, v => ∃ i, io[j]? = some i ∧ v = .rdr i x
noncomputable def RNs (io : List Nat) : List SV → List SV → Prop
  | [], us => us = []
  | v :: vs, us => ∃ u r, us = u :: r ∧ RN io v u ∧ RNs io vs r
end
noncomputable def RNO (io : List Nat) : SO → SO → Prop
  | .list vs, o => ∃ us, o = .list us ∧ RNs io vs us
  | .dict ks vs, o => ∃ us, o = .dict ks us ∧ RNs io vs us
  | .attrs ks vs, o => ∃ us, o = .attrs ks us ∧ RNs io vs us
  | .citer f e, o => ∃ f' e', o = .citer f' e' ∧ RN io f f' ∧ RN io e e'
  | .gone, w1_ => True
noncomputable def LRN (io : List Nat) : List (Option SV) → List (Option SV) → Prop
  | [], w1_ => True
  | none :: r, w1_ :: r' => LRN io r r'
  | none :: r, [] => LRN io r []
  | some v :: r, some u :: r' => RN io v u ∧ LRN io r r'
  | some w1_ :: w2_, none :: w3_ => False
  | some w1_ :: w2_, [] => False
noncomputable def HRN (io : List Nat) (hp : List SO) : List Nat → List SO → Prop
  | [], os => os = []
  | i :: is, os => ∃ o r o', os = o :: r ∧ hget hp i = some o' ∧ RNO io o o' ∧ HRN io hp is r
inductive Wk (pin : Nat) (st : St) : St → Prop
  | refl : Wk pin st st
  | sel (io : List Nat) (st1 : St) : io.Nodup → io.take pin = List.range pin → LRN io st1.loc st.loc → HRN io st.heap io st1.heap → Wk pin st st1

section
variable {w : World} {Z : Led} {al : List Addr}
theorem FR.nx : FR w Z al .next .next := rfl
theorem FR.br : FR w Z al .brk .brk := rfl
theorem FR.co : FR w Z al .cont .cont := rfl
theorem FR.re {sv : SV} {v : Value} (h : VR w Z al sv v) : FR w Z al (.ret sv) (.ret v) := ⟨v, rfl, h⟩
end
section
variable (w : World) (hB : Heap) (c : Cx)
noncomputable abbrev ExecTo (e : PySem.Stmt) (W : T AFl) : Prop := TriS w hB c (FR w) (exec e c.env) W
noncomputable abbrev ExecsTo (es : List PySem.Stmt) (W : T AFl) : Prop := TriS w hB c (FR w) (execs es c.env) W
noncomputable abbrev AssTo (t : PySem.Expr) (W : SV → T Unit) : Prop := Op1 w hB c UnitR (fun v => assign t c.env v) W
end

noncomputable def wSeq (w1 w2 : T AFl) : T AFl := fun k => w1 fun fl st => match fl with
  | .next => w2 k st
  | .brk => k .brk st
  | .cont => k .cont st
  | .ret v => k (.ret v) st
noncomputable def wSet (i : Nat) (sv : SV) : T Unit := fun k st => k () (st.setL i sv)

section
variable {w : World} {hB : Heap} {c : Cx}

theorem exs_nil : ExecsTo w hB c [] (fun k => k .next) := fun u_ u_ u_ u_ u_ R hw => wpAny_execs_nil (RetS.here R FR.nx hw)
theorem exs_cons {e : PySem.Stmt} {es : List PySem.Stmt} {w1 w2 : T AFl} (h1 : ExecTo w hB c e w1) (h2 : ExecsTo w hB c es w2) : ExecsTo w hB c (e :: es) (wSeq w1 w2) := by
  intro st al Z s k R hw
  refine wpAny_execs_cons (wpAny_mono (h1 st al Z s _ R hw) (fun f s1 h => ?_) fun u_ u_ h => h)
  obtain ⟨st1, al1, Z1, fl, p1, r1, hk1⟩ := h
  cases fl with
  | next =>
    simp only [FR] at r1
    subst r1
    exact p1.lift (h2 st1 al1 Z1 s1 k p1.rel hk1)
  | brk => simp only [FR] at r1; subst r1; exact RetS.mk p1 FR.br hk1
  | cont => simp only [FR] at r1; subst r1; exact RetS.mk p1 FR.co hk1
  | ret sv =>
    obtain ⟨v, rfl, r1⟩ := r1
    exact RetS.mk p1 (FR.re r1) hk1
theorem ex_one {e : PySem.Stmt} {w1 : T AFl} (h1 : ExecTo w hB c e w1) : ExecsTo w hB c [e] w1 := by
  intro st al Z s k R hw
  refine wpAny_execs_cons (wpAny_mono (h1 st al Z s _ R hw) (fun f s1 h => ?_) fun u_ u_ h => h)
  obtain ⟨st1, al1, Z1, fl, p1, r1, hk1⟩ := h
  cases fl with
  | next =>
    simp only [FR] at r1
    subst r1
    exact wpAny_execs_nil (RetS.mk p1 FR.nx hk1)
  | brk => simp only [FR] at r1; subst r1; exact RetS.mk p1 FR.br hk1
  | cont => simp only [FR] at r1; subst r1; exact RetS.mk p1 FR.co hk1
  | ret sv =>
    obtain ⟨v, rfl, r1⟩ := r1
    exact RetS.mk p1 (FR.re r1) hk1
theorem ex_pass {pos : Pos} : ExecTo w hB c (.Pass pos) (fun k => k .next) := fun u_ u_ u_ u_ u_ R hw => wpAny_Pass (RetS.here R FR.nx hw)
theorem ex_break {pos : Pos} : ExecTo w hB c (.Break pos) (fun k => k .brk) := fun u_ u_ u_ u_ u_ R hw => wpAny_Break (RetS.here R FR.br hw)
theorem ex_continue {pos : Pos} : ExecTo w hB c (.Continue pos) (fun k => k .cont) := fun u_ u_ u_ u_ u_ R hw => wpAny_Continue (RetS.here R FR.co hw)
theorem ex_ret {e : PySem.Expr} {pos : Pos} {we : T SV} (he : EvalsTo w hB c e we) : ExecTo w hB c (.Return (some e) pos) (fun k => we fun v => k (.ret v)) := by
  intro st al Z s k R hw
  refine wpAny_Return_some (wpAny_mono (he st al Z s _ R hw) (fun v s1 h => ?_) fun u_ u_ h => h)
  obtain ⟨st1, al1, Z1, sv, p1, r1, hk1⟩ := h
  exact RetS.mk (p1.toS R.pinl) (FR.re r1) hk1
theorem ex_if {t : PySem.Expr} {b o : List PySem.Stmt} {pos : Pos} {wt : T Bool} {wb wo : T AFl} (ht : TestsTo w hB c t wt) (hb : ExecsTo w hB c b wb) (ho : ExecsTo w hB c o wo) :
    ExecTo w hB c (.If t b o pos) (fun k => wt fun x => if x then wb k else wo k) := by
  intro st al Z s k R hw
  refine wpAny_If (wpAny_mono (ht st al Z s _ R hw) (fun x s1 h => ?_) fun u_ u_ h => h)
  obtain ⟨st1, al1, Z1, x', p1, r1, hk1⟩ := h
  obtain rfl : x = x' := r1
  cases x with
  | true => exact (p1.toS R.pinl).lift (hb st1 al1 Z1 s1 k p1.rel hk1)
  | false => exact (p1.toS R.pinl).lift (ho st1 al1 Z1 s1 k p1.rel hk1)

theorem sto_loc {i : Nat} {x : Str} (hi : c.slots[i]? = some (x, .loc)) : Op1 w hB c UnitR (fun v => storeName c.env x v) (wSet i) := by
  intro st al Z s k a va R r hw
  obtain ⟨m, hm, _⟩ := R.ns
  refine wpAny_storeName_local (R.ok.sloc x (List.mem_of_getElem? hi)) hm (fun h' hn hs => Ret.mk (Post.setLoc R hi r hm hn hs _) trivial hw) ?_
  rw [R.ok.kind]; rfl
theorem sto_cell {i : Nat} {x : Str} {a : Addr} (hi : c.slots[i]? = some (x, .cell a)) : Op1 w hB c UnitR (fun v => storeName c.env x v) (wSet i) := by
  intro st al Z s k a' va R r hw
  obtain ⟨vo, hc, _⟩ := R.cell i x a (.inl hi)
  have := R.ok.scell x a (List.mem_of_getElem? hi)
  exact wpAny_storeName_cell R.ok.kind this.1 this.2.1 hc (fun h' hn hs => Ret.mk (Post.setCell R hi r hn hs s.toks) trivial hw)
theorem as_name {x : Str} {pos : Pos} {W : SV → T Unit} (h : Op1 w hB c UnitR (fun v => storeName c.env x v) W) : AssTo w hB c (.Name x pos) W :=
  fun st al Z s k a va R r hw => wpAny_assign_Name (h st al Z s k a va R r hw)
theorem as_loc {i : Nat} {x : Str} {pos : Pos} (hi : c.slots[i]? = some (x, .loc)) : AssTo w hB c (.Name x pos) (wSet i) := as_name (sto_loc hi)
theorem as_cell {i : Nat} {x : Str} {a : Addr} {pos : Pos} (hi : c.slots[i]? = some (x, .cell a)) : AssTo w hB c (.Name x pos) (wSet i) := as_name (sto_cell hi)

theorem ex_assign {t v : PySem.Expr} {pos : Pos} {wv : T SV} {wt : SV → T Unit} (hv : EvalsTo w hB c v wv) (ht : AssTo w hB c t wt)
    (he : autoParam ((assignEach [t] c.env).map (·.2) = [assign t c.env]) aRfl) (hs : autoParam (swapsWithSole [t] v pos.line c.env = pure false) aRfl) (hw : autoParam (swappedStores [t] v c.env = pure none) aRfl) :
    ExecTo w hB c (.Assign [t] v pos) (fun k => wv fun a => wt a fun u_ => k .next) := by
  intro st al Z s k R hw'
  refine wpAny_Assign_stores (wpAny_mono (hv st al Z s _ R hw') (fun x s1 h => ?_) fun u_ u_ h => h) hs hw
  obtain ⟨st1, al1, Z1, a, p1, r1, hk1⟩ := h
  rw [he]
  show wpAny _ _ (assign t c.env x) _ _ _
  refine wpAny_mono (ht st1 al1 Z1 s1 _ a x p1.rel r1 hk1) (fun u_ s2 h => ?_) fun u_ u_ h => h
  obtain ⟨st2, al2, Z2, _, p2, _, hk2⟩ := h
  exact RetS.mk ((p1.trans p2).toS R.pinl) FR.nx hk2
theorem ex_assign3 {t1 t2 t3 v : PySem.Expr} {pos : Pos} {wv : T SV} {u1 u2 u3 : SV → T Unit} (hv : EvalsTo w hB c v wv) (h1 : AssTo w hB c t1 u1) (h2 : AssTo w hB c t2 u2) (h3 : AssTo w hB c t3 u3)
    (he : autoParam ((assignEach [t1, t2, t3] c.env).map (·.2) = [assign t1 c.env, assign t2 c.env, assign t3 c.env]) aRfl) (hw : autoParam (swappedStores [t1, t2, t3] v c.env = pure none) aRfl) :
    ExecTo w hB c (.Assign [t1, t2, t3] v pos) (fun k => wv fun a => u1 a fun u_ => u2 a fun u_ => u3 a fun u_ => k .next) := by
  intro st al Z s k R hw'
  refine wpAny_Assign_three (wpAny_mono (hv st al Z s _ R hw') (fun x s1 h => ?_) fun u_ u_ h => h) he hw
  obtain ⟨st1, al1, Z1, a, p1, r1, hk1⟩ := h
  refine wpAny_mono (h1 st1 al1 Z1 s1 _ a x p1.rel r1 hk1) (fun u_ s2 h => ?_) fun u_ u_ h => h
  obtain ⟨st2, al2, Z2, _, p2, _, hk2⟩ := h
  have r2 := r1.mono p2.sub p2.pre
  refine wpAny_mono (h2 st2 al2 Z2 s2 _ a x p2.rel r2 hk2) (fun u_ s3 h => ?_) fun u_ u_ h => h
  obtain ⟨st3, al3, Z3, _, p3, _, hk3⟩ := h
  refine wpAny_mono (h3 st3 al3 Z3 s3 _ a x p3.rel (r2.mono p3.sub p3.pre) hk3) (fun u_ s4 h => ?_) fun u_ u_ h => h
  obtain ⟨st4, al4, Z4, _, p4, _, hk4⟩ := h
  exact RetS.mk ((((p1.trans p2).trans p3).trans p4).toS R.pinl) FR.nx hk4
theorem ex_aug {x : Str} {pos' pos : Pos} {op : Operator} {v : PySem.Expr} {wx wv : T SV} {wo : SV → SV → T SV} {wt : SV → T Unit} (hx' : Tri w hB c (VR w) (loadName c.env x) wx) (hv : EvalsTo w hB c v wv) (ho : Op2 w hB c (VR w) (inplaceOp op) wo)
    (ht : Op1 w hB c UnitR (fun v => storeName c.env x v) wt) :
    ExecTo w hB c (.AugAssign (.Name x pos') op v pos) (fun k => wx fun a => wv fun b => wo a b fun r => wt r fun u_ => k .next) := by
  intro st al Z s k R hw
  refine wpAny_AugAssign_Name (wpAny_mono (hx' st al Z s _ R hw) (fun va s1 h => ?_) fun u_ u_ h => h)
  obtain ⟨st1, al1, Z1, a, p1, r1, hk1⟩ := h
  refine wpAny_mono (hv st1 al1 Z1 s1 _ p1.rel hk1) (fun vb s2 h => ?_) fun u_ u_ h => h
  obtain ⟨st2, al2, Z2, b, p2, r2, hk2⟩ := h
  refine wpAny_mono (ho st2 al2 Z2 s2 _ a va b vb p2.rel (r1.mono p2.sub p2.pre) r2 hk2) (fun vr s3 h => ?_) fun u_ u_ h => h
  obtain ⟨st3, al3, Z3, r, p3, r3, hk3⟩ := h
  refine wpAny_mono (ht st3 al3 Z3 s3 _ r vr p3.rel r3 hk3) (fun u_ s4 h => ?_) fun u_ u_ h => h
  obtain ⟨st4, al4, Z4, _, p4, _, hk4⟩ := h
  exact RetS.mk ((((p1.trans p2).trans p3).trans p4).toS R.pinl) FR.nx hk4

end

section
variable {w : World} {Z : Led} {al al1 : List Addr} {io : List Nat}
mutual
theorem VR.rn (hx : ∀ j i a : Nat, io[j]? = some i → al[i]? = some a → al1[j]? = some a) : ∀ {sv u : SV} {v : Value}, RN io sv u → VR w Z al u v → VR w Z al1 sv v
  | .none, w1_, w2_, hr, h => by cases (hr : _ = _); exact h
  | .bool w1_, w2_, w3_, hr, h => by cases (hr : _ = _); exact h
  | .int w1_, w2_, w3_, hr, h => by cases (hr : _ = _); exact h
  | .str w1_, w2_, w3_, hr, h => by cases (hr : _ = _); exact h
  | .gl w1_, w2_, w3_, hr, h => by cases (hr : _ = _); exact h
  | .rng w1_ w2_, w3_, w4_, hr, h => by cases (hr : _ = _); exact h
  | .view n ks vs, w1_, w2_, hr, h => by
    obtain ⟨us, rfl, hr⟩ := hr
    obtain ⟨a, d, o, kvs, e, m, m2, q, q2, r⟩ := h
    exact ⟨a, d, o, kvs, e, m, m2, q, q2, VRs.rn hx hr r⟩
  | .meth f sv, w1_, w2_, hr, h => by
    obtain ⟨u', rfl, hr⟩ := hr
    obtain ⟨a, u, e, m, r⟩ := h
    exact ⟨a, u, e, m, VR.rn hx hr r⟩
  | .rdr j x, w1_, w2_, hr, h => by
    obtain ⟨i, hi, rfl⟩ := hr
    obtain ⟨a, la, e, m, r⟩ := h
    exact ⟨a, la, e, m, hx _ _ _ hi r⟩
  | .tup vs, w1_, w2_, hr, h => by
    obtain ⟨us, rfl, hr⟩ := hr
    obtain ⟨a, o, xs, e, m, q, r⟩ := h
    exact ⟨a, o, xs, e, m, q, VRs.rn hx hr r⟩
  | .list vs, w1_, w2_, hr, h => by
    obtain ⟨us, rfl, hr⟩ := hr
    obtain ⟨a, o, xs, e, m, q, r⟩ := h
    exact ⟨a, o, xs, e, m, q, VRs.rn hx hr r⟩
  | .dict ks vs, w1_, w2_, hr, h => by
    obtain ⟨us, rfl, hr⟩ := hr
    obtain ⟨a, o, kvs, e, m, q, q2, r⟩ := h
    exact ⟨a, o, kvs, e, m, q, q2, VRs.rn hx hr r⟩
  | .inst C ks vs, w1_, w2_, hr, h => by
    obtain ⟨us, rfl, hr⟩ := hr
    obtain ⟨x, dx, o, kvs, e, m, m2, q, q2, r⟩ := h
    exact ⟨x, dx, o, kvs, e, m, m2, q, q2, VRs.rn hx hr r⟩
  | .obj j, w1_, w2_, hr, h => by
    obtain ⟨i, hi, rfl⟩ := hr
    obtain ⟨a, e, r⟩ := h
    exact ⟨a, hx _ _ _ hi e, r⟩
  | .iobj C j, w1_, w2_, hr, h => by
    obtain ⟨i, hi, rfl⟩ := hr
    obtain ⟨x, dx, e, m, r⟩ := h
    exact ⟨x, dx, e, m, hx _ _ _ hi r⟩
theorem VRs.rn (hx : ∀ j i a : Nat, io[j]? = some i → al[i]? = some a → al1[j]? = some a) : ∀ {ss us : List SV} {xs : List Value}, RNs io ss us → VRs w Z al us xs → VRs w Z al1 ss xs
  | [], w1_, w2_, hr, h => by cases (hr : _ = _); exact h
  | s :: ss, w1_, w2_, hr, h => by
    obtain ⟨u, r, rfl, hr1, hr2⟩ := hr
    obtain ⟨v, r, e, h1, h2⟩ := h
    exact ⟨v, r, e, VR.rn hx hr1 h1, VRs.rn hx hr2 h2⟩
end
theorem OR.rn (hx : ∀ j i a : Nat, io[j]? = some i → al[i]? = some a → al1[j]? = some a) {so so' : SO} {o : Obj} (hr : RNO io so so') (h : OR w Z al so' o) : OR w Z al1 so o := by
  cases so with
  | list vs => obtain ⟨us, rfl, hr⟩ := hr; obtain ⟨xs, a, b⟩ := h; exact ⟨xs, a, b.rn hx hr⟩
  | dict ks vs => obtain ⟨us, rfl, hr⟩ := hr; obtain ⟨kvs, a, b, c⟩ := h; exact ⟨kvs, a, b, c.rn hx hr⟩
  | attrs ks vs => obtain ⟨us, rfl, hr⟩ := hr; obtain ⟨kvs, a, b, c⟩ := h; exact ⟨kvs, a, b, c.rn hx hr⟩
  | citer f e => obtain ⟨f', e', rfl, h1, h2⟩ := hr; obtain ⟨vf, ve, a, b, c⟩ := h; exact ⟨vf, ve, a, b.rn hx h1, c.rn hx h2⟩
  | gone => trivial
theorem LRN.get : ∀ {l l' : List (Option SV)}, LRN io l l' → ∀ {i : Nat} {sv : SV}, l[i]? = some (some sv) → ∃ u, l'[i]? = some (some u) ∧ RN io sv u
  | [], w1_, w2_, i, sv, e => by cases e
  | none :: r, w1_ :: r', h, i, sv, e => by
    cases i with
    | zero => cases e
    | succ i => exact LRN.get (l := r) (l' := r') h e
  | none :: r, [], h, i, sv, e => by
    cases i with
    | zero => cases e
    | succ i =>
      obtain ⟨u, q, _⟩ := LRN.get (l := r) (l' := []) h e
      cases q
  | some v :: r, some u :: r', h, i, sv, e => by
    cases i with
    | zero => cases e; exact ⟨u, rfl, h.1⟩
    | succ i => exact LRN.get (l := r) (l' := r') h.2 e
  | some v :: r, [], h, i, sv, e => h.elim
  | some v :: r, none :: r', h, i, sv, e => h.elim
theorem HRN.get {hp : List SO} : ∀ {is : List Nat} {os : List SO}, HRN io hp is os → os.length = is.length ∧ (∀ i ∈ is, ∃ o, hget hp i = some o) ∧ ∀ {j : Nat} {o : SO}, os[j]? = some o → ∃ i o', is[j]? = some i ∧ hget hp i = some o' ∧ RNO io o o'
  | [], w1_, h => by cases (h : _ = _); exact ⟨rfl, (fun u_ h => by cases h), (fun h => by cases h)⟩
  | i :: is, w1_, h => by
    obtain ⟨o, r, o', rfl, h1, h2, h3⟩ := h
    obtain ⟨a, b, c⟩ := HRN.get h3
    refine ⟨congrArg Nat.succ a, fun x hx => ?_, fun {j o2} e => ?_⟩
    · rcases List.mem_cons.mp hx with rfl | hx
      · exact ⟨o', h1⟩
      · exact b x hx
    · cases j with
      | zero => cases e; exact ⟨i, o', rfl, h1, h2⟩
      | succ j => exact c (j := j) e
end

section
variable {w : World} {hB : Heap} {c : Cx} {st st1 : St} {al : List Addr} {Z : Led} {s : Shared}
theorem SRel.weak (R : SRel w hB c st al Z s) (h : Wk c.pin st st1) : ∃ al1, PostS w hB c al Z s st1 al1 Z s := by
  cases h with
  | refl => exact ⟨al, PostS.refl R⟩
  | sel io st1 hn hp hl hh =>
    obtain ⟨len, has, getO⟩ := hh.get
    have inal : ∀ i ∈ io, al[i]? = some (al.getD i 0) := fun i hi => by
      obtain ⟨o, ho⟩ := has i hi
      have : i < al.length := by rw [R.len]; exact hget_lt ho
      rw [List.getD_eq_getElem?_getD, List.getElem?_eq_getElem this]; rfl
    have hx : ∀ j i a : Nat, io[j]? = some i → al[i]? = some a → (io.map fun i => al.getD i 0)[j]? = some a := fun j i a h1 h2 => by
      rw [List.getElem?_map, h1]
      have := inal i (List.mem_of_getElem? h1)
      rw [h2] at this
      simpa using this.symm
    have mem : ∀ a ∈ (io.map fun i => al.getD i 0), a ∈ al := fun a ha => by
      obtain ⟨i, hi, rfl⟩ := List.mem_map.mp ha
      exact List.mem_of_getElem? (inal i hi)
    have nd : (io.map fun i => al.getD i 0).Nodup := by
      refine List.pairwise_map.mpr (hn.imp_of_mem fun {x y} hx' hy' hxy e => hxy ?_)
      have e1 := inal x hx'
      have e2 := inal y hy'
      have l1 : x < al.length := by
        rcases Nat.lt_or_ge x al.length with q | q
        · exact q
        · rw [List.getElem?_eq_none q] at e1; cases e1
      exact (List.getElem?_inj l1 R.nodup).mp (by rw [e1, e2, e])
    have hlen : (io.map fun i => al.getD i 0).length = st1.heap.length := by rw [List.length_map, len]
    have pl : c.pin ≤ io.length := by
      have := congrArg List.length hp
      rw [List.length_take, List.length_range] at this
      omega
    have pinv : ∀ i, i < c.pin → io[i]? = some i := fun i hi => by
      have := congrArg (fun l => l[i]?) hp
      simp only [List.getElem?_take, if_pos hi] at this
      rw [this, List.getElem?_range hi]
    refine ⟨io.map fun i => al.getD i 0, { grd := R.grd, base := R.base, tab := R.tab, len := hlen, live := fun j so a e1 e2 => ?_, frz := R.frz, new := fun a ha => R.new a (mem a ha), nodup := nd, zap := fun p hp => ⟨fun hm => (R.zap p hp).1 (mem _ hm), (R.zap p hp).2⟩, nomod := ⟨fun a ha => R.nomod.1 a (mem a ha), R.nomod.2⟩, ok := R.ok, pinl := by rw [List.length_map]; exact pl, ns := ?_, cell := fun i x a h => ?_, own := fun a ha => ?_, ownz := R.ownz, capt := fun x a hx' => ?_ },
      fun i hi => ?_, fun u_ h => h, fun u_ u_ h u_ u_ => h, fun a ha => .inl (mem a ha), fun u_ h => .inl h, fun u_ o h => ⟨o, h⟩, rfl, rfl⟩
    · obtain ⟨i, o', h1, h2, h3⟩ := getO e1
      have ha : al[i]? = some a := by
        have := inal i (List.mem_of_getElem? h1)
        rw [List.getElem?_map, h1] at e2
        simp at e2
        rw [this]; simpa using e2
      obtain ⟨o, ho, r⟩ := R.live i o' a (hget_eq h2) ha
      exact ⟨o, ho, r.rn hx h3⟩
    · obtain ⟨m, hm, hv⟩ := R.ns
      refine ⟨m, hm, fun i x sv e1 e2 => ?_⟩
      obtain ⟨u, h1, h2⟩ := hl.get e2
      obtain ⟨v, h3, h4⟩ := hv i x u e1 h1
      exact ⟨v, h3, h4.rn hx h2⟩
    · obtain ⟨vo, hc, hv⟩ := R.cell i x a h
      refine ⟨vo, hc, fun sv e => ?_⟩
      obtain ⟨u, h1, h2⟩ := hl.get e
      obtain ⟨v, h3, h4⟩ := hv u h1
      exact ⟨v, h3, h4.rn hx h2⟩
    · obtain ⟨p1, p2, p3, p4⟩ := R.own a ha
      exact ⟨p1, p2, fun hm => p3 (mem _ hm), p4⟩
    · obtain ⟨p1, p2, p3⟩ := R.capt x a hx'
      exact ⟨p1, fun hm => p2 (mem _ hm), p3⟩
    · have hi' : i < al.length := Nat.lt_of_lt_of_le hi R.pinl
      rw [hx i i al[i] (pinv i hi) (List.getElem?_eq_getElem hi'), List.getElem?_eq_getElem hi']
end

section
variable {w : World} {hB : Heap} {c : Cx}
noncomputable def wWh (pin : Nat) (wt : T Bool) (wb : T AFl) (k : AFl → St → Prop) : Nat → St → Prop
  | 0, w1_ => False
  | n + 1, st => ∃ st1, Wk pin st st1 ∧ wt (fun b st => if b then wb (fun fl st => match fl with
      | .next => wWh pin wt wb k n st
      | .cont => wWh pin wt wb k n st
      | .brk => k .next st
      | .ret v => k (.ret v) st) st else k .next st) st1
noncomputable def wWhile (pin : Nat) (wt : T Bool) (wb : T AFl) : T AFl := fun k st => ∃ n, wWh pin wt wb k n st
theorem ex_while {t : PySem.Expr} {b : List PySem.Stmt} {pos : Pos} {pin : Nat} {wt : T Bool} {wb : T AFl} (hpin : c.pin = pin) (ht : TestsTo w hB c t wt) (hb : ExecsTo w hB c b wb) : ExecTo w hB c (.While t b [] pos) (wWhile pin wt wb) := by
  subst hpin
  intro st al Z s k R ⟨n, hw⟩
  refine wpAny_While (codeAny_whileLoop (fun n s' => ∃ st' al' Z', PostS w hB c al Z s st' al' Z' s' ∧ wWh c.pin wt wb k n st') (fun n s1 hI => ?_) n ⟨st, al, Z, PostS.refl R, hw⟩)
  obtain ⟨st0, al0, Z1, p0, h0⟩ := hI
  cases n with
  | zero => exact h0.elim
  | succ n =>
    obtain ⟨st1, hwk, h1⟩ := h0
    obtain ⟨al1, pw⟩ := p0.rel.weak hwk
    have p1 := p0.trans pw
    refine wpAny_mono (ht st1 al1 Z1 s1 _ p1.rel h1) (fun x s2 h => ?_) fun u_ u_ h => h.elim
    obtain ⟨st2, al2, Z2, x', p2, r2, hk2⟩ := h
    obtain rfl : x = x' := r2
    have p12 := p1.trans (p2.toS p1.rel.pinl)
    cases x with
    | false => exact wpAny_execs_nil (RetS.mk p12 FR.nx hk2)
    | true =>
      refine wpAny_mono (hb st2 al2 Z2 s2 _ p2.rel hk2) (fun f s3 h => ?_) fun u_ u_ h => h.elim
      obtain ⟨st3, al3, Z3, fl, p3, r3, hk3⟩ := h
      have p := p12.trans p3
      cases fl with
      | next => simp only [FR] at r3; subst r3; exact ⟨n, Nat.lt_succ_self _, st3, al3, Z3, p, hk3⟩
      | cont => simp only [FR] at r3; subst r3; exact ⟨n, Nat.lt_succ_self _, st3, al3, Z3, p, hk3⟩
      | brk => simp only [FR] at r3; subst r3; exact RetS.mk p FR.nx hk3
      | ret sv =>
        obtain ⟨v, rfl, r3⟩ := r3
        exact RetS.mk p (FR.re r3) hk3
end

section
variable {w : World} {hB : Heap} {c : Cx}

noncomputable def wI2 (f : Int → Int → Int) (a b : SV) : T SV := fun k st => asInt a (fun x => asInt b (fun y => k (.int (f x y)) st) False) False
noncomputable def wI2c (f : Int → Int → Int) (g : Int → Int → Prop) (a b : SV) : T SV := fun k st => asInt a (fun x => asInt b (fun y => g x y ∧ k (.int (f x y)) st) False) False
noncomputable def wC2 (f : Int → Int → Bool) (a b : SV) : T SV := fun k st => asInt a (fun x => asInt b (fun y => k (.bool (f x y)) st) False) False

theorem opI2 {t : Value → Value → Sem Value} {f : Int → Int → Int} (h : ∀ {A : Around} {E : Value → Shared → Prop} {s : Shared} {a b : Int} {t1 u : Tok} {Q : Value → Shared → Prop}, Q (.int (f a b) s.toks) { s with toks := s.toks + 1 } → wpAny (model P w) A (t (.int a t1) (.int b u)) Q E s) :
    Op2 w hB c (VR w) t (wI2 f) := by
  intro st al Z s k a va b vb R ra rb hw
  obtain ⟨x, t1, hw_1⟩ := asInt.v hw ra
  obtain ⟨y, t2, hw_2⟩ := asInt.v hw_1 rb
  exact h (Ret.toks R _ (vInt _ _) hw_2)
theorem opI2c {t : Value → Value → Sem Value} {f : Int → Int → Int} {g : Int → Int → Prop} (h : ∀ {A : Around} {E : Value → Shared → Prop} {s : Shared} {a b : Int} {t1 u : Tok} {Q : Value → Shared → Prop}, g a b → Q (.int (f a b) s.toks) { s with toks := s.toks + 1 } → wpAny (model P w) A (t (.int a t1) (.int b u)) Q E s) :
    Op2 w hB c (VR w) t (wI2c f g) := by
  intro st al Z s k a va b vb R ra rb hw
  obtain ⟨x, t1, hw_1⟩ := asInt.v hw ra
  obtain ⟨y, t2, hw_2⟩ := asInt.v hw_1 rb
  exact h hw_2.1 (Ret.toks R _ (vInt _ _) hw_2.2)
theorem opC2 {t : Value → Value → Sem Value} {f : Int → Int → Bool} (h : ∀ {A : Around} {E : Value → Shared → Prop} {s : Shared} {a b : Int} {t1 u : Tok} {Q : Value → Shared → Prop}, Q (.bool (f a b)) s → wpAny (model P w) A (t (.int a t1) (.int b u)) Q E s) :
    Op2 w hB c (VR w) t (wC2 f) := by
  intro st al Z s k a va b vb R ra rb hw
  obtain ⟨x, t1, hw_1⟩ := asInt.v hw ra
  obtain ⟨y, t2, hw_2⟩ := asInt.v hw_1 rb
  exact h (Ret.here R (vBool _) hw_2)

theorem o_add : Op2 w hB c (VR w) (binaryOp .Add) (wI2 (· + ·)) := opI2 (fun h => PyProof.Rows.add_int h)
theorem o_iadd : Op2 w hB c (VR w) (inplaceOp .Add) (wI2 (· + ·)) := opI2 (fun h => PyProof.Rows.iadd_int h)
theorem o_sub : Op2 w hB c (VR w) (binaryOp .Sub) (wI2 (· - ·)) := opI2 (fun h => PyProof.Rows.sub_int h)
theorem o_mul : Op2 w hB c (VR w) (binaryOp .Mult) (wI2c (· * ·) (fun x u_ => -1152921504606846976 ≤ x ∧ x ≤ 1152921504606846976)) :=
  opI2c (fun g h => PyProof.Rows.mul_int h (IntMulOk.of_left (intBits_le_64 (by omega) (by omega))))
theorem o_div : Op2 w hB c (VR w) (binaryOp .FloorDiv) (wI2c (· / ·) (fun u_ y => 0 < y ∧ y < 1000000000)) :=
  opI2c (fun g h => PyProof.Rows.floordiv_int (by omega) (by rw [Int.fdiv_eq_ediv_of_nonneg _ (by omega)]; exact h) (.inl (PyProof.noPylong_small (by omega))))
theorem o_mod : Op2 w hB c (VR w) (binaryOp .Mod) (wI2c (· % ·) (fun u_ y => 0 < y)) :=
  opI2c (fun g h => PyProof.Rows.mod_int' (by omega) (by rw [Int.fmod_eq_emod_of_nonneg _ (by omega)]; exact h))
theorem o_pow : Op2 w hB c (VR w) (binaryOp .Pow) (wI2c (fun x y => x ^ y.toNat) (fun x y => (0 ≤ x ∧ x ≤ 1000000) ∧ 0 ≤ y ∧ y ≤ 1000)) :=
  opI2c (fun g h => PyProof.Rows.pow_int_small (by omega) (by omega) (by omega) h)
theorem o_lt : Op2 w hB c (VR w) (compareOp .Lt) (wC2 fun a b => decide (a < b)) := opC2 (fun h => PyProof.Rows.lt_int h)
theorem o_gt : Op2 w hB c (VR w) (compareOp .Gt) (wC2 fun a b => decide (b < a)) := opC2 (fun h => PyProof.Rows.gt_int h)
theorem o_ge : Op2 w hB c (VR w) (compareOp .GtE) (wC2 fun a b => decide (b ≤ a)) := opC2 (fun h => PyProof.Rows.ge_int h)
theorem o_le : Op2 w hB c (VR w) (compareOp .LtE) (wC2 fun a b => decide (a ≤ b)) := opC2 (fun h => PyProof.Rows.le_int h)
theorem o_eq : Op2 w hB c (VR w) (compareOp .Eq) (wC2 fun a b => a == b) := opC2 (fun h => PyProof.Rows.eq_int h)
theorem o_ne : Op2 w hB c (VR w) (compareOp .NotEq) (wC2 fun a b => a != b) := opC2 (fun h => PyProof.Rows.ne_int h)
noncomputable def wNeg (a : SV) : T SV := fun k st => asInt a (fun x => k (.int (-x)) st) False
theorem o_neg : Op1 w hB c (VR w) (unaryOp .USub) wNeg := by
  intro st al Z s k a va R ra hw
  obtain ⟨x, t1, hw_1⟩ := asInt.v hw ra
  exact PyProof.Rows.neg_int (Ret.toks R _ (vInt _ _) hw_1)

theorem S_append (x y : Cs) : S x ++ S y = S (x ++ y) := by
  show (⟨x.toArray ++ y.toArray⟩ : Str) = ⟨(x ++ y).toArray⟩
  simp
theorem S_length (x : Cs) : (S x).length = x.length := by simp [S, Str.length]
theorem S_list (x : Cs) : (S x).cps.toList = x := by simp [S]
noncomputable def wS2 (f : Cs → Cs → Bool) (a b : SV) : T SV := fun k st => asStr a (fun x => asStr b (fun y => k (.bool (f x y)) st) False) False
theorem opS2 {t : Value → Value → Sem Value} {f : Cs → Cs → Bool} (h : ∀ {A : Around} {E : Value → Shared → Prop} {s : Shared} {a b : Cs} {t1 u : Tok} {Q : Value → Shared → Prop}, Q (.bool (f a b)) s → wpAny (model P w) A (t (.str (S a) t1) (.str (S b) u)) Q E s) :
    Op2 w hB c (VR w) t (wS2 f) := by
  intro st al Z s k a va b vb R ra rb hw
  obtain ⟨x, t1, hw_1⟩ := asStr.v hw ra
  obtain ⟨y, t2, hw_2⟩ := asStr.v hw_1 rb
  exact h (Ret.here R (vBool _) hw_2)
theorem o_seq : Op2 w hB c (VR w) (compareOp .Eq) (wS2 fun a b => a == b) := opS2 (fun h => PySem.P.eq_str (by rw [S_list, S_list]; exact h))
theorem o_sne : Op2 w hB c (VR w) (compareOp .NotEq) (wS2 fun a b => a != b) := opS2 (fun h => PySem.P.ne_str (by rw [S_list, S_list]; exact h))
noncomputable def wCat (a b : SV) : T SV := fun k st => asStr a (fun x => asStr b (fun y => x.length + y.length ≤ 10000000 ∧ k (.str (x ++ y)) st) False) False
theorem cat_post {x y : Cs} {t u : Tok} {s : Shared} {Q : Value → Shared → Prop} (hl : x.length + y.length ≤ 10000000) (h : ∀ tk tk', Q (.str (S (x ++ y)) tk) { s with toks := tk' }) :
    (if (S x).length == 0 then Made.val (.str (S y) u) else if (S y).length == 0 then Made.val (.str (S x) t) else Made.str (S x ++ S y)).post Q s := by
  rw [S_length, S_length]
  by_cases h1 : x.length = 0
  · rw [if_pos (by simp [h1])]
    have : x = [] := List.length_eq_zero_iff.mp h1
    subst this
    exact h u s.toks
  · rw [if_neg (by simpa using h1)]
    by_cases h2 : y.length = 0
    · rw [if_pos (by simp [h2])]
      have : y = [] := List.length_eq_zero_iff.mp h2
      subst this
      have := h t s.toks
      rw [List.append_nil] at this
      exact this
    · rw [if_neg (by simpa using h2), S_append]
      exact ⟨by rw [S_length, sizeLine_eq, List.length_append]; omega, h _ _⟩
theorem o_cat : Op2 w hB c (VR w) (binaryOp .Add) wCat := by
  intro st al Z s k a va b vb R ra rb hw
  obtain ⟨x, t1, hw_1⟩ := asStr.v hw ra
  obtain ⟨y, t2, hw_2⟩ := asStr.v hw_1 rb
  exact PySem.P.add_str (cat_post hw_2.1 fun tk tk' => Ret.toks R _ (vStr _ _) hw_2.2)
theorem o_icat : Op2 w hB c (VR w) (inplaceOp .Add) wCat := by
  intro st al Z s k a va b vb R ra rb hw
  obtain ⟨x, t1, hw_1⟩ := asStr.v hw ra
  obtain ⟨y, t2, hw_2⟩ := asStr.v hw_1 rb
  exact PySem.P.iadd_str (cat_post hw_2.1 fun tk tk' => Ret.toks R _ (vStr _ _) hw_2.2)
noncomputable def wIn1 (a b : SV) : T SV := fun k st => asStr a (fun z => one z (fun x => asStr b (fun y => k (.bool (decide (x ∈ y))) st) False) False) False
theorem o_in1 : Op2 w hB c (VR w) (compareOp .In) wIn1 := by
  intro st al Z s k a va b vb R ra rb hw
  obtain ⟨_, t1, hw_1⟩ := asStr.v hw ra
  obtain ⟨x, hw_2⟩ := one.get hw_1
  obtain ⟨y, t2, hw_3⟩ := asStr.v hw_2 rb
  refine PySem.P.in_str ?_
  have := StrLaws.found_one (S y) x
  rw [S_list] at this
  have e : S [x] = ⟨#[x]⟩ := rfl
  rw [e, this]
  exact Ret.here R (vBool _) hw_3
noncomputable def wLtP (a b : SV) : T SV := fun k st => asInt a (fun x => asInt b (fun y => k (.bool (decide (x < y))) st) False) (asStr a (fun x => asStr b (fun y => k (.bool (decide (x < y))) st) False) False)
noncomputable def wGtP (a b : SV) : T SV := fun k st => asInt a (fun x => asInt b (fun y => k (.bool (decide (y < x))) st) False) (asStr a (fun x => asStr b (fun y => k (.bool (decide (y < x))) st) False) False)
theorem o_ltP : Op2 w hB c (VR w) (compareOp .Lt) wLtP := by
  intro st al Z s k a va b vb R ra rb hw
  rcases asInt.or hw ra with ⟨x, t1, hw_1⟩ | hw_1
  · obtain ⟨y, t2, hw_2⟩ := asInt.v hw_1 rb
    exact PyProof.Rows.lt_int (Ret.here R (vBool _) hw_2)
  · obtain ⟨x, t1, hw_2⟩ := asStr.v hw_1 ra
    obtain ⟨y, t2, hw_3⟩ := asStr.v hw_2 rb
    refine PySem.P.lt_str ?_
    rw [S_list, S_list]
    exact Ret.here R (vBool _) hw_3
theorem o_gtP : Op2 w hB c (VR w) (compareOp .Gt) wGtP := by
  intro st al Z s k a va b vb R ra rb hw
  rcases asInt.or hw ra with ⟨x, t1, hw_1⟩ | hw_1
  · obtain ⟨y, t2, hw_2⟩ := asInt.v hw_1 rb
    exact PyProof.Rows.gt_int (Ret.here R (vBool _) hw_2)
  · obtain ⟨x, t1, hw_2⟩ := asStr.v hw_1 ra
    obtain ⟨y, t2, hw_3⟩ := asStr.v hw_2 rb
    refine PySem.P.gt_str ?_
    rw [S_list, S_list]
    exact Ret.here R (vBool _) hw_3
end

noncomputable def soList : Option SO → Option (List SV)
  | some (.list vs) => some vs
  | _ => none
theorem soList_eq {o : Option SO} {vs : List SV} (h : soList o = some vs) : o = some (.list vs) := by
  rcases o with _ | o
  · cases h
  · cases o with
    | list us => cases h; rfl
    | _ => cases h
noncomputable def lstOf (st : St) : SV → Option (List SV)
  | .list vs => some vs
  | .obj i => soList (hget st.heap i)
  | _ => none
noncomputable def tupOf : SV → Option (List SV)
  | .tup vs => some vs
  | _ => none
theorem tupOf_eq {v : SV} {vs : List SV} (h : tupOf v = some vs) : v = .tup vs := by
  cases v with
  | tup us => cases h; rfl
  | _ => cases h

section
variable {w : World} {hB : Heap} {c : Cx} {st : St} {al : List Addr} {Z : Led} {s : Shared}

theorem lst_at (R : SRel w hB c st al Z s) {a : SV} {va : Value} (r : VR w Z al a va) {vs : List SV} (h : lstOf st a = some vs) :
    ∃ l xs n, va = .ref l ∧ IsL s.heap l xs.toArray n ∧ VRs w Z al vs xs := by
  cases a with
  | list us =>
    cases h
    obtain ⟨l, o, xs, rfl, hz, ⟨n, rfl⟩, rr⟩ := r
    exact ⟨l, xs, n, rfl, R.frz _ hz, rr⟩
  | obj i =>
    obtain ⟨l, hl, rfl⟩ := r
    obtain ⟨o, ho, xs, ⟨n, rfl⟩, rr⟩ := R.live i _ l (hget_eq (soList_eq h)) hl
    exact ⟨l, xs, n, rfl, ho, rr⟩
  | _ => cases h
theorem tup_at (R : SRel w hB c st al Z s) {vs : List SV} {va : Value} (r : VR w Z al (.tup vs) va) : ∃ l xs n, va = .ref l ∧ IsT s.heap l xs.toArray n ∧ VRs w Z al vs xs := by
  obtain ⟨l, o, xs, rfl, hz, ⟨n, rfl⟩, rr⟩ := r
  exact ⟨l, xs, n, rfl, R.frz _ hz, rr⟩
end

section
variable (w : World) (hB : Heap) (c : Cx)
noncomputable def GetOp (wo : SV → SV → T SV) : Prop := ∀ st al Z s k a va b vb, SRel w hB c st al Z s → VR w Z al a va → VR w Z al b vb → wo a b k st →
  ∃ T id, s.TypeIs va T ∧ typeLookup (.type T) "__getitem__" = pure (some (.builtin id)) ∧ WP w c.A (getItem va vb) (Ret w hB c al Z s (VR w) k) s
end
section
variable {w : World} {hB : Heap} {c : Cx}
theorem ev_sub {v i : PySem.Expr} {pos : Pos} {wv wi : T SV} {wo : SV → SV → T SV} (hv : EvalsTo w hB c v wv) (hi : EvalsTo w hB c i wi) (ho : GetOp w hB c wo)
    (hs : autoParam (∀ o i', subscripted i false o i' = operate [o, i'] (getItem o i')) aIRfl) : EvalsTo w hB c (.Subscript v i pos) (fun k => wv fun a => wi fun b => wo a b k) := by
  intro st al Z s k R hw
  refine Subscript_ (wpAny_mono (hv st al Z s _ R hw) (fun va s1 h1 => ?_) fun u_ u_ h => h)
  obtain ⟨st1, al1, Z1, a, p1, r1, hk1⟩ := h1
  refine wpAny_mono (hi st1 al1 Z1 s1 _ p1.rel hk1) (fun vb s2 h2 => ?_) fun u_ u_ h => h
  obtain ⟨st2, al2, Z2, b, p2, r2, hk2⟩ := h2
  obtain ⟨T, id, hT, hl, hg⟩ := ho st2 al2 Z2 s2 k a va b vb p2.rel (r1.mono p2.sub p2.pre) r2 hk2
  exact (p1.trans p2).lift (tail_any hT hl hg (hs va vb))

noncomputable def nth : List SV → Nat → Option SV
  | [], w1_ => none
  | x :: w1_, 0 => some x
  | w1_ :: l, n + 1 => nth l n
theorem nth_eq : ∀ (l : List SV) (n : Nat), nth l n = l[n]?
  | [], n => by simp [nth]
  | x :: w1_, 0 => by simp [nth]
  | w1_ :: l, n + 1 => by simpa [nth] using nth_eq l n

noncomputable def wItemL (a b : SV) : T SV := fun k st => on1 (lstOf st a) (fun vs => asInt b (fun i => (0 ≤ i ∧ i < 1000000) ∧ on1 (nth vs i.toNat) (fun v => k v st) False) False) False
theorem g_list : GetOp w hB c wItemL := by
  intro st al Z s k a va b vb R ra rb hw
  obtain ⟨vs, e1, hw_1⟩ := on1.get hw
  obtain ⟨i, t, hw_2⟩ := asInt.v hw_1 rb
  obtain ⟨l, xs, n, rfl, hl, rr⟩ := lst_at R ra e1
  obtain ⟨⟨h0, h1⟩, hw_2⟩ := hw_2
  obtain ⟨v, e, hw_3⟩ := on1.get hw_2
  obtain ⟨x, hx, rx⟩ := rr.get (nth_eq .. ▸ e)
  exact ⟨"list", _, hl.isList.typeIs, slot_list_getitem.lookup, wpAny_getItem_list hl.isList h0 (by omega) (by simpa using hx) (Ret.here R rx hw_3)⟩
theorem isTup_of {h : Heap} {t : Addr} {xs : Array Value} {n : Nat} (x : IsT h t xs n) : IsTup h t xs := ⟨_, x, rfl, n, rfl⟩
theorem get_lt {α : Type} {xs : List α} {n : Nat} {x : α} (h : xs[n]? = some x) : n < xs.length := (List.getElem?_eq_some_iff.mp h).1
theorem g_tup {st : St} {al : List Addr} {Z : Led} {s : Shared} {k : SV → St → Prop} {vs : List SV} {i : Int} {t : Tok} {va : Value} (R : SRel w hB c st al Z s) (ra : VR w Z al (.tup vs) va) (h0 : 0 ≤ i) (h1 : i < 1000000) (hw : on1 (nth vs i.toNat) (fun v => k v st) False) :
    ∃ T id, s.TypeIs va T ∧ typeLookup (.type T) "__getitem__" = pure (some (.builtin id)) ∧ WP w c.A (getItem va (.int i t)) (Ret w hB c al Z s (VR w) k) s := by
  obtain ⟨l, xs, n, rfl, hl, rr⟩ := tup_at R ra
  obtain ⟨v, e, hw_1⟩ := on1.get hw
  obtain ⟨x, hx, rx⟩ := rr.get (nth_eq .. ▸ e)
  have hlt := get_lt hx
  exact ⟨"tuple", _, (isTup_of hl).typeIs, slot_tuple_getitem.lookup, PyProof.Rows.getItem_tuple (isTup_of hl) (by omega) (by omega) (seqIndex_of h0 (by simp; omega)) (by simpa using hx) (Ret.here R rx hw_1)⟩
theorem g_str {st : St} {al : List Addr} {Z : Led} {s : Shared} {k : SV → St → Prop} {x : Cs} {i : Int} {t t' : Tok} (R : SRel w hB c st al Z s) (h0 : 0 ≤ i) (h1 : i < 1000000) (hw : on1 x[i.toNat]? (fun v => k (.str [v]) st) False) :
    ∃ T id, s.TypeIs (.str (S x) t') T ∧ typeLookup (.type T) "__getitem__" = pure (some (.builtin id)) ∧ WP w c.A (getItem (.str (S x) t') (.int i t)) (Ret w hB c al Z s (VR w) k) s := by
  obtain ⟨v, e, hw_1⟩ := on1.get hw
  have hlt := get_lt e
  refine ⟨"str", _, typeIs_str s _ _, F.slot_str_getitem.lookup, PySem.P.getItem_str (c := v) ?_ ?_ (Ret.toks R _ (vStr _ _) hw_1)⟩
  · rw [decide_eq_false (by omega), decide_eq_false (by omega)]; rfl
  · rw [S_length, seqIndex_of h0 (by omega)]
    simpa [S] using e

theorem evArgs {M : Model} {A : Around} {E : Value → Shared → Prop} {s : Shared} {f : Value} {args : List (Bool × Sem Value)} {Q : Args → Shared → Prop} (hp : args.any (·.1) = false)
    (h : wpAny M A (spliced args) (fun vs s₁ => Q ⟨vs, []⟩ s₁) E s) : wpAny M A (evalArgs f true args []) Q E s := by
  cases args with
  | nil =>
    unfold evalArgs
    exact wpAny_bind (wpAny_mono h (fun vs s1 h1 => wpAny_bind (wpAny_pure (wpAny_holding (wpAny_bind (wpAny_pure (wpAny_bind (wpAny_pure (wpAny_pure h1)))))))) fun u_ u_ x => x)
  | cons p r =>
    obtain ⟨b, x⟩ := p
    cases b with
    | true => simp at hp
    | false => exact evalArgs_plain h
theorem cwAny {M : Model} {A : Around} {E : Value → Shared → Prop} {s : Shared} {pos : Pos} {f : Value} {first : List Value} {args : List (Bool × Sem Value)} {Q : Value → Shared → Prop}
    (hp : args.any (·.1) = false) (hl : args.length ≤ 30)
    (h : wpAny M A (spliced args) (fun vs s₁ => wpAny M A (keeperOf f) (fun q s₂ => (q = .frame ∨ q = .machine) ∧ wpAny M A (call f (first ++ vs)) Q E s₂) E s₁) E s) :
    wpAny M A (callWith pos f first args []) Q E s := by
  unfold callWith
  refine wpAny_bind (wpAny_holding (evArgs hp (wpAny_mono h (fun vs s1 h1 => wpAny_bind (wpAny_standAt ?_)) fun u_ u_ x => x)))
  simp only [hp, List.any_nil, Bool.or_false]
  refine wpAny_bind (wpAny_mono h1 (fun q s2 h2 => ?_) fun u_ u_ x => x)
  have tail : ∀ {t : Sem Value}, wpAny M A t Q E s2 → wpAny M A (t >>= fun r => holding [r] point >>= fun u_ => pure r) Q E s2 :=
    fun ht => wpAny_bind (wpAny_mono ht (fun r s₂ hr => wpAny_bind (wpAny_holding (wpAny_point (wpAny_pure hr)))) fun u_ u_ x => x)
  obtain ⟨hq, hc⟩ := h2
  rcases hq with rfl | rfl
  · dsimp only
    rw [if_neg (by simp; omega)]
    exact tail (by unfold callMarked; exact Calls.wpAny_keep hc)
  · exact tail hc
theorem keep_builtin {M : Model} {A : Around} {E : Value → Shared → Prop} {s : Shared} {f : Value} {Q : Keeper → Shared → Prop} (hf : ∀ a, f ≠ .ref a) (h : Q .machine s) : wpAny M A (keeperOf f) Q E s := by
  unfold keeperOf
  cases f <;> first | exact wpAny_pure h | exact absurd rfl (hf _)
theorem keep_fn {M : Model} {A : Around} {E : Value → Shared → Prop} {s : Shared} {f : Addr} {o : Obj} {fd : FuncData} {Q : Keeper → Shared → Prop} (ho : s.heap.get? f = some o) (hd : o.data = .func fd) (h : Q .frame s) : wpAny M A (keeperOf (.ref f)) Q E s := by
  unfold keeperOf
  refine wpAny_bind (wpAny_load ho ?_)
  rw [hd]
  exact wpAny_pure h
theorem keep_cls {M : Model} {A : Around} {E : Value → Shared → Prop} {s : Shared} {C : Addr} {Q : Keeper → Shared → Prop} (Y : Makes M s.heap C) (h : Q .machine s) : wpAny M A (keeperOf (.ref C)) Q E s := by
  obtain ⟨⟨oc, od, cd, sl, hC, e1, e2, e4⟩, made, base, self, top, call, typ⟩ := Y
  unfold keeperOf
  refine wpAny_bind (wpAny_load hC ?_)
  dsimp only
  exact wpAny_bind (call.here (wpAny_pure h))
noncomputable def CallOp (w : World) (hB : Heap) (c : Cx) (f : Value) (wo : List SV → T SV) : Prop :=
  ∀ st al Z s k as vs, SRel w hB c st al Z s → VRs w Z al as vs → wo as k st →
    (∀ {Q : Keeper → Shared → Prop}, (∀ q, (q = .frame ∨ q = .machine) → Q q s) → WP w c.A (keeperOf f) Q s) ∧ WP w c.A (call f vs) (Ret w hB c al Z s (VR w) k) s
noncomputable def wCallG (f : Value) (we : T SV) (wa : T (List SV)) (wo : List SV → T SV) : T SV := fun k => we fun g st => g = .gl f ∧ wa (fun as => wo as k) st
theorem ev_call {fe : PySem.Expr} {es : List PySem.Expr} {pos : Pos} {f : Value} {wa : T (List SV)} {wo : List SV → T SV} (hf : EvalsTo w hB c fe (wConst (.gl f))) (ha : ListsTo w hB c pos es wa) (ho : CallOp w hB c f wo)
    (hp : autoParam ((backTo pos (starEach es c.env)).any (·.1) = false) aRfl) (hl : (backTo pos (starEach es c.env)).length ≤ 30 := by exact Nat.le_of_ble_eq_true rfl)
    (he : autoParam (eval (.Call fe es [] pos) c.env = (do callWith pos (← eval fe c.env) [] (backTo pos (starEach es c.env)) (backToKw pos (keywordEach [] c.env)))) aRfl) :
    EvalsTo w hB c (.Call fe es [] pos) (fun k => wa fun as => wo as k) := by
  intro st al Z s k R hw
  refine Call_ (wpAny_mono (hf st al Z s (fun sv st' => sv = .gl f ∧ wa (fun as => wo as k) st') R ⟨rfl, hw⟩) (fun vf s1 h1 => ?_) fun u_ u_ h => h) he
  obtain ⟨st1, al1, Z1, g, p1, r1, rfl, hk1⟩ := h1
  cases (r1 : _ = _)
  refine cwAny hp hl (wpAny_mono (ha st1 al1 Z1 s1 _ p1.rel hk1) (fun vs s2 h2 => ?_) fun u_ u_ h => h)
  obtain ⟨st2, al2, Z2, as, p2, r2, hk2⟩ := h2
  obtain ⟨hkp, hc⟩ := ho st2 al2 Z2 s2 k as vs p2.rel r2 hk2
  exact hkp fun q hq => ⟨hq, (p1.trans p2).lift hc⟩
end

section
variable (w : World) (hB : Heap) (c : Cx)
noncomputable def Finds (name : Str) (f : Value) (ok : SV → St → Prop) : Prop :=
  ∀ st al Z s a va, SRel w hB c st al Z s → VR w Z al a va → ok a st → ∀ (pl : Sem Bool) (Q : Value × List Value → Shared → Prop), Q (f, [va]) s → WP w c.A (getMethod va name pl) Q s
end

section
variable {w : World} {hB : Heap} {c : Cx}
theorem ev_meth {o : PySem.Expr} {name : Str} {apos pos : Pos} {es : List PySem.Expr} {f : Value} {ok : SV → St → Prop} {wo : T SV} {wa : T (List SV)} {wop : List SV → T SV} {pl : Sem Bool}
    (hO : EvalsTo w hB c o wo) (hA : ListsTo w hB c pos es wa) (hF : Finds w hB c name f ok) (hC : CallOp w hB c f wop)
    (hp : autoParam ((backTo pos (starEach es c.env)).any (·.1) = false) aRfl) (hl : (backTo pos (starEach es c.env)).length ≤ 30 := by exact Nat.le_of_ble_eq_true rfl)
    (he : autoParam (eval (.Call (.Attribute o name apos) es [] pos) c.env = (do
      let ov ← eval o c.env
      standAt apos.atName
      let (f, first) ← holding [ov] (getMethod ov name pl)
      callWith pos f first (backTo pos (starEach es c.env)) [])) aRfl) :
    EvalsTo w hB c (.Call (.Attribute o name apos) es [] pos) (fun k => wo fun a st => ok a st ∧ wa (fun as => wop (a :: as) k) st) := by
  intro st al Z s k R hw
  refine MethodCall_ (pl := pl) (wpAny_mono (hO st al Z s _ R hw) (fun va s1 h1 => ?_) fun u_ u_ h => h) he
  obtain ⟨st1, al1, Z1, a, p1, r1, hok, hk1⟩ := h1
  refine hF st1 al1 Z1 s1 a va p1.rel r1 hok pl _ ?_
  refine cwAny hp hl (wpAny_mono (hA st1 al1 Z1 s1 _ p1.rel hk1) (fun vs s2 h2 => ?_) fun u_ u_ h => h)
  obtain ⟨st2, al2, Z2, as, p2, r2, hk2⟩ := h2
  obtain ⟨hkp, hc⟩ := hC st2 al2 Z2 s2 k (a :: as) (va :: vs) p2.rel (by exact ⟨va, vs, rfl, r1.mono p2.sub p2.pre, r2⟩) hk2
  exact hkp fun q hq => ⟨hq, (p1.trans p2).lift hc⟩

noncomputable def isLst (a : SV) (st : St) : Prop := (lstOf st a).isSome = true
noncomputable def isStr (a : SV) (_ : St) : Prop := a.str?.isSome = true
theorem f_list {name : Str} {id : String} (slot : Slot "list" name id) (hty : typeOf (.builtin id) = pure (.type "method_descriptor")) : Finds w hB c name (.builtin id) isLst := by
  intro st al Z s a va R r hok pl Q hq
  obtain ⟨vs, hv⟩ := Option.isSome_iff_exists.mp hok
  obtain ⟨l, xs, n, rfl, hl, _⟩ := lst_at R r hv
  exact getMethod_list_of slot hty hl.isList ⟨_, hl, rfl⟩ hq

theorem blt_keep {id : String} {st : St} {al : List Addr} {Z : Led} {s : Shared} (_ : SRel w hB c st al Z s) {Q : Keeper → Shared → Prop} (h : ∀ q, (q = .frame ∨ q = .machine) → Q q s) : WP w c.A (keeperOf (.builtin id)) Q s :=
  keep_builtin (fun u_ e => by cases e) (h _ (.inr rfl))
theorem typ_keep {id : String} {st : St} {al : List Addr} {Z : Led} {s : Shared} (_ : SRel w hB c st al Z s) {Q : Keeper → Shared → Prop} (h : ∀ q, (q = .frame ∨ q = .machine) → Q q s) : WP w c.A (keeperOf (.type id)) Q s :=
  keep_builtin (fun u_ e => by cases e) (h _ (.inr rfl))

theorem isL_upd {h : Heap} {l : Addr} {xs : List Value} {n : Nat} (x : IsL h l xs.toArray n) (f : Array Value → Array Value) {ys : List Value} (hf : f xs.toArray = ys.toArray) :
    ∃ n', (h.update l (Obj.mapSeq f)).get? l = some { cls := .type "list", data := .seq ys.toArray n' } := by
  refine ⟨if (f xs.toArray).size == xs.toArray.size then n else n + 1, ?_⟩
  rw [Heap.get?_update_self _ x rfl, ← hf]
  rfl

noncomputable def wAppend : List SV → T SV := fun as k st => args2 as fun a v => asObj a fun i => onL (hget st.heap i) fun vs => vs.length ≤ 100000 ∧ k .none (st.setH i (.list (vs ++ [v])))
theorem c_append : CallOp w hB c (.builtin "list.append") wAppend := by
  intro st al Z s k as vs R r hw
  refine ⟨blt_keep R, ?_⟩
  obtain ⟨_, v, _, vb, ra, rb, hw_1⟩ := args2.v hw r
  obtain ⟨i, l, hl, hw_2⟩ := asObj.v hw_1 ra
  · · obtain ⟨us, e, hw_3⟩ := onL.get hw_2
      obtain ⟨o, ho, xs, ⟨n, rfl⟩, rr⟩ := R.live i _ l (hget_eq e) hl
      refine call_meets PySem.F.slot_list_append ⟨_, ho, rfl⟩ PySem.F.entry_list_append (PySem.F.args_list_append_2 _ _) (list_append l xs.toArray n vb (by rw [List.size_toArray, rr.length, sizeLine_eq]; have := hw_3.1; omega)) ⟨ho, ?_⟩
      obtain ⟨n', hn⟩ := isL_upd ho (fun x => x.push vb) (ys := xs ++ [vb]) (by simp)
      exact Ret.mk (Post.updL R (so' := .list (us ++ [v])) (hget_lt e) hl (Heap.SameBut.update ..) hn ⟨_, ⟨n', rfl⟩, rr.append (VRs.one rb)⟩) vNone hw_3.2
noncomputable def wInsert : List SV → T SV := fun as k st => args3 as fun a b v => asObj a fun i => asInt b (fun z => onL (hget st.heap i) fun vs => vs.length ≤ 100000 ∧ (0 ≤ z ∧ z ≤ (vs.length : Int)) ∧ k .none (st.setH i (.list (vs.take z.toNat ++ v :: vs.drop z.toNat)))) False
theorem c_insert : CallOp w hB c (.builtin "list.insert") wInsert := by
  intro st al Z s k as vs R r hw
  refine ⟨blt_keep R, ?_⟩
  obtain ⟨_, _, v, _, _, vc, ra, rb, rc, hw_1⟩ := args3.v hw r
  obtain ⟨i, l, hl, hw_2⟩ := asObj.v hw_1 ra
  obtain ⟨z, t, hw_3⟩ := asInt.v hw_2 rb
  · · obtain ⟨us, e, hw_4⟩ := onL.get hw_3
      obtain ⟨o, ho, xs, ⟨n, rfl⟩, rr⟩ := R.live i _ l (hget_eq e) hl
      obtain ⟨h1, ⟨h2, h3⟩, hw_4⟩ := hw_4
      have hxl := rr.length
      refine call_meets PySem.F.slot_list_insert ⟨_, ho, rfl⟩ PySem.F.entry_list_insert (PySem.F.args_list_insert_3 _ _ _) (AutoSeq1.list_insert_list_int_val_1 l xs.toArray n z t vc (by rw [fitsIndex_of h2 (by omega)]; decide) (by rw [List.size_toArray, hxl, sizeLine_eq]; omega)) ⟨ho, ?_⟩
      obtain ⟨n', hn⟩ := isL_upd ho (fun xs => have k := if z < 0 then (z + (xs.size : Int)).toNat else min z.toNat xs.size; (xs.extract 0 k).push vc ++ xs.extract k) (ys := xs.take z.toNat ++ vc :: xs.drop z.toNat) (by
        dsimp only
        rw [if_neg (by omega), Nat.min_eq_left (by rw [List.size_toArray]; omega)]
        apply Array.toList_inj.mp
        simp
        exact List.take_of_length_le (by simp))
      exact Ret.mk (Post.updL R (so' := .list (us.take z.toNat ++ v :: us.drop z.toNat)) (hget_lt e) hl (Heap.SameBut.update ..) hn ⟨_, ⟨n', rfl⟩, (rr.take _).append (by exact ⟨vc, _, rfl, rc, rr.drop _⟩)⟩) vNone hw_4
noncomputable def wPop0 : List SV → T SV := fun as k st => args2 as fun a b => asObj a fun i => asInt b (fun z => onL (hget st.heap i) fun us => match us with
    | v :: vs => vs.length ≤ 100000 ∧ z = 0 ∧ k v (st.setH i (.list vs))
    | [] => False) False
theorem c_pop0 : CallOp w hB c (.builtin "list.pop") wPop0 := by
  intro st al Z s k as vs R r hw
  refine ⟨blt_keep R, ?_⟩
  obtain ⟨_, _, _, _, ra, rb, hw_1⟩ := args2.v hw r
  obtain ⟨i, l, hl, hw_2⟩ := asObj.v hw_1 ra
  obtain ⟨z, t, hw_3⟩ := asInt.v hw_2 rb
  · · obtain ⟨us, e, hw_4⟩ := onL.get hw_3
      rcases us with _ | ⟨u, us⟩
      · exact hw_4.elim
      obtain ⟨o, ho, xs, ⟨n, rfl⟩, rr⟩ := R.live i _ l (hget_eq e) hl
      obtain ⟨x, ys, rfl, rx, rr⟩ := rr
      obtain ⟨h1, rfl, hw_4⟩ := hw_4
      have hxl := rr.length
      refine call_meets PySem.F.slot_list_pop ⟨_, ho, rfl⟩ PySem.F.entry_list_pop (PySem.F.args_list_pop_2 _ _) (MeetsSeq.list_pop_at l (x :: ys).toArray n 0 t 0 x (by decide) (by simp [seqIndex?]) (by simp) (by rw [List.size_toArray, List.length_cons, hxl, sizeLine_eq]; omega)) ⟨ho, ?_⟩
      obtain ⟨n', hn⟩ := isL_upd ho (fun xs => xs.eraseIdxIfInBounds 0) (ys := ys) (by simp)
      exact Ret.mk (Post.updL R (so' := .list us) (hget_lt e) hl (Heap.SameBut.update ..) hn ⟨_, ⟨n', rfl⟩, rr⟩) rx hw_4

noncomputable def wLen : List SV → T SV := fun as k st => args1 as fun a => on1 (lstOf st a) (fun vs => vs.length ≤ 1000000 ∧ k (.int vs.length) st) (on1 (tupOf a) (fun vs => vs.length ≤ 1000000 ∧ k (.int vs.length) st) (asStr a (fun x => x.length ≤ 1000000 ∧ k (.int x.length) st) False))
theorem c_len : CallOp w hB c (.builtin "len") wLen := by
  intro st al Z s k as vs R r hw
  refine ⟨blt_keep R, ?_⟩
  obtain ⟨a, va, ra, hw_1⟩ := args1.v hw r
  · rcases on1.or hw_1 with ⟨us, e, hw_2⟩ | hw_2
    · obtain ⟨l, xs, n, rfl, hl, rr⟩ := lst_at R ra e
      have hxl := rr.length
      refine PyProof.Rows.len_list hl.isList (by rw [List.size_toArray, hxl]; have := hw_2.1; omega) (Ret.toks R _ ?_ hw_2.2)
      rw [List.size_toArray, hxl]
      exact vInt _ _
    · rcases on1.or hw_2 with ⟨us, e, hw_3⟩ | hw_3
      · rw [tupOf_eq e] at ra
        obtain ⟨l, xs, n, rfl, hl, rr⟩ := tup_at R ra
        have hxl := rr.length
        refine PyProof.Rows.len_tuple (isTup_of hl) (by rw [List.size_toArray, hxl]; have := hw_3.1; omega) (Ret.toks R _ ?_ hw_3.2)
        rw [List.size_toArray, hxl]
        exact vInt _ _
      · obtain ⟨x, t, hw_4⟩ := asStr.v hw_3 ra
        refine PySem.P.len_str (by rw [S_length]; have := hw_4.1; omega) (Ret.toks R _ ?_ hw_4.2)
        rw [S_length]
        exact vInt _ _
end

structure Post0 (w : World) (hB : Heap) (al : List Addr) (Z : Led) (s : Shared) (hp' : List SO) (al' : List Addr) (Z' : Led) (s' : Shared) : Prop where
  rel : Rel0 w hB hp' al' Z' s'
  pre : al <+: al'
  sub : ∀ p ∈ Z, p ∈ Z'
  frame : Frame al s.heap s'.heap
  fresh : ∀ a ∈ al', a ∈ al ∨ s.heap.get? a = none
  zfresh : ∀ p ∈ Z', p ∈ Z ∨ s.heap.get? p.1 = none
  gens : s'.gens = s.gens
  os : s'.os = s.os

inductive CallP (w : World) (hB : Heap) (al : List Addr) (Z : Led) (s : Shared) (k : SV → List SO → Prop) (r : Result) (s' : Shared) : Prop
  | mk (v : Value) (sv : SV) (hp' : List SO) (al' : List Addr) (Z' : Led) (e : r = .ok (.ret v)) (p : Post0 w hB al Z s hp' al' Z' s') (rv : VR w Z' al' sv v) (hk : k sv hp') : CallP w hB al Z s k r s'
inductive FnD (hB : Heap) (fa : Addr) (body : List PySem.Stmt) (scope : Scope) (qual : Str) (cdv : Value) (names : List Str) : Prop
  | mk (o : Obj) (fd : FuncData) (h : hB.get? fa = some o) (d : o.data = .func fd) (e1 : fd.scope = scope) (e2 : fd.globals = mainGlobals) (e3 : fd.closure = []) (e4 : fd.body = .stmts body) (e5 : fd.qualname = qual) (e6 : fd.code = cdv) (e7 : fd.builtins = builtinsNs)
    (hb : ∀ vals : List Value, vals.length = names.length → bindArgs fd ⟨vals, []⟩ = pure (names.zip vals)) : FnD hB fa body scope qual cdv names
structure FnIs (w : World) (hB : Heap) (fa : Addr) (body : List PySem.Stmt) (scope : Scope) (qual : Str) (cdv : Value) (names : List Str) : Prop where
  fn : FnD hB fa body scope qual cdv names
  code : hB.CodeRec cdv qual
  co : scope.isCoroutine = false
  gen : scope.isGenerator = false
  kind : scope.kind = .function
  nodup : names.Nodup

structure CxIs (scope : Scope) (qual : Str) (fa : Addr) (cdv : Value) (names : List Str) (n ht pn : Nat) (mk : Around → Addr → Cx) : Prop where
  ht : ∀ A L, (mk A L).ht = ht
  pin : ∀ A L, (mk A L).pin = pn
  env : ∀ A L, (mk A L).env = envOfC qual scope L fa cdv
  A : ∀ A L, (mk A L).A = A.deeper (envOfC qual scope L fa cdv)
  cells : ∀ A L b, b ∈ (mk A L).cells → ∃ y, (y, Slt.cell b) ∈ (mk A L).slots
  cellm : ∀ A L b y, (y, Slt.cell b) ∈ (mk A L).slots → b ∈ (mk A L).cells
  cnodup : ∀ A L, (mk A L).cells.Nodup
  names : ∀ A L, ((mk A L).slots.map (·.1)).take names.length = names
  len : ∀ A L, (mk A L).slots.length = n
  nodup : ∀ A L, ((mk A L).slots.map (·.1)).Nodup
  sloc : ∀ A L x, (x, Slt.loc) ∈ (mk A L).slots → scope.names.lookup x = some .local
  scell : ∀ A L x a, (x, Slt.cell a) ∈ (mk A L).slots → scope.names.lookup x = some .cell ∧ (cellsFrom (L + 1) scope.names []).lookup x = some a
  scapt : ∀ A L x a, (x, Slt.capt a) ∉ (mk A L).slots

section
variable {w : World} {hB : Heap}

theorem bindL_get {kindOf : Str → Option NameKind} {x : Str} {v : Value} (hk : kindOf x = some .local) : ∀ (binds : List (Str × Value)) (m : Str → Option Value), (binds.map (·.1)).Nodup → ((x, v) ∈ binds ∨ (x ∉ binds.map (·.1) ∧ m x = some v)) → bindL kindOf binds m x = some v
  | [], m, w1_, h => by rcases h with h | h <;> simp_all [bindL]
  | (y, u) :: r, m, hn, h => by
    unfold bindL
    have hn' := List.nodup_cons.mp hn
    refine bindL_get hk r _ hn'.2 ?_
    rcases h with h | ⟨h1, h2⟩
    · rcases List.mem_cons.mp h with e | h
      · cases e
        exact .inr ⟨hn'.1, by rw [if_pos hk]; simp⟩
      · exact .inl h
    · simp only [List.map_cons, List.mem_cons, not_or] at h1
      refine .inr ⟨h1.2, ?_⟩
      split
      · simp [h1.1, h2]
      · exact h2
theorem bindC_get {kindOf : Str → Option NameKind} {x : Str} {v : Value} (hk : kindOf x = some .cell) : ∀ (binds : List (Str × Value)) (m : Str → Option Value), (binds.map (·.1)).Nodup → ((x, v) ∈ binds ∨ (x ∉ binds.map (·.1) ∧ m x = some v)) → bindC kindOf binds m x = some v
  | [], m, w1_, h => by rcases h with h | h <;> simp_all [bindC]
  | (y, u) :: r, m, hn, h => by
    unfold bindC
    have hn' := List.nodup_cons.mp hn
    refine bindC_get hk r _ hn'.2 ?_
    rcases h with h | ⟨h1, h2⟩
    · rcases List.mem_cons.mp h with e | h
      · cases e
        exact .inr ⟨hn'.1, by rw [if_neg (by rw [hk]; simp)]; simp⟩
      · exact .inl h
    · simp only [List.map_cons, List.mem_cons, not_or] at h1
      refine .inr ⟨h1.2, ?_⟩
      split
      · exact h2
      · simp [h1.1, h2]

theorem VRs.zip_mem {Z : Led} {al : List Addr} : ∀ {names : List Str} {as : List SV} {vals : List Value}, VRs w Z al as vals → ∀ {i : Nat} {x : Str} {sv : SV}, names[i]? = some x → as[i]? = some sv → ∃ v, (x, v) ∈ names.zip vals ∧ VR w Z al sv v
  | [], w1_, w2_, w3_, i, x, sv, h, w4_ => by simp at h
  | n :: ns, [], w1_, w2_, i, x, sv, w3_, h => by simp at h
  | n :: ns, a :: as, vals, r, i, x, sv, h1, h2 => by
    obtain ⟨v, vs, rfl, r1, r2⟩ := r
    cases i with
    | zero => simp at h1 h2; subst h1 h2; exact ⟨v, .head _, r1⟩
    | succ i =>
      obtain ⟨v', hm, rv⟩ := VRs.zip_mem r2 (by simpa using h1) (by simpa using h2)
      exact ⟨v', .tail _ hm, rv⟩

theorem cellsFrom_ge : ∀ (names : List (Str × NameKind)) (n : Nat) (acc : List (Str × Addr)) (x : Str) (a : Addr), (x, a) ∈ cellsFrom n names acc → (x, a) ∈ acc ∨ n ≤ a
  | [], w1_, w2_, w3_, w4_, h => .inl h
  | (y, k) :: r, n, acc, x, a, h => by
    unfold cellsFrom at h
    split at h
    · rcases cellsFrom_ge r (n + 1) _ x a h with h | h
      · rcases List.mem_cons.mp h with e | h
        · cases e; exact .inr (Nat.le_refl _)
        · exact .inl h
      · exact .inr (by omega)
    · exact cellsFrom_ge r n acc x a h

theorem pre_of {al al' : List Addr} (h : ∀ i, i < al.length → al'[i]? = al[i]?) : al <+: al' := by
  refine ⟨al'.drop al.length, ?_⟩
  have e : al'.take al.length = al := by
    apply List.ext_getElem?
    intro i
    rw [List.getElem?_take]
    split
    · exact h i (by assumption)
    · rw [List.getElem?_eq_none (by omega)]
  calc al ++ al'.drop al.length = al'.take al.length ++ al'.drop al.length := by rw [e]
    _ = al' := List.take_append_drop _ _
noncomputable def initLoc (as : List SV) (n : Nat) : List (Option SV) := as.map some ++ List.replicate (n - as.length) none
noncomputable def retK (k : SV → List SO → Prop) : AFl → St → Prop
  | .ret sv, st => k sv st.heap
  | .next, st => k .none st.heap
  | w1_, w2_ => False

theorem call_gen {fa : Addr} {body : List PySem.Stmt} {scope : Scope} {qual : Str} {cdv : Value} {names : List Str} {n ht pn : Nat} {mk : Around → Addr → Cx} {W : T AFl} (FI : FnIs w hB fa body scope qual cdv names) (CI : CxIs scope qual fa cdv names n ht pn mk)
    (hb : ∀ A L, ExecsTo w hB (mk A L) body W) {A : Around} (hh : A.handled = none) (hd : A.depth + 1 + 2 * ht ≤ 600) (hu : A.units + 3 + 10 * ht + 200 ≤ cLine)
    {hp : List SO} {al : List Addr} {Z : Led} {s : Shared} {as : List SV} {vals : List Value} {k : SV → List SO → Prop} (R : Rel0 w hB hp al Z s) (hv : VRs w Z al as vals) (hlen : as.length = names.length) (hpn : hp.length = pn)
    (hw : W (retK k) ⟨initLoc as n, hp⟩) :
    codeAny (model P w) A (.call (.ref fa) ⟨vals, []⟩) (CallP w hB al Z s k) s := by
  obtain ⟨o, fd, ho, hdt, e1, e2, e3, e4, e5, e6, e7, hbind⟩ := FI.fn
  have hvl := hv.length
  obtain ⟨p, loose, mg, mb, T⟩ := R.grd.top
  refine codeAny_call_function (by show A.depth < 1000; omega) (R.base _ _ ho) hdt (by rw [e1]; exact FI.co) (by rw [e1]; exact FI.gen) e4 (by rw [e6, e5]; exact FI.code.keeps R.base) ?_
  rw [hbind vals (hvl.trans hlen)]
  refine wpAny_pure ?_
  rw [e1, e2, e3, e5, e6, e7]
  refine wpAny_newFunctionEnv_cells FI.kind (fun x hx => ?_) fun env he s1 x => ?_
  · obtain ⟨y, u⟩ := x
    have hy : y ∈ names := (List.of_mem_zip hx).1
    have hmem : y ∈ (mk A s.heap.objs.size).slots.map (·.1) := by
      have := CI.names A s.heap.objs.size
      rw [← this] at hy
      exact List.mem_of_mem_take hy
    obtain ⟨⟨y', sl⟩, hm, rfl⟩ := List.mem_map.mp hmem
    cases sl with
    | loc => exact .inl (CI.sloc _ _ _ hm)
    | cell a => have := CI.scell _ _ _ _ hm; exact .inr ⟨this.1, by rw [this.2]; rfl⟩
    | capt a => exact absurd hm (CI.scapt _ _ _ _)
  obtain ⟨hs1, tk, rfl, hk1⟩ := x.done
  have he' : env = envOfC qual scope s.heap.objs.size fa cdv := he
  subst he'
  have R1 : Rel0 w hB hp al Z { s with heap := hs1, toks := tk } := R.frame0 (fun u_ => False) (fun u_ h => h.elim) (fun b o h u_ => hk1 b o h)
  refine ⟨(T.nolimit.keeps R.base).keeps hk1, codeAny_func ?_⟩
  have fr := R.fresh
  have cge : ∀ b : Nat, b ∈ (mk A s.heap.objs.size).cells → (s.heap.objs.size : Nat) < b := fun b hb' => by
    obtain ⟨y, hy⟩ := CI.cells _ _ _ hb'
    have hm := mem_of_lookup (CI.scell _ _ _ _ hy).2
    rcases cellsFrom_ge _ _ _ _ _ hm with h | h
    · cases h
    · exact h
  have Lold : ∀ (b : Nat) o, s.heap.get? b = some o → b < (s.heap.objs.size : Nat) := fun b o h => Heap.lt_size h
  have ownge : ∀ b : Nat, b ∈ (mk A s.heap.objs.size).own → (s.heap.objs.size : Nat) ≤ b := fun b hb' => by
    rcases List.mem_cons.mp hb' with rfl | hb'
    · rw [CI.env]; exact Nat.le_refl _
    · exact Nat.le_of_lt (cge b hb')
  have ok : (mk A s.heap.objs.size).Ok := {
    kind := by rw [CI.env]; exact FI.kind
    glob := by rw [CI.env]; rfl
    blt := by rw [CI.env]; rfl
    hand := by rw [CI.A]; exact hh
    depth := by rw [CI.A, CI.ht]; exact hd
    units := by rw [CI.A, CI.ht]; exact hu
    nodup := CI.nodup _ _
    onodup := by
      refine List.nodup_cons.mpr ⟨fun h => ?_, ?_⟩
      · have := cge _ h
        rw [CI.env] at this
        exact Nat.lt_irrefl _ this
      · exact CI.cnodup _ _
    sloc := fun y hy => by rw [CI.env]; exact CI.sloc _ _ _ hy
    scell := fun y b hy => by
      have := CI.scell _ _ _ _ hy
      exact ⟨by rw [CI.env]; exact this.1, by rw [CI.env]; exact this.2, CI.cellm _ _ _ _ hy⟩
    sone := fun y z b hy hz => by
      have h1 := mem_of_lookup (CI.scell _ _ _ _ hy).2
      have h2 := mem_of_lookup (CI.scell _ _ _ _ hz).2
      obtain ⟨i, hi, ei⟩ := List.getElem_of_mem h1
      obtain ⟨j, hj, ej⟩ := List.getElem_of_mem h2
      have pw := List.pairwise_iff_getElem.mp x.apart
      rcases Nat.lt_trichotomy i j with q | q | q
      · have := pw i j hi hj q; simp only [envOfC] at this; rw [ei, ej] at this; exact absurd rfl this
      · subst q; rw [ei] at ej; injection ej
      · have := pw j i hj hi q; simp only [envOfC] at this; rw [ei, ej] at this; exact absurd rfl this
    scapt := fun y b hy => absurd hy (CI.scapt _ _ _ _) }
  have sn : ∀ {i : Nat} {y : Str} {sl : Slt} {sv : SV}, (mk A s.heap.objs.size).slots[i]? = some (y, sl) → (initLoc as n)[i]? = some (some sv) → names[i]? = some y ∧ as[i]? = some sv := by
    intro i y sl sv h1 h2
    have hi : as[i]? = some sv := by
      unfold initLoc at h2
      rcases Nat.lt_or_ge i as.length with q | q
      · rw [List.getElem?_append_left (by simpa using q)] at h2
        simpa using h2
      · rw [List.getElem?_append_right (by simpa using q)] at h2
        rw [List.getElem?_replicate] at h2
        split at h2 <;> cases h2
    have hlt : i < as.length := by
      rcases Nat.lt_or_ge i as.length with q | q
      · exact q
      · rw [List.getElem?_eq_none q] at hi; cases hi
    refine ⟨?_, hi⟩
    rw [← CI.names A s.heap.objs.size, List.getElem?_take, if_pos (by omega), List.getElem?_map, h1]
    rfl
  have zn : ((names.zip vals).map (·.1)).Nodup := by
    rw [List.map_fst_zip (by omega)]
    exact FI.nodup
  have S1 : SRel w hB (mk A s.heap.objs.size) ⟨initLoc as n, hp⟩ al Z { s with heap := hs1, toks := tk } := {
    toRel0 := R1
    ok := ok
    pinl := by rw [CI.pin, ← hpn, R.len]; exact Nat.le_refl _
    ns := by
      refine ⟨_, by rw [CI.env]; exact x.toInCall.ns, fun i y sv h1 h2 => ?_⟩
      obtain ⟨hy, hsv⟩ := sn h1 h2
      obtain ⟨v, hm, rv⟩ := VRs.zip_mem hv hy hsv
      exact ⟨v, bindL_get (CI.sloc _ _ _ (List.mem_of_getElem? h1)) _ _ zn (.inl hm), rv⟩
    cell := fun i y b h => by
      rcases h with h | h
      · have hc := CI.scell _ _ _ _ (List.mem_of_getElem? h)
        refine ⟨_, x.cell y b hc.2, fun sv h2 => ?_⟩
        obtain ⟨hy, hsv⟩ := sn h h2
        obtain ⟨v, hm, rv⟩ := VRs.zip_mem hv hy hsv
        exact ⟨v, bindC_get hc.1 _ _ zn (.inl hm), rv⟩
      · exact absurd (List.mem_of_getElem? h) (CI.scapt _ _ _ _)
    own := fun b hb' => by
      have hge := ownge b hb'
      refine ⟨?_, ?_, fun hm => ?_, ?_⟩
      · cases q : hB.get? b with
        | none => rfl
        | some o => exact absurd (Lold _ _ (R.base _ _ q)) (Nat.not_lt.mpr hge)
      · obtain ⟨ps, hq, _⟩ := R.tab
        have := Lold _ _ hq
        exact fun e => by rw [e] at hge; omega
      · obtain ⟨i, hi⟩ := List.getElem?_of_mem hm
        have hl : i < hp.length := by
          rw [← R.len]
          rcases Nat.lt_or_ge i al.length with q | q
          · exact q
          · rw [List.getElem?_eq_none q] at hi; cases hi
        obtain ⟨o', ho', _⟩ := R.live i hp[i] _ (List.getElem?_eq_getElem hl) hi
        exact absurd (Lold _ _ ho') (Nat.not_lt.mpr hge)
      · rcases List.mem_cons.mp hb' with rfl | hb'
        · obtain ⟨o', _, _, e, _⟩ := x.toInCall.ns
          exact ⟨o', by rw [CI.env]; exact e⟩
        · obtain ⟨y, hy⟩ := CI.cells _ _ _ hb'
          obtain ⟨o', e, _⟩ := x.cell y b (CI.scell _ _ _ _ hy).2
          exact ⟨o', e⟩
    ownz := fun q hq hm => by
      exact absurd (Lold _ _ (R.frz q hq)) (Nat.not_lt.mpr (ownge _ hm))
    capt := fun y b hy => absurd hy (CI.scapt _ _ _ _) }
  have fin : ∀ {st' : St} {al' : List Addr} {Z' : Led} {s' : Shared}, PostS w hB (mk A s.heap.objs.size) al Z { s with heap := hs1, toks := tk } st' al' Z' s' → Post0 w hB al Z s st'.heap al' Z' s' := fun {st' al' Z' s'} p => {
    rel := p.rel.toRel0
    pre := pre_of fun i hi => p.pin i (by rw [CI.pin, ← hpn, ← R.len]; exact hi)
    sub := p.sub
    frame := fun b o h hn ht => p.frame b o (hk1 b o h) (fun hm => (List.mem_append.mp hm).elim (fun hm => absurd (Lold _ _ h) (Nat.not_lt.mpr (ownge _ hm))) hn) ht
    fresh := fun b h => (p.fresh b h).imp id fun q => by
      cases e : s.heap.get? b with
      | none => rfl
      | some o => rw [hk1 _ _ e] at q; cases q
    zfresh := fun z h => (p.zfresh z h).imp id fun q => by
      cases e : s.heap.get? z.1 with
      | none => rfl
      | some o => rw [hk1 _ _ e] at q; cases q
    gens := p.gens
    os := p.os }
  have B := hb A s.heap.objs.size ⟨initLoc as n, hp⟩ al Z _ _ S1 hw
  rw [CI.A, CI.env] at B
  refine wpAny_mono B (fun f s' h => ?_) fun u_ u_ h => h.elim
  obtain ⟨st', al', Z', fl, p, r, hk⟩ := h
  cases fl with
  | next =>
    simp only [FR] at r
    subst r
    exact ⟨.none, .none, st'.heap, al', Z', rfl, fin p, by exact Eq.refl _, hk⟩
  | brk => exact hk.elim
  | cont => exact hk.elim
  | ret sv =>
    obtain ⟨v, rfl, r⟩ := r
    exact ⟨v, sv, st'.heap, al', Z', rfl, fin p, r, hk⟩
end

mutual
noncomputable def clo : SV → Prop
  | .tup vs => clos vs
  | .list vs => clos vs
  | .dict w1_ vs => clos vs
  | .inst w1_ w2_ vs => clos vs
  | .view w1_ w2_ vs => clos vs
  | .meth w1_ v => clo v
  | .rdr w1_ w2_ => False
  | .obj w1_ => False
  | .iobj w1_ w2_ => False
  | .none => True
  | .bool w1_ => True
  | .int w1_ => True
  | .str w1_ => True
  | .gl w1_ => True
  | .rng w1_ w2_ => True
noncomputable def clos : List SV → Prop
  | [] => True
  | v :: vs => clo v ∧ clos vs
end
theorem clos_iff : ∀ {vs : List SV}, clos vs ↔ ∀ v ∈ vs, clo v
  | [] => by simp [clos]
  | v :: vs => by simp [clos, clos_iff (vs := vs)]
section
variable {w : World} {Z : Led} {al al' : List Addr}
mutual
theorem VR.clo : ∀ {sv : SV} {v : Value}, Mine.Internal.clo sv → VR w Z al sv v → VR w Z al' sv v
  | .none, w1_, w2_, h => h
  | .bool w1_, w2_, w3_, h => h
  | .int w1_, w2_, w3_, h => h
  | .str w1_, w2_, w3_, h => h
  | .tup vs, w1_, hc, h => by
    obtain ⟨a, o, xs, e, m, q, r⟩ := h
    exact ⟨a, o, xs, e, m, q, VRs.clo hc r⟩
  | .list vs, w1_, hc, h => by
    obtain ⟨a, o, xs, e, m, q, r⟩ := h
    exact ⟨a, o, xs, e, m, q, VRs.clo hc r⟩
  | .dict ks vs, w1_, hc, h => by
    obtain ⟨a, o, kvs, e, m, q, q2, r⟩ := h
    exact ⟨a, o, kvs, e, m, q, q2, VRs.clo hc r⟩
  | .inst C ks vs, w1_, hc, h => by
    obtain ⟨x, dx, o, kvs, e, m, m2, q, q2, r⟩ := h
    exact ⟨x, dx, o, kvs, e, m, m2, q, q2, VRs.clo hc r⟩
  | .obj i, w1_, hc, w2_ => hc.elim
  | .iobj C i, w1_, hc, w2_ => hc.elim
  | .gl w1_, w2_, w3_, h => h
  | .rng w1_ w2_, w3_, w4_, h => h
  | .view n ks vs, w1_, hc, h => by
    obtain ⟨a, d, o, kvs, e, m, m2, q, q2, r⟩ := h
    exact ⟨a, d, o, kvs, e, m, m2, q, q2, VRs.clo hc r⟩
  | .meth f sv, w1_, hc, h => by
    obtain ⟨a, u, e, m, r⟩ := h
    exact ⟨a, u, e, m, VR.clo hc r⟩
  | .rdr i x, w1_, hc, w2_ => hc.elim
theorem VRs.clo : ∀ {ss : List SV} {xs : List Value}, clos ss → VRs w Z al ss xs → VRs w Z al' ss xs
  | [], w1_, w2_, h => h
  | s :: ss, w1_, hc, h => by
    obtain ⟨v, r, e, h1, h2⟩ := h
    exact ⟨v, r, e, VR.clo hc.1 h1, VRs.clo hc.2 h2⟩
end
end

noncomputable def frzO (i : Nat) : SO → SV
  | .list vs => .list vs
  | .dict ks vs => .dict ks vs
  | .attrs w1_ w2_ => .obj i
  | .citer w1_ w2_ => .obj i
  | .gone => .obj i
noncomputable def frzI (C : Addr) (i : Nat) : SO → SV
  | .attrs ks vs => .inst C ks vs
  | .list w1_ => .iobj C i
  | .dict w1_ w2_ => .iobj C i
  | .citer w1_ w2_ => .iobj C i
  | .gone => .iobj C i
noncomputable def frzv (hp : List SO) : SV → SV
  | .obj i => (hget hp i).elim (.obj i) (frzO i)
  | .iobj C i => (hget hp i).elim (.iobj C i) (frzI C i)
  | .none => .none
  | .bool b => .bool b
  | .int z => .int z
  | .str x => .str x
  | .tup vs => .tup vs
  | .list vs => .list vs
  | .dict ks vs => .dict ks vs
  | .inst C ks vs => .inst C ks vs
  | .gl v => .gl v
  | .rng a b => .rng a b
  | .view n ks vs => .view n ks vs
  | .meth f v => .meth f v
  | .rdr i x => .rdr i x

section
variable {w : World} {hB : Heap} {c : Cx} {st : St} {al : List Addr} {Z : Led} {s : Shared}
theorem Post.ofPure {hp' : List SO} {al' : List Addr} {Z' : Led} {s' : Shared} (R : SRel w hB c st al Z s) (p : Post0 w hB [] Z s hp' al' Z' s') (ex : Led)
    (he : ∀ q ∈ ex, s'.heap.get? q.1 = some q.2 ∧ s.heap.get? q.1 = none ∧ q.1 ≠ tbA ∧ q.1 ≠ sysModules) : Post w hB c al Z s st al (ex ++ Z') s' := by
  have keep : ∀ b o, s.heap.get? b = some o → b ≠ tbA → s'.heap.get? b = some o := fun b o h ht => p.frame b o h (fun h => nomatch h) ht
  have ald : ∀ a ∈ al, ∃ o, s.heap.get? a = some o := fun a hm => by
    obtain ⟨i, hi⟩ := List.getElem?_of_mem hm
    have hl : i < st.heap.length := by
      rw [← R.len]
      rcases Nat.lt_or_ge i al.length with q | q
      · exact q
      · rw [List.getElem?_eq_none q] at hi; cases hi
    obtain ⟨o, ho, _⟩ := R.live i st.heap[i] _ (List.getElem?_eq_getElem hl) hi
    exact ⟨o, ho⟩
  have zall : ∀ q ∈ ex ++ Z', q ∈ Z ∨ (s.heap.get? q.1 = none ∧ q.1 ≠ tbA) := fun q hq => by
    rcases List.mem_append.mp hq with hq | hq
    · exact .inr ⟨(he q hq).2.1, (he q hq).2.2.1⟩
    · exact (p.zfresh q hq).imp id fun h => ⟨h, (p.rel.zap q hq).2⟩
  have sub : ∀ q ∈ Z, q ∈ ex ++ Z' := fun q hq => List.mem_append_right _ (p.sub q hq)
  refine ⟨{ grd := R.grd, base := p.rel.base, tab := p.rel.tab.mono (fun u_ h => List.mem_append_right _ h), len := R.len, live := fun i so a e1 e2 => ?_, frz := fun q hq => ?_, new := R.new, nodup := R.nodup, zap := fun q hq => ?_, nomod := ⟨R.nomod.1, fun q hq hc => (List.mem_append.mp hq).elim (fun hq => (he q hq).2.2.2) (fun hq => p.rel.nomod.2 q hq hc)⟩, ok := R.ok, pinl := R.pinl, ns := ?_, cell := fun i x a h => ?_, own := fun a ha => ?_, ownz := fun q hq hm => ?_, capt := R.capt },
    List.prefix_refl _, sub, fun b o h u_ ht => keep b o h ht, fun u_ h => .inl h, fun q hq => (zall q hq).imp id fun h => h.1, p.gens, p.os⟩
  · obtain ⟨o, ho, r⟩ := R.live i so a e1 e2
    exact ⟨o, keep _ _ ho (R.new _ (List.mem_of_getElem? e2)).2, r.mono sub (List.prefix_refl _)⟩
  · rcases List.mem_append.mp hq with hq | hq
    · exact (he q hq).1
    · exact p.rel.frz q hq
  · rcases zall q hq with h | h
    · exact R.zap q h
    · refine ⟨fun hm => ?_, h.2⟩
      obtain ⟨o, ho⟩ := ald _ hm
      rw [h.1] at ho; cases ho
  · obtain ⟨m, ⟨o, es, ep, e, r⟩, hm⟩ := R.ns
    exact ⟨m, ⟨o, es, ep, keep _ _ e (R.own _ (.head _)).2.1, r⟩, fun i x sv e1 e2 => let ⟨v, p, q⟩ := hm i x sv e1 e2; ⟨v, p, q.mono sub (List.prefix_refl _)⟩⟩
  · obtain ⟨vo, ⟨o, e, r⟩, hv⟩ := R.cell i x a h
    have hta : a ≠ tbA := by
      rcases h with h | h
      · exact (R.own a (.tail _ (R.ok.scell x a (List.mem_of_getElem? h)).2.2)).2.1
      · exact (R.capt x a (List.mem_of_getElem? h)).2.2
    exact ⟨vo, ⟨o, keep _ _ e hta, r⟩, fun sv e' => let ⟨v, p, q⟩ := hv sv e'; ⟨v, p, q.mono sub (List.prefix_refl _)⟩⟩
  · obtain ⟨p1, p2, p3, o, p4⟩ := R.own a ha
    exact ⟨p1, p2, p3, o, keep _ _ p4 p2⟩
  · rcases zall q hq with h | h
    · exact R.ownz q h hm
    · obtain ⟨o, ho⟩ := (R.own _ hm).2.2.2
      rw [h.1] at ho; cases ho

theorem frz_ret {hp' : List SO} {al' : List Addr} {Z' : Led} {s' : Shared} {sv : SV} {v : Value} {k : SV → St → Prop} (R : SRel w hB c st al Z s) (p : Post0 w hB [] Z s hp' al' Z' s') (r : VR w Z' al' sv v) (hc : clo (frzv hp' sv)) (hk : k (frzv hp' sv) st) :
    Ret w hB c al Z s (VR w) k v s' := by
  have plain : clo sv → frzv hp' sv = sv → Ret w hB c al Z s (VR w) k v s' := fun h1 h2 => by
    rw [h2] at hk
    exact Ret.mk (Post.ofPure R p [] (fun u_ h => nomatch h)) (by simpa using r.clo h1) hk
  have here : ∀ (i : Nat) (so : SO) (a : Addr), hget hp' i = some so → al'[i]? = some a → ∃ o, s'.heap.get? a = some o ∧ OR w Z' al' so o ∧ s.heap.get? a = none ∧ a ≠ tbA ∧ a ≠ sysModules := fun i so a e1 e2 => by
    obtain ⟨o, ho, hr⟩ := p.rel.live i so a (hget_eq e1) e2
    refine ⟨o, ho, hr, ?_, (p.rel.new a (List.mem_of_getElem? e2)).2, p.rel.nomod.1 a (List.mem_of_getElem? e2)⟩
    rcases p.fresh a (List.mem_of_getElem? e2) with h | h
    · cases h
    · exact h
  have one : ∀ {a : Addr} {o : Obj}, s'.heap.get? a = some o → s.heap.get? a = none → a ≠ tbA ∧ a ≠ sysModules → Post w hB c al Z s st al ([(a, o)] ++ Z') s' :=
    fun ho hn ht => Post.ofPure R p _ (fun q hq => by cases hq with | head => exact ⟨ho, hn, ht⟩ | tail _ h => cases h)
  have sub : ∀ {q : Addr × Obj}, ∀ z ∈ Z', z ∈ [q] ++ Z' := fun u_ h => .tail _ h
  cases sv with
  | obj i =>
    obtain ⟨a, ha, rfl⟩ := r
    have hc : clo ((hget hp' i).elim (.obj i) (frzO i)) := hc
    have hk : k ((hget hp' i).elim (.obj i) (frzO i)) st := hk
    generalize e : hget hp' i = o0 at hc hk
    rcases o0 with _ | o0
    · exact hc.elim
    obtain ⟨o, ho, hr, hn, ht⟩ := here i _ a e ha
    cases o0 with
    | list vs =>
      obtain ⟨xs, hs, hv⟩ := hr
      exact Ret.mk (b := SV.list vs) (one ho hn ht) (Exists.intro a ⟨o, xs, rfl, .head _, hs, (hv.clo hc).mono sub (List.prefix_refl _)⟩) hk
    | dict ks vs =>
      obtain ⟨kvs, hs, h2, hv⟩ := hr
      exact Ret.mk (b := SV.dict ks vs) (one ho hn ht) (Exists.intro a ⟨o, kvs, rfl, .head _, hs, h2, (hv.clo hc).mono sub (List.prefix_refl _)⟩) hk
    | _ => exact hc.elim
  | iobj C i =>
    obtain ⟨x, dx, rfl, hx, hd⟩ := r
    have hc : clo ((hget hp' i).elim (.iobj C i) (frzI C i)) := hc
    have hk : k ((hget hp' i).elim (.iobj C i) (frzI C i)) st := hk
    generalize e : hget hp' i = o0 at hc hk
    rcases o0 with _ | o0
    · exact hc.elim
    obtain ⟨o, ho, hr, hn, ht⟩ := here i _ dx e hd
    cases o0 with
    | attrs ks vs =>
      obtain ⟨kvs, hs, h2, hv⟩ := hr
      exact Ret.mk (b := SV.inst C ks vs) (one ho hn ht) (Exists.intro x ⟨dx, o, kvs, rfl, .tail _ hx, .head _, hs, h2, (hv.clo hc).mono sub (List.prefix_refl _)⟩) hk
    | _ => exact hc.elim
  | _ => exact plain hc rfl

theorem rel0_nil (R : SRel w hB c st al Z s) : Rel0 w hB [] [] Z s :=
  ⟨R.grd, R.base, R.tab, rfl, fun u_ u_ u_ h => (by simp at h), R.frz, fun u_ h => (nomatch h), List.nodup_nil, fun p hp => ⟨fun h => (nomatch h), (R.zap p hp).2⟩, fun u_ h => (nomatch h), R.nomod.2⟩

noncomputable def wPure (W : T AFl) (m n : Nat) : List SV → T SV := fun as k st => clos as ∧ as.length = m ∧ W (retK fun sv hp => clo (frzv hp sv) ∧ k (frzv hp sv) st) ⟨initLoc as n, []⟩
theorem pure_fn {fa : Addr} {body : List PySem.Stmt} {scope : Scope} {qual : Str} {cdv : Value} {names : List Str} {n ht : Nat} {mk : Around → Addr → Cx} {W : T AFl} (FI : FnIs w hB fa body scope qual cdv names) (CI : CxIs scope qual fa cdv names n ht 0 mk)
    (hb : ∀ A L, ExecsTo w hB (mk A L) body W) (hc : ht < c.ht) : CallOp w hB c (.ref fa) (wPure W names.length n) := by
  intro st al Z s k as vs R r ⟨h1, h2, hw⟩
  obtain ⟨o, fd, ho, hdt, _⟩ := FI.fn
  refine ⟨fun hq => keep_fn (R.base _ _ ho) hdt (hq _ (.inl rfl)), ?_⟩
  have d := R.ok.depth
  have u := R.ok.units
  refine wpAny_call (codeAny_mono (call_gen FI CI hb R.ok.hand (by omega) (by omega) (rel0_nil R) (r.clo h1) h2 rfl hw) fun res s' h => ?_)
  obtain ⟨v, sv, hp', al', Z', rfl, p, rv, hcl, hk⟩ := h
  exact frz_ret R p rv hcl hk
end

noncomputable def ownNames : List String := ["enumerate", "zip", "dict_itemiterator", "dict_reverseitemiterator", "odict_iterator", "itertools.zip_longest", "itertools.pairwise"]
inductive Src (w : World) (D : List Addr) (Z : Led) (al : List Addr) (it : Value) (items : List SV) (s0 s1 : Shared) : Prop
  | mk (I : Addr) (fp : List Addr) (Pr : Nat → Value → Prop) (St : Nat → Heap → Prop) (e : it = .ref I) (hI : s0.heap.get? I = none) (W : ∀ A' : Around, A'.handled = none → Walks P w A' I fp [I] items.length Pr St) (st0 : St 0 s1.heap) (hIf : I ∈ fp)
    (hPr : ∀ i v, Pr i v → ∃ sv, items[i]? = some sv ∧ VR w Z al sv v) (hfp : ∀ b ∈ fp, b ≠ I → ∃ o, s0.heap.get? b = some o ∧ b ∉ D ∧ b ≠ tbA) (hcls : ∀ i h, St i h → ∃ o n, h.get? I = some o ∧ o.cls = .type n ∧ ownNames.contains n = false) : Src w D Z al it items s0 s1

section
variable (w : World) (hB : Heap) (c : Cx)
noncomputable def ItOp (W : SV → T (List SV)) : Prop := ∀ st al Z s k a va, SRel w hB c st al Z s → VR w Z al a va → W a k st →
  ∀ (A : Around) (Q : Value → Shared → Prop), (∀ it o xs, k xs st → Src w (c.own ++ al) Z al it xs s { s with heap := s.heap.push o } → Q it { s with heap := s.heap.push o }) → WP w A (pyIter va) Q s
end

section
variable {w : World} {hB : Heap} {c : Cx}
noncomputable def rngL (a b : Int) : List SV := (List.range (b - a).toNat).map fun (i : Nat) => .int (a + i)
noncomputable def ItAt (w : World) (hB : Heap) (c : Cx) (a : SV) (W : T (List SV)) : Prop := ∀ st al Z s k va, SRel w hB c st al Z s → VR w Z al a va → W k st →
  ∀ (A : Around) (Q : Value → Shared → Prop), (∀ it o xs, k xs st → Src w (c.own ++ al) Z al it xs s { s with heap := s.heap.push o } → Q it { s with heap := s.heap.push o }) → WP w A (pyIter va) Q s
theorem it_str (x : Cs) : ItAt w hB c (.str x) (fun k st => k (x.map fun c => .str [c]) st) := by
  intro st al Z s k va R r hw A Q hQ
  · obtain ⟨t, rfl⟩ := r
    have items : ∀ i v, SignAt (S x) i v → ∃ sv, (x.map fun c => SV.str [c])[i]? = some sv ∧ VR w Z al sv v := fun i v ⟨cc, u, h1, h2⟩ => by
      refine ⟨.str [cc], ?_, ?_⟩
      · rw [List.getElem?_map]
        have : x[i]? = some cc := by simpa [S] using h1
        rw [this]; rfl
      · exact ⟨u, h2⟩
    have hlen : (x.map fun c => SV.str [c]).length = (S x).cps.size := by simp [S]
    cases ha : (S x).cps.all (· < 128)
    · refine wpAny_pyIter_wide ha (hQ _ _ _ hw ⟨s.heap.objs.size, [s.heap.objs.size], SignAt (S x), _, rfl, get?_size_none _, fun A' hA => hlen ▸ Walks.strWide hA _ (S x) t, ⟨_, Heap.get?_push_size _ rfl, rfl, rfl⟩, .head _, items, fun b hb hn => ?_, fun i h ⟨o, ho, hc, y1_⟩ => ⟨o, _, ho, hc, by decide⟩⟩)
      simp at hb; exact absurd hb hn
    · refine wpAny_pyIter_ascii ha (hQ _ _ _ hw ⟨s.heap.objs.size, [s.heap.objs.size], SignAt (S x), _, rfl, get?_size_none _, fun A' hA => hlen ▸ Walks.strAscii hA _ (S x) t, ⟨_, Heap.get?_push_size _ rfl, rfl, rfl⟩, .head _, items, fun b hb hn => ?_, fun i h ⟨o, ho, hc, y1_⟩ => ⟨o, _, ho, hc, by decide⟩⟩)
      simp at hb; exact absurd hb hn
theorem it_list (vs : List SV) : ItAt w hB c (.list vs) (fun k st => k vs st) := by
  intro st al Z s k va R r hw A Q hQ
  · obtain ⟨l, o, xs, rfl, hm, ⟨n, rfl⟩, rr⟩ := r
    have hl : IsL s.heap l xs.toArray n := R.frz _ hm
    have hne : l ≠ s.heap.objs.size := Nat.ne_of_lt (Heap.lt_size hl)
    have hlen : vs.length = xs.toArray.size := by rw [List.size_toArray, rr.length]
    refine wpAny_pyIter_list hl.isList (hQ _ _ _ hw ⟨s.heap.objs.size, [s.heap.objs.size, l], fun i v => xs.toArray[i]? = some v, _, rfl, get?_size_none _, fun A' hA => hlen ▸ Walks.list hA _ l hne xs.toArray, ⟨⟨_, Heap.get?_push_size _ rfl, rfl, rfl⟩, hl.isList.push _⟩, .head _, fun i v h => ?_, fun b hb hn => ?_, fun i h ⟨⟨o, ho, hc, y1_⟩, y2_⟩ => ⟨o, _, ho, hc, by decide⟩⟩)
    · have h' : xs[i]? = some v := by simpa using h
      have hi : i < vs.length := by
        rw [hlen, List.size_toArray]
        rcases Nat.lt_or_ge i xs.length with q | q
        · exact q
        · rw [List.getElem?_eq_none q] at h'; cases h'
      obtain ⟨v', h1, h2⟩ := rr.get (List.getElem?_eq_getElem hi)
      rw [h'] at h1; cases h1
      exact ⟨_, List.getElem?_eq_getElem hi, h2⟩
    · simp at hb
      rcases hb with hb | rfl
      · exact absurd hb hn
      · exact ⟨_, hl, fun hm' => (List.mem_append.mp hm').elim (R.ownz _ hm) (R.zap _ hm).1, (R.zap _ hm).2⟩
theorem rs_one (a b : Int) : Builtin.Range.rangeSize a b 1 = ((b - a).toNat : Int) := by
  rw [rangeSize_one]
  split <;> omega
theorem it_range (a b : Int) : ItAt w hB c (.rng a b) (fun k st => (-1000000 ≤ a ∧ a ≤ 1000000 ∧ -1000000 ≤ b ∧ b ≤ 1000000) ∧ k (rngL a b) st) := by
  intro st al Z s k va R r hw A Q hQ
  · obtain ⟨⟨h1, h2, h3, h4⟩, hw⟩ := hw
    obtain ⟨r, t, u, t', rfl, hm⟩ := r
    have hr : IsRange s.heap r a b 1 t u t' := R.frz _ hm
    have fits : ∀ x : Int, -1000000 ≤ x → x ≤ 3000000 → Builtin.Range.rangeFitsLong x = true := fun x h1 h2 => by
      unfold Builtin.Range.rangeFitsLong
      simp only [Bool.and_eq_true, decide_eq_true_eq]
      omega
    have hsmall : Builtin.Range.small a b 1 = true := by
      unfold Builtin.Range.small
      rw [fits a (by omega) (by omega), fits b (by omega) (by omega), fits 1 (by omega) (by omega), rs_one, fits _ (by omega) (by omega)]
      simp only [Bool.true_and, Bool.or_eq_true]
      right
      rw [if_pos (by omega)]
      exact fits _ (by omega) (by omega)
    refine wpAny_pyIter_range hr hsmall ?_
    rw [rs_one]
    have hlen : (rngL a b).length = (b - a).toNat := by simp [rngL]
    refine hQ _ _ _ hw ⟨s.heap.objs.size, [s.heap.objs.size], fun i v => (∃ t, v = .int (a + i * 1) t) ∧ i < (b - a).toNat, fun i h => i ≤ (b - a).toNat ∧ IsRangeIter h s.heap.objs.size (a + (i : Nat) * 1) (((b - a).toNat : Int) - (i : Nat)) 1, rfl, get?_size_none _, fun A' hA => ?_, ⟨Nat.zero_le _, ?_⟩, .head _, fun i v ⟨⟨t, e⟩, hi⟩ => ?_, fun b hb hn => ?_, fun i h ⟨y1_, ho⟩ => ⟨_, _, ho, rfl, by decide⟩⟩
    · rw [hlen]
      have W := Walks.range (prog := P) (w := w) hA s.heap.objs.size a 1 (b - a).toNat
      exact ⟨W.sub, fun i h h' hs hk => ⟨hs.1, W.frame i h h' hs.2 hk⟩, fun i s Q E hi hs hQ => W.item i s Q E hi hs.2 fun v h' tk hp hs' hk => hQ v h' tk ⟨hp, hi⟩ ⟨hi, hs'⟩ hk, fun s Q E hs hQ => W.done s Q E hs.2 hQ, fun i s Q E hs hQ => W.self i s Q E hs.2 hQ⟩
    · have := Heap.get?_push_size s.heap (o := { cls := .type "range_iterator", data := .fields #[rawInt a, rawInt ((b - a).toNat : Int), rawInt 1] }) rfl
      simpa [IsRangeIter] using this
    · refine ⟨.int (a + i), ?_, ?_⟩
      · unfold rngL
        rw [List.getElem?_map, List.getElem?_range hi]; rfl
      · exact ⟨t, by rw [e, Int.mul_one]⟩
    · simp at hb; exact absurd hb hn

noncomputable def wRange : List SV → T SV := fun as k st => match as with
  | [a] => asInt a (fun n => k (.rng 0 n) st) False
  | [a, b] => asInt a (fun x => asInt b (fun y => k (.rng x y) st) False) False
  | _ => False
theorem vRng {Z : Led} {al : List Addr} {a b : Int} {r : Addr} {t u t1 : Tok} {o : Obj} (e : o = rngObj a b t u t1) : VR w ((r, o) :: Z) al (.rng a b) (.ref r) := by
  subst e
  exact Exists.intro _ ⟨_, _, _, rfl, .head _⟩
theorem c_range : CallOp w hB c (.type "range") wRange := by
  intro st al Z s k as vs R r hw
  refine ⟨typ_keep R, ?_⟩
  rcases as with _ | ⟨a, _ | ⟨b, _ | ⟨d, as⟩⟩⟩
  · exact hw.elim
  · obtain ⟨va, _, rfl, ra, rfl⟩ := r
    obtain ⟨n, t, hw_1⟩ := asInt.v hw ra
    exact call_range_1 (Ret.mk (Post.allocZ R rfl _) (vRng rfl) hw_1)
  · obtain ⟨va, _, rfl, ra, vb, _, rfl, rb, rfl⟩ := r
    obtain ⟨x, t, hw_1⟩ := asInt.v hw ra
    obtain ⟨y, u, hw_2⟩ := asInt.v hw_1 rb
    exact call_range_2 (Ret.mk (Post.allocZ R rfl _) (vRng rfl) hw_2)
  · exact hw.elim

theorem own_go {M : Model} {A : Around} {E : Value → Shared → Prop} {s : Shared} {target : PySem.Expr} {I : Addr} {v : Value} {o : Obj} {n : String} {Q : Unit → Shared → Prop} (ho : s.heap.get? I = some o) (hc : o.cls = .type n) (hn : ownNames.contains n = false) (h : Q () s) :
    wpAny M A (letOwnedTupleGo target (.ref I) v) Q E s := by
  have body : wpAny M A (match (Value.ref I, v) with
    | (.ref r, .ref a) => (do
      let o ← load r
      match o.cls, o.data with
      | .type n, .fields vs =>
        if ["enumerate", "zip", "dict_itemiterator", "dict_reverseitemiterator", "odict_iterator", "itertools.zip_longest", "itertools.pairwise"].contains n && vs[0]? == some (rawInt a) then do
          rule "for.unpacks-the-owned-tuple"
          updateField r 0 .none
        else pure ()
      | w1_, w2_ => pure () : Sem Unit)
    | _ => pure ()) Q E s := by
    cases v with
    | ref a =>
      dsimp only
      refine wpAny_bind (wpAny_load ho ?_)
      rw [hc]
      cases o.data <;> first
        | exact wpAny_pure h
        | (dsimp only
           rw [if_neg (by
             intro q
             rw [Bool.and_eq_true] at q
             have : ownNames.contains n = true := q.1
             rw [hn] at this; cases this)]
           exact wpAny_pure h)
    | _ => exact wpAny_pure h
  unfold letOwnedTupleGo
  cases target <;> first
    | exact wpAny_pure h
    | (cases v <;> first
        | exact wpAny_pure h
        | exact body)

theorem PostS.chg {st1 : St} {al al1 : List Addr} {Z Z1 : Led} {s0 s1 s2 : Shared} (p : PostS w hB c al Z s0 st1 al1 Z1 s1) {I : Addr} (hu : Untr hB c al1 Z1 I) (hI : s0.heap.get? I = none)
    (hk : ∀ b o, b ≠ I → s1.heap.get? b = some o → s2.heap.get? b = some o) (hg : s2.gens = s1.gens) (ho : s2.os = s1.os) : PostS w hB c al Z s0 st1 al1 Z1 s2 where
  rel := p.rel.untr (fun n => n = I) (fun n h => h ▸ hu) fun b o h hn => hk b o hn h
  pin := p.pin
  sub := p.sub
  frame := fun b o h hn ht => hk b o (fun e => by rw [e, hI] at h; cases h) (p.frame b o h hn ht)
  fresh := p.fresh
  zfresh := p.zfresh
  there := fun b o h => by
    obtain ⟨o', h'⟩ := p.there b o h
    exact ⟨o', hk b o' (fun e => by rw [e, hI] at h; cases h) h'⟩
  gens := hg.trans p.gens
  os := ho.trans p.os

noncomputable def wForL (pin : Nat) (wt : SV → T Unit) (wb : T AFl) (k : AFl → St → Prop) : List SV → St → Prop
  | [], st => k .next st
  | x :: xs, st => ∃ st1, Wk pin st st1 ∧ wt x (fun u_ st => wb (fun fl st => match fl with
      | .next => wForL pin wt wb k xs st
      | .cont => wForL pin wt wb k xs st
      | .brk => k .next st
      | .ret v => k (.ret v) st) st) st1
noncomputable def wFor (pin : Nat) (wi : T SV) (wit : SV → T (List SV)) (wt : SV → T Unit) (wb : T AFl) : T AFl := fun k => wi fun a => wit a fun xs st => clos xs ∧ wForL pin wt wb k xs st

inductive FInv (w : World) (hB : Heap) (c : Cx) (al1 : List Addr) (Z1 : Led) (s1 : Shared) (items : List SV) (I : Addr) (Sv : Nat → Heap → Prop) (wt : SV → T Unit) (wb : T AFl) (k : AFl → St → Prop) (n : Nat) (s' : Shared) : Prop
  | mk (i : Nat) (st' : St) (al' : List Addr) (Z' : Led) (e : n = items.length - i) (h : i ≤ items.length) (p : PostS w hB c al1 Z1 s1 st' al' Z' s') (u : Untr hB c al' Z' I) (v : Sv i s'.heap) (f : wForL c.pin wt wb k (items.drop i) st') : FInv w hB c al1 Z1 s1 items I Sv wt wb k n s'
theorem ex_for {target iter : PySem.Expr} {body : List PySem.Stmt} {pos : Pos} {pin : Nat} {wi : T SV} {wit : SV → T (List SV)} {wt : SV → T Unit} {wb : T AFl} (hpin : c.pin = pin) (hi : EvalsTo w hB c iter wi) (hit : ItOp w hB c wit) (ht : AssTo w hB c target wt) (hb : ExecsTo w hB c body wb)
    (hs : autoParam (∀ x, foldedSetIterable iter c.env x = pure x) aIRfl) : ExecTo w hB c (.For target iter body [] pos) (wFor pin wi wit wt wb) := by
  subst hpin
  intro st al Z s k R hw
  refine wpAny_For (wpAny_mono (hi st al Z s _ R hw) (fun va s1 h1 => ?_) fun u_ u_ h => h) hs
  obtain ⟨st1, al1, Z1, a, p1, r1, hk1⟩ := h1
  refine hit st1 al1 Z1 s1 _ a va p1.rel r1 hk1 c.A _ fun it o items ⟨hcl, hw⟩ src => ?_
  obtain ⟨I, fp, Pr, Sv, rfl, hI, W, st0, hIf, hPr, hfp, hcls⟩ := src
  have q0 : PostS w hB c al1 Z1 s1 st1 al1 Z1 { s1 with heap := s1.heap.push o } := (Post.keep p1.rel (s' := { s1 with heap := s1.heap.push o }) (fun u_ u_ e => Heap.get?_push_of_some _ e)).toS p1.rel.pinl
  have u0 : Untr hB c al1 Z1 I := p1.rel.untrN hI
  have Wc := W c.A R.ok.hand
  have fin : ∀ {fl : AFl} {f : Flow} {st' : St} {al' : List Addr} {Z' : Led} {s' : Shared}, PostS w hB c al1 Z1 s1 st' al' Z' s' → FR w Z' al' fl f → k fl st' → RetS w hB c al Z s (FR w) k f s' :=
    fun p r hk => RetS.mk ((p1.toS R.pinl).trans p) r hk
  refine codeAny_forLoop_any (FInv w hB c al1 Z1 s1 items I Sv wt wb k) (fun n s2 hI2 => ?_) items.length ⟨0, st1, al1, Z1, rfl, Nat.zero_le _, q0, u0, st0, by rw [List.drop_zero]; exact hw⟩
  obtain ⟨i, st2, al2, Z2, e, hle, p2, u2, hst, hfw⟩ := hI2
  cases e
  have iex : ∃ o, s2.heap.get? I = some o := let ⟨o, n, ho, _⟩ := hcls _ _ hst; ⟨o, ho⟩
  rcases Nat.lt_or_ge i items.length with hlt | hge
  · rw [List.drop_eq_getElem_cons hlt] at hfw
    obtain ⟨st3, hwk, hfw⟩ := hfw
    refine Wc.item i s2 _ _ hlt hst fun v h' tk hpv hst' hk' => ?_
    have p3 : PostS w hB c al1 Z1 s1 st2 al2 Z2 { s2 with heap := h', toks := tk } := p2.chg u2 hI (fun b o hb e => hk' b o (by simpa using hb) e) rfl rfl
    obtain ⟨sv, hsv, rv⟩ := hPr i v hpv
    have hsv' : sv = items[i] := by rw [List.getElem?_eq_getElem hlt] at hsv; exact (Option.some.inj hsv).symm
    subst hsv'
    obtain ⟨o3, n3, ho3, hc3, hn3⟩ := hcls _ _ hst'
    obtain ⟨al3, pw⟩ := p3.rel.weak hwk
    refine own_go ho3 hc3 hn3 ?_
    have p4 := p3.trans pw
    have hcx : clo items[i] := clos_iff.mp hcl _ (List.getElem_mem hlt)
    have rv' : VR w Z2 al3 items[i] v := (rv.clo (al' := []) hcx).mono p2.sub (List.nil_prefix)
    have u3 : Untr hB c al3 Z2 I := u2.stepS pw ho3
    refine wpAny_mono (ht st3 al3 Z2 _ _ items[i] v p4.rel rv' hfw) (fun u_ s5 h5 => ?_) fun u_ u_ h => h.elim
    obtain ⟨st5, al5, Z5, _, p5, _, hk5⟩ := h5
    refine wpAny_mono (hb st5 al5 Z5 s5 _ p5.rel hk5) (fun f s6 h6 => ?_) fun u_ u_ h => h.elim
    obtain ⟨st6, al6, Z6, fl, p6, r6, hk6⟩ := h6
    have p56 := (p5.toS p4.rel.pinl).trans p6
    have pall := p4.trans p56
    have u6 : Untr hB c al6 Z6 I := u3.stepS p56 ho3
    have hst6 : Sv (i + 1) s6.heap := by
      refine Wc.frame _ _ _ hst' fun b hb o e => ?_
      refine p56.frame b o e (fun hm => ?_) ?_
      · by_cases hbI : b = I
        · subst hbI
          exact (List.mem_append.mp hm).elim u3.o1 u3.o2
        · obtain ⟨o', ho', hn', _⟩ := hfp b hb hbI
          rcases List.mem_append.mp hm with hm | hm
          · exact hn' (List.mem_append_left _ hm)
          · rcases p4.fresh b hm with h | h
            · exact hn' (List.mem_append_right _ h)
            · rw [h] at ho'; cases ho'
      · by_cases hbI : b = I
        · subst hbI; exact u3.o5
        · obtain ⟨o', _, _, ht'⟩ := hfp b hb hbI
          exact ht'
    cases fl with
    | next => simp only [FR] at r6; subst r6; exact ⟨items.length - (i + 1), by omega, i + 1, st6, al6, Z6, rfl, hlt, pall, u6, hst6, hk6⟩
    | cont => simp only [FR] at r6; subst r6; exact ⟨items.length - (i + 1), by omega, i + 1, st6, al6, Z6, rfl, hlt, pall, u6, hst6, hk6⟩
    | brk => simp only [FR] at r6; subst r6; exact fin pall FR.nx hk6
    | ret sv =>
      obtain ⟨v', rfl, r6⟩ := r6
      exact fin pall (FR.re r6) hk6
  · obtain rfl : i = items.length := Nat.le_antisymm hle hge
    rw [List.drop_length] at hfw
    refine Wc.done s2 _ _ hst fun h' tk hk' => wpAny_execs_nil ?_
    exact fin (p2.chg u2 hI (fun b o hb e => hk' b o (by simpa using hb) e) rfl rfl) FR.nx hfw
end

noncomputable def fdOf (K : Frag) (fa : Addr) : Option FuncData := match K.lookup fa with
  | some ⟨w1_, w2_, .func fd, w3_⟩ => some fd
  | _ => none
noncomputable def FnK (w : World) (fa : Addr) (d : PySem.Stmt) (qual : Str) (cdv : Value) : Prop :=
  (fdOf (KF w) fa).map (fun fd => (fd.body, fd.scope, fd.params, fd.qualname, fd.closure, fd.globals, fd.builtins, fd.code, fd.defaults, fd.kwdefaults)) =
    some (FuncBody.stmts (dBody d), dScope d, dParams d, qual, [], mainGlobals, builtinsNs, cdv, Value.none, Value.none)
noncomputable def BindOk (d : PySem.Stmt) (names : List Str) : Prop := ∀ fd : FuncData, fd.params = dParams d → fd.defaults = .none → fd.kwdefaults = .none → ∀ vals : List Value, vals.length = names.length → bindArgs fd ⟨vals, []⟩ = pure (names.zip vals)
theorem bind1 {d : PySem.Stmt} {x0 : Str} (h : ∀ fd : FuncData, fd.params = dParams d → fd.defaults = .none → fd.kwdefaults = .none → ∀ a0 : Value, bindArgs fd ⟨[a0], []⟩ = pure [(x0, a0)]) : BindOk d [x0] := by
  intro fd h1 h2 h3 vals hv
  rcases vals with _ | ⟨a0, _ | ⟨a1, r⟩⟩
  · exact absurd hv.symm (Nat.succ_ne_zero _)
  · exact h fd h1 h2 h3 a0
  · exact absurd (Nat.succ.inj hv) (Nat.succ_ne_zero _)
theorem bind2 {d : PySem.Stmt} {x0 x1 : Str} (h : ∀ fd : FuncData, fd.params = dParams d → fd.defaults = .none → fd.kwdefaults = .none → ∀ a0 a1 : Value, bindArgs fd ⟨[a0, a1], []⟩ = pure [(x0, a0), (x1, a1)]) : BindOk d [x0, x1] := by
  intro fd h1 h2 h3 vals hv
  rcases vals with _ | ⟨a0, _ | ⟨a1, _ | ⟨a2, r⟩⟩⟩
  · exact absurd hv.symm (Nat.succ_ne_zero _)
  · exact absurd (Nat.succ.inj hv).symm (Nat.succ_ne_zero _)
  · exact h fd h1 h2 h3 a0 a1
  · exact absurd (Nat.succ.inj (Nat.succ.inj hv)) (Nat.succ_ne_zero _)
theorem bind3 {d : PySem.Stmt} {x0 x1 x2 : Str} (h : ∀ fd : FuncData, fd.params = dParams d → fd.defaults = .none → fd.kwdefaults = .none → ∀ a0 a1 a2 : Value, bindArgs fd ⟨[a0, a1, a2], []⟩ = pure [(x0, a0), (x1, a1), (x2, a2)]) : BindOk d [x0, x1, x2] := by
  intro fd h1 h2 h3 vals hv
  rcases vals with _ | ⟨a0, _ | ⟨a1, _ | ⟨a2, _ | ⟨a3, r⟩⟩⟩⟩
  · exact absurd hv.symm (Nat.succ_ne_zero _)
  · exact absurd (Nat.succ.inj hv).symm (Nat.succ_ne_zero _)
  · exact absurd (Nat.succ.inj (Nat.succ.inj hv)).symm (Nat.succ_ne_zero _)
  · exact h fd h1 h2 h3 a0 a1 a2
  · exact absurd (Nat.succ.inj (Nat.succ.inj (Nat.succ.inj hv))) (Nat.succ_ne_zero _)
set_option tactic.hygienic true in
theorem fnIs_of {w : World} {hB : Heap} (G : Grd w hB) {fa : Addr} {d : PySem.Stmt} {qual : Str} {cdv : Value} {names : List Str} (h : FnK w fa d qual cdv) (hc : codeIn (KF w) cdv qual = true) (hb : BindOk d names)
    (hs : ((dScope d).isCoroutine, (dScope d).isGenerator, (dScope d).kind) = (false, false, ScopeKind.function)) (hn : names.Nodup) : FnIs w hB fa (dBody d) (dScope d) qual cdv names := by
  unfold FnK fdOf at h
  split at h
  · rename_i oc od fd osl e
    simp only [Option.map_some, Option.some.injEq, Prod.mk.injEq] at h
    obtain ⟨h1, h2, h3, h4, h5, h6, h7, h8, h9, h10⟩ := h
    simp only [Prod.mk.injEq] at hs
    exact ⟨⟨_, fd, G.X _ _ e, rfl, h2, h6, h5, h1, h4, h8, h7, hb fd h3 h9 h10⟩, codeRec_of G.X hc, hs.1, hs.2.1, hs.2.2, hn⟩
  · simp at h

noncomputable def slotsF : Nat → List (Str × Bool) → List (Str × Slt)
  | w1_, [] => []
  | n, (x, false) :: r => (x, .loc) :: slotsF n r
  | n, (x, true) :: r => (x, .cell n) :: slotsF (n + 1) r
noncomputable def cellA : Nat → List (Str × Bool) → List Addr
  | w1_, [] => []
  | n, (w1_, false) :: r => cellA n r
  | n, (w1_, true) :: r => n :: cellA (n + 1) r
noncomputable def mkCx (ht pn : Nat) (qual : Str) (scope : Scope) (fa : Addr) (cdv : Value) (desc : List (Str × Bool)) (A : Around) (L : Addr) : Cx :=
  { ht := ht, pin := pn, A := A.deeper (envOfC qual scope L fa cdv), env := envOfC qual scope L fa cdv, cells := cellA (L + 1) desc, slots := slotsF (L + 1) desc }
theorem slotsF_map : ∀ (n : Nat) (desc : List (Str × Bool)), (slotsF n desc).map (·.1) = desc.map (·.1)
  | w1_, [] => rfl
  | n, (x, false) :: r => by simp [slotsF, slotsF_map n r]
  | n, (x, true) :: r => by simp [slotsF, slotsF_map (n + 1) r]
theorem slotsF_loc : ∀ {n : Nat} {desc : List (Str × Bool)} {x : Str}, (x, Slt.loc) ∈ slotsF n desc → (x, false) ∈ desc
  | w1_, [], w2_, h => by simp [slotsF] at h
  | n, (y, false) :: r, x, h => by
    simp only [slotsF, List.mem_cons] at h
    rcases h with h | h
    · cases h; exact .head _
    · exact .tail _ (slotsF_loc h)
  | n, (y, true) :: r, x, h => by
    simp only [slotsF, List.mem_cons] at h
    rcases h with h | h
    · cases h
    · exact .tail _ (slotsF_loc h)
theorem slotsF_cell : ∀ {n : Nat} {desc : List (Str × Bool)} {x : Str} {a : Addr}, (x, Slt.cell a) ∈ slotsF n desc → ∃ i, a = n + i ∧ (x, Slt.cell i) ∈ slotsF 0 desc ∧ a ∈ cellA n desc
  | n, desc, x, a, h => by
    have gen : ∀ (desc : List (Str × Bool)) (n m : Nat), (x, Slt.cell a) ∈ slotsF (n + m) desc → ∃ i, a = n + i ∧ (x, Slt.cell i) ∈ slotsF m desc ∧ a ∈ cellA (n + m) desc := by
      intro desc
      induction desc with
      | nil => intro n m h; simp [slotsF] at h
      | cons p r ih =>
        intro n m h
        obtain ⟨y, b⟩ := p
        cases b with
        | false =>
          simp only [slotsF, List.mem_cons] at h
          rcases h with h | h
          · cases h
          · obtain ⟨i, h1, h2, h3⟩ := ih n m h
            exact ⟨i, h1, .tail _ h2, h3⟩
        | true =>
          simp only [slotsF, List.mem_cons] at h
          rcases h with h | h
          · cases h; exact ⟨m, rfl, .head _, .head _⟩
          · obtain ⟨i, h1, h2, h3⟩ := ih n (m + 1) h
            exact ⟨i, h1, .tail _ h2, .tail _ h3⟩
    exact gen desc n 0 h
theorem slotsF_capt : ∀ {n : Nat} {desc : List (Str × Bool)} {x : Str} {a : Addr}, (x, Slt.capt a) ∉ slotsF n desc
  | w1_, [], w2_, w3_ => by simp [slotsF]
  | n, (y, false) :: r, x, a => by simp only [slotsF, List.mem_cons, not_or]; exact ⟨by simp, slotsF_capt⟩
  | n, (y, true) :: r, x, a => by simp only [slotsF, List.mem_cons, not_or]; exact ⟨by simp, slotsF_capt⟩
theorem cellA_slot : ∀ {n : Nat} {desc : List (Str × Bool)} {b : Addr}, b ∈ cellA n desc → ∃ y, (y, Slt.cell b) ∈ slotsF n desc
  | w1_, [], w2_, h => by simp [cellA] at h
  | n, (y, false) :: r, b, h => by
    obtain ⟨z, hz⟩ := cellA_slot (n := n) (desc := r) h
    exact ⟨z, .tail _ hz⟩
  | n, (y, true) :: r, b, h => by
    simp only [cellA, List.mem_cons] at h
    rcases h with rfl | h
    · exact ⟨y, .head _⟩
    · obtain ⟨z, hz⟩ := cellA_slot h
      exact ⟨z, .tail _ hz⟩
theorem cellA_ge : ∀ {n : Nat} {desc : List (Str × Bool)} {b : Addr}, b ∈ cellA n desc → n ≤ b
  | w1_, [], w2_, h => by simp [cellA] at h
  | n, (y, false) :: r, b, h => cellA_ge (n := n) (desc := r) h
  | n, (y, true) :: r, b, h => by
    simp only [cellA, List.mem_cons] at h
    rcases h with rfl | h
    · exact Nat.le_refl _
    · have := cellA_ge h; exact Nat.le_of_succ_le this
theorem cellA_nodup : ∀ (n : Nat) (desc : List (Str × Bool)), (cellA n desc).Nodup
  | w1_, [] => by simp [cellA]
  | n, (y, false) :: r => cellA_nodup n r
  | n, (y, true) :: r => by
    simp only [cellA]
    refine List.nodup_cons.mpr ⟨fun h => ?_, cellA_nodup (n + 1) r⟩
    have := cellA_ge h
    exact Nat.lt_irrefl _ this
theorem cellsFrom_shift (x : Str) : ∀ (names : List (Str × NameKind)) (n m : Nat) (acc : List (Str × Addr)), (cellsFrom (n + m) names (acc.map fun p => (p.1, n + p.2))).lookup x = ((cellsFrom m names acc).lookup x).map (n + ·)
  | [], n, m, acc => by
    simp only [cellsFrom]
    induction acc with
    | nil => rfl
    | cons p r ih =>
      rw [List.map_cons, List.lookup_cons, List.lookup_cons]
      cases q : (x == p.1) with
      | true => rfl
      | false => exact ih
  | (y, k) :: r, n, m, acc => by
    unfold cellsFrom
    split
    · have := cellsFrom_shift x r n (m + 1) ((y, m) :: acc)
      simpa [Nat.add_assoc] using this
    · exact cellsFrom_shift x r n m acc
noncomputable def chkDesc (scope : Scope) (desc : List (Str × Bool)) (names : List Str) : Bool :=
  decide ((desc.map (·.1)).Nodup) && decide ((desc.map (·.1)).take names.length = names) && desc.all (fun p => p.2 || scope.names.lookup p.1 == some .local) &&
    (slotsF 0 desc).all fun p => match p.2 with
      | .cell i => scope.names.lookup p.1 == some .cell && (cellsFrom 0 scope.names []).lookup p.1 == some i
      | _ => true
theorem cxIs_of {qual : Str} {scope : Scope} {fa : Addr} {cdv : Value} {desc : List (Str × Bool)} {names : List Str} (ht pn : Nat) (h : chkDesc scope desc names = true) : CxIs scope qual fa cdv names desc.length ht pn (mkCx ht pn qual scope fa cdv desc) := by
  unfold chkDesc at h
  simp only [Bool.and_eq_true, decide_eq_true_eq] at h
  obtain ⟨⟨⟨h1, h2⟩, h3⟩, h4⟩ := h
  exact {
    ht := fun u_ u_ => rfl
    pin := fun u_ u_ => rfl
    env := fun u_ u_ => rfl
    A := fun u_ u_ => rfl
    cells := fun A L b hb => cellA_slot hb
    cellm := fun A L b y hb => let ⟨_, _, _, h⟩ := slotsF_cell hb; h
    cnodup := fun A L => cellA_nodup _ _
    names := fun A L => by show ((slotsF (L + 1) desc).map (·.1)).take names.length = names; rw [slotsF_map]; exact h2
    len := fun A L => by
      show (slotsF (L + 1) desc).length = desc.length
      have := congrArg List.length (slotsF_map (L + 1) desc)
      simpa using this
    nodup := fun A L => by show ((slotsF (L + 1) desc).map (·.1)).Nodup; rw [slotsF_map]; exact h1
    sloc := fun A L x hx => by
      have := List.all_eq_true.mp h3 _ (slotsF_loc hx)
      simpa using this
    scell := fun A L x a hx => by
      obtain ⟨i, rfl, hi, _⟩ := slotsF_cell hx
      have := List.all_eq_true.mp h4 _ hi
      simp only [Bool.and_eq_true, beq_iff_eq] at this
      refine ⟨this.1, ?_⟩
      have e := cellsFrom_shift x scope.names (L + 1) 0 []
      simp only [List.map_nil, Nat.add_zero] at e
      rw [e, this.2]; rfl
    scapt := fun A L x a hx => slotsF_capt hx }

theorem CallOp.mono {w : World} {hB : Heap} {c : Cx} {f : Value} {wo wo' : List SV → T SV} (h : CallOp w hB c f wo) (hi : ∀ as k st, wo' as k st → wo as k st) : CallOp w hB c f wo' :=
  fun st al Z s k as vs R r hw => h st al Z s k as vs R r (hi as k st hw)

section
variable {w : World} {hB : Heap} {c : Cx} {st : St} {al : List Addr} {Z : Led} {s : Shared}

noncomputable def wNewL (lv : Bool) (as : List SV) : T SV := fun k st => if lv then k (.obj st.heap.length) (st.addH (.list as)) else k (.list as) st
theorem newL {lv : Bool} {as : List SV} {xs : List Value} {k : SV → St → Prop} (R : SRel w hB c st al Z s) (r : VRs w Z al as xs) (tk : Nat) (hw : wNewL lv as k st) :
    Ret w hB c al Z s (VR w) k (.ref s.heap.objs.size) { s with heap := s.heap.push { cls := .type "list", data := .seq xs.toArray }, toks := tk } := by
  unfold wNewL at hw
  cases lv with
  | true =>
    simp only [if_true] at hw
    have p2 := Post.allocL R (o := { cls := .type "list", data := .seq xs.toArray }) (so := .list as) rfl tk ⟨xs, listO xs, r.mono (fun u_ h => h) (List.prefix_append _ _)⟩
    refine Ret.mk p2 ?_ hw
    exact ⟨_, by rw [← R.len]; simp, rfl⟩
  | false =>
    simp only [Bool.false_eq_true, if_false] at hw
    have p2 := Post.allocZ R (o := { cls := .type "list", data := .seq xs.toArray }) rfl tk
    refine Ret.mk p2 ?_ hw
    exact ⟨_, _, xs, rfl, .head _, listO xs, r.mono (fun u_ h => .tail _ h) (List.prefix_refl _)⟩
theorem newT {as : List SV} {xs : List Value} {k : SV → St → Prop} (R : SRel w hB c st al Z s) (r : VRs w Z al as xs) (tk : Nat) (hw : k (.tup as) st) :
    Ret w hB c al Z s (VR w) k (.ref s.heap.objs.size) { s with heap := s.heap.push { cls := .type "tuple", data := .seq xs.toArray }, toks := tk } := by
  have p2 := Post.allocZ R (o := { cls := .type "tuple", data := .seq xs.toArray }) rfl tk
  refine Ret.mk p2 ?_ hw
  exact ⟨_, _, xs, rfl, .head _, tupO xs, r.mono (fun u_ h => .tail _ h) (List.prefix_refl _)⟩

noncomputable def wAdd (lv : Bool) (a b : SV) : T SV := fun k st => asInt a (fun x => asInt b (fun y => k (.int (x + y)) st) False) (asStr a (fun x => asStr b (fun y => x.length + y.length ≤ 10000000 ∧ k (.str (x ++ y)) st) False)
  (on1 (lstOf st a) (fun xs => on1 (lstOf st b) (fun ys => xs.length + ys.length ≤ 100000 ∧ wNewL lv (xs ++ ys) k st) False) False))
theorem o_addG (lv : Bool) : Op2 w hB c (VR w) (binaryOp .Add) (wAdd lv) := by
  intro st al Z s k a va b vb R ra rb hw
  rcases asInt.or hw ra with ⟨x, t1, hw_1⟩ | hw_1
  · obtain ⟨y, t2, hw_2⟩ := asInt.v hw_1 rb
    exact PyProof.Rows.add_int (Ret.toks R _ (vInt _ _) hw_2)
  · rcases asStr.or hw_1 ra with ⟨x, t1, hw_2⟩ | hw_2
    · obtain ⟨y, t2, hw_3⟩ := asStr.v hw_2 rb
      exact PySem.P.add_str (cat_post hw_3.1 fun tk tk' => Ret.toks R _ (vStr _ _) hw_3.2)
    · obtain ⟨xs, e1, hw_3⟩ := on1.get hw_2
      obtain ⟨ys, e2, hw_4⟩ := on1.get hw_3
      obtain ⟨l, us, n, rfl, hl, rl⟩ := lst_at R ra e1
      obtain ⟨l2, us2, n2, rfl, hl2, rl2⟩ := lst_at R rb e2
      have h1 := rl.length
      have h2 := rl2.length
      refine PySem.P.add_list hl hl2 ?_ (by rw [List.size_toArray, List.size_toArray, h1, h2, sizeLine_eq]; have := hw_4.1; omega)
      rw [List.append_toArray]
      exact newL R (rl.append rl2) s.toks hw_4.2

theorem VRs.rep {as : List SV} {xs : List Value} (r : VRs w Z al as xs) : ∀ n : Nat, VRs w Z al (List.replicate n as).flatten (List.replicate n xs).flatten
  | 0 => Eq.refl _
  | n + 1 => by
    rw [List.replicate_succ, List.replicate_succ, List.flatten_cons, List.flatten_cons]
    exact r.append (VRs.rep r n)
noncomputable def wMul (lv : Bool) (a b : SV) : T SV := fun k st => asInt b (fun n => asInt a (fun x => (-1152921504606846976 ≤ x ∧ x ≤ 1152921504606846976) ∧ k (.int (x * n)) st)
  (asStr a (fun z => one z (fun x => n ≤ 1000 ∧ -1000 ≤ n ∧ k (.str (List.replicate n.toNat x)) st) False)
  (on1 (lstOf st a) (fun xs => xs.length ≤ 1 ∧ n ≤ 1000 ∧ -1000 ≤ n ∧ wNewL lv (List.replicate n.toNat xs).flatten k st) False))) False
theorem rep_S (x : Nat) (n : Nat) : (⟨(List.replicate n (S [x]).cps).foldl (· ++ ·) #[]⟩ : Str) = S (List.replicate n x) := by
  apply Str.ext'
  apply Array.toList_inj.mp
  have := foldl_rep x n #[]
  simpa [S] using this
theorem o_mulG (lv : Bool) : Op2 w hB c (VR w) (binaryOp .Mult) (wMul lv) := by
  intro st al Z s k a va b vb R ra rb hw
  obtain ⟨n, u, hw_1⟩ := asInt.v hw rb
  rcases asInt.or hw_1 ra with ⟨x, t1, hw_2⟩ | hw_2
  · have g := hw_2.1
    exact PyProof.Rows.mul_int (Ret.toks R _ (vInt _ _) hw_2.2) (IntMulOk.of_left (intBits_le_64 (by omega) (by omega)))
  rcases asStr.or hw_2 ra with ⟨z, t1, hw_3⟩ | hw_3
  · obtain ⟨x, h1, h2, hw_4⟩ := one.get hw_3
    have g : MulOk (S [x]) n := mulOk_of 1 1000 (by simp [S, Str.length]) (by omega) (by omega) (by omega) (by omega)
    have q : ∀ tk tk', Ret w hB c al Z s (VR w) k (.str (S (List.replicate n.toNat x)) tk) { s with toks := tk' } := fun tk tk' => Ret.toks R _ (vStr _ _) hw_4
    refine PySem.P.mul_str g.1 g.2.1 g.2.2 ?_
    by_cases hn : n < 1
    · rw [if_pos hn]
      have e : n.toNat = 0 := by omega
      have q' := q s.toks (s.toks + 1)
      rw [e] at q'
      exact ⟨by decide, q'⟩
    · rw [if_neg hn]
      by_cases h1' : (n == 1 || (S [x]).length == 0) = true
      · rw [if_pos h1']
        have : n = 1 := by simpa [S, Str.length] using h1'
        subst this
        exact q t1 s.toks
      · rw [if_neg h1', rep_S]
        exact ⟨by rw [S_length, sizeLine_eq, List.length_replicate]; omega, q _ _⟩
  · · obtain ⟨xs, e1, h0, h1, h2, hw_4⟩ := on1.get hw_3
      obtain ⟨l, us, m, rfl, hl, rl⟩ := lst_at R ra e1
      have hlen := rl.length
      have hz : us.toArray.size * n.toNat ≤ 1000 := by
        rw [List.size_toArray, hlen]
        have : n.toNat ≤ 1000 := by omega
        calc xs.length * n.toNat ≤ 1 * 1000 := Nat.mul_le_mul h0 this
          _ = 1000 := by omega
      refine wpAny_binaryOp_repeat_ref (T := "list") (U := "int") (by decide) ⟨_, hl, rfl⟩ (fun s' => typeIs_int s' n u) noFill_list_mul F.fills_int_mul F.slot_int_rmul repeat_list F.slot_int_index.lookup
        (call_meets F.slot_int_rmul (typeIs_int s n u) F.entry_int_rmul (F.args_int_rmul_2 _ _) (lm_int_rmul_list_any n u l us.toArray m none #[])
          ⟨hl, rfl, ⟨_, hl, rfl⟩, call_meets F.slot_list_mul ⟨_, hl, rfl⟩ F.entry_list_mul (F.args_list_mul_2 _ _)
            (lm_list_mul_any l us.toArray m none #[] n u (by simp [Builtin.List.listFitsIndex]; omega) (by omega) (by rw [List.size_toArray] at hz; simp [Builtin.List.listTooLong, sizeLine]; omega))
            ⟨hl, ?_⟩⟩)
      rw [listMul_foldl_if]
      exact newL R (rl.rep _) s.toks hw_4

noncomputable def partOf : SV → Option (Option Nat)
  | .none => some none
  | .int i => if 0 ≤ i ∧ i ≤ 1000000 then some (some i.toNat) else Option.none
  | _ => Option.none
noncomputable def cutN {α : Type} (x : List α) (lo hi : Option Nat) : List α := match lo, hi with
  | none, none => x
  | some a, none => x.drop a
  | none, some b => x.take b
  | some a, some b => (x.drop a).take (b - a)
noncomputable def wSlice (a lo hi : SV) : T SV := fun k st => on1 (partOf lo) (fun lo => on1 (partOf hi) (fun hi => asStr a (fun x => x.length ≤ 1000000 ∧ k (.str (cutN x lo hi)) st)
  (on1 (tupOf a) (fun vs => lo = none ∧ on1 hi (fun b => b < vs.length ∧ vs.length ≤ 1000 ∧ k (.tup (vs.take b)) st) False)
  (on1 (lstOf st a) (fun vs => vs.length ≤ 1000 ∧ k (.list (cutN vs lo hi)) st) False))) False) False
theorem part_of {a : SV} {va : Value} {lo : Option Nat} (h : partOf a = some lo) (r : VR w Z al a va) : ∃ p : Option (Int × Tok), va = partValue p ∧ p.map (·.1) = lo.map (fun n : Nat => (n : Int)) := by
  cases a with
  | none =>
    cases h
    exact ⟨none, r, rfl⟩
  | int i =>
    simp only [partOf] at h
    split at h
    · cases h
      obtain ⟨t, rfl⟩ := r
      exact ⟨some (i, t), rfl, by simp; omega⟩
    · cases h
  | _ => simp [partOf] at h
theorem isPart_of (p : Option (Int × Tok)) : IsPart (partValue p) (p.map (·.1)) := by
  cases p with
  | none => exact .none
  | some q => exact .int q.1 q.2

theorem clp (x y : Nat) : max (0 : Int) (min (x : Int) (y : Int)) = ((min x y : Nat) : Int) := by
  rcases Nat.le_total x y with h | h
  · rw [Nat.min_eq_left h, Int.min_eq_left (Int.ofNat_le.mpr h), Int.max_eq_right (Int.natCast_nonneg _)]
  · rw [Nat.min_eq_right h, Int.min_eq_right (Int.ofNat_le.mpr h), Int.max_eq_right (Int.natCast_nonneg _)]
theorem nneg (n : Nat) : ¬ ((n : Int) < 0) := Int.not_lt.mpr (Int.natCast_nonneg n)
theorem sliceIdx_clip (a b len : Nat) : Builtin.Str.strSliceIndices (some (a : Int)) (some (b : Int)) 1 len = (List.range (min b len - min a len)).map (min a len + ·) := by
  have one : (1 : Int) > 0 := by decide
  rcases Nat.lt_or_ge (min b len) (min a len) with h | h
  · have e2 : ¬ (((min a len : Nat) : Int) < ((min b len : Nat) : Int)) := fun h' => Nat.lt_asymm h (Int.ofNat_lt.mp h')
    simp only [Builtin.Str.strSliceIndices, sliceRange, nneg, if_false, one, if_true, clp, e2, Nat.sub_eq_zero_of_le (Nat.le_of_lt h)]
    rfl
  · have := StrLaws.strSliceIndices_plain (len := len) h (Nat.min_le_right _ _)
    rw [← this]
    simp only [Builtin.Str.strSliceIndices, nneg, if_false, one, if_true, clp, Nat.min_eq_left (Nat.min_le_right a len), Nat.min_eq_left (Nat.min_le_right b len)]
theorem cutN_nat {α : Type} (x : List α) (lo hi : Option Nat) : cutN x lo hi = (x.drop (lo.getD 0)).take (hi.getD x.length - lo.getD 0) := by
  cases lo <;> cases hi <;> simp [cutN]
  exact (List.take_of_length_le (by simp)).symm
theorem min_cut {α : Type} (x : List α) (a b : Nat) : (x.drop (min a x.length)).take (min b x.length - min a x.length) = (x.drop a).take (b - a) := by
  rcases Nat.lt_or_ge a x.length with h | h
  · rw [Nat.min_eq_left (Nat.le_of_lt h)]
    rcases Nat.lt_or_ge b x.length with h2 | h2
    · rw [Nat.min_eq_left (Nat.le_of_lt h2)]
    · rw [Nat.min_eq_right h2]
      rw [List.take_of_length_le (l := x.drop a) (i := b - a) (by simp; omega), List.take_of_length_le (by simp)]
  · rw [Nat.min_eq_right h, List.drop_of_length_le h, List.drop_length]
    simp
theorem picked_eq (x : Cs) (l u : Option (Int × Tok)) (lo hi : Option Nat) (hl : l.map (·.1) = lo.map (fun n : Nat => (n : Int))) (hu : u.map (·.1) = hi.map (fun n : Nat => (n : Int))) :
    slicePicked (S x) l u none = (List.range (min (hi.getD x.length) x.length - min (lo.getD 0) x.length)).map (min (lo.getD 0) x.length + ·) := by
  unfold slicePicked
  rw [hl, hu, S_length, ← sliceIdx_clip]
  show Builtin.Str.strSliceIndices _ _ 1 x.length = _
  cases lo with
  | none =>
    rw [Option.map_none, StrLaws.sliceIdx_none_lo]
    cases hi with
    | none => rw [Option.map_none, StrLaws.sliceIdx_none_hi]; rfl
    | some b => rfl
  | some a =>
    cases hi with
    | none => rw [Option.map_none, StrLaws.sliceIdx_none_hi]; rfl
    | some b => rfl
theorem slice_S (x : Cs) (l u : Option (Int × Tok)) (lo hi : Option Nat) (hl : l.map (·.1) = lo.map (fun n : Nat => (n : Int))) (hu : u.map (·.1) = hi.map (fun n : Nat => (n : Int))) :
    ((slicePicked (S x) l u none).filterMap ((S x).cps[·]?)) = cutN x lo hi := by
  rw [picked_eq x l u lo hi hl hu, pick_run, S_list, min_cut, cutN_nat]
theorem pick_cut (xs : List Value) (lo hi : Option Nat) : slicePick xs.toArray (lo.map (fun n : Nat => (n : Int))) (hi.map (fun n : Nat => (n : Int))) none = (cutN xs lo hi).toArray := by
  rw [slicePick_plain]
  have e : ∀ (o : Option Nat) (d : Nat), d ≤ xs.length → (o.map (fun n : Nat => (n : Int))).elim d (clipAt xs.toArray.size) = min (o.getD d) xs.length := fun o d hd => by
    cases o with
    | none => simp; omega
    | some a => simp only [Option.map_some, Option.elim, clipAt_nat, List.size_toArray, Option.getD_some]
  rw [List.size_toArray] at e
  simp only [List.size_toArray]
  rw [e lo 0 (Nat.zero_le _), e hi xs.length (Nat.le_refl _), min_cut, cutN_nat]
theorem VRs.cutN {as : List SV} {xs : List Value} (r : VRs w Z al as xs) (lo hi : Option Nat) : VRs w Z al (cutN as lo hi) (cutN xs lo hi) := by
  cases lo with
  | none =>
    cases hi with
    | none => exact r
    | some b => exact r.take b
  | some a =>
    cases hi with
    | none => exact r.drop a
    | some b => exact (r.drop a).take _

theorem adjust_to (b n : Nat) (hb : b ≤ n) : Builtin.Slice.sliceAdjust none (some (b : Int)) 1 (n : Int) = (0, (b : Int)) := by
  unfold Builtin.Slice.sliceAdjust
  have h1 : ¬ ((1 : Int) < 0) := by omega
  have h2 : ¬ ((b : Int) < 0) := by omega
  simp only [h1, h2, if_false]
  congr 1
  omega
theorem places_to (b : Nat) : Builtin.Slice.slicePlaces 0 (b : Int) 1 = b := by
  unfold Builtin.Slice.slicePlaces
  have h1 : (1 : Int) > 0 := by omega
  simp only [h1, if_true, Int.ediv_one]
  split <;> omega
theorem sliceApplied_to {A : Around} {E : Value → Shared → Prop} {sl : Addr} {b n : Nat} {u : Tok} {Q : Int × Int × Nat → Shared → Prop} (hs : s.heap.IsSliceOf sl .none (.int b u) .none) (hb : b ≤ n) (h : Q (0, 1, b) s) :
    wpAny (model P w) A (Builtin.Slice.sliceApplied (.ref sl) (pure (n : Int))) Q E s := by
  obtain ⟨os, hos, hcs, hds⟩ := id hs
  unfold Builtin.Slice.sliceApplied Builtin.Slice.sliceFields
  refine wpAny_bind (wpAny_bind (wpAny_field hos hds (x := .none) rfl (wpAny_bind (wpAny_field hos hds (x := .int b u) rfl (wpAny_bind (wpAny_field hos hds (x := .none) rfl (wpAny_pure ?_)))))))
  refine wpAny_bind (slicePart_none ?_)
  show wpAny _ _ (if ((1 : Int) == 0) = true then _ else _) _ _ s
  rw [if_neg (by decide)]
  refine wpAny_bind (slicePart_none (wpAny_bind (slicePart_int (wpAny_bind (wpAny_pure ?_)))))
  show wpAny _ _ (match Builtin.Slice.sliceAdjust none (some (b : Int)) 1 (n : Int) with | (lo, hi) => pure (lo, (1 : Int), Builtin.Slice.slicePlaces lo hi 1)) _ _ s
  rw [adjust_to b n hb]
  show wpAny _ _ (pure ((0 : Int), (1 : Int), Builtin.Slice.slicePlaces (0 : Int) (b : Int) 1)) _ _ s
  rw [places_to b]
  exact wpAny_pure h
theorem pick_to (xs : Array Value) (b : Nat) : ((List.range b).filterMap fun (k : Nat) => xs[((0 : Int) + (k : Int) * 1).toNat]?).toArray = (xs.toList.take b).toArray := by
  have e : (fun (k : Nat) => xs[((0 : Int) + (k : Int) * 1).toNat]?) = fun k => xs[0 + k]? := by
    funext k
    have : ((0 : Int) + (k : Int) * 1).toNat = 0 + k := by omega
    rw [this]
  rw [e]
  have := pick_run xs 0 b
  rw [List.filterMap_map] at this
  have e2 : ((fun x => xs[x]?) ∘ fun x => 0 + x) = fun k => xs[0 + k]? := rfl
  rw [e2] at this
  rw [this, List.drop_zero]
theorem getItem_tuple_to {A : Around} {E : Value → Shared → Prop} {t sl : Addr} {items : Array Value} {b : Nat} {u : Tok} {Q : Value → Shared → Prop} (ht : IsTup s.heap t items) (hs : s.heap.IsSliceOf sl .none (.int b u) .none) (hb : b < items.size) (hsz : items.size ≤ sizeLine)
    (h : Q (.ref s.heap.objs.size) { s with heap := s.heap.push { cls := .type "tuple", data := .seq (items.toList.take b).toArray } }) : wpAny (model P w) A (getItem (.ref t) (.ref sl)) Q E s := by
  have hdrop : sizeOk (.seq (items.toList.take b).toArray) := by
    show (items.toList.take b).toArray.size ≤ sizeLine
    rw [List.size_toArray, List.length_take, Array.length_toList]
    omega
  obtain ⟨os, hos, hcs, hds⟩ := id hs
  have hTs : s.TypeIs (.ref sl) "slice" := ⟨os, hos, hcs⟩
  unfold getItem
  try with_reducible refine wpAny_holding ?_
  first | refine wpAny_bind (wpAny_pure ?_) | skip
  refine wpAny_bind (wpAny_sequenceKey ht.typeIs (by decide) ?_)
  refine wpAny_bind (wpAny_callSpecial?_slot (name := Str.ofString "__getitem__") ht.typeIs slot_tuple_getitem
    (wpAny_call_entry slot_tuple_getitem ht.typeIs entry_tuple_getitem ?_ (args_tuple_getitem _ _)))
  show wpAny _ _ (Builtin.Tuple.tupleItemsOf (.ref t) >>= _) _ _ s
  refine wpAny_bind (tupleItemsOf_ ht ?_)
  refine wpAny_bind (wpAny_typeOf hTs ?_)
  rw [if_pos (by decide)]
  refine wpAny_bind (sliceApplied_to hs (Nat.le_of_lt hb) ?_)
  have hno : ¬ (((0 : Int) == 0 && (1 : Int) == 1 && b == items.size) = true) := by
    have : (b == items.size) = false := by rw [beq_eq_false_iff_ne]; omega
    rw [this]; simp
  show wpAny _ _ (if ((0 : Int) == 0 && (1 : Int) == 1 && b == items.size) = true then _ else _) _ _ s
  rw [if_neg hno, pick_to items b]
  first
    | exact wpAny_bind (m := Builtin.Tuple.tupleExact _) (wpAny_newObj_type (wpAny_pure ⟨_, rfl, wpAny_pure h⟩) hdrop)
    | exact wpAny_bind (m := Builtin.Tuple.tupleExact _) (wpAny_newObj_type (wpAny_bind (wpAny_pure (wpAny_pure ⟨_, rfl, wpAny_pure h⟩))) hdrop)
    | exact wpAny_bind (wpAny_bind (m := Builtin.Tuple.tupleExact _) (wpAny_newObj_type (wpAny_pure (wpAny_pure ⟨_, rfl, wpAny_pure h⟩)) hdrop))
    | exact wpAny_bind (wpAny_bind (m := Builtin.Tuple.tupleExact _) (wpAny_newObj_type (wpAny_pure ⟨_, rfl, wpAny_pure h⟩) hdrop))

noncomputable abbrev sliceO (vl vu : Value) : Obj := { cls := .type "slice", data := .fields #[vl, vu, .none] }
theorem slice_op {st al Z s} {k : SV → St → Prop} {a lo hi : SV} {va vl vu : Value} {value : PySem.Expr} {lower upper : Option PySem.Expr} {p : Pos} (R : SRel w hB c st al Z s) (ra : VR w Z al a va) (rl : VR w Z al lo vl) (ru : VR w Z al hi vu) (hw : wSlice a lo hi k st) :
    WP w c.A (subscriptTail value (.Slice lower upper none p) va (.ref s.heap.objs.size)) (Ret w hB c al Z s (VR w) k) { s with heap := s.heap.push (sliceO vl vu) } := by
  obtain ⟨lo', e1, hw_1⟩ := on1.get hw
  obtain ⟨hi', e2, hw_2⟩ := on1.get hw_1
  · obtain ⟨pl, rfl, hpl⟩ := part_of e1 rl
    obtain ⟨pu, rfl, hpu⟩ := part_of e2 ru
    have p0 : Post w hB c al Z s st al Z { s with heap := s.heap.push (sliceO (partValue pl) (partValue pu)) } := Post.keep R (fun u_ u_ e => Heap.get?_push_of_some _ e)
    rcases asStr.or hw_2 ra with ⟨x, t, hw_3⟩ | hw_3
    · refine tail_any (ops := [.ref s.heap.objs.size, .str (S x) t]) (typeIs_str _ _ _) F.slot_str_getitem.lookup (wpAny_getItem_str_slice (l := pl) (u := pu) (st := none) ⟨_, Heap.get?_push_size _ rfl, rfl, rfl⟩ rfl ?_) rfl
      unfold sliceMade
      have q : ∀ tk tk', Ret w hB c al Z s (VR w) k (.str (S (cutN x lo' hi')) tk) { s with heap := s.heap.push (sliceO (partValue pl) (partValue pu)), toks := tk' } := fun tk tk' => Ret.mk (p0.trans (Post.toks p0.rel tk')) (vStr _ _) hw_3.2
      have e := slice_S x pl pu lo' hi' hpl hpu
      by_cases hc : (((none : Option (Int × Tok)).map (·.1)).getD 1 == 1 && (slicePicked (S x) pl pu none).length == (S x).length) = true
      · rw [if_pos hc]
        have hl : (slicePicked (S x) pl pu none).length = x.length := by simpa [S_length] using hc
        have e3 : cutN x lo' hi' = x := by
          have hlen : (cutN x lo' hi').length = x.length := by
            rw [← e]
            have hall : ∀ i ∈ slicePicked (S x) pl pu none, ((S x).cps[i]?).isSome = true := by
              intro i hi
              rw [picked_eq x pl pu lo' hi' hpl hpu] at hi
              obtain ⟨j, hj, rfl⟩ := List.mem_map.mp hi
              have := List.mem_range.mp hj
              rw [Option.isSome_iff_exists]
              exact ⟨_, Array.getElem?_eq_getElem (by simp only [S, List.size_toArray]; exact Nat.lt_of_lt_of_le (Nat.add_lt_of_lt_sub' this) (Nat.min_le_right _ _))⟩
            rw [List.length_filterMap_eq_countP, List.countP_eq_length.mpr hall, hl]
          rw [cutN_nat] at hlen ⊢
          rw [List.length_take, List.length_drop] at hlen
          rw [List.take_of_length_le (by rw [List.length_drop]; exact Nat.le_trans (Nat.sub_le _ _) (Nat.le_trans (Nat.le_of_eq hlen.symm) (Nat.min_le_left _ _)))]
          rcases Nat.eq_zero_or_pos (lo'.getD 0) with h0 | h0
          · rw [h0, List.drop_zero]
          · have : x.length = 0 := Nat.eq_zero_of_not_pos fun hp => absurd (Nat.le_trans (Nat.le_of_eq hlen.symm) (Nat.min_le_right _ _)) (Nat.not_le.mpr (Nat.sub_lt hp h0))
            rw [List.length_eq_zero_iff.mp this]; simp
        have := q t s.toks
        rw [e3] at this
        exact this
      · rw [if_neg hc, e]
        refine ⟨?_, q _ _⟩
        show (S (cutN x lo' hi')).length ≤ _
        rw [S_length, sizeLine_eq, cutN_nat, List.length_take, List.length_drop]
        exact Nat.le_trans (Nat.le_trans (Nat.min_le_right _ _) (Nat.sub_le _ _)) (Nat.le_trans hw_3.1 (by decide))
    rcases on1.or hw_3 with ⟨vs, q, rfl, hw_4⟩ | hw_4
    · · obtain ⟨b, rfl, h1, h2, hw_5⟩ := on1.get hw_4
        obtain ⟨l, xs, n, rfl, hl, rr⟩ := tup_at p0.rel (tupOf_eq q ▸ ra)
        have hxl := rr.length
        cases pl with
        | some w1_ => simp at hpl
        | none =>
          cases pu with
          | none => simp at hpu
          | some q =>
            obtain ⟨z, t⟩ := q
            simp at hpu
            subst hpu
            have p2 := newT (st := st) (k := k) (s := { s with heap := s.heap.push (sliceO (partValue none) (partValue (some ((b : Int), t)))) }) p0.rel (rr.take b) s.toks hw_5
            refine tail_any (ops := [.ref s.heap.objs.size, .ref l]) (T := "tuple") ⟨_, hl, rfl⟩ slot_tuple_getitem.lookup (getItem_tuple_to (isTup_of hl) (b := b) (u := t) (Heap.IsSliceOf.new ..) (by rw [List.size_toArray]; omega) (by rw [List.size_toArray, hxl, sizeLine_eq]; omega) ?_) rfl
            obtain ⟨st', al', Z', sv, p3, r3, hk⟩ := p2
            exact ⟨st', al', Z', sv, p0.trans p3, r3, hk⟩
    · · obtain ⟨vs, e3, hw_5⟩ := on1.get hw_4
        obtain ⟨l, xs, n, rfl, hl, rr⟩ := lst_at p0.rel ra e3
        have hxl := rr.length
        refine tail_any (ops := [.ref s.heap.objs.size, .ref l]) (T := "list") ⟨_, hl, rfl⟩ list_getitem_lookup (wpAny_getItem_list_slice hl.isList (Heap.IsSliceOf.new ..) (isPart_of pl) (isPart_of pu) .none (by simp) ?_ (by rw [List.size_toArray, hxl, sizeLine_eq]; have := hw_5.1; omega)) rfl
        rw [hpl, hpu, pick_cut]
        have p2 := newL (lv := false) (st := st) (k := k) (s := { s with heap := s.heap.push (sliceO (partValue pl) (partValue pu)) }) p0.rel (rr.cutN lo' hi') s.toks (by simpa [wNewL] using hw_5.2)
        obtain ⟨st', al', Z', sv, p3, r3, hk⟩ := p2
        exact ⟨st', al', Z', sv, p0.trans p3, r3, hk⟩

noncomputable abbrev PartTo (w : World) (hB : Heap) (c : Cx) (e : Option PySem.Expr) (W : T SV) : Prop := Tri w hB c (VR w) (evalPart e c.env) W
theorem pt_none : PartTo w hB c none (wConst .none) := fun u_ u_ u_ u_ u_ R hw => by
  rw [evalPart_none]
  exact wpAny_pure (Ret.here R (by exact Eq.refl _) hw)
theorem pt_some {e : PySem.Expr} {W : T SV} (h : EvalsTo w hB c e W) : PartTo w hB c (some e) W := h
theorem ev_slice {v : PySem.Expr} {lo hi : Option PySem.Expr} {p pos : Pos} {wv wl wu : T SV} (hv : EvalsTo w hB c v wv) (hl : PartTo w hB c lo wl) (hu : PartTo w hB c hi wu) :
    EvalsTo w hB c (.Subscript v (.Slice lo hi none p) pos) (fun k => wv fun a => wl fun x => wu fun y => wSlice a x y k) := by
  intro st al Z s k R hw
  refine Subscript_ (wpAny_mono (hv st al Z s _ R hw) (fun va s1 h1 => ?_) fun u_ u_ h => h)
  obtain ⟨st1, al1, Z1, a, p1, r1, hk1⟩ := h1
  refine wpAny_Slice (wpAny_mono (hl st1 al1 Z1 s1 _ p1.rel hk1) (fun vl s2 h2 => ?_) fun u_ u_ h => h)
  obtain ⟨st2, al2, Z2, x, p2, r2, hk2⟩ := h2
  refine wpAny_mono (hu st2 al2 Z2 s2 _ p2.rel hk2) (fun vu s3 h3 => ?_) fun u_ u_ h => h
  obtain ⟨st3, al3, Z3, y, p3, r3, hk3⟩ := h3
  rw [evalPart_none]
  refine wpAny_pure ?_
  exact wpAny_mono (slice_op p3.rel ((r1.mono p2.sub p2.pre).mono p3.sub p3.pre) (r2.mono p3.sub p3.pre) r3 hk3) (fun u1_ u2_ ⟨st2, al2, Z2, b, q, r, hk⟩ => ⟨st2, al2, Z2, b, ((p1.trans p2).trans p3).trans q, r, hk⟩) fun u_ u_ h => h
end

noncomputable def dget : List Cs → List SV → Cs → Option SV
  | k :: ks, v :: vs, x => if k = x then some v else dget ks vs x
  | w1_, w2_, w3_ => none
noncomputable def dput : List Cs → List SV → Cs → SV → List SV
  | k :: ks, v :: vs, x, u => (if k = x then u else v) :: dput ks vs x u
  | w1_, vs, w2_, w3_ => vs
noncomputable def dkeys (ks : List Cs) (x : Cs) : List Cs := if x ∈ ks then ks else ks ++ [x]
noncomputable def dvals (ks : List Cs) (vs : List SV) (x : Cs) (u : SV) : List SV := if x ∈ ks then dput ks vs x u else vs ++ [u]
noncomputable def soDict : Option SO → Option (List Cs × List SV)
  | some (.dict ks vs) => some (ks, vs)
  | _ => none
theorem soDict_eq {o : Option SO} {p : List Cs × List SV} (h : soDict o = some p) : o = some (.dict p.1 p.2) := by
  rcases o with _ | o
  · cases h
  · cases o with
    | dict ks us => cases h; rfl
    | _ => cases h
noncomputable def dctOf (st : St) : SV → Option (List Cs × List SV)
  | .dict ks vs => some (ks, vs)
  | .obj i => soDict (hget st.heap i)
  | _ => none

section
variable {w : World} {hB : Heap} {c : Cx} {st : St} {al : List Addr} {Z : Led} {s : Shared}

theorem S_eq {x y : Cs} : S x = S y ↔ x = y := ⟨S_inj, fun h => by rw [h]⟩
theorem dct_at (R : SRel w hB c st al Z s) {a : SV} {va : Value} (r : VR w Z al a va) {ks : List Cs} {vs : List SV} (h : dctOf st a = some (ks, vs)) :
    ∃ d kvs, va = .ref d ∧ s.heap.DictOf (strKind P w) d kvs ∧ kvs.map (·.1) = ks.map S ∧ VRs w Z al vs (kvs.map (·.2)) ∧ (d == sysModules) = false := by
  cases a with
  | dict ks' vs' =>
    cases h
    obtain ⟨d, o, kvs, rfl, hz, hd, hk, rr⟩ := r
    have hcls : o.cls = .type "dict" := by obtain ⟨es, ep, hx, _⟩ := id hd; exact hx.1
    exact ⟨d, kvs, rfl, Heap.dictOf_iff.mpr ⟨o, R.frz _ hz, hd⟩, hk, rr, beq_eq_false_iff_ne.mpr (R.nomod.2 _ hz hcls)⟩
  | obj i =>
    obtain ⟨d, hl, rfl⟩ := r
    obtain ⟨o, ho, kvs, hd, hk, rr⟩ := R.live i _ d (hget_eq (soDict_eq h)) hl
    exact ⟨d, kvs, rfl, Heap.dictOf_iff.mpr ⟨o, ho, hd⟩, hk, rr, beq_eq_false_iff_ne.mpr (R.nomod.1 _ (List.mem_of_getElem? hl))⟩
  | _ => cases h

theorem dget_at {x : Cs} : ∀ {ks : List Cs} {vs : List SV} {kvs : List (Str × Value)}, kvs.map (·.1) = ks.map S → VRs w Z al vs (kvs.map (·.2)) →
    (∀ v, dget ks vs x = some v → ∃ u, valueAt kvs (S x) = some u ∧ VR w Z al v u) ∧ ((valueAt kvs (S x)).isSome = decide (x ∈ ks))
  | [], vs, kvs, h1, h2 => by
    cases kvs with
    | nil => simp [dget, valueAt]
    | cons p r => simp at h1
  | k :: ks, vs, kvs, h1, h2 => by
    cases kvs with
    | nil => simp at h1
    | cons p r =>
      obtain ⟨pk, pv⟩ := p
      simp only [List.map_cons, List.cons.injEq] at h1
      obtain ⟨rfl, h1⟩ := h1
      cases vs with
      | nil => cases (h2 : _ = _)
      | cons v vs =>
        obtain ⟨u, r', e, h3, h4⟩ := h2
        cases e
        have ih := dget_at (x := x) h1 h4
        unfold dget valueAt
        rw [List.find?_cons]
        by_cases hk : k = x
        · subst hk
          simp only [if_true, decide_true]
          exact ⟨fun v' e => by cases e; exact ⟨pv, rfl, h3⟩, by simp⟩
        · have hS : decide (S k = S x) = false := by simpa [S_eq] using hk
          rw [if_neg hk]
          simp only [hS]
          refine ⟨ih.1, ?_⟩
          rw [show (Option.map (·.2) (List.find? (fun kv => decide (kv.1 = S x)) r)) = valueAt r (S x) from rfl, ih.2]
          simp [Ne.symm hk]
theorem dput_at {x : Cs} {u : SV} {y : Value} (hu : VR w Z al u y) : ∀ {ks : List Cs} {vs : List SV} {kvs : List (Str × Value)}, kvs.map (·.1) = ks.map S → VRs w Z al vs (kvs.map (·.2)) →
    (kvs.map fun kv => if kv.1 = S x then (kv.1, y) else kv).map (·.1) = ks.map S ∧ VRs w Z al (dput ks vs x u) ((kvs.map fun kv => if kv.1 = S x then (kv.1, y) else kv).map (·.2))
  | [], vs, kvs, h1, h2 => by
    cases kvs with
    | nil => simpa [dput] using h2
    | cons p r => simp at h1
  | k :: ks, vs, kvs, h1, h2 => by
    cases kvs with
    | nil => simp at h1
    | cons p r =>
      obtain ⟨pk, pv⟩ := p
      simp only [List.map_cons, List.cons.injEq] at h1
      obtain ⟨rfl, h1⟩ := h1
      cases vs with
      | nil => cases (h2 : _ = _)
      | cons v vs =>
        obtain ⟨u', r', e, h3, h4⟩ := h2
        cases e
        have ih := dput_at (x := x) hu h1 h4
        simp only [List.map_cons, dput]
        by_cases hk : k = x
        · subst hk
          simp only [if_true]
          exact ⟨by rw [ih.1], y, _, rfl, hu, ih.2⟩
        · have hS : ¬ (S k = S x) := fun h => hk (S_inj h)
          rw [if_neg hS, if_neg hk]
          exact ⟨by rw [ih.1], pv, _, rfl, h3, ih.2⟩
theorem any_keys {x : Cs} : ∀ {ks : List Cs} {kvs : List (Str × Value)}, kvs.map (·.1) = ks.map S → kvs.any (fun kv => kv.1 = S x) = decide (x ∈ ks)
  | [], kvs, h => by
    cases kvs with
    | nil => simp
    | cons p r => simp at h
  | k :: ks, kvs, h => by
    cases kvs with
    | nil => simp at h
    | cons p r =>
      obtain ⟨pk, pv⟩ := p
      simp only [List.map_cons, List.cons.injEq] at h
      obtain ⟨rfl, h⟩ := h
      rw [List.any_cons, any_keys h]
      by_cases hk : k = x
      · subst hk; simp
      · have : decide (S k = S x) = false := by simpa [S_eq] using hk
        simp only [this, Bool.false_or]
        simp [Ne.symm hk]
theorem dset_at {x : Cs} {u : SV} {y : Value} {ks : List Cs} {vs : List SV} {kvs : List (Str × Value)} (hu : VR w Z al u y) (h1 : kvs.map (·.1) = ks.map S) (h2 : VRs w Z al vs (kvs.map (·.2))) :
    (stored kvs (S x) y).map (·.1) = (dkeys ks x).map S ∧ VRs w Z al (dvals ks vs x u) ((stored kvs (S x) y).map (·.2)) := by
  unfold stored dkeys dvals
  rw [any_keys h1]
  by_cases hx : x ∈ ks
  · simp only [hx, decide_true, if_true]
    exact dput_at hu h1 h2
  · simp only [hx, decide_false, Bool.false_eq_true, if_false, List.map_append, List.map_cons, List.map_nil]
    exact ⟨by rw [h1], h2.append (VRs.one hu)⟩

noncomputable def wItem (a b : SV) : T SV := fun k st => asInt b (fun i => on1 (tupOf a) (fun vs => (0 ≤ i ∧ i < 1000000) ∧ on1 (nth vs i.toNat) (fun v => k v st) False)
    (asStr a (fun x => (0 ≤ i ∧ i < 1000000) ∧ on1 x[i.toNat]? (fun v => k (.str [v]) st) False) (on1 (lstOf st a) (fun vs => (0 ≤ i ∧ i < 1000000) ∧ on1 (nth vs i.toNat) (fun v => k v st) False) False)))
  (asStr b (fun x => on1 (dctOf st a) (fun p => on1 (dget p.1 p.2 x) (fun v => k v st) False) False) False)
theorem g_any : GetOp w hB c wItem := by
  intro st al Z s k a va b vb R ra rb hw
  rcases asInt.or hw rb with ⟨i, t, hw_1⟩ | hw_1
  · rcases on1.or hw_1 with ⟨vs, e, hw_2⟩ | hw_2
    · exact g_tup R (tupOf_eq e ▸ ra) hw_2.1.1 hw_2.1.2 hw_2.2
    · rcases asStr.or hw_2 ra with ⟨x, t', hw_3⟩ | hw_3
      · exact g_str R hw_3.1.1 hw_3.1.2 hw_3.2
      · exact g_list st al Z s k _ va _ _ R ra rb hw_3
  · obtain ⟨x, t, hw_2⟩ := asStr.v hw_1 rb
    obtain ⟨⟨ks, vs⟩, e1, hw_3⟩ := on1.get hw_2
    obtain ⟨v, e2, hw_4⟩ := on1.get hw_3
    obtain ⟨d, kvs, rfl, hd, hk, rr, _⟩ := dct_at R ra e1
    obtain ⟨u, hu, ru⟩ := (dget_at hk rr).1 v e2
    exact ⟨"dict", _, hd.typeIs, slot_dict_getitem.lookup, wpAny_getItem_of (strKind_is _ _ _ _) hd.mapOf hu (Ret.toks R _ ru hw_4)⟩

noncomputable def wIn (a b : SV) : T SV := fun k st => asStr a (fun x => asStr b (fun y => one x (fun c => k (.bool (decide (c ∈ y))) st) False) (on1 (dctOf st b) (fun p => k (.bool (decide (x ∈ p.1))) st) False)) False
theorem o_in : Op2 w hB c (VR w) (compareOp .In) wIn := by
  intro st al Z s k a va b vb R ra rb hw
  obtain ⟨x, t, hw_1⟩ := asStr.v hw ra
  rcases asStr.or hw_1 rb with ⟨y, u, hw_2⟩ | hw_2
  · obtain ⟨d, hw_3⟩ := one.get hw_2
    exact o_in1 st al Z s k _ _ _ _ R ra rb hw_3
  · obtain ⟨⟨ks, vs⟩, e1, hw_3⟩ := on1.get hw_2
    obtain ⟨d, kvs, rfl, hd, hk, rr, lo⟩ := dct_at R rb e1
    refine wpAny_in_of (strKind_is _ _ _ _) lo hd.mapOf ?_
    rw [(dget_at hk rr).2]
    exact Ret.toks R _ (vBool _) hw_3

noncomputable def wSetItem (a b v : SV) : T Unit := fun k st => asObj a fun i => asInt b (fun z => onL (hget st.heap i) fun vs => (0 ≤ z ∧ z < (vs.length : Int)) ∧ vs.length ≤ 100000 ∧ k () (st.setH i (.list (vs.set z.toNat v))))
  (asStr b (fun x => onD (hget st.heap i) fun ks vs => ks.length ≤ 100000 ∧ k () (st.setH i (.dict (dkeys ks x) (dvals ks vs x v)))) False)
theorem setItem_listX {A : Around} {E : Value → Shared → Prop} {l : Addr} {xs : List Value} {n : Nat} {z : Int} {t : Tok} {v : Value} {Q : Unit → Shared → Prop} (hl : IsL s.heap l xs.toArray n)
    (h0 : 0 ≤ z) (hfit : z < 2 ^ 63) (hn : z < xs.length)
    (hQ : Q () { s with heap := s.heap.update l (Obj.mapSeq (·.setIfInBounds z.toNat v)) }) :
    wpAny (model P w) A (setItem (.ref l) (.int z t) v) Q E s := by
  unfold setItem
  try with_reducible refine wpAny_holding ?_
  first | refine wpAny_bind (wpAny_pure ?_) | skip
  refine wpAny_bind (wpAny_sequenceKey hl.isList.typeIs (by decide) ?_)
  refine wpAny_bind (wpAny_callSpecial?_slot (name := Str.ofString "__setitem__") hl.isList.typeIs slot_list_setitem
    (wpAny_call_entry slot_list_setitem hl.isList.typeIs entry_list_setitem ?_ (args_list_setitem _ _ _)))
  show wpAny _ _ (Builtin.List.listSubscript? (.int z t) >>= _) _ _ s
  refine wpAny_bind (wpAny_listSubscript_int (fitsIndex_of h0 hfit) ?_)
  clear hfit
  obtain ⟨j, rfl⟩ := Int.eq_ofNat_of_zero_le h0
  have hj : j < xs.toArray.size := by rw [List.size_toArray]; omega
  have hx' : xs.toArray[j]? = some xs.toArray[j] := Array.getElem?_eq_getElem hj
  show wpAny _ _ ((seqItemAt l j >>= fun r => pure (r.map (j, ·))) >>= _) _ _ s
  refine wpAny_bind (wpAny_bind (wpAny_seqItemAt hl rfl (wpAny_pure ?_)))
  rw [hx']
  show wpAny _ _ (setSeqItemAt l j v >>= _) _ _ s
  refine wpAny_bind (wpAny_setSeqItemAt hl rfl ?_)
  first
    | exact wpAny_bind (wpAny_pure (wpAny_pure ⟨.none, rfl, wpAny_pure hQ⟩))
    | exact wpAny_pure ⟨.none, rfl, wpAny_pure hQ⟩
theorem o_setItem : Op3 w hB c UnitR (fun o i v => setItem o i v) wSetItem := by
  intro st al Z s k a va b vb d vd R ra rb rd hw
  obtain ⟨i, l, hl, hw_1⟩ := asObj.v hw ra
  rcases asInt.or hw_1 rb with ⟨z, t, hw_2⟩ | hw_2
  · obtain ⟨vs, e, ⟨h0, h1⟩, h2, hw_3⟩ := onL.get hw_2
    obtain ⟨o, ho, xs, ⟨n, rfl⟩, rr⟩ := R.live i _ l (hget_eq e) hl
    have hxl := rr.length
    refine setItem_listX ho h0 (by omega) (by omega) ?_
    obtain ⟨n', hn⟩ := isL_upd ho (fun x => x.setIfInBounds z.toNat vd) (ys := xs.set z.toNat vd) (by simp)
    exact Ret.mk (Post.updL R (so' := .list (vs.set z.toNat d)) (hget_lt e) hl (Heap.SameBut.update ..) hn ⟨_, ⟨n', rfl⟩, rr.set _ rd⟩) trivial hw_3
  · obtain ⟨x, t, hw_3⟩ := asStr.v hw_2 rb
    obtain ⟨ks, vs, e, hs1, hw_4⟩ := onD.get hw_3
    obtain ⟨o, ho, kvs, hd, hk, rr⟩ := R.live i _ l (hget_eq e) hl
    have hln : kvs.length = ks.length := by have := congrArg List.length hk; simpa using this
    refine wpAny_setItem_pairs (hsz := by rw [hln, sizeLine_eq]; omega) (strKind_is _ _ _ _) (Heap.dictOf_iff.mpr ⟨o, ho, hd⟩) fun h' hm hs => ?_
    obtain ⟨o', ho', hd'⟩ := Heap.dictOf_iff.mp hm
    have := dset_at rd hk rr (x := x)
    exact Ret.mk (Post.updL R (so' := .dict (dkeys ks x) (dvals ks vs x d)) (s' := { s with heap := h', toks := s.toks + 1 }) (hget_lt e) hl hs ho' ⟨_, hd', this.1, this.2⟩) trivial hw_4

theorem as_sub {o i : PySem.Expr} {pos : Pos} {wo wi : T SV} (ho : EvalsTo w hB c o wo) (hi : EvalsTo w hB c i wi) :
    AssTo w hB c (.Subscript o i pos) (fun v k => wo fun a => wi fun b => wSetItem a b v k) := by
  intro st al Z s k v vv R rv hw
  show WP w c.A (assign (.Subscript o i pos) c.env vv) _ _
  rw [arm_assign_Subscript]
  refine wpAny_bind (wpAny_holding (wpAny_mono (ho st al Z s _ R hw) (fun va s1 h1 => ?_) fun u_ u_ h => h))
  obtain ⟨st1, al1, Z1, a, p1, r1, hk1⟩ := h1
  refine wpAny_bind (wpAny_holding (wpAny_mono (hi st1 al1 Z1 s1 _ p1.rel hk1) (fun vb s2 h2 => ?_) fun u_ u_ h => h))
  obtain ⟨st2, al2, Z2, b, p2, r2, hk2⟩ := h2
  refine wpAny_bind (wpAny_standAt (wpAny_bind (wpAny_holding (wpAny_mono (o_setItem st2 al2 Z2 s2 _ a va b vb v vv p2.rel (r1.mono p2.sub p2.pre) r2 ((rv.mono p1.sub p1.pre).mono p2.sub p2.pre) hk2) (fun u_ s3 h3 => ?_) fun u_ u_ h => h))))
  obtain ⟨st3, al3, Z3, u, p3, r3, hk3⟩ := h3
  refine wpAny_release ?_
  exact Ret.mk ((p1.trans p2).trans p3) trivial hk3

theorem ex_expr {e : PySem.Expr} {pos : Pos} {we : T SV} (he : EvalsTo w hB c e we) (hi : autoParam (interactive c.env = false) aRfl) (hs : autoParam (swapsWith e none pos.line c.env = pure false) aRfl) :
    ExecTo w hB c (.Expr e pos) (fun k => we fun u_ => k .next) := by
  intro st al Z s k R hw
  refine wpAny_Expr_any (wpAny_mono (he st al Z s _ R hw) (fun v s1 h => ?_) fun u_ u_ h => h) hi hs
  obtain ⟨st1, al1, Z1, sv, p1, r1, hk1⟩ := h
  exact RetS.mk (p1.toS R.pinl) FR.nx hk1
theorem ex_augsub {o i v : PySem.Expr} {tpos pos : Pos} {op : Operator} {wo wi wv : T SV} {wop : SV → SV → T SV} (ho : EvalsTo w hB c o wo) (hi : EvalsTo w hB c i wi) (hv : EvalsTo w hB c v wv) (hop : Op2 w hB c (VR w) (inplaceOp op) wop)
    (ha : ∀ ov iv new, augStore i ov iv new = (do holding [new, ov, iv] (setItem ov iv new); release [new, ov, iv] []; pure .next) := by intros; rfl) :
    ExecTo w hB c (.AugAssign (.Subscript o i tpos) op v pos) (fun k => wo fun a => wi fun b => wItem a b fun old => wv fun x => wop old x fun new => wSetItem a b new fun u_ => k .next) := by
  intro st al Z s k R hw
  refine wpAny_AugAssign_SubscriptAny (wpAny_mono (ho st al Z s _ R hw) (fun va s1 h1 => ?_) fun u_ u_ h => h) ha
  obtain ⟨st1, al1, Z1, a, p1, r1, hk1⟩ := h1
  refine wpAny_mono (hi st1 al1 Z1 s1 _ p1.rel hk1) (fun vb s2 h2 => ?_) fun u_ u_ h => h
  obtain ⟨st2, al2, Z2, b, p2, r2, hk2⟩ := h2
  have r1' := r1.mono p2.sub p2.pre
  obtain ⟨_, _, _, _, hg⟩ := g_any st2 al2 Z2 s2 _ a va b vb p2.rel r1' r2 hk2
  refine wpAny_mono hg (fun vo s3 h3 => ?_) fun u_ u_ h => h
  obtain ⟨st3, al3, Z3, old, p3, r3, hk3⟩ := h3
  refine wpAny_mono (hv st3 al3 Z3 s3 _ p3.rel hk3) (fun vx s4 h4 => ?_) fun u_ u_ h => h
  obtain ⟨st4, al4, Z4, x, p4, r4, hk4⟩ := h4
  refine wpAny_mono (hop st4 al4 Z4 s4 _ old vo x vx p4.rel (r3.mono p4.sub p4.pre) r4 hk4) (fun vn s5 h5 => ?_) fun u_ u_ h => h
  obtain ⟨st5, al5, Z5, new, p5, r5, hk5⟩ := h5
  have p35 := (p3.trans p4).trans p5
  refine wpAny_mono (o_setItem st5 al5 Z5 s5 _ a va b vb new vn p5.rel (r1'.mono p35.sub p35.pre) (r2.mono p35.sub p35.pre) r5 hk5) (fun u_ s6 h6 => ?_) fun u_ u_ h => h
  obtain ⟨st6, al6, Z6, u, p6, r6, hk6⟩ := h6
  exact RetS.mk ((((p1.trans p2).trans p35).trans p6).toS R.pinl) FR.nx hk6
end

section
variable (w : World) (hB : Heap) (c : Cx)
noncomputable def Tgts (fs : List (Value → Sem Unit)) (W : List SV → T Unit) : Prop :=
  ∀ st al Z s k as vs, SRel w hB c st al Z s → VRs w Z al as vs → W as k st → WP w c.A (assignInOrder fs vs) (Ret w hB c al Z s UnitR k) s
end
section
variable {w : World} {hB : Heap} {c : Cx}
theorem tg_nil : Tgts w hB c [] (fun as k st => as = [] ∧ k () st) := by
  intro st al Z s k as vs R r hw
  obtain ⟨he, hw⟩ := hw
  subst he
  have r' : vs = [] := r
  subst r'
  exact wpAny_pure (Ret.here R trivial hw)
noncomputable def wTgC (W1 : SV → T Unit) (W : List SV → T Unit) : List SV → T Unit := fun as k st => match as with
  | a :: r => W1 a (fun u_ => W r k) st
  | [] => False
theorem tg_cons {f : Value → Sem Unit} {fs : List (Value → Sem Unit)} {W1 : SV → T Unit} {W : List SV → T Unit} (h1 : Op1 w hB c UnitR f W1) (h : Tgts w hB c fs W) : Tgts w hB c (f :: fs) (wTgC W1 W) := by
  intro st al Z s k as vs R r hw
  cases as with
  | nil => exact hw.elim
  | cons a as =>
    obtain ⟨v, vs, rfl, r1, r2⟩ := r
    show WP w c.A (holding vs (f v) >>= fun u_ => assignInOrder fs vs) _ _
    refine wpAny_bind (wpAny_holding (wpAny_mono (h1 st al Z s _ a v R r1 hw) (fun u_ s1 h1 => ?_) fun u_ u_ h => h))
    obtain ⟨st1, al1, Z1, u, p1, _, hk1⟩ := h1
    exact p1.lift (h st1 al1 Z1 s1 k as vs p1.rel (r2.mono p1.sub p1.pre) hk1)

noncomputable def seqOf (st : St) (a : SV) : Option (List SV) := match a with
  | .tup vs => some vs
  | a => lstOf st a
theorem unpack_items {st : St} {al : List Addr} {Z : Led} {s : Shared} (R : SRel w hB c st al Z s) {a : SV} {va : Value} {vs : List SV} (r : VR w Z al a va) (hs : seqOf st a = some vs) {n : Nat} (hn : n = vs.length) {Q : List Value → Shared → Prop}
    (hQ : ∀ xs h', VRs w Z al vs xs → (∀ b o, s.heap.get? b = some o → h'.get? b = some o) → Q xs { s with heap := h' }) : WP w c.A (unpackItems va n none) Q s := by
  have ext : ∀ h', Heap.ExtBut s.heap.objs.size s.heap h' → ∀ b o, s.heap.get? b = some o → h'.get? b = some o := fun h' he b o e => he b o (Nat.ne_of_lt (Heap.lt_size e)) e
  have go : ∀ {us : List SV}, lstOf st a = some us → us = vs → WP w c.A (unpackItems va n none) Q s := fun {us} e1 e2 => by
    subst e2
    obtain ⟨l, xs, m, rfl, hl, rr⟩ := lst_at R r e1
    have hx := rr.length
    rw [hn, ← hx, ← List.size_toArray]
    exact kun_itemsOf R.ok.hand hl.isList fun h' he => hQ xs h' rr (ext h' he)
  cases a with
  | tup us =>
    simp only [seqOf, Option.some.injEq] at hs
    subst hs
    obtain ⟨l, xs, m, rfl, hl, rr⟩ := tup_at R r
    have hx := rr.length
    rw [hn, ← hx, ← List.size_toArray]
    exact unpackItems_tuple R.ok.hand (isTup_of hl) fun h' he => hQ xs h' rr (ext h' he)
  | list us => exact go hs rfl
  | obj i => exact go hs rfl
  | _ => simp [seqOf, lstOf] at hs

noncomputable def wUnp (n : Nat) (W : List SV → T Unit) : SV → T Unit := fun a k st => on1 (seqOf st a) (fun vs => vs.length = n ∧ W vs k st) False
theorem as_tup {elts : List PySem.Expr} {x1 : Nat} {pos : Pos} {fs : List (Value → Sem Unit)} {n : Nat} {W : List SV → T Unit} (he : (assignEach elts c.env).map (·.2) = fs) (hn : (assignEach elts c.env).length = n) (hstar : (assignEach elts c.env).findIdx? (·.1) = none) (h : Tgts w hB c fs W) :
    AssTo w hB c (.Tuple elts x1 pos) (wUnp n W) := by
  intro st al Z s k a va R ra hw
  · obtain ⟨vs, e, hw_1⟩ := on1.get hw
    show WP w c.A (assign (.Tuple elts x1 pos) c.env va) _ _
    rw [arm_assign_Tuple]
    refine wpAny_bind (wpAny_standAt ?_)
    unfold unpack
    rw [hn, hstar, he]
    refine wpAny_bind (wpAny_holding (unpack_items R ra e hw_1.1.symm fun xs h' rr hk => ?_))
    have p := Post.keep R (s' := { s with heap := h' }) hk
    exact p.lift (h st al Z _ k vs xs p.rel rr hw_1.2)
theorem bi_name {x : Str} {W : SV → T Unit} (h : Op1 w hB c UnitR (fun v => storeName c.env x v) W) : Op1 w hB c UnitR (fun v => bindName c.env x v) W :=
  fun st al Z s k a va R r hw => wpAny_bindName (h st al Z s k a va R r hw)
theorem VRs.rev {Z : Led} {al : List Addr} : ∀ {vs : List SV} {xs : List Value}, VRs w Z al vs xs → VRs w Z al vs.reverse xs.reverse
  | [], w1_, h => by cases (h : _ = _); exact Eq.refl _
  | s :: ss, w1_, h => by
    obtain ⟨v, r, rfl, h1, h2⟩ := h
    rw [List.reverse_cons, List.reverse_cons]
    exact (VRs.rev h2).append (VRs.one h1)
theorem ex_swap2 {x y : Str} {elts : List PySem.Expr} {x1 : Nat} {tpos pos : Pos} {v : PySem.Expr} {wv : T SV} {u1 u2 : SV → T Unit} (hv : EvalsTo w hB c v wv) (h1 : Op1 w hB c UnitR (fun v => storeName c.env x v) u1) (h2 : Op1 w hB c UnitR (fun v => storeName c.env y v) u2)
    (hs : swapsWithSole [.Tuple elts x1 tpos] v pos.line c.env = pure false) (hw : swappedStores [.Tuple elts x1 tpos] v c.env = pure (some [x, y])) :
    ExecTo w hB c (.Assign [.Tuple elts x1 tpos] v pos) (fun k => wv fun a => wUnp 2 (fun as k st => wTgC u2 (wTgC u1 fun as k st => as = [] ∧ k () st) as.reverse k st) a fun u_ => k .next) := by
  intro st al Z s k R hw'
  refine Assign_Tuple_swapped (names := [x, y]) (wpAny_mono (hv st al Z s _ R hw') (fun va s1 h => ?_) fun u_ u_ h => h) hs hw
  obtain ⟨st1, al1, Z1, a, p1, r1, hk1⟩ := h
  · obtain ⟨vs, e, hk1_1⟩ := on1.get hk1
    refine unpack_items p1.rel r1 e (n := 2) hk1_1.1.symm fun xs h' rr hk => ?_
    have p := Post.keep p1.rel (s' := { s1 with heap := h' }) hk
    have rv : VRs w Z1 al1 vs.reverse xs.reverse := VRs.rev rr
    have T2 : Tgts w hB c ([x, y].reverse.map fun n => bindName c.env n) (wTgC u2 (wTgC u1 fun as k st => as = [] ∧ k () st)) := tg_cons (bi_name h2) (tg_cons (bi_name h1) tg_nil)
    refine wpAny_mono (T2 st1 al1 Z1 _ _ vs.reverse xs.reverse p.rel rv hk1_1.2) (fun u_ s3 h => ?_) fun u_ u_ h => h
    obtain ⟨st3, al3, Z3, _, p3, _, hk3⟩ := h
    exact RetS.mk (((p1.trans p).trans p3).toS R.pinl) FR.nx hk3
end

structure ClsK (w : World) (C : Addr) : Prop where
  get : findIn (KF w) (.ref C) "__getattribute__" = some (some (.builtin "object.__getattribute__"))
  nog : findIn (KF w) (.ref C) "__getattr__" = some none
  dict : hasDictIn (KF w) C = true
  set : findIn (KF w) (.ref C) "__setattr__" = some (some (.builtin "object.__setattr__"))
  over : plainOver (KF w) C = true

noncomputable def atOf (st : St) : SV → Option (Addr × List Str × List SV)
  | .inst C ks vs => some (C, ks, vs)
  | .iobj C i => match hget st.heap i with
    | some (.attrs ks vs) => some (C, ks, vs)
    | _ => none
  | _ => none
noncomputable def hnd : SV → Prop
  | .gl w1_ => False
  | _ => True

section
variable {w : World} {hB : Heap} {c : Cx} {st : St} {al : List Addr} {Z : Led} {s : Shared}
theorem hnd_of {sv : SV} {v : Value} (h : hnd sv) (r : VR w Z al sv v) : handedIn v = true := by
  cases sv
  case none => cases (r : _ = _); rfl
  case bool => cases (r : _ = _); rfl
  case int => obtain ⟨t, rfl⟩ := r; rfl
  case str => obtain ⟨t, rfl⟩ := r; rfl
  case tup => obtain ⟨_, _, _, rfl, _⟩ := r; rfl
  case list => obtain ⟨_, _, _, rfl, _⟩ := r; rfl
  case dict => obtain ⟨_, _, _, rfl, _⟩ := r; rfl
  case inst => obtain ⟨_, _, _, _, rfl, _⟩ := r; rfl
  case obj => obtain ⟨_, _, rfl⟩ := r; rfl
  case iobj => obtain ⟨_, _, rfl, _⟩ := r; rfl
  case rng => obtain ⟨_, _, _, _, rfl, _⟩ := r; rfl
  case view => obtain ⟨_, _, _, _, rfl, _⟩ := r; rfl
  case meth => obtain ⟨_, _, rfl, _⟩ := r; rfl
  case rdr => obtain ⟨_, _, rfl, _⟩ := r; rfl
  case gl => exact h.elim

set_option tactic.hygienic true in
theorem inst_at (R : SRel w hB c st al Z s) {a : SV} {va : Value} {C : Addr} {ks : List Str} {vs : List SV} (r : VR w Z al a va) (h : atOf st a = some (C, ks, vs)) :
    ∃ x dx o kvs, va = .ref x ∧ InstAt s.heap x (instObj C dx) C (some o) ∧ AttrO o kvs ∧ kvs.map (·.1) = ks ∧ VRs w Z al vs (kvs.map (·.2)) := by
  cases a with
  | inst C' ks' vs' =>
    simp only [atOf, Option.some.injEq, Prod.mk.injEq] at h
    obtain ⟨rfl, rfl, rfl⟩ := h
    obtain ⟨x, dx, o, kvs, rfl, hx, hd, ha, hk, rr⟩ := r
    exact ⟨x, dx, o, kvs, rfl, ⟨R.frz _ hx, rfl, rfl, R.frz _ hd⟩, ha, hk, rr⟩
  | iobj C' i =>
    simp only [atOf] at h
    split at h
    · rename_i ks' vs' e
      cases h
      obtain ⟨x, dx, rfl, hx, hd⟩ := r
      obtain ⟨o, ho, kvs, ha, hk, rr⟩ := R.live i _ dx (hget_eq e) hd
      exact ⟨x, dx, o, kvs, rfl, ⟨R.frz _ hx, rfl, rfl, ho⟩, ha, hk, rr⟩
    · cases h
  | _ => simp [atOf] at h

theorem look_some {o : Obj} {kvs : List (Str × Value)} {x : Str} {v : Value} (h : AttrO o kvs) (e : kvs.lookup x = some v) : lookIn x o = some (some v) := by
  obtain ⟨es, ep, hd, hk, _, hl⟩ := h
  have := (hl x).trans e
  unfold nsFind findBy at this
  obtain ⟨en, h1, h2⟩ := Option.map_eq_some_iff.mp this
  unfold lookIn
  rw [hd]
  dsimp only
  rw [Array.find?_toList, h1]
  dsimp only
  rw [h2]
theorem look_none {o : Obj} {kvs : List (Str × Value)} {x : Str} (h : AttrO o kvs) (e : kvs.lookup x = none) : lookIn x o = some none := by
  obtain ⟨es, ep, hd, hk, _, hl⟩ := h
  have := (hl x).trans e
  unfold nsFind findBy at this
  rw [Option.map_eq_none_iff] at this
  unfold lookIn
  rw [hd]
  dsimp only
  rw [Array.find?_toList, this]
  dsimp only
  rw [if_neg]
  intro hr
  obtain ⟨en, hm, he⟩ := List.any_eq_true.mp hr
  obtain ⟨n, t, hkk⟩ := hk en (by simpa using hm)
  simp [DictEntry.refKey, hkk] at he
theorem lookup_idx {x : Str} : ∀ {ks : List Str} {vs : List SV} {kvs : List (Str × Value)} {i : Nat}, kvs.map (·.1) = ks → VRs w Z al vs (kvs.map (·.2)) → ks.findIdx? (fun y => x == y) = some i → ∀ {sv : SV}, nth vs i = some sv →
    ∃ v, kvs.lookup x = some v ∧ VR w Z al sv v
  | [], w1_, w2_, w3_, h1, w4_, h3, w5_, w6_ => by simp at h3
  | k :: ks, vs, kvs, i, h1, h2, h3, sv, h4 => by
    cases kvs with
    | nil => simp at h1
    | cons p r =>
      obtain ⟨pk, pv⟩ := p
      injection h1 with q h1
      cases q
      cases vs with
      | nil => cases h4
      | cons v vs =>
        obtain ⟨u, r', e, h5, h6⟩ := h2
        cases e
        rw [List.findIdx?_cons] at h3
        rw [List.lookup_cons]
        cases hq : (x == pk) with
        | true =>
          rw [hq] at h3
          cases h3
          cases h4
          exact ⟨pv, rfl, h5⟩
        | false =>
          rw [hq] at h3
          simp only [Bool.false_eq_true, if_false] at h3
          obtain ⟨j, hj, rfl⟩ := Option.map_eq_some_iff.mp h3
          exact lookup_idx h1 h6 hj h4
theorem lookup_out {x : Str} : ∀ {ks : List Str} {kvs : List (Str × Value)}, kvs.map (·.1) = ks → ks.findIdx? (fun y => x == y) = none → kvs.lookup x = none
  | [], kvs, h1, w1_ => by
    cases kvs with
    | nil => rfl
    | cons p r => simp at h1
  | k :: ks, kvs, h1, h3 => by
    cases kvs with
    | nil => simp at h1
    | cons p r =>
      obtain ⟨pk, pv⟩ := p
      simp only [List.map_cons, List.cons.injEq] at h1
      obtain ⟨rfl, h1⟩ := h1
      rw [List.findIdx?_cons] at h3
      rw [List.lookup_cons]
      cases hq : (x == pk) with
      | true => rw [hq] at h3; simp at h3
      | false =>
        rw [hq] at h3
        simp only [Bool.false_eq_true, if_false, Option.map_eq_none_iff] at h3
        exact lookup_out h1 h3

noncomputable def wAttr (C : Addr) (chk : List Str) (i : Nat) (a : SV) : T SV := fun k st => on1 (atOf st a) (fun p => p.1 = C ∧ p.2.1 = chk ∧ on1 (nth p.2.2 i) (fun v => hnd v ∧ k v st) False) False
theorem o_attr {C : Addr} {name : Str} {chk : List Str} {i : Nat} (hC : ClsK w C) (hn : findIn (KF w) (.ref C) name = some none) (hi : chk.findIdx? (fun y => name == y) = some i) (ex : Bool) : Op1 w hB c (VR w) (fun v => getAttr v name ex) (wAttr C chk i) := by
  intro st al Z s k a va R ra hw
  · · obtain ⟨⟨C', ks, vs⟩, e, rfl, rfl, hw_1⟩ := on1.get hw
      obtain ⟨sv, e2, hw_2⟩ := on1.get hw_1
      obtain ⟨x, dx, o, kvs, rfl, I, ha, hk, rr⟩ := inst_at R ra e
      obtain ⟨v, hv, rv⟩ := lookup_idx hk rr hi e2
      exact get_value (R.grd.X.keeps R.base) I hC.get (findObj_own hC.dict hn rfl (look_some ha hv)) (hnd_of hw_2.1 rv) (Ret.toks R _ rv hw_2.2)
theorem ev_attr {o : PySem.Expr} {name : Str} {pos : Pos} {wo : T SV} {wop : SV → T SV} (ho : EvalsTo w hB c o wo) (hop : Op1 w hB c (VR w) (fun v => getAttr v name true) wop)
    (hb : autoParam (attributeBase o name c.env (eval o c.env) = eval o c.env) aRfl) : EvalsTo w hB c (.Attribute o name pos) (fun k => wo fun a => wop a k) := by
  intro st al Z s k R hw
  rw [arm_eval_Attribute, hb]
  refine wpAny_bind (wpAny_mono (ho st al Z s _ R hw) (fun va s1 h1 => ?_) fun u_ u_ h => h)
  obtain ⟨st1, al1, Z1, a, p1, r1, hk1⟩ := h1
  refine wpAny_bind (wpAny_standAt (wpAny_bind (wpAny_holding (wpAny_mono (hop st1 al1 Z1 s1 _ a va p1.rel r1 hk1) (fun vr s2 h2 => ?_) fun u_ u_ h => h))))
  obtain ⟨st2, al2, Z2, b, p2, r2, hk2⟩ := h2
  exact wpAny_bind (wpAny_letTemporaryGo (wpAny_pure (Ret.mk (p1.trans p2) r2 hk2)))
theorem o_cattr {C : Addr} {name : Str} {cs : Cs} {t : Tok} (hr : readsIn (KF w) C (.type "type") = true) (e : findCls (KF w) (.ref C) (.type "type") name = some (.val (.str (S cs) t))) (ex : Bool) :
    Op1 w hB c (VR w) (fun v => getAttr v name ex) (fun a k st => a = .gl (.ref C) ∧ k (.str cs) st) := by
  intro st al Z s k a va R ra hw
  obtain ⟨rfl, hw⟩ := hw
  cases (ra : _ = _)
  exact cls_value (R.grd.X.keeps R.base) hr e rfl (Ret.toks R _ (vStr _ _) hw)

noncomputable def wSetAttr (C : Addr) (chk : List Str) (name : Str) (i : Nat) (a v : SV) : T Unit := fun k st => asIobj a fun C' j => C' = C ∧ (match hget st.heap j with
    | some (.attrs ks vs) => ks = chk ∧ vs.length = chk.length ∧ chk.length ≤ 100 ∧ k () (st.setH j (if i < chk.length then .attrs chk (vs.set i v) else .attrs (chk ++ [name]) (vs ++ [v])))
    | _ => False)
noncomputable def keyName : Value → Str
  | .str n w1_ => n
  | _ => ⟨#[]⟩
theorem len_sub {α : Type} [DecidableEq α] : ∀ {l m : List α}, l.Nodup → (∀ x ∈ l, x ∈ m) → l.length ≤ m.length
  | [], w1_, w2_, w3_ => Nat.zero_le _
  | a :: l, m, hn, hs => by
    have hn' := List.nodup_cons.mp hn
    have ha : a ∈ m := hs a (.head _)
    have := len_sub (l := l) (m := m.erase a) hn'.2 fun x hx => by
      have hne : x ≠ a := fun e => by subst e; exact hn'.1 hx
      exact (List.mem_erase_of_ne hne).mpr (hs x (.tail _ hx))
    rw [List.length_erase_of_mem ha] at this
    have hp : 0 < m.length := List.length_pos_of_mem ha
    simp only [List.length_cons]
    omega
theorem uniq_size {es : Array DictEntry} {kvs : List (Str × Value)} (hk : StrKeys es) (hu : UniqKeys es) (hl : ∀ x, nsFind es x = kvs.lookup x) : es.size ≤ kvs.length := by
  have h1 : (es.toList.map fun e => keyName e.key).Nodup := by
    refine List.pairwise_map.mpr (List.Pairwise.imp_of_mem (fun {a b} ha hb h e => ?_) hu)
    obtain ⟨n, t, hn⟩ := hk a (by simpa using ha)
    obtain ⟨n', t', hn'⟩ := hk b (by simpa using hb)
    rw [hn, hn'] at e
    simp only [keyName] at e
    subst e
    exact h n (by rw [hn]; simp [Value.isStr]) (by rw [hn']; simp [Value.isStr])
  have h2 : ∀ x ∈ (es.toList.map fun e => keyName e.key), x ∈ kvs.map (·.1) := by
    intro x hx
    obtain ⟨e, he, rfl⟩ := List.mem_map.mp hx
    obtain ⟨n, t, hn⟩ := hk e (by simpa using he)
    rw [hn]
    have hs : (nsFind es n).isSome = true := by
      unfold nsFind findBy
      rw [Option.isSome_map, Array.find?_isSome]
      exact ⟨e, by simpa using he, by rw [hn]; simp [Value.isStr]⟩
    rw [hl] at hs
    obtain ⟨v, hv⟩ := Option.isSome_iff_exists.mp hs
    exact List.mem_map.mpr ⟨(n, v), mem_of_lookup hv, rfl⟩
  have := len_sub h1 h2
  simpa using this
theorem osaX {A : Around} {C x dx : Addr} {o : Obj} {name : Str} {tk : Tok} {v : Value} {kvs : List (Str × Value)} {R : Result → Shared → Prop} (hC : ClsK w C) (hn : findIn (KF w) (.ref C) name = some none) (X : (KF w).In s.heap)
    (I : InstAt s.heap x (instObj C dx) C (some o)) (hk : AttrO o kvs) (hz : kvs.length ≤ 1000)
    (h : ∀ h' o', h'.get? dx = some o' → (∃ es ep, o'.data = .dict es ep ∧ StrKeys es ∧ UniqKeys es ∧ ∀ y, nsFind es y = if y = name then some v else kvs.lookup y) → Heap.SameBut dx s.heap h' → R (.ok (.ret .none)) { s with heap := h', toks := s.toks + 1 }) :
    codeAny (model P w) A (.call (.builtin "object.__setattr__") ⟨[.ref x, .str name tk, v], []⟩) R s := by
  refine osa_open (od := some o) X I hC.over (r := none) (by unfold takerIn; rw [hn]; rfl) fun b => ?_
  obtain ⟨cd, hc, hd'⟩ := any_some hC.dict
  obtain ⟨es, ep, hdat, hst, hun, hl⟩ := hk
  obtain ⟨hx, hcl, hno, hD⟩ := I
  refine wpAny_bind (wpAny_pure (wpAny_bind (wpAny_bind (wpAny_loadPart hx (wpAny_bind ((looks_clsIn X hc).here ?_))))))
  rw [hd']
  refine wpAny_pure (a := some dx) (wpAny_bind (wpAny_pure (wpAny_bind ?_)))
  refine wpAny_nsSet1 (m := fun y => kvs.lookup y) ⟨o, es, ep, hD, hdat, hst, hun, hl⟩ fun h' hn' hs => ?_
  obtain ⟨o', es', ep', ho', r'⟩ := hn'
  have hsz : es'.size ≤ ((name, v) :: kvs).length := uniq_size r'.2.1 r'.2.2.1 fun y => by
    rw [r'.2.2.2 y, List.lookup_cons]
    dsimp only
    by_cases hy : y = name
    · subst hy; simp
    · have : (y == name) = false := by simpa using hy
      rw [if_neg hy, this]
  refine wpAny_bind (wpAny_lookBehind ho' (by rw [r'.1]; exact pastItsLine_dict (by rw [sizeLine_eq]; simp only [List.length_cons] at hsz; omega)) ?_)
  exact wpAny_pure (h h' o' ho' ⟨es', ep', r'⟩ hs)
theorem nsSetX {A : Around} {E : Value → Shared → Prop} {C x dx : Addr} {o : Obj} {name : Str} {v : Value} {kvs : List (Str × Value)} {Q : Unit → Shared → Prop} (hC : ClsK w C) (hn : findIn (KF w) (.ref C) name = some none) (X : (KF w).In s.heap)
    (I : InstAt s.heap x (instObj C dx) C (some o)) (hk : AttrO o kvs) (hz : kvs.length ≤ 1000)
    (h : ∀ h' o', h'.get? dx = some o' → (∃ es ep, o'.data = .dict es ep ∧ StrKeys es ∧ UniqKeys es ∧ ∀ y, nsFind es y = if y = name then some v else kvs.lookup y) → Heap.SameBut dx s.heap h' → Q () { s with heap := h', toks := s.toks + 1 + 1 }) :
    wpAny (model P w) A (setAttr (.ref x) name v) Q E s :=
  set_plain X I hC.set (osaX (s := { s with toks := s.toks + 1 }) hC hn X I hk hz h)
theorem kvs_set {ks : List Str} {vs : List SV} {kvs : List (Str × Value)} {name : Str} {i : Nat} {v : SV} {u : Value} (h1 : kvs.map (·.1) = ks) (h2 : VRs w Z al vs (kvs.map (·.2))) (hi : ks.findIdx? (fun y => name == y) = some i) (hv : VR w Z al v u) :
    ∃ kvs' : List (Str × Value), kvs'.map (·.1) = ks ∧ VRs w Z al (vs.set i v) (kvs'.map (·.2)) ∧ ∀ y, kvs'.lookup y = if y = name then some u else kvs.lookup y := by
  refine ⟨kvs.set i (name, u), ?_, ?_, ?_⟩
  · rw [List.map_set, h1]
    dsimp only
    have := List.findIdx?_eq_some_iff_getElem.mp hi
    obtain ⟨hlt, he, _⟩ := this
    have he' : name = ks[i] := by simpa using he
    rw [he', List.set_getElem_self]
  · rw [List.map_set]; exact h2.set i hv
  · have : ∀ (ks : List Str) (kvs : List (Str × Value)) (i : Nat), kvs.map (·.1) = ks → ks.findIdx? (fun y => name == y) = some i → ∀ y, (kvs.set i (name, u)).lookup y = if y = name then some u else kvs.lookup y := by
      intro ks
      induction ks with
      | nil => intro kvs i _ h; simp at h
      | cons k ks ih =>
        intro kvs i h1 h3 y
        cases kvs with
        | nil => simp at h1
        | cons p r =>
          obtain ⟨pk, pv⟩ := p
          simp only [List.map_cons, List.cons.injEq] at h1
          obtain ⟨rfl, h1⟩ := h1
          rw [List.findIdx?_cons] at h3
          cases hq : (name == pk) with
          | true =>
            rw [hq] at h3
            simp at h3
            subst h3
            have : name = pk := by simpa using hq
            subst this
            rw [List.set_cons_zero, List.lookup_cons, List.lookup_cons]
            by_cases hy : y = name
            · subst hy; simp
            · have : (y == name) = false := by simpa using hy
              rw [this, if_neg hy]
          | false =>
            rw [hq] at h3
            simp only [Bool.false_eq_true, if_false] at h3
            obtain ⟨j, hj, rfl⟩ := Option.map_eq_some_iff.mp h3
            rw [List.set_cons_succ, List.lookup_cons, List.lookup_cons, ih r j h1 hj y]
            cases hy : (y == pk) with
            | true =>
              have : y = pk := by simpa using hy
              subst this
              have hne : ¬ y = name := fun e => by subst e; simp at hq
              simp [hne]
            | false => rfl
    exact this ks kvs i h1 hi
theorem kvs_app {ks : List Str} {vs : List SV} {kvs : List (Str × Value)} {name : Str} {v : SV} {u : Value} (h1 : kvs.map (·.1) = ks) (h2 : VRs w Z al vs (kvs.map (·.2))) (hi : ks.findIdx? (fun y => name == y) = none) (hv : VR w Z al v u) :
    ∃ kvs' : List (Str × Value), kvs'.map (·.1) = ks ++ [name] ∧ VRs w Z al (vs ++ [v]) (kvs'.map (·.2)) ∧ ∀ y, kvs'.lookup y = if y = name then some u else kvs.lookup y := by
  refine ⟨kvs ++ [(name, u)], by simp [h1], by rw [List.map_append]; exact h2.append (VRs.one hv), fun y => ?_⟩
  rw [List.lookup_append]
  by_cases hy : y = name
  · subst hy
    rw [lookup_out h1 hi]
    simp
  · have : (y == name) = false := by simpa using hy
    simp [List.lookup_cons, this, hy]
theorem o_setAttr {C : Addr} {name : Str} {chk : List Str} {i : Nat} (hC : ClsK w C) (hn : findIn (KF w) (.ref C) name = some none) (hi : chk.findIdx? (fun y => name == y) = some i ∨ (chk.findIdx? (fun y => name == y) = none ∧ i = chk.length)) :
    Op2 w hB c UnitR (fun o v => setAttr o name v) (wSetAttr C chk name i) := by
  intro st al Z s k a va b vb R ra rb hw
  obtain ⟨C', j, rfl, rfl, hw1⟩ := asIobj.g hw
  · generalize e : hget st.heap j = o0 at hw1
    rcases o0 with _ | o0
    · exact hw1.elim
    cases o0 with
    | attrs ks vs =>
      obtain ⟨rfl, hlen, hsz0, hw2⟩ := hw1
      obtain ⟨x, dx, rfl, hx, hd⟩ := ra
      obtain ⟨o, ho, kvs, ha, hk, rr⟩ := R.live j _ dx (hget_eq e) hd
      have hsz : kvs.length ≤ 1000 := by have := congrArg List.length hk; simp at this; omega
      refine nsSetX hC hn (R.grd.X.keeps R.base) ⟨R.frz _ hx, rfl, rfl, ho⟩ ha hsz fun h' o' ho' hn' hs => ?_
      obtain ⟨es, ep, hdat, hst, hun, hl⟩ := hn'
      rcases hi with hi | ⟨hi, rfl⟩
      · obtain ⟨kvs', q1, q2, q3⟩ := kvs_set hk rr hi rb
        have hlt : i < ks.length := (List.findIdx?_eq_some_iff_getElem.mp hi).1
        rw [if_pos hlt] at hw2
        exact Ret.mk (Post.updL R (so' := .attrs ks (vs.set i b)) (s' := { s with heap := h', toks := s.toks + 1 + 1 }) (hget_lt e) hd hs ho' ⟨kvs', ⟨es, ep, hdat, hst, hun, fun y => (hl y).trans (q3 y).symm⟩, q1, q2⟩) trivial hw2
      · obtain ⟨kvs', q1, q2, q3⟩ := kvs_app hk rr hi rb
        rw [if_neg (Nat.lt_irrefl _)] at hw2
        exact Ret.mk (Post.updL R (so' := .attrs (ks ++ [name]) (vs ++ [b])) (s' := { s with heap := h', toks := s.toks + 1 + 1 }) (hget_lt e) hd hs ho' ⟨kvs', ⟨es, ep, hdat, hst, hun, fun y => (hl y).trans (q3 y).symm⟩, q1, q2⟩) trivial hw2
    | _ => exact hw1.elim
theorem as_attr {o : PySem.Expr} {name : Str} {pos : Pos} {wo : T SV} {wop : SV → SV → T Unit} (ho : EvalsTo w hB c o wo) (hop : Op2 w hB c UnitR (fun o v => setAttr o name v) wop) :
    AssTo w hB c (.Attribute o name pos) (fun v k => wo fun a => wop a v k) := by
  intro st al Z s k v vv R rv hw
  show WP w c.A (assign (.Attribute o name pos) c.env vv) _ _
  rw [arm_assign_Attribute]
  refine wpAny_bind (wpAny_holding (wpAny_mono (ho st al Z s _ R hw) (fun va s1 h1 => ?_) fun u_ u_ h => h))
  obtain ⟨st1, al1, Z1, a, p1, r1, hk1⟩ := h1
  refine wpAny_bind (wpAny_standAt (wpAny_bind (wpAny_holding (wpAny_mono (hop st1 al1 Z1 s1 _ a va v vv p1.rel r1 (rv.mono p1.sub p1.pre) hk1) (fun u_ s3 h3 => ?_) fun u_ u_ h => h))))
  obtain ⟨st3, al3, Z3, u, p3, r3, hk3⟩ := h3
  exact wpAny_release (Ret.mk (p1.trans p3) trivial hk3)
theorem ex_augattr {o v : PySem.Expr} {name : Str} {tpos pos : Pos} {op : Operator} {wo wv : T SV} {wg : SV → T SV} {wop : SV → SV → T SV} {ws : SV → SV → T Unit} (ho : EvalsTo w hB c o wo) (hg : Op1 w hB c (VR w) (fun v => getAttr v name true) wg) (hv : EvalsTo w hB c v wv)
    (hop : Op2 w hB c (VR w) (inplaceOp op) wop) (hs : Op2 w hB c UnitR (fun o v => setAttr o name v) ws) :
    ExecTo w hB c (.AugAssign (.Attribute o name tpos) op v pos) (fun k => wo fun a => wg a fun old => wv fun x => wop old x fun new => ws a new fun u_ => k .next) := by
  intro st al Z s k R hw
  refine wpAny_AugAssign_AttributeAny (wpAny_mono (ho st al Z s _ R hw) (fun va s1 h1 => ?_) fun u_ u_ h => h)
  obtain ⟨st1, al1, Z1, a, p1, r1, hk1⟩ := h1
  refine wpAny_mono (hg st1 al1 Z1 s1 _ a va p1.rel r1 hk1) (fun vo s3 h3 => ?_) fun u_ u_ h => h
  obtain ⟨st3, al3, Z3, old, p3, r3, hk3⟩ := h3
  refine wpAny_mono (hv st3 al3 Z3 s3 _ p3.rel hk3) (fun vx s4 h4 => ?_) fun u_ u_ h => h
  obtain ⟨st4, al4, Z4, x, p4, r4, hk4⟩ := h4
  refine wpAny_mono (hop st4 al4 Z4 s4 _ old vo x vx p4.rel (r3.mono p4.sub p4.pre) r4 hk4) (fun vn s5 h5 => ?_) fun u_ u_ h => h
  obtain ⟨st5, al5, Z5, new, p5, r5, hk5⟩ := h5
  have p35 := (p3.trans p4).trans p5
  refine wpAny_mono (hs st5 al5 Z5 s5 _ a va new vn p5.rel (r1.mono p35.sub p35.pre) r5 hk5) (fun u_ s6 h6 => ?_) fun u_ u_ h => h
  obtain ⟨st6, al6, Z6, u, p6, r6, hk6⟩ := h6
  exact RetS.mk (((p1.trans p35).trans p6).toS R.pinl) FR.nx hk6

noncomputable def isInst (C : Addr) (chk : List Str) (a : SV) (st : St) : Prop := on1 (atOf st a) (fun p => p.1 = C ∧ p.2.1 = chk) False
theorem f_inst {C f : Addr} {name : Str} {chk : List Str} (hC : ClsK w C) (hf : findIn (KF w) (.ref C) name = some (some (.ref f))) (ht : typeIn (KF w) (.ref f) = some (.type "function")) (hn : chk.findIdx? (fun y => name == y) = none) :
    Finds w hB c name (.ref f) (isInst C chk) := by
  intro st al Z s a va R ra hok pl Q hq
  · obtain ⟨⟨C', ks, vs⟩, e, rfl, rfl⟩ := on1.get hok
    obtain ⟨x, dx, o, kvs, rfl, I, ha, hk, rr⟩ := inst_at R ra e
    exact method_fn (R.grd.X.keeps R.base) I hC.get hC.nog hf ht (by show (lookIn name o).map _ = _; rw [look_none ha (lookup_out hk hn)]; rfl) hq
end

section
variable {w : World} {hB : Heap} {c : Cx} {st : St} {al : List Addr} {Z : Led} {s : Shared}
theorem Post.chg {st1 : St} {al al1 : List Addr} {Z Z1 : Led} {s0 s1 s2 : Shared} (p : Post w hB c al Z s0 st1 al1 Z1 s1) {I : Addr} (hu : Untr hB c al1 Z1 I) (hI : s0.heap.get? I = none)
    (hk : ∀ b o, b ≠ I → s1.heap.get? b = some o → s2.heap.get? b = some o) (hg : s2.gens = s1.gens) (ho : s2.os = s1.os) : Post w hB c al Z s0 st1 al1 Z1 s2 where
  rel := p.rel.untr (fun n => n = I) (fun n h => h ▸ hu) fun b o h hn => hk b o hn h
  pre := p.pre
  sub := p.sub
  frame := fun b o h hn ht => hk b o (fun e => by rw [e, hI] at h; cases h) (p.frame b o h hn ht)
  fresh := p.fresh
  zfresh := p.zfresh
  gens := hg.trans p.gens
  os := ho.trans p.os
theorem Untr.step {st1 : St} {al1 : List Addr} {Z1 : Led} {s1 : Shared} {n : Addr} {o : Obj} (u : Untr hB c al Z n) (p : Post w hB c al Z s st1 al1 Z1 s1) (ex : s.heap.get? n = some o) : Untr hB c al1 Z1 n := by
  refine ⟨u.o1, fun hm => ?_, fun q hq e => ?_, u.o4, u.o5, u.o6⟩
  · rcases p.fresh n hm with h | h
    · exact u.o2 h
    · rw [ex] at h; cases h
  · rcases p.zfresh q hq with h | h
    · exact u.o3 q h e
    · rw [e, ex] at h; cases h
theorem Untr.keep {st1 : St} {al1 : List Addr} {Z1 : Led} {s1 : Shared} {n : Addr} {o : Obj} (u : Untr hB c al Z n) (p : Post w hB c al Z s st1 al1 Z1 s1) (ex : s.heap.get? n = some o) : s1.heap.get? n = some o :=
  p.frame n o ex (fun hm => (List.mem_append.mp hm).elim u.o1 u.o2) u.o5
end

noncomputable def mkComp (c : Cx) (scope : Scope) (cl : List (Str × Addr)) (x : Str) (caps : List (Str × Nat × Addr)) (C : Addr) : Cx :=
  { ht := c.ht, pin := 0, A := c.A, env := compEnvC scope cl C c.env, cells := [], slots := (x, .loc) :: caps.map fun p => (p.1, .capt p.2.2) }
structure CompIs (c : Cx) (scope : Scope) (cl : List (Str × Addr)) (x : Str) (caps : List (Str × Nat × Addr)) : Prop where
  clos : closureFor scope c.env = pure cl
  kind : scope.kind = .function
  names : ∀ y ∈ scope.names, y.2 = .local → scope.names.lookup y.1 = some .local
  cell : ∀ y ∈ scope.names, y.2 ≠ .cell
  hx : scope.names.lookup x = some .local
  cap : ∀ p ∈ caps, c.slots[p.2.1]? = some (p.1, .cell p.2.2) ∧ cl.lookup p.1 = some p.2.2 ∧ ∀ C, (compEnvC scope cl C c.env).kindOf p.1 = some .cell ∨ (compEnvC scope cl C c.env).kindOf p.1 = some .free
  nodup : (x :: caps.map (·.1)).Nodup

noncomputable def wCompL (we : T SV) (k : List SV → List SO → Prop) : List SV → St → List SV → Prop
  | [], st, acc => k acc st.heap
  | x :: xs, st, acc => we (fun v st' => wCompL we k xs st' (acc ++ [v])) (st.setL 0 x)
noncomputable def capLoc (st : St) (caps : List (Str × Nat × Addr)) : List (Option SV) := none :: caps.map fun p => look st.loc p.2.1

section
variable {w : World} {hB : Heap} {c : Cx} {st : St} {al : List Addr} {Z : Led} {s : Shared}
theorem comp_ok (R : SRel w hB c st al Z s) {scope : Scope} {cl : List (Str × Addr)} {x : Str} {caps : List (Str × Nat × Addr)} (K : CompIs c scope cl x caps) (C : Addr) : (mkComp c scope cl x caps C).Ok where
  kind := K.kind
  glob := R.ok.glob
  blt := R.ok.blt
  hand := R.ok.hand
  depth := R.ok.depth
  units := R.ok.units
  nodup := by
    have : ((mkComp c scope cl x caps C).slots.map (·.1)) = x :: caps.map (·.1) := by simp [mkComp]
    rw [this]; exact K.nodup
  onodup := by simp [mkComp]
  sloc := fun y hy => by
    have hy' : (y, Slt.loc) = (x, Slt.loc) := by
      rcases List.mem_cons.mp hy with h | h
      · exact h
      · obtain ⟨p, _, e⟩ := List.mem_map.mp h; cases e
    cases hy'
    exact lookup_relabel_local K.hx
  scell := fun y a hy => by
    rcases List.mem_cons.mp hy with h | h
    · cases h
    · obtain ⟨p, _, e⟩ := List.mem_map.mp h; cases e
  sone := fun y z a hy u_ => by
    rcases List.mem_cons.mp hy with h | h
    · cases h
    · obtain ⟨p, _, e⟩ := List.mem_map.mp h; cases e
  scapt := fun y a hy => by
    rcases List.mem_cons.mp hy with h | h
    · cases h
    · obtain ⟨p, hp, e⟩ := List.mem_map.mp h
      cases e
      exact ⟨(K.cap p hp).2.2 C, (K.cap p hp).2.1⟩

structure CompSet (w : World) (hB : Heap) (c : Cx) (scope : Scope) (cl : List (Str × Addr)) (x : Str) (caps : List (Str × Nat × Addr)) (st : St) (hp0 : List SO) (al0 : List Addr) (Z : Led) (s : Shared) (I D C : Nat) (oI oD : Obj) (h₁ : Heap) (t : Nat) : Prop where
  old1 : ∀ b o, (s.heap.push oI).get? b = some o → h₁.get? b = some o
  hDo : h₁.get? D = some oD
  hsD : s.heap.get? D = none
  hsC : s.heap.get? C = none
  hDC : D ≠ C
  hID : I ≠ D
  hIC : I ≠ C
  hDt : D ≠ tbA
  hCt : C ≠ tbA
  hDm : D ≠ sysModules
  unt : ∀ b, s.heap.get? b = none → b ≠ C → b ≠ tbA → Untr hB (mkComp c scope cl x caps C) al0 Z b
  P0 : Post w hB (mkComp c scope cl x caps C) al0 Z s ⟨capLoc st caps, hp0⟩ al0 Z { s with heap := h₁, toks := t }
theorem comp_set {x : Str} {scope : Scope} {cl : List (Str × Addr)} {caps : List (Str × Nat × Addr)} (K : CompIs c scope cl x caps)
    (R : SRel w hB c st al Z s) {hp0 : List SO} {al0 : List Addr} (R0 : Rel0 w hB hp0 al0 Z s) (hsub : ∀ a ∈ al0, a ∈ al)
    (hcv : ∀ sv v, some sv ∈ capLoc st caps → VR w Z al sv v → VR w Z al0 sv v) {I D C : Nat} {oI oD oC : Obj} {H2 h₁ : Heap} {m₁ : Str → Option Value} {t : Nat} (hH2 : (s.heap.push oI).push oD = H2)
    (hD : (s.heap.push oI).objs.size = D) (hC : H2.objs.size = C) (hsI : I < D) (hns₁ : h₁.Ns C m₁) (hsb₁ : Heap.SameBut C (H2.push oC) h₁) (hoD : oD.isFreed = false) : CompSet w hB c scope cl x caps st hp0 al0 Z s I D C oI oD h₁ t := by
  have hDs : (s.heap.objs.size : Nat) + 1 = D := by rw [← hD, Heap.size_push]
  have hCD : C = D + 1 := by rw [← hC, ← hH2, Heap.size_push, hD]
  have lt0 : ∀ (b : Nat) o, s.heap.get? b = some o → b < (s.heap.objs.size : Nat) := fun b o h => Heap.lt_size h
  have hsD : s.heap.get? D = none := by
    cases e : s.heap.get? D with
    | none => rfl
    | some o => have := lt0 _ _ e; exact absurd this (by omega)
  have hsC : s.heap.get? C = none := by
    cases e : s.heap.get? C with
    | none => rfl
    | some o => have := lt0 _ _ e; exact absurd this (by omega)
  have hDC : D ≠ C := by rw [hCD]; exact Nat.ne_of_lt (Nat.lt_succ_self _)
  have hID : I ≠ D := Nat.ne_of_lt hsI
  have hIC : I ≠ C := by rw [hCD]; exact Nat.ne_of_lt (Nat.lt_succ_of_lt hsI)
  have old1 : ∀ b o, (s.heap.push oI).get? b = some o → h₁.get? b = some o := fun b o e => by
    have hb : b < D := by rw [← hD]; exact Heap.lt_size e
    have hbC : b ≠ C := by rw [hCD]; exact Nat.ne_of_lt (Nat.lt_succ_of_lt hb)
    exact hsb₁.extBut b o hbC (Heap.get?_push_of_some _ (hH2 ▸ Heap.get?_push_of_some _ e))
  have old : ∀ b o, s.heap.get? b = some o → h₁.get? b = some o := fun b o e => old1 b o (Heap.get?_push_of_some _ e)
  have hDo : h₁.get? D = some oD := hsb₁.extBut _ _ hDC (Heap.get?_push_of_some _ (hH2 ▸ hD ▸ Heap.get?_push_size _ hoD))
  have tabn : (tbA : Nat) < s.heap.objs.size := by obtain ⟨ps, e, _⟩ := R.tab; exact Heap.lt_size e
  have geD : ∀ b : Nat, b < s.heap.objs.size → b < D := fun b h => by rw [← hDs]; exact Nat.lt_succ_of_lt h
  have hDt : D ≠ tbA := Nat.ne_of_gt (geD _ tabn)
  have hCt : C ≠ tbA := Nat.ne_of_gt (by rw [hCD]; exact Nat.lt_succ_of_lt (geD _ tabn))
  have hDm : D ≠ sysModules := by
    obtain ⟨_, _, _, _, T⟩ := R.grd.top
    have := modules_low (T.nolimit.keeps R.base)
    exact Nat.ne_of_gt (geD _ this)
  have noB : ∀ b, s.heap.get? b = none → hB.get? b = none := fun b h => by
    cases e : hB.get? b with
    | none => rfl
    | some o => have := R.base _ _ e; rw [h] at this; cases this
  have al0n : ∀ b, s.heap.get? b = none → b ∉ al0 := fun b h hm => by
    obtain ⟨i, hi⟩ := List.getElem?_of_mem hm
    have hl : i < hp0.length := by
      rw [← R0.len]
      rcases Nat.lt_or_ge i al0.length with q | q
      · exact q
      · rw [List.getElem?_eq_none q] at hi; cases hi
    obtain ⟨o, ho, _⟩ := R0.live i hp0[i] _ (List.getElem?_eq_getElem hl) hi
    rw [h] at ho; cases ho
  have Zn : ∀ b, s.heap.get? b = none → ∀ p ∈ Z, p.1 ≠ b := fun b h p hp e => by
    have := R0.frz p hp
    rw [e, h] at this; cases this
  have capEx : ∀ p ∈ caps, p.2.2 ∈ c.own ∧ ∃ vo, s.heap.IsCell p.2.2 vo ∧ ∀ sv, st.loc[p.2.1]? = some (some sv) → ∃ v, vo = some v ∧ VR w Z al sv v := fun p hp => by
    obtain ⟨h1, _, _⟩ := K.cap p hp
    exact ⟨.tail _ (R.ok.scell _ _ (List.mem_of_getElem? h1)).2.2, R.cell _ _ _ (.inl h1)⟩
  have capS : ∀ b, s.heap.get? b = none → ∀ y, (y, Slt.capt b) ∉ (mkComp c scope cl x caps C).slots := fun b h y hy => by
    rcases List.mem_cons.mp hy with h' | h'
    · cases h'
    · obtain ⟨p, hp, e⟩ := List.mem_map.mp h'
      cases e
      obtain ⟨_, vo, ⟨o, ho, _⟩, _⟩ := capEx p hp
      rw [h] at ho; cases ho
  have unt : ∀ b, s.heap.get? b = none → b ≠ C → b ≠ tbA → Untr hB (mkComp c scope cl x caps C) al0 Z b := fun b h hbC hbt =>
    ⟨(fun hm => by
      rcases List.mem_cons.mp hm with e | e
      · exact hbC e
      · cases e), al0n b h, Zn b h, noB b h, hbt, capS b h⟩
  have RI : SRel w hB (mkComp c scope cl x caps C) ⟨capLoc st caps, hp0⟩ al0 Z { s with heap := h₁, toks := t } := {
    toRel0 := R0.frame0 (fun u_ => False) (fun u_ h => h.elim) (fun b o h u_ => old b o h)
    ok := comp_ok R K C
    pinl := Nat.zero_le _
    ns := ⟨_, hns₁, fun i y sv e1 e2 => by
      cases i with
      | zero => simp [capLoc] at e2
      | succ i =>
        have e1' : (caps.map fun p => (p.1, Slt.capt p.2.2))[i]? = some (y, .loc) := by simp [mkComp] at e1
        rw [List.getElem?_map] at e1'
        obtain ⟨p, _, e⟩ := Option.map_eq_some_iff.mp e1'
        cases e⟩
    cell := fun i y b h => by
      cases i with
      | zero => rcases h with h | h <;> simp [mkComp] at h
      | succ i =>
        have h' : ∃ p, caps[i]? = some p ∧ y = p.1 ∧ b = p.2.2 := by
          rcases h with h | h
          · have e1' : (caps.map fun p => (p.1, Slt.capt p.2.2))[i]? = some (y, .cell b) := by simp [mkComp] at h
            rw [List.getElem?_map] at e1'
            obtain ⟨p, _, e⟩ := Option.map_eq_some_iff.mp e1'
            cases e
          · have e1' : (caps.map fun p => (p.1, Slt.capt p.2.2))[i]? = some (y, .capt b) := by simpa [mkComp] using h
            rw [List.getElem?_map] at e1'
            obtain ⟨p, hp, e⟩ := Option.map_eq_some_iff.mp e1'
            cases e
            exact ⟨p, hp, rfl, rfl⟩
        obtain ⟨p, hp, rfl, rfl⟩ := h'
        obtain ⟨_, vo, ⟨o, ho, hd⟩, hv⟩ := capEx p (List.mem_of_getElem? hp)
        refine ⟨vo, ⟨o, old _ _ ho, hd⟩, fun sv e => ?_⟩
        have e' : (caps.map fun p => look st.loc p.2.1)[i]? = some (some sv) := by simpa [capLoc] using e
        have em : some sv ∈ capLoc st caps := List.mem_cons_of_mem _ (List.mem_of_getElem? e')
        rw [List.getElem?_map, hp] at e'
        obtain ⟨v, h1, h2⟩ := hv sv (look_eq (by simpa using e'))
        exact ⟨v, h1, hcv sv v em h2⟩
    own := fun a ha => by
      have : a = C := by
        rcases List.mem_cons.mp ha with e | e
        · exact e
        · cases e
      subst this
      refine ⟨noB _ hsC, hCt, al0n _ hsC, ?_⟩
      obtain ⟨o, _, _, ho, _⟩ := hns₁
      exact ⟨o, ho⟩
    ownz := fun p hp hm => by
      rcases List.mem_cons.mp hm with e | e
      · exact Zn C hsC p hp e
      · cases e
    capt := fun y a hy => by
      rcases List.mem_cons.mp hy with h' | h'
      · cases h'
      · obtain ⟨p, hp, e⟩ := List.mem_map.mp h'
        cases e
        obtain ⟨ho, vo, ⟨o, hoo, _⟩, _⟩ := capEx p hp
        obtain ⟨_, q2, q3, _⟩ := R.own _ ho
        refine ⟨fun hm => ?_, fun hm => q3 (hsub _ hm), q2⟩
        rcases List.mem_cons.mp hm with e | e
        · have e' : p.2.2 = C := e
          rw [e', hsC] at hoo; cases hoo
        · cases e }
  have P0 : Post w hB (mkComp c scope cl x caps C) al0 Z s ⟨capLoc st caps, hp0⟩ al0 Z { s with heap := h₁, toks := t } :=
    ⟨RI, List.prefix_refl _, fun u_ h => h, fun b o h u_ u_ => old b o h, fun u_ h => .inl h, fun u_ h => .inl h, rfl, rfl⟩
  exact ⟨old1, hDo, hsD, hsC, hDC, hID, hIC, hDt, hCt, hDm, unt, P0⟩
theorem comp_fp {x : Str} {scope : Scope} {cl : List (Str × Addr)} {caps : List (Str × Nat × Addr)} {al0 al2 al6 : List Addr} {Z2 Z6 : Led} {st2 st6 : St} {s2 s3 s6 : Shared} {I C : Addr} {fp : List Addr} (hfp : ∀ b ∈ fp, b ≠ I → ∃ o, s.heap.get? b = some o ∧ b ∉ al0 ∧ b ≠ tbA)
    (hsC : s.heap.get? C = none) (uI : Untr hB (mkComp c scope cl x caps C) al2 Z2 I) (p2 : Post w hB (mkComp c scope cl x caps C) al0 Z s st2 al2 Z2 s2) (p56 : Post w hB (mkComp c scope cl x caps C) al2 Z2 s3 st6 al6 Z6 s6) (b : Addr) (hb : b ∈ fp) (o : Obj) (e : s3.heap.get? b = some o) : s6.heap.get? b = some o := by
  by_cases hbI : b = I
  · subst hbI; exact uI.keep p56 e
  · obtain ⟨o', ho', hn', ht'⟩ := hfp b hb hbI
    refine p56.frame b o e (fun hm => ?_) ht'
    rcases List.mem_append.mp hm with hm | hm
    · rcases List.mem_cons.mp hm with q | q
      · have q' : b = C := q
        rw [q', hsC] at ho'; cases ho'
      · cases q
    · rcases p2.fresh b hm with h | h
      · exact hn' h
      · rw [h] at ho'; cases ho'
theorem comp_fpD {al0 : List Addr} {I D : Addr} {fp : List Addr} (hfp : ∀ b ∈ fp, b ≠ I → ∃ o, s.heap.get? b = some o ∧ b ∉ al0 ∧ b ≠ tbA) (hID : I ≠ D) (hsD : s.heap.get? D = none) (b : Addr) (hb : b ∈ fp) (q : b = D) : False := by
  by_cases hbI : b = I
  · exact hID (hbI ▸ q)
  · obtain ⟨o', ho', _, _⟩ := hfp b hb hbI
    rw [q, hsD] at ho'; cases ho'
theorem comp_end {x : Str} {scope : Scope} {cl : List (Str × Addr)} {caps : List (Str × Nat × Addr)} {al0 al2 : List Addr} {Z2 : Led} {st2 : St} {s3 : Shared} {C : Addr} (hsC : s.heap.get? C = none) (p3 : Post w hB (mkComp c scope cl x caps C) al0 Z s st2 al2 Z2 s3) : Post0 w hB al0 Z s st2.heap al2 Z2 s3 :=
  { rel := p3.rel.toRel0, pre := p3.pre, sub := p3.sub, frame := fun b o e hn ht => p3.frame b o e (fun hm => (List.mem_append.mp hm).elim (fun q => by
                rcases List.mem_cons.mp q with q | q
                · have q' : b = C := q
                  rw [q', hsC] at e; cases e
                · cases q) hn) ht, fresh := p3.fresh, zfresh := p3.zfresh, gens := p3.gens, os := p3.os }
inductive CInv (w : World) (hB : Heap) (m : Cx) (al0 : List Addr) (Z : Led) (s : Shared) (I D : Addr) (Sv : Nat → Heap → Prop) (xs : List SV) (we : T SV) (k : List SV → List SO → Prop) (n : Nat) (s' : Shared) : Prop
  | mk (i : Nat) (st2 : St) (al2 : List Addr) (Z2 : Led) (acc : List SV) (vs : List Value) (ne : Nat) (e : n = xs.length - i) (h : i ≤ xs.length) (p : Post w hB m al0 Z s st2 al2 Z2 s') (uI : Untr hB m al2 Z2 I) (uD : Untr hB m al2 Z2 D) (v : Sv i s'.heap)
    (hD : s'.heap.get? D = some { cls := .type "list", data := .seq vs.toArray ne }) (r : VRs w Z2 al2 acc vs) (ha : acc.length = i) (f : wCompL we k (xs.drop i) st2 acc) : CInv w hB m al0 Z s I D Sv xs we k n s'
theorem comp_gen {elt iter : PySem.Expr} {x : Str} {px pos : Pos} {scope : Scope} {cl : List (Str × Addr)} {caps : List (Str × Nat × Addr)} {we : T SV} (K : CompIs c scope cl x caps) (he : ∀ C, EvalsTo w hB (mkComp c scope cl x caps C) elt we)
    (R : SRel w hB c st al Z s) {hp0 : List SO} {al0 : List Addr} (R0 : Rel0 w hB hp0 al0 Z s) (hsub : ∀ a ∈ al0, a ∈ al)
    (hcv : ∀ sv v, some sv ∈ capLoc st caps → VR w Z al sv v → VR w Z al0 sv v) {I : Addr} {oI : Obj} {xs : List SV} (src : Src w al0 Z al0 (.ref I) xs s { s with heap := s.heap.push oI }) (hlen : xs.length ≤ 1000)
    {k : List SV → List SO → Prop} (hw : wCompL we k xs ⟨capLoc st caps, hp0⟩ []) {RR : Value → Addr → Result → Shared → Prop}
    (hRR : ∀ (D C : Addr) (s' : Shared) (acc : List SV) (vs : List Value) (hp' : List SO) (al' : List Addr) (Z' : Led) (n : Nat) (m : Str → Option Value), s.heap.get? D = none → s.heap.get? C = none → D ≠ C → s'.heap.Ns C m →
      s'.heap.get? D = some { cls := .type "list", data := .seq vs.toArray n } → Post0 w hB al0 Z s hp' al' Z' s' → VRs w Z' al' acc vs → D ∉ al' → C ∉ al' → (∀ p ∈ Z', p.1 ≠ D ∧ p.1 ≠ C) → D ≠ tbA → C ≠ tbA → D ≠ sysModules → k acc hp' → RR (.ref D) C (.ok .next) s') :
    wpAny (model P w) c.A (newList []) (fun acc s₃ => wpAny (model P w) c.A (newFunctionEnv scope c.env.globals cl [] c.env.qual none .none (some c.env)) (fun cenv s₄ =>
      codeAny (model P w) c.A (.compStart (.ListComp elt [⟨.Name x px, iter, [], 0⟩] scope pos) 0 (.ref I) acc { cenv with scope := relabel scope c.env }) (RR acc cenv.locals) s₄) (fun u_ u_ => False) s₃) (fun u_ u_ => False) { s with heap := s.heap.push oI } := by
  obtain ⟨I', fp, Pr, Sv, hI', hI, W, st0, hIf, hPr, hfp, hcls⟩ := src
  cases hI'
  have hsI : I < (s.heap.push oI).objs.size := by
    obtain ⟨o, n, ho, _⟩ := hcls _ _ st0
    exact Heap.lt_size ho
  refine wpAny_newObj_type (wpAny_newFunctionEnv K.cell (by intro y hy; simp at hy) (fun h₁ hns₁ hsb₁ => ?_) K.kind)
  dsimp only at hns₁ hsb₁ ⊢
  generalize hH2 : (s.heap.push oI).push { cls := .type "list", dict := none, data := .seq ([] : List Value).toArray } = H2 at hns₁ hsb₁ ⊢
  generalize hD : (s.heap.push oI).objs.size = D at hsI hH2 ⊢
  generalize hC : H2.objs.size = C at hns₁ hsb₁ ⊢
  obtain ⟨old1, hDo, hsD, hsC, hDC, hID, hIC, hDt, hCt, hDm, unt, P0⟩ := comp_set (t := s.toks + ([] : List (Str × Value)).length) K R R0 hsub hcv hH2 hD hC hsI hns₁ hsb₁ rfl
  have Wc := W c.A R.ok.hand
  have hst₁ : Sv 0 h₁ := Wc.frame _ _ _ st0 fun b u_ o e => old1 b o e
  have hx0 : (mkComp c scope cl x caps C).slots[0]? = some (x, .loc) := rfl
  have loop : codeAny (model P w) c.A (.compLoop (.ListComp elt [⟨.Name x px, iter, [], 0⟩] scope pos) 0 (.ref I) (.ref D) (compEnvC scope cl C c.env)) (RR (.ref D) C) { s with heap := h₁, toks := s.toks + ([] : List (Str × Value)).length } := by
    refine codeAny_compLoop_list (CInv w hB (mkComp c scope cl x caps C) al0 Z s I D Sv xs we k) (fun n s2 hI2 => ?_) xs.length
      ⟨0, _, al0, Z, [], [], 0, rfl, Nat.zero_le _, P0, unt I hI hIC (fun e => by rw [e] at hI; obtain ⟨ps, e', _⟩ := R.tab; rw [hI] at e'; cases e'), unt D hsD hDC hDt, hst₁, hDo, (by exact Eq.refl _), rfl, by rw [List.drop_zero]; exact hw⟩
    obtain ⟨i, st2, al2, Z2, acc, vs, ne, e, hle, p2, uI, uD, hsv, hDv, rr, hacc, hwi⟩ := hI2
    cases e
    rcases Nat.lt_or_ge i xs.length with hlt | hge
    · rw [List.drop_eq_getElem_cons hlt] at hwi
      refine Wc.item i s2 _ _ hlt hsv fun v h' tk hpv hst' hk' => ?_
      have p3 : Post w hB (mkComp c scope cl x caps C) al0 Z s st2 al2 Z2 { s2 with heap := h', toks := tk } := p2.chg uI hI (fun b o hb e => hk' b o (by simpa using hb) e) rfl rfl
      have hDv' : h'.get? D = some { cls := .type "list", data := .seq vs.toArray ne } := hk' D _ (by simpa using hID.symm) hDv
      obtain ⟨sv, hsv', rv⟩ := hPr i v hpv
      have hsv2 : sv = xs[i] := by rw [List.getElem?_eq_getElem hlt] at hsv'; exact (Option.some.inj hsv').symm
      subst hsv2
      have rv' : VR w Z2 al2 xs[i] v := rv.mono p2.sub p2.pre
      refine wpAny_mono (as_loc (pos := px) hx0 st2 al2 Z2 { s2 with heap := h', toks := tk } (fun u_ st => we (fun v st' => wCompL we k (xs.drop (i + 1)) st' (acc ++ [v])) st) xs[i] v p3.rel rv' hwi) (fun u_ s5 h5 => ?_) fun u_ u_ h => h.elim
      obtain ⟨st5, al5, Z5, _, p5, _, hk5⟩ := h5
      refine wpAny_mono (he C st5 al5 Z5 s5 _ p5.rel hk5) (fun y s6 h6 => ?_) fun u_ u_ h => h.elim
      obtain ⟨st6, al6, Z6, yv, p6, r6, hk6⟩ := h6
      have p56 := p5.trans p6
      have pall := p3.trans p56
      have uD6 := uD.step p56 hDv'
      have hD6 := uD.keep p56 hDv'
      obtain ⟨oI3, nI3, hI3, _, _⟩ := hcls _ _ hst'
      have uI6 := uI.step p56 hI3
      have hst6 : Sv (i + 1) s6.heap := Wc.frame _ _ _ hst' (comp_fp hfp hsC uI p2 p56)
      have hvl := rr.length
      refine call_meets PySem.F.slot_list_append ⟨_, hD6, rfl⟩ PySem.F.entry_list_append (PySem.F.args_list_append_2 _ _) (list_append D vs.toArray ne y (by rw [List.size_toArray, hvl, sizeLine_eq]; omega)) ⟨hD6, ?_⟩
      obtain ⟨n', hn⟩ := isL_upd hD6 (fun x => x.push y) (ys := vs ++ [y]) (by simp)
      have p7 : Post w hB (mkComp c scope cl x caps C) al0 Z s st6 al6 Z6 { s6 with heap := s6.heap.update D (Obj.mapSeq (fun x => x.push y)) } := pall.chg uD6 hsD (fun b o hb e => (Heap.get?_update_other _ _ (Ne.symm hb)).trans e) rfl rfl
      refine ⟨xs.length - (i + 1), by omega, i + 1, st6, al6, Z6, acc ++ [yv], vs ++ [y], n', rfl, hlt, p7, uI6, uD6, ?_, hn, (rr.mono p56.sub p56.pre).append (VRs.one r6), by simp [hacc], hk6⟩
      refine Wc.frame _ _ _ hst6 fun b hb o e => ?_
      have hbD : b ≠ D := comp_fpD hfp hID hsD b hb
      exact (Heap.get?_update_other _ _ (Ne.symm hbD)).trans e
    · obtain rfl : i = xs.length := Nat.le_antisymm hle hge
      rw [List.drop_length] at hwi
      refine Wc.done s2 _ _ hsv fun h' tk hk' => ?_
      have p3 : Post w hB (mkComp c scope cl x caps C) al0 Z s st2 al2 Z2 { s2 with heap := h', toks := tk } := p2.chg uI hI (fun b o hb e => hk' b o (by simpa using hb) e) rfl rfl
      have hDv' : h'.get? D = some { cls := .type "list", data := .seq vs.toArray ne } := hk' D _ (by simpa using hID.symm) hDv
      obtain ⟨m, hm, _⟩ := p3.rel.ns
      refine hRR D C _ acc vs st2.heap al2 Z2 ne m hsD hsC hDC hm hDv' ?_ rr uD.o2 (p3.rel.own C (.head _)).2.2.1 (fun p hp => ⟨uD.o3 p hp, fun e => p3.rel.ownz p hp (e ▸ .head _)⟩) hDt hCt hDm hwi
      exact comp_end hsC p3
  exact codeAny_compStart_list loop (Wc.self 0 _ _ _ hst₁ loop)
end

section
variable {w : World} {hB : Heap} {c : Cx} {st : St} {al : List Addr} {Z : Led} {s : Shared}
theorem Post.ofGen {hp' : List SO} {al' : List Addr} {Z' : Led} {s' : Shared} (R : SRel w hB c st al Z s) (p : Post0 w hB al Z s hp' al' Z' s') : Post w hB c al Z s ⟨st.loc, hp'⟩ al' Z' s' := by
  have keep : ∀ b o, s.heap.get? b = some o → b ∉ al → b ≠ tbA → s'.heap.get? b = some o := fun b o h hn ht => p.frame b o h hn ht
  have ex : ∀ {b}, s.heap.get? b ≠ none → b ∉ al → b ∉ al' := fun {b} h hn hm => by
    rcases p.fresh b hm with q | q
    · exact hn q
    · exact h q
  have zex : ∀ {b}, s.heap.get? b ≠ none → (∀ q ∈ Z, q.1 ≠ b) → ∀ q ∈ Z', q.1 ≠ b := fun {b} h hn q hq e => by
    rcases p.zfresh q hq with r | r
    · exact hn q r e
    · exact h (e ▸ r)
  refine ⟨{ toRel0 := p.rel, ok := R.ok, pinl := Nat.le_trans R.pinl p.pre.length_le, ns := ?_, cell := fun i x a h => ?_, own := fun a ha => ?_, ownz := fun q hq hm => ?_, capt := fun x a hx => ?_ },
    p.pre, p.sub, fun b o h hn ht => keep b o h (fun hm => hn (List.mem_append_right _ hm)) ht, p.fresh, p.zfresh, p.gens, p.os⟩
  · obtain ⟨m, ⟨o, es, ep, e, r⟩, hm⟩ := R.ns
    exact ⟨m, ⟨o, es, ep, keep _ _ e (R.own _ (.head _)).2.2.1 (R.own _ (.head _)).2.1, r⟩, fun i x sv e1 e2 => let ⟨v, p1, q⟩ := hm i x sv e1 e2; ⟨v, p1, q.mono p.sub p.pre⟩⟩
  · obtain ⟨vo, ⟨o, e, r⟩, hv⟩ := R.cell i x a h
    have hta : a ∉ al ∧ a ≠ tbA := by
      rcases h with h | h
      · have := R.own a (.tail _ (R.ok.scell x a (List.mem_of_getElem? h)).2.2); exact ⟨this.2.2.1, this.2.1⟩
      · have := R.capt x a (List.mem_of_getElem? h); exact ⟨this.2.1, this.2.2⟩
    exact ⟨vo, ⟨o, keep _ _ e hta.1 hta.2, r⟩, fun sv e' => let ⟨v, p1, q⟩ := hv sv e'; ⟨v, p1, q.mono p.sub p.pre⟩⟩
  · obtain ⟨p1, p2, p3, o, p4⟩ := R.own a ha
    exact ⟨p1, p2, ex (by rw [p4]; simp) p3, o, keep _ _ p4 p3 p2⟩
  · obtain ⟨p1, p2, p3, o, p4⟩ := R.own _ hm
    exact zex (by rw [p4]; simp) (fun r hr e => R.ownz r hr (e ▸ hm)) q hq rfl
  · obtain ⟨q1, q2, q3⟩ := R.capt x a hx
    obtain ⟨i, hi⟩ := List.getElem?_of_mem hx
    obtain ⟨vo, ⟨o, e, _⟩, _⟩ := R.cell i x a (.inr hi)
    exact ⟨q1, ex (by rw [e]; simp) q2, q3⟩

theorem addD {st' : St} {al' : List Addr} {Z' : Led} {s' : Shared} {D : Addr} {acc : List SV} {vs : List Value} {n : Nat} {lv : Bool} {k : SV → St → Prop} (p : Post w hB c al Z s st' al' Z' s') (hs : s.heap.get? D = none) (u : Untr hB c al' Z' D) (hm : D ≠ sysModules)
    (hD : s'.heap.get? D = some { cls := .type "list", data := .seq vs.toArray n }) (r : VRs w Z' al' acc vs) (hw : wNewL lv acc k st') : ∃ st'' al'' Z'' sv, Post w hB c al Z s st'' al'' Z'' s' ∧ VR w Z'' al'' sv (.ref D) ∧ k sv st'' ∧ ∀ C, C ≠ D → Untr hB c al' Z' C → Untr hB c al'' Z'' C := by
  unfold wNewL at hw
  cases lv with
  | true =>
    simp only [if_true] at hw
    have R' := p.rel.addL (so := .list acc) hD u.o4 u.o1 u.o2 u.o5 u.o3 u.o6 hm ⟨vs, ⟨n, rfl⟩, r.mono (fun u_ h => h) (List.prefix_append _ _)⟩
    refine ⟨_, _, _, _, ⟨R', p.pre.trans (List.prefix_append _ _), p.sub, p.frame, fun a ha => ?_, p.zfresh, p.gens, p.os⟩, ?_, hw, fun C hC v => ?_⟩
    · rcases List.mem_append.mp ha with q | q
      · exact p.fresh a q
      · simp at q; subst q; exact .inr hs
    · exact ⟨D, by rw [← p.rel.len]; simp, rfl⟩
    · refine ⟨v.o1, fun hm => ?_, v.o3, v.o4, v.o5, v.o6⟩
      rcases List.mem_append.mp hm with q | q
      · exact v.o2 q
      · simp at q; exact hC q
  | false =>
    simp only [Bool.false_eq_true, if_false] at hw
    have R' := p.rel.addZ hD u.o1 u.o2 u.o5 (fun u_ => hm)
    refine ⟨_, _, _, _, ⟨R', p.pre, fun q hq => .tail _ (p.sub q hq), p.frame, p.fresh, fun q hq => ?_, p.gens, p.os⟩, ?_, hw, fun C hC v => ?_⟩
    · cases hq with
      | head => exact .inr hs
      | tail w1_ hq => exact p.zfresh q hq
    · exact ⟨D, _, vs, rfl, .head _, ⟨n, rfl⟩, r.mono (fun u_ h => .tail _ h) (List.prefix_refl _)⟩
    · refine ⟨v.o1, v.o2, fun q hq => ?_, v.o4, v.o5, v.o6⟩
      cases hq with
      | head => exact hC.symm
      | tail w1_ hq => exact v.o3 q hq

theorem untr_new (R : SRel w hB c st al Z s) {D : Addr} (hs : s.heap.get? D = none) (ht : D ≠ tbA) {al' : List Addr} {Z' : Led} (h1 : D ∉ al') (h2 : ∀ p ∈ Z', p.1 ≠ D) : Untr hB c al' Z' D := by
  refine ⟨fun hm => ?_, h1, h2, ?_, ht, fun x hx => ?_⟩
  · obtain ⟨o, ho⟩ := (R.own D hm).2.2.2
    rw [hs] at ho; cases ho
  · cases e : hB.get? D with
    | none => rfl
    | some o => have := R.base _ _ e; rw [hs] at this; cases this
  · obtain ⟨i, hi⟩ := List.getElem?_of_mem hx
    obtain ⟨vo, ⟨o, e, _⟩, _⟩ := R.cell i x D (.inr hi)
    rw [hs] at e; cases e
end

section
variable (w : World) (hB : Heap) (c : Cx)
noncomputable def ItOpP (W : SV → T (List SV)) : Prop := ∀ st al Z s k a va, SRel w hB c st al Z s → VR w Z al a va → W a k st →
  ∀ (A : Around) (Q : Value → Shared → Prop), (∀ I o xs, k xs st → clos xs → Src w [] Z [] (.ref I) xs s { s with heap := s.heap.push o } → Q (.ref I) { s with heap := s.heap.push o }) → WP w A (pyIter va) Q s
end
noncomputable def closO : List (Option SV) → Prop
  | [] => True
  | some v :: r => clo v ∧ closO r
  | none :: r => closO r
theorem closO_mem : ∀ {l : List (Option SV)} {v : SV}, closO l → some v ∈ l → clo v
  | [], w1_, w2_, h => by simp at h
  | some u :: r, v, hc, h => by
    simp only [closO] at hc
    rcases List.mem_cons.mp h with e | e
    · cases e; exact hc.1
    · exact closO_mem hc.2 e
  | none :: r, v, hc, h => by
    simp only [closO] at hc
    rcases List.mem_cons.mp h with e | e
    · cases e
    · exact closO_mem hc e
section
variable {w : World} {hB : Heap} {c : Cx}
theorem itp_of {W : SV → T (List SV)} (h : ItOp w hB c W) : ItOpP w hB c (fun a k => W a fun xs st => clos xs ∧ k xs st) := by
  intro st al Z s k a va R r hw A Q hQ
  refine h st al Z s _ a va R r hw A Q fun it o xs hk src => ?_
  obtain ⟨I, fp, Pr, Sv, rfl, hI, W', st0, hIf, hPr, hfp, hcls⟩ := src
  exact hQ I o xs hk.2 hk.1 ⟨I, fp, Pr, Sv, rfl, hI, W', st0, hIf, fun i v hp => let ⟨sv, h1, h2⟩ := hPr i v hp; ⟨sv, h1, h2.clo (clos_iff.mp hk.1 _ (List.mem_of_getElem? h1))⟩, fun b hb hn => let ⟨o, h1, _, h3⟩ := hfp b hb hn; ⟨o, h1, by simp, h3⟩, hcls⟩
noncomputable def wItLP (a : SV) : T (List SV) := fun k st => on1 (lstOf st a) (fun vs => clos vs ∧ k vs st) False
theorem itp_list : ItOpP w hB c wItLP := by
  intro st al Z s k a va R r hw A Q hQ
  · obtain ⟨vs, e, hw_1⟩ := on1.get hw
    obtain ⟨l, xs, n, rfl, hl, rr⟩ := lst_at R r e
    have hne : l ≠ s.heap.objs.size := Nat.ne_of_lt (Heap.lt_size hl)
    have hlen : vs.length = xs.toArray.size := by rw [List.size_toArray, rr.length]
    have rr' : VRs w Z [] vs xs := rr.clo hw_1.1
    have lt : l ≠ tbA := by
      intro q
      subst q
      obtain ⟨ps, e', _⟩ := R.tab
      have e2 : s.heap.get? tbA = some _ := hl
      rw [e2] at e'
      cases e'
    refine wpAny_pyIter_list hl.isList (hQ _ _ _ hw_1.2 hw_1.1 ⟨s.heap.objs.size, [s.heap.objs.size, l], fun i v => xs.toArray[i]? = some v, _, rfl, get?_size_none _, fun A' hA => hlen ▸ Walks.list hA _ l hne xs.toArray, ⟨⟨_, Heap.get?_push_size _ rfl, rfl, rfl⟩, hl.isList.push _⟩, .head _, fun i v h => ?_, fun b hb hn => ?_, fun i h ⟨⟨o, ho, hc, y1_⟩, y2_⟩ => ⟨o, _, ho, hc, by decide⟩⟩)
    · have h' : xs[i]? = some v := by simpa using h
      have hi : i < vs.length := by
        rw [hlen, List.size_toArray]
        rcases Nat.lt_or_ge i xs.length with q | q
        · exact q
        · rw [List.getElem?_eq_none q] at h'; cases h'
      obtain ⟨v', h1, h2⟩ := rr'.get (List.getElem?_eq_getElem hi)
      rw [h'] at h1; cases h1
      exact ⟨_, List.getElem?_eq_getElem hi, h2⟩
    · simp at hb
      rcases hb with hb | rfl
      · exact absurd hb hn
      · exact ⟨_, hl, by simp, lt⟩

noncomputable def wComp (lv : Bool) (caps : List (Str × Nat × Addr)) (wi : T SV) (wit : SV → T (List SV)) (we : T SV) : T SV := fun k => wi fun a => wit a fun xs st => xs.length ≤ 1000 ∧ closO (capLoc st caps) ∧ wCompL we (fun acc u_ => clos acc ∧ wNewL lv acc k st) xs ⟨capLoc st caps, []⟩ []
inductive CompR (w : World) (hB : Heap) (c : Cx) (al : List Addr) (Z : Led) (s : Shared) (k : SV → St → Prop) (D C : Addr) (s' : Shared) : Prop
  | mk (st' : St) (al' : List Addr) (Z' : Led) (sv : SV) (p : Post w hB c al Z s st' al' Z' s') (r : VR w Z' al' sv (.ref D)) (h : k sv st') (u : Untr hB c al' Z' C) : CompR w hB c al Z s k D C s'
theorem comp_pure {elt iter : PySem.Expr} {x : Str} {px pos : Pos} {scope : Scope} {cl : List (Str × Addr)} {caps : List (Str × Nat × Addr)} {lv : Bool} {wi we : T SV} {wit : SV → T (List SV)} (K : CompIs c scope cl x caps) (hi : EvalsTo w hB c iter wi) (hit : ItOpP w hB c wit)
    (he : ∀ C, EvalsTo w hB (mkComp c scope cl x caps C) elt we) {use : Option (Value → Sem Unit)} {Q : Value → Shared → Prop} {fpos : Pos} (hs : ∀ x, foldedSetIterable iter c.env x = pure x)
    {st : St} {al : List Addr} {Z : Led} {s : Shared} {k : SV → St → Prop} (R : SRel w hB c st al Z s) (hw : wComp lv caps wi wit we k st)
    (hfin : ∀ (D C : Addr) (s' : Shared) (m : Str → Option Value), s'.heap.Ns C m → s.heap.get? C = none →
      CompR w hB c al Z s k D C s' → compPost (model P w) c.A (fun u_ u_ => False) use Q (.ref D) C (.ok .next) s') :
    WP w c.A (comprehension (.ListComp elt [⟨.Name x px, iter, [], 0⟩] scope pos) scope c.env fpos (newList []) false (eval iter c.env) use) Q s := by
  refine wpAny_comprehension_free rfl hs K.clos K.kind K.names (wpAny_mono (hi st al Z s _ R hw) (fun va s1 h1 => ?_) fun u_ u_ h => h)
  obtain ⟨st1, al1, Z1, a, p1, r1, hk1⟩ := h1
  refine hit st1 al1 Z1 s1 _ a va p1.rel r1 hk1 c.A _ fun I oI xs ⟨h0, h1, h2⟩ hcl src => ?_
  refine comp_gen K he p1.rel (rel0_nil p1.rel) (fun u_ h => nomatch h) (fun sv v hm hv => hv.clo (closO_mem h1 hm)) src h0 h2 fun D C s' acc vs hp' al' Z' n m hD hC hDC hm hDv p0 rr d1 d2 d3 d4 d5 d6 hk => ?_
  have p2 := Post.ofPure p1.rel p0 [] (fun u_ h => nomatch h)
  have p2' : Post w hB c al1 Z1 s1 st1 al1 Z' s' := p2
  have uD : Untr hB c al1 Z' D := untr_new p1.rel hD d4 (fun hm => by
    obtain ⟨i, hi⟩ := List.getElem?_of_mem hm
    have hl : i < st1.heap.length := by
      rw [← p1.rel.len]
      rcases Nat.lt_or_ge i al1.length with q | q
      · exact q
      · rw [List.getElem?_eq_none q] at hi; cases hi
    obtain ⟨o, ho, _⟩ := p1.rel.live i st1.heap[i] _ (List.getElem?_eq_getElem hl) hi
    rw [hD] at ho; cases ho) fun p hp => (d3 p hp).1
  have uC : Untr hB c al1 Z' C := untr_new p1.rel hC d5 (fun hm => by
    obtain ⟨i, hi⟩ := List.getElem?_of_mem hm
    have hl : i < st1.heap.length := by
      rw [← p1.rel.len]
      rcases Nat.lt_or_ge i al1.length with q | q
      · exact q
      · rw [List.getElem?_eq_none q] at hi; cases hi
    obtain ⟨o, ho, _⟩ := p1.rel.live i st1.heap[i] _ (List.getElem?_eq_getElem hl) hi
    rw [hC] at ho; cases ho) fun p hp => (d3 p hp).2
  obtain ⟨st', al'', Z'', sv, p3, rv, hk', hu⟩ := addD p2' hD uD d6 hDv (rr.clo hk.1) hk.2
  refine hfin D C s' m hm ?_ ⟨st', al'', Z'', sv, p1.trans p3, rv, hk', hu C hDC.symm uC⟩
  cases e : s.heap.get? C with
  | none => rfl
  | some o => obtain ⟨o', h'⟩ := p1.there _ _ e; rw [hC] at h'; cases h'
theorem ev_comp {elt iter : PySem.Expr} {x : Str} {px pos : Pos} {scope : Scope} {cl : List (Str × Addr)} {caps : List (Str × Nat × Addr)} (lv : Bool) {wi we : T SV} {wit : SV → T (List SV)} (K : CompIs c scope cl x caps) (hi : EvalsTo w hB c iter wi) (hit : ItOpP w hB c wit)
    (he : ∀ C, EvalsTo w hB (mkComp c scope cl x caps C) elt we) (hs : autoParam (∀ x, foldedSetIterable iter c.env x = pure x) aIRfl) :
    EvalsTo w hB c (.ListComp elt [⟨.Name x px, iter, [], 0⟩] scope pos) (wComp lv caps wi wit we) := by
  intro st al Z s k R hw
  rw [eval_ListComp]
  refine comp_pure K hi hit he hs R hw fun D C s' m hm hC ⟨st', al', Z', sv, p, rv, hk, uC⟩ => ?_
  exact ⟨m, hm, fun h' hs' => Ret.mk (p.chg uC hC (fun b o hb e => (hs'.2 b hb).trans e) rfl rfl) rv hk⟩
theorem ex_compS {elt iter : PySem.Expr} {x y : Str} {px py pos spos : Pos} {scope : Scope} {cl : List (Str × Addr)} {caps : List (Str × Nat × Addr)} (lv : Bool) {wi we : T SV} {wit : SV → T (List SV)} {wt : SV → T Unit} (K : CompIs c scope cl x caps) (hi : EvalsTo w hB c iter wi) (hit : ItOpP w hB c wit)
    (he : ∀ C, EvalsTo w hB (mkComp c scope cl x caps C) elt we) (ht : AssTo w hB c (.Name y py) wt) (hsw : swapsWith (.ListComp elt [⟨.Name x px, iter, [], 0⟩] scope pos) (some (.Name y py)) spos.line c.env = pure true) (hs : autoParam (∀ x, foldedSetIterable iter c.env x = pure x) aIRfl) :
    ExecTo w hB c (.Assign [.Name y py] (.ListComp elt [⟨.Name x px, iter, [], 0⟩] scope pos) spos) (fun k => wComp lv caps wi wit we fun a => wt a fun u_ => k .next) := by
  intro st al Z s k R hw
  rw [exec_Assign_Name_used _ _ _ _ hsw]
  refine wpAny_bind (wpAny_standAt (wpAny_bind ?_))
  show wpAny _ c.A (do let _ ← comprehension (.ListComp elt [⟨.Name x px, iter, [], 0⟩] scope pos) scope c.env _ (newList []) false (eval iter c.env) (some (assign (.Name y py) c.env))) _ _ s
  refine wpAny_bind (wpAny_mono (comp_pure (use := some (assign (.Name y py) c.env)) (Q := fun u_ s' => RetS w hB c al Z s (FR w) k .next s') K hi hit he hs R hw fun D C s' m hm hC ⟨st', al', Z', sv, p, rv, hk, uC⟩ => ?_) (fun u_ s' hq => wpAny_pure (wpAny_pure hq)) fun u_ u_ e => e)
  refine wpAny_mono (ht st' al' Z' s' _ sv (.ref D) p.rel rv hk) (fun u_ s5 h5 => ?_) fun u_ u_ h => h
  obtain ⟨st5, al5, Z5, _, p5, _, hk5⟩ := h5
  obtain ⟨o, es, ep, ho, r⟩ := hm
  have uC5 := uC.step p5 ho
  have hC5 := uC.keep p5 ho
  exact ⟨m, ⟨o, es, ep, hC5, r⟩, fun h' hs' => RetS.mk (((p.trans p5).chg uC5 hC (s2 := { s5 with heap := h' }) (fun b o hb e => (hs'.2 b hb).trans e) rfl rfl).toS R.pinl) FR.nx hk5⟩
end
section
variable {w : World} {hB : Heap} {c : Cx}
noncomputable def wCompV (lv : Bool) (caps : List (Str × Nat × Addr)) (wi : T SV) (wit : SV → T (List SV)) (we : T SV) : T SV := fun k => wi fun a => wit a fun xs st => xs.length ≤ 1000 ∧ wCompL we (fun acc hp => wNewL lv acc k ⟨st.loc, hp⟩) xs ⟨capLoc st caps, st.heap⟩ []
theorem live_ne {st : St} {al : List Addr} {Z : Led} {s : Shared} (R : SRel w hB c st al Z s) {D : Addr} (hD : s.heap.get? D = none) : D ∉ al := fun hm => by
  obtain ⟨i, hi⟩ := List.getElem?_of_mem hm
  have hl : i < st.heap.length := by
    rw [← R.len]
    rcases Nat.lt_or_ge i al.length with q | q
    · exact q
    · rw [List.getElem?_eq_none q] at hi; cases hi
  obtain ⟨o, ho, _⟩ := R.live i st.heap[i] _ (List.getElem?_eq_getElem hl) hi
  rw [hD] at ho; cases ho
theorem comp_live {elt iter : PySem.Expr} {x : Str} {px pos : Pos} {scope : Scope} {cl : List (Str × Addr)} {caps : List (Str × Nat × Addr)} {lv : Bool} {wi we : T SV} {wit : SV → T (List SV)} (K : CompIs c scope cl x caps) (hi : EvalsTo w hB c iter wi) (hit : ItOp w hB c wit)
    (he : ∀ C, EvalsTo w hB (mkComp c scope cl x caps C) elt we) {use : Option (Value → Sem Unit)} {Q : Value → Shared → Prop} {fpos : Pos} (hs : ∀ x, foldedSetIterable iter c.env x = pure x)
    {st : St} {al : List Addr} {Z : Led} {s : Shared} {k : SV → St → Prop} (R : SRel w hB c st al Z s) (hw : wCompV lv caps wi wit we k st)
    (hfin : ∀ (D C : Addr) (s' : Shared) (m : Str → Option Value), s'.heap.Ns C m → s.heap.get? C = none →
      CompR w hB c al Z s k D C s' → compPost (model P w) c.A (fun u_ u_ => False) use Q (.ref D) C (.ok .next) s') :
    WP w c.A (comprehension (.ListComp elt [⟨.Name x px, iter, [], 0⟩] scope pos) scope c.env fpos (newList []) false (eval iter c.env) use) Q s := by
  refine wpAny_comprehension_free rfl hs K.clos K.kind K.names (wpAny_mono (hi st al Z s _ R hw) (fun va s1 h1 => ?_) fun u_ u_ h => h)
  obtain ⟨st1, al1, Z1, a, p1, r1, hk1⟩ := h1
  refine hit st1 al1 Z1 s1 _ a va p1.rel r1 hk1 c.A _ fun it oI xs ⟨h0, h2⟩ src => ?_
  obtain ⟨I, fp, Pr, Sv, rfl, hI, W', st0, hIf, hPr, hfp, hcls⟩ := src
  have src' : Src w al1 Z1 al1 (.ref I) xs s1 { s1 with heap := s1.heap.push oI } := ⟨I, fp, Pr, Sv, rfl, hI, W', st0, hIf, hPr, fun b hb hn => let ⟨o, q1, q2, q3⟩ := hfp b hb hn; ⟨o, q1, fun hm => q2 (List.mem_append_right _ hm), q3⟩, hcls⟩
  refine comp_gen K he p1.rel p1.rel.toRel0 (fun u_ h => h) (fun u_ u_ u_ hv => hv) src' h0 h2 fun D C s' acc vs hp' al' Z' n m hD hC hDC hm hDv p0 rr d1 d2 d3 d4 d5 d6 hk => ?_
  have p2 := Post.ofGen p1.rel p0
  have uD : Untr hB c al' Z' D := untr_new p1.rel hD d4 d1 fun p hp => (d3 p hp).1
  have uC : Untr hB c al' Z' C := untr_new p1.rel hC d5 d2 fun p hp => (d3 p hp).2
  obtain ⟨st', al'', Z'', sv, p3, rv, hk', hu⟩ := addD p2 hD uD d6 hDv rr hk
  refine hfin D C s' m hm ?_ ⟨st', al'', Z'', sv, p1.trans p3, rv, hk', hu C hDC.symm uC⟩
  cases e : s.heap.get? C with
  | none => rfl
  | some o => obtain ⟨o', h'⟩ := p1.there _ _ e; rw [hC] at h'; cases h'
theorem ev_compV {elt iter : PySem.Expr} {x : Str} {px pos : Pos} {scope : Scope} {cl : List (Str × Addr)} {caps : List (Str × Nat × Addr)} (lv : Bool) {wi we : T SV} {wit : SV → T (List SV)} (K : CompIs c scope cl x caps) (hi : EvalsTo w hB c iter wi) (hit : ItOp w hB c wit)
    (he : ∀ C, EvalsTo w hB (mkComp c scope cl x caps C) elt we) (hs : autoParam (∀ x, foldedSetIterable iter c.env x = pure x) aIRfl) :
    EvalsTo w hB c (.ListComp elt [⟨.Name x px, iter, [], 0⟩] scope pos) (wCompV lv caps wi wit we) := by
  intro st al Z s k R hw
  rw [eval_ListComp]
  refine comp_live K hi hit he hs R hw fun D C s' m hm hC ⟨st', al', Z', sv, p, rv, hk, uC⟩ => ?_
  exact ⟨m, hm, fun h' hs' => Ret.mk (p.chg uC hC (fun b o hb e => (hs'.2 b hb).trans e) rfl rfl) rv hk⟩
theorem ex_compVS {elt iter : PySem.Expr} {x y : Str} {px py pos spos : Pos} {scope : Scope} {cl : List (Str × Addr)} {caps : List (Str × Nat × Addr)} (lv : Bool) {wi we : T SV} {wit : SV → T (List SV)} {wt : SV → T Unit} (K : CompIs c scope cl x caps) (hi : EvalsTo w hB c iter wi) (hit : ItOp w hB c wit)
    (he : ∀ C, EvalsTo w hB (mkComp c scope cl x caps C) elt we) (ht : AssTo w hB c (.Name y py) wt) (hsw : swapsWith (.ListComp elt [⟨.Name x px, iter, [], 0⟩] scope pos) (some (.Name y py)) spos.line c.env = pure true) (hs : autoParam (∀ x, foldedSetIterable iter c.env x = pure x) aIRfl) :
    ExecTo w hB c (.Assign [.Name y py] (.ListComp elt [⟨.Name x px, iter, [], 0⟩] scope pos) spos) (fun k => wCompV lv caps wi wit we fun a => wt a fun u_ => k .next) := by
  intro st al Z s k R hw
  rw [exec_Assign_Name_used _ _ _ _ hsw]
  refine wpAny_bind (wpAny_standAt (wpAny_bind ?_))
  show wpAny _ c.A (do let _ ← comprehension (.ListComp elt [⟨.Name x px, iter, [], 0⟩] scope pos) scope c.env _ (newList []) false (eval iter c.env) (some (assign (.Name y py) c.env))) _ _ s
  refine wpAny_bind (wpAny_mono (comp_live (use := some (assign (.Name y py) c.env)) (Q := fun u_ s' => RetS w hB c al Z s (FR w) k .next s') K hi hit he hs R hw fun D C s' m hm hC ⟨st', al', Z', sv, p, rv, hk, uC⟩ => ?_) (fun u_ s' hq => wpAny_pure (wpAny_pure hq)) fun u_ u_ e => e)
  refine wpAny_mono (ht st' al' Z' s' _ sv (.ref D) p.rel rv hk) (fun u_ s5 h5 => ?_) fun u_ u_ h => h
  obtain ⟨st5, al5, Z5, _, p5, _, hk5⟩ := h5
  obtain ⟨o, es, ep, ho, r⟩ := hm
  have uC5 := uC.step p5 ho
  have hC5 := uC.keep p5 ho
  exact ⟨m, ⟨o, es, ep, hC5, r⟩, fun h' hs' => RetS.mk (((p.trans p5).chg uC5 hC (s2 := { s5 with heap := h' }) (fun b o hb e => (hs'.2 b hb).trans e) rfl rfl).toS R.pinl) FR.nx hk5⟩
end
noncomputable def wCompD (wk wv : T SV) (k : List Cs → List SV → List SO → Prop) : List SV → St → List Cs → List SV → Prop
  | [], st, ks, acc => k ks acc st.heap
  | x :: xs, st, ks, acc => wk (fun kk st => wv (fun v st' => (match kk with
      | .str y => wCompD wk wv k xs st' (dkeys ks y) (dvals ks acc y v)
      | _ => False)) st) (st.setL 0 x)
section
variable {w : World} {hB : Heap} {c : Cx} {st : St} {al : List Addr} {Z : Led} {s : Shared}
inductive DInv (w : World) (hB : Heap) (m : Cx) (al0 : List Addr) (Z : Led) (s : Shared) (I D : Addr) (Sv : Nat → Heap → Prop) (xs : List SV) (wk wv : T SV) (k : List Cs → List SV → List SO → Prop) (n : Nat) (s' : Shared) : Prop
  | mk (i : Nat) (st2 : St) (al2 : List Addr) (Z2 : Led) (ks : List Cs) (acc : List SV) (kvs : List (Str × Value)) (e : n = xs.length - i) (h : i ≤ xs.length) (p : Post w hB m al0 Z s st2 al2 Z2 s') (uI : Untr hB m al2 Z2 I) (uD : Untr hB m al2 Z2 D) (v : Sv i s'.heap)
    (hD : s'.heap.DictOf (strKind P w) D kvs) (hk : kvs.map (·.1) = ks.map S) (r : VRs w Z2 al2 acc (kvs.map (·.2))) (hl : ks.length ≤ i) (f : wCompD wk wv k (xs.drop i) st2 ks acc) : DInv w hB m al0 Z s I D Sv xs wk wv k n s'
set_option tactic.hygienic true in
theorem comp_genD {kx vx iter : PySem.Expr} {x : Str} {px pos : Pos} {scope : Scope} {cl : List (Str × Addr)} {caps : List (Str × Nat × Addr)} {wk wv : T SV} (K : CompIs c scope cl x caps) (hek : ∀ C, EvalsTo w hB (mkComp c scope cl x caps C) kx wk) (hev : ∀ C, EvalsTo w hB (mkComp c scope cl x caps C) vx wv)
    (R : SRel w hB c st al Z s) {hp0 : List SO} {al0 : List Addr} (R0 : Rel0 w hB hp0 al0 Z s) (hsub : ∀ a ∈ al0, a ∈ al)
    (hcv : ∀ sv v, some sv ∈ capLoc st caps → VR w Z al sv v → VR w Z al0 sv v) {I : Addr} {oI : Obj} {xs : List SV} (src : Src w al0 Z al0 (.ref I) xs s { s with heap := s.heap.push oI }) (hlen : xs.length ≤ 1000)
    {k : List Cs → List SV → List SO → Prop} (hw : wCompD wk wv k xs ⟨capLoc st caps, hp0⟩ [] []) {RR : Value → Addr → Result → Shared → Prop}
    (hRR : ∀ (D C : Addr) (s' : Shared) (ks : List Cs) (acc : List SV) (kvs : List (Str × Value)) (hp' : List SO) (al' : List Addr) (Z' : Led) (m : Str → Option Value), s.heap.get? D = none → s.heap.get? C = none → D ≠ C → s'.heap.Ns C m →
      s'.heap.DictOf (strKind P w) D kvs → kvs.map (·.1) = ks.map S → Post0 w hB al0 Z s hp' al' Z' s' → VRs w Z' al' acc (kvs.map (·.2)) → D ∉ al' → C ∉ al' → (∀ p ∈ Z', p.1 ≠ D ∧ p.1 ≠ C) → D ≠ tbA → C ≠ tbA → D ≠ sysModules → k ks acc hp' → RR (.ref D) C (.ok .next) s') :
    wpAny (model P w) c.A newDict (fun acc s₃ => wpAny (model P w) c.A (newFunctionEnv scope c.env.globals cl [] c.env.qual none .none (some c.env)) (fun cenv s₄ =>
      codeAny (model P w) c.A (.compStart (.DictComp kx vx [⟨.Name x px, iter, [], 0⟩] scope pos) 0 (.ref I) acc { cenv with scope := relabel scope c.env }) (RR acc cenv.locals) s₄) (fun u_ u_ => False) s₃) (fun u_ u_ => False) { s with heap := s.heap.push oI } := by
  obtain ⟨I', fp, Pr, Sv, hI', hI, W, st0, hIf, hPr, hfp, hcls⟩ := src
  cases hI'
  have hsI : I < (s.heap.push oI).objs.size := by
    obtain ⟨o, n, ho, _⟩ := hcls _ _ st0
    exact Heap.lt_size ho
  refine wpAny_newObj_type (wpAny_newFunctionEnv K.cell (by intro y hy; simp at hy) (fun h₁ hns₁ hsb₁ => ?_) K.kind)
  dsimp only at hns₁ hsb₁ ⊢
  generalize hH2 : (s.heap.push oI).push { cls := .type "dict", dict := none, data := .dict #[] } = H2 at hns₁ hsb₁ ⊢
  generalize hD : (s.heap.push oI).objs.size = D at hsI hH2 ⊢
  generalize hC : H2.objs.size = C at hns₁ hsb₁ ⊢
  obtain ⟨old1, _, hsD, hsC, hDC, hID, hIC, hDt, hCt, hDm, unt, P0⟩ := comp_set (t := s.toks + ([] : List (Str × Value)).length) K R R0 hsub hcv hH2 hD hC hsI hns₁ hsb₁ rfl
  have hDo : h₁.DictOf (strKind P w) D [] := by
    have h0 : ((s.heap.push oI).push { cls := .type "dict", dict := none, data := .dict #[] }).DictOf (strKind P w) (s.heap.push oI).objs.size [] := Heap.DictOf.new (s.heap.push oI)
    rw [hH2, hD] at h0
    exact h0.at fun o e => hsb₁.extBut _ _ hDC (Heap.get?_push_of_some _ e)
  have Wc := W c.A R.ok.hand
  have hst₁ : Sv 0 h₁ := Wc.frame _ _ _ st0 fun b u_ o e => old1 b o e
  have hx0 : (mkComp c scope cl x caps C).slots[0]? = some (x, .loc) := rfl
  have loop : codeAny (model P w) c.A (.compLoop (.DictComp kx vx [⟨.Name x px, iter, [], 0⟩] scope pos) 0 (.ref I) (.ref D) (compEnvC scope cl C c.env)) (RR (.ref D) C) { s with heap := h₁, toks := s.toks + ([] : List (Str × Value)).length } := by
    refine codeAny_compLoop_testsD (DInv w hB (mkComp c scope cl x caps C) al0 Z s I D Sv xs wk wv k) (fun n s2 hI2 => ?_) xs.length
      ⟨0, _, al0, Z, [], [], [], rfl, Nat.zero_le _, P0, unt I hI hIC (fun e => by rw [e] at hI; obtain ⟨ps, e', _⟩ := R.tab; rw [hI] at e'; cases e'), unt D hsD hDC hDt, hst₁, hDo, rfl, (by exact Eq.refl _), Nat.le_refl _, by rw [List.drop_zero]; exact hw⟩
    obtain ⟨i, st2, al2, Z2, ks, acc, kvs, e, hle, p2, uI, uD, hsv, hDv, hks, rr, hacc, hwi⟩ := hI2
    cases e
    refine cps fun G hG => ?_
    rcases Nat.lt_or_ge i xs.length with hlt | hge
    · rw [List.drop_eq_getElem_cons hlt] at hwi
      refine hG (Wc.item i s2 _ _ hlt hsv fun v h' tk hpv hst' hk' => ?_)
      refine cps fun G hG => ?_
      have p3 : Post w hB (mkComp c scope cl x caps C) al0 Z s st2 al2 Z2 { s2 with heap := h', toks := tk } := p2.chg uI hI (fun b o hb e => hk' b o (by simpa using hb) e) rfl rfl
      have hDv' : h'.DictOf (strKind P w) D kvs := hDv.at fun o e => hk' D _ (by simpa using hID.symm) e
      obtain ⟨sv, hsv', rv⟩ := hPr i v hpv
      have hsv2 : sv = xs[i] := by rw [List.getElem?_eq_getElem hlt] at hsv'; exact (Option.some.inj hsv').symm
      subst hsv2
      have rv' : VR w Z2 al2 xs[i] v := rv.mono p2.sub p2.pre
      refine hG ?_
      refine wpAny_mono (as_loc (pos := px) hx0 st2 al2 Z2 { s2 with heap := h', toks := tk } (fun u_ st => wk (fun kk st => wv (fun v st' => (match kk with | .str y => wCompD wk wv k (xs.drop (i + 1)) st' (dkeys ks y) (dvals ks acc y v) | _ => False)) st) st) xs[i] v p3.rel rv' hwi) (fun u_ s5 h5 => ?_) fun u_ u_ h => h.elim
      obtain ⟨st5, al5, Z5, _, p5, _, hk5⟩ := h5
      refine wpAny_pure ?_
      rw [if_pos rfl]
      refine wpAny_mono (hek C st5 al5 Z5 s5 _ p5.rel hk5) (fun yk s55 h55 => ?_) fun u_ u_ h => h.elim
      obtain ⟨st55, al55, Z55, kk, p55, r55, hk55⟩ := h55
      refine wpAny_mono (hev C st55 al55 Z55 s55 _ p55.rel hk55) (fun y s6 h6 => ?_) fun u_ u_ h => h.elim
      obtain ⟨st6, al6, Z6, yv, p6, r6, hk6⟩ := h6
      refine cps fun G hG => ?_
      have p56 := (p5.trans p55).trans p6
      have pall := p3.trans p56
      obtain ⟨oD, hoD, hdD⟩ := Heap.dictOf_iff.mp hDv'
      have uD6 := uD.step p56 hoD
      have hD6 : s6.heap.DictOf (strKind P w) D kvs := Heap.dictOf_iff.mpr ⟨oD, uD.keep p56 hoD, hdD⟩
      obtain ⟨oI3, nI3, hI3, _, _⟩ := hcls _ _ hst'
      have uI6 := uI.step p56 hI3
      have hst6 : Sv (i + 1) s6.heap := Wc.frame _ _ _ hst' (comp_fp hfp hsC uI p2 p56)
      split at hk6
      · rename_i yy
        have r55' := r55.mono p6.sub p6.pre
        obtain ⟨tk5, rfl⟩ := r55'
        have hkl : kvs.length = ks.length := by have := congrArg List.length hks; simpa using this
        refine hG ?_
        refine wpAny_dictSet_pairs (hsz := by rw [hkl, sizeLine_eq]; omega) (strKind_is _ _ _ _) hD6 fun h'' hm'' hs'' => ?_
        have p7 : Post w hB (mkComp c scope cl x caps C) al0 Z s st6 al6 Z6 { s6 with heap := h'', toks := s6.toks + 1 } := pall.chg uD6 hsD (fun b o hb e => (hs''.2 b hb).trans e) rfl rfl
        have ds := dset_at (x := yy) r6 hks (rr.mono p56.sub p56.pre)
        refine ⟨xs.length - (i + 1), by omega, i + 1, st6, al6, Z6, dkeys ks yy, dvals ks acc yy yv, stored kvs (S yy) y, rfl, hlt, p7, uI6, uD6, ?_, hm'', ds.1, ds.2, ?_, hk6⟩
        · refine Wc.frame _ _ _ hst6 fun b hb o e => ?_
          have hbD : b ≠ D := comp_fpD hfp hID hsD b hb
          exact (hs''.2 b hbD).trans e
        · unfold dkeys
          split
          · omega
          · simp; omega
      · exact hk6.elim
    · obtain rfl : i = xs.length := Nat.le_antisymm hle hge
      rw [List.drop_length] at hwi
      refine hG (Wc.done s2 _ _ hsv fun h' tk hk' => ?_)
      have p3 : Post w hB (mkComp c scope cl x caps C) al0 Z s st2 al2 Z2 { s2 with heap := h', toks := tk } := p2.chg uI hI (fun b o hb e => hk' b o (by simpa using hb) e) rfl rfl
      have hDv' : h'.DictOf (strKind P w) D kvs := hDv.at fun o e => hk' D _ (by simpa using hID.symm) e
      obtain ⟨m, hm, _⟩ := p3.rel.ns
      refine hRR D C _ ks acc kvs st2.heap al2 Z2 m hsD hsC hDC hm hDv' hks ?_ rr uD.o2 (p3.rel.own C (.head _)).2.2.1 (fun p hp => ⟨uD.o3 p hp, fun e => p3.rel.ownz p hp (e ▸ .head _)⟩) hDt hCt hDm hwi
      exact comp_end hsC p3
  exact codeAny_compStart_dict loop (Wc.self 0 _ _ _ hst₁ loop)
end
section
variable {w : World} {hB : Heap} {c : Cx}
noncomputable def wCompDP (caps : List (Str × Nat × Addr)) (wi : T SV) (wit : SV → T (List SV)) (wk wv : T SV) : T SV := fun k => wi fun a => wit a fun xs st => xs.length ≤ 1000 ∧ closO (capLoc st caps) ∧ wCompD wk wv (fun ks acc u_ => clos acc ∧ k (.dict ks acc) st) xs ⟨capLoc st caps, []⟩ [] []
theorem ev_compD {kx vx iter : PySem.Expr} {x : Str} {px pos : Pos} {scope : Scope} {cl : List (Str × Addr)} {caps : List (Str × Nat × Addr)} {wi wk wv : T SV} {wit : SV → T (List SV)} (K : CompIs c scope cl x caps) (hi : EvalsTo w hB c iter wi) (hit : ItOpP w hB c wit)
    (hek : ∀ C, EvalsTo w hB (mkComp c scope cl x caps C) kx wk) (hev : ∀ C, EvalsTo w hB (mkComp c scope cl x caps C) vx wv) (hs : autoParam (∀ x, foldedSetIterable iter c.env x = pure x) aIRfl) :
    EvalsTo w hB c (.DictComp kx vx [⟨.Name x px, iter, [], 0⟩] scope pos) (wCompDP caps wi wit wk wv) := by
  intro st al Z s k R hw
  show WP w c.A (comprehension (.DictComp kx vx [⟨.Name x px, iter, [], 0⟩] scope pos) scope c.env _ newDict false (eval iter c.env) none) _ s
  refine wpAny_comprehension_free rfl hs K.clos K.kind K.names (wpAny_mono (hi st al Z s _ R hw) (fun va s1 h1 => ?_) fun u_ u_ h => h)
  obtain ⟨st1, al1, Z1, a, p1, r1, hk1⟩ := h1
  refine hit st1 al1 Z1 s1 _ a va p1.rel r1 hk1 c.A _ fun I oI xs ⟨h0, h1, h2⟩ hcl src => ?_
  refine comp_genD K hek hev p1.rel (rel0_nil p1.rel) (fun u_ h => nomatch h) (fun sv v hm hv => hv.clo (closO_mem h1 hm)) src h0 h2 fun D C s' ks acc kvs hp' al' Z' m hD hC hDC hm hDv hks p0 rr d1 d2 d3 d4 d5 d6 hk => ?_
  have p2 : Post w hB c al1 Z1 s1 st1 al1 Z' s' := Post.ofPure p1.rel p0 [] (fun u_ h => nomatch h)
  have uD : Untr hB c al1 Z' D := untr_new p1.rel hD d4 (live_ne p1.rel hD) fun p hp => (d3 p hp).1
  have uC : Untr hB c al1 Z' C := untr_new p1.rel hC d5 (live_ne p1.rel hC) fun p hp => (d3 p hp).2
  obtain ⟨oD, hoD, hdD⟩ := Heap.dictOf_iff.mp hDv
  refine ⟨m, hm, fun h' hs' => ?_⟩
  have p3 : Post w hB c al1 Z1 s1 st1 al1 Z' { s' with heap := h' } := p2.chg uC hC (fun b o hb e => (hs'.2 b hb).trans e) rfl rfl
  have hoD' : h'.get? D = some oD := (hs'.2 D hDC).trans hoD
  have R' := p3.rel.addZ hoD' uD.o1 uD.o2 uD.o5 (fun u_ => d6)
  refine ⟨st1, al1, (D, oD) :: Z', .dict ks acc, p1.trans ⟨R', p3.pre, fun q hq => .tail _ (p3.sub q hq), p3.frame, p3.fresh, fun q hq => ?_, p3.gens, p3.os⟩, ?_, hk.2⟩
  · cases hq with
    | head => exact .inr hD
    | tail w1_ hq => exact p3.zfresh q hq
  · exact ⟨D, oD, kvs, rfl, .head _, hdD, hks, (rr.clo hk.1).mono (fun u_ h => .tail _ h) (List.prefix_refl _)⟩
end

section
variable {w : World} {Z : Led} {al : List Addr}
theorem ints_of : ∀ {ns : List Int} {xs : List Value}, VRs w Z al (ns.map .int) xs → IntsAre xs ns
  | [], w1_, h => by cases (h : _ = _); exact .nil
  | n :: ns, w1_, h => by
    obtain ⟨v, r, rfl, ⟨t, rfl⟩, h2⟩ := h
    exact .cons n t (ints_of h2)
theorem of_ints : ∀ {ns : List Int} {xs : List Value}, IntsAre xs ns → VRs w Z al (ns.map .int) xs
  | _, _, .nil => Eq.refl _
  | _, _, .cons n t h => by
    exact ⟨_, _, rfl, ⟨t, rfl⟩, of_ints h⟩
theorem preSum_list : ∀ ns : List Int, preSum (fun i => (ns[i]?).getD 0) ns.length = ns.sum
  | [] => rfl
  | n :: ns => by
    rw [List.length_cons, kdu_shift]
    simp only [List.getElem?_cons_zero, Option.getD_some, List.getElem?_cons_succ, List.sum_cons]
    rw [preSum_list ns]
end

section
variable {w : World} {hB : Heap} {c : Cx} {st : St} {al : List Addr} {Z : Led} {s : Shared}
theorem it_view (ks : List Cs) (vs : List SV) : ItAt w hB c (.view 0 ks vs) (fun k st => k vs st) := by
  intro st al Z s k va R r hw A Q hQ
  · obtain ⟨v, d, o, kvs, rfl, hv, hd, hdo, hk, rr⟩ := r
    obtain ⟨ep, hat⟩ := (Heap.dictOf_iff.mpr ⟨o, R.frz _ hd, hdo⟩ : s.heap.DictOf (strKind P w) d kvs).dictAt
    have hvv : s.heap.IsValuesView v d := ⟨_, R.frz _ hv, rfl, rfl⟩
    have hne : d ≠ s.heap.objs.size := Nat.ne_of_lt hat.lt_size
    have hlen : vs.length = kvs.length := by have := rr.length; simpa using this.symm
    refine wpAny_pyIter_values hvv hat (hQ _ _ _ hw ⟨s.heap.objs.size, [s.heap.objs.size, d], fun i v => ∃ k, kvs[i]? = some (k, v), fun i h => h.IsValIter s.heap.objs.size d i kvs.length ep ∧ h.DictAt (strKind P w) d kvs ep, rfl, get?_size_none _, fun A' hA => by rw [hlen]; exact Walks.dictValues hA _ d hne kvs ep, ⟨⟨_, Heap.get?_push_size _ rfl, rfl, rfl⟩, hat.push _⟩, .head _, fun i v ⟨kk, h⟩ => ?_, fun b hb hn => ?_, fun i h ⟨⟨o, ho, hc, y1_⟩, y2_⟩ => ⟨o, _, ho, hc, by decide⟩⟩)
    · have h' : (kvs.map (·.2))[i]? = some v := by rw [List.getElem?_map, h]; rfl
      have hi : i < vs.length := by
        rw [hlen]
        rcases Nat.lt_or_ge i kvs.length with q | q
        · exact q
        · rw [List.getElem?_eq_none q] at h; cases h
      obtain ⟨v', h1, h2⟩ := rr.get (List.getElem?_eq_getElem hi)
      rw [h'] at h1; cases h1
      exact ⟨_, List.getElem?_eq_getElem hi, h2⟩
    · simp at hb
      rcases hb with hb | rfl
      · exact absurd hb hn
      · exact ⟨_, R.frz _ hd, fun hm' => (List.mem_append.mp hm').elim (R.ownz _ hd) (R.zap _ hd).1, (R.zap _ hd).2⟩
noncomputable def wItG (a : SV) : T (List SV) := fun k st => match a with
  | .list vs => k vs st
  | .view 0 w1_ vs => k vs st
  | .str x => k (x.map fun c => .str [c]) st
  | .rng a b => (-1000000 ≤ a ∧ a ≤ 1000000 ∧ -1000000 ≤ b ∧ b ≤ 1000000) ∧ k (rngL a b) st
  | _ => False
theorem it_gen : ItOp w hB c wItG := by
  intro st al Z s k a va R r hw A Q hQ
  cases a with
  | list vs => exact it_list vs st al Z s k va R r hw A Q hQ
  | view n ks vs => cases n with
    | zero => exact it_view ks vs st al Z s k va R r hw A Q hQ
    | succ n => exact hw.elim
  | str x => exact it_str x st al Z s k va R r hw A Q hQ
  | rng a b => exact it_range a b st al Z s k va R r hw A Q hQ
  | _ => exact hw.elim

noncomputable def wSum : List SV → T SV := fun as k st => args1 as fun a => wItG a (fun xs st' => ∃ ns : List Int, xs = ns.map .int ∧ k (.int ns.sum) st') st
theorem moved_keep {I : Addr} {o : Obj} {s s' : Shared} {G : Array GenState → Array GenState → Prop} (hI : s.heap.get? I = none) (hm : Moved [I] G { s with heap := s.heap.push o } s') : ∀ b o, s.heap.get? b = some o → s'.heap.get? b = some o := fun b o' e =>
  hm.heap b o' (fun hI' => by rw [List.mem_singleton.mp hI', hI] at e; cases e) (Heap.get?_push_of_some _ e)
theorem c_sum : CallOp w hB c (.builtin "sum") wSum := by
  intro st al Z s k as vs R r hw
  refine ⟨blt_keep R, ?_⟩
  obtain ⟨a, va, ra, hw_1⟩ := args1.v hw r
  · skip
    refine call_sum_walkAnyS (it_gen st al Z s _ a va R ra hw_1 c.A.in1 _ fun it o xs ⟨ns, hns, hk⟩ src => ?_)
    obtain ⟨I, fp, Pr, Sv, rfl, hI, W, st0, hIf, hPr, hfp, hcls⟩ := src
    subst hns
    have Wc := W c.A.in1 R.ok.hand
    have hlt : ∀ b ∈ fp, b < (s.heap.push o).objs.size := fun b hb => by
      by_cases hbI : b = I
      · obtain ⟨o', n, ho', _⟩ := hcls _ _ st0
        rw [hbI]; exact Heap.lt_size ho'
      · obtain ⟨o', ho', _⟩ := hfp b hb hbI
        exact Heap.lt_size (Heap.get?_push_of_some _ ho')
    rw [List.length_map] at Wc
    refine ⟨I, fp, [I], _, ns.length, Pr, _, fun i => (ns[i]?).getD 0, rfl, Wc.toS, st0, hlt, fun i v hp => ?_, fun s' t' hm => ?_⟩
    · obtain ⟨sv, h1, h2⟩ := hPr i v hp
      rw [List.getElem?_map] at h1
      obtain ⟨n, hn, rfl⟩ := Option.map_eq_some_iff.mp h1
      dsimp only
      rw [hn]
      exact h2
    · have hkk := moved_keep hI hm
      rw [preSum_list]
      rw [Moved.eq_with hm]
      exact Ret.mk (Post.keep R (s' := { s with heap := s'.heap, toks := s'.toks }) hkk) (vInt _ _) hk
noncomputable def wMin : List SV → T SV := fun as k st => args1 as fun a => wItG a (fun xs st' => ∃ ns : List Int, xs = ns.map .int ∧ ns ≠ [] ∧ ∀ m, m ∈ ns → (∀ y ∈ ns, m ≤ y) → k (.int m) st') st
theorem argBest_min (f : Nat → Int) : ∀ n : Nat, argBest (fun i j => decide (f i < f j)) n ≤ n ∧ ∀ j, j ≤ n → f (argBest (fun i j => decide (f i < f j)) n) ≤ f j
  | 0 => ⟨Nat.le_refl _, fun j hj => by rw [Nat.le_zero.mp hj]; exact Int.le_refl _⟩
  | n + 1 => by
    have ih := argBest_min f n
    unfold argBest
    by_cases h : f (n + 1) < f (argBest (fun i j => decide (f i < f j)) n)
    · simp only [h, decide_true, if_true]
      refine ⟨Nat.le_refl _, fun j hj => ?_⟩
      rcases Nat.lt_or_ge n j with q | q
      · have : j = n + 1 := by omega
        rw [this]; exact Int.le_refl _
      · have := ih.2 j q; omega
    · simp only [h, decide_false, Bool.false_eq_true, if_false]
      refine ⟨by omega, fun j hj => ?_⟩
      rcases Nat.lt_or_ge n j with q | q
      · have : j = n + 1 := by omega
        rw [this]; omega
      · exact ih.2 j q
theorem c_min : CallOp w hB c (.builtin "min") wMin := by
  intro st al Z s k as vs R r hw
  refine ⟨blt_keep R, ?_⟩
  obtain ⟨a, va, ra, hw_1⟩ := args1.v hw r
  · skip
    refine call_min_walkS (it_gen st al Z s _ a va R ra hw_1 c.A.in1 _ fun it o xs ⟨ns, hns, hne, hk⟩ src => ?_)
    obtain ⟨I, fp, Pr, Sv, rfl, hI, W, st0, hIf, hPr, hfp, hcls⟩ := src
    subst hns
    have Wc := W c.A.in1 R.ok.hand
    have hlt : ∀ b ∈ fp, b < (s.heap.push o).objs.size := fun b hb => by
      by_cases hbI : b = I
      · obtain ⟨o', n, ho', _⟩ := hcls _ _ st0
        rw [hbI]; exact Heap.lt_size ho'
      · obtain ⟨o', ho', _⟩ := hfp b hb hbI
        exact Heap.lt_size (Heap.get?_push_of_some _ ho')
    rw [List.length_map] at Wc
    have hpos : 0 < ns.length := List.length_pos_iff.mpr hne
    have hv : ∀ i v, Pr i v → ∃ t, v = .int ((ns[i]?).getD 0) t := fun i v hp => by
      obtain ⟨sv, h1, h2⟩ := hPr i v hp
      rw [List.getElem?_map] at h1
      obtain ⟨n, hn, rfl⟩ := Option.map_eq_some_iff.mp h1
      rw [hn]
      exact h2
    refine ⟨I, fp, [I], _, ns.length, Pr, _, _, rfl, Wc.toS, st0, hlt, hpos, CmpOf.ints_lt (fun i => (ns[i]?).getD 0) hv, fun v s' hP hm => ?_⟩
    have hb := argBest_min (fun i => (ns[i]?).getD 0) (ns.length - 1)
    obtain ⟨t, rfl⟩ := hv _ v hP
    have hi : argBest (fun i j => decide ((ns[i]?).getD 0 < (ns[j]?).getD 0)) (ns.length - 1) < ns.length := by omega
    have hkk := moved_keep hI hm
    rw [Moved.eq_with hm]
    refine Ret.mk (Post.keep R (s' := { s with heap := s'.heap, toks := s'.toks }) hkk) (vInt _ _) (hk _ ?_ fun y hy => ?_)
    · rw [List.getElem?_eq_getElem hi]; exact List.getElem_mem hi
    · obtain ⟨j, hj⟩ := List.getElem?_of_mem hy
      have hjl : j < ns.length := by
        rcases Nat.lt_or_ge j ns.length with q | q
        · exact q
        · rw [List.getElem?_eq_none q] at hj; cases hj
      have := hb.2 j (by omega)
      simp only [hj, Option.getD_some] at this
      exact this
end

section
variable {w : World} {hB : Heap} {c : Cx} {st : St} {al : List Addr} {Z : Led} {s : Shared}

theorem chars_of {x : Cs} {acc : Array Value} (h : ItemsOf (SignAt (S x)) acc (S x).cps.size) : StrsAre acc.toList (x.map fun c => S [c]) ∧ VRs w Z al (x.map fun c => SV.str [c]) acc.toList := by
  have gen : ∀ (x : Cs) (l : List Value), l.length = x.length → (∀ (j : Nat) (v : Value), l[j]? = some v → ∃ (c : Nat) (u : Tok), x[j]? = some c ∧ v = Value.str ⟨#[c]⟩ u) → StrsAre l (x.map fun c => S [c]) ∧ VRs w Z al (x.map fun c => SV.str [c]) l := by
    intro x
    induction x with
    | nil => intro l hl _; rw [List.length_eq_zero_iff.mp hl]; exact ⟨.nil, by exact Eq.refl _⟩
    | cons a x ih =>
      intro l hl hv
      cases l with
      | nil => simp at hl
      | cons v l =>
        obtain ⟨c', u, h1, h2⟩ := hv 0 v rfl
        simp at h1
        subst h1 h2
        have := ih l (by simpa using hl) fun j v h => by simpa using hv (j + 1) v (by simpa using h)
        refine ⟨.cons _ u this.1, ?_⟩
        exact ⟨_, _, rfl, ⟨u, rfl⟩, this.2⟩
  refine gen x acc.toList ?_ fun j v hj => ?_
  · rw [Array.length_toList, h.1]; simp [S]
  · obtain ⟨c', u, h1, h2⟩ := h.2 j v (by rw [← Array.getElem?_toList]; exact hj)
    exact ⟨c', u, by simpa [S] using h1, h2⟩
theorem strs_vr : ∀ {vs : List Value} {y : List Cs}, StrsAre vs (y.map S) → VRs w Z al (y.map .str) vs
  | w1_, [], h => by cases h; exact Eq.refl _
  | w1_, a :: y, h => by
    cases h with
    | cons w1_ t h => exact ⟨_, _, rfl, ⟨t, rfl⟩, strs_vr h⟩
theorem rising_pair {a b : Nat} : ∀ {y : Cs}, risingS (S [a]) (y.map fun c => S [c]) = true → (a :: y).Pairwise (· ≤ ·)
  | [], w1_ => by simp
  | d :: y, h => by
    simp only [List.map_cons, risingS, Bool.and_eq_true, Bool.not_eq_true'] at h
    have h1 : Spec.ltCps [d] [a] = false := by simpa [S] using h.1
    have hle : a ≤ d := by
      rcases Nat.lt_or_ge d a with q | q
      · rw [ltCps_eq] at h1
        have : ([d] : List Nat) < [a] := List.Lex.rel q
        simp [this] at h1
      · exact q
    have ih := rising_pair (a := d) (b := b) h.2
    rw [List.pairwise_cons]
    refine ⟨fun z hz => ?_, ih⟩
    rcases List.mem_cons.mp hz with rfl | hz
    · exact hle
    · exact Nat.le_trans hle ((List.pairwise_cons.mp ih).1 z hz)

noncomputable def wSrt (k : SV → St → Prop) (st : St) (vs : List SV) : Prop := ∃ ns : List Int, vs = ns.map .int ∧ ns.length < 64 ∧ ∀ ns' : List Int, ns'.Perm ns → ns'.Pairwise (· ≤ ·) → k (.list (ns'.map .int)) st
noncomputable def viewOf : SV → Option (List Cs × List SV)
  | .view n ks vs => if n = 0 then some (ks, vs) else none
  | _ => none
theorem viewOf_eq {a : SV} {p : List Cs × List SV} (h : viewOf a = some p) : a = .view 0 p.1 p.2 := by
  cases a with
  | view n ks vs => cases n with
    | zero => cases h; rfl
    | succ n => cases h
  | _ => cases h
noncomputable def wSorted : List SV → T SV := fun as k st => args1 as fun a => asStr a (fun x => x.length < 64 ∧ ∀ y : Cs, y.Perm x → y.Pairwise (· ≤ ·) → k (.list (y.map fun c => .str [c])) st)
  (on1 (viewOf a) (fun p => wSrt k st p.2) (on1 (lstOf st a) (fun vs => wSrt k st vs) False))
theorem frzL {D : Addr} {as : List SV} {xs : List Value} {n : Nat} {k : SV → St → Prop} {s' : Shared} (R : SRel w hB c st al Z s) (hk : ∀ b o, s.heap.get? b = some o → s'.heap.get? b = some o) (hg : s'.gens = s.gens) (ho : s'.os = s.os) (hD : s'.heap.get? D = some { cls := .type "list", data := .seq xs.toArray n })
    (hn : s.heap.get? D = none) (hm : D ≠ sysModules) (r : VRs w Z al as xs) (h : k (.list as) st) : Ret w hB c al Z s (VR w) k (.ref D) s' := by
  have p : Post w hB c al Z s st al Z s' := Post.keep R hk hg ho
  have ht : D ≠ tbA := fun e => by obtain ⟨ps, e', _⟩ := R.tab; rw [← e, hn] at e'; cases e'
  have u : Untr hB c al Z D := R.untrN hn
  obtain ⟨st', al', Z', sv, p', rv, hk', _⟩ := addD (lv := false) p hn u hm hD r (by simpa [wNewL] using h)
  exact ⟨st', al', Z', sv, p', rv, hk'⟩
theorem new_at {s' : Shared} (R : SRel w hB c st al Z s) (hk : ∀ b o, s.heap.get? b = some o → s'.heap.get? b = some o) : s.heap.get? s'.heap.objs.size = none ∧ s'.heap.objs.size ≠ sysModules := by
  refine ⟨?_, ?_⟩
  · cases e : s.heap.get? s'.heap.objs.size with
    | none => rfl
    | some o => exact absurd (Heap.lt_size (hk _ _ e)) (Nat.lt_irrefl _)
  · obtain ⟨_, _, _, _, T⟩ := R.grd.top
    exact Nat.ne_of_gt (modules_low (T.nolimit.keeps fun b o e => hk b o (R.base b o e)))
theorem sort_tail {s' : Shared} {vs : List Value} {ns : List Int} {k : SV → St → Prop} (R : SRel w hB c st al Z s) (hk : ∀ b o, s.heap.get? b = some o → s'.heap.get? b = some o) (hg : s'.gens = s.gens) (ho : s'.os = s.os) (hI : IntsAre vs ns) (h64 : vs.length < 64)
    (h : ∀ ns' : List Int, ns'.Perm ns → ns'.Pairwise (· ≤ ·) → k (.list (ns'.map .int)) st) :
    WP w c.A.in1 (newList vs >>= fun l => holding [l] (call (.builtin "list.sort") [l]) >>= fun u_ => ret l) (fun fin s'' => ∃ r, fin = .done (.ret r) ∧ Ret w hB c al Z s (VR w) k r s'') s' := by
  refine wpAny_bind (wpAny_newList ?_ (by rw [sizeLine_eq]; omega))
  have hoL : (s'.heap.push (seqObj "list" vs.toArray 0)).get? s'.heap.objs.size = some (seqObj "list" vs.toArray 0) := Heap.get?_push_size _ rfl
  refine wpAny_bind (wpAny_holding (wpAny_call_entry slot_list_sort ⟨_, hoL, rfl⟩ entry_list_sort (list_sort_tree hoL hI h64 fun out ns' a1 a2 a3 => ⟨_, rfl, ?_⟩) (args_list_sort _)))
  refine wpAny_pure ⟨_, rfl, ?_⟩
  obtain ⟨e, he⟩ := sortedHeap_at (out := out) hoL
  have nw := new_at R hk
  refine frzL (D := s'.heap.objs.size) (xs := out.toList) (n := e) R (fun b o hb => ?_) hg ho (by simpa [seqObj] using he) nw.1 nw.2 (of_ints a1) (h ns' a2 a3)
  have hlt := Heap.lt_size (hk b o hb)
  show (sortedHeap (s'.heap.push (seqObj "list" vs.toArray 0)) s'.heap.objs.size vs out).get? b = some o
  rw [sortedHeap_old (Nat.ne_of_lt hlt) (by rw [Heap.size_push]; exact Nat.lt_succ_of_lt hlt)]
  exact Heap.get?_push_of_some _ (hk b o hb)
theorem c_sorted : CallOp w hB c (.builtin "sorted") wSorted := by
  intro st al Z s k as vs R r hw
  refine ⟨blt_keep R, ?_⟩
  obtain ⟨a, va, ra, hw_1⟩ := args1.v hw r
  rcases asStr.or hw_1 ra with ⟨x, t, hw_2⟩ | hw_2
  · skip
    refine call_function_entry kind_sorted plain_sorted entry_sorted (args_sorted1 _) ?_
    unfold Builtin.«sorted»
    refine wpAny_bind (m := checkCount "sorted" 1 1 _) (wpAny_pure ?_)
    refine wpAny_bind (wpAny_collect_str (A := c.A.in1) R.ok.hand (S x) t (fun s' acc hk hg hd ho hacc => ?_) (by have := hw_2.1; simp [S, sizeLine_eq]; omega))
    obtain ⟨hS, _⟩ := chars_of (w := w) (Z := Z) (al := al) hacc
    have hl : acc.toList.length = x.length := by rw [Array.length_toList, hacc.1]; simp [S]
    refine wpAny_bind (wpAny_newList ?_ (by rw [hl, sizeLine_eq]; have := hw_2.1; omega))
    have hoL : (s'.heap.push (seqObj "list" acc.toList.toArray 0)).get? s'.heap.objs.size = some (seqObj "list" acc.toList.toArray 0) := Heap.get?_push_size _ rfl
    refine wpAny_bind (wpAny_holding (wpAny_call_entry slot_list_sort ⟨_, hoL, rfl⟩ entry_list_sort (list_sort_treeK strKind_oneLt hoL hS.keysOf (fun v₁ v₂ rest e => keyKind_strs (by rw [← e]; exact hS)) (by rw [hl]; exact hw_2.1) fun st' hp hs => ⟨_, rfl, ?_⟩) (args_list_sort _)))
    obtain ⟨ss', h1, h2, h3⟩ := sorted_out_str hS hp hs
    refine wpAny_pure ⟨_, rfl, ?_⟩
    have hall : ∀ z ∈ ss', ∃ a, z = S [a] := fun z hz => by
      obtain ⟨a, _, rfl⟩ := List.mem_map.mp (h2.mem_iff.mp hz)
      exact ⟨a, rfl⟩
    obtain ⟨y, rfl⟩ : ∃ y : Cs, ss' = y.map fun c => S [c] := by
      clear h1 h2 h3
      induction ss' with
      | nil => exact ⟨[], rfl⟩
      | cons z ss ih =>
        obtain ⟨a, rfl⟩ := hall z (.head _)
        obtain ⟨y, rfl⟩ := ih fun z hz => hall z (.tail _ hz)
        exact ⟨a :: y, rfl⟩
    have hperm : y.Perm x := by
      have := h2.map (fun z : Str => (z.cps.toList.headD 0))
      simpa [List.map_map, Function.comp_def, S] using this
    have hsrt : y.Pairwise (· ≤ ·) := by
      cases y with
      | nil => exact List.Pairwise.nil
      | cons a y => exact rising_pair (b := 0) h3
    obtain ⟨e, he⟩ := sortedHeap_at (out := (arrOf st').map (·.2)) hoL
    have nw := new_at R hk
    have e2 : (y.map fun c => S [c]) = (y.map fun c => [c]).map S := by simp [List.map_map, Function.comp_def]
    have e3 : (y.map fun c => SV.str [c]) = (y.map fun c => [c]).map SV.str := by simp [List.map_map, Function.comp_def]
    rw [e2] at h1
    refine frzL (D := s'.heap.objs.size) (xs := ((arrOf st').map (·.2)).toList) (n := e) R (fun b o hb => ?_) hg ho (by rw [Array.toArray_toList]; exact he) nw.1 nw.2 (by rw [e3]; exact strs_vr h1) (hw_2.2 y hperm hsrt)
    have hlt := Heap.lt_size (hk b o hb)
    show (sortedHeap (s'.heap.push (seqObj "list" acc.toList.toArray 0)) s'.heap.objs.size acc.toList ((arrOf st').map (·.2))).get? b = some o
    rw [sortedHeap_old (Nat.ne_of_lt hlt) (by rw [Heap.size_push]; exact Nat.lt_succ_of_lt hlt)]
    exact Heap.get?_push_of_some _ (hk b o hb)
  rcases on1.or hw_2 with ⟨⟨ks, vs'⟩, e, ns, e', h64, hk2⟩ | hw_3
  · cases viewOf_eq e
    cases e'
    obtain ⟨v, d, o, kvs, rfl, hv, hd, hdo, hkk, rr⟩ := ra
    refine call_function_entry kind_sorted plain_sorted entry_sorted (args_sorted1 _) ?_
    unfold Builtin.«sorted»
    refine wpAny_bind (m := checkCount "sorted" 1 1 _) (wpAny_pure ?_)
    obtain ⟨ep, hat⟩ := (Heap.dictOf_iff.mpr ⟨o, R.frz _ hd, hdo⟩ : s.heap.DictOf (strKind P w) d kvs).dictAt
    have hlen : kvs.length = ns.length := by have := rr.length; simpa using this
    refine wpAny_bind (kdu_collect (A := c.A.in1) (kdl_values (knd := strKind P w) (kvs := kvs) (ep := ep)) R.ok.hand ⟨⟨_, R.frz _ hv, rfl, rfl⟩, hat⟩ (by rw [sizeLine_eq]; omega) fun h' tk acc hk hacc => ?_)
    have hv : acc.toList = kvs.map (·.2) := kdl_vals_eq acc.toList (by rw [Array.length_toList]; exact hacc.1) fun j v e => hacc.2 j v (by rw [← Array.getElem?_toList]; exact e)
    rw [hv]
    exact sort_tail (s' := { s with heap := h', toks := tk }) R hk rfl rfl (ints_of rr) (by rw [List.length_map]; omega) hk2
  · · obtain ⟨vs', e, ns, rfl, h64, hk2⟩ := on1.get hw_3
      obtain ⟨l, xs, n, rfl, hl, rr⟩ := lst_at R ra e
      have hxl := rr.length
      refine sorted_ints hl.isList (ints_of rr) (by rw [hxl, List.length_map]; exact h64) fun out ns' a1 a2 a3 => ?_
      obtain ⟨e, he⟩ := sortedAll_at s.heap xs out
      have nw : s.heap.get? (s.heap.objs.size + 1) = none ∧ s.heap.objs.size + 1 ≠ sysModules := by
        have := new_at (s' := { s with heap := s.heap.push (seqObj "list" #[] 0) }) R (fun u_ u_ e => Heap.get?_push_of_some _ e)
        rw [Heap.size_push] at this
        exact this
      exact frzL (D := s.heap.objs.size + 1) (xs := out.toList) (n := e) R (fun b o hb => sortedAll_old hb) rfl rfl (by simpa [seqObj] using he) nw.1 nw.2 (of_ints a1) (hk2 ns' a2 a3)
end

mutual
noncomputable def dat : SV → Option PyData
  | .int z => some (.int z)
  | .str x => some (.str (S x))
  | .tup vs => (dats vs).map .tuple
  | .list vs => (dats vs).map .list
  | _ => none
noncomputable def dats : List SV → Option (List PyData)
  | [] => some []
  | v :: vs => (dat v).bind fun d => (dats vs).map fun ds => d :: ds
end
section
variable {w : World} {Z : Led} {al : List Addr} {h : Heap}
mutual
theorem dat_reads (hz : ∀ p ∈ Z, h.get? p.1 = some p.2) : ∀ {sv : SV} {v : Value} {d : PyData}, dat sv = some d → VR w Z al sv v → ∃ as, Reads h v d as
  | .int z, v, d, e, r => by
    simp only [dat, Option.some.injEq] at e; subst e
    obtain ⟨t, rfl⟩ := r
    exact ⟨_, .int _ _⟩
  | .str z, v, d, e, r => by
    simp only [dat, Option.some.injEq] at e; subst e
    obtain ⟨t, rfl⟩ := r
    exact ⟨_, .str _ _⟩
  | .tup vs, v, d, e, r => by
    simp only [dat] at e
    obtain ⟨ds, hd, rfl⟩ := Option.map_eq_some_iff.mp e
    obtain ⟨a, o, xs, rfl, hm, ⟨n, rfl⟩, rr⟩ := r
    obtain ⟨as, ra⟩ := dats_reads hz hd rr
    exact ⟨_, .tuple (hz _ hm) rfl rfl (by simpa using ra)⟩
  | .list vs, v, d, e, r => by
    simp only [dat] at e
    obtain ⟨ds, hd, rfl⟩ := Option.map_eq_some_iff.mp e
    obtain ⟨a, o, xs, rfl, hm, ⟨n, rfl⟩, rr⟩ := r
    obtain ⟨as, ra⟩ := dats_reads hz hd rr
    exact ⟨_, .list (hz _ hm) rfl rfl (by simpa using ra)⟩
  | .none, w1_, w2_, e, w3_ => by simp [dat] at e
  | .bool w1_, w2_, w3_, e, w4_ => by simp [dat] at e
  | .dict w1_ w2_, w3_, w4_, e, w5_ => by simp [dat] at e
  | .inst w1_ w2_ w3_, w4_, w5_, e, w6_ => by simp [dat] at e
  | .obj w1_, w2_, w3_, e, w4_ => by simp [dat] at e
  | .iobj w1_ w2_, w3_, w4_, e, w5_ => by simp [dat] at e
  | .gl w1_, w2_, w3_, e, w4_ => by simp [dat] at e
  | .rng w1_ w2_, w3_, w4_, e, w5_ => by simp [dat] at e
  | .view w1_ w2_ w3_, w4_, w5_, e, w6_ => by simp [dat] at e
  | .meth w1_ w2_, w3_, w4_, e, w5_ => by simp [dat] at e
  | .rdr w1_ w2_, w3_, w4_, e, w5_ => by simp [dat] at e
theorem dats_reads (hz : ∀ p ∈ Z, h.get? p.1 = some p.2) : ∀ {ss : List SV} {xs : List Value} {ds : List PyData}, dats ss = some ds → VRs w Z al ss xs → ∃ as, ReadsAll h xs ds as
  | [], xs, ds, e, r => by
    simp only [dats, Option.some.injEq] at e; subst e
    cases (r : _ = _)
    exact ⟨_, .nil⟩
  | s :: ss, xs, ds, e, r => by
    simp only [dats] at e
    obtain ⟨d, hd, e⟩ := Option.bind_eq_some_iff.mp e
    obtain ⟨ds', hds, rfl⟩ := Option.map_eq_some_iff.mp e
    obtain ⟨v, r', rfl, r1, r2⟩ := r
    obtain ⟨as, ra⟩ := dat_reads hz hd r1
    obtain ⟨bs, rb⟩ := dats_reads hz hds r2
    exact ⟨_, .cons ra rb⟩
end
end

section
variable {w : World} {hB : Heap} {c : Cx}
noncomputable def wEqG (neg : Bool) (a b : SV) : T SV := fun k st => asInt a (fun x => asInt b (fun y => k (.bool (if neg then x != y else x == y)) st) False) (asStr a (fun x => asStr b (fun y => k (.bool (if neg then x != y else x == y)) st) False)
  (on1 (dat a) (fun d => on1 (dat b) (fun d' => (SeqAt.shaped d = true ∧ SeqAt.shaped d' = true ∧ SeqAt.noMix d d' = true) ∧ k (.bool (if neg then !Spec.same d d' else Spec.same d d')) st) False) False))
theorem o_eqG : Op2 w hB c (VR w) (compareOp .Eq) (wEqG false) := by
  intro st al Z s k a va b vb R ra rb hw
  rcases asInt.or hw ra with ⟨x, t1, hw_1⟩ | hw_1
  · exact o_eq st al Z s k _ _ b vb R ra rb hw_1
  rcases asStr.or hw_1 ra with ⟨x, t1, hw_2⟩ | hw_2
  · exact o_seq st al Z s k _ _ b vb R ra rb hw_2
  obtain ⟨d, e1, hw_3⟩ := on1.get hw_2
  obtain ⟨d', e2, ⟨h1, h2, h3⟩, hw_4⟩ := on1.get hw_3
  obtain ⟨as, r1⟩ := dat_reads R.frz e1 ra
  obtain ⟨bs, r2⟩ := dat_reads R.frz e2 rb
  exact eq_dataH_same r1 r2 h1 h2 (by have := R.ok.units; omega) h3 (Ret.here (b := .bool (Spec.same d d')) R (vBool _) hw_4)
theorem o_neG : Op2 w hB c (VR w) (compareOp .NotEq) (wEqG true) := by
  intro st al Z s k a va b vb R ra rb hw
  rcases asInt.or hw ra with ⟨x, t1, hw_1⟩ | hw_1
  · exact o_ne st al Z s k _ _ b vb R ra rb hw_1
  rcases asStr.or hw_1 ra with ⟨x, t1, hw_2⟩ | hw_2
  · exact o_sne st al Z s k _ _ b vb R ra rb hw_2
  obtain ⟨d, e1, hw_3⟩ := on1.get hw_2
  obtain ⟨d', e2, ⟨h1, h2, h3⟩, hw_4⟩ := on1.get hw_3
  obtain ⟨as, r1⟩ := dat_reads R.frz e1 ra
  obtain ⟨bs, r2⟩ := dat_reads R.frz e2 rb
  exact ne_dataH_same r1 r2 h1 h2 (by have := R.ok.units; omega) h3 (Ret.here (b := .bool (!Spec.same d d')) R (vBool _) hw_4)
noncomputable def wIsNot (a b : SV) : T SV := fun k st => on1 a.bool? (fun x => on1 b.bool? (fun y => k (.bool (x != y)) st) False) False
theorem o_isnot : Op2 w hB c (VR w) (compareOp .IsNot) wIsNot := by
  intro st al Z s k a va b vb R ra rb hw
  obtain ⟨x, e1, hw_1⟩ := on1.get hw
  obtain ⟨y, e2, hw_2⟩ := on1.get hw_1
  cases bool?_eq e1
  cases bool?_eq e2
  cases (ra : va = .bool x)
  cases (rb : vb = .bool y)
  refine wpAny_isNot_plain rfl (Ret.here (b := .bool (!(Value.bool x == Value.bool y))) R (vBool _) ?_)
  cases x <;> cases y <;> exact hw_2
noncomputable def wTru (a : SV) (k : Bool → St → Prop) (st : St) : Prop := on1 a.bool? (fun b => k b st) (on1 (lstOf st a) (fun vs => vs.length ≤ 1000000 ∧ k (!vs.isEmpty) st) False)
theorem o_tru : Op1 w hB c BoolR truthy wTru := by
  intro st al Z s k a va R ra hw
  rcases on1.or hw with ⟨b, e, hw_1⟩ | hw_1
  · cases bool?_eq e
    cases (ra : va = .bool b)
    exact wpAny_truthy_bool (Ret.here R rfl hw_1)
  · · obtain ⟨vs, e, hw_2⟩ := on1.get hw_1
      obtain ⟨l, xs, n, rfl, hl, rr⟩ := lst_at R ra e
      have hx := rr.length
      refine wpAny_truthy_list hl.isList (by rw [List.size_toArray, hx]; have := hw_2.1; omega) ?_
      have e2 : (!xs.toArray.isEmpty) = !vs.isEmpty := by
        cases xs with
        | nil => cases vs with
          | nil => rfl
          | cons w1_ w2_ => simp at hx
        | cons w1_ w2_ => cases vs with
          | nil => simp at hx
          | cons w1_ w2_ => rfl
      rw [e2]
      exact Ret.toks R _ rfl hw_2.2
noncomputable def wTupleOf : List SV → T SV := fun as k st => args1 as fun a => on1 (lstOf st a) (fun vs => vs.length ≤ 1000 ∧ k (.tup vs) st) False
theorem c_tuple : CallOp w hB c (.type "tuple") wTupleOf := by
  intro st al Z s k as vs R r hw
  refine ⟨typ_keep R, ?_⟩
  obtain ⟨a, va, ra, hw_1⟩ := args1.v hw r
  · · obtain ⟨us, e, hw_2⟩ := on1.get hw_1
      obtain ⟨l, xs, n, rfl, hl, rr⟩ := lst_at R ra e
      have hx := rr.length
      refine call_tuple_list hl.isList (fun h' hk => ?_) (by rw [List.size_toArray, hx, sizeLine_eq]; have := hw_2.1; omega)
      have p := Post.keep R (s' := { s with heap := h' }) hk
      obtain ⟨st', al', Z', sv, p3, r3, hk3⟩ := newT (s := { s with heap := h' }) (k := k) p.rel rr s.toks hw_2.2
      exact ⟨st', al', Z', sv, p.trans p3, r3, hk3⟩
noncomputable def wListOf : List SV → T SV := fun as k st => args1 as fun a => asStr a (fun x => x.length ≤ 1000 ∧ k (.list (x.map fun c => .str [c])) st)
  (on1 (dctOf st a) (fun p => p.1.length ≤ 1000 ∧ k (.list (p.1.map .str)) st) False)
theorem c_list : CallOp w hB c (.type "list") wListOf := by
  intro st al Z s k as vs R r hw
  refine ⟨typ_keep R, ?_⟩
  have nw := new_at R (s' := s) (fun u_ u_ e => e)
  obtain ⟨a, va, ra, hw_1⟩ := args1.v hw r
  rcases asStr.or hw_1 ra with ⟨x, t, hw_2⟩ | hw_2
  · skip
    refine call_list_str R.ok.hand (S x) t (fun h' tk acc' c' hk hS' hacc => ?_) (by have := hw_2.1; simp [S, sizeLine_eq]; omega)
    exact frzL (s' := { s with heap := h', toks := tk }) (n := c') R hk rfl rfl (by simpa using hS') nw.1 nw.2 (chars_of hacc).2 hw_2.2
  · · obtain ⟨⟨ks, vs'⟩, e, hw_3⟩ := on1.get hw_2
      obtain ⟨d, kvs, rfl, hd, hk, rr, lo⟩ := dct_at R ra e
      obtain ⟨ep, hat⟩ := hd.dictAt
      have hln : kvs.length = ks.length := by have := congrArg List.length hk; simpa using this
      refine kdl_call (kdl_dict (knd := strKind P w) (kvs := kvs) (ep := ep) lo) R.ok.hand hat (by rw [hln, sizeLine_eq]; have := hw_3.1; omega) fun h' tk acc' c' hkk hD hacc => ?_
      refine frzL (s' := { s with heap := h', toks := tk }) (n := c') (xs := acc'.toList) R hkk rfl rfl (by simpa using hD) nw.1 nw.2 ?_ hw_3.2
      refine strs_vr ?_
      have gen : ∀ (ks : List Cs) (kvs : List (Str × Value)) (l : List Value), kvs.map (·.1) = ks.map S → l.length = kvs.length → (∀ (j : Nat) (v : Value), l[j]? = some v → ∃ kk x, kvs[j]? = some (kk, x) ∧ (strKind P w).is kk v = true) → StrsAre l (ks.map S) := by
        intro ks
        induction ks with
        | nil =>
          intro kvs l h1 h2 _
          have : kvs = [] := by simpa using h1
          subst this
          rw [List.length_eq_zero_iff.mp h2]
          exact .nil
        | cons a ks ih =>
          intro kvs l h1 h2 h3
          cases kvs with
          | nil => simp at h1
          | cons p kvs =>
            cases l with
            | nil => simp at h2
            | cons v l =>
              simp only [List.map_cons, List.cons.injEq] at h1
              obtain ⟨kk, x, e1, e2⟩ := h3 0 v rfl
              simp at e1
              subst e1
              obtain ⟨t, rfl⟩ := Value.isStrOf_shape e2
              have h1' : kk = S a := h1.1
              subst h1'
              exact .cons _ t (ih kvs l h1.2 (by simpa using h2) fun j v hv => by simpa using h3 (j + 1) v (by simpa using hv))
      exact gen ks kvs acc'.toList hk (by rw [Array.length_toList]; exact hacc.1) fun j v hv => hacc.2 j v (by rw [← Array.getElem?_toList]; exact hv)
noncomputable def wIsi : List SV → T SV := fun as k st => args2 as fun a b => asInt a (fun u_ => b = .gl (.type "tuple") ∧ k (.bool false) st) False
theorem c_isi : CallOp w hB c (.builtin "isinstance") wIsi := by
  intro st al Z s k as vs R r hw
  refine ⟨blt_keep R, ?_⟩
  obtain ⟨_, _, _, vb, ra, rb, hw_1⟩ := args2.v hw r
  obtain ⟨x, t, rfl, hw_2⟩ := asInt.v hw_1 ra
  cases (rb : vb = .type "tuple")
  exact IsiPair.int_tuple (Ret.toks R _ (vBool _) hw_2)
end

section
variable {w : World} {hB : Heap} {c : Cx} {st : St} {al : List Addr} {Z : Led} {s : Shared}
theorem f_join : Finds w hB c "join" (.builtin "str.join") isStr := by
  intro st al Z s a va R r hok pl Q hq
  obtain ⟨x, hx⟩ := Option.isSome_iff_exists.mp hok
  rw [str?_eq hx] at r
  obtain ⟨t, rfl⟩ := r
  exact getMethod_builtin (typeIs_str _ _ _) PySem.F.plainAttrs_str PySem.F.slot_str_join PySem.F.type_str_join (fun a e => nomatch e) hq
theorem f_count : Finds w hB c "count" (.builtin "str.count") isStr := by
  intro st al Z s a va R r hok pl Q hq
  obtain ⟨x, hx⟩ := Option.isSome_iff_exists.mp hok
  rw [str?_eq hx] at r
  obtain ⟨t, rfl⟩ := r
  exact getMethod_builtin (typeIs_str _ _ _) PySem.F.plainAttrs_str PySem.F.slot_str_count PySem.F.type_str_count (fun a e => nomatch e) hq
theorem f_find : Finds w hB c "find" (.builtin "str.find") isStr := by
  intro st al Z s a va R r hok pl Q hq
  obtain ⟨x, hx⟩ := Option.isSome_iff_exists.mp hok
  rw [str?_eq hx] at r
  obtain ⟨t, rfl⟩ := r
  exact getMethod_builtin (typeIs_str _ _ _) PySem.F.plainAttrs_str PySem.F.slot_str_find PySem.F.type_str_find (fun a e => nomatch e) hq
theorem join_S : ∀ ys : List Cs, Str.join (S []) (ys.map S) = S ys.flatten
  | [] => rfl
  | [y] => by simp [Str.join]
  | y :: z :: r => by
    have ih := join_S (z :: r)
    simp only [List.map_cons] at ih ⊢
    show S y ++ S [] ++ Str.join (S []) (S z :: r.map S) = _
    rw [ih, S_append, S_append, List.append_nil]
    rfl
theorem strs_pairs : ∀ {ys : List Cs} {xs : List Value}, VRs w Z al (ys.map .str) xs → ∃ l : List (Str × Tok), xs = strValues l ∧ l.map (·.1) = ys.map S
  | [], w1_, h => by cases (h : _ = _); exact ⟨[], rfl, rfl⟩
  | y :: ys, w1_, h => by
    obtain ⟨v, r, rfl, ⟨t, rfl⟩, h2⟩ := h
    obtain ⟨l, rfl, hl⟩ := strs_pairs h2
    exact ⟨(S y, t) :: l, rfl, by simp [hl]⟩
theorem len_flatten_le (B : Nat) : ∀ ys : List Cs, (∀ y ∈ ys, y.length ≤ B) → ys.flatten.length ≤ ys.length * B
  | [], w1_ => by simp
  | y :: ys, h => by
    have h1 := h y (.head _)
    have h2 := len_flatten_le B ys fun z hz => h z (.tail _ hz)
    rw [List.flatten_cons, List.length_append, List.length_cons, Nat.add_mul, Nat.one_mul]
    omega
noncomputable def wJoin : List SV → T SV := fun as k st => args2 as fun b a => asStr b (fun x => match x with
  | [] => on1 (lstOf st a) (fun vs => ∃ ys : List Cs, vs = ys.map .str ∧ ys.length ≤ 100 ∧ (∀ y ∈ ys, y.length ≤ 10000) ∧ k (.str ys.flatten) st) False
  | w1_ :: w2_ => False) False
theorem c_join : CallOp w hB c (.builtin "str.join") wJoin := by
  intro st al Z s k as vs R r hw
  refine ⟨blt_keep R, ?_⟩
  obtain ⟨_, a, _, vb, ra, rb, hw_1⟩ := args2.v hw r
  obtain ⟨x, t, hw_2⟩ := asStr.v hw_1 ra
  rcases x with _ | ⟨_, _⟩
  case cons => exact hw_2.elim
  · · obtain ⟨us, e, ys, rfl, hlen, hB', hk⟩ := on1.get hw_2
      obtain ⟨l, xs, n, rfl, hl, rr⟩ := lst_at R rb e
      obtain ⟨ps, rfl, hps⟩ := strs_pairs rr
      have hfit : Builtin.Str.tooLong ((ps.map (·.1)).toArray.foldl (· + ·.length + (S []).length) 0) = false := by
        refine StrLaws.joinFits (B := 10000) (fun y hy => ?_) ?_
        · rw [hps] at hy
          obtain ⟨z, hz, rfl⟩ := List.mem_map.mp hy
          rw [S_length]; exact hB' z hz
        · have : (ps.map (·.1)).length = ys.length := by rw [hps, List.length_map]
          rw [this, S_length]
          simp
          omega
      refine call_meets PySem.F.slot_str_join (typeIs_str _ _ _) PySem.F.entry_str_join (PySem.F.args_str_join_2 _ _) (meets_str_join_list (S []) t l ps hfit) ⟨hl.isList, ?_⟩
      have q : ∀ tk tk', Ret w hB c al Z s (VR w) k (.str (S ys.flatten) tk) { s with toks := tk' } := fun tk tk' => Ret.toks R _ (vStr _ _) hk
      have gl : Builtin.Str.glued (S []) (ps.map (·.1)) = S ys.flatten := by rw [StrLaws.glued_eq_join, hps, join_S]
      have big : (S ys.flatten).length ≤ sizeLine := by
        rw [S_length, sizeLine_eq]
        have := len_flatten_le 10000 ys hB'
        have h2 : ys.length * 10000 ≤ 100 * 10000 := Nat.mul_le_mul_right _ hlen
        omega
      match ps, hps, gl with
      | [], hps, gl => exact ⟨by show (Builtin.Str.glued (S []) []).length ≤ _; rw [show Builtin.Str.glued (S []) [] = S ys.flatten from gl]; exact big, by rw [show Builtin.Str.glued (S []) (([] : List (Str × Tok)).map (·.1)) = S ys.flatten from gl]; exact q _ _⟩
      | [p], hps, gl =>
        have : p.1 = S ys.flatten := by
          match ys, hps with
          | [y], hps => simp at hps; rw [hps]; simp
          | [], hps => simp at hps
          | w1_ :: w2_ :: w3_, hps => simp at hps
        show Ret w hB c al Z s (VR w) k (.str p.1 p.2) s
        rw [this]
        exact q p.2 s.toks
      | p :: p' :: r, hps, gl => exact ⟨by rw [gl]; exact big, by rw [gl]; exact q _ _⟩
theorem countIn_S (d : Nat) : ∀ x : Cs, Spec.countIn (.str ⟨#[d]⟩) (x.map fun n => PyData.str ⟨#[n]⟩) = (x.count d : Int)
  | [] => rfl
  | a :: x => by
    simp only [List.map_cons, Spec.countIn, countIn_S d x, List.count_cons]
    have e : Spec.same (.str ⟨#[a]⟩) (.str ⟨#[d]⟩) = (a == d) := by
      show ((⟨#[a]⟩ : Str) == ⟨#[d]⟩) = (a == d)
      by_cases h : a = d
      · subst h; simp
      · have : ¬ ((⟨#[a]⟩ : Str) = ⟨#[d]⟩) := fun e => h (by simpa using congrArg (fun z : Str => z.cps.toList) e)
        rw [beq_eq_false_iff_ne.mpr this, beq_eq_false_iff_ne.mpr h]
    rw [e]
    by_cases h : a = d
    · subst h; simp; omega
    · simp [h]
noncomputable def wCount : List SV → T SV := fun as k st => args2 as fun a b => asStr a (fun x => asStr b (fun y => one y (fun d => k (.int (x.count d)) st) False) False) False
theorem c_count : CallOp w hB c (.builtin "str.count") wCount := by
  intro st al Z s k as vs R r hw
  refine ⟨blt_keep R, ?_⟩
  obtain ⟨_, _, _, _, ra, rb, hw_1⟩ := args2.v hw r
  obtain ⟨x, t, hw_2⟩ := asStr.v hw_1 ra
  obtain ⟨_, u, hw_3⟩ := asStr.v hw_2 rb
  · obtain ⟨d, hw_4⟩ := one.get hw_3
    refine SC.count (Ret.toks R _ ?_ hw_4)
    have : Txt.count (S x) (S [d]) = (x.count d : Int) := by
      rw [show S [d] = ⟨#[d]⟩ from rfl, count_is, S_list, countIn_S]
    rw [this]
    exact vInt _ _
theorem at_one (x : Cs) (d i : Nat) : StrLaws.At (S x) (S [d]) (S x).length i ↔ x[i]? = some d := by
  unfold StrLaws.At Builtin.Str.subAt
  rw [S_length, S_length]
  constructor
  · intro ⟨h1, h2⟩
    have h1' : i < x.length := by simp at h1; omega
    have : (S x).cps.extract i (i + 1) = (S [d]).cps := by simpa using h2
    have h3 := congrArg Array.toList this
    rw [List.getElem?_eq_getElem h1']
    simp [S] at h3
    rw [List.take_one] at h3
    simp [List.head?_drop, List.getElem?_eq_getElem h1'] at h3
    rw [h3]
  · intro h
    have hi : i < x.length := by
      rcases Nat.lt_or_ge i x.length with q | q
      · exact q
      · rw [List.getElem?_eq_none q] at h; cases h
    refine ⟨by simp; omega, ?_⟩
    have e : (S x).cps.extract i (i + 1) = (S [d]).cps := by
      apply Array.toList_inj.mp
      simp [S]
      rw [List.take_one]
      simp [List.head?_drop, h]
    simpa using e
noncomputable def wFind : List SV → T SV := fun as k st => args2 as fun a b => asStr a (fun x => asStr b (fun y => one y (fun d => ∃ i : Nat, x[i]? = some d ∧ (∀ j < i, x[j]? ≠ some d) ∧ k (.int i) st) False) False) False
theorem c_find : CallOp w hB c (.builtin "str.find") wFind := by
  intro st al Z s k as vs R r hw
  refine ⟨blt_keep R, ?_⟩
  obtain ⟨_, _, _, _, ra, rb, hw_1⟩ := args2.v hw r
  obtain ⟨x, t, hw_2⟩ := asStr.v hw_1 ra
  obtain ⟨_, u, hw_3⟩ := asStr.v hw_2 rb
  · obtain ⟨d, i, h1, h2, hw_4⟩ := one.get hw_3
    refine SC.find (Ret.toks R _ ?_ hw_4)
    have : Txt.find (S x) (S [d]) = (i : Int) := by
      rcases find_whole (S x) (S [d]) with ⟨_, hn⟩ | ⟨j, hj, hat, hf⟩
      · exact absurd ((at_one x d i).mpr h1) (hn i)
      · rw [hj]
        rcases Nat.lt_trichotomy i j with q | q | q
        · exact absurd ((at_one x d i).mpr h1) (hf i q)
        · rw [q]
        · exact absurd ((at_one x d j).mp hat) (h2 j q)
    rw [this]
    exact vInt _ _
end

section
variable {w : World} {hB : Heap} {c : Cx} {st : St} {al : List Addr} {Z : Led} {s : Shared}
theorem emptyD : ({ cls := .type "dict", data := .dict #[] } : Obj).IsDictOf (strKind P w) [] := by
  obtain ⟨o, ho, hd⟩ := Heap.dictOf_iff.mp (Heap.DictOf.new (knd := strKind P w) ({} : Heap))
  rw [Heap.get?_push_size _ rfl] at ho
  cases ho
  exact hd
noncomputable def wDict0 : T SV := fun k st => k (.obj st.heap.length) (st.addH (.dict [] []))
theorem ev_dict0 {pos : Pos} : EvalsTo w hB c (.Dict [] [] pos) wDict0 := by
  intro st al Z s k R hw
  refine wpAny_Dict_empty ?_
  have p2 := Post.allocL R (o := { cls := .type "dict", data := .dict #[] }) (so := .dict [] []) rfl s.toks ⟨[], emptyD, rfl, by exact Eq.refl _⟩
  refine Ret.mk p2 ?_ hw
  exact ⟨_, by rw [← R.len]; simp, rfl⟩
noncomputable def wDict1 (wk wv : T SV) : T SV := fun k => wk fun a => wv fun v st => asStr a (fun x => k (.dict [x] [v]) st) False
theorem ev_dict1 {kx vx : PySem.Expr} {pos : Pos} {wk wv : T SV} (hk : EvalsTo w hB c kx wk) (hv : EvalsTo w hB c vx wv) : EvalsTo w hB c (.Dict [some kx] [vx] pos) (wDict1 wk wv) := by
  intro st al Z s k R hw
  refine wpAny_Dict_walk (knd := strKind P w) rfl rfl (by simp) (by simp) ?_
  have p0 : Post w hB c al Z s st al Z { s with heap := s.heap.push { cls := .type "dict", data := .dict #[] } } := Post.keep R (fun u_ u_ e => Heap.get?_push_of_some _ e)
  have nw := new_at R (s' := s) (fun u_ u_ e => e)
  have ht : s.heap.objs.size ≠ tbA := R.toRel0.fresh.2.2.2
  have u0 : Untr hB c al Z s.heap.objs.size := untr_new R nw.1 ht R.toRel0.fresh.2.1 R.toRel0.fresh.2.2.1
  have hD0 : (s.heap.push { cls := .type "dict", data := .dict #[] }).get? s.heap.objs.size = some { cls := .type "dict", data := .dict #[] } := Heap.get?_push_size _ rfl
  show WP w c.A (eval kx c.env >>= fun kv => holding [kv] (do let x ← eval vx c.env; standAt pos; pure x) >>= fun vv => (holding [kv, vv] (evalPairs []) >>= fun r => pure ((kv, vv) :: r))) _ _
  refine wpAny_bind (wpAny_mono (hk st al Z _ _ p0.rel hw) (fun va s1 h1 => ?_) fun u_ u_ h => h)
  obtain ⟨st1, al1, Z1, a, p1, r1, hk1⟩ := h1
  refine wpAny_bind (wpAny_holding (wpAny_bind (wpAny_mono (hv st1 al1 Z1 s1 _ p1.rel hk1) (fun vv s2 h2 => wpAny_bind (wpAny_standAt (wpAny_pure ?_))) fun u_ u_ h => h)))
  obtain ⟨st2, al2, Z2, v, p2, r2, hk2⟩ := h2
  refine wpAny_bind (wpAny_holding (wpAny_pure (wpAny_pure ?_)))
  obtain ⟨x, t, hk2_1⟩ := asStr.v hk2 (r1.mono p2.sub p2.pre)
  · skip
    have p12 := p1.trans p2
    have uD := u0.step p12 hD0
    have hD2 := u0.keep p12 hD0
    refine display_done_str (P := fun h' => Ret w hB c al Z s (VR w) k (.ref s.heap.objs.size) { s2 with heap := h', toks := s2.toks + [(Value.str (S x) t, vv)].length }) rfl (by simp [strPairs]) (Heap.dictOf_iff.mpr ⟨_, hD2, emptyD⟩) fun h' hd' hs' => ?_
    obtain ⟨o', ho', hdo'⟩ := Heap.dictOf_iff.mp hd'
    have p3 : Post w hB c al Z s st2 al2 Z2 { s2 with heap := h', toks := s2.toks + [(Value.str (S x) t, vv)].length } := (p0.trans p12).chg uD nw.1 (fun b o hb e => (hs'.2 b hb).trans e) rfl rfl
    have R' := p3.rel.addZ ho' uD.o1 uD.o2 uD.o5 (fun u_ => nw.2)
    refine ⟨st2, al2, (s.heap.objs.size, o') :: Z2, .dict [x] [v], ⟨R', p3.pre, fun q hq => .tail _ (p3.sub q hq), p3.frame, p3.fresh, fun q hq => ?_, p3.gens, p3.os⟩, ?_, hk2_1⟩
    · cases hq with
      | head => exact .inr nw.1
      | tail w1_ hq => exact p3.zfresh q hq
    · refine ⟨_, o', _, rfl, .head _, hdo', rfl, ?_⟩
      show VRs w _ al2 [v] [vv]
      exact VRs.one (r2.mono (fun u_ h => .tail _ h) (List.prefix_refl _))

noncomputable def isDct (a : SV) (st : St) : Prop := (dctOf st a).isSome = true
theorem f_dict {name : Str} {id : String} (slot : Slot "dict" name id) (hty : typeOf (.builtin id) = pure (.type "method_descriptor")) : Finds w hB c name (.builtin id) isDct := by
  intro st al Z s a va R r hok pl Q hq
  obtain ⟨⟨ks, vs⟩, hv⟩ := Option.isSome_iff_exists.mp hok
  obtain ⟨d, kvs, rfl, hd, _⟩ := dct_at R r hv
  exact getMethod_builtin hd.typeIs PySem.F.plainAttrs_dict slot hty hd.mapOf.noDict hq
noncomputable def dOf : SV → Option (List Cs × List SV)
  | .dict ks vs => some (ks, vs)
  | _ => none
theorem dOf_eq {a : SV} {p : List Cs × List SV} (h : dOf a = some p) : a = .dict p.1 p.2 := by
  cases a with
  | dict ks vs => cases h; rfl
  | _ => cases h
noncomputable def wView (n : Nat) : List SV → T SV := fun as k st => args1 as fun a => on1 (dOf a) (fun p => k (.view n p.1 p.2) st) False
theorem view_mk {n : Nat} {ks : List Cs} {vs : List SV} {va : Value} {k : SV → St → Prop} (R : SRel w hB c st al Z s) (ra : VR w Z al (.dict ks vs) va) (hw : k (.view n ks vs) st) : ∃ d kvs, va = .ref d ∧ s.heap.DictOf (strKind P w) d kvs ∧ (d == sysModules) = false ∧
    Ret w hB c al Z s (VR w) k (.ref s.heap.objs.size) { s with heap := s.heap.push (viewObj n d) } := by
  obtain ⟨d, kvs, rfl, hd, _, _, lo⟩ := dct_at R ra rfl
  refine ⟨d, kvs, rfl, hd, lo, ?_⟩
  obtain ⟨d', o, kvs', e, hm, hdo, hk, rr⟩ := ra
  cases e
  have p2 := Post.allocZ R (o := viewObj n d) rfl s.toks
  refine Ret.mk p2 ?_ hw
  exact ⟨_, d, o, kvs', rfl, .head _, .tail _ hm, hdo, hk, rr.mono (fun u_ h => .tail _ h) (List.prefix_refl _)⟩
theorem c_values : CallOp w hB c (.builtin "dict.values") (wView 0) := by
  intro st al Z s k as vs R r hw
  refine ⟨blt_keep R, ?_⟩
  obtain ⟨a, va, ra, hw_1⟩ := args1.v hw r
  · obtain ⟨p, e, hw_2⟩ := on1.get hw_1
    cases dOf_eq e
    obtain ⟨d, kvs, rfl, hd, lo, h⟩ := view_mk R ra hw_2
    exact call_meetsIn PySem.F.slot_dict_values hd.typeIs PySem.F.entry_dict_values (PySem.F.args_dict_values_1 _) (meets_dict_values (strKind P w) d lo) ⟨⟨kvs, hd⟩, h⟩
theorem c_items : CallOp w hB c (.builtin "dict.items") (wView 1) := by
  intro st al Z s k as vs R r hw
  refine ⟨blt_keep R, ?_⟩
  obtain ⟨a, va, ra, hw_1⟩ := args1.v hw r
  · obtain ⟨p, e, hw_2⟩ := on1.get hw_1
    cases dOf_eq e
    obtain ⟨d, kvs, rfl, hd, lo, h⟩ := view_mk R ra hw_2
    exact call_meetsIn PySem.F.slot_dict_items hd.typeIs PySem.F.entry_dict_items (PySem.F.args_dict_items_1 _) (meets_dict_items (strKind P w) d lo) ⟨⟨kvs, hd⟩, h⟩
end
noncomputable def itemsOf : List Cs → List SV → List SV
  | k :: ks, v :: vs => .tup [.str k, v] :: itemsOf ks vs
  | w1_, w2_ => []
theorem itemsOf_get : ∀ {ks : List Cs} {vs : List SV} {i : Nat} {sv : SV}, (itemsOf ks vs)[i]? = some sv → ∃ k v, ks[i]? = some k ∧ vs[i]? = some v ∧ sv = .tup [.str k, v]
  | [], w1_, i, w2_, h => by simp [itemsOf] at h
  | w1_ :: w2_, [], i, w3_, h => by simp [itemsOf] at h
  | k :: ks, v :: vs, 0, sv, h => by simp [itemsOf] at h; exact ⟨k, v, rfl, rfl, h.symm⟩
  | k :: ks, v :: vs, i + 1, sv, h => by simpa using itemsOf_get (ks := ks) (vs := vs) (by simpa [itemsOf] using h)
theorem itemsOf_len : ∀ {ks : List Cs} {vs : List SV}, ks.length = vs.length → (itemsOf ks vs).length = ks.length
  | [], [], w1_ => rfl
  | [], w1_ :: w2_, h => by simp at h
  | w1_ :: w2_, [], h => by simp at h
  | k :: ks, v :: vs, h => by simp [itemsOf, itemsOf_len (ks := ks) (vs := vs) (by simpa using h)]
theorem clos_items : ∀ {ks : List Cs} {vs : List SV}, clos vs → clos (itemsOf ks vs)
  | [], w1_, w2_ => by simp [itemsOf, clos]
  | w1_ :: w2_, [], w3_ => by simp [itemsOf, clos]
  | k :: ks, v :: vs, h => by
    exact ⟨⟨trivial, h.1, trivial⟩, clos_items h.2⟩
section
variable {w : World} {hB : Heap} {c : Cx}
noncomputable def asView1 (a : SV) (f : List Cs → List SV → Prop) : Prop := match a with
  | .view n x y => (match n with
    | 1 => f x y
    | _ => False)
  | _ => False
theorem asView1.g {a : SV} {f : List Cs → List SV → Prop} (h : asView1 a f) : ∃ x y, a = .view 1 x y ∧ f x y := by
  cases a with
  | view n x y =>
    rcases n with _ | _ | n
    · exact h.elim
    · exact ⟨x, y, rfl, h⟩
    · exact h.elim
  | _ => exact h.elim
noncomputable def wForI (pin : Nat) (wi : T SV) (wt : SV → T Unit) (wb : T AFl) : T AFl := fun k => wi fun a st => asView1 a fun ks vs => clos vs ∧ wForL pin wt wb k (itemsOf ks vs) st
inductive IInv (w : World) (hB : Heap) (c : Cx) (al1 : List Addr) (Z1 : Led) (s1 : Shared) (items : List SV) (I d : Addr) (m ep : Nat) (wt : SV → T Unit) (wb : T AFl) (k : AFl → St → Prop) (n : Nat) (s' : Shared) : Prop
  | mk (i : Nat) (st' : St) (al' : List Addr) (Z' : Led) (ok ov : Value) (e : n = items.length - i) (h : i ≤ items.length) (p : PostS w hB c al1 Z1 s1 st' al' Z' s') (u : Untr hB c al' Z' I) (v : IsItemIter s'.heap I d i m ep ok ov) (f : wForL c.pin wt wb k (items.drop i) st') : IInv w hB c al1 Z1 s1 items I d m ep wt wb k n s'
theorem ex_forI {elts : List PySem.Expr} {x1 : Nat} {tpos : Pos} {iter : PySem.Expr} {body : List PySem.Stmt} {pos : Pos} {pin : Nat} {wi : T SV} {wt : SV → T Unit} {wb : T AFl} (hpin : c.pin = pin) (hi : EvalsTo w hB c iter wi) (ht : AssTo w hB c (.Tuple elts x1 tpos) wt) (hb : ExecsTo w hB c body wb)
    (hs : autoParam (∀ x, foldedSetIterable iter c.env x = pure x) aIRfl) : ExecTo w hB c (.For (.Tuple elts x1 tpos) iter body [] pos) (wForI pin wi wt wb) := by
  subst hpin
  intro st al Z s k R hw
  refine wpAny_For (wpAny_mono (hi st al Z s _ R hw) (fun va s1 h1 => ?_) fun u_ u_ h => h) hs
  obtain ⟨st1, al1, Z1, a, p1, r1, hk1⟩ := h1
  obtain ⟨ks, vs, rfl, hcl, hw⟩ := asView1.g hk1
  · obtain ⟨v0, d, od, kvs, rfl, hv0, hd0, hdo, hk0, rr⟩ := r1
    obtain ⟨ep, hat⟩ := (Heap.dictOf_iff.mpr ⟨od, p1.rel.frz _ hd0, hdo⟩ : s1.heap.DictOf (strKind P w) d kvs).dictAt
    have hne : d ≠ s1.heap.objs.size := Nat.ne_of_lt hat.lt_size
    have hkl : kvs.length = ks.length := by have := congrArg List.length hk0; simpa using this
    have hvl : vs.length = kvs.length := by have := rr.length; simpa using this.symm
    have hil : (itemsOf ks vs).length = kvs.length := by rw [itemsOf_len (by omega), hkl]
    have hcli := clos_items (ks := ks) hcl
    generalize hitems : itemsOf ks vs = items at hw hil hcli
    refine wpAny_pyIter_items (knd := strKind P w) ⟨_, p1.rel.frz _ hv0, rfl, rfl⟩ hat ?_
    generalize hIe : s1.heap.objs.size = I at hne ⊢
    generalize hoI : ({ cls := .type "dict_itemiterator", data := .fields #[.none, .bool false, .ref d, .int 0 0, .int kvs.length 0, .int ep 0, .none, .none] } : Obj) = oI
    have hI : s1.heap.get? I = none := by rw [← hIe]; exact get?_size_none _
    have hit0 : IsItemIter (s1.heap.push oI) I d 0 kvs.length ep .none .none := by rw [← hIe, ← hoI]; exact Heap.get?_push_size _ rfl
    have q0 : PostS w hB c al1 Z1 s1 st1 al1 Z1 { s1 with heap := s1.heap.push oI } := (Post.keep p1.rel (s' := { s1 with heap := s1.heap.push oI }) (fun u_ u_ e => Heap.get?_push_of_some _ e)).toS p1.rel.pinl
    have u0 : Untr hB c al1 Z1 I := p1.rel.untrN hI
    have fin : ∀ {fl : AFl} {f : Flow} {st' : St} {al' : List Addr} {Z' : Led} {s' : Shared}, PostS w hB c al1 Z1 s1 st' al' Z' s' → FR w Z' al' fl f → k fl st' → RetS w hB c al Z s (FR w) k f s' :=
      fun p r hk => RetS.mk ((p1.toS R.pinl).trans p) r hk
    refine codeAny_forLoop_any (IInv w hB c al1 Z1 s1 items I d kvs.length ep wt wb k) (fun n s2 hI2 => ?_) items.length ⟨0, st1, al1, Z1, .none, .none, rfl, Nat.zero_le _, q0, u0, hit0, by rw [List.drop_zero]; exact hw⟩
    obtain ⟨i, st2, al2, Z2, ok, ov, e, hle, p2, u2, hit2, hfw⟩ := hI2
    cases e
    refine cps fun G hG => ?_
    have hat2 : s2.heap.DictAt (strKind P w) d kvs ep := hat.at' fun o e => by
      rw [p1.rel.frz _ hd0] at e
      cases e
      exact p2.rel.frz _ (p2.sub _ hd0)
    rcases Nat.lt_or_ge i items.length with hlt | hge
    · rw [List.drop_eq_getElem_cons hlt] at hfw
      obtain ⟨st3, hwk, hfw⟩ := hfw
      obtain ⟨⟨kk, xx⟩, hx⟩ : ∃ p, kvs[i]? = some p := ⟨kvs[i]'(by omega), List.getElem?_eq_getElem (by omega)⟩
      refine hG (wpAny_pyNext_items_item (knd := strKind P w) hit2 hat2 hx fun key h' hkey ho hT hsz hk' => wpAny_letOwnedTupleGo_items ho fun h'' hit'' hs'' => ?_)
      refine cps fun G hG => ?_
      have hTI : s2.heap.objs.size ≠ I := Nat.ne_of_gt (Heap.lt_size hit2)
      have hkk : ∀ b o, b ≠ I → s2.heap.get? b = some o → h''.get? b = some o := fun b o hb e => (hs''.2 b hb).trans (hk' b o hb e)
      have hT'' : h''.get? s2.heap.objs.size = some { cls := .type "tuple", data := .seq #[key, xx] } := (hs''.2 _ hTI).trans hT
      have p3 : PostS w hB c al1 Z1 s1 st2 al2 Z2 { s2 with heap := h'' } := p2.chg u2 hI hkk rfl rfl
      obtain ⟨al3, pw⟩ := p3.rel.weak hwk
      have p4 := p3.trans pw
      have u3 : Untr hB c al3 Z2 I := u2.stepS (o := _) pw hit''
      have hTn2 : s2.heap.get? s2.heap.objs.size = none := get?_size_none _
      have hTn1 : s1.heap.get? s2.heap.objs.size = none := by
        cases e : s1.heap.get? s2.heap.objs.size with
        | none => rfl
        | some o => obtain ⟨o', e'⟩ := p2.there _ _ e; rw [hTn2] at e'; cases e'
      have uT2 : Untr hB c al2 Z2 s2.heap.objs.size := untr_new p2.rel hTn2 p2.rel.toRel0.fresh.2.2.2 p2.rel.toRel0.fresh.2.1 p2.rel.toRel0.fresh.2.2.1
      have uT : Untr hB c al3 Z2 s2.heap.objs.size := uT2.stepS pw hT''
      have R5 := p4.rel.addZ hT'' uT.o1 uT.o2 uT.o5 (fun e => absurd (show Value.type "tuple" = Value.type "dict" from e) (by decide))
      have p5 : PostS w hB c al1 Z1 s1 st3 al3 ((s2.heap.objs.size, { cls := .type "tuple", data := .seq #[key, xx] }) :: Z2) { s2 with heap := h'' } :=
        ⟨R5, p4.pin, fun q hq => .tail _ (p4.sub q hq), p4.frame, p4.fresh, (fun q hq => by
          cases hq with
          | head => exact .inr hTn1
          | tail w1_ hq => exact p4.zfresh q hq), p4.there, p4.gens, p4.os⟩
      have u5 : Untr hB c al3 ((s2.heap.objs.size, { cls := .type "tuple", data := .seq #[key, xx] }) :: Z2) I := by
        refine ⟨u3.o1, u3.o2, fun q hq => ?_, u3.o4, u3.o5, u3.o6⟩
        cases hq with
        | head => exact hTI
        | tail w1_ hq => exact u3.o3 q hq
      obtain ⟨k0, v1, g1, g2, g3⟩ := itemsOf_get (ks := ks) (vs := vs) (i := i) (sv := items[i]) (by rw [hitems]; exact List.getElem?_eq_getElem hlt)
      have hcx : clo items[i] := clos_iff.mp hcli _ (List.getElem_mem hlt)
      have rv : VR w ((s2.heap.objs.size, { cls := .type "tuple", data := .seq #[key, xx] }) :: Z2) al3 items[i] (.ref s2.heap.objs.size) := by
        rw [g3]
        refine ⟨_, _, [key, xx], rfl, .head _, ⟨0, rfl⟩, ?_⟩
        obtain ⟨t, rfl⟩ := Value.isStrOf_shape hkey
        have hkS : kk = S k0 := by
          have e1 := congrArg (fun l => l[i]?) hk0
          simp only [List.getElem?_map, hx, g1] at e1
          simpa using e1
        subst hkS
        obtain ⟨v', e1, e2⟩ := rr.get g2
        rw [List.getElem?_map, hx] at e1
        simp at e1
        subst e1
        have hc1 : clo v1 := clos_iff.mp hcl _ (List.mem_of_getElem? g2)
        refine ⟨_, _, rfl, by exact ⟨t, rfl⟩, _, _, rfl, ((e2.clo (al' := []) hc1).mono (fun q hq => .tail _ (p2.sub q hq)) List.nil_prefix), rfl⟩
      refine hG (wpAny_mono (ht st3 al3 _ _ _ items[i] _ p5.rel rv hfw) (fun u_ s5 h5 => ?_) fun u_ u_ h => h.elim)
      obtain ⟨st5, al5, Z5, _, p6, _, hk5⟩ := h5
      refine wpAny_mono (hb st5 al5 Z5 s5 _ p6.rel hk5) (fun f s6 h6 => ?_) fun u_ u_ h => h.elim
      obtain ⟨st6, al6, Z6, fl, p7, r7, hk7⟩ := h6
      have p67 := (p6.toS p5.rel.pinl).trans p7
      have pall := p5.trans p67
      have hI3 : h''.get? I = some _ := hit''
      have u6 : Untr hB c al6 Z6 I := u5.stepS p67 hI3
      have hit6 : IsItemIter s6.heap I d (i + 1) kvs.length ep key xx := p67.frame I _ hI3 (fun hm => (List.mem_append.mp hm).elim u5.o1 u5.o2) u5.o5
      cases fl with
      | next => simp only [FR] at r7; subst r7; exact ⟨items.length - (i + 1), by omega, i + 1, st6, al6, Z6, _, _, rfl, hlt, pall, u6, hit6, hk7⟩
      | cont => simp only [FR] at r7; subst r7; exact ⟨items.length - (i + 1), by omega, i + 1, st6, al6, Z6, _, _, rfl, hlt, pall, u6, hit6, hk7⟩
      | brk => simp only [FR] at r7; subst r7; exact fin pall FR.nx hk7
      | ret sv =>
        obtain ⟨v', rfl, r7⟩ := r7
        exact fin pall (FR.re r7) hk7
    · obtain rfl : i = items.length := Nat.le_antisymm hle hge
      rw [List.drop_length] at hfw
      refine hG (wpAny_pyNext_items_end (knd := strKind P w) R.ok.hand hit2 hat2 (by rw [List.getElem?_eq_none (by omega)]) fun h' he' => wpAny_execs_nil ?_)
      exact fin (p2.chg u2 hI (fun b o hb e => he' b o hb e) rfl rfl) FR.nx hfw
end
local macro_rules | `(tactic| k_go0) => do let ls ← ("wSeq St.setL St.setH St.addH wSet wName wConst wB wEqG wAdd wMul wI2 wI2c wC2 wNeg wItem wIn wTru wTup wListZ wListL wNewL wLen wRange wSetItem wAppend wInsert wUnp seqOf wTgC on1 onL onD one asInt asStr asObj asView1 asIobj args1 args2 args3 dOf viewOf look hget nth lstOf dctOf soList soDict tupOf List.set List.reverse List.reverseAux SV.bool? SV.int? SV.str? Bool.false_eq_true reduceIte retK if_true if_false and_true true_and wLtP wGtP wIsNot wCallG wAttr wSetAttr atOf wSlice partOf cutN wPop0 wListOf wTupleOf initLoc List.map List.replicate List.length List.append List.cons_append List.nil_append Nat.reduceAdd Nat.reduceSub Int.toNat_zero Int.reduceToNat decide_true decide_false".splitOn " ").toArray.mapM fun s => `(Lean.Parser.Tactic.simpLemma| $(Lean.mkIdent s.toName):term); `(tactic| (try dsimp only [$ls,*]))
local macro_rules | `(tactic| k_go) => do let ls ← ("Bool.false_eq_true reduceIte if_true if_false and_true true_and decide_true decide_false List.length Nat.reduceAdd Nat.reduceSub Int.toNat_zero Int.reduceToNat".splitOn " ").toArray.mapM fun s => `(Lean.Parser.Tactic.simpLemma| $(Lean.mkIdent s.toName):term); `(tactic| (k_go0; repeat (simp only [$ls,*]; k_go0)))
theorem loop_ind {pin : Nat} {wt : SV → T Unit} {wb : T AFl} {k : AFl → St → Prop} (Inv : List SV → St → Prop) (h0 : ∀ st, Inv [] st → k .next st)
    (hs : ∀ x xs st, Inv (x :: xs) st → (∀ st', Inv xs st' → wForL pin wt wb k xs st') → wForL pin wt wb k (x :: xs) st) : ∀ xs st, Inv xs st → wForL pin wt wb k xs st
  | [], st, h => h0 st h
  | x :: xs, st, h => hs x xs st h fun st' h' => loop_ind Inv h0 hs xs st' h'
theorem while_ind {pin : Nat} {wt : T Bool} {wb : T AFl} {k : AFl → St → Prop} (Inv : Nat → St → Prop)
    (hs : ∀ n st, Inv n st → (∀ m st', m < n → Inv m st' → ∃ j, wWh pin wt wb k j st') → ∃ j, wWh pin wt wb k j st) : ∀ n st, Inv n st → wWhile pin wt wb k st := by
  intro n
  induction n using Nat.strongRecOn with
  | ind n ih => exact fun st h => hs n st h fun m st' hm h' => ih m hm st' h'
theorem comp_ind {we : T SV} {k : List SV → List SO → Prop} (Inv : List SV → St → List SV → Prop) (h0 : ∀ st acc, Inv [] st acc → k acc st.heap)
    (hs : ∀ x xs st acc, Inv (x :: xs) st acc → (∀ st' acc', Inv xs st' acc' → wCompL we k xs st' acc') → wCompL we k (x :: xs) st acc) : ∀ xs st acc, Inv xs st acc → wCompL we k xs st acc
  | [], st, acc, h => h0 st acc h
  | x :: xs, st, acc, h => hs x xs st acc h fun st' acc' h' => comp_ind Inv h0 hs xs st' acc' h'
theorem clos_map {α : Type} (f : α → SV) (hf : ∀ a, clo (f a)) : ∀ l : List α, clos (l.map f)
  | [] => trivial
  | a :: l => ⟨hf a, clos_map f hf l⟩
structure FnS (w : World) (fa : Addr) (d : PySem.Stmt) (qual : Str) (cdv : Value) (names : List Str) (desc : List (Str × Bool)) : Prop where
  k : FnK w fa d qual cdv
  cd : codeIn (KF w) cdv qual = true
  bd : BindOk d names
  hs : ((dScope d).isCoroutine, (dScope d).isGenerator, (dScope d).kind) = (false, false, ScopeKind.function)
  nd : names.Nodup
  chk : chkDesc (dScope d) desc names = true
theorem c_fn {w : World} {hB : Heap} {c : Cx} {fa : Addr} {d : PySem.Stmt} {qual : Str} {cdv : Value} {names : List Str} {desc : List (Str × Bool)} {W : T AFl} (ht : Nat) (F : FnS w fa d qual cdv names desc) (hb : ∀ A L, ExecsTo w hB (mkCx ht 0 qual (dScope d) fa cdv desc A L) (dBody d) W) (hc : ht < c.ht)
    {wo : List SV → T SV} (hi : ∀ as k st, wo as k st → wPure W names.length desc.length as k st) : CallOp w hB c (.ref fa) wo :=
  fun st al Z s k as vs R r hw => pure_fn (fnIs_of R.grd F.k F.cd F.bd F.hs F.nd) (cxIs_of ht 0 F.chk) hb hc st al Z s k as vs R r (hi as k st hw)
noncomputable def forBody : PySem.Stmt → List PySem.Stmt
  | .For w1_ w2_ b w3_ w4_ => b
  | _ => []
noncomputable def nthS (l : List PySem.Stmt) (n : Nat) : PySem.Stmt := (l[n]?).getD (.Pass ⟨0, 0, 0, 0⟩)
noncomputable def ifB : PySem.Stmt → List PySem.Stmt
  | .If w1_ b w2_ w3_ => b
  | _ => []
noncomputable def ifO : PySem.Stmt → List PySem.Stmt
  | .If w1_ w2_ o w3_ => o
  | _ => []
theorem loop_indF {pin : Nat} {wt : SV → T Unit} {wb : T AFl} {k : AFl → St → Prop} (Inv : List SV → St → Prop) (h0 : ∀ st, Inv [] st → k .next st)
    (hs : ∀ x xs st (F : St → Prop), Inv (x :: xs) st → (∀ st', Inv xs st' → F st') → ∃ st1, Wk pin st st1 ∧ wt x (fun u_ st => wb (fun fl st => match fl with
      | .next => F st
      | .cont => F st
      | .brk => k .next st
      | .ret v => k (.ret v) st) st) st1) : ∀ xs st, Inv xs st → wForL pin wt wb k xs st
  | [], st, h => h0 st h
  | x :: xs, st, h => hs x xs st (wForL pin wt wb k xs) h fun st' h' => loop_indF Inv h0 hs xs st' h'
theorem while_indF {pin : Nat} {wt : T Bool} {wb : T AFl} {k : AFl → St → Prop} (Inv : Nat → St → Prop)
    (hs : ∀ n st (F : St → Prop), Inv n st → (∀ m st', n = m + 1 → Inv m st' → F st') → ∃ st1, Wk pin st st1 ∧ wt (fun b st => if b then wb (fun fl st => match fl with
      | .next => F st
      | .cont => F st
      | .brk => k .next st
      | .ret v => k (.ret v) st) st else k .next st) st1) : ∀ n st, Inv n st → wWhile pin wt wb k st := by
  have main : ∀ n st, Inv n st → wWh pin wt wb k (n + 1) st := by
    intro n
    induction n with
    | zero => exact fun st h => hs 0 st (wWh pin wt wb k 0) h fun m st' e => by cases e
    | succ n ih => exact fun st h => hs (n + 1) st (wWh pin wt wb k (n + 1)) h fun m st' e h' => by cases e; exact ih st' h'
  exact fun n st h => ⟨n + 1, main n st h⟩
theorem comp_indF {we : T SV} {k : List SV → List SO → Prop} (Inv : List SV → St → List SV → Prop) (h0 : ∀ st acc, Inv [] st acc → k acc st.heap)
    (hs : ∀ x xs st acc (F : St → List SV → Prop), Inv (x :: xs) st acc → (∀ st' acc', Inv xs st' acc' → F st' acc') → we (fun v st' => F st' (acc ++ [v])) (st.setL 0 x)) : ∀ xs st acc, Inv xs st acc → wCompL we k xs st acc
  | [], st, acc, h => h0 st acc h
  | x :: xs, st, acc, h => hs x xs st acc (wCompL we k xs) h fun st' acc' h' => comp_indF Inv h0 hs xs st' acc' h'
section
variable (w : World)
theorem gl_law_lead : nsIn (KF w) mainGlobals "_law_lead" = some (some (.ref 190)) := by kernel_rfl
theorem gl_law_column : nsIn (KF w) mainGlobals "_law_column" = some (some (.ref 197)) := by kernel_rfl
theorem gl_law_written : nsIn (KF w) mainGlobals "_law_written" = some (some (.ref 183)) := by kernel_rfl
theorem gl_law_least : nsIn (KF w) mainGlobals "_law_least" = some (some (.ref 202)) := by kernel_rfl
theorem gl_law_machine : nsIn (KF w) mainGlobals "_law_machine" = some (some (.ref 178)) := by kernel_rfl
theorem gl_add_func_stats : nsIn (KF w) mainGlobals "add_func_stats" = some (some (.ref 98)) := by kernel_rfl
theorem gl_add_callers : nsIn (KF w) mainGlobals "add_callers" = some (some (.ref 105)) := by kernel_rfl
theorem gl_Whitespace : nsIn (KF w) mainGlobals "Whitespace" = some (some (.ref 167)) := by kernel_rfl
theorem gl_TupleComp : nsIn (KF w) mainGlobals "TupleComp" = some (some (.ref 87)) := by kernel_rfl
theorem gl_netrclex : nsIn (KF w) mainGlobals "_netrclex" = some (some (.ref 59)) := by kernel_rfl
theorem nb_len : nsIn (KF w) mainGlobals "len" = some none := by kernel_rfl
theorem nb_range : nsIn (KF w) mainGlobals "range" = some none := by kernel_rfl
theorem nb_sum : nsIn (KF w) mainGlobals "sum" = some none := by kernel_rfl
theorem nb_sorted : nsIn (KF w) mainGlobals "sorted" = some none := by kernel_rfl
theorem nb_min : nsIn (KF w) mainGlobals "min" = some none := by kernel_rfl
theorem nb_tuple : nsIn (KF w) mainGlobals "tuple" = some none := by kernel_rfl
theorem nb_list : nsIn (KF w) mainGlobals "list" = some none := by kernel_rfl
theorem nb_isinstance : nsIn (KF w) mainGlobals "isinstance" = some none := by kernel_rfl
theorem nb_iter : nsIn (KF w) mainGlobals "iter" = some none := by kernel_rfl
theorem ck_lex : ClsK w 59 := ⟨by kernel_rfl, by kernel_rfl, by kernel_rfl, by kernel_rfl, by kernel_rfl⟩
theorem ck_tc : ClsK w 87 := ⟨by kernel_rfl, by kernel_rfl, by kernel_rfl, by kernel_rfl, by kernel_rfl⟩
theorem ck_ws : ClsK w 167 := ⟨by kernel_rfl, by kernel_rfl, by kernel_rfl, by kernel_rfl, by kernel_rfl⟩
end
noncomputable def chkComp (scope : Scope) (x : Str) : Bool :=
  (scope.kind == .function) && scope.names.all (fun y => (y.2 != .local || scope.names.lookup y.1 == some .local) && y.2 != .cell) && (scope.names.lookup x == some .local)
noncomputable def CapsOk (c : Cx) (scope : Scope) (cl : List (Str × Addr)) : List (Str × Nat × Addr) → Prop
  | [] => True
  | p :: r => (c.slots[p.2.1]? = some (p.1, .cell p.2.2) ∧ cl.lookup p.1 = some p.2.2 ∧ ∀ C, (compEnvC scope cl C c.env).kindOf p.1 = some .cell) ∧ CapsOk c scope cl r
theorem CapsOk.mem {c : Cx} {scope : Scope} {cl : List (Str × Addr)} : ∀ {caps : List (Str × Nat × Addr)}, CapsOk c scope cl caps → ∀ p ∈ caps, c.slots[p.2.1]? = some (p.1, .cell p.2.2) ∧ cl.lookup p.1 = some p.2.2 ∧ ∀ C, (compEnvC scope cl C c.env).kindOf p.1 = some .cell ∨ (compEnvC scope cl C c.env).kindOf p.1 = some .free
  | [], w1_, p, h => by simp at h
  | q :: r, hc, p, h => by
    simp only [CapsOk] at hc
    rcases List.mem_cons.mp h with rfl | h
    · exact ⟨hc.1.1, hc.1.2.1, fun C => .inl (hc.1.2.2 C)⟩
    · exact CapsOk.mem hc.2 p h
theorem compIs_mk {c : Cx} {scope : Scope} {cl : List (Str × Addr)} {x : Str} {caps : List (Str × Nat × Addr)} (h1 : closureFor scope c.env = pure cl) (h2 : chkComp scope x = true) (h3 : CapsOk c scope cl caps) (h4 : (x :: caps.map (·.1)).Nodup) : CompIs c scope cl x caps := by
  unfold chkComp at h2
  simp only [Bool.and_eq_true, beq_iff_eq] at h2
  obtain ⟨⟨a, b⟩, d⟩ := h2
  refine ⟨h1, a, fun y hy hl => ?_, fun y hy hc => ?_, d, h3.mem, h4⟩
  · have := List.all_eq_true.mp b y hy
    simp only [Bool.and_eq_true, Bool.or_eq_true, bne_iff_ne, beq_iff_eq] at this
    rcases this.1 with q | q
    · exact absurd hl q
    · exact q
  · have := List.all_eq_true.mp b y hy
    simp only [Bool.and_eq_true, bne_iff_ne] at this
    exact this.2 hc
noncomputable def capsZ (is : List Nat) : List (Str × Nat × Addr) := is.map fun i => (("" : Str), i, 0)
theorem capLoc_z {caps : List (Str × Nat × Addr)} {is : List Nat} (h : caps.map (·.2.1) = is) (st : St) : capLoc st caps = capLoc st (capsZ is) := by
  subst h
  simp [capLoc, capsZ, List.map_map, Function.comp_def]
section
variable {w : World} {hB : Heap} {c : Cx}
theorem ev_compz {elt iter : PySem.Expr} {x : Str} {px pos : Pos} {scope : Scope} {cl : List (Str × Addr)} {caps : List (Str × Nat × Addr)} (is : List Nat) (lv : Bool) {wi we : T SV} {wit : SV → T (List SV)} (K : CompIs c scope cl x caps) (hi : EvalsTo w hB c iter wi) (hit : ItOpP w hB c wit)
    (he : ∀ C, EvalsTo w hB (mkComp c scope cl x caps C) elt we) (hz : autoParam (caps.map (·.2.1) = is) aRfl) (hs : autoParam (∀ x, foldedSetIterable iter c.env x = pure x) aIRfl) :
    EvalsTo w hB c (.ListComp elt [⟨.Name x px, iter, [], 0⟩] scope pos) (wComp lv (capsZ is) wi wit we) := by
  have e : wComp lv (capsZ is) wi wit we = wComp lv caps wi wit we := by unfold wComp; simp only [capLoc_z hz]
  rw [e]; exact ev_comp lv K hi hit he hs
theorem ex_compSz {elt iter : PySem.Expr} {x y : Str} {px py pos spos : Pos} {scope : Scope} {cl : List (Str × Addr)} {caps : List (Str × Nat × Addr)} (is : List Nat) (lv : Bool) {wi we : T SV} {wit : SV → T (List SV)} {wt : SV → T Unit} (K : CompIs c scope cl x caps) (hi : EvalsTo w hB c iter wi) (hit : ItOpP w hB c wit)
    (he : ∀ C, EvalsTo w hB (mkComp c scope cl x caps C) elt we) (ht : AssTo w hB c (.Name y py) wt) (hsw : swapsWith (.ListComp elt [⟨.Name x px, iter, [], 0⟩] scope pos) (some (.Name y py)) spos.line c.env = pure true) (hz : autoParam (caps.map (·.2.1) = is) aRfl) (hs : autoParam (∀ x, foldedSetIterable iter c.env x = pure x) aIRfl) :
    ExecTo w hB c (.Assign [.Name y py] (.ListComp elt [⟨.Name x px, iter, [], 0⟩] scope pos) spos) (fun k => wComp lv (capsZ is) wi wit we fun a => wt a fun u_ => k .next) := by
  have e : wComp lv (capsZ is) wi wit we = wComp lv caps wi wit we := by unfold wComp; simp only [capLoc_z hz]
  rw [e]; exact ex_compS lv K hi hit he ht hsw hs
theorem ev_compVz {elt iter : PySem.Expr} {x : Str} {px pos : Pos} {scope : Scope} {cl : List (Str × Addr)} {caps : List (Str × Nat × Addr)} (is : List Nat) (lv : Bool) {wi we : T SV} {wit : SV → T (List SV)} (K : CompIs c scope cl x caps) (hi : EvalsTo w hB c iter wi) (hit : ItOp w hB c wit)
    (he : ∀ C, EvalsTo w hB (mkComp c scope cl x caps C) elt we) (hz : autoParam (caps.map (·.2.1) = is) aRfl) (hs : autoParam (∀ x, foldedSetIterable iter c.env x = pure x) aIRfl) :
    EvalsTo w hB c (.ListComp elt [⟨.Name x px, iter, [], 0⟩] scope pos) (wCompV lv (capsZ is) wi wit we) := by
  have e : wCompV lv (capsZ is) wi wit we = wCompV lv caps wi wit we := by unfold wCompV; simp only [capLoc_z hz]
  rw [e]; exact ev_compV lv K hi hit he hs
theorem ex_compVSz {elt iter : PySem.Expr} {x y : Str} {px py pos spos : Pos} {scope : Scope} {cl : List (Str × Addr)} {caps : List (Str × Nat × Addr)} (is : List Nat) (lv : Bool) {wi we : T SV} {wit : SV → T (List SV)} {wt : SV → T Unit} (K : CompIs c scope cl x caps) (hi : EvalsTo w hB c iter wi) (hit : ItOp w hB c wit)
    (he : ∀ C, EvalsTo w hB (mkComp c scope cl x caps C) elt we) (ht : AssTo w hB c (.Name y py) wt) (hsw : swapsWith (.ListComp elt [⟨.Name x px, iter, [], 0⟩] scope pos) (some (.Name y py)) spos.line c.env = pure true) (hz : autoParam (caps.map (·.2.1) = is) aRfl) (hs : autoParam (∀ x, foldedSetIterable iter c.env x = pure x) aIRfl) :
    ExecTo w hB c (.Assign [.Name y py] (.ListComp elt [⟨.Name x px, iter, [], 0⟩] scope pos) spos) (fun k => wCompV lv (capsZ is) wi wit we fun a => wt a fun u_ => k .next) := by
  have e : wCompV lv (capsZ is) wi wit we = wCompV lv caps wi wit we := by unfold wCompV; simp only [capLoc_z hz]
  rw [e]; exact ex_compVS lv K hi hit he ht hsw hs
theorem ev_compDz {kx vx iter : PySem.Expr} {x : Str} {px pos : Pos} {scope : Scope} {cl : List (Str × Addr)} {caps : List (Str × Nat × Addr)} (is : List Nat) {wi wk wv : T SV} {wit : SV → T (List SV)} (K : CompIs c scope cl x caps) (hi : EvalsTo w hB c iter wi) (hit : ItOpP w hB c wit)
    (hek : ∀ C, EvalsTo w hB (mkComp c scope cl x caps C) kx wk) (hev : ∀ C, EvalsTo w hB (mkComp c scope cl x caps C) vx wv) (hz : autoParam (caps.map (·.2.1) = is) aRfl) (hs : autoParam (∀ x, foldedSetIterable iter c.env x = pure x) aIRfl) :
    EvalsTo w hB c (.DictComp kx vx [⟨.Name x px, iter, [], 0⟩] scope pos) (wCompDP (capsZ is) wi wit wk wv) := by
  have e : wCompDP (capsZ is) wi wit wk wv = wCompDP caps wi wit wk wv := by unfold wCompDP; simp only [capLoc_z hz]
  rw [e]; exact ev_compD K hi hit hek hev hs
end
noncomputable abbrev dsColumn : List (Str × Bool) := [("lead", false), ("size", false), ("column", false), ("sign", false)]
noncomputable abbrev cxColumn (A : Around) (L : Addr) : Cx := mkCx 0 0 "_law_column" (dScope (stm 13)) 197 (.ref 196) dsColumn A L
theorem fnColumn (w : World) : FnS w 197 (stm 13) "_law_column" (.ref 196) ["lead", "size"] dsColumn where
  k := by unfold FnK; kernel_rfl
  cd := by kernel_rfl
  bd := bind2 fun fd h1 h2 h3 a b => by unfold bindArgs; rw [h1, h2, h3]; rfl
  hs := by kernel_rfl
  nd := by decide +kernel
  chk := by decide +kernel
noncomputable def exColumn (w : World) (hB : Heap) : { W : T AFl // ∀ A L, ExecsTo w hB (cxColumn A L) (dBody (stm 13)) W } := ⟨_, fun A L =>
  exs_cons (ex_assign ev_int (as_loc (i := 2) rfl)) <|
  exs_cons (ex_for rfl (ev_loc (i := 0) rfl) it_gen (as_loc (i := 3) rfl) (
    ex_one (ex_if (te_cmp (ev_loc (i := 3) rfl) (ev_str [9]) o_eqG)
      (ex_one (ex_assign (ev_bin (ev_bin (ev_loc (i := 2) rfl) (ev_bin (ev_loc (i := 2) rfl) (ev_loc (i := 1) rfl) o_mod) o_sub) (ev_loc (i := 1) rfl) (o_addG false)) (as_loc (i := 2) rfl)))
      (ex_one (ex_assign (ev_bin (ev_loc (i := 2) rfl) ev_int (o_addG false)) (as_loc (i := 2) rfl)))))) <|
  ex_one (ex_ret (ev_loc (i := 2) rfl))⟩
noncomputable def colS (n : Int) (c : Int) (d : Nat) : Int := if d = 9 then c - c % n + n else c + 1
noncomputable def colN (n : Int) (x : Cs) : Int := x.foldl (colS n) 0
theorem column_spec (w : World) (hB : Heap) (n : Int) (hn : 0 < n) (x : Cs) (k : SV → List SO → Prop) (h : k (.int (colN n x)) []) : (exColumn w hB).1 (retK k) ⟨initLoc [.str x, .int n] 4, []⟩ := by
  refine ⟨clos_map _ (fun u_ => by exact trivial) x, loop_ind (fun xs st => ∃ (y : Cs) (c : Int) (o : Option SV), xs = y.map (fun d => .str [d]) ∧ y.foldl (colS n) c = colN n x ∧ st = ⟨[some (.str x), some (.int n), some (.int c), o], []⟩) ?_ ?_ _ _ ⟨x, 0, none, rfl, rfl, rfl⟩⟩
  · rintro st ⟨y, c, o, h1, h2, rfl⟩
    have : y = [] := by simpa using h1.symm
    subst this
    simp only [List.foldl_nil] at h2
    subst h2
    exact h
  · rintro z zs st ⟨y, c, o, h1, h2, rfl⟩ ih
    cases y with
    | nil => simp at h1
    | cons d y =>
      simp only [List.map_cons, List.cons.injEq] at h1
      obtain ⟨rfl, rfl⟩ := h1
      refine ⟨_, .refl, ?_⟩
      k_go
      simp only [List.foldl_cons] at h2
      by_cases hd : d = 9
      · subst hd
        simp only [beq_self_eq_true]
        k_go
        exact ⟨hn, ih _ ⟨y, _, _, rfl, h2, rfl⟩⟩
      · have e : (([d] : Cs) == [9]) = false := by simp [hd]
        rw [e]
        k_go
        exact ih _ ⟨y, _, _, rfl, by rw [← h2]; simp [colS, hd], rfl⟩
noncomputable def wColumn : List SV → T SV := fun as k st => args2 as fun a b => asStr a (fun x => asInt b (fun n => 0 < n ∧ k (.int (colN n x)) st) False) False
theorem c_column {w : World} {hB : Heap} {c : Cx} (hc : 0 < c.ht) : CallOp w hB c (.ref 197) wColumn :=
  c_fn 0 (fnColumn w) (exColumn w hB).2 hc fun as k st hw => by
    obtain ⟨_, _, rfl, hw1⟩ := args2.g hw
    obtain ⟨x, rfl, hw2⟩ := asStr.g hw1
    obtain ⟨n, rfl, hw⟩ := asInt.g hw2
    exact ⟨⟨trivial, trivial, trivial⟩, rfl, column_spec w hB _ hw.1 _ _ ⟨trivial, hw.2⟩⟩

noncomputable abbrev dsLead : List (Str × Bool) := [("number", false), ("lead", false), ("rest", false), ("piece", false)]
noncomputable abbrev cxLead (A : Around) (L : Addr) : Cx := mkCx 0 0 "_law_lead" (dScope (stm 12)) 190 (.ref 189) dsLead A L
theorem fnLead (w : World) : FnS w 190 (stm 12) "_law_lead" (.ref 189) ["number"] dsLead where
  k := by unfold FnK; kernel_rfl
  cd := by kernel_rfl
  bd := bind1 fun fd h1 h2 h3 a0 => by unfold bindArgs; rw [h1, h2, h3]; rfl
  hs := by kernel_rfl
  nd := by decide +kernel
  chk := by decide +kernel

noncomputable def exLead (w : World) (hB : Heap) : { W : T AFl // ∀ A L, ExecsTo w hB (cxLead A L) (dBody (stm 12)) W } := ⟨_, fun A L =>
  exs_cons (ex_assign (ev_str []) (as_loc (i := 1) rfl)) <|
  exs_cons (ex_assign (ev_bin (ev_loc (i := 0) rfl) ev_int o_div) (as_loc (i := 2) rfl)) <|
  exs_cons (ex_for rfl (ev_call (ev_blt rfl (nb_range w) rfl) (li_cons (ev_bin ev_int (ev_bin (ev_loc (i := 0) rfl) ev_int o_mod) (o_addG false)) li_nil) c_range) it_gen (as_loc (i := 3) rfl)
  (exs_cons (ex_assign (ev_bin (ev_bin (ev_loc (i := 1) rfl) (ev_bin (ev_str [32]) (ev_bin (ev_loc (i := 2) rfl) ev_int o_mod) (o_mulG false)) (o_addG false)) (ev_str [9]) (o_addG false)) (as_loc (i := 1) rfl)) <|
    ex_one (ex_assign (ev_bin (ev_loc (i := 2) rfl) ev_int o_div) (as_loc (i := 2) rfl)))) <|
  ex_one (ex_ret (ev_loc (i := 1) rfl))⟩

noncomputable def leadR : Nat → Int → Cs
  | 0, w1_ => []
  | n + 1, r => List.replicate (r % 3).toNat 32 ++ 9 :: leadR n (r / 3)
noncomputable def leadN (z : Int) : Cs := leadR (1 + z % 4).toNat (z / 4)
theorem leadR_snoc : ∀ (n : Nat) (r : Int) (x : Cs), x ++ leadR (n + 1) r = (x ++ List.replicate (r % 3).toNat 32 ++ [9]) ++ leadR n (r / 3) := by
  intro n r x
  simp [leadR]
theorem rngL_succ (a : Int) (n : Nat) : rngL a (a + (n + 1 : Nat)) = .int a :: rngL (a + 1) (a + 1 + (n : Nat)) := by
  unfold rngL
  have e1 : (a + (n + 1 : Nat) - a).toNat = n + 1 := by omega
  have e2 : (a + 1 + (n : Nat) - (a + 1)).toNat = n := by omega
  rw [e1, e2, List.range_succ_eq_map, List.map_cons, List.map_map]
  congr 1
  · simp
  · apply List.map_congr_left
    intro i _
    simp only [Function.comp_apply]
    congr 1
    omega
theorem rngL_nil (a b : Int) (h : b ≤ a) : rngL a b = [] := by
  unfold rngL
  have : (b - a).toNat = 0 := by omega
  rw [this]; rfl
theorem clos_rng (a b : Int) : clos (rngL a b) := clos_map _ (fun u_ => by exact trivial) _
theorem lead_spec (w : World) (hB : Heap) (z : Int) (hz : 0 ≤ z) (k : SV → List SO → Prop) (h : k (.str (leadN z)) []) : (exLead w hB).1 (retK k) ⟨initLoc [.int z] 4, []⟩ := by
  have h4 := Int.emod_nonneg z (show (4 : Int) ≠ 0 by decide)
  have h4' := Int.emod_lt_of_pos z (show (0 : Int) < 4 by decide)
  obtain ⟨m, hm⟩ : ∃ m : Nat, 1 + z % 4 = (m : Int) := ⟨(1 + z % 4).toNat, by omega⟩
  refine ⟨by omega, by omega, ⟨by omega, by omega, by show -1000000 ≤ 1 + z % 4; omega, by show 1 + z % 4 ≤ 1000000; omega⟩, clos_rng _ _, ?_⟩
  refine loop_ind (fun xs st => ∃ (n : Nat) (a r : Int) (x : Cs) (o : Option SV), xs = rngL a (a + (n : Nat)) ∧ (x.length + 3 * n ≤ 12) ∧ x ++ leadR n r = leadN z ∧ st = ⟨[some (.int z), some (.str x), some (.int r), o], []⟩) ?_ ?_ _ _ ⟨m, 0, z / 4, [], none, by show rngL 0 (1 + z % 4) = _; rw [hm]; simp, by simp; omega, by simp [leadN, hm], rfl⟩
  · rintro st ⟨n, a, r, x, o, h1, h2, h3, rfl⟩
    cases n with
    | zero => simp only [leadR, List.append_nil] at h3; subst h3; exact h
    | succ n => rw [rngL_succ] at h1; cases h1
  · rintro y ys st ⟨n, a, r, x, o, h1, h2, h3, rfl⟩ ih
    cases n with
    | zero => rw [rngL_nil _ _ (by simp)] at h1; cases h1
    | succ n =>
      rw [rngL_succ] at h1
      cases h1
      have g1 := Int.emod_nonneg r (show (3 : Int) ≠ 0 by decide)
      have g2 := Int.emod_lt_of_pos r (show (0 : Int) < 3 by decide)
      rw [leadR_snoc] at h3
      refine ⟨_, .refl, ?_⟩
      refine ⟨by show (0 : Int) < 3; decide, by show r % 3 ≤ 1000; omega, by show -1000 ≤ r % 3; omega, by simp; omega, by simp; omega, by show (0 : Int) < 3 ∧ (3 : Int) < 1000000000; decide, ?_⟩
      exact ih _ ⟨n, a + 1, r / 3, _, _, rfl, by simp; omega, h3, rfl⟩
noncomputable def wLead : List SV → T SV := fun as k st => args1 as fun a => asInt a (fun z => 0 ≤ z ∧ k (.str (leadN z)) st) False
theorem c_lead {w : World} {hB : Heap} {c : Cx} (hc : 0 < c.ht) : CallOp w hB c (.ref 190) wLead :=
  c_fn 0 (fnLead w) (exLead w hB).2 hc fun as k st hw => by
    obtain ⟨_, rfl, hw1⟩ := args1.g hw
    obtain ⟨z, rfl, hw⟩ := asInt.g hw1
    exact ⟨⟨trivial, trivial⟩, rfl, lead_spec w hB _ hw.1 _ ⟨trivial, hw.2⟩⟩

noncomputable abbrev dsWritten : List (Str × Bool) := [("word", false), ("manner", false)]
noncomputable abbrev cxWritten (A : Around) (L : Addr) : Cx := mkCx 0 0 "_law_written" (dScope (stm 11)) 183 (.ref 182) dsWritten A L
theorem fnWritten (w : World) : FnS w 183 (stm 11) "_law_written" (.ref 182) ["word", "manner"] dsWritten where
  k := by unfold FnK; kernel_rfl
  cd := by kernel_rfl
  bd := bind2 fun fd h1 h2 h3 a0 a1 => by unfold bindArgs; rw [h1, h2, h3]; rfl
  hs := by kernel_rfl
  nd := by decide +kernel
  chk := by decide +kernel

noncomputable def exWritten (w : World) (hB : Heap) : { W : T AFl // ∀ A L, ExecsTo w hB (cxWritten A L) (dBody (stm 11)) W } := ⟨_, fun A L =>
  exs_cons (ex_if (te_cmp (ev_bin (ev_loc (i := 1) rfl) ev_int o_mod) ev_int o_eqG)
  (ex_one (ex_ret (ev_bin (ev_bin (ev_str [34]) (ev_loc (i := 0) rfl) (o_addG false)) (ev_str [34, 10]) (o_addG false))))
  (exs_nil)) <|
  ex_one (ex_ret (ev_bin (ev_meth (ev_str []) (li_cons (ev_comp false (caps := []) (compIs_mk rfl (by decide +kernel) trivial (by decide)) (ev_loc (i := 0) rfl) (itp_of it_gen) (fun C => ev_bin (ev_str [92]) (ev_loc (i := 0) rfl) (o_addG false))) li_nil) f_join c_join) (ev_str [32]) (o_addG false)))⟩

noncomputable def writtenN (x : Cs) (m : Int) : Cs := if m % 2 = 0 then 34 :: x ++ [34, 10] else (x.map fun d => [92, d]).flatten ++ [32]
theorem written_spec (w : World) (hB : Heap) (x : Cs) (m : Int) (hx : x.length ≤ 90) (k : SV → List SO → Prop) (h : k (.str (writtenN x m)) []) : (exWritten w hB).1 (retK k) ⟨initLoc [.str x, .int m] 2, []⟩ := by
  refine ⟨by show (0 : Int) < 2; decide, ?_⟩
  k_go
  by_cases hm : m % 2 = 0
  · rw [hm]
    simp only [beq_self_eq_true]
    k_go
    refine ⟨by (try simp); omega, by (try simp); omega, ?_⟩
    simpa [writtenN, hm] using h
  · have e : (m % 2 == 0) = false := by simpa using hm
    rw [e]
    k_go
    refine ⟨rfl, ?_⟩
    refine ⟨clos_map _ (fun u_ => by exact trivial) x, by simp; omega, by simp [closO, capLoc], ?_⟩
    refine comp_ind (fun xs st acc => ∃ y z : Cs, x = y ++ z ∧ xs = z.map (fun d => .str [d]) ∧ acc = y.map (fun d => .str [92, d]) ∧ ∃ o, st = ⟨[o], []⟩) ?_ ?_ _ _ _ ⟨[], x, rfl, rfl, rfl, none, rfl⟩
    · rintro st acc ⟨y, z, h1, h2, rfl, o, rfl⟩
      have : z = [] := by simpa using h2.symm
      subst this
      rw [List.append_nil] at h1
      subst h1
      refine ⟨clos_map _ (fun u_ => by exact trivial) x, ?_⟩
      refine ⟨x.map fun d => [92, d], by simp [List.map_map, Function.comp_def], by simp; omega, fun y hy => ?_, ?_⟩
      · obtain ⟨d, _, rfl⟩ := List.mem_map.mp hy; simp
      · refine ⟨?_, ?_⟩
        · have := len_flatten_le 2 (x.map fun d => [92, d]) (fun y hy => by obtain ⟨d, _, rfl⟩ := List.mem_map.mp hy; simp)
          simp at this ⊢
          omega
        · have h' : k (.str ((x.map fun d => [92, d]).flatten ++ [32])) [] := by simpa [writtenN, hm] using h
          exact h'
    · rintro v vs st acc ⟨y, z, h1, h2, rfl, o, rfl⟩ ih
      cases z with
      | nil => simp at h2
      | cons d z =>
        simp only [List.map_cons, List.cons.injEq] at h2
        obtain ⟨rfl, rfl⟩ := h2
        refine ⟨by simp, ih _ _ ⟨y ++ [d], z, by rw [h1]; simp, rfl, by simp, _, rfl⟩⟩
noncomputable def wWritten : List SV → T SV := fun as k st => args2 as fun a b => asStr a (fun x => asInt b (fun m => x.length ≤ 90 ∧ k (.str (writtenN x m)) st) False) False
theorem c_written {w : World} {hB : Heap} {c : Cx} (hc : 0 < c.ht) : CallOp w hB c (.ref 183) wWritten :=
  c_fn 0 (fnWritten w) (exWritten w hB).2 hc fun as k st hw => by
    obtain ⟨_, _, rfl, hw1⟩ := args2.g hw
    obtain ⟨x, rfl, hw2⟩ := asStr.g hw1
    obtain ⟨m, rfl, hw⟩ := asInt.g hw2
    exact ⟨⟨trivial, trivial, trivial⟩, rfl, written_spec w hB _ _ hw.1 _ ⟨trivial, hw.2⟩⟩

noncomputable abbrev dsCallers : List (Str × Bool) := [("target", false), ("source", false), ("new_callers", false), ("func", false), ("caller", false)]
noncomputable abbrev cxCallers (A : Around) (L : Addr) : Cx := mkCx 0 0 "add_callers" (dScope (stm 6)) 105 (.ref 104) dsCallers A L
theorem fnCallers (w : World) : FnS w 105 (stm 6) "add_callers" (.ref 104) ["target", "source"] dsCallers where
  k := by unfold FnK; kernel_rfl
  cd := by kernel_rfl
  bd := bind2 fun fd h1 h2 h3 a0 a1 => by unfold bindArgs; rw [h1, h2, h3]; rfl
  hs := by kernel_rfl
  nd := by decide +kernel
  chk := by decide +kernel

noncomputable def exCallers (w : World) (hB : Heap) : { W : T AFl // ∀ A L, ExecsTo w hB (cxCallers A L) (dBody (stm 6)) W } := ⟨_, fun A L =>
  exs_cons (ex_assign ev_dict0 (as_loc (i := 2) rfl)) <|
  exs_cons (ex_forI rfl (ev_meth (ev_loc (i := 0) rfl) li_nil (f_dict PySem.F.slot_dict_items PySem.F.type_dict_items) c_items) (as_tup (n := 2) rfl rfl rfl (tg_cons (as_loc (i := 3) rfl) (tg_cons (as_loc (i := 4) rfl) tg_nil)))
  (ex_one (ex_assign (ev_loc (i := 4) rfl) (as_sub (ev_loc (i := 2) rfl) (ev_loc (i := 3) rfl))))) <|
  exs_cons (ex_forI rfl (ev_meth (ev_loc (i := 1) rfl) li_nil (f_dict PySem.F.slot_dict_items PySem.F.type_dict_items) c_items) (as_tup (n := 2) rfl rfl rfl (tg_cons (as_loc (i := 3) rfl) (tg_cons (as_loc (i := 4) rfl) tg_nil)))
  (ex_one (ex_if (te_cmp (ev_loc (i := 3) rfl) (ev_loc (i := 2) rfl) o_in)
    (ex_one (ex_if (te_val (ev_call (ev_blt (v := .builtin "isinstance") rfl (nb_isinstance w) rfl) (li_cons (ev_loc (i := 4) rfl) (li_cons (ev_blt (v := .type "tuple") rfl (nb_tuple w) rfl) li_nil)) c_isi) o_tru)
      (ex_one TriS.none)
      (ex_one (ex_augsub (ev_loc (i := 2) rfl) (ev_loc (i := 3) rfl) (ev_loc (i := 4) rfl) o_iadd))))
    (ex_one (ex_assign (ev_loc (i := 4) rfl) (as_sub (ev_loc (i := 2) rfl) (ev_loc (i := 3) rfl))))))) <|
  ex_one (ex_ret (ev_loc (i := 2) rfl))⟩


noncomputable def addK (ks : List Cs) (k : Cs) : List Cs := if k ∈ ks then ks else ks ++ [k]
noncomputable def addP : List Cs → List Int → Cs → Int → List Int
  | a :: ks, z :: vs, k, v => (if a = k then z + v else z) :: addP ks vs k v
  | w1_, vs, w2_, w3_ => vs
noncomputable def addV (ks : List Cs) (vs : List Int) (k : Cs) (v : Int) : List Int := if k ∈ ks then addP ks vs k v else vs ++ [v]
noncomputable def mrgK : List Cs → List Cs → List Cs
  | ks, [] => ks
  | ks, k :: r => mrgK (addK ks k) r
noncomputable def mrgV : List Cs → List Int → List Cs → List Int → List Int
  | ks, vs, k :: r, v :: rv => mrgV (addK ks k) (addV ks vs k v) r rv
  | w1_, vs, w2_, w3_ => vs
noncomputable def SI (vs : List Int) : List SV := vs.map SV.int
theorem dput_not {k : Cs} {u : SV} : ∀ {ks : List Cs} {vs : List SV}, k ∉ ks → dput ks vs k u = vs
  | [], vs, w1_ => by cases vs <;> rfl
  | a :: ks, [], w1_ => rfl
  | a :: ks, z :: vs, h => by
    simp only [List.mem_cons, not_or] at h
    simp only [dput, if_neg (Ne.symm h.1), dput_not h.2]
theorem addP_not {k : Cs} {v : Int} : ∀ {ks : List Cs} {vs : List Int}, k ∉ ks → addP ks vs k v = vs
  | [], vs, w1_ => by cases vs <;> rfl
  | a :: ks, [], w1_ => rfl
  | a :: ks, z :: vs, h => by
    simp only [List.mem_cons, not_or] at h
    simp only [addP, if_neg (Ne.symm h.1), addP_not h.2]
theorem dget_SI {k : Cs} : ∀ {ks : List Cs} {vs : List Int}, ks.Nodup → ks.length = vs.length → k ∈ ks → ∃ z, dget ks (SI vs) k = some (.int z) ∧ ∀ v, dput ks (SI vs) k (.int (z + v)) = SI (addP ks vs k v)
  | [], w1_, w2_, w3_, h => by simp at h
  | a :: ks, [], w1_, h, w2_ => by simp at h
  | a :: ks, z :: vs, hn, hl, h => by
    have hn' := List.nodup_cons.mp hn
    by_cases e : a = k
    · subst e
      refine ⟨z, by simp [SI, dget], fun v => ?_⟩
      show (if a = a then SV.int (z + v) else _) :: dput ks (SI vs) a _ = SI ((if a = a then z + v else z) :: addP ks vs a v)
      rw [if_pos rfl, if_pos rfl, dput_not hn'.1, addP_not hn'.1]
      rfl
    · have hk : k ∈ ks := by
        rcases List.mem_cons.mp h with q | q
        · exact absurd q.symm e
        · exact q
      obtain ⟨z', h1, h2⟩ := dget_SI hn'.2 (by simpa using hl) hk
      refine ⟨z', ?_, fun v => ?_⟩
      · show dget (a :: ks) (.int z :: SI vs) k = _
        simp only [dget, if_neg e]
        exact h1
      · show dput (a :: ks) (.int z :: SI vs) k _ = _
        simp only [dput, addP, if_neg e]
        rw [h2 v]
        rfl
set_option tactic.hygienic true in
theorem addK_nodup {ks : List Cs} {k : Cs} (h : ks.Nodup) : (addK ks k).Nodup := by
  unfold addK
  split
  · exact h
  · rename_i hk
    rw [List.nodup_append]
    exact ⟨h, by simp, fun a ha b hb e => by simp at hb; subst hb; subst e; exact hk ha⟩
theorem addP_len {k : Cs} {v : Int} : ∀ {ks : List Cs} {vs : List Int}, (addP ks vs k v).length = vs.length
  | [], vs => by cases vs <;> rfl
  | a :: ks, [] => rfl
  | a :: ks, z :: vs => by simp [addP, addP_len (ks := ks)]
theorem addV_len {ks : List Cs} {vs : List Int} {k : Cs} {v : Int} (h : ks.length = vs.length) : (addK ks k).length = (addV ks vs k v).length := by
  unfold addK addV
  split
  · rw [addP_len]; exact h
  · simp [h]
theorem addK_len (ks : List Cs) (k : Cs) : (addK ks k).length ≤ ks.length + 1 := by
  unfold addK
  split <;> simp
inductive CpI (tk sk : List Cs) (tv sv : List Int) (xs : List SV) (st : St) : Prop
  | mk (pk rk : List Cs) (pv rv : List Int) (o1 o2 : Option SV) (e1 : tk = pk ++ rk) (e2 : tv = pv ++ rv) (e3 : pk.length = pv.length) (e4 : rk.length = rv.length) (e5 : xs = itemsOf rk (SI rv)) (e6 : st = ⟨[some (.dict tk (SI tv)), some (.dict sk (SI sv)), some (.obj 0), o1, o2], [.dict pk (SI pv)]⟩) : CpI tk sk tv sv xs st
inductive MgI (tk sk : List Cs) (tv sv : List Int) (xs : List SV) (st : St) : Prop
  | mk (ck rk : List Cs) (cv rv : List Int) (o1 o2 : Option SV) (g1 : ck.Nodup) (g2 : ck.length = cv.length) (g3 : rk.length = rv.length) (g4 : ck.length + rk.length ≤ 1000) (g5 : mrgK ck rk = mrgK tk sk) (g6 : mrgV ck cv rk rv = mrgV tk tv sk sv) (g7 : xs = itemsOf rk (SI rv)) (e : st = ⟨[some (.dict tk (SI tv)), some (.dict sk (SI sv)), some (.obj 0), o1, o2], [.dict ck (SI cv)]⟩) : MgI tk sk tv sv xs st
theorem it_nil {rk : List Cs} {rv : List Int} (h : rk.length = rv.length) (e : [] = itemsOf rk (SI rv)) : rk = [] ∧ rv = [] := by
  cases rk with
  | nil => cases rv with
    | nil => exact ⟨rfl, rfl⟩
    | cons z r => cases h
  | cons a r => cases rv with
    | nil => cases h
    | cons z r' => cases e
inductive ItC (x : SV) (xs : List SV) : List Cs → List Int → Prop
  | mk (kk : Cs) (rk : List Cs) (v : Int) (rv : List Int) (e1 : x = .tup [.str kk, .int v]) (e2 : xs = itemsOf rk (SI rv)) (h : rk.length = rv.length) : ItC x xs (kk :: rk) (v :: rv)
theorem it_cons {x : SV} {xs : List SV} {rk : List Cs} {rv : List Int} (h : rk.length = rv.length) (e : x :: xs = itemsOf rk (SI rv)) : ItC x xs rk rv := by
  cases rk with
  | nil => cases e
  | cons a r => cases rv with
    | nil => cases h
    | cons z r' =>
      injection e with e1 e2
      exact ⟨a, r, z, r', e1, e2, Nat.succ.inj h⟩
theorem callers_spec (w : World) (hB : Heap) (tk sk : List Cs) (tv sv : List Int) (h1 : tk.Nodup) (h2 : tk.length = tv.length) (h3 : sk.length = sv.length) (h4 : tk.length + sk.length ≤ 1000) (k : SV → List SO → Prop)
    (h : k (.obj 0) [.dict (mrgK tk sk) (SI (mrgV tk tv sk sv))]) : (exCallers w hB).1 (retK k) ⟨initLoc [.dict tk (SI tv), .dict sk (SI sv)] 5, []⟩ := by
  refine ⟨rfl, clos_map _ (fun u_ => by exact trivial) tv, ?_⟩
  refine loop_indF (CpI tk sk tv sv) ?_ ?_ _ _ ⟨[], tk, [], tv, none, none, rfl, rfl, rfl, h2, rfl, rfl⟩
  · rintro st ⟨pk, rk, pv, rv, o1, o2, e1, e2, e3, e4, e5, rfl⟩
    obtain ⟨rfl, rfl⟩ := it_nil e4 e5
    rw [List.append_nil] at e1 e2
    subst e1 e2
    refine ⟨rfl, clos_map _ (fun u_ => by exact trivial) sv, ?_⟩
    refine loop_indF (MgI tk sk tv sv) ?_ ?_ _ _ ⟨tk, sk, tv, sv, o1, o2, h1, h2, h3, h4, rfl, rfl, rfl, rfl⟩
    · rintro st ⟨ck, rk, cv, rv, o1, o2, g1, g2, g3, g4, g5, g6, g7, rfl⟩
      obtain ⟨rfl, rfl⟩ := it_nil g3 g7
      simp only [mrgK, mrgV] at g5 g6
      subst g5 g6
      exact h
    · rintro x xs st F ⟨ck, rk, cv, rv, o1, o2, g1, g2, g3, g4, g5, g6, g7, rfl⟩ ih
      obtain ⟨kk, rk, v, rv, rfl, rfl, q3⟩ := it_cons g3 g7
      · · have fin : mrgK (addK ck kk) rk = mrgK tk sk ∧ mrgV (addK ck kk) (addV ck cv kk v) rk rv = mrgV tk tv sk sv := ⟨g5, g6⟩
          have l1 := addK_len ck kk
          simp only [List.length_cons] at g4
          refine ⟨_, .refl, rfl, ?_⟩
          k_go
          by_cases hk : kk ∈ ck
          · simp only [hk, decide_true]
            k_go
            simp only [wIsi]
            k_go
            obtain ⟨z, d1, d2⟩ := dget_SI g1 g2 hk
            simp only [d1]
            refine ⟨by omega, ih _ ⟨addK ck kk, rk, addV ck cv kk v, rv, some (.str kk), some (.int v), addK_nodup g1, addV_len g2, by omega, by omega, fin.1, fin.2, rfl, ?_⟩⟩
            simp [dkeys, dvals, addK, addV, hk, d2]
          · simp only [hk, decide_false]
            k_go
            refine ⟨by omega, ih _ ⟨addK ck kk, rk, addV ck cv kk v, rv, some (.str kk), some (.int v), addK_nodup g1, addV_len g2, by omega, by omega, fin.1, fin.2, rfl, ?_⟩⟩
            simp [dkeys, dvals, addK, addV, hk, SI]
  · rintro x xs st F ⟨pk, rk, pv, rv, o1, o2, e1, e2, e3, e4, e5, rfl⟩ ih
    obtain ⟨kk, rk, v, rv, rfl, rfl, q4⟩ := it_cons e4 e5
    · · have hkn : kk ∉ pk := fun hm => by
          rw [e1] at h1
          exact (List.nodup_append.mp h1).2.2 kk hm kk (.head _) rfl
        refine ⟨_, .refl, rfl, ?_⟩
        k_go
        have hlen : pk.length ≤ 100000 := by have := congrArg List.length e1; simp at this; omega
        refine ⟨hlen, ih _ ⟨pk ++ [kk], rk, pv ++ [v], rv, some (.str kk), some (.int v), by rw [e1]; simp, by rw [e2]; simp, by simp [e3], q4, rfl, ?_⟩⟩
        simp [dkeys, dvals, hkn, SI]
inductive wCallers (as : List SV) (k : SV → St → Prop) (st : St) : Prop
  | mk (tk sk : List Cs) (tz sz : List Int) (e : as = [.dict tk (SI tz), .dict sk (SI sz)]) (n : tk.Nodup) (h1 : tk.length = tz.length) (h2 : sk.length = sz.length) (h3 : tk.length + sk.length ≤ 1000)
    (h : k (.dict (mrgK tk sk) (SI (mrgV tk tz sk sz))) st) : wCallers as k st
theorem clos_SI (vs : List Int) : clos (SI vs) := clos_map _ (fun u_ => by exact trivial) vs
theorem c_callers {w : World} {hB : Heap} {c : Cx} (hc : 0 < c.ht) : CallOp w hB c (.ref 105) wCallers :=
  c_fn 0 (fnCallers w) (exCallers w hB).2 hc fun as k st hw => by
    obtain ⟨tk, sk, tz, sz, rfl, h1, h2, h3, h4, h⟩ := hw
    refine ⟨⟨clos_SI _, clos_SI _, trivial⟩, rfl, callers_spec w hB _ _ _ _ h1 h2 h3 h4 _ ⟨?_, h⟩⟩
    exact clos_SI _

noncomputable abbrev dsStats : List (Str × Bool) := [("target", false), ("source", false), ("cc", false), ("nc", false), ("tt", false), ("ct", false), ("callers", false), ("t_cc", false), ("t_nc", false), ("t_tt", false), ("t_ct", false), ("t_callers", false)]
noncomputable abbrev cxStats (A : Around) (L : Addr) : Cx := mkCx 1 0 "add_func_stats" (dScope (stm 5)) 98 (.ref 97) dsStats A L
theorem fnStats (w : World) : FnS w 98 (stm 5) "add_func_stats" (.ref 97) ["target", "source"] dsStats where
  k := by unfold FnK; kernel_rfl
  cd := by kernel_rfl
  bd := bind2 fun fd h1 h2 h3 a0 a1 => by unfold bindArgs; rw [h1, h2, h3]; rfl
  hs := by kernel_rfl
  nd := by decide +kernel
  chk := by decide +kernel

noncomputable def exStats (w : World) (hB : Heap) : { W : T AFl // ∀ A L, ExecsTo w hB (cxStats A L) (dBody (stm 5)) W } := ⟨_, fun A L =>
  exs_cons (ex_assign (ev_loc (i := 1) rfl) (as_tup (n := 5) rfl rfl rfl (tg_cons (as_loc (i := 2) rfl) (tg_cons (as_loc (i := 3) rfl) (tg_cons (as_loc (i := 4) rfl) (tg_cons (as_loc (i := 5) rfl) (tg_cons (as_loc (i := 6) rfl) tg_nil))))))) <|
  exs_cons (ex_assign (ev_loc (i := 0) rfl) (as_tup (n := 5) rfl rfl rfl (tg_cons (as_loc (i := 7) rfl) (tg_cons (as_loc (i := 8) rfl) (tg_cons (as_loc (i := 9) rfl) (tg_cons (as_loc (i := 10) rfl) (tg_cons (as_loc (i := 11) rfl) tg_nil))))))) <|
  ex_one (ex_ret (ev_tup (li_cons (ev_bin (ev_loc (i := 2) rfl) (ev_loc (i := 7) rfl) (o_addG false)) (li_cons (ev_bin (ev_loc (i := 3) rfl) (ev_loc (i := 8) rfl) (o_addG false)) (li_cons (ev_bin (ev_loc (i := 4) rfl) (ev_loc (i := 9) rfl) (o_addG false)) (li_cons (ev_bin (ev_loc (i := 5) rfl) (ev_loc (i := 10) rfl) (o_addG false)) (li_cons (ev_call (ev_glob rfl (gl_add_callers w)) (li_cons (ev_loc (i := 11) rfl) (li_cons (ev_loc (i := 6) rfl) li_nil)) (c_callers (by show 0 < 1; decide))) li_nil)))))))⟩


noncomputable def entV (a b c d : Int) (ks : List Cs) (vs : List Int) : SV := .tup [.int a, .int b, .int c, .int d, .dict ks (SI vs)]
inductive wStats (as : List SV) (k : SV → St → Prop) (st : St) : Prop
  | mk (a b c d a' b' c' d' : Int) (tk sk : List Cs) (tv sv : List Int) (e : as = [entV a b c d tk tv, entV a' b' c' d' sk sv]) (n : tk.Nodup) (h1 : tk.length = tv.length) (h2 : sk.length = sv.length) (h3 : tk.length + sk.length ≤ 1000)
    (h : k (entV (a' + a) (b' + b) (c' + c) (d' + d) (mrgK tk sk) (mrgV tk tv sk sv)) st) : wStats as k st
theorem stats_spec (w : World) (hB : Heap) (a b cc d a' b' c' d' : Int) (tk sk : List Cs) (tv sv : List Int) (h1 : tk.Nodup) (h2 : tk.length = tv.length) (h3 : sk.length = sv.length) (h4 : tk.length + sk.length ≤ 1000) (k : SV → List SO → Prop)
    (h : k (entV (a' + a) (b' + b) (c' + cc) (d' + d) (mrgK tk sk) (mrgV tk tv sk sv)) []) : (exStats w hB).1 (retK k) ⟨initLoc [entV a b cc d tk tv, entV a' b' c' d' sk sv] 12, []⟩ := by
  refine ⟨rfl, ?_⟩
  simp only [wTgC, wSet, St.setL, initLoc, List.map, List.replicate, List.length, List.append, List.cons_append, List.nil_append, List.set, Nat.reduceAdd, Nat.reduceSub]
  refine ⟨trivial, rfl, ?_⟩
  simp only [wTgC, wSet, St.setL, List.set]
  refine ⟨trivial, ?_⟩
  refine ⟨tk, sk, tv, sv, rfl, h1, h2, h3, h4, ?_⟩
  refine ⟨by simp, h⟩
theorem c_stats {w : World} {hB : Heap} {c : Cx} (hc : 1 < c.ht) : CallOp w hB c (.ref 98) wStats :=
  c_fn 1 (fnStats w) (exStats w hB).2 hc fun as k st hw => by
    obtain ⟨a, b, cc, d, a', b', c', d', tk, sk, tv, sv, rfl, h1, h2, h3, h4, h⟩ := hw
    refine ⟨⟨⟨trivial, trivial, trivial, trivial, clos_SI _, trivial⟩, ⟨trivial, trivial, trivial, trivial, clos_SI _, trivial⟩, trivial⟩, rfl, stats_spec w hB _ _ _ _ _ _ _ _ _ _ _ _ h1 h2 h3 h4 _ ⟨?_, h⟩⟩
    exact ⟨trivial, trivial, trivial, trivial, clos_SI _, trivial⟩
section
variable {w : World} {hB : Heap} {c : Cx}
structure MkK (w : World) (C fI : Addr) : Prop where
  makes : makesIn (KF w) C = true
  init : findIn (KF w) (.ref C) "__init__" = some (some (.ref fI))
  fn : typeIn (KF w) (.ref fI) = some (.type "function")
theorem emptyAttr : AttrO emptyDict [] := ⟨#[], 0, rfl, fun e h => by simp at h, List.Pairwise.nil, fun x => rfl⟩
noncomputable def wMakeP (C : Addr) (W : T AFl) (m n : Nat) : List SV → T SV := fun as k st => clos as ∧ as.length + 1 = m ∧
  W (retK fun sv hp => sv = .none ∧ (match hget hp 0 with | some (.attrs ks vs) => clos vs ∧ k (.inst C ks vs) st | _ => False)) ⟨initLoc (.iobj C 0 :: as) n, [.attrs [] []]⟩
theorem rel0_inst {st : St} {al : List Addr} {Z : Led} {s : Shared} (R : SRel w hB c st al Z s) (C : Addr) : Rel0 w hB [.attrs [] []] [s.heap.objs.size] ((s.heap.objs.size + 1, instObj C s.heap.objs.size) :: Z) { s with heap := (s.heap.push emptyDict).push (instObj C s.heap.objs.size) } := by
  have keep : ∀ b o, s.heap.get? b = some o → ((s.heap.push emptyDict).push (instObj C s.heap.objs.size)).get? b = some o := fun b o e => Heap.get?_push_of_some _ (Heap.get?_push_of_some _ e)
  have hx : ((s.heap.push emptyDict).push (instObj C s.heap.objs.size)).get? (s.heap.objs.size + 1) = some (instObj C s.heap.objs.size) := by
    have := Heap.get?_push_size (s.heap.push emptyDict) (o := instObj C s.heap.objs.size) rfl
    rw [Heap.size_push] at this
    exact this
  have hd : ((s.heap.push emptyDict).push (instObj C s.heap.objs.size)).get? s.heap.objs.size = some emptyDict := Heap.get?_push_of_some _ (Heap.get?_push_size _ rfl)
  have F := R.toRel0.fresh
  have tl : (tbA : Nat) < s.heap.objs.size := by obtain ⟨ps, e, _⟩ := R.tab; exact Heap.lt_size e
  refine ⟨R.grd, fun b o e => keep b o (R.base b o e), ?_, rfl, fun i so a e1 e2 => ?_, fun p hp => ?_, fun a ha => ?_, by simp, fun p hp => ?_, fun a ha => ?_, fun p hp hc => ?_⟩
  · obtain ⟨ps, e, t⟩ := R.tab; exact ⟨ps, keep _ _ e, t.mono (fun u_ h => .tail _ h)⟩
  · cases i with
    | zero => simp at e1 e2; subst e1 e2; exact ⟨_, hd, [], emptyAttr, rfl, by exact Eq.refl _⟩
    | succ i => simp at e1
  · cases hp with
    | head => exact hx
    | tail w1_ hp => exact keep _ _ (R.frz p hp)
  · simp at ha; subst ha; exact ⟨F.1, F.2.2.2⟩
  · cases hp with
    | head => exact ⟨by simp, Nat.ne_of_gt (Nat.lt_succ_of_lt tl)⟩
    | tail w1_ hp => exact ⟨by simp; exact F.2.2.1 p hp, (R.zap p hp).2⟩
  · simp at ha; subst ha; exact R.toRel0.fresh_mod
  · cases hp with
    | head => exact absurd hc (by simp)
    | tail w1_ hp => exact R.nomod.2 p hp hc
set_option tactic.hygienic true in
theorem make_pure {C fI : Addr} {body : List PySem.Stmt} {scope : Scope} {qual : Str} {cdv : Value} {names : List Str} {n ht : Nat} {mk : Around → Addr → Cx} {W : T AFl} (M : MkK w C fI) (FI : FnIs w hB fI body scope qual cdv names) (CI : CxIs scope qual fI cdv names n ht 1 mk)
    (hb : ∀ A L, ExecsTo w hB (mk A L) body W) (hc : ht < c.ht) : CallOp w hB c (.ref C) (wMakeP C W names.length n) := by
  intro st al Z s k as vs R r ⟨h1, h2, hw⟩
  have X : (KF w).In s.heap := R.grd.X.keeps R.base
  have Y := makes_of (M := model P w) X M.makes
  refine ⟨fun hq => keep_cls Y (hq _ (.inr rfl)), wpAny_call ?_⟩
  have d := R.ok.depth
  have u := R.ok.units
  have R0 := rel0_inst R C
  have hv : VRs w ((s.heap.objs.size + 1, instObj C s.heap.objs.size) :: Z) [s.heap.objs.size] (.iobj C 0 :: as) (.ref (s.heap.objs.size + 1) :: vs) := by
    exact ⟨_, _, rfl, by exact ⟨_, _, rfl, .head _, rfl⟩, (r.clo (al' := [s.heap.objs.size]) h1).mono (fun u_ h => .tail _ h) (List.prefix_refl _)⟩
  have G := call_gen (A := c.A.under (.builtin "type.__call__" ⟨.ref C :: vs, []⟩)) FI CI hb R.ok.hand (by show c.A.depth + 1 + 1 + 2 * ht ≤ 600; omega) (by show c.A.units + 1 + 3 + 10 * ht + 200 ≤ cLine; omega) R0 hv (by simpa using h2) rfl hw
  obtain ⟨h, g, dd, t, os⟩ := s
  refine make_core Y (looks_findIn X M.init) (fun self => bind_fn X self M.fn) (.inl rfl) (codeAny_mono G fun res s' hr => ?_)
  obtain ⟨v, sv, hp', al', Z', rfl, p, rv, rfl, hk⟩ := hr
  cases (rv : _ = _)
  refine ⟨rfl, ?_⟩
  split at hk
  · rename_i ks us e
    have keep1 : ∀ b o, h.get? b = some o → ((h.push emptyDict).push (instObj C h.objs.size)).get? b = some o := fun b o e => Heap.get?_push_of_some _ (Heap.get?_push_of_some _ e)
    have dxn : h.get? h.objs.size = none := get?_size_none _
    have xn : h.get? (h.objs.size + 1) = none := by
      cases q : h.get? (h.objs.size + 1) with
      | none => rfl
      | some o => exact absurd (Heap.lt_size q) (Nat.not_lt.mpr (Nat.le_succ _))
    have none1 : ∀ b, ((h.push emptyDict).push (instObj C h.objs.size)).get? b = none → h.get? b = none := fun b q => by
      cases e' : h.get? b with
      | none => rfl
      | some o => rw [keep1 _ _ e'] at q; cases q
    have p0 : Post0 w hB [] Z ⟨h, g, dd, t, os⟩ hp' al' Z' s' := {
      rel := p.rel
      pre := List.nil_prefix
      sub := fun q hq => p.sub q (.tail _ hq)
      frame := fun b o e hn ht => p.frame b o (keep1 b o e) (fun hm => by
        have : b = h.objs.size := by simpa using hm
        rw [this] at e
        have e' : h.get? h.objs.size = some o := e
        rw [dxn] at e'; cases e') ht
      fresh := fun a ha => .inr (by
        rcases p.fresh a ha with q | q
        · have : a = h.objs.size := by simpa using q
          rw [this]; exact dxn
        · exact none1 a q)
      zfresh := fun q hq => by
        rcases p.zfresh q hq with r' | r'
        · cases r' with
          | head => exact .inr xn
          | tail w1_ r' => exact .inl r'
        · exact .inr (none1 _ r')
      gens := p.gens
      os := p.os }
    have h0 : al'[0]? = some h.objs.size := pre_get p.pre rfl
    exact frz_ret (sv := .iobj C 0) R p0 (by exact ⟨_, _, rfl, p.sub _ (.head _), h0⟩) (by simp only [frzv, e, clo]; exact hk.1) (by simp only [frzv, e]; exact hk.2)
  · exact hk.elim
theorem c_make {C fI : Addr} {d : PySem.Stmt} {qual : Str} {cdv : Value} {names : List Str} {desc : List (Str × Bool)} {W : T AFl} (ht : Nat) (M : MkK w C fI) (F : FnS w fI d qual cdv names desc) (hb : ∀ A L, ExecsTo w hB (mkCx ht 1 qual (dScope d) fI cdv desc A L) (dBody d) W) (hc : ht < c.ht)
    {wo : List SV → T SV} (hi : ∀ as k st, wo as k st → wMakeP C W names.length desc.length as k st) : CallOp w hB c (.ref C) wo :=
  fun st al Z s k as vs R r hw => make_pure M (fnIs_of R.grd F.k F.cd F.bd F.hs F.nd) (cxIs_of ht 1 F.chk) hb hc st al Z s k as vs R r (hi as k st hw)
theorem mk_tc (w : World) : MkK w 87 77 := ⟨by kernel_rfl, by kernel_rfl, by kernel_rfl⟩
theorem mk_ws (w : World) : MkK w 167 122 := ⟨by kernel_rfl, by kernel_rfl, by kernel_rfl⟩
theorem mk_lex (w : World) : MkK w 59 35 := ⟨by kernel_rfl, by kernel_rfl, by kernel_rfl⟩
end

noncomputable abbrev dsTcInit : List (Str × Bool) := [("self", false), ("comp_select_list", false)]
noncomputable abbrev cxTcInit (A : Around) (L : Addr) : Cx := mkCx 0 1 "TupleComp.__init__" (dScope (nest (stm 4) 0)) 77 (.ref 76) dsTcInit A L
theorem fnTcInit (w : World) : FnS w 77 (nest (stm 4) 0) "TupleComp.__init__" (.ref 76) ["self", "comp_select_list"] dsTcInit where
  k := by unfold FnK; kernel_rfl
  cd := by kernel_rfl
  bd := bind2 fun fd h1 h2 h3 a0 a1 => by unfold bindArgs; rw [h1, h2, h3]; rfl
  hs := by kernel_rfl
  nd := by decide +kernel
  chk := by decide +kernel

noncomputable def exTcInit (w : World) (hB : Heap) : { W : T AFl // ∀ A L, ExecsTo w hB (cxTcInit A L) (dBody (nest (stm 4) 0)) W } := ⟨_, fun A L =>
  ex_one (ex_assign (ev_loc (i := 1) rfl) (as_attr (ev_loc (i := 0) rfl) (o_setAttr (C := 87) (chk := []) (i := 0) (ck_tc w) (by kernel_rfl) (.inr ⟨by decide +kernel, rfl⟩))))⟩

noncomputable abbrev dsCompare : List (Str × Bool) := [("self", false), ("left", false), ("right", false), ("index", false), ("direction", false), ("l", false), ("r", false)]
noncomputable abbrev cxCompare (A : Around) (L : Addr) : Cx := mkCx 0 0 "TupleComp.compare" (dScope (nest (stm 4) 1)) 84 (.ref 83) dsCompare A L
theorem fnCompare (w : World) : FnS w 84 (nest (stm 4) 1) "TupleComp.compare" (.ref 83) ["self", "left", "right"] dsCompare where
  k := by unfold FnK; kernel_rfl
  cd := by kernel_rfl
  bd := bind3 fun fd h1 h2 h3 a0 a1 a2 => by unfold bindArgs; rw [h1, h2, h3]; rfl
  hs := by kernel_rfl
  nd := by decide +kernel
  chk := by decide +kernel

noncomputable def exCompare (w : World) (hB : Heap) : { W : T AFl // ∀ A L, ExecsTo w hB (cxCompare A L) (dBody (nest (stm 4) 1)) W } := ⟨_, fun A L =>
  exs_cons (ex_for rfl (ev_attr (ev_loc (i := 0) rfl) (o_attr (C := 87) (chk := ["comp_select_list"]) (i := 0) (ck_tc w) (by kernel_rfl) (by decide +kernel) true)) it_gen (as_tup (n := 2) rfl rfl rfl (tg_cons (as_loc (i := 3) rfl) (tg_cons (as_loc (i := 4) rfl) tg_nil)))
  (exs_cons (ex_assign (ev_sub (ev_loc (i := 1) rfl) (ev_loc (i := 3) rfl) g_any) (as_loc (i := 5) rfl)) <|
    exs_cons (ex_assign (ev_sub (ev_loc (i := 2) rfl) (ev_loc (i := 3) rfl) g_any) (as_loc (i := 6) rfl)) <|
    exs_cons (ex_if (te_cmp (ev_loc (i := 5) rfl) (ev_loc (i := 6) rfl) o_ltP)
    (ex_one (ex_ret (ev_un (ev_loc (i := 4) rfl) o_neg)))
    (exs_nil)) <|
    ex_one (ex_if (te_cmp (ev_loc (i := 5) rfl) (ev_loc (i := 6) rfl) o_gtP)
    (ex_one (ex_ret (ev_loc (i := 4) rfl)))
    (exs_nil)))) <|
  ex_one (ex_ret ev_int)⟩


noncomputable def wTc : List SV → T SV := fun as k st => args1 as fun v => clo v ∧ k (.inst 87 ["comp_select_list"] [v]) st
theorem c_tc {w : World} {hB : Heap} {c : Cx} (hc : 0 < c.ht) : CallOp w hB c (.ref 87) wTc :=
  c_make 0 (mk_tc w) (fnTcInit w) (exTcInit w hB).2 hc fun as k st hw => by
    obtain ⟨a, rfl, hw⟩ := args1.g hw
    exact ⟨by simp only [clos]; exact ⟨hw.1, trivial⟩, rfl, rfl, rfl, rfl, by decide, rfl, ⟨hw.1, trivial⟩, hw.2⟩
noncomputable def cmpN (d a b : Int) (x y : Cs) : Int := if a < b then -1 else if b < a then 1 else if x < y then -d else if y < x then d else 0
noncomputable def tcV (d : Int) : SV := .inst 87 ["comp_select_list"] [.list [.tup [.int 0, .int 1], .tup [.int 1, .int d]]]
inductive wCompare (as : List SV) (k : SV → St → Prop) (st : St) : Prop
  | mk (d a b : Int) (x y : Cs) (u v : SV) (e : as = [tcV d, .tup [.int a, .str x, u], .tup [.int b, .str y, v]]) (hu : clo u) (hv : clo v) (h : k (.int (cmpN d a b x y)) st) : wCompare as k st
theorem compare_spec (w : World) (hB : Heap) (d a b : Int) (x y : Cs) (u v : SV) (k : SV → List SO → Prop) (h : k (.int (cmpN d a b x y)) []) :
    (exCompare w hB).1 (retK k) ⟨initLoc [tcV d, .tup [.int a, .str x, u], .tup [.int b, .str y, v]] 7, []⟩ := by
  refine ⟨rfl, rfl, trivial, by simp [clos, clo], ?_⟩
  refine ⟨_, .refl, rfl, ?_⟩
  k_go
  refine ⟨by decide, by decide, ?_⟩
  unfold cmpN at h
  by_cases h1 : a < b
  · simp only [h1, if_true] at h
    simp only [h1, decide_true]
    k_go
    exact h
  · simp only [h1, if_false] at h
    by_cases h2 : b < a
    · simp only [h2, if_true] at h
      simp only [h1, decide_false]
      k_go
      simp only [h2, decide_true]
      k_go
      exact h
    · simp only [h2, if_false] at h
      simp only [h1, decide_false]
      k_go
      simp only [h2, decide_false]
      k_go
      refine ⟨_, .refl, rfl, ?_⟩
      k_go
      refine ⟨by decide, by decide, ?_⟩
      by_cases h3 : x < y
      · simp only [h3, if_true] at h
        simp only [h3, decide_true]
        k_go
        exact h
      · simp only [h3, if_false] at h
        by_cases h4 : y < x
        · simp only [h4, if_true] at h
          simp only [h3, decide_false]
          k_go
          simp only [h4, decide_true]
          k_go
          exact h
        · simp only [h4, if_false] at h
          simp only [h3, decide_false]
          k_go
          simp only [h4, decide_false]
          k_go
          exact h
theorem c_compare {w : World} {hB : Heap} {c : Cx} (hc : 0 < c.ht) : CallOp w hB c (.ref 84) wCompare :=
  c_fn 0 (fnCompare w) (exCompare w hB).2 hc fun as k st hw => by
    obtain ⟨d, a, b, x, y, u, v, rfl, hu, hv, h⟩ := hw
    exact ⟨by simp [clos, clo, tcV, hu, hv], rfl, compare_spec w hB d a b x y u v _ ⟨trivial, h⟩⟩

mutual
noncomputable def bnd (n : Nat) : SV → Prop
  | .tup vs => bnds n vs
  | .list vs => bnds n vs
  | .dict w1_ vs => bnds n vs
  | .inst w1_ w2_ vs => bnds n vs
  | .view w1_ w2_ vs => bnds n vs
  | .meth w1_ v => bnd n v
  | .rdr i w1_ => i < n
  | .obj i => i < n
  | .iobj w1_ i => i < n
  | .none => True
  | .bool w1_ => True
  | .int w1_ => True
  | .str w1_ => True
  | .gl w1_ => True
  | .rng w1_ w2_ => True
noncomputable def bnds (n : Nat) : List SV → Prop
  | [] => True
  | v :: vs => bnd n v ∧ bnds n vs
end
noncomputable def bndO (n : Nat) : SO → Prop
  | .list vs => bnds n vs
  | .dict w1_ vs => bnds n vs
  | .attrs w1_ vs => bnds n vs
  | .citer f e => bnd n f ∧ bnd n e
  | .gone => True
theorem lt_of_get {al : List Addr} {i : Nat} {a : Addr} (h : al[i]? = some a) : i < al.length := by
  rcases Nat.lt_or_ge i al.length with q | q
  · exact q
  · rw [List.getElem?_eq_none q] at h; cases h
section
variable {w : World} {Z : Led} {al : List Addr}
mutual
theorem VR.bnd : ∀ {sv : SV} {v : Value}, VR w Z al sv v → bnd al.length sv
  | .none, w1_, h => trivial
  | .bool w1_, w2_, h => trivial
  | .int w1_, w2_, h => trivial
  | .str w1_, w2_, h => trivial
  | .gl w1_, w2_, h => trivial
  | .rng w1_ w2_, w3_, h => trivial
  | .tup vs, w1_, h => by
    obtain ⟨a, o, xs, e, m, q, r⟩ := h
    exact VRs.bnds r
  | .list vs, w1_, h => by
    obtain ⟨a, o, xs, e, m, q, r⟩ := h
    exact VRs.bnds r
  | .dict ks vs, w1_, h => by
    obtain ⟨a, o, kvs, e, m, q, q2, r⟩ := h
    exact VRs.bnds r
  | .inst C ks vs, w1_, h => by
    obtain ⟨x, dx, o, kvs, e, m, m2, q, q2, r⟩ := h
    exact VRs.bnds r
  | .obj i, w1_, h => by
    obtain ⟨a, e, r⟩ := h
    exact lt_of_get e
  | .iobj C i, w1_, h => by
    obtain ⟨x, dx, e, m, r⟩ := h
    exact lt_of_get r
  | .view n ks vs, w1_, h => by
    obtain ⟨a, d, o, kvs, e, m, m2, q, q2, r⟩ := h
    exact VRs.bnds r
  | .meth f sv, w1_, h => by
    obtain ⟨a, u, e, m, r⟩ := h
    show Mine.Internal.bnd al.length sv
    exact VR.bnd r
  | .rdr i x, w1_, h => by
    obtain ⟨a, la, e, m, r⟩ := h
    exact lt_of_get r
theorem VRs.bnds : ∀ {ss : List SV} {xs : List Value}, VRs w Z al ss xs → bnds al.length ss
  | [], w1_, w2_ => trivial
  | s :: ss, w1_, h => by
    obtain ⟨v, r, e, h1, h2⟩ := h
    exact ⟨VR.bnd h1, VRs.bnds h2⟩
end
theorem OR.bnd {so : SO} {o : Obj} (h : OR w Z al so o) : bndO al.length so := by
  cases so with
  | list vs => obtain ⟨xs, a, b⟩ := h; exact b.bnds
  | dict ks vs => obtain ⟨kvs, a, b, c⟩ := h; exact c.bnds
  | attrs ks vs => obtain ⟨kvs, a, b, c⟩ := h; exact c.bnds
  | citer f e => obtain ⟨vf, ve, a, b, c⟩ := h; exact ⟨b.bnd, c.bnd⟩
  | gone => trivial
theorem take_get {n i : Nat} {a : Addr} (hi : i < n) (h : al[i]? = some a) : (al.take n)[i]? = some a := by
  rw [List.getElem?_take, if_pos hi]; exact h
mutual
theorem VR.cut {n : Nat} : ∀ {sv : SV} {v : Value}, Mine.Internal.bnd n sv → VR w Z al sv v → VR w Z (al.take n) sv v
  | .none, w1_, w2_, h => h
  | .bool w1_, w2_, w3_, h => h
  | .int w1_, w2_, w3_, h => h
  | .str w1_, w2_, w3_, h => h
  | .gl w1_, w2_, w3_, h => h
  | .rng w1_ w2_, w3_, w4_, h => h
  | .tup vs, w1_, hc, h => by
    obtain ⟨a, o, xs, e, m, q, r⟩ := h
    exact ⟨a, o, xs, e, m, q, VRs.cut hc r⟩
  | .list vs, w1_, hc, h => by
    obtain ⟨a, o, xs, e, m, q, r⟩ := h
    exact ⟨a, o, xs, e, m, q, VRs.cut hc r⟩
  | .dict ks vs, w1_, hc, h => by
    obtain ⟨a, o, kvs, e, m, q, q2, r⟩ := h
    exact ⟨a, o, kvs, e, m, q, q2, VRs.cut hc r⟩
  | .inst C ks vs, w1_, hc, h => by
    obtain ⟨x, dx, o, kvs, e, m, m2, q, q2, r⟩ := h
    exact ⟨x, dx, o, kvs, e, m, m2, q, q2, VRs.cut hc r⟩
  | .obj i, w1_, hc, h => by
    obtain ⟨a, e, r⟩ := h
    exact ⟨a, take_get hc e, r⟩
  | .iobj C i, w1_, hc, h => by
    obtain ⟨x, dx, e, m, r⟩ := h
    exact ⟨x, dx, e, m, take_get hc r⟩
  | .view n' ks vs, w1_, hc, h => by
    obtain ⟨a, d, o, kvs, e, m, m2, q, q2, r⟩ := h
    exact ⟨a, d, o, kvs, e, m, m2, q, q2, VRs.cut hc r⟩
  | .meth f sv, w1_, hc, h => by
    obtain ⟨a, u, e, m, r⟩ := h
    exact ⟨a, u, e, m, VR.cut hc r⟩
  | .rdr i x, w1_, hc, h => by
    obtain ⟨a, la, e, m, r⟩ := h
    exact ⟨a, la, e, m, take_get hc r⟩
theorem VRs.cut {n : Nat} : ∀ {ss : List SV} {xs : List Value}, Mine.Internal.bnds n ss → VRs w Z al ss xs → VRs w Z (al.take n) ss xs
  | [], w1_, w2_, h => h
  | s :: ss, w1_, hc, h => by
    obtain ⟨v, r, e, h1, h2⟩ := h
    exact ⟨v, r, e, VR.cut hc.1 h1, VRs.cut hc.2 h2⟩
end
theorem OR.cut {n : Nat} {so : SO} {o : Obj} (hb : bndO n so) (h : OR w Z al so o) : OR w Z (al.take n) so o := by
  cases so with
  | list vs => obtain ⟨xs, a, b⟩ := h; exact ⟨xs, a, b.cut hb⟩
  | dict ks vs => obtain ⟨kvs, a, b, c⟩ := h; exact ⟨kvs, a, b, c.cut hb⟩
  | attrs ks vs => obtain ⟨kvs, a, b, c⟩ := h; exact ⟨kvs, a, b, c.cut hb⟩
  | citer f e => obtain ⟨vf, ve, a, b, c⟩ := h; exact ⟨vf, ve, a, b.cut hb.1, c.cut hb.2⟩
  | gone => trivial
set_option tactic.hygienic true in
theorem Rel0.cut {hB : Heap} {hp : List SO} {s : Shared} (R : Rel0 w hB hp al Z s) (n : Nat) (hb : ∀ i so, i < n → hp[i]? = some so → bndO n so) : Rel0 w hB (hp.take n) (al.take n) Z s where
  grd := R.grd
  base := R.base
  tab := R.tab
  len := by rw [List.length_take, List.length_take, R.len]
  live := fun i so a h1 h2 => by
    rw [List.getElem?_take] at h1 h2
    split at h1
    · rename_i hi
      rw [if_pos hi] at h2
      obtain ⟨o, ho, r⟩ := R.live i so a h1 h2
      exact ⟨o, ho, r.cut (hb i so hi h1)⟩
    · cases h1
  frz := R.frz
  new := fun a ha => R.new a (List.mem_of_mem_take ha)
  nodup := R.nodup.sublist (List.take_sublist _ _)
  zap := fun p hp => ⟨fun hm => (R.zap p hp).1 (List.mem_of_mem_take hm), (R.zap p hp).2⟩
  nomod := ⟨fun a ha => R.nomod.1 a (List.mem_of_mem_take ha), R.nomod.2⟩
theorem Post0.cut {hB : Heap} {s s' : Shared} {hp' : List SO} {al' : List Addr} {Z' : Led} (p : Post0 w hB al Z s hp' al' Z' s') (hb : ∀ i so, i < al.length → hp'[i]? = some so → bndO al.length so) : al'.take al.length = al ∧ Post0 w hB al Z s (hp'.take al.length) al Z' s' := by
  obtain ⟨t, rfl⟩ := p.pre
  have e : (al ++ t).take al.length = al := by simp
  refine ⟨e, { rel := ?_, pre := List.prefix_refl _, sub := p.sub, frame := p.frame, fresh := fun a h => .inl h, zfresh := p.zfresh, gens := p.gens, os := p.os }⟩
  have := p.rel.cut al.length hb
  rwa [e] at this
end

section
variable {w : World} {hB : Heap} {c : Cx}
noncomputable def wLive (W : Nat → T AFl) (m n : Nat) : List SV → T SV := fun as k st => as.length = m ∧ W st.heap.length (retK fun sv hp => bnd st.heap.length sv ∧ (∀ i so, i < st.heap.length → hp[i]? = some so → st.heap[i]? = some so ∨ bndO st.heap.length so) ∧ k sv ⟨st.loc, hp.take st.heap.length⟩) ⟨initLoc as n, st.heap⟩
theorem live_code {fa : Addr} {body : List PySem.Stmt} {scope : Scope} {qual : Str} {cdv : Value} {names : List Str} {n ht : Nat} {mk : Nat → Around → Addr → Cx} {W : Nat → T AFl} (FI : FnIs w hB fa body scope qual cdv names) (CI : ∀ pn, CxIs scope qual fa cdv names n ht pn (mk pn))
    (hb : ∀ pn A L, ExecsTo w hB (mk pn A L) body (W pn)) {A : Around} (hh : A.handled = none) (hd : A.depth + 1 + 2 * ht ≤ 600) (hu : A.units + 3 + 10 * ht + 200 ≤ cLine)
    {st : St} {al : List Addr} {Z : Led} {s : Shared} {as : List SV} {vals : List Value} {k : SV → St → Prop} (R : SRel w hB c st al Z s) (hv : VRs w Z al as vals) (hw : wLive W names.length n as k st) :
    codeAny (model P w) A (.call (.ref fa) ⟨vals, []⟩) (fun r s' => ∃ v, r = .ok (.ret v) ∧ Ret w hB c al Z s (VR w) k v s') s := by
  obtain ⟨hlen, hw⟩ := hw
  refine codeAny_mono (call_gen FI (CI st.heap.length) (hb st.heap.length) hh hd hu R.toRel0 hv hlen rfl hw) fun r s' h => ?_
  obtain ⟨v, sv, hp', al', Z', rfl, p, rv, hbv, hbo, hk⟩ := h
  have hbo' : ∀ i so, i < al.length → hp'[i]? = some so → bndO al.length so := fun i so hi e => by
    rw [R.len] at hi ⊢
    rcases hbo i so hi e with h | h
    · rw [← R.len] at hi ⊢
      obtain ⟨o, _, r⟩ := R.live i so al[i] h (List.getElem?_eq_getElem hi)
      exact r.bnd
    · exact h
  obtain ⟨e, p'⟩ := p.cut hbo'
  rw [← R.len] at hbv hk
  refine ⟨v, rfl, Ret.mk (Post.ofGen R p') ?_ hk⟩
  have := VR.cut hbv rv
  rwa [e] at this
theorem c_liveG {fa : Addr} {body : List PySem.Stmt} {scope : Scope} {qual : Str} {cdv : Value} {names : List Str} {n ht : Nat} {mk : Nat → Around → Addr → Cx} {W : Nat → T AFl} (FI : FnIs w hB fa body scope qual cdv names) (CI : ∀ pn, CxIs scope qual fa cdv names n ht pn (mk pn))
    (hb : ∀ pn A L, ExecsTo w hB (mk pn A L) body (W pn)) (hc : ht < c.ht) : CallOp w hB c (.ref fa) (wLive W names.length n) := by
  intro st al Z s k as vs R r hw
  obtain ⟨o, fd, ho, hdt, _⟩ := FI.fn
  refine ⟨fun hq => keep_fn (R.base _ _ ho) hdt (hq _ (.inl rfl)), ?_⟩
  have d := R.ok.depth
  have u := R.ok.units
  refine wpAny_call (codeAny_mono (live_code FI CI hb R.ok.hand (by omega) (by omega) R r hw) fun res s' h => ?_)
  obtain ⟨v, rfl, h⟩ := h
  exact h
theorem c_live {fa : Addr} {d : PySem.Stmt} {qual : Str} {cdv : Value} {names : List Str} {desc : List (Str × Bool)} {W : Nat → T AFl} (ht : Nat) (F : FnS w fa d qual cdv names desc) (hb : ∀ pn A L, ExecsTo w hB (mkCx ht pn qual (dScope d) fa cdv desc A L) (dBody d) (W pn)) (hc : ht < c.ht)
    {wo : List SV → T SV} (hi : ∀ as k st, wo as k st → wLive W names.length desc.length as k st) : CallOp w hB c (.ref fa) wo :=
  fun st al Z s k as vs R r hw => c_liveG (fnIs_of R.grd F.k F.cd F.bd F.hs F.nd) (fun pn => cxIs_of ht pn F.chk) hb hc st al Z s k as vs R r (hi as k st hw)

noncomputable def wMakeL (C : Addr) (W : Nat → T AFl) (m n : Nat) : List SV → T SV := fun as k st => as.length + 1 = m ∧
  W (st.heap.length + 1) (retK fun sv hp => sv = .none ∧ k (.iobj C st.heap.length) ⟨st.loc, hp⟩) ⟨initLoc (.iobj C st.heap.length :: as) n, st.heap ++ [.attrs [] []]⟩
theorem rel0_instL {st : St} {al : List Addr} {Z : Led} {s : Shared} (R : SRel w hB c st al Z s) (C : Addr) : Rel0 w hB (st.heap ++ [.attrs [] []]) (al ++ [s.heap.objs.size]) ((s.heap.objs.size + 1, instObj C s.heap.objs.size) :: Z) { s with heap := (s.heap.push emptyDict).push (instObj C s.heap.objs.size) } := by
  have keep : ∀ b o, s.heap.get? b = some o → ((s.heap.push emptyDict).push (instObj C s.heap.objs.size)).get? b = some o := fun b o e => Heap.get?_push_of_some _ (Heap.get?_push_of_some _ e)
  have hx : ((s.heap.push emptyDict).push (instObj C s.heap.objs.size)).get? (s.heap.objs.size + 1) = some (instObj C s.heap.objs.size) := by
    have := Heap.get?_push_size (s.heap.push emptyDict) (o := instObj C s.heap.objs.size) rfl
    rw [Heap.size_push] at this
    exact this
  have hd : ((s.heap.push emptyDict).push (instObj C s.heap.objs.size)).get? s.heap.objs.size = some emptyDict := Heap.get?_push_of_some _ (Heap.get?_push_size _ rfl)
  have F := R.toRel0.fresh
  have tl : (tbA : Nat) < s.heap.objs.size := by obtain ⟨ps, e, _⟩ := R.tab; exact Heap.lt_size e
  have all : ∀ a ∈ al, a < s.heap.objs.size := fun a ha => by
    obtain ⟨i, hi⟩ := List.getElem?_of_mem ha
    have hl : i < st.heap.length := by rw [← R.len]; exact lt_of_get hi
    obtain ⟨o, ho, _⟩ := R.live i st.heap[i] _ (List.getElem?_eq_getElem hl) hi
    exact Heap.lt_size ho
  refine ⟨R.grd, fun b o e => keep b o (R.base b o e), ?_, by simp [R.len], fun i so a e1 e2 => ?_, fun p hp => ?_, fun a ha => ?_, ?_, fun p hp => ?_, fun a ha => ?_, fun p hp hc => ?_⟩
  · obtain ⟨ps, e, t⟩ := R.tab; exact ⟨ps, keep _ _ e, t.mono (fun u_ h => .tail _ h)⟩
  · rcases Nat.lt_or_ge i st.heap.length with hi | hi
    · rw [List.getElem?_append_left hi] at e1
      rw [List.getElem?_append_left (by rw [R.len]; exact hi)] at e2
      obtain ⟨o, ho, r⟩ := R.live i so a e1 e2
      exact ⟨o, keep _ _ ho, r.mono (fun u_ h => .tail _ h) (List.prefix_append _ _)⟩
    · rw [List.getElem?_append_right hi] at e1
      rw [List.getElem?_append_right (by rw [R.len]; exact hi), R.len] at e2
      cases q : i - st.heap.length with
      | zero =>
        rw [q] at e1 e2
        simp at e1 e2; subst e1 e2
        exact ⟨_, hd, [], emptyAttr, rfl, by exact Eq.refl _⟩
      | succ i => rw [q] at e1; simp at e1
  · cases hp with
    | head => exact hx
    | tail w1_ hp => exact keep _ _ (R.frz p hp)
  · rcases List.mem_append.mp ha with ha | ha
    · exact R.new a ha
    · simp at ha; subst ha; exact ⟨F.1, F.2.2.2⟩
  · rw [List.nodup_append]
    exact ⟨R.nodup, by simp, fun a ha b hb e => by simp at hb; subst hb; exact absurd (all a ha) (by rw [e]; exact Nat.lt_irrefl _)⟩
  · cases hp with
    | head => exact ⟨fun hm => by
        rcases List.mem_append.mp hm with hm | hm
        · have : s.heap.objs.size + 1 < s.heap.objs.size := all _ hm
          omega
        · have : s.heap.objs.size + 1 = s.heap.objs.size := by simpa using hm
          omega, Nat.ne_of_gt (Nat.lt_succ_of_lt tl)⟩
    | tail w1_ hp => exact ⟨fun hm => by
        rcases List.mem_append.mp hm with hm | hm
        · exact (R.zap p hp).1 hm
        · simp at hm; exact F.2.2.1 p hp hm, (R.zap p hp).2⟩
  · rcases List.mem_append.mp ha with ha | ha
    · exact R.nomod.1 a ha
    · simp at ha; subst ha; exact R.toRel0.fresh_mod
  · cases hp with
    | head => exact absurd hc (by simp)
    | tail w1_ hp => exact R.nomod.2 p hp hc
theorem make_live {C fI : Addr} {body : List PySem.Stmt} {scope : Scope} {qual : Str} {cdv : Value} {names : List Str} {n ht : Nat} {mk : Nat → Around → Addr → Cx} {W : Nat → T AFl} (M : MkK w C fI) (FI : FnIs w hB fI body scope qual cdv names) (CI : ∀ pn, CxIs scope qual fI cdv names n ht pn (mk pn))
    (hb : ∀ pn A L, ExecsTo w hB (mk pn A L) body (W pn)) (hc : ht < c.ht) : CallOp w hB c (.ref C) (wMakeL C W names.length n) := by
  intro st al Z s k as vs R r ⟨h2, hw⟩
  have X : (KF w).In s.heap := R.grd.X.keeps R.base
  have Y := makes_of (M := model P w) X M.makes
  refine ⟨fun hq => keep_cls Y (hq _ (.inr rfl)), wpAny_call ?_⟩
  have d := R.ok.depth
  have u := R.ok.units
  have R0 := rel0_instL R C
  have hlen := R.len
  have hv : VRs w ((s.heap.objs.size + 1, instObj C s.heap.objs.size) :: Z) (al ++ [s.heap.objs.size]) (.iobj C st.heap.length :: as) (.ref (s.heap.objs.size + 1) :: vs) := by
    exact ⟨_, _, rfl, by exact ⟨_, _, rfl, .head _, by rw [← hlen]; simp⟩, r.mono (fun u_ h => .tail _ h) (List.prefix_append _ _)⟩
  have G := call_gen (A := c.A.under (.builtin "type.__call__" ⟨.ref C :: vs, []⟩)) FI (CI (st.heap.length + 1)) (hb (st.heap.length + 1)) R.ok.hand (by show c.A.depth + 1 + 1 + 2 * ht ≤ 600; omega) (by show c.A.units + 1 + 3 + 10 * ht + 200 ≤ cLine; omega) R0 hv (by simpa using h2) (by simp) hw
  obtain ⟨h, g, dd, t, os⟩ := s
  refine make_core Y (looks_findIn X M.init) (fun self => bind_fn X self M.fn) (.inl rfl) (codeAny_mono G fun res s' hr => ?_)
  obtain ⟨v, sv, hp', al', Z', rfl, p, rv, rfl, hk⟩ := hr
  cases (rv : _ = _)
  refine ⟨rfl, ?_⟩
  have keep1 : ∀ b o, h.get? b = some o → ((h.push emptyDict).push (instObj C h.objs.size)).get? b = some o := fun b o e => Heap.get?_push_of_some _ (Heap.get?_push_of_some _ e)
  have dxn : h.get? h.objs.size = none := get?_size_none _
  have xn : h.get? (h.objs.size + 1) = none := by
    cases q : h.get? (h.objs.size + 1) with
    | none => rfl
    | some o => exact absurd (Heap.lt_size q) (Nat.not_lt.mpr (Nat.le_succ _))
  have none1 : ∀ b, ((h.push emptyDict).push (instObj C h.objs.size)).get? b = none → h.get? b = none := fun b q => by
    cases e' : h.get? b with
    | none => rfl
    | some o => rw [keep1 _ _ e'] at q; cases q
  have p0 : Post0 w hB al Z ⟨h, g, dd, t, os⟩ hp' al' Z' s' := {
    rel := p.rel
    pre := (List.prefix_append _ _).trans p.pre
    sub := fun q hq => p.sub q (.tail _ hq)
    frame := fun b o e hn ht => p.frame b o (keep1 b o e) (fun hm => by
      rcases List.mem_append.mp hm with hm | hm
      · exact hn hm
      · have : b = h.objs.size := by simpa using hm
        rw [this] at e
        have e' : h.get? h.objs.size = some o := e
        rw [dxn] at e'; cases e') ht
    fresh := fun a ha => by
      rcases p.fresh a ha with q | q
      · rcases List.mem_append.mp q with q | q
        · exact .inl q
        · have : a = h.objs.size := by simpa using q
          exact .inr (by rw [this]; exact dxn)
      · exact .inr (none1 a q)
    zfresh := fun q hq => by
      rcases p.zfresh q hq with r' | r'
      · cases r' with
        | head => exact .inr xn
        | tail w1_ r' => exact .inl r'
      · exact .inr (none1 _ r')
    gens := p.gens
    os := p.os }
  have h0 : al'[st.heap.length]? = some h.objs.size := pre_get p.pre (by rw [← hlen]; simp)
  refine Ret.mk (Post.ofGen R p0) ?_ hk
  exact ⟨_, _, rfl, p.sub _ (.head _), h0⟩
theorem c_makeL {C fI : Addr} {d : PySem.Stmt} {qual : Str} {cdv : Value} {names : List Str} {desc : List (Str × Bool)} {W : Nat → T AFl} (ht : Nat) (M : MkK w C fI) (F : FnS w fI d qual cdv names desc) (hb : ∀ pn A L, ExecsTo w hB (mkCx ht pn qual (dScope d) fI cdv desc A L) (dBody d) (W pn)) (hc : ht < c.ht)
    {wo : List SV → T SV} (hi : ∀ as k st, wo as k st → wMakeL C W names.length desc.length as k st) : CallOp w hB c (.ref C) wo :=
  fun st al Z s k as vs R r hw => make_live M (fnIs_of R.grd F.k F.cd F.bd F.hs F.nd) (fun pn => cxIs_of ht pn F.chk) hb hc st al Z s k as vs R r (hi as k st hw)
end
section
open PySem.Builtin

theorem owner_cit : Manifest.owners.lookup (String.ofList ['r', 'o', 't', 'a', 'r', 'e', 't', 'i', '_', 'e', 'l', 'b', 'a', 'l', 'l', 'a', 'c'].reverse) = some Manifest.sig_callable_iterator := by kernel_rfl
theorem slot_cit_next : Slot "callable_iterator" "__next__" "callable_iterator.__next__" :=
  .of (owner := "callable_iterator") (n := "__next__") (by rw [typeLookup_type, builtinLookup_eq_fast]; kernel_rfl) (by decide +kernel) (by decide +kernel) (by decide +kernel)
    (by first | exact .inl (by decide +kernel) | exact .inr (by decide +kernel)) (by rw [isSubtype_type]; kernel_rfl)
theorem entry_cit_next : entryFor table "callable_iterator.__next__" = some Builtin.«callable_iterator.__next__» := entryFor_of_tree (by kernel_rfl)
theorem args_cit_next (a : Value) : argsOk "callable_iterator.__next__" ⟨[a], []⟩ := by
  unfold argsOk; rw [signature?_of (id := "callable_iterator.__next__") (n := ['_', '_', 't', 'x', 'e', 'n', '_', '_']) (o := ['r', 'o', 't', 'a', 'r', 'e', 't', 'i', '_', 'e', 'l', 'b', 'a', 'l', 'l', 'a', 'c']) (by kernel_rfl) owner_cit]; kernel_rfl
theorem slot_cit_iter : Slot "callable_iterator" "__iter__" "callable_iterator.__iter__" :=
  .of (owner := "callable_iterator") (n := "__iter__") (by rw [typeLookup_type, builtinLookup_eq_fast]; kernel_rfl) (by decide +kernel) (by decide +kernel) (by decide +kernel)
    (by first | exact .inl (by decide +kernel) | exact .inr (by decide +kernel)) (by rw [isSubtype_type]; kernel_rfl)
theorem args_cit_iter (a : Value) : argsOk "callable_iterator.__iter__" ⟨[a], []⟩ := by
  unfold argsOk; rw [signature?_of (id := "callable_iterator.__iter__") (n := ['_', '_', 'r', 'e', 't', 'i', '_', '_']) (o := ['r', 'o', 't', 'a', 'r', 'e', 't', 'i', '_', 'e', 'l', 'b', 'a', 'l', 'l', 'a', 'c']) (by kernel_rfl) owner_cit]; kernel_rfl
theorem entry_cit_iter : entryFor table "callable_iterator.__iter__" = some Builtin.«dict_keyiterator.__iter__» :=
  entryFor_alias (id' := "dict_keyiterator.__iter__") (by kernel_rfl) (by first | rfl | decide +kernel | (unfold String.splitOn; simp +decide [String.splitOnAux])) (by decide +kernel) (by kernel_rfl)
theorem kind_iter : builtinKind "iter" = none := by decide +kernel
theorem plain_iter : plainId "iter" = true := by decide +kernel
theorem entry_iter : entryFor table "iter" = some Builtin.«iter» := entryFor_of_tree (by kernel_rfl)
theorem args_iter_2 (a b : Value) : argsOk "iter" ⟨[a, b], []⟩ := by unfold argsOk; kernel_rfl
theorem look_meth_call : typeLookup (.type "method") "__call__" = pure (some (.builtin "method.__call__")) := by rw [typeLookup_type, builtinLookup_eq_fast]; kernel_rfl

section
variable {M : Model} {A : Around} {E : Value → Shared → Prop} {s : Shared}
theorem wpAny_callBorrowed {f : Value} {pos : List Value} {Q : Value → Shared → Prop}
    (hc : codeAny M A (.call f ⟨pos, []⟩) (fun r s' => match r with | .ok (.ret v) => Q v s' | .ok _ => False | .error e => E e s') s) : wpAny M A (callBorrowed f pos) Q E s := by
  intro Γ p hΓ
  unfold callBorrowed
  rw [Sem.wp_call]
  refine PySem.wpCode_mono (fun r s' h => ?_) (hc _ p rfl (hΓ.enter (.call f ⟨pos, []⟩) none p (by intro x; cases x)))
  cases r with
  | error e => exact h
  | ok f => cases f <;> first | exact h | exact h.elim
end

section
variable {w : World} {A : Around} {E : Value → Shared → Prop} {s : Shared}
theorem borrows_meth {m f : Addr} {u : Value} {o : Obj} {fd : FuncData} {Q : Bool → Shared → Prop} (hm : s.heap.get? m = some (methodObj (.ref f) u)) (hf : s.heap.get? f = some o) (hd : o.data = .func fd) (h : Q true s) : wpAny (model P w) A (borrowsExactly (.ref m)) Q E s := by
  unfold borrowsExactly
  refine wpAny_bind (wpAny_load hm ?_)
  dsimp only
  rw [if_pos (by decide)]
  show wpAny _ _ ((load f) >>= _) _ _ _
  refine wpAny_bind (wpAny_load hf ?_)
  rw [hd]
  exact wpAny_pure h
theorem call_cit_iter {it : Addr} {Q : Value → Shared → Prop} (hT : s.TypeIs (.ref it) "callable_iterator") (h : Q (.ref it) s) : wpAny (model P w) A (pyIter (.ref it)) Q E s := by
  refine wpAny_pyIter_slot hT slot_cit_iter (wpAny_call_entry slot_cit_iter hT entry_cit_iter ?_ (args_cit_iter _))
  unfold Builtin.«dict_keyiterator.__iter__»
  refine wpAny_bind (wpAny_of_eq (a := (Value.ref it, [])) rfl ?_)
  exact wpAny_pure ⟨_, rfl, "callable_iterator", _, hT, slot_cit_next.lookup, h⟩
theorem call_iter2 {m : Addr} {v : Value} {Q : Value → Shared → Prop} (hT : s.TypeIs (.ref m) "method")
    (h : Q (.ref s.heap.objs.size) { s with heap := s.heap.push { cls := .type "callable_iterator", data := .fields #[.ref m, v, .bool false] } }) : wpAny (model P w) A (call (.builtin "iter") [.ref m, v]) Q E s := by
  refine Calls.call_function_entry kind_iter plain_iter entry_iter (args_iter_2 _ _) ?_
  unfold Builtin.«iter»
  refine wpAny_bind (wpAny_of_eq (a := [.ref m, v]) (by first | rfl | kernel_rfl) ?_)
  dsimp only
  refine wpAny_bind (wpAny_specialOf hT look_meth_call ?_)
  dsimp only [Option.isNone]
  rw [if_neg (by decide)]
  refine wpAny_bind (wpAny_rule ?_)
  exact wpAny_bind (wpAny_newObj_type (wpAny_pure ⟨_, rfl, h⟩))
end
end
section
open PySem.Builtin
noncomputable abbrev citO (vf ve : Value) (b : Bool) : Obj := { cls := .type "callable_iterator", data := .fields #[vf, ve, .bool b] }
section
variable {w : World} {A : Around} {E : Value → Shared → Prop} {s : Shared}
theorem cit_next {it m f : Addr} {u : Value} {t : Tok} {o : Obj} {fd : FuncData} {Q : Option Value → Shared → Prop} (hh : A.handled = none) (hit : s.heap.get? it = some (citO (.ref m) (.str (S []) t) false)) (hm : s.heap.get? m = some (methodObj (.ref f) u))
    (hf : s.heap.get? f = some o) (hd : o.data = .func fd)
    (hc : codeAny (model P w) A.in1 (.call (.ref f) ⟨[u], []⟩) (fun r s1 => ∃ (x : Cs) (tk : Tok), r = .ok (.ret (.str (S x) tk)) ∧ (∃ m' u' t', s1.heap.get? it = some (citO (.ref m') (.str (S []) t') false) ∧ s1.heap.get? m' = some (methodObj (.ref f) u')) ∧ s1.heap.get? f = some o ∧
      (if x = [] then ∀ h', (∀ b o, b ≠ it → s1.heap.get? b = some o → h'.get? b = some o) → (∃ o, h'.get? it = some o) → Q none { s1 with heap := h' } else Q (some (.str (S x) tk)) s1)) s) :
    wpAny (model P w) A (pyNext (.ref it)) Q E s := by
  have hT : s.TypeIs (.ref it) "callable_iterator" := ⟨_, hit, rfl⟩
  unfold pyNext
  refine wpAny_bind (wpAny_attempt (wpAny_callSpecial?_slot (name := Str.ofString "__next__") hT slot_cit_next
    (wpAny_call_entry slot_cit_next hT entry_cit_next ?_ (args_cit_next _))))
  unfold Builtin.«callable_iterator.__next__»
  refine wpAny_bind (wpAny_of_eq (a := (Value.ref it, [])) rfl ?_)
  dsimp only
  refine wpAny_bind (wpAny_field hit rfl (x := .bool false) rfl ?_)
  rw [if_neg (by decide)]
  refine wpAny_bind (wpAny_field hit rfl (x := .ref m) rfl ?_)
  refine wpAny_bind (wpAny_attempt ?_)
  unfold callOutOfASlot
  refine wpAny_bind (borrows_meth hm hf hd ?_)
  rw [if_pos rfl]
  refine wpAny_callBorrowed (method_call hm (codeAny_mono hc fun r s1 h => ?_))
  obtain ⟨x, tk, rfl, ⟨m', u', t', h1, h2⟩, h3, hq⟩ := h
  dsimp only
  refine wpAny_bind (wpAny_field h1 rfl (x := .bool false) rfl ?_)
  rw [if_neg (by decide)]
  refine wpAny_bind (wpAny_field h1 rfl (x := .str (S []) t') rfl ?_)
  refine wpAny_bind (wpAny_holding (eqBool_str ?_))
  by_cases hx : x = []
  · subst hx
    rw [if_pos rfl] at hq
    rw [if_neg (by simp)]
    refine wpAny_bind (wpAny_rule ?_)
    show wpAny _ _ ((do
      slotLetsGo "callable_iterator.__next__" (← field (.ref it) 0) fun | .builtin "callable_iterator.__next__" x => x.pos.head? == some (.ref it) | _ => false
      setField (.ref it) 0 .none; setField (.ref it) 1 .none; setField (.ref it) 2 (.bool true)) >>= _) _ _ _
    have e0 : (citO (.ref m') (.str (S []) t') false).data = .fields #[.ref m', .str (S []) t', .bool false] := rfl
    refine wpAny_bind (wpAny_bind (wpAny_field h1 e0 (x := .ref m') rfl (wpAny_bind ?_)))
    unfold slotLetsGo
    dsimp only
    refine wpAny_bind (borrows_meth h2 h3 hd ?_)
    rw [if_pos rfl]
    refine wpAny_pure ?_
    refine wpAny_bind (wpAny_setField h1 e0 (by simp) ?_)
    have g1 := Heap.get?_update_self (Obj.mapFields fun x => x.setIfInBounds 0 Value.none) h1 (Obj.isFreed_of_fields (Obj.data_mapFields e0 _))
    have e1 := Obj.data_mapFields e0 (fun x => x.setIfInBounds 0 Value.none)
    refine wpAny_bind (wpAny_setField g1 e1 (by simp) ?_)
    have g2 := Heap.get?_update_self (Obj.mapFields fun x => x.setIfInBounds 1 Value.none) g1 (Obj.isFreed_of_fields (Obj.data_mapFields e1 _))
    have e2 := Obj.data_mapFields e1 (fun x => x.setIfInBounds 1 Value.none)
    refine wpAny_setField g2 e2 (by simp) ?_
    have g3 := Heap.get?_update_self (Obj.mapFields fun x => x.setIfInBounds 2 (Value.bool true)) g2 (Obj.isFreed_of_fields (Obj.data_mapFields e2 _))
    show wpAny _ _ (newExc (.type "StopIteration") [] >>= _) _ _ _
    refine wpAny_bind ?_
    simp only [newExc, newTuple]
    refine wpAny_bind (wpAny_newObj_type ?_ (by size_fits))
    refine wpAny_bind (m := firstArgMember _ _) (wpAny_of_eq (a := Value.none) (by first | rfl | (simp only [firstArgMember]; rfl)) ?_)
    refine wpAny_newObj_type ?_ (by size_fits)
    simp only [raiseNew]
    refine wpAny_bind (wpAny_handled ?_)
    rw [show A.in1.handled = none from hh]
    refine wpAny_bind (wpAny_pure (wpAny_throw ?_))
    refine wpAny_bind (wpAny_isInstance (T := "StopIteration") (b := true) ⟨_, Heap.get?_push_size _ rfl, rfl⟩ isSubtype_stop ?_)
    refine wpAny_pure (hq _ (fun b o hb e => ?_) ⟨_, Heap.get?_push_of_some _ (Heap.get?_push_of_some _ g3)⟩)
    refine Heap.get?_push_of_some _ (Heap.get?_push_of_some _ ?_)
    have u := fun (h : Heap) (f : Obj → Obj) (e : h.get? b = some o) => (Heap.SameBut.update (h := h) (a := it) (f := f)).extBut b o hb e
    exact u _ _ (u _ _ (u _ _ e))
  · rw [if_neg hx] at hq
    rw [if_pos (by
      have : ((S []) == (S x)) = false := by
        refine Bool.eq_false_iff.mpr fun h => hx ?_
        have := S_inj (eq_of_beq h)
        exact this.symm
      rw [this]; rfl)]
    first
      | exact wpAny_bind (wpAny_pure (wpAny_pure ⟨_, rfl, wpAny_pure hq⟩))
      | exact wpAny_pure ⟨_, rfl, wpAny_pure hq⟩
end
end
section
variable {w : World} {hB : Heap} {c : Cx} {st : St} {al : List Addr} {Z : Led} {s : Shared}
theorem Post.updK {s' : Shared} (R : SRel w hB c st al Z s) {i : Nat} {a : Addr} {o' : Obj} {so' : SO} (hi : i < st.heap.length) (ha : al[i]? = some a) (hk : ∀ b o, b ≠ a → s.heap.get? b = some o → s'.heap.get? b = some o) (ho : s'.heap.get? a = some o') (hr : OR w Z al so' o')
    (hg : autoParam (s'.gens = s.gens) aRfl) (hos : autoParam (s'.os = s.os) aRfl) :
    Post w hB c al Z s { st with heap := st.heap.set i so' } al Z s' := by
  have ham : a ∈ al := List.mem_of_getElem? ha
  have keep : ∀ b o, s.heap.get? b = some o → b ≠ a → s'.heap.get? b = some o := fun b o e hb => hk b o hb e
  refine ⟨{ grd := R.grd, base := fun b o e => keep b o (R.base b o e) (fun q => by rw [q, (R.new a ham).1] at e; cases e), tab := ?_, len := by simp [R.len], live := ?_, frz := fun p hp => keep _ _ (R.frz p hp) (fun q => (R.zap p hp).1 (q ▸ ham)), new := R.new, nodup := R.nodup, zap := R.zap, nomod := R.nomod, ok := R.ok, pinl := R.pinl, ns := ?_, cell := ?_, own := fun b hb => ?_, ownz := R.ownz, capt := R.capt }, List.prefix_refl _, fun u_ h => h, fun b o e hn u_ => keep b o e (fun q => hn (List.mem_append_right _ (q ▸ ham))), fun u_ h => .inl h, fun u_ h => .inl h, hg, hos⟩
  · obtain ⟨ps, e, t⟩ := R.tab
    exact ⟨ps, keep _ _ e (fun q => (R.new a ham).2 q.symm), t⟩
  · intro j so b e1 e2
    by_cases hj : j = i
    · subst hj
      rw [ha] at e2; cases e2
      dsimp only at e1
      rw [List.getElem?_set_self hi] at e1
      cases e1
      exact ⟨o', ho, hr⟩
    · dsimp only at e1
      rw [List.getElem?_set_ne (Ne.symm hj)] at e1
      obtain ⟨o, h1, h2⟩ := R.live j so b e1 e2
      refine ⟨o, keep _ _ h1 (fun q => ?_), h2⟩
      subst q
      have l1 : i < al.length := R.len ▸ hi
      have l2 : j < al.length := lt_of_get e2
      rw [List.getElem?_eq_getElem l1] at ha
      rw [List.getElem?_eq_getElem l2] at e2
      exact hj ((List.getElem?_inj l2 R.nodup).mp (by rw [List.getElem?_eq_getElem l2, e2, List.getElem?_eq_getElem l1, ha]))
  · obtain ⟨m, ⟨o, es, ep, e, r⟩, hm⟩ := R.ns
    exact ⟨m, ⟨o, es, ep, keep _ _ e (fun q => (R.own _ (.head _)).2.2.1 (q ▸ ham)), r⟩, hm⟩
  · intro j x b h
    obtain ⟨vo, ⟨o, e, r⟩, hv⟩ := R.cell j x b h
    refine ⟨vo, ⟨o, keep _ _ e (fun q => ?_), r⟩, hv⟩
    subst q
    rcases h with h | h
    · exact (R.own _ (.tail _ (R.ok.scell x _ (List.mem_of_getElem? h)).2.2)).2.2.1 ham
    · exact (R.capt x _ (List.mem_of_getElem? h)).2.1 ham
  · obtain ⟨p1, p2, p3, o, p4⟩ := R.own b hb
    exact ⟨p1, p2, p3, o, keep _ _ p4 (fun q => p3 (q ▸ ham))⟩
end

noncomputable def CodeOp (w : World) (hB : Heap) (c : Cx) (f : Addr) (wo : List SV → T SV) : Prop := ∀ st al Z s k as vs, SRel w hB c st al Z s → VRs w Z al as vs → wo as k st →
  (∃ o fd, hB.get? f = some o ∧ o.data = .func fd) ∧ ∀ A : Around, A.handled = none → A.depth ≤ c.A.depth → A.units ≤ c.A.units + 5 →
    codeAny (model P w) A (.call (.ref f) ⟨vs, []⟩) (fun r s' => ∃ v, r = .ok (.ret v) ∧ Ret w hB c al Z s (VR w) k v s') s
noncomputable def OptR (w : World) (Z : Led) (al : List Addr) : Option SV → Option Value → Prop
  | none, none => True
  | some sv, some v => VR w Z al sv v
  | w1_, w2_ => False
noncomputable def wNext (f : Addr) (wo : List SV → T SV) (q : Nat) : T (Option SV) := fun k st => ∃ m, hget st.heap q = some (.citer (.meth f m) (.str [])) ∧ wo [m] (fun v st' => hget st'.heap q = some (.citer (.meth f m) (.str [])) ∧ asStr v (fun y => match y with
      | [] => k none (st'.setH q .gone)
      | d :: x => k (some (.str (d :: x))) st') False) st
noncomputable def wForCL (pin : Nat) (f : Addr) (wo : List SV → T SV) (q : Nat) (wt : SV → T Unit) (wb : T AFl) (k : AFl → St → Prop) : Nat → St → Prop
  | 0, w1_ => False
  | n + 1, st => ∃ st1, Wk pin st st1 ∧ wNext f wo q (fun r st => match r with
      | none => k .next st
      | some v => wt v (fun u_ st => wb (fun fl st => match fl with
          | .next => wForCL pin f wo q wt wb k n st
          | .cont => wForCL pin f wo q wt wb k n st
          | .brk => k .next st
          | .ret v => k (.ret v) st) st) st) st1
noncomputable def isCit (st : St) (q : Nat) : Prop := ∃ a b, hget st.heap q = some (.citer a b)
noncomputable def wForC (pin : Nat) (f : Addr) (wo : List SV → T SV) (wi : T SV) (wt : SV → T Unit) (wb : T AFl) : T AFl := fun k => wi fun a st => asObj a fun q => q < pin ∧ isCit st q ∧ ∃ n, wForCL pin f wo q wt wb k n st

section
variable {w : World} {hB : Heap} {c : Cx}
theorem co_live {fa : Addr} {d : PySem.Stmt} {qual : Str} {cdv : Value} {names : List Str} {desc : List (Str × Bool)} {W : Nat → T AFl} (ht : Nat) (F : FnS w fa d qual cdv names desc) (hb : ∀ pn A L, ExecsTo w hB (mkCx ht pn qual (dScope d) fa cdv desc A L) (dBody d) (W pn)) (hc : ht < c.ht)
    {wo : List SV → T SV} (hi : ∀ as k st, wo as k st → wLive W names.length desc.length as k st) : CodeOp w hB c fa wo := by
  intro st al Z s k as vs R r hw
  have FI := fnIs_of R.grd F.k F.cd F.bd F.hs F.nd
  obtain ⟨o, fd, ho, hdt, _⟩ := FI.fn
  refine ⟨⟨o, fd, ho, hdt⟩, fun A h1 h2 h3 => ?_⟩
  have dd := R.ok.depth
  have u := R.ok.units
  exact live_code FI (fun pn => cxIs_of ht pn F.chk) hb h1 (by omega) (by omega) R r (hi as k st hw)

theorem next_tri {f : Addr} {wo : List SV → T SV} (hop : CodeOp w hB c f wo) {st : St} {al : List Addr} {Z : Led} {s : Shared} {k : Option SV → St → Prop} {q : Nat} {it : Addr} {E : Value → Shared → Prop} (R : SRel w hB c st al Z s) (ha : al[q]? = some it) (hw : wNext f wo q k st) :
    wpAny (model P w) c.A (pyNext (.ref it)) (Ret w hB c al Z s (OptR w) fun r st => (r = none ∨ isCit st q) ∧ k r st) E s := by
  refine cps fun G hG => ?_
  obtain ⟨m, e, hw⟩ := hw
  · obtain ⟨o, ho, vf, ve, rfl, rf, re⟩ := R.live q _ it (hget_eq e) ha
    obtain ⟨ma, u, rfl, hm, ru⟩ := rf
    obtain ⟨t, rfl⟩ := re
    obtain ⟨⟨of, fd, hf, hfd⟩, hcode⟩ := hop st al Z s _ [m] [u] R (VRs.one ru) hw
    refine hG ?_
    refine cit_next R.ok.hand ho (R.frz _ hm) (R.base _ _ hf) hfd (codeAny_mono (hcode c.A.in1 R.ok.hand (Nat.le_refl _) (by show c.A.units + 1 ≤ c.A.units + 5; omega)) fun r s1 h => ?_)
    obtain ⟨v, rfl, st1, al1, Z1, sv, p1, r1, hq1, hk1⟩ := h
    have ha1 : al1[q]? = some it := pre_get p1.pre ha
    refine cps fun G hG => ?_
    obtain ⟨o1, ho1, vf1, ve1, rfl, rf1, re1⟩ := p1.rel.live q _ it (hget_eq hq1) ha1
    obtain ⟨ma1, u1, rfl, hm1, ru1⟩ := rf1
    obtain ⟨t1, rfl⟩ := re1
    obtain ⟨y, tk, hy⟩ := asStr.v hk1 r1
    rcases y with _ | ⟨d, x⟩
    · refine hG ?_
      refine ⟨[], tk, rfl, ⟨ma1, u1, t1, ho1, p1.rel.frz _ hm1⟩, p1.rel.base _ _ hf, ?_⟩
      rw [if_pos rfl]
      intro h' hk' ⟨o', ho'⟩
      have p2 := Post.updK (s' := { s1 with heap := h' }) (so' := .gone) p1.rel (hget_lt hq1) ha1 hk' ho' trivial
      exact Ret.mk (b := none) (p1.trans p2) trivial ⟨.inl rfl, hy⟩
    · refine hG ?_
      refine ⟨d :: x, tk, rfl, ⟨ma1, u1, t1, ho1, p1.rel.frz _ hm1⟩, p1.rel.base _ _ hf, ?_⟩
      rw [if_neg (by simp)]
      have rr : OptR w Z1 al1 (some (SV.str (d :: x))) (some (.str (S (d :: x)) tk)) := by
        show VR w Z1 al1 (SV.str (d :: x)) (.str (S (d :: x)) tk)
        exact vStr _ _
      exact Ret.mk p1 rr ⟨.inr ⟨_, _, hq1⟩, hy⟩

inductive KInv (w : World) (hB : Heap) (c : Cx) (al1 : List Addr) (Z1 : Led) (s1 : Shared) (f : Addr) (wo : List SV → T SV) (q : Nat) (it : Addr) (wt : SV → T Unit) (wb : T AFl) (k : AFl → St → Prop) (n : Nat) (s' : Shared) : Prop
  | mk (st' : St) (al' : List Addr) (Z' : Led) (p : PostS w hB c al1 Z1 s1 st' al' Z' s') (a : al'[q]? = some it) (h : wForCL c.pin f wo q wt wb k n st') : KInv w hB c al1 Z1 s1 f wo q it wt wb k n s'
theorem ex_forC {target iter : PySem.Expr} {body : List PySem.Stmt} {pos : Pos} {pin : Nat} {f : Addr} {wo : List SV → T SV} {wi : T SV} {wt : SV → T Unit} {wb : T AFl} (hpin : c.pin = pin) (hi : EvalsTo w hB c iter wi) (hop : CodeOp w hB c f wo) (ht : AssTo w hB c target wt) (hb : ExecsTo w hB c body wb)
    (hs : autoParam (∀ x, foldedSetIterable iter c.env x = pure x) aIRfl) : ExecTo w hB c (.For target iter body [] pos) (wForC pin f wo wi wt wb) := by
  subst hpin
  intro st al Z s k R hw
  refine wpAny_For (wpAny_mono (hi st al Z s _ R hw) (fun va s1 h1 => ?_) fun u_ u_ h => h) hs
  obtain ⟨st1, al1, Z1, a, p1, r1, hk1⟩ := h1
  obtain ⟨q, it, ha, hq, hcit, n, hw⟩ := asObj.v hk1 r1
  have hty : s1.TypeIs (.ref it) "callable_iterator" := by
    obtain ⟨_, _, e⟩ := hcit
    obtain ⟨o, ho, vf, ve, rfl, _⟩ := p1.rel.live q _ it (hget_eq e) ha
    exact ⟨_, ho, rfl⟩
  refine call_cit_iter hty ?_
  refine codeAny_forLoop_any (KInv w hB c al1 Z1 s1 f wo q it wt wb k) (fun n s2 hI => ?_) n ⟨st1, al1, Z1, PostS.refl p1.rel, ha, hw⟩
  obtain ⟨st2, al2, Z2, p2, ha2, h2⟩ := hI
  cases n with
  | zero => exact h2.elim
  | succ n =>
    refine cps fun G hG => ?_
    obtain ⟨st3, hwk, h3⟩ := h2
    obtain ⟨al3, pw⟩ := p2.rel.weak hwk
    have p3 := p2.trans pw
    have ha3 : al3[q]? = some it := (pw.pin q hq).trans ha2
    refine hG (wpAny_mono (next_tri hop p3.rel ha3 h3) (fun r s4 h4 => ?_) fun u_ u_ h => h)
    obtain ⟨st4, al4, Z4, b, p4, r4, hk4⟩ := h4
    have p14 := p3.trans (p4.toS p3.rel.pinl)
    have ha4 : al4[q]? = some it := pre_get p4.pre ha3
    obtain ⟨hcit4, hk4⟩ := hk4
    cases b with
    | none =>
      cases r with
      | some w1_ => exact r4.elim
      | none => exact wpAny_execs_nil (RetS.mk ((p1.toS R.pinl).trans p14) FR.nx hk4)
    | some sv =>
      cases r with
      | none => exact r4.elim
      | some v =>
        have hcit4 := hcit4.resolve_left (fun h => by cases h)
        refine cps fun G hG => ?_
        obtain ⟨_, _, e⟩ := hcit4
        obtain ⟨o, ho, vf, ve, rfl, _⟩ := p4.rel.live q _ it (hget_eq e) ha4
        refine hG (own_go ho rfl (by decide) ?_)
        refine wpAny_mono (ht st4 al4 Z4 s4 _ sv v p4.rel r4 hk4) (fun u_ s5 h5 => ?_) fun u_ u_ h => h.elim
        obtain ⟨st5, al5, Z5, _, p5, _, hk5⟩ := h5
        refine wpAny_mono (hb st5 al5 Z5 s5 _ p5.rel hk5) (fun fl' s6 h6 => ?_) fun u_ u_ h => h.elim
        obtain ⟨st6, al6, Z6, fl, p6, r6, hk6⟩ := h6
        have pall := p14.trans ((p5.toS p4.rel.pinl).trans p6)
        have ha6 : al6[q]? = some it := (p6.pin q hq).trans (pre_get p5.pre ha4)
        cases fl with
        | next => simp only [FR] at r6; subst r6; exact ⟨n, Nat.lt_succ_self _, st6, al6, Z6, pall, ha6, hk6⟩
        | cont => simp only [FR] at r6; subst r6; exact ⟨n, Nat.lt_succ_self _, st6, al6, Z6, pall, ha6, hk6⟩
        | brk => simp only [FR] at r6; subst r6; exact RetS.mk ((p1.toS R.pinl).trans pall) FR.nx hk6
        | ret sv' =>
          obtain ⟨v', rfl, r6⟩ := r6
          exact RetS.mk ((p1.toS R.pinl).trans pall) (FR.re r6) hk6

theorem exs_pin {es : List PySem.Stmt} {m : Nat} {W : T AFl} (hm : c.pin ≤ m) (h : ExecsTo w hB { c with pin := m } es W) : ExecsTo w hB c es (fun k st => m ≤ st.heap.length ∧ W k st) := by
  intro st al Z s k R ⟨hl, hw⟩
  have R' : SRel w hB { c with pin := m } st al Z s := {
    toRel0 := R.toRel0
    ok := { R.ok with }
    pinl := by show m ≤ al.length; rw [R.len]; exact hl
    ns := R.ns
    cell := R.cell
    own := R.own
    ownz := R.ownz
    capt := R.capt }
  refine wpAny_mono (h st al Z s k R' hw) (fun fl s1 h1 => ?_) fun u_ u_ h => h
  obtain ⟨st1, al1, Z1, b, p, r, hk⟩ := h1
  refine ⟨st1, al1, Z1, b, ⟨?_, fun i hi => p.pin i (Nat.lt_of_lt_of_le hi hm), p.sub, p.frame, p.fresh, p.zfresh, p.there, p.gens, p.os⟩, r, hk⟩
  have R1 := p.rel
  exact { toRel0 := R1.toRel0, ok := { R.ok with }, pinl := Nat.le_trans hm R1.pinl, ns := R1.ns, cell := R1.cell, own := R1.own, ownz := R1.ownz, capt := R1.capt }
end

section
variable {w : World} {hB : Heap} {c : Cx}
theorem o_meth {C f : Addr} {name : Str} {chk : List Str} (hC : ClsK w C) (hf : findIn (KF w) (.ref C) name = some (some (.ref f))) (ht : typeIn (KF w) (.ref f) = some (.type "function")) (hg : specialIn (KF w) (.ref f) "__get__" = some (some (.builtin "function.__get__")))
    (htk : takesIn (KF w) (.ref f) = some false) (hcn : copiedNames.contains name = false) (hn : chk.findIdx? (fun y => name == y) = none) (ex : Bool) : Op1 w hB c (VR w) (fun v => getAttr v name ex) (fun a k st => isInst C chk a st ∧ k (.meth f a) st) := by
  intro st al Z s k a va R ra ⟨hok, hw⟩
  · obtain ⟨⟨C', ks, vs⟩, e, rfl, rfl⟩ := on1.get hok
    obtain ⟨x, dx, o, kvs, rfl, I, ha, hk, rr⟩ := inst_at R ra e
    have X := R.grd.X.keeps R.base
    refine get_bind X I hC.get (findObj_fn hC.dict hf hg htk hcn (look_none ha (lookup_out hk hn))) hC.nog (wpAny_call (fn_get (s := { s with toks := s.toks + 1 }) X ht (handed_on rfl ?_)))
    have p := Post.allocZ R (o := methodObj (.ref f) (.ref x)) rfl (s.toks + 1)
    refine Ret.mk p ?_ hw
    exact ⟨_, _, rfl, .head _, ra.mono (fun u_ h => .tail _ h) (List.prefix_refl _)⟩
noncomputable def wIter2 : List SV → T SV := fun as k st => args2 as fun a b => match a with
  | .meth f m => asStr b (fun x => k (.obj st.heap.length) (st.addH (.citer (.meth f m) (.str x)))) False
  | _ => False
theorem c_iter2 : CallOp w hB c (.builtin "iter") wIter2 := by
  intro st al Z s k as vs R r hw
  refine ⟨blt_keep R, ?_⟩
  obtain ⟨a, _, va, _, ra, rb, hw_1⟩ := args2.v hw r
  cases a with
  | meth f m =>
    obtain ⟨x, t, hw_2⟩ := asStr.v hw_1 rb
    have ra' := ra
    obtain ⟨ma, u, rfl, hm, ru⟩ := ra
    refine call_iter2 ⟨_, R.frz _ hm, rfl⟩ ?_
    have p := Post.allocL R (o := { cls := .type "callable_iterator", data := .fields #[.ref ma, .str (S x) t, .bool false] }) (so := .citer (.meth f m) (.str x)) rfl s.toks
      ⟨_, _, rfl, ra'.mono (fun u_ h => h) (List.prefix_append _ _), vStr _ _⟩
    refine Ret.mk p ?_ hw_2
    exact ⟨_, by rw [← R.len]; simp, rfl⟩
  | _ => exact hw_1.elim
end
section
open PySem.Builtin PySem.Builtin.ObjectAttr
theorem slot_fn_ga : Slot "function" "__getattribute__" "object.__getattribute__" :=
  .of (owner := "object") (n := "__getattribute__") (by rw [typeLookup_type, builtinLookup_eq_fast]; kernel_rfl) (by decide +kernel) (by decide +kernel) (by decide +kernel)
    (by first | exact .inl (by decide +kernel) | exact .inr (by decide +kernel)) (by rw [isSubtype_type]; kernel_rfl)
theorem entry_obj_ga : entryFor table "object.__getattribute__" = some Builtin.«object.__getattribute__» := entryFor_of_tree (by kernel_rfl)
theorem owner_obj : Manifest.owners.lookup (String.ofList ['t', 'c', 'e', 'j', 'b', 'o'].reverse) = some Manifest.sig_object := by kernel_rfl
theorem args_obj_ga (a b : Value) : argsOk "object.__getattribute__" ⟨[a, b], []⟩ := by
  unfold argsOk; rw [signature?_of (id := "object.__getattribute__") (n := ['_', '_', 'e', 't', 'u', 'b', 'i', 'r', 't', 't', 'a', 't', 'e', 'g', '_', '_']) (o := ['t', 'c', 'e', 'j', 'b', 'o']) (by kernel_rfl) owner_obj]; kernel_rfl
theorem fn_no_read : typeLookup (.type "function") "read" = pure none := by rw [typeLookup_type, builtinLookup_eq_fast]; kernel_rfl
theorem fn_no_hook : typeLookup (.type "function") "__getattr__" = pure none := by rw [typeLookup_type, builtinLookup_eq_fast]; kernel_rfl
section
variable {w : World} {A : Around} {E : Value → Shared → Prop}
theorem fn_find {M : Model} {h : Heap} {a d : Addr} {fd : FuncData} {sl : Array (Option Value)} {od : Obj} {v : Value} (ho : h.get? a = some ⟨.type "function", some d, .func fd, sl⟩) (hd : h.get? d = some od) (hl : lookIn "read" od = some (some v)) :
    Looks M h (find (.ref a) (.type "function") "read") (.value v) := by
  unfold find
  refine (Looks.of_pure fn_no_read).andThen ?_
  refine (show Looks M h (getOf none) none from .now).andThen ?_
  refine (show Looks M h (dataDescriptor? none none) none from .now).andThen ?_
  unfold ownThenClass
  refine Looks.andThen (a := some v) ?_ ?_
  · unfold inOwnDict ObjectAttr.ownDict loadHead
    intro A Q E s k q
    refine wpAny_bind (wpAny_bind (wpAny_loadPart (k _ _ ho) ?_))
    dsimp only
    unfold instanceDict
    refine wpAny_bind (wpAny_loadPart (k _ _ ho) ?_)
    dsimp only
    refine wpAny_pure ?_
    unfold inDict
    dsimp only
    refine wpAny_bind (wpAny_loadPart (k _ _ hd) ?_)
    rw [nsLook_of hl]
    exact wpAny_pure q
  · exact Looks.tag .now
theorem fn_attr {s : Shared} {a d : Addr} {fd : FuncData} {sl : Array (Option Value)} {od : Obj} {v : Value} {ex : Bool} {Q : Value → Shared → Prop} (ho : s.heap.get? a = some ⟨.type "function", some d, .func fd, sl⟩) (hd : s.heap.get? d = some od) (hl : lookIn "read" od = some (some v)) (hh : handedIn v = true)
    (h : Q v { s with toks := s.toks + 1 }) : wpAny (model P w) A (getAttr (.ref a) "read" ex) Q E s := by
  obtain ⟨hp, g, dr, t, os⟩ := s
  have hT : ∀ t', (⟨hp, g, dr, t', os⟩ : Shared).TypeIs (.ref a) "function" := fun u_ => ⟨_, ho, rfl⟩
  have f3 := slot_fn_ga.lookup
  have f4 := slot_fn_ga.bind (.ref a)
  have L := fn_find (M := model P w) ho hd hl
  unfold getAttr getAttrBy
  refine wpAny_bind (wpAny_mkText (wpAny_holding (wpAny_bind (wpAny_typeOf (hT _) (wpAny_bind (wpAny_of_eq f3 ?_))))))
  show wpAny _ _ (getAttrByItsOwn (.ref a) (.str "read" t) (.type "function") (.builtin "object.__getattribute__") true ex) _ _ _
  unfold getAttrByItsOwn
  refine wpAny_bind (wpAny_of_eq (a := none) rfl ?_)
  refine wpAny_bind (wpAny_attempt (wpAny_holding ?_))
  show wpAny _ _ (if (ex && onTheHeap (.builtin "object.__getattribute__")) = true then _ else boundAndCalled (.builtin "object.__getattribute__") (.ref a) (.str "read" t)) _ _ _
  rw [if_neg (by simp [onTheHeap])]
  unfold boundAndCalled
  refine wpAny_bind (wpAny_of_eq f4 ?_)
  dsimp only [List.cons_append, List.nil_append]
  refine wpAny_call_entry slot_fn_ga (hT _) entry_obj_ga ?_ (args_obj_ga _ _)
  unfold Builtin.«object.__getattribute__»
  refine wpAny_bind (wpAny_of_eq (a := (Value.ref a, [Value.str "read" t])) rfl ?_)
  dsimp only
  refine wpAny_bind (wpAny_of_eq (a := ("read" : Str)) rfl ?_)
  refine wpAny_bind (wpAny_typeOf (hT _) ?_)
  refine wpAny_bind (L.at ?_)
  dsimp only
  refine wpAny_pure ⟨_, rfl, ?_⟩
  try dsimp only
  rw [handedOut_of hh]
  exact wpAny_pure h
theorem fn_method {s : Shared} {a d : Addr} {fd : FuncData} {sl : Array (Option Value)} {od : Obj} {v : Value} {pl : Sem Bool} {Q : Value × List Value → Shared → Prop} (ho : s.heap.get? a = some ⟨.type "function", some d, .func fd, sl⟩) (hd : s.heap.get? d = some od) (hl : lookIn "read" od = some (some v)) (hh : handedIn v = true)
    (h : Q (v, []) { s with toks := s.toks + 1 }) : wpAny (model P w) A (getMethod (.ref a) "read" pl) Q E s := by
  have hT : s.TypeIs (.ref a) "function" := ⟨_, ho, rfl⟩
  have hcan := PySem.F.canon_object_ga
  unfold getMethod
  refine wpAny_bind (wpAny_specialOf hT slot_fn_ga.lookup ?_)
  dsimp only
  rw [hcan, if_neg (by decide)]
  refine wpAny_bind (wpAny_specialOf hT fn_no_hook ?_)
  rw [if_neg (by decide)]
  refine wpAny_bind (wpAny_specialOf hT fn_no_read ?_)
  dsimp only
  exact wpAny_bind (fn_attr ho hd hl hh (wpAny_pure h))
end
end
noncomputable abbrev scRead : Scope := dScope readOn
noncomputable abbrev envRead (c1 c2 cc g L : Addr) : Env := envX qRead scRead L g (.ref cc) [("text", c1), ("at", c2)]
noncomputable abbrev cxRead (pn : Nat) (c1 c2 cc g : Addr) (A : Around) (L : Addr) : Cx :=
  { ht := 0, pin := pn, A := A.deeper (envRead c1 c2 cc g L), env := envRead c1 c2 cc g L, cells := [], slots := [("size", .loc), ("sign", .loc), ("at", .capt c2), ("text", .capt c1)] }
noncomputable def exRead (w : World) (hB : Heap) (pn : Nat) (c1 c2 cc g : Addr) : { W : T AFl // ∀ A L, ExecsTo w hB (cxRead pn c1 c2 cc g A L) (dBody readOn) W } := ⟨_, fun A L =>
  exs_cons (ex_assign (ev_slice (ev_capt (i := 3) rfl) (pt_some (ev_sub (ev_capt (i := 2) rfl) ev_int g_any)) (pt_some (ev_bin (ev_sub (ev_capt (i := 2) rfl) ev_int g_any) (ev_loc (i := 0) rfl) (o_addG false)))) (as_loc (i := 1) rfl)) <|
  exs_cons (ex_assign (ev_bin (ev_sub (ev_capt (i := 2) rfl) ev_int g_any) (ev_call (ev_blt (v := .builtin "len") rfl (nb_len w) rfl) (li_cons (ev_loc (i := 1) rfl) li_nil) c_len) (o_addG false)) (as_sub (ev_capt (i := 2) rfl) ev_int)) <|
  ex_one (ex_ret (ev_loc (i := 1) rfl))⟩
theorem read_spec (w : World) (hB : Heap) (pn : Nat) (c1 c2 cc g : Addr) (x : Cs) (i p n : Nat) (hp : List SO) (hi : hget hp i = some (.list [.int p])) (hx : x.length ≤ 100000) (hpx : p ≤ 100000) (hn : n ≤ 100) (k : SV → List SO → Prop)
    (h : k (.str ((x.drop p).take n)) (hp.set i (.list [.int ((p + ((x.drop p).take n).length : Nat) : Int)]))) :
    (exRead w hB pn c1 c2 cc g).1 (retK k) ⟨[some (.int n), none, some (.obj i), some (.str x)], hp⟩ := by
  unfold exRead
  k_go
  simp only [hi]
  k_go
  have e1 : ((p : Int) + (n : Int)).toNat = p + n := by omega
  rw [if_pos (by omega), if_pos (by omega), e1, Int.toNat_natCast]
  dsimp only
  have e2 : p + n - p = n := by omega
  rw [e2]
  have e3 : ((x.drop p).take n).length ≤ n := by rw [List.length_take]; omega
  refine ⟨by decide, by decide, by omega, by decide, by omega, by decide, by decide, ?_⟩
  rw [Int.natCast_add] at h
  exact h

section
variable {w : World} {hB : Heap}
theorem call_clo {x : Cs} {la a g : Addr} {i p : Nat} {t : Tok} {n : Nat} {hp : List SO} {al : List Addr} {Z : Led} {s : Shared} {A : Around} {k : SV → List SO → Prop} {cc : Addr} {c1 c2 : Addr} {go o1 o2 oc : Obj} {t1 tc : Tok} {vs : Array Value} {dc pm ct : Value}
    (hh : A.handled = none) (hd : A.depth + 1 ≤ 600) (hu : A.units + 3 + 200 ≤ cLine) (R : Rel0 w hB hp al Z s) (hla : al[i]? = some la)
    (g1 : (g, go) ∈ Z) (g2 : go.data = .func (fnX "_law_read_on" qRead (dParams readOn) (dBody readOn) scRead [("text", c1), ("at", c2)] .none .none dc pm none (.ref cc) ct))
    (z1 : (c1, o1) ∈ Z) (d1 : o1.data = .cell (some (.str (S x) t1))) (z2 : (c2, o2) ∈ Z) (d2 : o2.data = .cell (some (.ref la))) (z3 : (cc, oc) ∈ Z) (d3 : oc.data = .fields vs) (d4 : vs[1]? = some (.str qRead tc))
    (hi : hget hp i = some (.list [.int p])) (hx : x.length ≤ 100000) (hpx : p ≤ 100000) (hn : n ≤ 100)
    (hk : k (.str ((x.drop p).take n)) (hp.set i (.list [.int ((p + ((x.drop p).take n).length : Nat) : Int)]))) :
    codeAny (model P w) A (.call (.ref g) ⟨[.int n t], []⟩) (CallP w hB al Z s k) s := by
  obtain ⟨p0, loose, mg, mb, T⟩ := R.grd.top
  have hcr : s.heap.CodeRec (.ref cc) qRead := ⟨cc, oc, vs, tc, rfl, R.frz _ z3, d3, d4⟩
  refine codeAny_call_function (by show A.depth < 1000; omega) (R.frz _ g1) g2 (by kernel_rfl) (by kernel_rfl) rfl hcr ?_
  rw [show bindArgs (fnX "_law_read_on" qRead (dParams readOn) (dBody readOn) scRead [("text", c1), ("at", c2)] .none .none dc pm none (.ref cc) ct) ⟨[.int n t], []⟩ = pure [(("size" : Str), Value.int n t)] from by unfold bindArgs; rfl]
  refine wpAny_pure ?_
  refine wpAny_newFunctionEnv (show ∀ y ∈ scRead.names, y.2 ≠ .cell by decide +kernel) (fun y hy => by
    simp only [List.mem_cons, List.not_mem_nil, or_false] at hy
    subst hy
    show scRead.names.lookup ("size" : Str) = some .local
    kernel_rfl) (fun h1 hns hsb => ?_) (by kernel_rfl)
  have keep : ∀ b o, s.heap.get? b = some o → h1.get? b = some o := fun b o e => hsb.extBut b o (Nat.ne_of_lt (Heap.lt_size e)) (Heap.get?_push_of_some _ e)
  have R1 : Rel0 w hB hp al Z { s with heap := h1, toks := s.toks + 1 } := R.frame0 (fun u_ => False) (fun u_ h => h.elim) (fun b o h u_ => keep b o h)
  refine ⟨(T.nolimit.keeps R.base).keeps keep, codeAny_func ?_⟩
  have Lold : ∀ (b : Nat) o, s.heap.get? b = some o → b < (s.heap.objs.size : Nat) := fun b o h => Heap.lt_size h
  have alive : ∀ b ∈ al, ∃ o, s.heap.get? b = some o := fun b hb => by
    obtain ⟨j, hj⟩ := List.getElem?_of_mem hb
    have hl : j < hp.length := by rw [← R.len]; exact lt_of_get hj
    obtain ⟨o', ho', _⟩ := R.live j hp[j] _ (List.getElem?_eq_getElem hl) hj
    exact ⟨o', ho'⟩
  have hol : ∃ o, h1.get? s.heap.objs.size = some o := by obtain ⟨o, _, _, e, _⟩ := hns; exact ⟨o, e⟩
  have c1old := Lold _ _ (R.frz _ z1)
  have c2old := Lold _ _ (R.frz _ z2)
  have ok : (cxRead hp.length c1 c2 cc g A s.heap.objs.size).Ok := {
    kind := by kernel_rfl
    glob := rfl
    blt := rfl
    hand := hh
    depth := by show A.depth + 1 + 2 * 0 ≤ 600; omega
    units := by show A.units + 3 + 10 * 0 + 200 ≤ cLine; omega
    nodup := by show (["size", "sign", "at", "text"] : List Str).Nodup; decide +kernel
    onodup := by simp [Cx.own]
    sloc := fun y hy => by
      simp only [List.mem_cons, Prod.mk.injEq, List.not_mem_nil, or_false] at hy
      rcases hy with ⟨rfl, _⟩ | ⟨rfl, _⟩ | ⟨_, h⟩ | ⟨_, h⟩
      · kernel_rfl
      · kernel_rfl
      · cases h
      · cases h
    scell := fun y b hy => by
      simp only [List.mem_cons, Prod.mk.injEq, List.not_mem_nil, or_false] at hy
      rcases hy with ⟨_, h⟩ | ⟨_, h⟩ | ⟨_, h⟩ | ⟨_, h⟩ <;> cases h
    sone := fun y z b hy u_ => by
      simp only [List.mem_cons, Prod.mk.injEq, List.not_mem_nil, or_false] at hy
      rcases hy with ⟨_, h⟩ | ⟨_, h⟩ | ⟨_, h⟩ | ⟨_, h⟩ <;> cases h
    scapt := fun y b hy => by
      simp only [List.mem_cons, Prod.mk.injEq, List.not_mem_nil, or_false] at hy
      rcases hy with ⟨_, h⟩ | ⟨_, h⟩ | ⟨rfl, h⟩ | ⟨rfl, h⟩
      · cases h
      · cases h
      · cases h; exact ⟨.inr (by kernel_rfl), rfl⟩
      · cases h; exact ⟨.inr (by kernel_rfl), rfl⟩ }
  have S1 : SRel w hB (cxRead hp.length c1 c2 cc g A s.heap.objs.size) ⟨[some (.int n), none, some (.obj i), some (.str x)], hp⟩ al Z { s with heap := h1, toks := s.toks + 1 } := {
    toRel0 := R1
    ok := ok
    pinl := by show hp.length ≤ al.length; rw [R.len]; exact Nat.le_refl _
    ns := by
      refine ⟨_, hns, fun j y sv e1 e2 => ?_⟩
      match j, e1, e2 with
      | 0, e1, e2 =>
        simp at e1 e2
        subst e1 e2
        exact ⟨.int n t, by simp, by exact ⟨_, rfl⟩⟩
      | 1, e1, e2 => simp at e2
      | 2, e1, e2 => simp at e1
      | 3, e1, e2 => simp at e1
      | j + 4, e1, e2 => simp at e1
    cell := fun j y b h => by
      match j, h with
      | 0, h => simp at h
      | 1, h => simp at h
      | 2, h =>
        simp at h
        obtain ⟨rfl, rfl⟩ := h
        refine ⟨some (.ref la), ⟨o2, keep _ _ (R.frz _ z2), d2⟩, fun sv e => ?_⟩
        simp at e
        subst e
        exact ⟨_, rfl, by exact ⟨la, hla, rfl⟩⟩
      | 3, h =>
        simp at h
        obtain ⟨rfl, rfl⟩ := h
        refine ⟨some (.str (S x) t1), ⟨o1, keep _ _ (R.frz _ z1), d1⟩, fun sv e => ?_⟩
        simp at e
        subst e
        exact ⟨_, rfl, by exact ⟨_, rfl⟩⟩
      | j + 4, h => simp at h
    own := fun b hb => by
      have : b = s.heap.objs.size := by simpa [Cx.own] using hb
      subst this
      refine ⟨?_, ?_, fun hm => ?_, hol⟩
      · cases q : hB.get? s.heap.objs.size with
        | none => rfl
        | some o => exact absurd (Lold _ _ (R.base _ _ q)) (Nat.lt_irrefl _)
      · obtain ⟨ps, hq, _⟩ := R.tab
        exact Nat.ne_of_gt (Lold _ _ hq)
      · obtain ⟨o', ho'⟩ := alive _ hm
        exact absurd (Lold _ _ ho') (Nat.lt_irrefl _)
    ownz := fun q hq hm => by
      have : q.1 = s.heap.objs.size := by simpa [Cx.own] using hm
      have h := Lold _ _ (R.frz q hq)
      rw [this] at h
      exact Nat.lt_irrefl _ h
    capt := fun y b hy => by
      simp only [List.mem_cons, Prod.mk.injEq, List.not_mem_nil, or_false] at hy
      rcases hy with ⟨_, h⟩ | ⟨_, h⟩ | ⟨_, h⟩ | ⟨_, h⟩
      · cases h
      · cases h
      · cases h
        exact ⟨fun hm => by
          have : c2 = s.heap.objs.size := by simpa [Cx.own] using hm
          rw [this] at c2old; exact Nat.lt_irrefl _ c2old, (R.zap _ z2).1, (R.zap _ z2).2⟩
      · cases h
        exact ⟨fun hm => by
          have : c1 = s.heap.objs.size := by simpa [Cx.own] using hm
          rw [this] at c1old; exact Nat.lt_irrefl _ c1old, (R.zap _ z1).1, (R.zap _ z1).2⟩ }
  have B := (exRead w hB hp.length c1 c2 cc g).2 A s.heap.objs.size _ al Z _ _ S1 (read_spec w hB hp.length c1 c2 cc g x i p n hp hi hx hpx hn k hk)
  refine wpAny_mono B (fun f s' h => ?_) fun u_ u_ h => h.elim
  obtain ⟨st', al', Z', fl, p, r, hk⟩ := h
  have fin : Post0 w hB al Z s st'.heap al' Z' s' := {
    rel := p.rel.toRel0
    pre := pre_of fun j hj => p.pin j (by show j < hp.length; rw [← R.len]; exact hj)
    sub := p.sub
    frame := fun b o h hn ht => p.frame b o (keep b o h) (fun hm => (List.mem_append.mp hm).elim (fun hm => by
      have : b = s.heap.objs.size := by simpa [Cx.own] using hm
      have h9 := Lold _ _ h
      rw [this] at h9
      exact absurd h9 (Nat.lt_irrefl _)) hn) ht
    fresh := fun b h => (p.fresh b h).imp id fun q => by
      cases e : s.heap.get? b with
      | none => rfl
      | some o => rw [keep _ _ e] at q; cases q
    zfresh := fun z h => (p.zfresh z h).imp id fun q => by
      cases e : s.heap.get? z.1 with
      | none => rfl
      | some o => rw [keep _ _ e] at q; cases q
    gens := p.gens
    os := p.os }
  cases fl with
  | next =>
    simp only [FR] at r
    subst r
    exact ⟨.none, .none, st'.heap, al', Z', rfl, fin, by exact Eq.refl _, hk⟩
  | brk => exact hk.elim
  | cont => exact hk.elim
  | ret sv =>
    obtain ⟨v, rfl, r⟩ := r
    exact ⟨v, sv, st'.heap, al', Z', rfl, fin, r, hk⟩
end
noncomputable def wRead (a : SV) (as : List SV) : T SV := fun k st => match a with
  | .rdr i x => args1 as fun b => asInt b (fun n => onL (hget st.heap i) fun us => one us (fun z => asInt z (fun p => x.length ≤ 100000 ∧ (0 ≤ p ∧ p ≤ 100000) ∧ (0 ≤ n ∧ n ≤ 100) ∧ k (.str ((x.drop p.toNat).take n.toNat)) (st.setH i (.list [.int (p + ((x.drop p.toNat).take n.toNat).length)]))) False) False) False
  | _ => False
noncomputable def isRdr : SV → Prop
  | .rdr w1_ w2_ => True
  | _ => False
theorem isRdr.g {a : SV} (h : isRdr a) : ∃ i x, a = .rdr i x := by
  cases a <;> first | exact h.elim | exact ⟨_, _, rfl⟩
section
variable {w : World} {hB : Heap} {c : Cx}
theorem ev_read {o : PySem.Expr} {apos pos : Pos} {es : List PySem.Expr} {wo : T SV} {wa : T (List SV)} {pl : Sem Bool}
    (hO : EvalsTo w hB c o wo) (hA : ListsTo w hB c pos es wa) (hc : 0 < c.ht)
    (hp : autoParam ((backTo pos (starEach es c.env)).any (·.1) = false) aRfl) (hl : (backTo pos (starEach es c.env)).length ≤ 30 := by exact Nat.le_of_ble_eq_true rfl)
    (he : autoParam (eval (.Call (.Attribute o "read" apos) es [] pos) c.env = (do
      let ov ← eval o c.env
      standAt apos.atName
      let (f, first) ← holding [ov] (getMethod ov "read" pl)
      callWith pos f first (backTo pos (starEach es c.env)) [])) aRfl) :
    EvalsTo w hB c (.Call (.Attribute o "read" apos) es [] pos) (fun k => wo fun a st => isRdr a ∧ wa (fun as => wRead a as k) st) := by
  intro st al Z s k R hw
  refine MethodCall_ (pl := pl) (wpAny_mono (hO st al Z s _ R hw) (fun va s1 h1 => ?_) fun u_ u_ h => h) he
  obtain ⟨st1, al1, Z1, a, p1, r1, hr, hk1⟩ := h1
  obtain ⟨i, x, rfl⟩ := hr.g
  obtain ⟨av, la, rfl, hR, hla⟩ := r1
  obtain ⟨fo, d, od, g, go, c1, o1, c2, o2, t1, cc, oc, vs, tc, dc, pm, ct, fd, m1, m2, m3, m4, m5, m6, m7, m8, m9, m10, m11, m12, m13, m14, m15, m16, m17⟩ := hR
  have hfo : fo = ⟨.type "function", some d, .func fd, fo.slots⟩ := by cases fo; simp only at m2 m3 m4; subst m2 m3 m4; rfl
  have go1 := p1.rel.frz _ m1
  rw [hfo] at go1
  have hl1 : lookIn "read" od = some (some (.ref g)) := look_some m7 (by simp)
  refine fn_method go1 (p1.rel.frz _ m5) hl1 rfl ?_
  have pt := Post.toks p1.rel (s1.toks + 1)
  refine cwAny hp hl (wpAny_mono (hA st1 al1 Z1 _ _ pt.rel hk1) (fun vs2 s2 h2 => ?_) fun u_ u_ h => h)
  obtain ⟨st2, al2, Z2, as, p2, r2, hk2⟩ := h2
  have p12 := (p1.trans pt).trans p2
  obtain ⟨b, vb, rb, hk3⟩ := args1.v hk2 r2
  obtain ⟨n, tn, hk4⟩ := asInt.v hk3 rb
  obtain ⟨us, ehp, hk5⟩ := onL.get hk4
  obtain ⟨z, hk6⟩ := one.get hk5
  obtain ⟨p, rfl, hx, ⟨hp0, hp1⟩, ⟨hn0, hn1⟩, hk7⟩ := asInt.g hk6
  have sub := p2.sub
  refine keep_fn (p2.rel.frz _ (sub _ m8)) m10 ⟨.inl rfl, ?_⟩
  obtain ⟨pn, rfl⟩ : ∃ q : Nat, p = (q : Int) := ⟨p.toNat, by omega⟩
  obtain ⟨nn, rfl⟩ : ∃ q : Nat, n = (q : Int) := ⟨n.toNat, by omega⟩
  rw [Int.toNat_natCast, Int.toNat_natCast] at hk7
  have d := R.ok.depth
  have u := R.ok.units
  refine wpAny_call (codeAny_mono (call_clo (a := av) (k := fun sv hp => k sv ⟨st2.loc, hp⟩) R.ok.hand (by omega) (by omega) p2.rel.toRel0 (pre_get p2.pre hla) (sub _ m8) m10 (sub _ m11) m12 (sub _ m13) m14 (sub _ m15) m16 m17 ehp hx (by omega) (by omega) (by rw [Int.natCast_add]; exact hk7)) fun res s' h => ?_)
  obtain ⟨v, sv, hp', al', Z', rfl, q, rv, hk⟩ := h
  exact Ret.mk (p12.trans (Post.ofGen p2.rel q)) rv hk
end
section
open PySem.Builtin PySem.Builtin.ObjectAttr
theorem slot_fn_sa : Slot "function" "__setattr__" "object.__setattr__" :=
  .of (owner := "object") (n := "__setattr__") (by rw [typeLookup_type, builtinLookup_eq_fast]; kernel_rfl) (by decide +kernel) (by decide +kernel) (by decide +kernel)
    (by first | exact .inl (by decide +kernel) | exact .inr (by decide +kernel)) (by rw [isSubtype_type]; kernel_rfl)
theorem entry_obj_sa : entryFor table "object.__setattr__" = some Builtin.«object.__setattr__» := entryFor_of_tree (by kernel_rfl)
theorem args_obj_sa (a b c : Value) : argsOk "object.__setattr__" ⟨[a, b, c], []⟩ := by
  unfold argsOk; rw [signature?_of (id := "object.__setattr__") (n := ['_', '_', 'r', 't', 't', 'a', 't', 'e', 's', '_', '_']) (o := ['t', 'c', 'e', 'j', 'b', 'o']) (by kernel_rfl) owner_obj]; kernel_rfl
theorem mro_fn : mroOf (.type "function") = pure [.type "function", .type "object"] := by rw [mroOf_type]; kernel_rfl
theorem refuse_fn (self : Value) : refuseLoop self "__setattr__" [.type "function", .type "object"] = pure () := by kernel_rfl
noncomputable abbrev emptyD0 : Obj := { cls := .type "dict", data := .dict #[] }
section
variable {w : World} {A : Around} {E : Value → Shared → Prop}
theorem fn_setattr {s : Shared} {f : Addr} {fd : FuncData} {sl : Array (Option Value)} {v : Value} {Q : Unit → Shared → Prop} (ho : s.heap.get? f = some ⟨.type "function", none, .func fd, sl⟩)
    (h : ∀ h' d od tk, (∀ b o, b ≠ f → s.heap.get? b = some o → h'.get? b = some o) → h'.get? f = some ⟨.type "function", some d, .func fd, sl⟩ → h'.get? d = some od → s.heap.objs.size ≤ d → od.cls = .type "dict" → AttrO od [("read", v)] → Q () { s with heap := h', toks := tk }) :
    wpAny (model P w) A (setAttr (.ref f) "read" v) Q E s := by
  obtain ⟨hp, g, dr, t, os⟩ := s
  have hT : ∀ t', (⟨hp, g, dr, t', os⟩ : Shared).TypeIs (.ref f) "function" := fun u_ => ⟨_, ho, rfl⟩
  have fl : f < hp.objs.size := Heap.lt_size ho
  unfold setAttr
  refine wpAny_bind (wpAny_mkText (wpAny_bind (wpAny_callSpecial?_slot (name := Str.ofString "__setattr__") (hT _) slot_fn_sa
    (wpAny_call_entry slot_fn_sa (hT _) entry_obj_sa ?_ (args_obj_sa _ _ _)))))
  rw [osa_eq, refuse_eq]
  refine wpAny_bind (wpAny_bind (wpAny_typeOf (hT _) (wpAny_bind (wpAny_of_eq mro_fn (wpAny_of_eq (refuse_fn _) ?_)))))
  refine wpAny_bind (wpAny_typeOf (hT _) ?_)
  refine wpAny_bind (wpAny_of_eq fn_no_read ?_)
  refine wpAny_bind (wpAny_of_eq (a := none) rfl ?_)
  dsimp only
  unfold storeInOwnDict
  refine wpAny_bind (wpAny_of_eq (a := ()) (by rfl) ?_)
  rw [if_neg (by decide)]
  unfold ownDictForStores
  dsimp only
  unfold instanceDict
  refine wpAny_bind (wpAny_bind (wpAny_loadPart ho ?_))
  dsimp only
  rw [if_neg (by decide +kernel)]
  refine wpAny_bind (wpAny_alloc ?_)
  have k1 : ∀ b o, hp.get? b = some o → (hp.push emptyD0).get? b = some o := fun b o e => Heap.get?_push_of_some _ e
  refine wpAny_bind (wpAny_update (k1 _ _ ho) ?_)
  refine wpAny_of_eq (a := some hp.objs.size) (by rfl) ?_
  dsimp only
  unfold storeInDict
  refine wpAny_bind (wpAny_of_eq (a := ()) (by rfl) ?_)
  have hne : hp.objs.size ≠ f := Nat.ne_of_gt fl
  have g1 : ((hp.push emptyD0).update f fun o => { o with dict := some hp.objs.size }).get? f = some ⟨.type "function", some hp.objs.size, .func fd, sl⟩ := Heap.get?_update_self _ (k1 _ _ ho) rfl
  have g2 : ((hp.push emptyD0).update f fun o => { o with dict := some hp.objs.size }).get? hp.objs.size = some emptyD0 := ((Heap.SameBut.update (hp.push emptyD0) f _).2 _ hne).trans (Heap.get?_push_size _ rfl)
  have keep2 : ∀ b o, b ≠ f → hp.get? b = some o → ((hp.push emptyD0).update f fun o => { o with dict := some hp.objs.size }).get? b = some o := fun b o hb e => ((Heap.SameBut.update (hp.push emptyD0) f _).2 _ hb).trans (k1 _ _ e)
  refine wpAny_bind (wpAny_nsSet1EFk (m := fun u_ => none) ⟨emptyD0, #[], 0, g2, rfl, fun e h => by simp at h, List.Pairwise.nil, fun x => rfl⟩ fun h' hn' hs' hod => ?_)
  obtain ⟨od, ho', hcl, _⟩ := hod _ g2
  obtain ⟨od2, es, ep, e2, hdat, hst, hun, hl⟩ := hn'
  rw [ho'] at e2
  cases e2
  have hsz : es.size ≤ [(("read" : Str), v)].length := uniq_size hst hun fun y => by
    rw [hl y, List.lookup_cons]
    dsimp only
    by_cases hy : y = ("read" : Str)
    · subst hy; simp
    · have : (y == ("read" : Str)) = false := by simpa using hy
      rw [if_neg hy, this]; rfl
  refine wpAny_bind (wpAny_lookBehind ho' (by rw [hdat]; exact pastItsLine_dict (by rw [sizeLine_eq]; simp only [List.length_cons, List.length_nil] at hsz; omega)) ?_)
  refine wpAny_pure ⟨_, rfl, ?_⟩
  refine wpAny_pure (h h' hp.objs.size od _ (fun b o hb e => ?_) ?_ ho' (Nat.le_refl _) (by rw [hcl]) ⟨es, ep, hdat, hst, hun, fun y => ?_⟩)
  · exact (hs'.2 _ (Nat.ne_of_lt (Heap.lt_size e))).trans (keep2 _ _ hb e)
  · exact (hs'.2 _ hne.symm).trans g1
  · rw [hl y, List.lookup_cons]
    dsimp only
    by_cases hy : y = ("read" : Str)
    · subst hy; simp
    · have : (y == ("read" : Str)) = false := by simpa using hy
      rw [if_neg hy, this]; rfl
end
end
theorem among_other {pos : Pos} {a b : Int} {c : Value} : ∀ (l : List Value), TriplesOk l → ¬ (a = pos.line ∧ b = pos.col) → codeAmong pos (l ++ [rawInt a, rawInt b, c]) = codeAmong pos l := by
  intro l h hn
  fun_induction TriplesOk l with
  | case1 =>
    simp only [List.nil_append, codeAmong, rawInt]
    rw [if_neg (by simpa using hn)]
  | case2 a' t b' u x rest ih =>
    simp only [List.cons_append, codeAmong]
    rw [ih h]
  | case3 l h1 h2 => exact h.elim
section
variable {w : World} {hB : Heap} {c : Cx} {st : St} {al : List Addr} {Z : Led} {s : Shared}
theorem Post.tabX {s' : Shared} (R : SRel w hB c st al Z s) (ex : Led) (he : ∀ q ∈ ex, s'.heap.get? q.1 = some q.2 ∧ s.heap.objs.size ≤ q.1)
    (hk : ∀ b o, b ≠ tbA → s.heap.get? b = some o → s'.heap.get? b = some o) {ps : Array Value} (hps : s'.heap.get? tbA = some (tabObj ps)) (hti : TabIn (ex ++ Z) ps) (hg : autoParam (s'.gens = s.gens) aRfl) (hos : autoParam (s'.os = s.os) aRfl) :
    Post w hB c al Z s st al (ex ++ Z) s' := by
  have fresh : ∀ b, s.heap.objs.size ≤ b → s.heap.get? b = none := fun b hb => Heap.get?_none_of_le hb
  have tl : (tbA : Nat) < s.heap.objs.size := by obtain ⟨ps, e, _⟩ := R.tab; exact Heap.lt_size e
  have ml : (sysModules : Nat) < s.heap.objs.size := by
    obtain ⟨_, _, _, _, T⟩ := R.grd.top
    exact modules_low (T.nolimit.keeps R.base)
  have sub : ∀ q ∈ Z, q ∈ ex ++ Z := fun q h => List.mem_append_right _ h
  refine ⟨{ grd := R.grd, base := fun b o e => hk b o (fun q => by rw [q, R.grd.hid] at e; cases e) (R.base b o e), tab := ⟨ps, hps, hti⟩, len := R.len, live := fun i so a e1 e2 => ?_, frz := fun q hq => ?_, new := R.new, nodup := R.nodup, zap := fun q hq => ?_, nomod := ⟨R.nomod.1, fun q hq hc => ?_⟩, ok := R.ok, pinl := R.pinl, ns := ?_, cell := fun i x a h => ?_, own := fun a ha => ?_, ownz := fun q hq hm => ?_, capt := R.capt },
    List.prefix_refl _, sub, fun b o h u_ ht => hk b o ht h, fun u_ h => .inl h, fun q hq => ?_, hg, hos⟩
  · obtain ⟨o, ho, r⟩ := R.live i so a e1 e2
    exact ⟨o, hk _ _ (R.new _ (List.mem_of_getElem? e2)).2 ho, r.mono sub (List.prefix_refl _)⟩
  · rcases List.mem_append.mp hq with hq | hq
    · exact (he q hq).1
    · exact hk _ _ (R.zap q hq).2 (R.frz q hq)
  · rcases List.mem_append.mp hq with hq | hq
    · refine ⟨fun hm => ?_, Nat.ne_of_gt (Nat.lt_of_lt_of_le tl (he q hq).2)⟩
      obtain ⟨o, ho⟩ := R.alive hm
      rw [fresh _ (he q hq).2] at ho; cases ho
    · exact R.zap q hq
  · rcases List.mem_append.mp hq with hq | hq
    · exact Nat.ne_of_gt (Nat.lt_of_lt_of_le ml (he q hq).2)
    · exact R.nomod.2 q hq hc
  · obtain ⟨m, ⟨o, es, ep, e, r⟩, hm⟩ := R.ns
    exact ⟨m, ⟨o, es, ep, hk _ _ (R.own _ (.head _)).2.1 e, r⟩, fun i x sv e1 e2 => let ⟨v, p, q⟩ := hm i x sv e1 e2; ⟨v, p, q.mono sub (List.prefix_refl _)⟩⟩
  · obtain ⟨vo, ⟨o, e, r⟩, hv⟩ := R.cell i x a h
    have hta : a ≠ tbA := by
      rcases h with h | h
      · exact (R.own a (.tail _ (R.ok.scell x a (List.mem_of_getElem? h)).2.2)).2.1
      · exact (R.capt x a (List.mem_of_getElem? h)).2.2
    exact ⟨vo, ⟨o, hk _ _ hta e, r⟩, fun sv e' => let ⟨v, p, q⟩ := hv sv e'; ⟨v, p, q.mono sub (List.prefix_refl _)⟩⟩
  · obtain ⟨p1, p2, p3, o, p4⟩ := R.own a ha
    exact ⟨p1, p2, p3, o, hk _ _ p2 p4⟩
  · rcases List.mem_append.mp hq with hq | hq
    · obtain ⟨o, ho⟩ := (R.own _ hm).2.2.2
      rw [fresh _ (he q hq).2] at ho; cases ho
    · exact R.ownz q hq hm
  · rcases List.mem_append.mp hq with hq | hq
    · exact .inr (fresh _ (he q hq).2)
    · exact .inl hq

theorem boot_at (R : SRel w hB c st al Z s) : ∃ mg, s.heap.Ns mainGlobals mg ∧ mainGlobals ≠ tbA ∧ s.heap.BuiltinsAt mg tbA ∧ CodeHd s.heap 177 tbA := by
  obtain ⟨mg, bm, ob, h1, h2, h3, h4, h5, h6, h7⟩ := R.grd.boot
  have hm : mainGlobals ≠ tbA := by decide
  refine ⟨mg, h1.keeps R.base, hm, ⟨bm, ob, h2, h3, fun e => ?_, fun e => ?_, R.base _ _ h4, h5, h6, h7⟩, R.grd.code.keeps R.base⟩
  · obtain ⟨o, es, ep, e1, e2, _⟩ := h1
    rw [← e, h4] at e1
    cases e1
    rw [h7] at e2; cases e2
  · rw [e, R.grd.hid] at h4; cases h4

inductive ReadMade (w : World) (hB : Heap) (c : Cx) (al : List Addr) (Z : Led) (s : Shared) (st : St) (c1 c2 : Addr) : Value → Shared → Prop
  | mk (Z' : Led) (g : Addr) (go : Obj) (cc : Addr) (oc : Obj) (vs : Array Value) (t : Tok) (dc pm ct : Value) (s' : Shared) (P : Post w hB c al Z s st al Z' s') (m1 : (g, go) ∈ Z') (m2 : go.cls = .type "function")
    (m3 : go.data = .func (fnX "_law_read_on" qRead (dParams readOn) (dBody readOn) scRead [("text", c1), ("at", c2)] .none .none dc pm none (.ref cc) ct)) (m4 : (cc, oc) ∈ Z') (m5 : oc.data = .fields vs) (m6 : vs[1]? = some (.str qRead t)) : ReadMade w hB c al Z s st c1 c2 (.ref g) s'
inductive LamMade (w : World) (hB : Heap) (c : Cx) (al : List Addr) (Z : Led) (s : Shared) (st : St) : Value → Shared → Prop
  | mk (f : Addr) (fd : FuncData) (s' : Shared) (P : Post w hB c al Z s st al Z s') (h : s'.heap.get? f = some ⟨.type "function", none, .func fd, #[]⟩) (g : s.heap.objs.size ≤ f) : LamMade w hB c al Z s st (.ref f) s'
theorem mk_read {c1 c2 : Addr} {line : Nat} {E : Value → Shared → Prop} (R : SRel w hB c st al Z s) (hcl : closureFor scRead c.env = pure [(("text" : Str), c1), ("at", c2)]) (hcode : c.env.code = .ref 177) :
    wpAny (model P w) c.A (makeFunction "_law_read_on" qRead (dParams readOn) (.stmts (dBody readOn)) scRead c.env [] [] [] (dPos readOn) line) (ReadMade w hB c al Z s st c1 c2) E s := by
  obtain ⟨mg, hg, hgP, hb, hC⟩ := boot_at R
  obtain ⟨ps, hP, ht, hin⟩ := R.tab
  have tl : (tbA : Nat) < s.heap.objs.size := Heap.lt_size hP
  cases hca : codeAmong (dPos readOn) ps.toList with
  | none =>
    refine makeFunction_K (mg := mg) hcl R.ok.glob hg hcode hC hP ht hca hgP hb fun c' ctv doc h' tk hx hge hlt hrec htb => ?_
    obtain ⟨cc, oc, vs, t, e, hoc, hd, hv⟩ := hrec
    cases e
    have hsz : s.heap.objs.size ≤ h'.objs.size := Nat.le_of_lt (Nat.lt_of_le_of_lt hge hlt)
    refine ⟨_, h'.objs.size, fnMade "_law_read_on" qRead (dParams readOn) (dBody readOn) scRead [("text", c1), ("at", c2)] doc ((mg "__name__").getD .none) c' ctv, c', oc, vs, t, _, _, _, _,
      Post.tabX (s' := { s with heap := h'.push (fnMade "_law_read_on" qRead (dParams readOn) (dBody readOn) scRead [("text", c1), ("at", c2)] doc ((mg "__name__").getD .none) c' ctv), toks := tk }) R
        [(h'.objs.size, fnMade "_law_read_on" qRead (dParams readOn) (dBody readOn) scRead [("text", c1), ("at", c2)] doc ((mg "__name__").getD .none) c' ctv), (c', oc)] (fun q hq => ?_) (fun b o hb e => Heap.get?_push_of_some _ (hx b o hb e)) (Heap.get?_push_of_some _ htb) ⟨?_, fun cv ecv => ?_⟩,
      List.mem_append_left _ (.head _), rfl, rfl, List.mem_append_left _ (.tail _ (.head _)), hd, hv⟩
    · simp only [List.mem_cons, List.not_mem_nil, or_false] at hq
      rcases hq with rfl | rfl
      · exact ⟨Heap.get?_push_size _ rfl, hsz⟩
      · exact ⟨Heap.get?_push_of_some _ hoc, hge⟩
    · rw [Array.toList_append]; exact TriplesOk_snoc _ _ _ _ ht
    · rw [Array.toList_append] at ecv
      have := codeAmong_snoc (c := .ref c') ps.toList ht hca
      rw [this] at ecv
      cases ecv
      exact ⟨c', oc, vs, t, rfl, List.mem_append_left _ (.tail _ (.head _)), hd, hv⟩
  | some cv =>
    obtain ⟨cc, oc, vs, t, rfl, hz, hd, hv⟩ := hin cv hca
    refine makeFunction_hit (mg := mg) hcl R.ok.glob hg hcode hC hP ht hca hb fun ctv doc h' tk hk hsz => ?_
    refine ⟨_, h'.objs.size, fnMade "_law_read_on" qRead (dParams readOn) (dBody readOn) scRead [("text", c1), ("at", c2)] doc ((mg "__name__").getD .none) cc ctv, cc, oc, vs, t, _, _, _, _,
      Post.tabX (s' := { s with heap := h'.push (fnMade "_law_read_on" qRead (dParams readOn) (dBody readOn) scRead [("text", c1), ("at", c2)] doc ((mg "__name__").getD .none) cc ctv), toks := tk }) R
        [(h'.objs.size, fnMade "_law_read_on" qRead (dParams readOn) (dBody readOn) scRead [("text", c1), ("at", c2)] doc ((mg "__name__").getD .none) cc ctv)] (fun q hq => ?_) (fun b o hb e => Heap.get?_push_of_some _ (hk b o e)) (Heap.get?_push_of_some _ (hk _ _ hP)) ⟨ht, fun cv ecv => ?_⟩,
      List.mem_append_left _ (.head _), rfl, rfl, List.mem_append_right _ hz, hd, hv⟩
    · simp only [List.mem_cons, List.not_mem_nil, or_false] at hq
      subst hq
      exact ⟨Heap.get?_push_size _ rfl, hsz⟩
    · rw [hca] at ecv
      cases ecv
      exact ⟨cc, oc, vs, t, rfl, List.mem_append_right _ hz, hd, hv⟩

theorem mk_lam {name qual : Str} {params : Arguments} {body : PySem.Expr} {scope : Scope} {pos : Pos} {line : Nat} {E : Value → Shared → Prop} (R : SRel w hB c st al Z s) (hcl : closureFor scope c.env = pure []) (hcode : c.env.code = .ref 177) (hne : ¬ (((pos.line : Nat) : Int) = ((dPos readOn).line : Nat) ∧ ((pos.col : Nat) : Int) = ((dPos readOn).col : Nat))) :
    wpAny (model P w) c.A (makeFunction name qual params (.expr body) scope c.env [] [] [] pos line) (LamMade w hB c al Z s st) E s := by
  obtain ⟨mg, hg, hgP, hb, hC⟩ := boot_at R
  obtain ⟨ps, hP, ht, hin⟩ := R.tab
  cases hca : codeAmong pos ps.toList with
  | none =>
    refine kla_makeFunction (mg := mg) hcl R.ok.glob hg hcode hC hP ht hca hgP hb fun c' ctv h' tk hx hge hlt hrec htb => ?_
    refine ⟨h'.objs.size, _, _, ?_, Heap.get?_push_size _ rfl, Nat.le_of_lt (Nat.lt_of_le_of_lt hge hlt)⟩
    have := Post.tabX (s' := { s with heap := h'.push (kla_obj name qual params body scope [] ((mg "__name__").getD .none) c' ctv), toks := tk }) R [] (fun q hq => by simp at hq) (fun b o hb e => Heap.get?_push_of_some _ (hx b o hb e)) (Heap.get?_push_of_some _ htb) ⟨by rw [Array.toList_append]; exact TriplesOk_snoc _ _ _ _ ht, fun cv ecv => by
      rw [Array.toList_append] at ecv
      rw [among_other ps.toList ht hne] at ecv
      exact hin cv ecv⟩
    simpa using this
  | some cv =>
    refine kla_makeFunctionHit (mg := mg) hcl R.ok.glob hg hcode hC hP ht hca hb fun ctv h' tk hk hsz => ?_
    refine ⟨h'.objs.size, _, _, ?_, Heap.get?_push_size _ rfl, hsz⟩
    exact Post.keep (s' := { s with heap := h'.push _, toks := tk }) R fun b o e => Heap.get?_push_of_some _ (hk b o e)
end
structure PostF (w : World) (hB : Heap) (c : Cx) (al : List Addr) (Z : Led) (s : Shared) (st' : St) (al' : List Addr) (Z' : Led) (s' : Shared) : Prop where
  rel : Rel0 w hB st'.heap al' Z' s'
  pin : ∀ i, i < c.pin → al'[i]? = al[i]?
  sub : ∀ p ∈ Z, p ∈ Z'
  frame : Frame (c.own ++ al) s.heap s'.heap
  fresh : ∀ a ∈ al', a ∈ al ∨ s.heap.get? a = none
  zfresh : ∀ p ∈ Z', p ∈ Z ∨ s.heap.get? p.1 = none ∨ p.1 ∈ c.own
  gens : s'.gens = s.gens
  os : s'.os = s.os
theorem PostS.toF {w : World} {hB : Heap} {c : Cx} {st1 : St} {al al1 : List Addr} {Z Z1 : Led} {s s1 : Shared} (p : PostS w hB c al Z s st1 al1 Z1 s1) : PostF w hB c al Z s st1 al1 Z1 s1 :=
  ⟨p.rel.toRel0, p.pin, p.sub, p.frame, p.fresh, fun q h => (p.zfresh q h).imp id .inl, p.gens, p.os⟩
theorem PostS.transF {w : World} {hB : Heap} {c : Cx} {st1 st2 : St} {al al1 al2 : List Addr} {Z Z1 Z2 : Led} {s s1 s2 : Shared} (p : PostS w hB c al Z s st1 al1 Z1 s1) (q : PostF w hB c al1 Z1 s1 st2 al2 Z2 s2) : PostF w hB c al Z s st2 al2 Z2 s2 where
  rel := q.rel
  pin := fun i hi => (q.pin i hi).trans (p.pin i hi)
  sub := fun x h => q.sub _ (p.sub _ h)
  frame := fun b o h hn ht => by
    refine q.frame b o (p.frame b o h hn ht) (fun hm => ?_) ht
    rcases List.mem_append.mp hm with hm | hm
    · exact hn (List.mem_append_left _ hm)
    · rcases p.fresh b hm with hm | hm
      · exact hn (List.mem_append_right _ hm)
      · rw [hm] at h; cases h
  fresh := fun a h => by
    rcases q.fresh a h with h | h
    · exact p.fresh a h
    · right
      cases hs : s.heap.get? a with
      | none => rfl
      | some o =>
        obtain ⟨o', e⟩ := p.there _ _ hs
        rw [e] at h; cases h
  zfresh := fun x h => by
    rcases q.zfresh x h with h1 | h1 | h1
    · exact (p.zfresh x h1).imp id .inl
    · right; left
      cases hs : s.heap.get? x.1 with
      | none => rfl
      | some o =>
        obtain ⟨o', e⟩ := p.there _ _ hs
        rw [e] at h1; cases h1
    · exact .inr (.inr h1)
  gens := q.gens.trans p.gens
  os := q.os.trans p.os
section
variable {β γ : Type} (w : World) (hB : Heap) (c : Cx)
inductive RetF (al : List Addr) (Z : Led) (s : Shared) (R : Led → List Addr → β → γ → Prop) (k : β → St → Prop) (x : γ) (s' : Shared) : Prop
  | intro (st' : St) (al' : List Addr) (Z' : Led) (b : β) (p : PostF w hB c al Z s st' al' Z' s') (r : R Z' al' b x) (hk : k b st') : RetF al Z s R k x s'
noncomputable def ExecsF (es : List PySem.Stmt) (W : T AFl) : Prop := ∀ st al Z s k, SRel w hB c st al Z s → W k st → WP w c.A (execs es c.env) (RetF w hB c al Z s (FR w) k) s
end
section
variable {w : World} {hB : Heap}
theorem call_genF {fa : Addr} {body : List PySem.Stmt} {scope : Scope} {qual : Str} {cdv : Value} {names : List Str} {n ht pn : Nat} {mk : Around → Addr → Cx} {W : T AFl} (FI : FnIs w hB fa body scope qual cdv names) (CI : CxIs scope qual fa cdv names n ht pn mk)
    (hb : ∀ A L, ExecsF w hB (mk A L) body W) {A : Around} (hh : A.handled = none) (hd : A.depth + 1 + 2 * ht ≤ 600) (hu : A.units + 3 + 10 * ht + 200 ≤ cLine)
    {hp : List SO} {al : List Addr} {Z : Led} {s : Shared} {as : List SV} {vals : List Value} {k : SV → List SO → Prop} (R : Rel0 w hB hp al Z s) (hv : VRs w Z al as vals) (hlen : as.length = names.length) (hpn : hp.length = pn)
    (hw : W (retK k) ⟨initLoc as n, hp⟩) :
    codeAny (model P w) A (.call (.ref fa) ⟨vals, []⟩) (CallP w hB al Z s k) s := by
  obtain ⟨o, fd, ho, hdt, e1, e2, e3, e4, e5, e6, e7, hbind⟩ := FI.fn
  have hvl := hv.length
  obtain ⟨p, loose, mg, mb, T⟩ := R.grd.top
  refine codeAny_call_function (by show A.depth < 1000; omega) (R.base _ _ ho) hdt (by rw [e1]; exact FI.co) (by rw [e1]; exact FI.gen) e4 (by rw [e6, e5]; exact FI.code.keeps R.base) ?_
  rw [hbind vals (hvl.trans hlen)]
  refine wpAny_pure ?_
  rw [e1, e2, e3, e5, e6, e7]
  refine wpAny_newFunctionEnv_cells FI.kind (fun x hx => ?_) fun env he s1 x => ?_
  · obtain ⟨y, u⟩ := x
    have hy : y ∈ names := (List.of_mem_zip hx).1
    have hmem : y ∈ (mk A s.heap.objs.size).slots.map (·.1) := by
      have := CI.names A s.heap.objs.size
      rw [← this] at hy
      exact List.mem_of_mem_take hy
    obtain ⟨⟨y', sl⟩, hm, rfl⟩ := List.mem_map.mp hmem
    cases sl with
    | loc => exact .inl (CI.sloc _ _ _ hm)
    | cell a => have := CI.scell _ _ _ _ hm; exact .inr ⟨this.1, by rw [this.2]; rfl⟩
    | capt a => exact absurd hm (CI.scapt _ _ _ _)
  obtain ⟨hs1, tk, rfl, hk1⟩ := x.done
  have he' : env = envOfC qual scope s.heap.objs.size fa cdv := he
  subst he'
  have R1 : Rel0 w hB hp al Z { s with heap := hs1, toks := tk } := R.frame0 (fun u_ => False) (fun u_ h => h.elim) (fun b o h u_ => hk1 b o h)
  refine ⟨(T.nolimit.keeps R.base).keeps hk1, codeAny_func ?_⟩
  have fr := R.fresh
  have cge : ∀ b : Nat, b ∈ (mk A s.heap.objs.size).cells → (s.heap.objs.size : Nat) < b := fun b hb' => by
    obtain ⟨y, hy⟩ := CI.cells _ _ _ hb'
    have hm := mem_of_lookup (CI.scell _ _ _ _ hy).2
    rcases cellsFrom_ge _ _ _ _ _ hm with h | h
    · cases h
    · exact h
  have Lold : ∀ (b : Nat) o, s.heap.get? b = some o → b < (s.heap.objs.size : Nat) := fun b o h => Heap.lt_size h
  have ownge : ∀ b : Nat, b ∈ (mk A s.heap.objs.size).own → (s.heap.objs.size : Nat) ≤ b := fun b hb' => by
    rcases List.mem_cons.mp hb' with rfl | hb'
    · rw [CI.env]; exact Nat.le_refl _
    · exact Nat.le_of_lt (cge b hb')
  have ok : (mk A s.heap.objs.size).Ok := {
    kind := by rw [CI.env]; exact FI.kind
    glob := by rw [CI.env]; rfl
    blt := by rw [CI.env]; rfl
    hand := by rw [CI.A]; exact hh
    depth := by rw [CI.A, CI.ht]; exact hd
    units := by rw [CI.A, CI.ht]; exact hu
    nodup := CI.nodup _ _
    onodup := by
      refine List.nodup_cons.mpr ⟨fun h => ?_, ?_⟩
      · have := cge _ h
        rw [CI.env] at this
        exact Nat.lt_irrefl _ this
      · exact CI.cnodup _ _
    sloc := fun y hy => by rw [CI.env]; exact CI.sloc _ _ _ hy
    scell := fun y b hy => by
      have := CI.scell _ _ _ _ hy
      exact ⟨by rw [CI.env]; exact this.1, by rw [CI.env]; exact this.2, CI.cellm _ _ _ _ hy⟩
    sone := fun y z b hy hz => by
      have h1 := mem_of_lookup (CI.scell _ _ _ _ hy).2
      have h2 := mem_of_lookup (CI.scell _ _ _ _ hz).2
      obtain ⟨i, hi, ei⟩ := List.getElem_of_mem h1
      obtain ⟨j, hj, ej⟩ := List.getElem_of_mem h2
      have pw := List.pairwise_iff_getElem.mp x.apart
      rcases Nat.lt_trichotomy i j with q | q | q
      · have := pw i j hi hj q; simp only [envOfC] at this; rw [ei, ej] at this; exact absurd rfl this
      · subst q; rw [ei] at ej; injection ej
      · have := pw j i hj hi q; simp only [envOfC] at this; rw [ei, ej] at this; exact absurd rfl this
    scapt := fun y b hy => absurd hy (CI.scapt _ _ _ _) }
  have sn : ∀ {i : Nat} {y : Str} {sl : Slt} {sv : SV}, (mk A s.heap.objs.size).slots[i]? = some (y, sl) → (initLoc as n)[i]? = some (some sv) → names[i]? = some y ∧ as[i]? = some sv := by
    intro i y sl sv h1 h2
    have hi : as[i]? = some sv := by
      unfold initLoc at h2
      rcases Nat.lt_or_ge i as.length with q | q
      · rw [List.getElem?_append_left (by simpa using q)] at h2
        simpa using h2
      · rw [List.getElem?_append_right (by simpa using q)] at h2
        rw [List.getElem?_replicate] at h2
        split at h2 <;> cases h2
    have hlt : i < as.length := by
      rcases Nat.lt_or_ge i as.length with q | q
      · exact q
      · rw [List.getElem?_eq_none q] at hi; cases hi
    refine ⟨?_, hi⟩
    rw [← CI.names A s.heap.objs.size, List.getElem?_take, if_pos (by omega), List.getElem?_map, h1]
    rfl
  have zn : ((names.zip vals).map (·.1)).Nodup := by
    rw [List.map_fst_zip (by omega)]
    exact FI.nodup
  have S1 : SRel w hB (mk A s.heap.objs.size) ⟨initLoc as n, hp⟩ al Z { s with heap := hs1, toks := tk } := {
    toRel0 := R1
    ok := ok
    pinl := by rw [CI.pin, ← hpn, R.len]; exact Nat.le_refl _
    ns := by
      refine ⟨_, by rw [CI.env]; exact x.toInCall.ns, fun i y sv h1 h2 => ?_⟩
      obtain ⟨hy, hsv⟩ := sn h1 h2
      obtain ⟨v, hm, rv⟩ := VRs.zip_mem hv hy hsv
      exact ⟨v, bindL_get (CI.sloc _ _ _ (List.mem_of_getElem? h1)) _ _ zn (.inl hm), rv⟩
    cell := fun i y b h => by
      rcases h with h | h
      · have hc := CI.scell _ _ _ _ (List.mem_of_getElem? h)
        refine ⟨_, x.cell y b hc.2, fun sv h2 => ?_⟩
        obtain ⟨hy, hsv⟩ := sn h h2
        obtain ⟨v, hm, rv⟩ := VRs.zip_mem hv hy hsv
        exact ⟨v, bindC_get hc.1 _ _ zn (.inl hm), rv⟩
      · exact absurd (List.mem_of_getElem? h) (CI.scapt _ _ _ _)
    own := fun b hb' => by
      have hge := ownge b hb'
      refine ⟨?_, ?_, fun hm => ?_, ?_⟩
      · cases q : hB.get? b with
        | none => rfl
        | some o => exact absurd (Lold _ _ (R.base _ _ q)) (Nat.not_lt.mpr hge)
      · obtain ⟨ps, hq, _⟩ := R.tab
        have := Lold _ _ hq
        exact fun e => by rw [e] at hge; omega
      · obtain ⟨i, hi⟩ := List.getElem?_of_mem hm
        have hl : i < hp.length := by
          rw [← R.len]
          rcases Nat.lt_or_ge i al.length with q | q
          · exact q
          · rw [List.getElem?_eq_none q] at hi; cases hi
        obtain ⟨o', ho', _⟩ := R.live i hp[i] _ (List.getElem?_eq_getElem hl) hi
        exact absurd (Lold _ _ ho') (Nat.not_lt.mpr hge)
      · rcases List.mem_cons.mp hb' with rfl | hb'
        · obtain ⟨o', _, _, e, _⟩ := x.toInCall.ns
          exact ⟨o', by rw [CI.env]; exact e⟩
        · obtain ⟨y, hy⟩ := CI.cells _ _ _ hb'
          obtain ⟨o', e, _⟩ := x.cell y b (CI.scell _ _ _ _ hy).2
          exact ⟨o', e⟩
    ownz := fun q hq hm => by
      exact absurd (Lold _ _ (R.frz q hq)) (Nat.not_lt.mpr (ownge _ hm))
    capt := fun y b hy => absurd hy (CI.scapt _ _ _ _) }
  have fin : ∀ {st' : St} {al' : List Addr} {Z' : Led} {s' : Shared}, PostF w hB (mk A s.heap.objs.size) al Z { s with heap := hs1, toks := tk } st' al' Z' s' → Post0 w hB al Z s st'.heap al' Z' s' := fun {st' al' Z' s'} p => {
    rel := p.rel
    pre := pre_of fun i hi => p.pin i (by rw [CI.pin, ← hpn, ← R.len]; exact hi)
    sub := p.sub
    frame := fun b o h hn ht => p.frame b o (hk1 b o h) (fun hm => (List.mem_append.mp hm).elim (fun hm => absurd (Lold _ _ h) (Nat.not_lt.mpr (ownge _ hm))) hn) ht
    fresh := fun b h => (p.fresh b h).imp id fun q => by
      cases e : s.heap.get? b with
      | none => rfl
      | some o => rw [hk1 _ _ e] at q; cases q
    zfresh := fun z h => (p.zfresh z h).imp id fun q => by
      cases e : s.heap.get? z.1 with
      | none => rfl
      | some o =>
        rcases q with q | q
        · rw [hk1 _ _ e] at q; cases q
        · exact absurd (Lold _ _ e) (Nat.not_lt.mpr (ownge _ q))
    gens := p.gens
    os := p.os }
  have B := hb A s.heap.objs.size ⟨initLoc as n, hp⟩ al Z _ _ S1 hw
  rw [CI.A, CI.env] at B
  refine wpAny_mono B (fun f s' h => ?_) fun u_ u_ h => h.elim
  obtain ⟨st', al', Z', fl, p, r, hk⟩ := h
  cases fl with
  | next =>
    simp only [FR] at r
    subst r
    exact ⟨.none, .none, st'.heap, al', Z', rfl, fin p, by exact Eq.refl _, hk⟩
  | brk => exact hk.elim
  | cont => exact hk.elim
  | ret sv =>
    obtain ⟨v, rfl, r⟩ := r
    exact ⟨v, sv, st'.heap, al', Z', rfl, fin p, r, hk⟩
theorem exs_consF {c : Cx} {e : PySem.Stmt} {es : List PySem.Stmt} {w1 w2 : T AFl} (h1 : ExecTo w hB c e w1) (h2 : ExecsF w hB c es w2) : ExecsF w hB c (e :: es) (wSeq w1 w2) := by
  intro st al Z s k R hw
  refine wpAny_execs_cons (wpAny_mono (h1 st al Z s _ R hw) (fun f s1 h => ?_) fun u_ u_ h => h)
  obtain ⟨st1, al1, Z1, fl, p1, r1, hk1⟩ := h
  cases fl with
  | next =>
    simp only [FR] at r1
    subst r1
    refine wpAny_mono (h2 st1 al1 Z1 s1 k p1.rel hk1) (fun f s2 h => ?_) fun u_ u_ h => h
    obtain ⟨st2, al2, Z2, fl, p2, r2, hk2⟩ := h
    exact ⟨st2, al2, Z2, fl, p1.transF p2, r2, hk2⟩
  | brk => simp only [FR] at r1; subst r1; exact ⟨st1, al1, Z1, .brk, p1.toF, FR.br, hk1⟩
  | cont => simp only [FR] at r1; subst r1; exact ⟨st1, al1, Z1, .cont, p1.toF, FR.co, hk1⟩
  | ret sv =>
    obtain ⟨v, rfl, r1⟩ := r1
    exact ⟨st1, al1, Z1, .ret sv, p1.toF, FR.re r1, hk1⟩
theorem ExecsTo.toF {c : Cx} {es : List PySem.Stmt} {W : T AFl} (h : ExecsTo w hB c es W) : ExecsF w hB c es W := by
  intro st al Z s k R hw
  refine wpAny_mono (h st al Z s k R hw) (fun f s1 h => ?_) fun u_ u_ h => h
  obtain ⟨st1, al1, Z1, fl, p1, r1, hk1⟩ := h
  exact ⟨st1, al1, Z1, fl, p1.toF, r1, hk1⟩
noncomputable def wLiveN (W : Nat → T AFl) (m n : Nat) : List SV → T SV := fun as k st => as.length = m ∧ W st.heap.length (retK fun sv hp => k sv ⟨st.loc, hp⟩) ⟨initLoc as n, st.heap⟩
theorem c_liveN {c : Cx} {fa : Addr} {d : PySem.Stmt} {qual : Str} {cdv : Value} {names : List Str} {desc : List (Str × Bool)} {W : Nat → T AFl} (ht : Nat) (F : FnS w fa d qual cdv names desc) (hb : ∀ pn A L, ExecsF w hB (mkCx ht pn qual (dScope d) fa cdv desc A L) (dBody d) (W pn)) (hc : ht < c.ht)
    {wo : List SV → T SV} (hi : ∀ as k st, wo as k st → wLiveN W names.length desc.length as k st) : CallOp w hB c (.ref fa) wo := by
  intro st al Z s k as vs R r hw
  have FI := fnIs_of R.grd F.k F.cd F.bd F.hs F.nd
  obtain ⟨o, fd, ho, hdt, _⟩ := FI.fn
  refine ⟨fun hq => keep_fn (R.base _ _ ho) hdt (hq _ (.inl rfl)), ?_⟩
  have d := R.ok.depth
  have u := R.ok.units
  obtain ⟨h2, hw⟩ := hi as k st hw
  refine wpAny_call (codeAny_mono (call_genF FI (cxIs_of ht st.heap.length F.chk) (hb st.heap.length) R.ok.hand (by omega) (by omega) R.toRel0 r h2 rfl hw) fun res s' h => ?_)
  obtain ⟨v, sv, hp', al', Z', rfl, p, rv, hk⟩ := h
  exact Ret.mk (Post.ofGen R p) rv hk
end
noncomputable abbrev dsMach : List (Str × Bool) := [("text", true), ("_law_read_on", false), ("stream", false), ("at", true)]
noncomputable abbrev cxMach (pn : Nat) (A : Around) (L : Addr) : Cx := mkCx 1 pn "_law_machine" (dScope (stm 10)) 178 (.ref 177) dsMach A L
noncomputable abbrev cxMachE (pn : Nat) (A : Around) (L : Addr) : Cx := { cxMach pn A L with cells := [], slots := [("stream", .loc)] }
theorem fnMach (w : World) : FnS w 178 (stm 10) "_law_machine" (.ref 177) ["text"] dsMach where
  k := by unfold FnK; kernel_rfl
  cd := by kernel_rfl
  bd := bind1 fun fd h1 h2 h3 a0 => by unfold bindArgs; rw [h1, h2, h3]; rfl
  hs := by kernel_rfl
  nd := by decide +kernel
  chk := by decide +kernel
theorem st1_eq : readOn = .FunctionDef "_law_read_on" (dParams readOn) (dBody readOn) [] none [] scRead none "_law_read_on" (dPos readOn) := by kernel_rfl
inductive St2 : PySem.Stmt → Prop
  | mk (p1 : Pos) (lp : Arguments) (lb : PySem.Expr) (ls : Scope) (lpos p2 : Pos) (cl : ∀ env, closureFor ls env = pure []) (df : ∀ env, defaultsOf lp env = ([], []))
    (ne : ¬ (((lpos.line : Nat) : Int) = ((dPos readOn).line : Nat) ∧ ((lpos.col : Nat) : Int) = ((dPos readOn).col : Nat)))
    (sw : ∀ env, swapsWithSole [.Name "stream" p1] (.Lambda lp lb ls lpos) p2.line env = pure false) (ss : ∀ env, swappedStores [.Name "stream" p1] (.Lambda lp lb ls lpos) env = pure none) : St2 (.Assign [.Name "stream" p1] (.Lambda lp lb ls lpos) p2)
theorem st2_eq : St2 (nest (stm 10) 2) := ⟨_, _, _, _, _, _, fun u_ => rfl, fun u_ => rfl, by decide +kernel, fun u_ => rfl, fun u_ => rfl⟩
inductive St3 : PySem.Stmt → Prop
  | mk (p3 p4 p5 p6 : Pos) (sw : ∀ env, swapsWithSole [.Attribute (.Name "stream" p3) "read" p4] (.Name "_law_read_on" p5) p6.line env = pure false)
    (ss : ∀ env, swappedStores [.Attribute (.Name "stream" p3) "read" p4] (.Name "_law_read_on" p5) env = pure none) : St3 (.Assign [.Attribute (.Name "stream" p3) "read" p4] (.Name "_law_read_on" p5) p6)
theorem st3_eq : St3 (nest (stm 10) 3) := ⟨_, _, _, _, fun u_ => rfl, fun u_ => rfl⟩
theorem closR (pn : Nat) (A : Around) (L : Addr) : closureFor scRead (cxMach pn A L).env = pure [(("text" : Str), L + 1), ("at", L + 2)] := by rfl
section
variable {w : World} {hB : Heap}
theorem mem4 {α : Type} {P : α → Prop} {a b c d : α} {l : List α} (h1 : P a) (h2 : P b) (h3 : P c) (h4 : P d) (h : ∀ q ∈ l, P q) : ∀ q ∈ a :: b :: c :: d :: l, P q :=
  List.forall_mem_cons.mpr ⟨h1, List.forall_mem_cons.mpr ⟨h2, List.forall_mem_cons.mpr ⟨h3, List.forall_mem_cons.mpr ⟨h4, h⟩⟩⟩⟩
theorem exs_mach {pn : Nat} {A : Around} {L : Addr} {rest : List PySem.Stmt} {W' : T AFl} (hr : ExecsF w hB (cxMachE pn A L) rest W') :
    ExecsF w hB (cxMach pn A L) (readOn :: nest (stm 10) 2 :: nest (stm 10) 3 :: rest) (fun k st => ∃ x i, st.loc = [some (.str x), none, none, some (.obj i)] ∧ W' k ⟨[some (.rdr i x)], st.heap⟩) := by
  generalize nest (stm 10) 2 = S2, st2_eq = e2
  generalize nest (stm 10) 3 = S3, st3_eq = e3
  obtain ⟨p1, lp, lb, ls, lpos, p2, cl2, df2, ne2, sw2, ss2⟩ := e2
  obtain ⟨p3, p4, p5, p6, sw3, ss3⟩ := e3
  intro st al Z s k R ⟨x, i, hloc, hw⟩
  obtain ⟨loc, hp⟩ := st
  dsimp only at hloc hw
  subst hloc
  rw [st1_eq]
  have EV1 : EvalsTo w hB (cxMach pn A L) (.Name "_law_read_on" p5) (wName 1) := ev_loc rfl
  have EV2 : EvalsTo w hB (cxMach pn A L) (.Name "stream" p3) (wName 2) := ev_loc rfl
  have Lne : L ≠ 0 := fun e => by
    obtain ⟨_, _, _, _, T⟩ := R.grd.top
    obtain ⟨o, _, _, ho, _⟩ := T.b
    have h0 := (R.own L (.head _)).1
    have h1 : hB.get? L = some o := by rw [e]; exact ho
    rw [h1] at h0; cases h0
  refine wpAny_execs_cons (nestDef_K (by kernel_rfl) (by kernel_rfl) (by kernel_rfl) ?_)
  rw [show qualnameIn (cxMach pn A L).env "_law_read_on" "_law_read_on" = qRead from by kernel_rfl]
  refine wpAny_mono (mk_read R (closR pn A L) rfl) (fun v s1 h1 => ?_) fun u_ u_ h => h
  obtain ⟨Z1, g, go, cc, oc, vs, t, dc, pm, ct, s1, P1, m1, m2, m3, m4, m5, m6⟩ := h1
  refine wpAny_mono (sto_loc (c := cxMach pn A L) (i := 1) rfl _ al Z1 s1 (fun u_ st' => st' = ⟨[some (.str x), some (.gl (.ref g)), none, some (.obj i)], hp⟩) (.gl (.ref g)) (.ref g) P1.rel (by exact Eq.refl _) rfl) (fun u_ s2 h2 => ?_) fun u_ u_ h => h
  obtain ⟨st2, al2, Z2, _, P2, _, e2⟩ := h2
  have P12 := P1.trans P2
  dsimp only
  -- the lambda
  refine wpAny_execs_cons (wpAny_Assign_stores (kla_eval (df2 _) (wpAny_mono (mk_lam P2.rel (cl2 _) rfl ne2) (fun v s3 h3 => ?_) fun u_ u_ h => h)) (sw2 _) (ss2 _))
  obtain ⟨f, fd, s3, P3, hf3, hge⟩ := h3
  show wpAny _ _ (assign (.Name "stream" p1) (cxMach pn A L).env (.ref f)) _ _ _
  have tl2 : (tbA : Nat) < s2.heap.objs.size := by obtain ⟨ps, e, _⟩ := P2.rel.tab; exact Heap.lt_size e
  have hf2 : s2.heap.get? f = none := Heap.get?_none_of_le hge
  have u2 : Untr hB (cxMach pn A L) al2 Z2 f := untr_new P2.rel hf2 (Nat.ne_of_gt (Nat.lt_of_lt_of_le tl2 hge)) (fun hm => by
      obtain ⟨o, ho⟩ := P2.rel.alive hm
      rw [hf2] at ho; cases ho) (fun q hq e => by
      have := P2.rel.frz q hq
      rw [e, hf2] at this; cases this)
  refine wpAny_assign_Name (wpAny_mono (sto_loc (c := cxMach pn A L) (i := 2) rfl _ al2 Z2 s3 (fun u_ st' => st' = ⟨[some (.str x), some (.gl (.ref g)), some (.gl (.ref f)), some (.obj i)], hp⟩) (.gl (.ref f)) (.ref f) P3.rel (by exact Eq.refl _) (by cases e2; rfl)) (fun u_ s4 h4 => ?_) fun u_ u_ h => h)
  obtain ⟨st4, al4, Z4, _, P4, _, e4⟩ := h4
  have u4 := u2.step P4 hf3
  have hf4 := u2.keep P4 hf3
  dsimp only
  -- the attribute
  refine wpAny_execs_cons (wpAny_Assign_stores (wpAny_mono (EV1 _ al4 Z4 s4 (fun a st' => a = .gl (.ref g) ∧ st' = st4) P4.rel (by cases e4; exact ⟨rfl, rfl⟩)) (fun v s5 h5 => ?_) fun u_ u_ h => h) (sw3 _) (ss3 _))
  obtain ⟨st5, al5, Z5, a5, P5, r5, rfl, rfl⟩ := h5
  cases (r5 : _ = _)
  show wpAny _ _ (assign (.Attribute (.Name "stream" p3) "read" p4) (cxMach pn A L).env (.ref g)) _ _ _
  rw [arm_assign_Attribute]
  refine wpAny_bind (wpAny_holding (wpAny_mono (EV2 _ al5 Z5 s5 (fun a st' => a = .gl (.ref f) ∧ st' = st5) P5.rel (by cases e4; exact ⟨rfl, rfl⟩)) (fun v s6 h6 => ?_) fun u_ u_ h => h))
  obtain ⟨st6, al6, Z6, a6, P6, r6, rfl, rfl⟩ := h6
  cases (r6 : _ = _)
  have u6 := (u4.step P5 hf4).step P6 (u4.keep P5 hf4)
  have hf6 := (u4.step P5 hf4).keep P6 (u4.keep P5 hf4)
  refine wpAny_bind (wpAny_standAt (wpAny_bind (wpAny_holding (fn_setattr hf6 fun h' d od tk hk hfd hd hdge hcl hat => ?_))))
  refine wpAny_release ?_
  dsimp only
  have PA := ((((P12.trans P3).trans P4).trans P5).trans P6)
  have R7 : SRel w hB (cxMach pn A L) st6 al6 Z6 { s6 with heap := h', toks := tk } := P6.rel.untr (fun n => n = f) (fun n h => h ▸ u6) fun b o e hn => hk b o hn e
  refine cps fun G hG => ?_
  obtain ⟨vo1, ⟨o1, ho1, hd1⟩, hv1⟩ := R7.cell 0 "text" (L + 1) (.inl rfl)
  obtain ⟨v1, rfl, rv1⟩ := hv1 (.str x) (by rw [e4]; rfl)
  obtain ⟨vo2, ⟨o2, ho2, hd2⟩, hv2⟩ := R7.cell 3 "at" (L + 2) (.inl rfl)
  obtain ⟨v2, rfl, rv2⟩ := hv2 (.obj i) (by rw [e4]; rfl)
  obtain ⟨t1, rfl⟩ := rv1
  obtain ⟨la, hla, rfl⟩ := rv2
  have w1 := R7.own (L + 1) (.tail _ (.head _))
  have w2 := R7.own (L + 2) (.tail _ (.tail _ (.head _)))
  have w0 := R7.own L (.head _)
  have subA : ∀ q ∈ Z1, q ∈ Z6 := fun q hq => P6.sub _ (P5.sub _ (P4.sub _ (P3.sub _ (P2.sub _ hq))))
  have lo : ∀ b o, s6.heap.get? b = some o → b < s6.heap.objs.size := fun b o e => Heap.lt_size e
  have dno : ∀ b o, s6.heap.get? b = some o → b ≠ d := fun b o e q => by
    have := lo b o e
    rw [q] at this
    exact absurd this (Nat.not_lt.mpr hdge)
  have tl6 : (tbA : Nat) < s6.heap.objs.size := by obtain ⟨ps, e, _⟩ := P6.rel.tab; exact Heap.lt_size e
  have ml6 : (sysModules : Nat) < s6.heap.objs.size := by
    obtain ⟨_, _, _, _, T⟩ := R.grd.top
    exact modules_low (T.nolimit.keeps P6.rel.base)
  let Z8 : Led := (f, ⟨.type "function", some d, .func fd, #[]⟩) :: (d, od) :: (L + 1, o1) :: (L + 2, o2) :: Z6
  have sub8 : ∀ q ∈ Z6, q ∈ Z8 := fun q hq => .tail _ (.tail _ (.tail _ (.tail _ hq)))
  have dal : d ∉ al6 := fun hm => by
    obtain ⟨o, ho⟩ := P6.rel.alive hm
    exact dno _ _ ho rfl
  have R8 : SRel w hB (cxMachE pn A L) ⟨[some (.rdr i x)], st6.heap⟩ al6 Z8 { s6 with heap := h', toks := tk } := {
    grd := R7.grd
    base := R7.base
    tab := R7.tab.mono sub8
    len := R7.len
    live := fun j so a e1 e2 => let ⟨o, ho, r⟩ := R7.live j so a e1 e2; ⟨o, ho, r.mono sub8 (List.prefix_refl _)⟩
    frz := mem4 hfd hd ho1 ho2 R7.frz
    new := R7.new
    nodup := R7.nodup
    zap := mem4 ⟨u6.o2, u6.o5⟩ ⟨dal, Nat.ne_of_gt (Nat.lt_of_lt_of_le tl6 hdge)⟩ ⟨w1.2.2.1, w1.2.1⟩ ⟨w2.2.2.1, w2.2.1⟩ R7.zap
    nomod := ⟨R7.nomod.1, mem4 (fun hc => absurd hc (by simp)) (fun u_ => Nat.ne_of_gt (Nat.lt_of_lt_of_le ml6 hdge)) (fun u_ (e : L + 1 = 0 + 1) => Lne (Nat.succ.inj e)) (fun u_ (e : L + 1 + 1 = 0 + 1) => by injection e with e; injection e) R7.nomod.2⟩
    ok := {
      kind := R7.ok.kind
      glob := R7.ok.glob
      blt := R7.ok.blt
      hand := R7.ok.hand
      depth := R7.ok.depth
      units := R7.ok.units
      nodup := List.nodup_cons.mpr ⟨List.not_mem_nil, List.nodup_nil⟩
      onodup := List.nodup_cons.mpr ⟨List.not_mem_nil, List.nodup_nil⟩
      sloc := fun y hy => by
        cases List.mem_singleton.mp hy
        exact R7.ok.sloc "stream" (.tail _ (.tail _ (.head _)))
      scell := fun y b hy => nomatch List.mem_singleton.mp hy
      sone := fun y z b hy u_ => nomatch List.mem_singleton.mp hy
      scapt := fun y b hy => nomatch List.mem_singleton.mp hy }
    pinl := R7.pinl
    ns := by
      obtain ⟨m, hm, hv⟩ := R7.ns
      refine ⟨m, hm, fun j y sv e1 e2 => ?_⟩
      match j, e1, e2 with
      | 0, e1, e2 =>
        cases e1
        cases e2
        obtain ⟨v, hv1, hv2⟩ := hv 2 "stream" (.gl (.ref f)) rfl (by rw [e4]; rfl)
        cases (hv2 : _ = _)
        refine ⟨_, hv1, ?_⟩
        refine ⟨f, la, rfl, ⟨_, d, od, g, go, L + 1, o1, L + 2, o2, t1, cc, oc, vs, t, dc, pm, ct, fd, .head _, rfl, rfl, rfl, .tail _ (.head _), hcl, hat, sub8 _ (subA _ m1), m2, m3, .tail _ (.tail _ (.head _)), hd1, .tail _ (.tail _ (.tail _ (.head _))), hd2, sub8 _ (subA _ m4), m5, m6⟩, hla⟩
      | j + 1, e1, e2 => cases e1
    cell := fun j y b h => by
      rcases h with h | h <;> exact nomatch List.mem_singleton.mp (List.mem_of_getElem? h)
    own := fun b hb => by
      have : b = L := List.mem_singleton.mp hb
      subst this
      exact w0
    ownz := fun q hq hm => by
      have hm' : q.1 = L := List.mem_singleton.mp hm
      obtain ⟨oL, hoL⟩ := (P6.rel.own L (.head _)).2.2.2
      refine mem4 (P := fun q => q.1 = L → False) (fun hm' => u6.o1 (by show f ∈ [L, L + 1, L + 2]; exact (show f = L from hm') ▸ .head _)) (fun hm' => dno _ _ hoL hm'.symm) (fun hm' => absurd hm' (Nat.succ_ne_self L)) (fun hm' => absurd hm' (Nat.ne_of_gt (Nat.lt_add_of_pos_right (by decide : 0 < 2))))
        (fun q hq hm' => R7.ownz q hq (show q.1 ∈ [L, L + 1, L + 2] from hm' ▸ .head _)) q hq hm'
    capt := fun y b hy => nomatch List.mem_singleton.mp hy }
  have fno : ∀ b o, s.heap.get? b = some o → b ≠ f := fun b o e q => by
    obtain ⟨o', ho'⟩ := P12.there b o e
    rw [q, hf2] at ho'; cases ho'
  refine hG ?_
  refine wpAny_mono (hr _ al6 Z8 _ k R8 (by rw [e4]; exact hw)) (fun fl s9 h9 => ?_) fun u_ u_ h => h
  obtain ⟨st9, al9, Z9, b9, q, r9, hk9⟩ := h9
  refine ⟨st9, al9, Z9, b9, ⟨q.rel, fun j hj => (q.pin j hj).trans ?_, fun z hz => q.sub _ (sub8 _ (PA.sub _ hz)), fun b o e hn ht => ?_, fun a ha => ?_, fun z hz => ?_, q.gens.trans PA.gens, q.os.trans PA.os⟩, r9, hk9⟩
  · have hl : j < al.length := Nat.lt_of_lt_of_le hj R.pinl
    rw [List.getElem?_eq_getElem hl]
    exact pre_get PA.pre (List.getElem?_eq_getElem hl)
  · refine q.frame b o (hk b o (fno b o e) (PA.frame b o e hn ht)) (fun hm => ?_) ht
    rcases List.mem_append.mp hm with hm | hm
    · have : b = L := List.mem_singleton.mp hm
      exact hn (List.mem_append_left _ (show b ∈ [L, L + 1, L + 2] from this ▸ .head _))
    · rcases PA.fresh b hm with h | h
      · exact hn (List.mem_append_right _ h)
      · rw [h] at e; cases e
  · rcases q.fresh a ha with h | h
    · exact PA.fresh a h
    · right
      cases e : s.heap.get? a with
      | none => rfl
      | some o =>
        obtain ⟨o', e'⟩ := PA.there _ _ e
        have h' : h'.get? a = none := h
        rw [hk a o' (fno a o e) e'] at h'; cases h'
  · rcases q.zfresh z hz with h | h | h
    · rcases List.mem_cons.mp h with rfl | h
      · right; left
        cases e : s.heap.get? f with
        | none => rfl
        | some o => exact absurd rfl (fno f o e)
      · rcases List.mem_cons.mp h with rfl | h
        · right; left
          cases e : s.heap.get? d with
          | none => rfl
          | some o =>
            obtain ⟨o', e'⟩ := PA.there _ _ e
            exact absurd rfl (dno d o' e')
        · rcases List.mem_cons.mp h with rfl | h
          · exact .inr (.inr (.tail _ (.head _)))
          · rcases List.mem_cons.mp h with rfl | h
            · exact .inr (.inr (.tail _ (.tail _ (.head _))))
            · exact (PA.zfresh z h).imp id .inl
    · right; left
      cases e : s.heap.get? z.1 with
      | none => rfl
      | some o =>
        obtain ⟨o', e'⟩ := PA.there _ _ e
        have h' : h'.get? z.1 = none := h
        rw [hk _ o' (fno _ o e) e'] at h'; cases h'
    · have : z.1 = L := List.mem_singleton.mp h
      exact .inr (.inr (show z.1 ∈ [L, L + 1, L + 2] from this ▸ .head _))
end

noncomputable abbrev dsLexInit : List (Str × Bool) := [("self", false), ("fp", false)]
noncomputable abbrev cxLexInit (pn : Nat) (A : Around) (L : Addr) : Cx := mkCx 0 pn "_netrclex.__init__" (dScope (nest (stm 2) 0)) 35 (.ref 34) dsLexInit A L
theorem fnLexInit (w : World) : FnS w 35 (nest (stm 2) 0) "_netrclex.__init__" (.ref 34) ["self", "fp"] dsLexInit where
  k := by unfold FnK; kernel_rfl
  cd := by kernel_rfl
  bd := bind2 fun fd h1 h2 h3 a0 a1 => by unfold bindArgs; rw [h1, h2, h3]; rfl
  hs := by kernel_rfl
  nd := by decide +kernel
  chk := by decide +kernel

noncomputable def exLexInit (w : World) (hB : Heap) (pn : Nat) : { W : T AFl // ∀ A L, ExecsTo w hB (cxLexInit pn A L) (dBody (nest (stm 2) 0)) W } := ⟨_, fun A L =>
  exs_cons (ex_assign ev_int (as_attr (ev_loc (i := 0) rfl) (o_setAttr (C := 59) (chk := []) (i := 0) (ck_lex w) (by kernel_rfl) (.inr ⟨by decide +kernel, rfl⟩)))) <|
  exs_cons (ex_assign (ev_loc (i := 1) rfl) (as_attr (ev_loc (i := 0) rfl) (o_setAttr (C := 59) (chk := ["lineno"]) (i := 1) (ck_lex w) (by kernel_rfl) (.inr ⟨by decide +kernel, rfl⟩)))) <|
  exs_cons (ex_assign (ev_str [10, 9, 13, 32]) (as_attr (ev_loc (i := 0) rfl) (o_setAttr (C := 59) (chk := ["lineno", "instream"]) (i := 2) (ck_lex w) (by kernel_rfl) (.inr ⟨by decide +kernel, rfl⟩)))) <|
  ex_one (ex_assign (ev_listL li_nil) (as_attr (ev_loc (i := 0) rfl) (o_setAttr (C := 59) (chk := ["lineno", "instream", "whitespace"]) (i := 3) (ck_lex w) (by kernel_rfl) (.inr ⟨by decide +kernel, rfl⟩))))⟩

noncomputable abbrev dsReadCh : List (Str × Bool) := [("self", false), ("ch", false)]
noncomputable abbrev cxReadCh (pn : Nat) (A : Around) (L : Addr) : Cx := mkCx 1 pn "_netrclex._read_char" (dScope (nest (stm 2) 1)) 42 (.ref 41) dsReadCh A L
theorem fnReadCh (w : World) : FnS w 42 (nest (stm 2) 1) "_netrclex._read_char" (.ref 41) ["self"] dsReadCh where
  k := by unfold FnK; kernel_rfl
  cd := by kernel_rfl
  bd := bind1 fun fd h1 h2 h3 a0 => by unfold bindArgs; rw [h1, h2, h3]; rfl
  hs := by kernel_rfl
  nd := by decide +kernel
  chk := by decide +kernel

noncomputable def exReadCh (w : World) (hB : Heap) (pn : Nat) : { W : T AFl // ∀ A L, ExecsTo w hB (cxReadCh pn A L) (dBody (nest (stm 2) 1)) W } := ⟨_, fun A L =>
  exs_cons (ex_assign (ev_read (ev_attr (ev_loc (i := 0) rfl) (o_attr (C := 59) (chk := ["lineno", "instream", "whitespace", "pushback"]) (i := 1) (ck_lex w) (by kernel_rfl) (by decide +kernel) true)) (li_cons ev_int li_nil) (by show 0 < 1; decide)) (as_loc (i := 1) rfl)) <|
  exs_cons (ex_if (te_cmp (ev_loc (i := 1) rfl) (ev_str [10]) o_eqG)
  (ex_one (ex_augattr (ev_loc (i := 0) rfl) (o_attr (C := 59) (chk := ["lineno", "instream", "whitespace", "pushback"]) (i := 0) (ck_lex w) (by kernel_rfl) (by decide +kernel) true) ev_int o_iadd (o_setAttr (C := 59) (chk := ["lineno", "instream", "whitespace", "pushback"]) (i := 0) (ck_lex w) (by kernel_rfl) (.inl (by decide +kernel)))))
  (exs_nil)) <|
  ex_one (ex_ret (ev_loc (i := 1) rfl))⟩

noncomputable abbrev dsPush : List (Str × Bool) := [("self", false), ("token", false)]
noncomputable abbrev cxPush (pn : Nat) (A : Around) (L : Addr) : Cx := mkCx 0 pn "_netrclex.push_token" (dScope (nest (stm 2) 3)) 56 (.ref 55) dsPush A L
theorem fnPush (w : World) : FnS w 56 (nest (stm 2) 3) "_netrclex.push_token" (.ref 55) ["self", "token"] dsPush where
  k := by unfold FnK; kernel_rfl
  cd := by kernel_rfl
  bd := bind2 fun fd h1 h2 h3 a0 a1 => by unfold bindArgs; rw [h1, h2, h3]; rfl
  hs := by kernel_rfl
  nd := by decide +kernel
  chk := by decide +kernel

noncomputable def exPush (w : World) (hB : Heap) (pn : Nat) : { W : T AFl // ∀ A L, ExecsTo w hB (cxPush pn A L) (dBody (nest (stm 2) 3)) W } := ⟨_, fun A L =>
  ex_one (ex_expr (ev_meth (ev_attr (ev_loc (i := 0) rfl) (o_attr (C := 59) (chk := ["lineno", "instream", "whitespace", "pushback"]) (i := 3) (ck_lex w) (by kernel_rfl) (by decide +kernel) true)) (li_cons (ev_loc (i := 1) rfl) li_nil) (f_list PySem.F.slot_list_append PySem.F.type_list_append) c_append))⟩

theorem hget_len {l : List SO} {n : Nat} {o : SO} (h : l[n]? = some o) : hget l n = some o := by
  induction l generalizing n with
  | nil => simp at h
  | cons a l ih =>
    cases n with
    | zero => simpa [hget] using h
    | succ n => simpa [hget] using ih (by simpa using h)
theorem hget_iff {l : List SO} {n : Nat} {o : SO} : hget l n = some o ↔ l[n]? = some o := ⟨hget_eq, hget_len⟩
theorem hget_set_same {l : List SO} {n : Nat} {o : SO} (h : n < l.length) : hget (l.set n o) n = some o := hget_len (by rw [List.getElem?_set_self h])
theorem hget_set_ne {l : List SO} {n m : Nat} {o : SO} (h : n ≠ m) : hget (l.set n o) m = hget l m := by
  cases e : hget l m with
  | some u => exact hget_len (by rw [List.getElem?_set_ne h]; exact hget_eq e)
  | none =>
    cases e' : hget (l.set n o) m with
    | none => rfl
    | some u =>
      have := hget_eq e'
      rw [List.getElem?_set_ne h] at this
      rw [hget_len this] at e; cases e
theorem hget_app {l t : List SO} {n : Nat} {o : SO} (h : hget l n = some o) : hget (l ++ t) n = some o := hget_len (by rw [List.getElem?_append_left (hget_lt h)]; exact hget_eq h)
theorem set_same {l : List SO} {n : Nat} {o : SO} (h : hget l n = some o) : l.set n o = l := by
  apply List.ext_getElem?
  intro m
  by_cases e : n = m
  · subst e; rw [List.getElem?_set_self (hget_lt h), hget_eq h]
  · rw [List.getElem?_set_ne e]

noncomputable def lexNames : List Str := ["lineno", "instream", "whitespace", "pushback"]
noncomputable def lexA (j l : Nat) (x : Cs) (ln : Int) : SO := .attrs ["lineno", "instream", "whitespace", "pushback"] [.int ln, .rdr j x, .str [10, 9, 13, 32], .obj l]
structure Lex (hp : List SO) (i j l : Nat) (x : Cs) (ln : Int) (p : Nat) (pb : List Cs) : Prop where
  a : hget hp i = some (lexA j l x ln)
  b : hget hp j = some (.list [.int p])
  c : hget hp l = some (.list (pb.map .str))
  ij : i ≠ j
  il : i ≠ l
  jl : j ≠ l
  len : x.length ≤ 100000
  ple : p ≤ x.length
noncomputable def lexP (hp : List SO) (i j l : Nat) (x : Cs) (ln : Int) (p : Nat) (pb : List Cs) : List SO := ((hp.set i (lexA j l x ln)).set j (.list [.int p])).set l (.list (pb.map .str))
section
variable {hp : List SO} {i j l : Nat} {x : Cs} {ln ln' : Int} {p p' : Nat} {pb pb' : List Cs}
theorem Lex.same (h : Lex hp i j l x ln p pb) : lexP hp i j l x ln p pb = hp := by
  unfold lexP
  rw [set_same h.a, set_same h.b, set_same h.c]
theorem lexP_len : (lexP hp i j l x ln p pb).length = hp.length := by simp [lexP]
theorem Lex.put (h : Lex hp i j l x ln p pb) (hle : p' ≤ x.length) : Lex (lexP hp i j l x ln' p' pb') i j l x ln' p' pb' := by
  have l1 := hget_lt h.a
  have l2 := hget_lt h.b
  have l3 := hget_lt h.c
  refine ⟨?_, ?_, ?_, h.ij, h.il, h.jl, h.len, hle⟩
  · unfold lexP
    rw [hget_set_ne (Ne.symm h.il), hget_set_ne (Ne.symm h.ij), hget_set_same l1]
  · unfold lexP
    rw [hget_set_ne (Ne.symm h.jl), hget_set_same (by simpa using l2)]
  · unfold lexP
    rw [hget_set_same (by simpa using l3)]
theorem lexP_lexP : lexP (lexP hp i j l x ln p pb) i j l x ln' p' pb' = lexP hp i j l x ln' p' pb' := by
  unfold lexP
  apply List.ext_getElem?
  intro m
  simp only [List.getElem?_set, List.length_set]
  by_cases e1 : l = m <;> by_cases e2 : j = m <;> by_cases e3 : i = m <;> simp [e1, e2, e3]
theorem Lex.setA (h : Lex hp i j l x ln p pb) : hp.set i (lexA j l x ln') = lexP hp i j l x ln' p pb := by
  unfold lexP
  rw [set_same (l := hp.set i _) (by rw [hget_set_ne h.ij]; exact h.b), set_same (l := hp.set i _) (by rw [hget_set_ne h.il]; exact h.c)]
theorem Lex.setB (h : Lex hp i j l x ln p pb) : hp.set j (.list [.int p']) = lexP hp i j l x ln p' pb := by
  unfold lexP
  rw [set_same (l := hp) h.a, set_same (l := hp.set j _) (by rw [hget_set_ne h.jl]; exact h.c)]
theorem Lex.setC (h : Lex hp i j l x ln p pb) : hp.set l (.list (pb'.map .str)) = lexP hp i j l x ln p pb' := by
  unfold lexP
  rw [set_same (l := hp) h.a, set_same (l := hp) h.b]
theorem Lex.app (h : Lex hp i j l x ln p pb) (t : List SO) : Lex (hp ++ t) i j l x ln p pb := ⟨hget_app h.a, hget_app h.b, hget_app h.c, h.ij, h.il, h.jl, h.len, h.ple⟩
theorem Lex.app_put (h : Lex hp i j l x ln p pb) (t : List SO) : lexP (hp ++ t) i j l x ln' p' pb' = lexP hp i j l x ln' p' pb' ++ t := by
  have l1 := hget_lt h.a
  have l2 := hget_lt h.b
  have l3 := hget_lt h.c
  unfold lexP
  rw [List.set_append_left _ _ l1, List.set_append_left _ _ (by simpa using l2), List.set_append_left _ _ (by simpa using l3)]
theorem Lex.okP (h : Lex hp i j l x ln p pb) : ∀ m so, m < hp.length → (lexP hp i j l x ln' p' pb')[m]? = some so → hp[m]? = some so ∨ bndO hp.length so := by
  intro m so hm e
  have l2 := hget_lt h.b
  have l3 := hget_lt h.c
  unfold lexP at e
  by_cases e1 : l = m
  · subst e1
    rw [List.getElem?_set_self (by simpa using hm)] at e
    cases e
    right
    have : ∀ q : List Cs, bnds hp.length (q.map SV.str) := by
      intro q
      induction q with
      | nil => trivial
      | cons a q ih => exact ⟨trivial, ih⟩
    exact this pb'
  · rw [List.getElem?_set_ne e1] at e
    by_cases e2 : j = m
    · subst e2
      rw [List.getElem?_set_self (by simpa using hm)] at e
      cases e
      exact .inr ⟨trivial, trivial⟩
    · rw [List.getElem?_set_ne e2] at e
      by_cases e3 : i = m
      · subst e3
        rw [List.getElem?_set_self hm] at e
        cases e
        exact .inr ⟨trivial, l2, trivial, l3, trivial⟩
      · rw [List.getElem?_set_ne e3] at e
        exact .inl e
end

theorem push_spec (w : World) (hB : Heap) (pn : Nat) {hp : List SO} {i j l : Nat} {x : Cs} {ln : Int} {p : Nat} {pb : List Cs} (t : Cs) (h : Lex hp i j l x ln p pb) (hb : pb.length ≤ 1000) (k : SV → List SO → Prop) (hk : k .none (lexP hp i j l x ln p (pb ++ [t]))) :
    (exPush w hB pn).1 (retK k) ⟨initLoc [.iobj 59 i, .str t] 2, hp⟩ := by
  unfold exPush
  have ha := h.a
  unfold lexA at ha
  k_go
  simp only [ha]
  k_go
  refine ⟨trivial, by simp [isLst, lstOf, soList, h.c], ?_⟩
  rw [h.c]
  refine ⟨by simp; omega, ?_⟩
  have e := h.setC (pb' := pb ++ [t])
  rw [List.map_append] at e
  rw [← e] at hk
  exact hk
theorem take_lexP {hp : List SO} {i j l : Nat} {x : Cs} {ln : Int} {p : Nat} {pb : List Cs} : (lexP hp i j l x ln p pb).take hp.length = lexP hp i j l x ln p pb := List.take_of_length_le (by rw [lexP_len]; exact Nat.le_refl _)
inductive wPush (as : List SV) (k : SV → St → Prop) (st : St) : Prop
  | mk {i : Nat} {t : Cs} (e : as = [.iobj 59 i, .str t]) (j l : Nat) (x : Cs) (ln : Int) (p : Nat) (pb : List Cs) (h : Lex st.heap i j l x ln p pb) (hb : pb.length ≤ 1000) (q : k .none ⟨st.loc, lexP st.heap i j l x ln p (pb ++ [t])⟩) : wPush as k st
theorem c_push {w : World} {hB : Heap} {c : Cx} (hc : 0 < c.ht) : CallOp w hB c (.ref 56) wPush :=
  c_live 0 (fnPush w) (fun pn A L => (exPush w hB pn).2 A L) hc fun as k st hw => by
    obtain ⟨rfl, j, l, x, ln, p, pb, h, hb, hk⟩ := hw
    · skip
      refine ⟨rfl, push_spec w hB _ _ h hb _ ⟨trivial, h.okP, ?_⟩⟩
      rw [take_lexP]; exact hk

noncomputable def chAt (x : Cs) (p : Nat) : Cs := (x.drop p).take 1
noncomputable def lnUp (ln : Int) (y : Cs) : Int := if y = [10] then ln + 1 else ln
theorem read_ch_spec (w : World) (hB : Heap) (pn : Nat) {hp : List SO} {i j l : Nat} {x : Cs} {ln : Int} {p : Nat} {pb : List Cs} (h : Lex hp i j l x ln p pb) (k : SV → List SO → Prop)
    (hk : k (.str (chAt x p)) (lexP hp i j l x (lnUp ln (chAt x p)) (p + (chAt x p).length) pb)) :
    (exReadCh w hB pn).1 (retK k) ⟨initLoc [.iobj 59 i] 2, hp⟩ := by
  unfold exReadCh
  have ha := h.a
  have hj := h.b
  have hlen := h.len
  have hple := h.ple
  unfold lexA at ha
  k_go
  simp only [ha]
  k_go
  refine ⟨trivial, trivial, ?_⟩
  unfold wRead
  dsimp only [args1, asInt]
  rw [hj]
  dsimp only [onL, one, asInt]
  unfold chAt at hk
  rw [Int.toNat_natCast]
  refine ⟨by omega, by omega, by decide, ?_⟩
  have e1 : (1 : Int).toNat = 1 := rfl
  rw [e1]
  have hle : p + ((x.drop p).take 1).length ≤ x.length := by rw [List.length_take, List.length_drop]; omega
  have hb := h.setB (p' := p + ((x.drop p).take 1).length)
  rw [Int.natCast_add] at hb
  have hL := h.put (ln' := ln) (pb' := pb) hle
  have ha2 := hL.a
  unfold lexA at ha2
  k_go
  rw [hb]
  by_cases hn : (x.drop p).take 1 = [10]
  · rw [hn] at hk hb ha2 hL ⊢
    simp only [List.length, Nat.zero_add] at hk ha2 hL
    simp only [beq_self_eq_true]
    k_go
    simp only [ha2]
    k_go
    refine ⟨trivial, by decide, ?_⟩
    have e2 := hL.setA (ln' := ln + 1)
    rw [lexP_lexP] at e2
    simp only [lnUp, if_true] at hk
    rw [← e2] at hk
    exact hk
  · have e2 : (((x.drop p).take 1) == [10]) = false := by simpa using hn
    simp only [e2]
    k_go
    simp only [lnUp, if_neg hn] at hk
    exact hk
inductive wReadCh (as : List SV) (k : SV → St → Prop) (st : St) : Prop
  | mk {i : Nat} (e : as = [.iobj 59 i]) (j l : Nat) (x : Cs) (ln : Int) (p : Nat) (pb : List Cs) (h : Lex st.heap i j l x ln p pb) (q : k (.str (chAt x p)) ⟨st.loc, lexP st.heap i j l x (lnUp ln (chAt x p)) (p + (chAt x p).length) pb⟩) : wReadCh as k st
theorem wReadCh_live {w : World} {hB : Heap} {as : List SV} {k : SV → St → Prop} {st : St} (hw : wReadCh as k st) : wLive (fun pn => (exReadCh w hB pn).1) 1 2 as k st := by
  obtain ⟨rfl, j, l, x, ln, p, pb, h, hk⟩ := hw
  · skip
    refine ⟨rfl, read_ch_spec w hB _ h _ ⟨trivial, h.okP, ?_⟩⟩
    rw [take_lexP]; exact hk
theorem c_readCh {w : World} {hB : Heap} {c : Cx} (hc : 1 < c.ht) : CallOp w hB c (.ref 42) wReadCh :=
  c_live 1 (fnReadCh w) (fun pn A L => (exReadCh w hB pn).2 A L) hc fun u_ u_ u_ hw => wReadCh_live hw
theorem co_readCh {w : World} {hB : Heap} {c : Cx} (hc : 1 < c.ht) : CodeOp w hB c 42 wReadCh :=
  co_live 1 (fnReadCh w) (fun pn A L => (exReadCh w hB pn).2 A L) hc fun u_ u_ u_ hw => wReadCh_live hw
theorem lexInit_spec (w : World) (hB : Heap) (pn : Nat) (hp : List SO) (i : Nat) (x : Cs) (k : SV → List SO → Prop)
    (hk : k .none (hp ++ [lexA i (hp.length + 1) x 1, .list []])) :
    (exLexInit w hB pn).1 (retK k) ⟨initLoc [.iobj 59 hp.length, .rdr i x] 2, hp ++ [.attrs [] []]⟩ := by
  unfold exLexInit
  have g : ∀ (t : List SO) (o : SO), hget (hp ++ o :: t) hp.length = some o := fun t o => hget_len (by simp)
  have e : ∀ (t : List SO) (o o' : SO), (hp ++ o :: t).set hp.length o' = hp ++ o' :: t := fun t o o' => by simp
  k_go
  simp only [g, e]
  k_go
  simp only [Nat.lt_irrefl, if_false]
  k_go
  simp only [List.append_assoc, List.cons_append, List.nil_append, List.length_append, List.length_cons, List.length_nil, g, e]
  exact ⟨by decide, by decide, by decide, by decide, trivial, trivial, by decide, hk⟩
noncomputable def wLexMake : List SV → T SV := fun as k st => args1 as fun a => match a with
  | .rdr i x => k (.iobj 59 st.heap.length) ⟨st.loc, st.heap ++ [lexA i (st.heap.length + 1) x 1, .list []]⟩
  | _ => False
theorem c_lexMake {w : World} {hB : Heap} {c : Cx} (hc : 0 < c.ht) : CallOp w hB c (.ref 59) wLexMake :=
  c_makeL 0 (mk_lex w) (fnLexInit w) (fun pn A L => (exLexInit w hB pn).2 A L) hc fun as k st hw => by
    obtain ⟨a, rfl, hw⟩ := args1.g hw
    cases a <;> try exact hw.elim
    · refine ⟨rfl, ?_⟩
      exact lexInit_spec w hB _ _ _ _ _ ⟨rfl, hw⟩
theorem machBody : dBody (stm 10) = nest (stm 10) 0 :: readOn :: nest (stm 10) 2 :: nest (stm 10) 3 :: [nest (stm 10) 4] := by kernel_rfl
noncomputable def exMach0 (w : World) (hB : Heap) (pn : Nat) : { W : T AFl // ∀ A L, ExecTo w hB (cxMach pn A L) (nest (stm 10) 0) W } := ⟨_, fun A L =>
  ex_assign (ev_listL (li_cons ev_int li_nil)) (as_cell (i := 3) rfl)⟩
noncomputable def exMach4 (w : World) (hB : Heap) (pn : Nat) : { W : T AFl // ∀ A L, ExecsTo w hB (cxMachE pn A L) [nest (stm 10) 4] W } := ⟨_, fun A L =>
  ex_one (ex_ret (ev_call (ev_glob rfl (gl_netrclex w)) (li_cons (ev_loc (i := 0) rfl) li_nil) (c_lexMake (by show 0 < 1; decide))))⟩
noncomputable def exMach (w : World) (hB : Heap) (pn : Nat) : { W : T AFl // ∀ A L, ExecsF w hB (cxMach pn A L) (dBody (stm 10)) W } := ⟨_, fun A L =>
  machBody.symm ▸ exs_consF ((exMach0 w hB pn).2 A L) (exs_mach (((exMach4 w hB pn).2 A L).toF))⟩
theorem mach_spec (w : World) (hB : Heap) (pn : Nat) (hp : List SO) (x : Cs) (k : SV → List SO → Prop)
    (hk : k (.iobj 59 (hp.length + 1)) (hp ++ [.list [.int 0], lexA hp.length (hp.length + 2) x 1, .list []])) :
    (exMach w hB pn).1 (retK k) ⟨initLoc [.str x] 4, hp⟩ := by
  unfold exMach exMach0 exMach4
  dsimp only
  k_go
  refine ⟨by decide, x, hp.length, rfl, ?_⟩
  unfold wLexMake
  dsimp only
  k_go
  simp only [List.append_assoc, List.cons_append, List.nil_append, List.length_append, List.length_cons, List.length_nil]
  exact hk
noncomputable def wMach : List SV → T SV := fun as k st => args1 as fun a => asStr a (fun x => k (.iobj 59 (st.heap.length + 1)) ⟨st.loc, st.heap ++ [.list [.int 0], lexA st.heap.length (st.heap.length + 2) x 1, .list []]⟩) False
theorem c_mach {w : World} {hB : Heap} {c : Cx} (hc : 1 < c.ht) : CallOp w hB c (.ref 178) wMach :=
  c_liveN 1 (fnMach w) (fun pn A L => (exMach w hB pn).2 A L) hc fun as k st hw => by
    obtain ⟨_, rfl, hw1⟩ := args1.g hw
    obtain ⟨x, rfl, hw⟩ := asStr.g hw1
    exact ⟨rfl, mach_spec w hB _ _ _ _ hw⟩

noncomputable abbrev dsTok : List (Str × Bool) := [("self", false), ("token", false), ("fiter", false), ("ch", false)]
noncomputable abbrev cxTok (pn : Nat) (A : Around) (L : Addr) : Cx := mkCx 2 pn "_netrclex.get_token" (dScope (nest (stm 2) 2)) 49 (.ref 48) dsTok A L
theorem fnTok (w : World) : FnS w 49 (nest (stm 2) 2) "_netrclex.get_token" (.ref 48) ["self"] dsTok where
  k := by unfold FnK; kernel_rfl
  cd := by kernel_rfl
  bd := bind1 fun fd h1 h2 h3 a0 => by unfold bindArgs; rw [h1, h2, h3]; rfl
  hs := by kernel_rfl
  nd := by decide +kernel
  chk := by decide +kernel

noncomputable abbrev tokRest : List PySem.Stmt := (dBody (nest (stm 2) 2)).drop 3
noncomputable abbrev sTk : PySem.Stmt := nthS tokRest 0
noncomputable abbrev sTi : PySem.Stmt := nthS (forBody sTk) 1
noncomputable abbrev sTq : PySem.Stmt := nthS (ifB sTi) 0
noncomputable abbrev sTe : PySem.Stmt := nthS (ifO sTi) 2
section
variable (w : World) (hB : Heap) (pn : Nat)
noncomputable def exTkW : { W : T AFl // ∀ A L, ExecTo w hB { cxTok pn A L with pin := pn + 1 } (nthS (forBody sTk) 0) W } := ⟨_, fun A L =>
  ex_if (te_cmp (ev_loc (i := 3) rfl) (ev_attr (ev_loc (i := 0) rfl) (o_attr (C := 59) (chk := ["lineno", "instream", "whitespace", "pushback"]) (i := 2) (ck_lex w) (by kernel_rfl) (by decide +kernel) true)) o_in)
    (ex_one ex_continue)
    (exs_nil)⟩
noncomputable def exTkR : { W : T AFl // ∀ A L, ExecTo w hB { cxTok pn A L with pin := pn + 1 } (nthS (ifO sTi) 0) W } := ⟨_, fun A L =>
  ex_if (te_cmp (ev_loc (i := 3) rfl) (ev_str [92]) o_eqG)
      (ex_one (ex_assign (ev_meth (ev_loc (i := 0) rfl) li_nil (f_inst (C := 59) (chk := ["lineno", "instream", "whitespace", "pushback"]) (ck_lex w) (by kernel_rfl) (by kernel_rfl) (by decide +kernel)) (c_readCh (by show 1 < 2; decide))) (as_loc (i := 3) rfl)))
      (exs_nil)⟩
noncomputable def exTkQ : { W : T AFl // ∀ A L, ExecsTo w hB { cxTok pn A L with pin := pn + 1 } (forBody sTq) W } := ⟨_, fun A L =>
      (exs_cons (ex_if (te_cmp (ev_loc (i := 3) rfl) (ev_str [34]) o_eqG)
        (ex_one (ex_ret (ev_loc (i := 1) rfl)))
        (ex_one (ex_if (te_cmp (ev_loc (i := 3) rfl) (ev_str [92]) o_eqG)
          (ex_one (ex_assign (ev_meth (ev_loc (i := 0) rfl) li_nil (f_inst (C := 59) (chk := ["lineno", "instream", "whitespace", "pushback"]) (ck_lex w) (by kernel_rfl) (by kernel_rfl) (by decide +kernel)) (c_readCh (by show 1 < 2; decide))) (as_loc (i := 3) rfl)))
          (exs_nil)))) <|
        ex_one (ex_aug (ld_loc (i := 1) rfl) (ev_loc (i := 3) rfl) o_icat (sto_loc (i := 1) rfl)))⟩
noncomputable def exTkE : { W : T AFl // ∀ A L, ExecsTo w hB { cxTok pn A L with pin := pn + 1 } (forBody sTe) W } := ⟨_, fun A L =>
      (exs_cons (ex_if (te_cmp (ev_loc (i := 3) rfl) (ev_attr (ev_loc (i := 0) rfl) (o_attr (C := 59) (chk := ["lineno", "instream", "whitespace", "pushback"]) (i := 2) (ck_lex w) (by kernel_rfl) (by decide +kernel) true)) o_in)
        (ex_one (ex_ret (ev_loc (i := 1) rfl)))
        (ex_one (ex_if (te_cmp (ev_loc (i := 3) rfl) (ev_str [92]) o_eqG)
          (ex_one (ex_assign (ev_meth (ev_loc (i := 0) rfl) li_nil (f_inst (C := 59) (chk := ["lineno", "instream", "whitespace", "pushback"]) (ck_lex w) (by kernel_rfl) (by kernel_rfl) (by decide +kernel)) (c_readCh (by show 1 < 2; decide))) (as_loc (i := 3) rfl)))
          (exs_nil)))) <|
        ex_one (ex_aug (ld_loc (i := 1) rfl) (ev_loc (i := 3) rfl) o_icat (sto_loc (i := 1) rfl)))⟩
noncomputable def exTkF : { W : T AFl // ∀ A L, ExecTo w hB { cxTok pn A L with pin := pn + 1 } sTq W } := ⟨_, fun A L =>
  ex_forC rfl (ev_loc (i := 2) rfl) (co_readCh (by show 1 < 2; decide)) (as_loc (i := 3) rfl) ((exTkQ w hB pn).2 A L)⟩
noncomputable def exTkG : { W : T AFl // ∀ A L, ExecTo w hB { cxTok pn A L with pin := pn + 1 } sTe W } := ⟨_, fun A L =>
  ex_forC rfl (ev_loc (i := 2) rfl) (co_readCh (by show 1 < 2; decide)) (as_loc (i := 3) rfl) ((exTkE w hB pn).2 A L)⟩
noncomputable def exTkO : { W : T AFl // ∀ A L, ExecsTo w hB { cxTok pn A L with pin := pn + 1 } (ifO sTi) W } := ⟨_, fun A L =>
    (exs_cons ((exTkR w hB pn).2 A L) <|
      exs_cons (ex_aug (ld_loc (i := 1) rfl) (ev_loc (i := 3) rfl) o_icat (sto_loc (i := 1) rfl)) <|
      ex_one ((exTkG w hB pn).2 A L))⟩
noncomputable def exTokR : { W : T AFl // ∀ A L, ExecsTo w hB { cxTok pn A L with pin := pn + 1 } tokRest W } := ⟨_, fun A L =>
  exs_cons (ex_forC rfl (ev_loc (i := 2) rfl) (co_readCh (by show 1 < 2; decide)) (as_loc (i := 3) rfl)
  (exs_cons ((exTkW w hB pn).2 A L) <|
    ex_one (ex_if (te_cmp (ev_loc (i := 3) rfl) (ev_str [34]) o_eqG)
    (ex_one ((exTkF w hB pn).2 A L))
    ((exTkO w hB pn).2 A L)))) <|
  ex_one (ex_ret (ev_loc (i := 1) rfl))⟩
end

noncomputable def exTok (w : World) (hB : Heap) (pn : Nat) : { W : T AFl // ∀ A L, ExecsTo w hB (cxTok pn A L) (dBody (nest (stm 2) 2)) W } := ⟨_, fun A L =>
  exs_cons (ex_if (te_val (ev_attr (ev_loc (i := 0) rfl) (o_attr (C := 59) (chk := ["lineno", "instream", "whitespace", "pushback"]) (i := 3) (ck_lex w) (by kernel_rfl) (by decide +kernel) true)) o_tru)
  (ex_one (ex_ret (ev_meth (ev_attr (ev_loc (i := 0) rfl) (o_attr (C := 59) (chk := ["lineno", "instream", "whitespace", "pushback"]) (i := 3) (ck_lex w) (by kernel_rfl) (by decide +kernel) true)) (li_cons ev_int li_nil) (f_list PySem.F.slot_list_pop PySem.F.type_list_pop) c_pop0)))
  (exs_nil)) <|
  exs_cons (ex_assign (ev_str []) (as_loc (i := 1) rfl)) <|
  exs_cons (ex_assign (ev_call (ev_blt (v := .builtin "iter") rfl (nb_iter w) rfl) (li_cons (ev_attr (ev_loc (i := 0) rfl) (o_meth (C := 59) (f := 42) (chk := ["lineno", "instream", "whitespace", "pushback"]) (ck_lex w) (by kernel_rfl) (by kernel_rfl) (by kernel_rfl) (by kernel_rfl) (by decide +kernel) (by decide +kernel) true)) (li_cons (ev_str []) li_nil)) c_iter2) (as_loc (i := 2) rfl)) <|
  exs_pin (m := pn + 1) (Nat.le_succ pn) ((exTokR w hB pn).2 A L)⟩

noncomputable abbrev citL (i : Nat) : SO := .citer (.meth 42 (.iobj 59 i)) (.str [])
theorem lnUp_cons (ln : Int) (d : Nat) : lnUp ln [d] = ln + (([d] : Cs).count 10 : Nat) := by
  unfold lnUp
  by_cases h : d = 10
  · subst h; simp
  · rw [if_neg (by simpa using h)]
    simp [List.count_cons, h]
theorem chAt_cons {x : Cs} {p d : Nat} {y : Cs} (h : x.drop p = d :: y) : chAt x p = [d] := by unfold chAt; rw [h]; rfl
theorem chAt_nil {x : Cs} {p : Nat} (h : x.drop p = []) : chAt x p = [] := by unfold chAt; rw [h]; rfl
theorem drop_succ' {x : Cs} {p d : Nat} {y : Cs} (h : x.drop p = d :: y) : x.drop (p + 1) = y ∧ p + 1 ≤ x.length := by
  have h1 : x.drop (p + 1) = (x.drop p).drop 1 := by rw [List.drop_drop]
  refine ⟨by rw [h1, h]; rfl, ?_⟩
  have := congrArg List.length h
  rw [List.length_drop, List.length_cons] at this
  exact Nat.lt_of_sub_pos (by rw [this]; exact Nat.succ_pos _)
section
variable {hp : List SO} {i j l : Nat} {x : Cs} {ln0 : Int} {p0 : Nat} {pb : List Cs}
theorem Lex.at_ (h : Lex hp i j l x ln0 p0 pb) {ln : Int} {p : Nat} (hle : p ≤ x.length) : Lex (lexP hp i j l x ln p pb ++ [citL i]) i j l x ln p pb := (h.put hle).app _
theorem nx_some (h : Lex hp i j l x ln0 p0 pb) {ln : Int} {p d : Nat} {y : Cs} (hy : x.drop p = d :: y) {loc : List (Option SV)} {k : Option SV → St → Prop}
    (hk : k (some (.str [d])) ⟨loc, lexP hp i j l x (lnUp ln [d]) (p + 1) pb ++ [citL i]⟩) : wNext 42 wReadCh hp.length k ⟨loc, lexP hp i j l x ln p pb ++ [citL i]⟩ := by
  obtain ⟨_, hle⟩ := drop_succ' hy
  have g : ∀ (ln : Int) (p : Nat) (z : SO), hget (lexP hp i j l x ln p pb ++ [z]) hp.length = some z := fun ln p z => hget_len (by
    rw [List.getElem?_append_right (by rw [lexP_len]; exact Nat.le_refl _), lexP_len]; simp)
  refine ⟨_, g _ _ _, ?_⟩
  refine ⟨rfl, j, l, x, ln, p, pb, h.at_ (by omega), ?_⟩
  rw [(h.put (by omega : p ≤ x.length)).app_put, lexP_lexP, chAt_cons hy]
  refine ⟨g _ _ _, ?_⟩
  exact hk
theorem nx_none (h : Lex hp i j l x ln0 p0 pb) {ln : Int} {p : Nat} (hy : x.drop p = []) (hple : p ≤ x.length) {loc : List (Option SV)} {k : Option SV → St → Prop}
    (hk : k none ⟨loc, lexP hp i j l x ln p pb ++ [.gone]⟩) : wNext 42 wReadCh hp.length k ⟨loc, lexP hp i j l x ln p pb ++ [citL i]⟩ := by
  have g : ∀ (ln : Int) (p : Nat) (z : SO), hget (lexP hp i j l x ln p pb ++ [z]) hp.length = some z := fun ln p z => hget_len (by
    rw [List.getElem?_append_right (by rw [lexP_len]; exact Nat.le_refl _), lexP_len]; simp)
  refine ⟨_, g _ _ _, ?_⟩
  refine ⟨rfl, j, l, x, ln, p, pb, h.at_ hple, ?_⟩
  rw [(h.put hple).app_put, lexP_lexP, chAt_nil hy]
  refine ⟨g _ _ _, ?_⟩
  have e : (lexP hp i j l x (lnUp ln []) (p + List.length ([] : Cs)) pb ++ [citL i]).set hp.length .gone = lexP hp i j l x ln p pb ++ [.gone] := by
    rw [show (lnUp ln []) = ln by simp [lnUp]]
    rw [List.set_append_right _ _ (by rw [lexP_len]; exact Nat.le_refl _), lexP_len]
    simp
  show k none ⟨loc, (lexP hp i j l x (lnUp ln []) (p + List.length ([] : Cs)) pb ++ [citL i]).set hp.length .gone⟩
  rw [e]
  exact hk
theorem rd_some (h : Lex hp i j l x ln0 p0 pb) {ln : Int} {p d : Nat} {y : Cs} (hy : x.drop p = d :: y) {loc : List (Option SV)} {k : SV → St → Prop}
    (hk : k (.str [d]) ⟨loc, lexP hp i j l x (lnUp ln [d]) (p + 1) pb ++ [citL i]⟩) : wReadCh [.iobj 59 i] k ⟨loc, lexP hp i j l x ln p pb ++ [citL i]⟩ := by
  obtain ⟨_, hle⟩ := drop_succ' hy
  refine ⟨rfl, j, l, x, ln, p, pb, h.at_ (by omega), ?_⟩
  rw [(h.put (by omega : p ≤ x.length)).app_put, lexP_lexP, chAt_cons hy]
  exact hk

noncomputable abbrev tkL (i q : Nat) (tok : Cs) (o : Option SV) : List (Option SV) := [some (.iobj 59 i), some (.str tok), some (.obj q), o]
noncomputable abbrev wsC : Cs := [10, 9, 13, 32]
theorem in_quo (h : Lex hp i j l x ln0 p0 pb) {pin : Nat} {wb : T AFl} {k : AFl → St → Prop}
    (h34 : ∀ tok st, st.loc = tkL i hp.length tok (some (.str [34])) → ∀ k' : AFl → St → Prop, k' (.ret (.str tok)) st → wb k' st)
    (hd : ∀ tok d st, st.loc = tkL i hp.length tok (some (.str [d])) → d ≠ 34 → d ≠ 92 → tok.length ≤ 100000 → ∀ k' : AFl → St → Prop, k' .next ⟨tkL i hp.length (tok ++ [d]) (some (.str [d])), st.heap⟩ → wb k' st) :
    ∀ (wd rest tok : Cs) (ln : Int) (p : Nat) (o : Option SV), x.drop p = wd ++ 34 :: rest → (∀ d ∈ wd, d ≠ 34 ∧ d ≠ 92) → tok.length + wd.length ≤ 100000 →
      (∀ o, k (.ret (.str (tok ++ wd))) ⟨o, lexP hp i j l x (ln + (wd.count 10 : Nat)) (p + wd.length + 1) pb ++ [citL i]⟩) → wForCL pin 42 wReadCh hp.length (wSet 3) wb k (wd.length + 1) ⟨tkL i hp.length tok o, lexP hp i j l x ln p pb ++ [citL i]⟩
  | [], rest, tok, ln, p, o, hy, w1_, w2_, hk => by
    refine ⟨_, .refl, nx_some h hy ?_⟩
    dsimp only
    refine h34 tok _ rfl _ ?_
    have := hk (tkL i hp.length tok (some (.str [34])))
    rw [List.append_nil] at this
    simp only [List.count_nil, List.length_nil, Nat.add_zero, Int.natCast_zero, Int.add_zero, Int.ofNat_zero] at this
    exact this
  | d :: wd, rest, tok, ln, p, o, hy, hw, hl, hk => by
    have hdd := hw d (by simp)
    refine ⟨_, .refl, nx_some h hy ?_⟩
    dsimp only
    refine hd tok d _ rfl hdd.1 hdd.2 (by simp at hl; omega) _ ?_
    dsimp only
    refine in_quo h h34 hd wd rest (tok ++ [d]) (lnUp ln [d]) (p + 1) _ (drop_succ' hy).1 (fun e he => hw e (List.mem_cons_of_mem _ he)) (by simp at hl ⊢; omega) fun o' => ?_
    have := hk o'
    rw [lnUp_cons]
    have e1 : ln + (([d] : Cs).count 10 : Nat) + (wd.count 10 : Nat) = ln + ((d :: wd).count 10 : Nat) := by
      rw [show (d :: wd) = [d] ++ wd from rfl, List.count_append]; omega
    have e2 : p + 1 + wd.length + 1 = p + (d :: wd).length + 1 := by simp; omega
    rw [e1, e2, List.append_assoc]
    exact this
noncomputable def esc (x : Cs) : Cs := x.flatMap fun d => [92, d]
theorem in_esc (h : Lex hp i j l x ln0 p0 pb) {pin : Nat} {wb : T AFl} {k : AFl → St → Prop}
    (h32 : ∀ tok st ln, st.loc = tkL i hp.length tok (some (.str [32])) → hget st.heap i = some (lexA j l x ln) → ∀ k' : AFl → St → Prop, k' (.ret (.str tok)) st → wb k' st)
    (hd : ∀ tok d y ln p, x.drop p = d :: y → tok.length ≤ 100000 → ∀ k' : AFl → St → Prop, k' .next ⟨tkL i hp.length (tok ++ [d]) (some (.str [d])), lexP hp i j l x (lnUp ln [d]) (p + 1) pb ++ [citL i]⟩ →
      wb k' ⟨tkL i hp.length tok (some (.str [92])), lexP hp i j l x ln p pb ++ [citL i]⟩) :
    ∀ (wd rest tok : Cs) (ln : Int) (p : Nat) (o : Option SV), x.drop p = esc wd ++ 32 :: rest → tok.length + wd.length ≤ 100000 →
      (∀ o, k (.ret (.str (tok ++ wd))) ⟨o, lexP hp i j l x (ln + (wd.count 10 : Nat)) (p + 2 * wd.length + 1) pb ++ [citL i]⟩) → wForCL pin 42 wReadCh hp.length (wSet 3) wb k (wd.length + 1) ⟨tkL i hp.length tok o, lexP hp i j l x ln p pb ++ [citL i]⟩
  | [], rest, tok, ln, p, o, hy, w1_, hk => by
    refine ⟨_, .refl, nx_some h hy ?_⟩
    dsimp only
    refine h32 tok _ _ rfl (h.at_ (drop_succ' hy).2).a _ ?_
    have := hk (tkL i hp.length tok (some (.str [32])))
    rw [List.append_nil] at this
    simp only [List.count_nil, List.length_nil, Nat.mul_zero, Nat.add_zero, Int.natCast_zero, Int.add_zero, Int.ofNat_zero] at this
    exact this
  | d :: wd, rest, tok, ln, p, o, hy, hl, hk => by
    have hy' : x.drop p = 92 :: d :: (esc wd ++ 32 :: rest) := hy
    have hy2 := (drop_succ' hy').1
    refine ⟨_, .refl, nx_some h hy' ?_⟩
    dsimp only
    have e0 : lnUp ln [92] = ln := by simp [lnUp]
    rw [e0]
    refine hd tok d _ ln (p + 1) hy2 (by simp at hl; omega) _ ?_
    dsimp only
    refine in_esc h h32 hd wd rest (tok ++ [d]) (lnUp ln [d]) (p + 1 + 1) _ (drop_succ' hy2).1 (by simp at hl ⊢; omega) fun o' => ?_
    have := hk o'
    rw [lnUp_cons]
    have e1 : ln + (([d] : Cs).count 10 : Nat) + (wd.count 10 : Nat) = ln + ((d :: wd).count 10 : Nat) := by
      rw [show (d :: wd) = [d] ++ wd from rfl, List.count_append]; omega
    have e2 : p + 1 + 1 + 2 * wd.length + 1 = p + 2 * (d :: wd).length + 1 := by simp; omega
    rw [e1, e2, List.append_assoc]
    exact this
theorem skip_ws (h : Lex hp i j l x ln0 p0 pb) {pin : Nat} {wb : T AFl} {k : AFl → St → Prop}
    (hws : ∀ d st ln, d ∈ wsC → st.loc = tkL i hp.length [] (some (.str [d])) → hget st.heap i = some (lexA j l x ln) → ∀ k' : AFl → St → Prop, k' .cont st → wb k' st) :
    ∀ (sp y : Cs) (ln : Int) (p : Nat) (o : Option SV) (n : Nat), x.drop p = sp ++ y → (∀ d ∈ sp, d ∈ wsC) →
      (∀ o, wForCL pin 42 wReadCh hp.length (wSet 3) wb k n ⟨tkL i hp.length [] o, lexP hp i j l x (ln + (sp.count 10 : Nat)) (p + sp.length) pb ++ [citL i]⟩) → wForCL pin 42 wReadCh hp.length (wSet 3) wb k (sp.length + n) ⟨tkL i hp.length [] o, lexP hp i j l x ln p pb ++ [citL i]⟩
  | [], y, ln, p, o, n, w1_, w2_, hk => by
    have := hk o
    simp only [List.count_nil, List.length_nil, Nat.add_zero, Int.natCast_zero, Int.add_zero, Int.ofNat_zero] at this
    simpa using this
  | d :: sp, y, ln, p, o, n, hy, hw, hk => by
    have e : (d :: sp).length + n = (sp.length + n) + 1 := by simp; omega
    rw [e]
    refine ⟨_, .refl, nx_some h hy ?_⟩
    dsimp only
    refine hws d _ _ (hw d (by simp)) rfl (h.at_ (drop_succ' hy).2).a _ ?_
    dsimp only
    refine skip_ws h hws sp y (lnUp ln [d]) (p + 1) _ n (drop_succ' hy).1 (fun e he => hw e (List.mem_cons_of_mem _ he)) fun o' => ?_
    have := hk o'
    rw [lnUp_cons]
    have e1 : ln + (([d] : Cs).count 10 : Nat) + (sp.count 10 : Nat) = ln + ((d :: sp).count 10 : Nat) := by
      rw [show (d :: sp) = [d] ++ sp from rfl, List.count_append]; omega
    have e2 : p + 1 + sp.length = p + (d :: sp).length := by simp; omega
    rw [e1, e2]
    exact this
end
noncomputable def TokTo (y t rest : Cs) : Prop :=
  (∃ sp, (∀ d ∈ sp, d ∈ wsC) ∧ (∀ d ∈ t, d ≠ 34 ∧ d ≠ 92) ∧ y = sp ++ 34 :: (t ++ 34 :: rest)) ∨
  (∃ sp d wd, (∀ d ∈ sp, d ∈ wsC) ∧ t = d :: wd ∧ y = sp ++ 92 :: d :: (esc wd ++ 32 :: rest)) ∨
  ((∀ d ∈ y, d ∈ wsC) ∧ t = [] ∧ rest = [])
section
variable {hp : List SO} {i j l : Nat} {x : Cs} {ln : Int} {p : Nat} {pb : List Cs}
section
variable (w : World) (hB : Heap) (pn : Nat)
theorem tkW_cont {d : Nat} {st : St} {ln : Int} {q : Nat} (hd : d ∈ wsC) (hloc : st.loc = tkL i q [] (some (.str [d]))) (ha : hget st.heap i = some (lexA j l x ln)) (k' : AFl → St → Prop) (hk' : k' .cont st) : (exTkW w hB pn).1 k' st := by
  unfold exTkW
  obtain ⟨loc, H⟩ := st
  dsimp only at hloc ha
  subst hloc
  unfold lexA at ha
  k_go
  simp only [ha]
  k_go
  refine ⟨trivial, ?_⟩
  rw [if_pos (by simpa using hd)]
  exact hk'
theorem tkW_next {d : Nat} {H : List SO} {ln : Int} {q : Nat} (hd : d ∉ wsC) (ha : hget H i = some (lexA j l x ln)) (k' : AFl → St → Prop) (hk' : k' .next ⟨tkL i q [] (some (.str [d])), H⟩) : (exTkW w hB pn).1 k' ⟨tkL i q [] (some (.str [d])), H⟩ := by
  unfold exTkW
  unfold lexA at ha
  k_go
  simp only [ha]
  k_go
  refine ⟨trivial, ?_⟩
  rw [if_neg (by simpa using hd)]
  exact hk'
theorem tkQ_34 (tok : Cs) (st : St) {q : Nat} (hloc : st.loc = tkL i q tok (some (.str [34]))) (k' : AFl → St → Prop) (hk' : k' (.ret (.str tok)) st) : (exTkQ w hB pn).1 k' st := by
  unfold exTkQ
  obtain ⟨loc, H⟩ := st
  dsimp only at hloc
  subst hloc
  k_go
  simp only [beq_self_eq_true]
  k_go
  exact hk'
theorem tkQ_d (tok : Cs) (d : Nat) (st : St) {q : Nat} (hloc : st.loc = tkL i q tok (some (.str [d]))) (h1 : d ≠ 34) (h2 : d ≠ 92) (h3 : tok.length ≤ 100000) (k' : AFl → St → Prop) (hk' : k' .next ⟨tkL i q (tok ++ [d]) (some (.str [d])), st.heap⟩) : (exTkQ w hB pn).1 k' st := by
  unfold exTkQ
  obtain ⟨loc, H⟩ := st
  dsimp only at hloc
  subst hloc
  k_go
  simp only [show (([d] : Cs) == [34]) = false by simpa using h1]
  k_go
  simp only [show (([d] : Cs) == [92]) = false by simpa using h2]
  k_go
  unfold wCat
  k_go
  refine ⟨by simp; omega, ?_⟩
  exact hk'
theorem tkE_32 (tok : Cs) (st : St) (ln : Int) {q : Nat} (hloc : st.loc = tkL i q tok (some (.str [32]))) (ha : hget st.heap i = some (lexA j l x ln)) (k' : AFl → St → Prop) (hk' : k' (.ret (.str tok)) st) : (exTkE w hB pn).1 k' st := by
  unfold exTkE
  obtain ⟨loc, H⟩ := st
  dsimp only at hloc ha
  subst hloc
  unfold lexA at ha
  k_go
  simp only [ha]
  k_go
  refine ⟨trivial, ?_⟩
  rw [if_pos (by decide)]
  exact hk'
end
theorem esc_len (z : Cs) : (esc z).length = 2 * z.length := by
  induction z with
  | nil => rfl
  | cons a z ih => simp only [esc, List.flatMap_cons, List.length_append, List.length_cons, List.length_nil] at ih ⊢; omega
theorem esc_cnt (z : Cs) : (esc z).count 10 = z.count 10 := by
  induction z with
  | nil => rfl
  | cons a z ih => simp only [esc, List.flatMap_cons, List.count_append, List.count_cons, List.count_nil] at ih ⊢; simp; omega
theorem icit (hp : List SO) (i j l : Nat) (x : Cs) (loc : List (Option SV)) (ln : Int) (p : Nat) : isCit ⟨loc, lexP hp i j l x ln p [] ++ [citL i]⟩ hp.length :=
  ⟨_, _, (show hget _ hp.length = some (citL i) from hget_len (by rw [List.getElem?_append_right (by rw [lexP_len]; exact Nat.le_refl _), lexP_len]; simp))⟩
section
variable {hp : List SO} {i j l : Nat} {x : Cs} {ln0 : Int} {p0 : Nat}
theorem tkE_d (w : World) (hB : Heap) (pn : Nat) (h : Lex hp i j l x ln0 p0 []) (tok : Cs) (d : Nat) (y : Cs) (ln : Int) (p : Nat) (hyd : x.drop p = d :: y) (hl : tok.length ≤ 100000) (k' : AFl → St → Prop)
    (hk' : k' .next ⟨tkL i hp.length (tok ++ [d]) (some (.str [d])), lexP hp i j l x (lnUp ln [d]) (p + 1) [] ++ [citL i]⟩) : (exTkE w hB pn).1 k' ⟨tkL i hp.length tok (some (.str [92])), lexP hp i j l x ln p [] ++ [citL i]⟩ := by
  have ha := (h.at_ (ln := ln) (p := p) (by have := (drop_succ' hyd).2; omega)).a
  unfold lexA at ha
  unfold exTkE
  k_go
  simp only [ha]
  k_go
  refine ⟨trivial, ?_⟩
  rw [if_neg (by decide)]
  k_go
  simp only [beq_self_eq_true]
  k_go
  unfold isInst
  k_go
  simp only [ha]
  k_go
  refine rd_some h hyd ?_
  k_go
  unfold wCat
  k_go
  refine ⟨by simp; omega, ?_⟩
  exact hk'
theorem tkO_go (w : World) (hB : Heap) (h : Lex hp i j l x ln0 p0 []) {d : Nat} {y : Cs} {ln : Int} {p : Nat} (hle : p ≤ x.length) (hyd : x.drop p = d :: y) (K : AFl → St → Prop)
    (hk : ∃ n, wForCL (hp.length + 1) 42 wReadCh hp.length (wSet 3) (exTkE w hB hp.length).1 K n ⟨tkL i hp.length ([] ++ [d]) (some (.str [d])), lexP hp i j l x (lnUp ln [d]) (p + 1) [] ++ [citL i]⟩) :
    (exTkO w hB hp.length).1 K ⟨tkL i hp.length [] (some (.str [92])), lexP hp i j l x ln p [] ++ [citL i]⟩ := by
  have ha := (h.at_ (ln := ln) hle).a
  unfold lexA at ha
  unfold exTkO exTkR exTkG
  k_go
  simp only [beq_self_eq_true]
  k_go
  unfold isInst
  k_go
  simp only [ha]
  k_go
  refine rd_some h hyd ?_
  k_go
  unfold wCat
  k_go
  refine ⟨by simp, ?_⟩
  exact ⟨Nat.lt_succ_self _, icit _ _ _ _ _ _ _ _, hk⟩
theorem tkF_go (w : World) (hB : Heap) {ln : Int} {p : Nat} (K : AFl → St → Prop)
    (hk : ∃ n, wForCL (hp.length + 1) 42 wReadCh hp.length (wSet 3) (exTkQ w hB hp.length).1 K n ⟨tkL i hp.length [] (some (.str [34])), lexP hp i j l x ln p [] ++ [citL i]⟩) :
    (exTkF w hB hp.length).1 K ⟨tkL i hp.length [] (some (.str [34])), lexP hp i j l x ln p [] ++ [citL i]⟩ := by
  unfold exTkF
  k_go
  exact ⟨Nat.lt_succ_self _, icit _ _ _ _ _ _ _ _, hk⟩
end
theorem tokR_spec (w : World) (hB : Heap) (pn : Nat) (h : Lex hp i j l x ln p []) (hpn : pn = hp.length) {y t rest : Cs} (hy : x.drop p = y) (ht : TokTo y t rest) (k : SV → List SO → Prop)
    (hk : ∀ z, k (.str t) (lexP hp i j l x (ln + (y.count 10 : Nat) - (rest.count 10 : Nat)) (x.length - rest.length) [] ++ [z])) :
    (exTokR w hB pn).1 (retK k) ⟨tkL i hp.length [] none, lexP hp i j l x ln p [] ++ [citL i]⟩ := by
  subst hpn
  have hlen := h.len
  have hple := h.ple
  have hyl : y.length = x.length - p := by rw [← hy, List.length_drop]
  unfold exTokR
  have lp : (hp.length + 1 : Nat) = hp.length + 1 := rfl
  refine ⟨Nat.lt_succ_self _, ?_, ?_⟩
  · exact icit _ _ _ _ _ _ _ _
  rcases ht with ⟨sp, hsp, hwd, rfl⟩ | ⟨sp, d, wd, hsp, rfl, rfl⟩ | ⟨hsp, rfl, rfl⟩
  · refine ⟨sp.length + 1, ?_⟩
    refine skip_ws h ?_ sp _ ln p none 1 hy hsp fun o => ?_
    · intro d st ln' hd hloc ha k' hk'
      exact tkW_cont w hB _ hd hloc ha _ hk'
    · have hy2 : x.drop (p + sp.length) = 34 :: (t ++ 34 :: rest) := by
        rw [← List.drop_drop, hy, List.drop_left]
      have hy3 := drop_succ' hy2
      refine ⟨_, .refl, nx_some h hy2 ?_⟩
      dsimp only
      have ha := (h.at_ (ln := lnUp (ln + (sp.count 10 : Nat)) [34]) hy3.2).a
      refine tkW_next w hB _ (by decide) ha _ ?_
      k_go
      simp only [beq_self_eq_true]
      k_go
      refine tkF_go w hB _ ⟨t.length + 1, ?_⟩
      have hlt : t.length + 1 ≤ x.length := by
        have := congrArg List.length hy3.1
        rw [List.length_drop, List.length_append, List.length_cons] at this
        omega
      refine in_quo h ?_ ?_ t rest [] _ _ _ hy3.1 hwd (by simp; omega) fun o' => ?_
      · intro tok st hloc k' hk'
        exact tkQ_34 w hB _ tok st hloc _ hk'
      · intro tok d st hloc h1 h2 h3 k' hk'
        exact tkQ_d w hB _ tok d st hloc h1 h2 h3 _ hk'
      · k_go
        have := hk (citL i)
        have e1 : lnUp (ln + (sp.count 10 : Nat)) [34] + (t.count 10 : Nat) = ln + ((sp ++ 34 :: (t ++ 34 :: rest)).count 10 : Nat) - (rest.count 10 : Nat) := by
          rw [lnUp_cons]
          simp only [List.count_append, List.count_cons]
          simp
          omega
        have e2 : p + sp.length + 1 + t.length + 1 = x.length - rest.length := by
          simp only [List.length_append, List.length_cons] at hyl
          omega
        rw [e1, e2]
        simpa using this
  · refine ⟨sp.length + 1, ?_⟩
    refine skip_ws h ?_ sp _ ln p none 1 hy hsp fun o => ?_
    · intro d st ln' hd hloc ha k' hk'
      exact tkW_cont w hB _ hd hloc ha _ hk'
    · have hy2 : x.drop (p + sp.length) = 92 :: d :: (esc wd ++ 32 :: rest) := by
        rw [← List.drop_drop, hy, List.drop_left]
      have hy3 := drop_succ' hy2
      have hy4 := drop_succ' hy3.1
      refine ⟨_, .refl, nx_some h hy2 ?_⟩
      dsimp only
      have e92 : lnUp (ln + (sp.count 10 : Nat)) [92] = ln + (sp.count 10 : Nat) := by simp [lnUp]
      rw [e92]
      have ha := (h.at_ (ln := ln + (sp.count 10 : Nat)) hy3.2).a
      refine tkW_next w hB _ (by decide) ha _ ?_
      k_go
      rw [if_neg (by decide)]
      refine tkO_go w hB h hy3.2 hy3.1 _ ⟨wd.length + 1, ?_⟩
      have hlw : wd.length + 1 ≤ x.length := by
        have := congrArg List.length hy4.1
        rw [List.length_drop, List.length_append, List.length_cons, esc_len] at this
        omega
      refine in_esc h ?_ ?_ wd rest ([] ++ [d]) _ _ _ hy4.1 (by simp; omega) fun o' => ?_
      · intro tok st ln' hloc ha k' hk'
        exact tkE_32 w hB _ tok st ln' hloc ha _ hk'
      · intro tok d y ln p hyd hl k' hk'
        exact tkE_d w hB _ h tok d y ln p hyd hl k' hk'
      · k_go
        have := hk (citL i)
        have e1 : lnUp (ln + (sp.count 10 : Nat)) [d] + (wd.count 10 : Nat) = ln + ((sp ++ 92 :: d :: (esc wd ++ 32 :: rest)).count 10 : Nat) - (rest.count 10 : Nat) := by
          rw [lnUp_cons]
          simp only [List.count_append, List.count_cons, esc_cnt, List.count_nil]
          simp
          omega
        have e2 : p + sp.length + 1 + 1 + 2 * wd.length + 1 = x.length - rest.length := by
          simp only [List.length_append, List.length_cons, esc_len] at hyl
          omega
        rw [e1, e2]
        simpa using this
  · refine ⟨y.length + 1, ?_⟩
    refine skip_ws h ?_ y [] ln p none 1 (by simpa using hy) hsp fun o => ?_
    · intro d st ln' hd hloc ha k' hk'
      exact tkW_cont w hB _ hd hloc ha _ hk'
    · have hy2 : x.drop (p + y.length) = [] := by
        rw [← List.drop_drop, hy, List.drop_length]
      refine ⟨_, .refl, nx_none h hy2 (by omega) ?_⟩
      k_go
      have := hk .gone
      have e2 : x.length - ([] : Cs).length = p + y.length := by simp; omega
      rw [e2] at this
      simpa using this
end
section
variable {hp : List SO} {i j l : Nat} {x : Cs} {ln : Int} {p : Nat} {pb : List Cs}
theorem tok_push_spec (w : World) (hB : Heap) (pn : Nat) {t : Cs} (h : Lex hp i j l x ln p (t :: pb)) (hb : pb.length ≤ 1000) (k : SV → List SO → Prop)
    (hk : k (.str t) (lexP hp i j l x ln p pb)) : (exTok w hB pn).1 (retK k) ⟨initLoc [.iobj 59 i] 4, hp⟩ := by
  unfold exTok
  have ha := h.a
  have hc := h.c
  unfold lexA at ha
  k_go
  simp only [ha]
  k_go
  simp only [hc]
  k_go
  refine ⟨trivial, by simp; omega, ?_⟩
  rw [if_pos (by simp)]
  k_go
  simp only [ha]
  k_go
  refine ⟨trivial, by simp [isLst, lstOf, soList, hc], ?_⟩
  simp only [hc]
  k_go
  refine ⟨by simp; omega, ?_⟩
  have e := h.setC (pb' := pb)
  rw [e]
  exact hk
theorem tok_spec (w : World) (hB : Heap) (pn : Nat) (h : Lex hp i j l x ln p []) (hpn : pn = hp.length) {t rest : Cs} (ht : TokTo (x.drop p) t rest) (k : SV → List SO → Prop)
    (hk : ∀ z, k (.str t) (lexP hp i j l x (ln + ((x.drop p).count 10 : Nat) - (rest.count 10 : Nat)) (x.length - rest.length) [] ++ [z])) :
    (exTok w hB pn).1 (retK k) ⟨initLoc [.iobj 59 i] 4, hp⟩ := by
  unfold exTok
  have ha := h.a
  have hc := h.c
  unfold lexA at ha
  k_go
  simp only [ha]
  k_go
  simp only [hc]
  k_go
  refine ⟨trivial, ?_⟩
  refine ⟨by decide, ?_⟩
  rw [if_neg (by decide)]
  k_go
  unfold isInst
  k_go
  simp only [ha]
  refine ⟨⟨trivial, trivial⟩, ?_⟩
  unfold wIter2
  k_go
  rw [hpn]
  refine ⟨by simp, ?_⟩
  have e := tokR_spec w hB pn h hpn rfl ht k hk
  rw [h.same, hpn] at e
  exact e
inductive wTok (as : List SV) (k : SV → St → Prop) (st : St) : Prop
  | mk {i : Nat} (e : as = [.iobj 59 i]) (j l : Nat) (x : Cs) (ln : Int) (p : Nat) (pb : List Cs) (h : Lex st.heap i j l x ln p pb) (q : match pb with
    | t :: pb' => pb'.length ≤ 1000 ∧ k (.str t) ⟨st.loc, lexP st.heap i j l x ln p pb'⟩
    | [] => ∃ t rest, TokTo (x.drop p) t rest ∧ k (.str t) ⟨st.loc, lexP st.heap i j l x (ln + ((x.drop p).count 10 : Nat) - (rest.count 10 : Nat)) (x.length - rest.length) []⟩) : wTok as k st
theorem c_tok {w : World} {hB : Heap} {c : Cx} (hc : 2 < c.ht) : CallOp w hB c (.ref 49) wTok :=
  c_live 2 (fnTok w) (fun pn A L => (exTok w hB pn).2 A L) hc fun as k st hw => by
    obtain ⟨rfl, j, l, x, ln, p, pb, h, hk⟩ := hw
    · skip
      rcases pb with _ | ⟨t0, pb⟩
      case cons =>
        obtain ⟨hb, hk⟩ := hk
        refine ⟨rfl, tok_push_spec w hB _ h hb _ ⟨trivial, h.okP, ?_⟩⟩
        rw [take_lexP]; exact hk
      case nil =>
        obtain ⟨t, rest, ht, hk⟩ := hk
        refine ⟨rfl, tok_spec w hB _ h rfl ht _ fun z => ⟨trivial, fun m so hm e => ?_, ?_⟩⟩
        · rw [List.getElem?_append_left (by rw [lexP_len]; exact hm)] at e
          exact h.okP m so hm e
        · rw [List.take_append_of_le_length (by rw [lexP_len]; exact Nat.le_refl _), take_lexP]; exact hk
end

noncomputable def tkOf : Option CFound → Tok
  | some (.val (.str w1_ t)) => t
  | _ => 0
theorem ws_S (w : World) : findCls (KF w) (.ref 167) (.type "type") "S" = some (.val (.str (S [32]) (tkOf (findCls (KF w) (.ref 167) (.type "type") "S")))) := by kernel_rfl
theorem ws_T (w : World) : findCls (KF w) (.ref 167) (.type "type") "T" = some (.val (.str (S [9]) (tkOf (findCls (KF w) (.ref 167) (.type "type") "T")))) := by kernel_rfl

noncomputable abbrev dsWsInit : List (Str × Bool) := [("self", false), ("ws", false), ("S", false), ("T", false), ("count", false), ("b", false), ("n", false), ("nt", false), ("ch", false)]
noncomputable abbrev cxWsInit (A : Around) (L : Addr) : Cx := mkCx 0 1 "Whitespace.__init__" (dScope (nest (stm 8) 1)) 122 (.ref 121) dsWsInit A L
theorem fnWsInit (w : World) : FnS w 122 (nest (stm 8) 1) "Whitespace.__init__" (.ref 121) ["self", "ws"] dsWsInit where
  k := by unfold FnK; kernel_rfl
  cd := by kernel_rfl
  bd := bind2 fun fd h1 h2 h3 a0 a1 => by unfold bindArgs; rw [h1, h2, h3]; rfl
  hs := by kernel_rfl
  nd := by decide +kernel
  chk := by decide +kernel

noncomputable def exWsInit_0 (w : World) (hB : Heap) : { W : T AFl // ∀ A L, ExecTo w hB (cxWsInit A L) (nest (nest (stm 8) 1) 0) W } := ⟨_, fun A L =>
  (ex_assign (ev_loc (i := 1) rfl) (as_attr (ev_loc (i := 0) rfl) (o_setAttr (C := 167) (chk := []) (i := 0) (ck_ws w) (by kernel_rfl) (.inr ⟨by decide +kernel, rfl⟩))))⟩
noncomputable def exWsInit_1 (w : World) (hB : Heap) : { W : T AFl // ∀ A L, ExecTo w hB (cxWsInit A L) (nest (nest (stm 8) 1) 1) W } := ⟨_, fun A L =>
  (ex_swap2 (ev_tup (li_cons (ev_attr (ev_glob rfl (gl_Whitespace w)) (o_cattr (C := 167) (name := "S") (cs := [32]) (by kernel_rfl) (ws_S w) true)) (li_cons (ev_attr (ev_glob rfl (gl_Whitespace w)) (o_cattr (C := 167) (name := "T") (cs := [9]) (by kernel_rfl) (ws_T w) true)) li_nil))) (sto_loc (i := 2) rfl) (sto_loc (i := 3) rfl) rfl rfl)⟩
noncomputable def exWsInit_2 (w : World) (hB : Heap) : { W : T AFl // ∀ A L, ExecTo w hB (cxWsInit A L) (nest (nest (stm 8) 1) 2) W } := ⟨_, fun A L =>
  (ex_assign (ev_listL li_nil) (as_loc (i := 4) rfl))⟩
noncomputable def exWsInit_3 (w : World) (hB : Heap) : { W : T AFl // ∀ A L, ExecTo w hB (cxWsInit A L) (nest (nest (stm 8) 1) 3) W } := ⟨_, fun A L =>
  (ex_assign3 ev_int (as_loc (i := 5) rfl) (as_loc (i := 6) rfl) (as_loc (i := 7) rfl))⟩
noncomputable abbrev sWs : PySem.Stmt := nthS (forBody (nest (nest (stm 8) 1) 4)) 0
noncomputable def exWsA (w : World) (hB : Heap) : { W : T AFl // ∀ A L, ExecsTo w hB (cxWsInit A L) (ifB sWs) W } := ⟨_, fun A L =>
    (exs_cons (ex_assign (ev_bin (ev_loc (i := 6) rfl) ev_int (o_addG false)) (as_loc (i := 6) rfl)) <|
      ex_one (ex_assign (ev_bin (ev_loc (i := 5) rfl) ev_int (o_addG false)) (as_loc (i := 5) rfl)))⟩
noncomputable def exWsC (w : World) (hB : Heap) : { W : T AFl // ∀ A L, ExecTo w hB (cxWsInit A L) (nthS (ifB (nthS (ifO sWs) 0)) 2) W } := ⟨_, fun A L =>
    (ex_if (te_cmp (ev_loc (i := 5) rfl) (ev_call (ev_blt (v := .builtin "len") rfl (nb_len w) rfl) (li_cons (ev_loc (i := 4) rfl) li_nil) c_len) o_ge)
        (ex_one (ex_assign (ev_bin (ev_loc (i := 4) rfl) (ev_bin (ev_listZ (li_cons ev_int li_nil)) (ev_bin (ev_bin (ev_loc (i := 5) rfl) (ev_call (ev_blt (v := .builtin "len") rfl (nb_len w) rfl) (li_cons (ev_loc (i := 4) rfl) li_nil) c_len) o_sub) ev_int (o_addG false)) (o_mulG false)) (o_addG true)) (as_loc (i := 4) rfl)))
        (exs_nil))⟩
noncomputable def exWsD (w : World) (hB : Heap) : { W : T AFl // ∀ A L, ExecTo w hB (cxWsInit A L) (nthS (ifB (nthS (ifO sWs) 0)) 3) W } := ⟨_, fun A L =>
    (ex_assign (ev_bin (ev_sub (ev_loc (i := 4) rfl) (ev_loc (i := 5) rfl) g_any) ev_int (o_addG false)) (as_sub (ev_loc (i := 4) rfl) (ev_loc (i := 5) rfl)))⟩
noncomputable def exWsB (w : World) (hB : Heap) : { W : T AFl // ∀ A L, ExecsTo w hB (cxWsInit A L) (ifB (nthS (ifO sWs) 0)) W } := ⟨_, fun A L =>
      (exs_cons (ex_assign (ev_bin (ev_loc (i := 6) rfl) ev_int (o_addG false)) (as_loc (i := 6) rfl)) <|
        exs_cons (ex_assign (ev_bin (ev_loc (i := 7) rfl) ev_int (o_addG false)) (as_loc (i := 7) rfl)) <|
        exs_cons ((exWsC w hB).2 A L) <|
        exs_cons ((exWsD w hB).2 A L) <|
        ex_one (ex_assign ev_int (as_loc (i := 5) rfl)))⟩
noncomputable def exWsInit_4 (w : World) (hB : Heap) : { W : T AFl // ∀ A L, ExecTo w hB (cxWsInit A L) (nest (nest (stm 8) 1) 4) W } := ⟨_, fun A L =>
  (ex_for rfl (ev_attr (ev_loc (i := 0) rfl) (o_attr (C := 167) (chk := ["raw"]) (i := 0) (ck_ws w) (by kernel_rfl) (by decide +kernel) true)) it_gen (as_loc (i := 8) rfl)
  (ex_one (ex_if (te_cmp (ev_loc (i := 8) rfl) (ev_loc (i := 2) rfl) o_eqG)
    ((exWsA w hB).2 A L)
    (ex_one (ex_if (te_cmp (ev_loc (i := 8) rfl) (ev_loc (i := 3) rfl) o_eqG)
      ((exWsB w hB).2 A L)
      (ex_one ex_break))))))⟩
noncomputable def exWsInit_5 (w : World) (hB : Heap) : { W : T AFl // ∀ A L, ExecTo w hB (cxWsInit A L) (nest (nest (stm 8) 1) 5) W } := ⟨_, fun A L =>
  (ex_assign (ev_loc (i := 6) rfl) (as_attr (ev_loc (i := 0) rfl) (o_setAttr (C := 167) (chk := ["raw"]) (i := 1) (ck_ws w) (by kernel_rfl) (.inr ⟨by decide +kernel, rfl⟩))))⟩
noncomputable def exWsInit_6 (w : World) (hB : Heap) : { W : T AFl // ∀ A L, ExecTo w hB (cxWsInit A L) (nest (nest (stm 8) 1) 6) W } := ⟨_, fun A L =>
  (ex_assign (ev_loc (i := 7) rfl) (as_attr (ev_loc (i := 0) rfl) (o_setAttr (C := 167) (chk := ["raw", "n"]) (i := 2) (ck_ws w) (by kernel_rfl) (.inr ⟨by decide +kernel, rfl⟩))))⟩
noncomputable def exWsInit_7 (w : World) (hB : Heap) : { W : T AFl // ∀ A L, ExecTo w hB (cxWsInit A L) (nest (nest (stm 8) 1) 7) W } := ⟨_, fun A L =>
  (ex_assign (ev_tup (li_cons (ev_call (ev_blt (v := .type "tuple") rfl (nb_tuple w) rfl) (li_cons (ev_loc (i := 4) rfl) li_nil) c_tuple) (li_cons (ev_loc (i := 5) rfl) li_nil))) (as_attr (ev_loc (i := 0) rfl) (o_setAttr (C := 167) (chk := ["raw", "n", "nt"]) (i := 3) (ck_ws w) (by kernel_rfl) (.inr ⟨by decide +kernel, rfl⟩))))⟩
noncomputable def exWsInit_8 (w : World) (hB : Heap) : { W : T AFl // ∀ A L, ExecTo w hB (cxWsInit A L) (nest (nest (stm 8) 1) 8) W } := ⟨_, fun A L =>
  (ex_assign (ev_cmp (ev_call (ev_blt (v := .builtin "len") rfl (nb_len w) rfl) (li_cons (ev_loc (i := 4) rfl) li_nil) c_len) ev_int o_le) (as_attr (ev_loc (i := 0) rfl) (o_setAttr (C := 167) (chk := ["raw", "n", "nt", "norm"]) (i := 4) (ck_ws w) (by kernel_rfl) (.inr ⟨by decide +kernel, rfl⟩))))⟩
noncomputable def exWsInit (w : World) (hB : Heap) : { W : T AFl // ∀ A L, ExecsTo w hB (cxWsInit A L) (dBody (nest (stm 8) 1)) W } := ⟨_, fun A L =>
  exs_cons ((exWsInit_0 w hB).2 A L) <|
  exs_cons ((exWsInit_1 w hB).2 A L) <|
  exs_cons ((exWsInit_2 w hB).2 A L) <|
  exs_cons ((exWsInit_3 w hB).2 A L) <|
  exs_cons ((exWsInit_4 w hB).2 A L) <|
  exs_cons ((exWsInit_5 w hB).2 A L) <|
  exs_cons ((exWsInit_6 w hB).2 A L) <|
  exs_cons ((exWsInit_7 w hB).2 A L) <|
  ex_one ((exWsInit_8 w hB).2 A L)⟩

noncomputable abbrev dsIndent : List (Str × Bool) := [("self", false), ("tabsize", false), ("count", false), ("trailing", false), ("il", false), ("i", false)]
noncomputable abbrev cxIndent (A : Around) (L : Addr) : Cx := mkCx 0 0 "Whitespace.indent_level" (dScope (nest (stm 8) 3)) 136 (.ref 135) dsIndent A L
theorem fnIndent (w : World) : FnS w 136 (nest (stm 8) 3) "Whitespace.indent_level" (.ref 135) ["self", "tabsize"] dsIndent where
  k := by unfold FnK; kernel_rfl
  cd := by kernel_rfl
  bd := bind2 fun fd h1 h2 h3 a0 a1 => by unfold bindArgs; rw [h1, h2, h3]; rfl
  hs := by kernel_rfl
  nd := by decide +kernel
  chk := by decide +kernel

noncomputable def exIndent_0 (w : World) (hB : Heap) : { W : T AFl // ∀ A L, ExecTo w hB (cxIndent A L) (nest (nest (stm 8) 3) 0) W } := ⟨_, fun A L =>
  (ex_assign (ev_attr (ev_loc (i := 0) rfl) (o_attr (C := 167) (chk := ["raw", "n", "nt", "norm", "is_simple"]) (i := 3) (ck_ws w) (by kernel_rfl) (by decide +kernel) true)) (as_tup (n := 2) rfl rfl rfl (tg_cons (as_loc (i := 2) rfl) (tg_cons (as_loc (i := 3) rfl) tg_nil))))⟩
noncomputable def exIndent_1 (w : World) (hB : Heap) : { W : T AFl // ∀ A L, ExecTo w hB (cxIndent A L) (nest (nest (stm 8) 3) 1) W } := ⟨_, fun A L =>
  (ex_assign ev_int (as_loc (i := 4) rfl))⟩
noncomputable def exIndent_2 (w : World) (hB : Heap) : { W : T AFl // ∀ A L, ExecTo w hB (cxIndent A L) (nest (nest (stm 8) 3) 2) W } := ⟨_, fun A L =>
  (ex_for rfl (ev_call (ev_blt (v := .type "range") rfl (nb_range w) rfl) (li_cons (ev_loc (i := 1) rfl) (li_cons (ev_call (ev_blt (v := .builtin "len") rfl (nb_len w) rfl) (li_cons (ev_loc (i := 2) rfl) li_nil) c_len) li_nil)) c_range) it_gen (as_loc (i := 5) rfl)
  (ex_one (ex_assign (ev_bin (ev_loc (i := 4) rfl) (ev_bin (ev_bin (ev_loc (i := 5) rfl) (ev_loc (i := 1) rfl) o_div) (ev_sub (ev_loc (i := 2) rfl) (ev_loc (i := 5) rfl) g_any) (o_mulG false)) (o_addG false)) (as_loc (i := 4) rfl))))⟩
noncomputable def exIndent_3 (w : World) (hB : Heap) : { W : T AFl // ∀ A L, ExecTo w hB (cxIndent A L) (nest (nest (stm 8) 3) 3) W } := ⟨_, fun A L =>
  (ex_ret (ev_bin (ev_loc (i := 3) rfl) (ev_bin (ev_loc (i := 1) rfl) (ev_bin (ev_loc (i := 4) rfl) (ev_attr (ev_loc (i := 0) rfl) (o_attr (C := 167) (chk := ["raw", "n", "nt", "norm", "is_simple"]) (i := 2) (ck_ws w) (by kernel_rfl) (by decide +kernel) true)) (o_addG false)) (o_mulG false)) (o_addG false)))⟩
noncomputable def exIndent (w : World) (hB : Heap) : { W : T AFl // ∀ A L, ExecsTo w hB (cxIndent A L) (dBody (nest (stm 8) 3)) W } := ⟨_, fun A L =>
  exs_cons ((exIndent_0 w hB).2 A L) <|
  exs_cons ((exIndent_1 w hB).2 A L) <|
  exs_cons ((exIndent_2 w hB).2 A L) <|
  ex_one ((exIndent_3 w hB).2 A L)⟩

noncomputable abbrev dsEqual : List (Str × Bool) := [("self", false), ("other", false)]
noncomputable abbrev cxEqual (A : Around) (L : Addr) : Cx := mkCx 0 0 "Whitespace.equal" (dScope (nest (stm 8) 4)) 143 (.ref 142) dsEqual A L
theorem fnEqual (w : World) : FnS w 143 (nest (stm 8) 4) "Whitespace.equal" (.ref 142) ["self", "other"] dsEqual where
  k := by unfold FnK; kernel_rfl
  cd := by kernel_rfl
  bd := bind2 fun fd h1 h2 h3 a0 a1 => by unfold bindArgs; rw [h1, h2, h3]; rfl
  hs := by kernel_rfl
  nd := by decide +kernel
  chk := by decide +kernel

noncomputable def exEqual_0 (w : World) (hB : Heap) : { W : T AFl // ∀ A L, ExecTo w hB (cxEqual A L) (nest (nest (stm 8) 4) 0) W } := ⟨_, fun A L =>
  (ex_ret (ev_cmp (ev_attr (ev_loc (i := 0) rfl) (o_attr (C := 167) (chk := ["raw", "n", "nt", "norm", "is_simple"]) (i := 3) (ck_ws w) (by kernel_rfl) (by decide +kernel) true)) (ev_attr (ev_loc (i := 1) rfl) (o_attr (C := 167) (chk := ["raw", "n", "nt", "norm", "is_simple"]) (i := 3) (ck_ws w) (by kernel_rfl) (by decide +kernel) true)) o_eqG))⟩
noncomputable def exEqual (w : World) (hB : Heap) : { W : T AFl // ∀ A L, ExecsTo w hB (cxEqual A L) (dBody (nest (stm 8) 4)) W } := ⟨_, fun A L =>
  ex_one ((exEqual_0 w hB).2 A L)⟩

noncomputable def bump (c : List Int) (b : Nat) : List Int := (if c.length ≤ b then c ++ List.replicate (b - c.length + 1) 0 else c).modify b (· + 1)
noncomputable def wsR : Cs → List Int → Nat → Nat → Nat → List Int × Nat × Nat × Nat
  | [], c, b, n, t => (c, b, n, t)
  | d :: y, c, b, n, t => if d = 32 then wsR y c (b + 1) (n + 1) t else if d = 9 then wsR y (bump c b) 0 (n + 1) (t + 1) else (c, b, n, t)
noncomputable abbrev wsN : List Str := ["raw", "n", "nt", "norm", "is_simple"]
noncomputable def wsA (x : Cs) (r : List Int × Nat × Nat × Nat) : List SV := [.str x, .int r.2.2.1, .int r.2.2.2, .tup [.tup (SI r.1), .int r.2.1], .bool (decide ((r.1.length : Int) ≤ 1))]
noncomputable def wsV (x : Cs) : SV := .inst 167 wsN (wsA x (wsR x [] 0 0 0))
noncomputable abbrev wsL (x : Cs) (q : Nat) (b n t : Nat) (o : Option SV) : List (Option SV) := [some (.iobj 167 0), some (.str x), some (.str [32]), some (.str [9]), some (.obj q), some (.int b), some (.int n), some (.int t), o]
theorem bump_len (c : List Int) (b : Nat) : (bump c b).length = max c.length (b + 1) := by
  unfold bump
  split <;> simp <;> omega
theorem hget_last (A : SO) (g : List SO) (l : SO) : hget (A :: (g ++ [l])) (g.length + 1) = some l := hget_len (by simp)
theorem set_last (A : SO) (g : List SO) (l l' : SO) : (A :: (g ++ [l])).set (g.length + 1) l' = A :: (g ++ [l']) := by simp
theorem hget_mid (g : List SO) (l : SO) : hget (g ++ [l]) g.length = some l := hget_len (by simp)
theorem set_mid (g : List SO) (l l' : SO) : (g ++ [l]).set g.length l' = g ++ [l'] := by simp
theorem SI_nth {c : List Int} {b : Nat} (h : b < c.length) : nth (SI c) b = some (.int c[b]) := by rw [nth_eq]; simp [SI, h]
theorem SI_modify {c : List Int} {b : Nat} (h : b < c.length) : (SI c).set b (.int (c[b] + 1)) = SI (c.modify b (· + 1)) := by
  apply List.ext_getElem?
  intro m
  simp only [SI, List.getElem?_set, List.getElem?_map, List.getElem?_modify, List.length_map]
  by_cases e : b = m
  · subst e; simp [h]
  · simp [e]
section
variable (w : World) (hB : Heap) (x : Cs)
theorem wsA_ok (q b n t : Nat) (o : Option SV) (hp : List SO) (K : AFl → St → Prop) (hK : K .next ⟨wsL x q (b + 1) (n + 1) t o, hp⟩) : (exWsA w hB).1 K ⟨wsL x q b n t o, hp⟩ := by
  unfold exWsA
  exact hK
theorem wsC_ok (c : List Int) (b n t : Nat) (o : Option SV) (g : List SO) (hb : b < 1000) (hc : c.length ≤ 1000) (K : AFl → St → Prop)
    (hK : ∀ c' g', bump c b = c'.modify b (· + 1) → b < c'.length → c'.length ≤ 2000 → K .next ⟨wsL x (g'.length + 1) b n t o, .attrs ["raw"] [.str x] :: (g' ++ [.list (SI c')])⟩) :
    (exWsC w hB).1 K ⟨wsL x (g.length + 1) b n t o, .attrs ["raw"] [.str x] :: (g ++ [.list (SI c)])⟩ := by
  unfold exWsC
  k_go
  simp only [hget_mid]
  have hSI : (SI c).length = c.length := by simp [SI]
  rw [hSI]
  refine ⟨by omega, ?_⟩
  by_cases hb : c.length ≤ b
  · rw [if_pos (by simpa using hb)]
    k_go
    simp only [hget_mid]
    try k_go
    rw [hSI]
    refine ⟨by decide, by omega, ?_⟩
    have er : ((b : Int) - (c.length : Int) + 1).toNat = b - c.length + 1 := by omega
    have ez : SI c ++ (List.replicate (b - c.length + 1) [SV.int 0]).flatten = SI (c ++ List.replicate (b - c.length + 1) 0) := by
      simp [SI, List.flatten_replicate_singleton]
    have el : (c ++ List.replicate (b - c.length + 1) 0).length = b + 1 := by simp; omega
    have efl : (List.replicate (b - c.length + 1) [SV.int 0]).flatten.length = b - c.length + 1 := by simp
    rw [er]
    refine ⟨by decide, by omega, by omega, by rw [efl]; omega, ?_⟩
    rw [ez]
    have := hK (c ++ List.replicate (b - c.length + 1) 0) (g ++ [.list (SI c)]) (by unfold bump; rw [if_pos hb]) (by omega) (by omega)
    simpa using this
  · rw [if_neg (by simpa using hb)]
    exact hK c g (by unfold bump; rw [if_neg hb]) (by omega) (by omega)
theorem wsD_ok (c : List Int) (b n t : Nat) (o : Option SV) (g : List SO) (hb : b < c.length) (hc : c.length ≤ 2000) (K : AFl → St → Prop)
    (hK : K .next ⟨wsL x (g.length + 1) b n t o, .attrs ["raw"] [.str x] :: (g ++ [.list (SI (c.modify b (· + 1)))])⟩) :
    (exWsD w hB).1 K ⟨wsL x (g.length + 1) b n t o, .attrs ["raw"] [.str x] :: (g ++ [.list (SI c)])⟩ := by
  unfold exWsD
  k_go
  simp only [hget_mid]
  have hSI : (SI c).length = c.length := by simp [SI]
  rw [Int.toNat_natCast, SI_nth (b := b) (by omega)]
  k_go
  rw [hSI]
  refine ⟨by omega, by omega, by omega, ?_⟩
  rw [set_mid, SI_modify (by omega)]
  exact hK
theorem wsB_ok (c : List Int) (b n t : Nat) (o : Option SV) (g : List SO) (hb : b < 1000) (hc : c.length ≤ 1000) (K : AFl → St → Prop)
    (hK : ∀ g', K .next ⟨wsL x (g'.length + 1) 0 (n + 1) (t + 1) o, .attrs ["raw"] [.str x] :: (g' ++ [.list (SI (bump c b))])⟩) :
    (exWsB w hB).1 K ⟨wsL x (g.length + 1) b n t o, .attrs ["raw"] [.str x] :: (g ++ [.list (SI c)])⟩ := by
  unfold exWsB
  k_go
  refine wsC_ok w hB x c b (n + 1) (t + 1) o g hb hc _ fun c' g' e h1 h2 => ?_
  k_go
  refine wsD_ok w hB x c' b (n + 1) (t + 1) o g' h1 h2 _ ?_
  k_go
  rw [← e]
  exact hK g'
end
theorem ws_loop (w : World) (hB : Heap) (x : Cs) (hx : x.length ≤ 1000) (K : AFl → St → Prop)
    (hK : ∀ g o, (wsR x [] 0 0 0).1.length ≤ x.length → K .next ⟨wsL x (g.length + 1) (wsR x [] 0 0 0).2.1 (wsR x [] 0 0 0).2.2.1 (wsR x [] 0 0 0).2.2.2 o, .attrs ["raw"] [.str x] :: (g ++ [.list (SI (wsR x [] 0 0 0).1)])⟩) :
    (exWsInit_4 w hB).1 K ⟨wsL x 1 0 0 0 none, [.attrs ["raw"] [.str x], .list []]⟩ := by
  unfold exWsInit_4
  refine ⟨rfl, rfl, trivial, clos_map _ (fun u_ => by exact trivial) x, ?_⟩
  refine loop_indF (fun xs st => ∃ (y : Cs) (c : List Int) (b n t : Nat) (g : List SO) (o : Option SV), xs = y.map (fun d => .str [d]) ∧ wsR y c b n t = wsR x [] 0 0 0 ∧ b + y.length ≤ x.length ∧ c.length ≤ x.length ∧ st = ⟨wsL x (g.length + 1) b n t o, .attrs ["raw"] [.str x] :: (g ++ [.list (SI c)])⟩) ?_ ?_ _ _ ⟨x, [], 0, 0, 0, [], none, rfl, rfl, by omega, by simp, rfl⟩
  · rintro st ⟨y, c, b, n, t, g, o, h1, h2, h3, h4, rfl⟩
    have : y = [] := by simpa using h1.symm
    subst this
    simp only [wsR] at h2
    have := hK g o
    rw [← h2] at this
    exact this h4
  · rintro z zs st F ⟨y, c, b, n, t, g, o, h1, h2, h3, h4, rfl⟩ ih
    cases y with
    | nil => simp at h1
    | cons d y =>
      simp only [List.map_cons, List.cons.injEq] at h1
      obtain ⟨rfl, rfl⟩ := h1
      simp only [List.length_cons] at h3 h4
      refine ⟨_, .refl, ?_⟩
      simp only [wsR] at h2
      by_cases h32 : d = 32
      · subst h32
        rw [if_pos rfl] at h2
        k_go
        simp only [beq_self_eq_true]
        k_go
        exact wsA_ok w hB x _ _ _ _ _ _ _ (ih _ ⟨y, c, b + 1, n + 1, t, g, _, rfl, h2, by omega, by omega, rfl⟩)
      · rw [if_neg h32] at h2
        by_cases h9 : d = 9
        · subst h9
          rw [if_pos rfl] at h2
          k_go
          rw [if_neg (by decide)]
          k_go
          simp only [beq_self_eq_true]
          k_go
          have hbl := bump_len c b
          exact wsB_ok w hB x c b n t _ g (by omega) (by omega) _ fun g' => ih _ ⟨y, bump c b, 0, n + 1, t + 1, g', _, rfl, h2, by omega, by rw [hbl]; omega, rfl⟩
        · rw [if_neg h9] at h2
          k_go
          rw [if_neg (by simpa using h32)]
          k_go
          rw [if_neg (by simpa using h9)]
          have := hK g (some (.str [d]))
          rw [← h2] at this
          exact this h4
theorem wsInit_spec (w : World) (hB : Heap) (x : Cs) (hx : x.length ≤ 1000) (k : SV → List SO → Prop) (hk : ∀ g, k .none (.attrs wsN (wsA x (wsR x [] 0 0 0)) :: g)) :
    (exWsInit w hB).1 (retK k) ⟨initLoc [.iobj 167 0, .str x] 9, [.attrs [] []]⟩ := by
  unfold exWsInit
  dsimp only
  unfold exWsInit_0 exWsInit_1 exWsInit_2 exWsInit_3
  k_go
  simp only [Nat.lt_irrefl, if_false]
  refine ⟨by decide, by decide, by decide, ?_⟩
  refine ws_loop w hB x hx _ fun g o hl => ?_
  generalize wsR x [] 0 0 0 = r at hk hl ⊢
  obtain ⟨c, b, n, t⟩ := r
  unfold exWsInit_5 exWsInit_6 exWsInit_7 exWsInit_8
  k_go
  have hSI : (SI c).length = c.length := by simp [SI]
  dsimp only at hl
  simp only [hget_mid, Nat.lt_irrefl, if_false]
  k_go
  simp only [hSI, Nat.lt_irrefl, if_false]
  refine ⟨by decide, by decide, by omega, by decide, by decide, by omega, by decide, ?_⟩
  exact hk _
noncomputable def wWs : List SV → T SV := fun as k st => args1 as fun a => asStr a (fun x => x.length ≤ 1000 ∧ k (wsV x) st) False
theorem c_ws {w : World} {hB : Heap} {c : Cx} (hc : 0 < c.ht) : CallOp w hB c (.ref 167) wWs :=
  c_make 0 (mk_ws w) (fnWsInit w) (exWsInit w hB).2 hc fun as k st hw => by
    obtain ⟨_, rfl, hw1⟩ := args1.g hw
    obtain ⟨x, rfl, hw⟩ := asStr.g hw1
    · refine ⟨by simp only [clos, clo]; trivial, rfl, wsInit_spec w hB _ hw.1 _ fun g => ⟨rfl, ?_, hw.2⟩⟩
      simp only [wsA, clos, clo]
      exact ⟨trivial, trivial, trivial, ⟨clos_SI _, trivial, trivial⟩, trivial, trivial⟩
theorem dats_SI : ∀ c : List Int, dats (SI c) = some (c.map .int)
  | [] => rfl
  | a :: c => by
    have := dats_SI c
    simp only [SI] at this
    simp only [SI, List.map_cons, dats, dat, this]
    rfl
noncomputable def SS (y : Cs) : List SV := y.map fun d => .str [d]
theorem dats_SS : ∀ y : Cs, dats (SS y) = some (y.map fun d => .str (S [d]))
  | [] => rfl
  | a :: c => by
    have := dats_SS c
    simp only [SS] at this
    simp only [SS, List.map_cons, dats, dat, this]
    rfl
theorem lay_ints : ∀ c : List Int, PyData.canLayAll0 (c.map .int) = true
  | [] => rfl
  | a :: c => by simp only [List.map_cons, PyData.canLayAll0, PyData.canLay0, lay_ints c]; rfl
theorem mix_ints : ∀ c c' : List Int, SeqAt.noMixAll (c.map .int) (c'.map .int) = true
  | [], [] => rfl
  | [], w1_ :: w2_ => rfl
  | w1_ :: w2_, [] => rfl
  | a :: c, b :: c' => by simp only [List.map_cons, SeqAt.noMixAll, SeqAt.noMix, mix_ints c c']; rfl
theorem mix_strs : ∀ c c' : List Str, SeqAt.noMixAll (c.map .str) (c'.map .str) = true
  | [], [] => rfl
  | [], w1_ :: w2_ => rfl
  | w1_ :: w2_, [] => rfl
  | a :: c, b :: c' => by simp only [List.map_cons, SeqAt.noMixAll, SeqAt.noMix, mix_strs c c']; rfl
theorem depth_ints : ∀ c : List Int, PyData.depthAll (c.map .int) = 0
  | [] => rfl
  | a :: c => by simp only [List.map_cons, PyData.depthAll, PyData.depth, depth_ints c]; rfl
theorem depth_strs : ∀ c : List Str, PyData.depthAll (c.map .str) = 0
  | [] => rfl
  | a :: c => by simp only [List.map_cons, PyData.depthAll, PyData.depth, depth_strs c]; rfl
theorem lay_strs : ∀ y : Cs, (∀ d ∈ y, d < 0x110000) → PyData.canLayAll0 (y.map fun d => .str (S [d])) = true
  | [], w1_ => rfl
  | a :: c, h => by
    have ha := h a (by simp)
    have ih := lay_strs c fun d hd => h d (List.mem_cons_of_mem _ hd)
    rw [List.map_cons, PyData.canLayAll0, ih, PyData.canLay0]
    simpa [PyData.strOk, S] using ha
theorem depth_SS (y : Cs) : PyData.depthAll (y.map fun d => .str (S [d])) = 0 := by
  have e : (y.map fun d => PyData.str (S [d])) = (y.map fun d => S [d]).map .str := by simp
  rw [e, depth_strs]
theorem eq_ints {neg : Bool} {c : List Int} {k : SV → St → Prop} {st : St} (h : k (.bool (!neg)) st) : wEqG neg (.list (SI c)) (.list (SI c)) k st := by
  unfold wEqG
  simp only [dat, dats_SI, Option.map_some]
  refine ⟨⟨?_, ?_, ?_⟩, ?_⟩
  · simp only [SeqAt.shaped, PyData.canLay0, lay_ints, PyData.depth, depth_ints]; rfl
  · simp only [SeqAt.shaped, PyData.canLay0, lay_ints, PyData.depth, depth_ints]; rfl
  · simp only [SeqAt.noMix, mix_ints]
  · rw [Spec.same_self]
    cases neg <;> exact h
theorem eq_signs {neg : Bool} {y : Cs} (hy : ∀ d ∈ y, d < 0x110000) {k : SV → St → Prop} {st : St} (h : k (.bool (!neg)) st) : wEqG neg (.list (SS y)) (.list (SS y)) k st := by
  unfold wEqG
  simp only [dat, dats_SS, Option.map_some]
  have e : (y.map fun d => PyData.str (S [d])) = (y.map fun d => S [d]).map .str := by simp
  refine ⟨⟨?_, ?_, ?_⟩, ?_⟩
  · simp only [SeqAt.shaped, PyData.canLay0, lay_strs y hy, PyData.depth, depth_SS]; rfl
  · simp only [SeqAt.shaped, PyData.canLay0, lay_strs y hy, PyData.depth, depth_SS]; rfl
  · simp only [SeqAt.noMix]; rw [e]; exact mix_strs _ _
  · rw [Spec.same_self]
    cases neg <;> exact h
theorem eq_three {neg : Bool} {a b c : Int} {k : SV → St → Prop} {st : St} (h : k (.bool (!neg)) st) : wEqG neg (.tup [.int a, .int b, .int c]) (.tup [.int a, .int b, .int c]) k st := by
  have e := dats_SI [a, b, c]
  have e' : dats [.int a, .int b, .int c] = some ([a, b, c].map PyData.int) := e
  unfold wEqG
  simp only [dat, e', Option.map_some]
  refine ⟨⟨?_, ?_, ?_⟩, ?_⟩
  · simp only [SeqAt.shaped, PyData.canLay0, lay_ints, PyData.depth, depth_ints]; rfl
  · simp only [SeqAt.shaped, PyData.canLay0, lay_ints, PyData.depth, depth_ints]; rfl
  · simp only [SeqAt.noMix, mix_ints]
  · rw [Spec.same_self]
    cases neg <;> exact h

noncomputable def ilF (ts : Int) : Int → List Int → Int
  | w1_, [] => 0
  | i, v :: r => (i / ts) * v + ilF ts (i + 1) r
noncomputable def lvlR (ts : Int) (r : List Int × Nat × Nat × Nat) : Int := r.2.1 + ts * (ilF ts ts (r.1.drop ts.toNat) + r.2.2.2)
noncomputable def lvl (ts : Int) (x : Cs) : Int := lvlR ts (wsR x [] 0 0 0)
theorem wsV_eq (x : Cs) : wsV x = .inst 167 wsN (wsA x (wsR x [] 0 0 0)) := rfl
theorem indent_spec (w : World) (hB : Heap) (x : Cs) (r : List Int × Nat × Nat × Nat) (hl : r.1.length ≤ 1000) (ts : Nat) (h1 : 1 ≤ ts) (h2 : ts ≤ 1000) (k : SV → List SO → Prop) (hk : k (.int (lvlR ts r)) []) :
    (exIndent w hB).1 (retK k) ⟨initLoc [.inst 167 wsN (wsA x r), .int ts] 6, []⟩ := by
  obtain ⟨c, b, n, t⟩ := r
  dsimp only at hl
  have hSI : (SI c).length = c.length := by simp [SI]
  unfold exIndent wsA
  dsimp only
  unfold exIndent_0 exIndent_1
  k_go
  refine ⟨trivial, ?_⟩
  unfold exIndent_2
  refine ⟨by show (SI c).length ≤ 1000000; omega, ⟨by omega, by omega, by show -1000000 ≤ ((SI c).length : Int); omega, by show ((SI c).length : Int) ≤ 1000000; omega⟩, clos_rng _ _, ?_⟩
  rw [hSI]
  refine loop_indF (fun xs st => ∃ (i : Nat) (il : Int) (o : Option SV), xs = rngL (i : Int) (c.length : Int) ∧ il + ilF ts i (c.drop i) = ilF ts ts (c.drop ts) ∧ st = ⟨[some (.inst 167 wsN [.str x, .int n, .int t, .tup [.tup (SI c), .int b], .bool (decide ((c.length : Int) ≤ 1))]), some (.int ts), some (.tup (SI c)), some (.int b), some (.int il), o], []⟩) ?_ ?_ _ _ ⟨ts, 0, none, rfl, by omega, rfl⟩
  · rintro st ⟨i, il, o, e1, e2, rfl⟩
    have hge : c.length ≤ i := by
      rcases Nat.lt_or_ge i c.length with h | h
      · have : (c.length : Int) = (i : Int) + ((c.length - i - 1 + 1 : Nat) : Int) := by omega
        rw [this, rngL_succ] at e1; cases e1
      · exact h
    rw [List.drop_of_length_le hge] at e2
    simp only [ilF, Int.add_zero] at e2
    dsimp only
    unfold exIndent_3
    k_go
    refine ⟨trivial, by omega, ?_⟩
    unfold lvlR at hk
    rw [e2]
    exact hk
  · rintro z zs st F ⟨i, il, o, e1, e2, rfl⟩ ih
    have hlt : i < c.length := by
      rcases Nat.lt_or_ge i c.length with h | h
      · exact h
      · rw [rngL_nil _ _ (by omega)] at e1; cases e1
    have en : (c.length : Int) = (i : Int) + ((c.length - i - 1 + 1 : Nat) : Int) := by omega
    rw [en, rngL_succ] at e1
    cases e1
    rw [List.drop_eq_getElem_cons hlt] at e2
    simp only [ilF] at e2
    refine ⟨_, .refl, ?_⟩
    have hq : (i : Int) / (ts : Int) ≤ i := Int.ediv_le_self _ (by omega)
    have hq0 : 0 ≤ (i : Int) / (ts : Int) := Int.ediv_nonneg (by omega) (by omega)
    k_go
    rw [Int.toNat_natCast, SI_nth hlt]
    k_go
    repeat refine ⟨by omega, ?_⟩
    refine ih _ ⟨i + 1, _, _, ?_, ?_, rfl⟩
    · have : (i : Int) + 1 + ((c.length - i - 1 : Nat) : Int) = c.length := by omega
      rw [this]; rfl
    · have e3 : ((i + 1 : Nat) : Int) = (i : Int) + 1 := by omega
      rw [e3]
      omega
noncomputable def wIndent : List SV → T SV := fun as k st => ∃ (x : Cs) (ts : Nat), as = [wsV x, .int ts] ∧ (wsR x [] 0 0 0).1.length ≤ 1000 ∧ 1 ≤ ts ∧ ts ≤ 1000 ∧ k (.int (lvl ts x)) st
theorem clo_ws (x : Cs) (r : List Int × Nat × Nat × Nat) : clo (.inst 167 wsN (wsA x r)) := by
  simp only [clo, wsA, clos]
  exact ⟨trivial, trivial, trivial, ⟨clos_SI _, trivial, trivial⟩, trivial, trivial⟩
theorem c_indent {w : World} {hB : Heap} {c : Cx} (hc : 0 < c.ht) : CallOp w hB c (.ref 136) wIndent :=
  c_fn 0 (fnIndent w) (exIndent w hB).2 hc fun as k st hw => by
    obtain ⟨x, ts, rfl, h1, h2, h3, h⟩ := hw
    exact ⟨⟨clo_ws _ _, trivial, trivial⟩, rfl, indent_spec w hB x _ h1 ts h2 h3 _ ⟨trivial, h⟩⟩
theorem equal_spec (w : World) (hB : Heap) (x y : Cs) (r s : List Int × Nat × Nat × Nat) (h1 : r.1 = s.1) (h2 : r.2.1 = s.2.1) (k : SV → List SO → Prop) (hk : k (.bool true) []) :
    (exEqual w hB).1 (retK k) ⟨initLoc [.inst 167 wsN (wsA x r), .inst 167 wsN (wsA y s)] 2, []⟩ := by
  obtain ⟨c, b, n, t⟩ := r
  obtain ⟨c', b', n', t'⟩ := s
  dsimp only at h1 h2
  subst h1 h2
  unfold exEqual exEqual_0 wsA
  refine ⟨rfl, rfl, trivial, rfl, rfl, trivial, ?_⟩
  have e : dats [.tup (SI c), .int b] = some [.tuple (c.map .int), .int b] := by simp only [dats, dat, dats_SI]; rfl
  show wEqG false (.tup [.tup (SI c), .int b]) (.tup [.tup (SI c), .int b]) _ _
  unfold wEqG
  simp only [dat, e, Option.map_some]
  refine ⟨⟨?_, ?_, ?_⟩, ?_⟩
  · simp only [SeqAt.shaped, PyData.canLay0, PyData.canLayAll0, lay_ints, PyData.depth, PyData.depthAll, depth_ints]; rfl
  · simp only [SeqAt.shaped, PyData.canLay0, PyData.canLayAll0, lay_ints, PyData.depth, PyData.depthAll, depth_ints]; rfl
  · simp only [SeqAt.noMix, SeqAt.noMixAll, mix_ints]; rfl
  · rw [Spec.same_self]
    exact hk
noncomputable def wEqual : List SV → T SV := fun as k st => ∃ x y : Cs, as = [wsV x, wsV y] ∧ (wsR x [] 0 0 0).1 = (wsR y [] 0 0 0).1 ∧ (wsR x [] 0 0 0).2.1 = (wsR y [] 0 0 0).2.1 ∧ k (.bool true) st
theorem c_equal {w : World} {hB : Heap} {c : Cx} (hc : 0 < c.ht) : CallOp w hB c (.ref 143) wEqual :=
  c_fn 0 (fnEqual w) (exEqual w hB).2 hc fun as k st hw => by
    obtain ⟨x, y, rfl, h1, h2, h⟩ := hw
    exact ⟨⟨clo_ws _ _, clo_ws _ _, trivial⟩, rfl, equal_spec w hB x y _ _ h1 h2 _ ⟨trivial, h⟩⟩
inductive Tr where
  | leaf (w : Int)
  | node (l r : Tr)
noncomputable def Tr.wt : Tr → Int
  | .leaf w => w
  | .node l r => l.wt + r.wt
noncomputable def Tr.cost : Tr → Int
  | .leaf w1_ => 0
  | .node l r => (l.wt + r.wt) + (l.cost + r.cost)
noncomputable def Tr.leaves : Tr → List Int
  | .leaf w => [w]
  | .node l r => l.leaves ++ r.leaves
theorem Tr.leaves_ne : ∀ t : Tr, t.leaves ≠ []
  | .leaf w1_ => by simp [Tr.leaves]
  | .node l r => by simp [Tr.leaves, Tr.leaves_ne l]
theorem Tr.wt_leaves : ∀ t : Tr, t.wt = t.leaves.sum
  | .leaf w => by simp [Tr.wt, Tr.leaves]
  | .node l r => by simp [Tr.wt, Tr.leaves, Tr.wt_leaves l, Tr.wt_leaves r]

noncomputable def dl : Nat → Tr → List (Nat × Int)
  | k, .leaf w => [(k, w)]
  | k, .node l r => dl (k + 1) l ++ dl (k + 1) r
noncomputable def pc : List (Nat × Int) → Int
  | [] => 0
  | p :: r => (p.1 : Int) * p.2 + pc r
theorem pc_append : ∀ a b : List (Nat × Int), pc (a ++ b) = pc a + pc b
  | [], b => by simp [pc]
  | p :: a, b => by simp only [List.cons_append, pc, pc_append a b]; omega
theorem pc_perm {a b : List (Nat × Int)} (h : a.Perm b) : pc a = pc b := by
  induction h with
  | nil => rfl
  | cons x w1_ ih => simp only [pc, ih]
  | swap x y l => simp only [pc]; omega
  | trans w1_ w2_ h1 h2 => exact h1.trans h2
theorem dl_snd : ∀ (t : Tr) (k : Nat), (dl k t).map (·.2) = t.leaves
  | .leaf w1_, w2_ => rfl
  | .node l r, k => by simp [dl, Tr.leaves, dl_snd l, dl_snd r]
theorem dl_pc : ∀ (t : Tr) (k : Nat), pc (dl k t) = (k : Int) * t.wt + t.cost
  | .leaf w, k => by simp [dl, pc, Tr.wt, Tr.cost]
  | .node l r, k => by
    simp only [dl, pc_append, dl_pc l, dl_pc r, Tr.wt, Tr.cost]
    have e : ((k + 1 : Nat) : Int) = (k : Int) + 1 := by omega
    rw [e, Int.add_mul, Int.add_mul, Int.mul_add]
    omega
noncomputable def kr (D : Nat) : List Nat → Nat
  | [] => 0
  | d :: r => 2 ^ (D - d) + kr D r
theorem kr_append (D : Nat) : ∀ a b : List Nat, kr D (a ++ b) = kr D a + kr D b
  | [], b => by simp [kr]
  | p :: a, b => by simp only [List.cons_append, kr, kr_append D a b]; omega
theorem kr_perm {D : Nat} {a b : List Nat} (h : a.Perm b) : kr D a = kr D b := by
  induction h with
  | nil => rfl
  | cons x w1_ ih => simp only [kr, ih]
  | swap x y l => simp only [kr]; omega
  | trans w1_ w2_ h1 h2 => exact h1.trans h2
theorem dl_ge : ∀ (t : Tr) (k : Nat), ∃ p ∈ dl k t, k ≤ p.1
  | .leaf w, k => ⟨(k, w), by simp [dl], Nat.le_refl _⟩
  | .node l r, k => by
    obtain ⟨p, hp, h⟩ := dl_ge l (k + 1)
    exact ⟨p, by simp [dl, hp], by omega⟩
theorem dl_kr : ∀ (t : Tr) (k D : Nat), (∀ p ∈ dl k t, p.1 ≤ D) → kr D ((dl k t).map (·.1)) = 2 ^ (D - k)
  | .leaf w, k, D, w1_ => by simp [dl, kr]
  | .node l r, k, D, h => by
    have hl : ∀ p ∈ dl (k + 1) l, p.1 ≤ D := fun p hp => h p (by simp [dl, hp])
    have hr : ∀ p ∈ dl (k + 1) r, p.1 ≤ D := fun p hp => h p (by simp [dl, hp])
    obtain ⟨p, hp, hk⟩ := dl_ge l (k + 1)
    have := hl p hp
    simp only [dl, List.map_append, kr_append, dl_kr l (k + 1) D hl, dl_kr r (k + 1) D hr]
    have e : D - k = (D - (k + 1)) + 1 := by omega
    rw [e, Nat.pow_succ]; omega

theorem exists_max : ∀ (P : List (Nat × Int)), P ≠ [] → ∃ p ∈ P, ∀ q ∈ P, q.1 ≤ p.1
  | [], h => absurd rfl h
  | [p], w1_ => ⟨p, by simp, by simp⟩
  | p :: q :: r, w1_ => by
    obtain ⟨m, hm, h⟩ := exists_max (q :: r) (by simp)
    by_cases hp : m.1 ≤ p.1
    · exact ⟨p, by simp, fun x hx => by
        rcases List.mem_cons.mp hx with rfl | hx
        · exact Nat.le_refl _
        · exact Nat.le_trans (h x hx) hp⟩
    · exact ⟨m, List.mem_cons_of_mem _ hm, fun x hx => by
        rcases List.mem_cons.mp hx with rfl | hx
        · omega
        · exact h x hx⟩
theorem perm_of_mem {α : Type} [DecidableEq α] {a : α} {l : List α} (h : a ∈ l) : ∃ r, l.Perm (a :: r) := ⟨l.erase a, List.perm_cons_erase h⟩
theorem arrange : ∀ (l : List Int) (P : List (Nat × Int)), l.Pairwise (· ≤ ·) → (P.map (·.2)).Perm l →
    ∃ ds : List Nat, ds.Pairwise (fun a b => b ≤ a) ∧ ds.length = l.length ∧ ds.Perm (P.map (·.1)) ∧ pc (ds.zip l) ≤ pc P
  | [], P, w1_, h => by
    have : P = [] := by
      have := h.length_eq
      simpa using this
    subst this
    exact ⟨[], List.Pairwise.nil, rfl, by simp, by simp [pc]⟩
  | a :: l, P, hs, h => by
    have hne : P ≠ [] := by rintro rfl; have := h.length_eq; simp at this
    obtain ⟨⟨D, w⟩, hm, hmax⟩ := exists_max P hne
    obtain ⟨P1, hP1⟩ := perm_of_mem hm
    have hs' := List.pairwise_cons.mp hs
    have hw : w ∈ a :: l := h.mem_iff.mp (List.mem_map.mpr ⟨_, hm, rfl⟩)
    have haw : a ≤ w := by
      rcases List.mem_cons.mp hw with rfl | hw
      · exact Int.le_refl _
      · exact hs'.1 w hw
    have main : ∃ P', (P'.map (·.2)).Perm l ∧ (P.map (·.1)).Perm (D :: P'.map (·.1)) ∧ (D : Int) * a + pc P' ≤ pc P := by
      have h1 := (hP1.map (·.2)).symm.trans h
      simp only [List.map_cons] at h1
      by_cases e : w = a
      · subst e
        exact ⟨P1, h1.cons_inv, by simpa using hP1.map (·.1), by rw [pc_perm hP1]; simp only [pc]; exact Int.le_refl _⟩
      · have ha : a ∈ P1.map (·.2) := by
          have : a ∈ w :: P1.map (·.2) := h1.mem_iff.mpr (by simp)
          rcases List.mem_cons.mp this with q | q
          · exact absurd q.symm e
          · exact q
        obtain ⟨⟨d, a'⟩, hq, rfl⟩ := List.mem_map.mp ha
        obtain ⟨P2, hP2⟩ := perm_of_mem hq
        dsimp only at *
        have hd : d ≤ D := hmax (d, a') (hP1.mem_iff.mpr (List.mem_cons_of_mem _ hq))
        refine ⟨(d, w) :: P2, ?_, ?_, ?_⟩
        · have h2 : (w :: a' :: P2.map (·.2)).Perm (a' :: l) := ((hP2.map (fun q : Nat × Int => q.2)).symm.cons w).trans h1
          have h3 : (a' :: w :: P2.map (·.2)).Perm (a' :: l) := (List.Perm.swap _ _ _).trans h2
          simpa using h3.cons_inv
        · have h2 : (P.map (·.1)).Perm (D :: P1.map (·.1)) := by simpa using hP1.map (·.1)
          refine h2.trans ?_
          have h3 : (P1.map (·.1)).Perm (d :: P2.map (·.1)) := by simpa using hP2.map (·.1)
          simpa using h3.cons D
        · rw [pc_perm hP1]
          simp only [pc]
          rw [pc_perm hP2]
          simp only [pc]
          have k : 0 ≤ ((D : Int) - d) * (w - a') := Int.mul_nonneg (by omega) (by omega)
          rw [Int.sub_mul, Int.mul_sub, Int.mul_sub] at k
          omega
    obtain ⟨P', q1, q2, q3⟩ := main
    obtain ⟨ds, d1, d2, d3, d4⟩ := arrange l P' hs'.2 q1
    refine ⟨D :: ds, List.pairwise_cons.mpr ⟨fun x hx => ?_, d1⟩, by simp [d2], (d3.cons D).trans q2.symm, ?_⟩
    · have : x ∈ P.map (·.1) := q2.mem_iff.mpr (List.mem_cons_of_mem _ (d3.mem_iff.mp hx))
      obtain ⟨q, hq, rfl⟩ := List.mem_map.mp this
      exact hmax q hq
    · simp only [List.zip_cons_cons, pc]
      omega

noncomputable abbrev Fo := List (Nat × Tr)
noncomputable def fl : Fo → List Int
  | [] => []
  | p :: r => p.2.leaves ++ fl r
noncomputable def fc : Fo → Int
  | [] => 0
  | p :: r => ((p.1 : Int) * p.2.wt + p.2.cost) + fc r
noncomputable def fk (D : Nat) : Fo → Nat
  | [] => 0
  | p :: r => 2 ^ (D - p.1) + fk D r
noncomputable def FD : Fo → Prop := List.Pairwise fun p q => q.1 ≤ p.1
noncomputable def FB (D : Nat) (F : Fo) : Prop := ∀ p ∈ F, p.1 ≤ D
noncomputable def mrg (D : Nat) : Fo → Fo
  | p :: q :: r => if p.1 = D + 1 then (D, .node p.2 q.2) :: mrg D r else p :: q :: r
  | l => l
theorem fk_succ {D : Nat} : ∀ {F : Fo}, FB D F → fk (D + 1) F = 2 * fk D F
  | [], w1_ => rfl
  | p :: r, h => by
    have hp := h p (by simp)
    have ih := fk_succ (F := r) fun q hq => h q (List.mem_cons_of_mem _ hq)
    simp only [fk, ih]
    have e : D + 1 - p.1 = (D - p.1) + 1 := by omega
    rw [e, Nat.pow_succ]; omega
theorem mrg_ok (D : Nat) : ∀ (F : Fo), FD F → FB (D + 1) F → fk (D + 1) F % 2 = 0 →
    FD (mrg D F) ∧ FB D (mrg D F) ∧ fl (mrg D F) = fl F ∧ fc (mrg D F) = fc F ∧ fk (D + 1) F = 2 * fk D (mrg D F) ∧ (∀ p q r, F = p :: q :: r → p.1 = D + 1 → q.1 = D + 1 ∧ FD r ∧ FB (D + 1) r ∧ fk (D + 1) r % 2 = 0)
  | [], w1_, w2_, w3_ => ⟨List.Pairwise.nil, fun u_ h => by simp [mrg] at h, rfl, rfl, rfl, fun u_ u_ u_ h => by cases h⟩
  | [p], hd, hb, hk => by
    have hp := hb p (by simp)
    have hp' : p.1 ≤ D := by
      rcases Nat.lt_or_ge D p.1 with h | h
      · have e : p.1 = D + 1 := by omega
        simp [fk, e] at hk
      · exact h
    have hb' : FB D [p] := fun x hx => by simp at hx; subst hx; exact hp'
    exact ⟨hd, hb', rfl, rfl, fk_succ hb', fun u_ u_ u_ h => by cases h⟩
  | p :: q :: r, hd, hb, hk => by
    have hd1 := List.pairwise_cons.mp hd
    have hd2 := List.pairwise_cons.mp hd1.2
    by_cases hp : p.1 = D + 1
    · have hbr : FB (D + 1) r := fun x hx => hb x (by simp [hx])
      have hq : q.1 = D + 1 := by
        rcases Nat.lt_or_ge D q.1 with h | h
        · have := hb q (by simp); omega
        · exfalso
          have hb' : FB D (q :: r) := fun x hx => by
            rcases List.mem_cons.mp hx with rfl | hx
            · exact h
            · exact Nat.le_trans (hd2.1 x hx) h
          have e := fk_succ hb'
          rw [fk, e, hp] at hk
          simp only [Nat.sub_self, Nat.pow_zero] at hk
          omega
      have hkr : fk (D + 1) r % 2 = 0 := by
        simp only [fk, hp, hq, Nat.sub_self, Nat.pow_zero] at hk
        omega
      obtain ⟨a, b, c, d, e, _⟩ := mrg_ok D r hd2.2 hbr hkr
      have em : mrg D (p :: q :: r) = (D, .node p.2 q.2) :: mrg D r := by rw [mrg, if_pos hp]
      refine ⟨?_, ?_, ?_, ?_, ?_, fun p' q' r' h u_ => ?_⟩
      · rw [em]; exact List.pairwise_cons.mpr ⟨fun x hx => b x hx, a⟩
      · rw [em]; intro x hx
        rcases List.mem_cons.mp hx with rfl | hx
        · exact Nat.le_refl _
        · exact b x hx
      · rw [em]; simp [fl, c, Tr.leaves]
      · rw [em]
        simp only [fc, d, Tr.wt, Tr.cost, hp, hq]
        have e : ((D + 1 : Nat) : Int) = (D : Int) + 1 := by omega
        rw [e, Int.add_mul, Int.add_mul, Int.mul_add]
        omega
      · rw [em]
        simp only [fk, e, hp, hq, Nat.sub_self, Nat.pow_zero]
        omega
      · cases h
        exact ⟨hq, hd2.2, hbr, hkr⟩
    · have em : mrg D (p :: q :: r) = p :: q :: r := by rw [mrg, if_neg hp]
      have hp' : p.1 ≤ D := by have := hb p (by simp); omega
      have hb' : FB D (p :: q :: r) := fun x hx => by
        rcases List.mem_cons.mp hx with rfl | hx
        · exact hp'
        · exact Nat.le_trans (hd1.1 x hx) hp'
      rw [em]
      exact ⟨hd, hb', rfl, rfl, fk_succ hb', fun p' q' r' h h' => by cases h; exact absurd h' hp⟩
theorem build : ∀ (D : Nat) (F : Fo), FD F → FB D F → fk D F = 2 ^ D → ∃ t : Tr, t.leaves = fl F ∧ t.cost = fc F
  | 0, F, w1_, hb, hk => by
    match F, hb, hk with
    | [], w1_, hk => simp [fk] at hk
    | [p], hb, w1_ =>
      have hp := hb p (by simp)
      have e : p.1 = 0 := by omega
      exact ⟨p.2, by simp [fl], by simp [fc, e]⟩
    | p :: q :: r, w1_, hk => simp [fk] at hk
  | D + 1, F, hd, hb, hk => by
    have he : fk (D + 1) F % 2 = 0 := by rw [hk, Nat.pow_succ]; omega
    obtain ⟨a, b, c, d, e, _⟩ := mrg_ok D F hd hb he
    obtain ⟨t, h1, h2⟩ := build D (mrg D F) a b (by rw [hk, Nat.pow_succ] at e; omega)
    exact ⟨t, h1.trans c, h2.trans d⟩
noncomputable def leafs (ds : List Nat) (l : List Int) : Fo := (ds.zip l).map fun p => (p.1, .leaf p.2)
theorem leafs_facts : ∀ (ds : List Nat) (l : List Int), ds.length = l.length → fl (leafs ds l) = l ∧ fc (leafs ds l) = pc (ds.zip l) ∧ (∀ D, fk D (leafs ds l) = kr D ds) ∧ (leafs ds l).map (·.1) = ds
  | [], [], w1_ => ⟨rfl, rfl, fun u_ => rfl, rfl⟩
  | [], w1_ :: w2_, h => by simp at h
  | w1_ :: w2_, [], h => by simp at h
  | d :: ds, a :: l, h => by
    obtain ⟨h1, h2, h3, h4⟩ := leafs_facts ds l (by simpa using h)
    refine ⟨?_, ?_, fun D => ?_, ?_⟩
    · show [a] ++ fl (leafs ds l) = _
      rw [h1]; rfl
    · show ((d : Int) * a + 0) + fc (leafs ds l) = (d : Int) * a + pc (ds.zip l)
      rw [h2]; omega
    · show 2 ^ (D - d) + fk D (leafs ds l) = _
      rw [h3]; rfl
    · show d :: (leafs ds l).map (·.1) = _
      rw [h4]
theorem leafs_FD {ds : List Nat} {l : List Int} (h : ds.length = l.length) (hd : ds.Pairwise (fun a b => b ≤ a)) : FD (leafs ds l) := by
  have := (leafs_facts ds l h).2.2.2
  have h2 : ((leafs ds l).map (·.1)).Pairwise (fun a b => b ≤ a) := by rw [this]; exact hd
  exact List.pairwise_map.mp h2
theorem leafs_FB {ds : List Nat} {l : List Int} (h : ds.length = l.length) {D : Nat} (hd : ∀ d ∈ ds, d ≤ D) : FB D (leafs ds l) := by
  have := (leafs_facts ds l h).2.2.2
  intro p hp
  exact hd p.1 (by rw [← this]; exact List.mem_map.mpr ⟨p, hp, rfl⟩)
theorem lay {t : Tr} {l : List Int} (hs : l.Pairwise (· ≤ ·)) (hp : t.leaves.Perm l) :
    (∃ t' : Tr, t'.leaves = l ∧ t'.cost ≤ t.cost) ∧ ∀ a b r, l = a :: b :: r → ∃ t' : Tr, t'.leaves = (a + b) :: r ∧ t'.cost + (a + b) ≤ t.cost := by
  obtain ⟨ds, h1, h2, h3, h4⟩ := arrange l (dl 0 t) hs (by rw [dl_snd]; exact hp)
  have hpc : pc (ds.zip l) ≤ t.cost := by rw [dl_pc] at h4; simpa using h4
  obtain ⟨f1, f2, f3, f4⟩ := leafs_facts ds l h2
  have hne : dl 0 t ≠ [] := by obtain ⟨p, hp, _⟩ := dl_ge t 0; rintro e; rw [e] at hp; simp at hp
  obtain ⟨⟨D, wD⟩, hm, hmax⟩ := exists_max (dl 0 t) hne
  have hdD : ∀ d ∈ ds, d ≤ D := fun d hd => by
    obtain ⟨q, hq, rfl⟩ := List.mem_map.mp (h3.mem_iff.mp hd)
    exact hmax q hq
  have hkD : kr D ds = 2 ^ D := by rw [kr_perm h3, dl_kr t 0 D hmax]; rfl
  have FDl := leafs_FD h2 h1
  have FBl := leafs_FB h2 hdD
  have hk : fk D (leafs ds l) = 2 ^ D := by rw [f3, hkD]
  refine ⟨?_, fun a b r e => ?_⟩
  · obtain ⟨t', g1, g2⟩ := build D _ FDl FBl hk
    exact ⟨t', by rw [g1, f1], by rw [g2, f2]; exact hpc⟩
  · subst e
    match ds, h2 with
    | d1 :: d2 :: ds', h2 =>
      have hD1 : d1 = D := by
        have : D ∈ d1 :: d2 :: ds' := h3.mem_iff.mpr (List.mem_map.mpr ⟨_, hm, rfl⟩)
        rcases List.mem_cons.mp this with e | e
        · exact e.symm
        · have := (List.pairwise_cons.mp h1).1 D e
          have := hdD d1 (by simp)
          omega
      cases D with
      | zero =>
        have e2 : d2 = 0 := by have := hdD d2 (by simp); omega
        subst hD1 e2
        simp [kr] at hkD
      | succ D =>
        have he : fk (D + 1) (leafs (d1 :: d2 :: ds') (a :: b :: r)) % 2 = 0 := by rw [hk, Nat.pow_succ]; omega
        obtain ⟨_, _, _, _, _, hx⟩ := mrg_ok D _ FDl FBl he
        obtain ⟨hq, FDr, FBr, hkr⟩ := hx (d1, .leaf a) (d2, .leaf b) (leafs ds' r) rfl hD1
        obtain ⟨m1, m2, m3, m4, m5, _⟩ := mrg_ok D (leafs ds' r) FDr FBr hkr
        have hq' : d2 = D + 1 := hq
        obtain ⟨f1', f2', f3', f4'⟩ := leafs_facts ds' r (by simpa using h2)
        obtain ⟨t', g1, g2⟩ := build D ((D, .leaf (a + b)) :: mrg D (leafs ds' r)) (List.pairwise_cons.mpr ⟨fun x hx => m2 x hx, m1⟩) (fun x hx => by
            rcases List.mem_cons.mp hx with rfl | hx
            · exact Nat.le_refl _
            · exact m2 x hx) (by
          have hk' : 2 ^ (D + 1 - d1) + (2 ^ (D + 1 - d2) + fk (D + 1) (leafs ds' r)) = 2 ^ (D + 1) := hk
          rw [hD1, hq', m5, Nat.pow_succ] at hk'
          simp only [fk, Nat.sub_self, Nat.pow_zero] at hk' ⊢
          omega)
        refine ⟨t', ?_, ?_⟩
        · rw [g1]
          show [a + b] ++ fl (mrg D (leafs ds' r)) = _
          rw [m3, f1']; rfl
        · rw [g2]
          have hpc' : (d1 : Int) * a + ((d2 : Int) * b + pc (ds'.zip r)) ≤ t.cost := hpc
          show ((D : Int) * (a + b) + 0) + fc (mrg D (leafs ds' r)) + (a + b) ≤ _
          rw [m4, f2']
          rw [hD1, hq'] at hpc'
          have e : ((D + 1 : Nat) : Int) = (D : Int) + 1 := by omega
          rw [e, Int.add_mul, Int.add_mul] at hpc'
          rw [Int.mul_add]
          omega
    | [], h2 => simp at h2
    | [w1_], h2 => simp at h2

inductive Huf : List Int → Int → Prop
  | one (a : Int) : Huf [a] 0
  | step {l rest : List Int} {a b v : Int} : l.Perm (a :: b :: rest) → a ≤ b → (∀ x ∈ rest, b ≤ x) → Huf ((a + b) :: rest) v → Huf l (a + b + v)
theorem sorted_perm (l : List Int) : ∃ l' : List Int, l'.Perm l ∧ l'.Pairwise (· ≤ ·) :=
  ⟨l.mergeSort (fun a b => decide (a ≤ b)), List.mergeSort_perm _ _, (List.pairwise_mergeSort (le := fun a b : Int => decide (a ≤ b)) (fun a b c h1 h2 => by simp at *; omega) (fun a b => by simp; omega) l).imp (by intro a b h; simpa using h)⟩
theorem Huf.le {l : List Int} {v : Int} (h : Huf l v) : ∀ t : Tr, t.leaves.Perm l → v ≤ t.cost := by
  induction h with
  | one a =>
    intro t ht
    cases t with
    | leaf w => exact Int.le_refl _
    | node x y =>
      have := ht.length_eq
      simp [Tr.leaves] at this
      have h1 := List.length_pos_iff.mpr (Tr.leaves_ne x)
      have h2 := List.length_pos_iff.mpr (Tr.leaves_ne y)
      omega
  | @step l rest a b v hp hab hr w1_ ih =>
    intro t ht
    obtain ⟨r', hr', hs'⟩ := sorted_perm rest
    have hsorted : (a :: b :: r').Pairwise (· ≤ ·) := by
      refine List.pairwise_cons.mpr ⟨fun x hx => ?_, List.pairwise_cons.mpr ⟨fun x hx => hr x (hr'.mem_iff.mp hx), hs'⟩⟩
      rcases List.mem_cons.mp hx with rfl | hx
      · exact hab
      · exact Int.le_trans hab (hr x (hr'.mem_iff.mp hx))
    have hp2 : t.leaves.Perm (a :: b :: r') := (ht.trans hp).trans ((hr'.symm.cons b).cons a)
    obtain ⟨t', h1, h2⟩ := (lay hsorted hp2).2 a b r' rfl
    have := ih t' (by rw [h1]; exact hr'.cons _)
    omega
theorem open_leaf (a b : Int) : ∀ (t : Tr) (r : List Int), t.leaves.Perm ((a + b) :: r) → ∃ t' : Tr, t'.leaves.Perm (a :: b :: r) ∧ t'.cost = t.cost + (a + b) ∧ t'.wt = t.wt
  | .leaf w, r, h => by
    have hr : r = [] := by have := h.length_eq; simp [Tr.leaves] at this; exact this
    subst hr
    have hw : w = a + b := by
      have := h.mem_iff (a := w)
      simpa [Tr.leaves] using this
    exact ⟨.node (.leaf a) (.leaf b), by simp [Tr.leaves], by simp [Tr.cost, Tr.wt], by simp [Tr.wt, hw]⟩
  | .node x y, r, h => by
    have hm : a + b ∈ x.leaves ++ y.leaves := h.mem_iff.mpr (by simp)
    rcases List.mem_append.mp hm with hx | hy
    · obtain ⟨rx, hrx⟩ := perm_of_mem hx
      obtain ⟨x', h1, h2, h3⟩ := open_leaf a b x rx hrx
      refine ⟨.node x' y, ?_, by simp only [Tr.cost, h2, h3]; omega, by simp only [Tr.wt, h3]⟩
      have h4 : ((a + b) :: (rx ++ y.leaves)).Perm ((a + b) :: r) := (hrx.append_right y.leaves).symm.trans h
      exact (h1.append_right y.leaves).trans ((h4.cons_inv.cons b).cons a)
    · obtain ⟨ry, hry⟩ := perm_of_mem hy
      obtain ⟨y', h1, h2, h3⟩ := open_leaf a b y ry hry
      refine ⟨.node x y', ?_, by simp only [Tr.cost, h2, h3]; omega, by simp only [Tr.wt, h3]⟩
      have h4 : ((a + b) :: (x.leaves ++ ry)).Perm ((a + b) :: r) := (List.perm_middle.symm.trans (hry.append_left x.leaves).symm).trans h
      have h5 : (a :: b :: (x.leaves ++ ry)).Perm (a :: b :: r) := (h4.cons_inv.cons b).cons a
      refine List.Perm.trans ?_ h5
      refine (h1.append_left x.leaves).trans ?_
      exact List.perm_middle.trans (List.perm_middle.cons a)
theorem Huf.tree {l : List Int} {v : Int} (h : Huf l v) : ∃ t : Tr, t.leaves.Perm l ∧ t.cost = v := by
  induction h with
  | one a => exact ⟨.leaf a, by simp [Tr.leaves], rfl⟩
  | @step l rest a b v hp w1_ w2_ w3_ ih =>
    obtain ⟨t, h1, h2⟩ := ih
    obtain ⟨t', h3, h4, _⟩ := open_leaf a b t rest h1
    exact ⟨t', h3.trans hp.symm, by rw [h4, h2]; omega⟩
noncomputable def IsOpt (l : List Int) (v : Int) : Prop := (∀ t : Tr, t.leaves = l → v ≤ t.cost) ∧ ∃ t : Tr, t.leaves = l ∧ t.cost = v
theorem IsOpt.uniq {l : List Int} {v u : Int} (h1 : IsOpt l v) (h2 : IsOpt l u) : v = u := by
  obtain ⟨a, t, b, c⟩ := h1
  obtain ⟨a', t', b', c'⟩ := h2
  have := a t' b'
  have := a' t b
  omega
theorem huf_opt {l l' : List Int} {v u : Int} (h : Huf l v) (hp : l'.Perm l) (hs : l'.Pairwise (· ≤ ·)) (ho : IsOpt l' u) : v = u := by
  obtain ⟨t, h1, h2⟩ := h.tree
  obtain ⟨t1, g1, g2⟩ := (lay hs (h1.trans hp.symm)).1
  obtain ⟨a, t2, b, c⟩ := ho
  have e1 := a t1 g1
  have e2 := h.le t2 (by rw [b]; exact hp)
  omega

noncomputable abbrev dsLeast : List (Str × Bool) := [("weights", false), ("count", true), ("best", true), ("width", false), ("low", true), ("high", true), ("cuts", false)]
noncomputable abbrev cxLeast (A : Around) (L : Addr) : Cx := mkCx 0 0 "_law_least" (dScope (stm 14)) 202 (.ref 201) dsLeast A L
theorem fnLeast (w : World) : FnS w 202 (stm 14) "_law_least" (.ref 201) ["weights"] dsLeast where
  k := by unfold FnK; kernel_rfl
  cd := by kernel_rfl
  bd := bind1 fun fd h1 h2 h3 a0 => by unfold bindArgs; rw [h1, h2, h3]; rfl
  hs := by kernel_rfl
  nd := by decide +kernel
  chk := by decide +kernel

noncomputable def exLeast_0 (w : World) (hB : Heap) : { W : T AFl // ∀ A L, ExecTo w hB (cxLeast A L) (nest (stm 14) 0) W } := ⟨_, fun A L =>
  (ex_assign (ev_call (ev_blt (v := .builtin "len") rfl (nb_len w) rfl) (li_cons (ev_loc (i := 0) rfl) li_nil) c_len) (as_cell (i := 1) rfl))⟩
noncomputable def exLeast_1 (w : World) (hB : Heap) : { W : T AFl // ∀ A L, ExecTo w hB (cxLeast A L) (nest (stm 14) 1) W } := ⟨_, fun A L =>
  (ex_assign (ev_compVz [1] true (x := "k") (caps := [("count", 1, L + 1)]) (compIs_mk rfl (by decide +kernel) ⟨⟨rfl, rfl, fun u_ => rfl⟩, trivial⟩ (show (["k", "count"] : List Str).Nodup by decide +kernel)) (ev_call (ev_blt (v := .type "range") rfl (nb_range w) rfl) (li_cons (ev_bin (ev_cell (i := 1) rfl) ev_int (o_addG false)) li_nil) c_range) it_gen (fun C => (ev_bin (ev_listZ (li_cons ev_int li_nil)) (ev_bin (ev_capt (x := "count") (i := 1) rfl) ev_int (o_addG false)) (o_mulG true)))) (as_cell (i := 2) rfl))⟩
noncomputable abbrev sLs : PySem.Stmt := nthS (forBody (nest (stm 14) 2)) 0
noncomputable def exL_1 (w : World) (hB : Heap) : { W : T AFl // ∀ A L, ExecTo w hB (cxLeast A L) (nthS (forBody sLs) 1) W } := ⟨_, fun A L =>
  (ex_compVSz [2, 4, 5] false (x := "k") (caps := [("best", 2, L + 2), ("low", 4, L + 3), ("high", 5, L + 4)]) (compIs_mk rfl (by decide +kernel) ⟨⟨rfl, rfl, fun u_ => rfl⟩, ⟨⟨rfl, rfl, fun u_ => rfl⟩, ⟨⟨rfl, rfl, fun u_ => rfl⟩, trivial⟩⟩⟩ (show (["k", "best", "low", "high"] : List Str).Nodup by decide +kernel)) (ev_call (ev_blt (v := .type "range") rfl (nb_range w) rfl) (li_cons (ev_bin (ev_cell (i := 4) rfl) ev_int (o_addG false)) (li_cons (ev_cell (i := 5) rfl) li_nil)) c_range) it_gen (fun C => (ev_bin (ev_sub (ev_sub (ev_capt (x := "best") (i := 1) rfl) (ev_capt (x := "low") (i := 2) rfl) g_any) (ev_loc (i := 0) rfl) g_any) (ev_sub (ev_sub (ev_capt (x := "best") (i := 1) rfl) (ev_loc (i := 0) rfl) g_any) (ev_capt (x := "high") (i := 3) rfl) g_any) (o_addG false))) (as_loc (i := 6) rfl) rfl)⟩
noncomputable def exL_2 (w : World) (hB : Heap) : { W : T AFl // ∀ A L, ExecTo w hB (cxLeast A L) (nthS (forBody sLs) 2) W } := ⟨_, fun A L =>
  (ex_assign (ev_bin (ev_call (ev_blt (v := .builtin "sum") rfl (nb_sum w) rfl) (li_cons (ev_slice (ev_loc (i := 0) rfl) (pt_some (ev_cell (i := 4) rfl)) (pt_some (ev_cell (i := 5) rfl))) li_nil) c_sum) (ev_call (ev_blt (v := .builtin "min") rfl (nb_min w) rfl) (li_cons (ev_loc (i := 6) rfl) li_nil) c_min) (o_addG false)) (as_sub (ev_sub (ev_cell (i := 2) rfl) (ev_cell (i := 4) rfl) g_any) (ev_cell (i := 5) rfl)))⟩
noncomputable def exL (w : World) (hB : Heap) : { W : T AFl // ∀ A L, ExecTo w hB (cxLeast A L) sLs W } := ⟨_, fun A L =>
  (ex_for rfl (ev_call (ev_blt (v := .type "range") rfl (nb_range w) rfl) (li_cons (ev_bin (ev_bin (ev_cell (i := 1) rfl) ev_int (o_addG false)) (ev_loc (i := 3) rfl) o_sub) li_nil) c_range) it_gen (as_cell (i := 4) rfl)
    (exs_cons (ex_assign (ev_bin (ev_cell (i := 4) rfl) (ev_loc (i := 3) rfl) (o_addG false)) (as_cell (i := 5) rfl)) <|
      exs_cons ((exL_1 w hB).2 A L) <|
      ex_one ((exL_2 w hB).2 A L)))⟩
noncomputable def exLeast_2 (w : World) (hB : Heap) : { W : T AFl // ∀ A L, ExecTo w hB (cxLeast A L) (nest (stm 14) 2) W } := ⟨_, fun A L =>
  (ex_for rfl (ev_call (ev_blt (v := .type "range") rfl (nb_range w) rfl) (li_cons ev_int (li_cons (ev_bin (ev_cell (i := 1) rfl) ev_int (o_addG false)) li_nil)) c_range) it_gen (as_loc (i := 3) rfl)
  (ex_one ((exL w hB).2 A L)))⟩
noncomputable def exLeast_3 (w : World) (hB : Heap) : { W : T AFl // ∀ A L, ExecTo w hB (cxLeast A L) (nest (stm 14) 3) W } := ⟨_, fun A L =>
  (ex_ret (ev_sub (ev_sub (ev_cell (i := 2) rfl) ev_int g_any) (ev_cell (i := 1) rfl) g_any))⟩
noncomputable def exLeast (w : World) (hB : Heap) : { W : T AFl // ∀ A L, ExecsTo w hB (cxLeast A L) (dBody (stm 14)) W } := ⟨_, fun A L =>
  exs_cons ((exLeast_0 w hB).2 A L) <|
  exs_cons ((exLeast_1 w hB).2 A L) <|
  exs_cons ((exLeast_2 w hB).2 A L) <|
  ex_one ((exLeast_3 w hB).2 A L)⟩

noncomputable def seg (ws : List Int) (i j : Nat) : List Int := (ws.drop i).take (j - i)
theorem seg_len {ws : List Int} {i j : Nat} (h : j ≤ ws.length) : (seg ws i j).length = j - i := by
  unfold seg
  rw [List.length_take, List.length_drop]; exact Nat.min_eq_left (Nat.sub_le_sub_right h i)
theorem seg_split {ws : List Int} {i k j : Nat} (h1 : i ≤ k) (h2 : k ≤ j) : seg ws i j = seg ws i k ++ seg ws k j := by
  unfold seg
  have e : ws.drop k = (ws.drop i).drop (k - i) := by rw [List.drop_drop, Nat.add_sub_of_le h1]
  rw [e]
  have e2 : j - i = (k - i) + (j - k) := by rw [Nat.add_comm]; exact (Nat.sub_add_sub_cancel h2 h1).symm
  rw [e2, List.take_add]
theorem seg_one {ws : List Int} {i : Nat} (h : i < ws.length) : seg ws i (i + 1) = [ws[i]] := by
  unfold seg
  have : i + 1 - i = 1 := by omega
  rw [this, List.drop_eq_getElem_cons h]; rfl
theorem opt_one (a : Int) : IsOpt [a] 0 := by
  refine ⟨fun t ht => ?_, .leaf a, rfl, rfl⟩
  cases t with
  | leaf w => exact Int.le_refl _
  | node l r =>
    have := congrArg List.length ht
    simp [Tr.leaves] at this
    have h1 := List.length_pos_iff.mpr (Tr.leaves_ne l)
    have h2 := List.length_pos_iff.mpr (Tr.leaves_ne r)
    omega
theorem opt_step {ws : List Int} {i j : Nat} (hj : j ≤ ws.length) (hij : i + 2 ≤ j) (f : Nat → Int) (gl gr : Nat → Int) (hf : ∀ k, i < k → k < j → f k = gl k + gr k) (hl : ∀ k, i < k → k < j → IsOpt (seg ws i k) (gl k)) (hr : ∀ k, i < k → k < j → IsOpt (seg ws k j) (gr k))
    {m : Int} (hm : ∃ k, i < k ∧ k < j ∧ m = f k) (hmin : ∀ k, i < k → k < j → m ≤ f k) : IsOpt (seg ws i j) ((seg ws i j).sum + m) := by
  refine ⟨fun t ht => ?_, ?_⟩
  · cases t with
    | leaf w =>
      have := congrArg List.length ht
      rw [seg_len hj] at this
      simp [Tr.leaves] at this
      omega
    | node l r =>
      have h1 := List.length_pos_iff.mpr (Tr.leaves_ne l)
      have h2 := List.length_pos_iff.mpr (Tr.leaves_ne r)
      have hlen := congrArg List.length ht
      rw [seg_len hj, Tr.leaves, List.length_append] at hlen
      have hk1 : i < i + l.leaves.length := by omega
      have hk2 : i + l.leaves.length < j := by omega
      have hs := seg_split (ws := ws) (i := i) (k := i + l.leaves.length) (j := j) (by omega) (by omega)
      rw [hs] at ht
      have hll : (seg ws i (i + l.leaves.length)).length = l.leaves.length := by rw [seg_len (by omega)]; omega
      obtain ⟨e1, e2⟩ := List.append_inj ht hll.symm
      have g1 := (hl _ hk1 hk2).1 l e1
      have g2 := (hr _ hk1 hk2).1 r e2
      have g3 := hmin _ hk1 hk2
      rw [hf _ hk1 hk2] at g3
      have s1 := congrArg List.sum e1
      have s2 := congrArg List.sum e2
      have ew : (seg ws i j).sum = l.wt + r.wt := by rw [hs, List.sum_append, Tr.wt_leaves l, Tr.wt_leaves r]; omega
      simp only [Tr.cost]
      omega
  · obtain ⟨k, hk1, hk2, rfl⟩ := hm
    obtain ⟨l, e1, c1⟩ := (hl k hk1 hk2).2
    obtain ⟨r, e2, c2⟩ := (hr k hk1 hk2).2
    have hs := seg_split (ws := ws) (i := i) (k := k) (j := j) (by omega) (by omega)
    refine ⟨.node l r, by rw [Tr.leaves, e1, e2, hs], ?_⟩
    have ew : (seg ws i j).sum = l.wt + r.wt := by rw [hs, List.sum_append, Tr.wt_leaves, Tr.wt_leaves, e1, e2]
    rw [hf k hk1 hk2]
    simp only [Tr.cost]
    omega
noncomputable abbrev Mx := List (List Int)
noncomputable def mg (M : Mx) (i j : Nat) : Int := (M.getD i []).getD j 0
noncomputable def ms (M : Mx) (i j : Nat) (v : Int) : Mx := M.modify i fun r => r.set j v
noncomputable def Sq (n : Nat) (M : Mx) : Prop := M.length = n ∧ ∀ r ∈ M, r.length = n
theorem Sq.row {n i : Nat} {M : Mx} (h : Sq n M) (hi : i < n) : ∃ r, M[i]? = some r ∧ r.length = n := by
  have hl : i < M.length := by rw [h.1]; exact hi
  exact ⟨M[i], List.getElem?_eq_getElem hl, h.2 _ (List.getElem_mem hl)⟩
theorem Sq.ms {n i j : Nat} {M : Mx} {v : Int} (h : Sq n M) : Sq n (ms M i j v) := by
  refine ⟨by simp [Mine.Internal.ms, h.1], fun r hr => ?_⟩
  obtain ⟨k, hk⟩ := List.getElem?_of_mem hr
  simp only [Mine.Internal.ms, List.getElem?_modify] at hk
  cases e : M[k]? with
  | none => rw [e] at hk; simp at hk
  | some u =>
    rw [e] at hk
    have hu := h.2 u (List.mem_of_getElem? e)
    simp at hk
    subst hk
    split <;> simp [hu]
theorem mg_ms {n i j a b : Nat} {M : Mx} {v : Int} (h : Sq n M) (hi : i < n) (hj : j < n) : mg (ms M i j v) a b = if a = i ∧ b = j then v else mg M a b := by
  obtain ⟨r, hr, hl⟩ := h.row hi
  unfold mg ms
  simp only [List.getD_eq_getElem?_getD, List.getElem?_modify]
  by_cases e : i = a
  · subst e
    rw [hr]
    simp only [if_true, Option.map_eq_map, Option.map_some, Option.getD_some, true_and]
    rw [List.getElem?_set]
    by_cases e2 : j = b
    · subst e2
      rw [if_pos rfl, if_pos (by omega), if_pos rfl]; rfl
    · rw [if_neg e2, if_neg (by omega)]
  · rw [if_neg (by omega)]
    simp [e]
noncomputable def hpM (M : Mx) : List SO := M.map (fun r => SO.list (SI r)) ++ [.list ((List.range M.length).map .obj)]
theorem hpM_row {M : Mx} {i : Nat} {r : List Int} (h : M[i]? = some r) : hget (hpM M) i = some (.list (SI r)) := by
  refine hget_len ?_
  have hl : i < M.length := by
    rcases Nat.lt_or_ge i M.length with q | q
    · exact q
    · rw [List.getElem?_eq_none q] at h; cases h
  unfold hpM
  rw [List.getElem?_append_left (by simpa using hl), List.getElem?_map, h]; rfl
theorem hpM_best {M : Mx} : hget (hpM M) M.length = some (.list ((List.range M.length).map .obj)) := by
  refine hget_len ?_
  unfold hpM
  rw [List.getElem?_append_right (by simp)]; simp
theorem hpM_set {M : Mx} {i j : Nat} {r : List Int} {v : Int} (h : M[i]? = some r) : (hpM M).set i (.list ((SI r).set j (.int v))) = hpM (ms M i j v) := by
  have hl : i < M.length := by
    rcases Nat.lt_or_ge i M.length with q | q
    · exact q
    · rw [List.getElem?_eq_none q] at h; cases h
  unfold hpM
  rw [List.set_append_left _ _ (by simpa using hl)]
  have e1 : (ms M i j v).length = M.length := by simp [ms]
  rw [e1]
  congr 1
  apply List.ext_getElem?
  intro m
  simp only [ms, List.getElem?_set, List.getElem?_map, List.getElem?_modify, List.length_map]
  by_cases e : i = m
  · subst e
    rw [if_pos rfl, if_pos hl, h]
    simp [SI]
  · simp [e]
theorem obj_nth {n i : Nat} (h : i < n) : nth ((List.range n).map SV.obj) i = some (.obj i) := by rw [nth_eq]; simp [h]
theorem mg_row {M : Mx} {i j : Nat} {r : List Int} (h : M[i]? = some r) (hj : j < r.length) : nth (SI r) j = some (.int (mg M i j)) := by
  rw [SI_nth hj]
  unfold mg
  simp [List.getD_eq_getElem?_getD, h, hj]
theorem rngL_len (a : Int) (n : Nat) : (rngL a (a + (n : Nat))).length = n := by
  unfold rngL
  simp
  omega
theorem rngL_cases (a b : Int) : (b ≤ a ∧ rngL a b = []) ∨ (a < b ∧ rngL a b = .int a :: rngL (a + 1) b) := by
  rcases Int.lt_or_le a b with h | h
  · right
    refine ⟨h, ?_⟩
    have e : b = a + (((b - a - 1).toNat + 1 : Nat) : Int) := by omega
    have e2 : b = a + 1 + (((b - a - 1).toNat : Nat) : Int) := by omega
    rw [e, rngL_succ, ← e, ← e2]
  · exact .inl ⟨h, rngL_nil _ _ h⟩
noncomputable abbrev lsL (ws : List Int) (n : Nat) (q : Nat) (o1 o2 o3 o4 : Option SV) : List (Option SV) := [some (.list (SI ws)), some (.int n), some (.obj q), o1, o2, o3, o4]
theorem least1 (w : World) (hB : Heap) (ws : List Int) (hn : ws.length ≤ 100) (K : AFl → St → Prop)
    (hK : K .next ⟨lsL ws ws.length (ws.length + 1) none none none none, hpM (List.replicate (ws.length + 1) (List.replicate (ws.length + 1) 0))⟩) :
    (exLeast_1 w hB).1 K ⟨[some (.list (SI ws)), some (.int ws.length), none, none, none, none, none], []⟩ := by
  unfold exLeast_1
  refine ⟨⟨by omega, by omega, by show -1000000 ≤ ((ws.length : Int) + 1); omega, by show ((ws.length : Int) + 1) ≤ 1000000; omega⟩, ?_⟩
  refine ⟨by have := rngL_len 0 (ws.length + 1); rw [Int.zero_add, Int.natCast_add] at this; show (rngL 0 ((ws.length : Int) + 1)).length ≤ 1000; rw [show ((ws.length : Int) + 1) = ((ws.length : Nat) : Int) + ((1 : Nat) : Int) from rfl, this]; omega, ?_⟩
  obtain ⟨Zr, hZ⟩ : ∃ z, SO.list (SI (List.replicate (ws.length + 1) 0)) = z := ⟨_, rfl⟩
  refine comp_indF (fun xs st acc => ∃ (j : Nat) (o : Option SV), j ≤ ws.length + 1 ∧ xs = rngL j ((ws.length : Int) + 1) ∧ st = ⟨[o, some (.int ws.length)], List.replicate j Zr⟩ ∧ acc = (List.range j).map .obj) ?_ ?_ _ _ _ ⟨0, none, Nat.zero_le _, rfl, rfl, rfl⟩
  · rintro st acc ⟨j, o, hj, h1, rfl, rfl⟩
    have hj2 : j = ws.length + 1 := by
      rcases rngL_cases j ((ws.length : Int) + 1) with ⟨h, _⟩ | ⟨_, h⟩
      · omega
      · rw [h] at h1; cases h1
    subst hj2
    k_go
    simp only [List.length_replicate]
    unfold hpM at hK
    simp only [List.map_replicate, List.length_replicate, hZ] at hK
    exact hK
  · rintro z zs st acc F ⟨j, o, hj, h1, rfl, rfl⟩ ih
    rcases rngL_cases j ((ws.length : Int) + 1) with ⟨_, h⟩ | ⟨hlt, h⟩
    · rw [h] at h1; cases h1
    · rw [h] at h1
      cases h1
      k_go
      refine ⟨by decide, by omega, by omega, by omega, ?_⟩
      refine ih _ _ ⟨j + 1, some (.int j), by omega, rfl, ?_, ?_⟩
      · have e1 : ((ws.length : Int) + 1).toNat = ws.length + 1 := by omega
        have e2 : (List.replicate (ws.length + 1) [SV.int 0]).flatten = SI (List.replicate (ws.length + 1) 0) := by
          simp [SI, List.flatten_replicate_singleton]
        rw [e1, e2, hZ, List.replicate_succ']
      · rw [List.length_replicate, List.range_succ, List.map_append]; rfl

noncomputable def Done (ws : List Int) (M : Mx) (width : Nat) : Prop := ∀ i j, i < j → j ≤ ws.length → j < i + width → IsOpt (seg ws i j) (mg M i j)
noncomputable def DoneW (ws : List Int) (M : Mx) (width low : Nat) : Prop := ∀ i, i < low → i + width ≤ ws.length → IsOpt (seg ws i (i + width)) (mg M i (i + width))
noncomputable abbrev cutsL (M : Mx) (low hi m : Nat) : List Int := (List.range' (low + 1) m).map fun k => mg M low k + mg M k hi
inductive CutI (ws : List Int) (M : Mx) (low hi : Nat) (xs : List SV) (st : St) (acc : List SV) : Prop
  | mk (j : Nat) (o : Option SV) (q1 : low + 1 ≤ j) (q2 : j ≤ hi) (q3 : xs = rngL j (hi : Int)) (e1 : st = ⟨[o, some (.obj (ws.length + 1)), some (.int low), some (.int hi)], hpM M⟩) (e2 : acc = SI (cutsL M low hi (j - (low + 1)))) : CutI ws M low hi xs st acc
inductive LowI (ws : List Int) (width : Nat) (xs : List SV) (st : St) : Prop
  | mk (M : Mx) (low : Nat) (o2 o3 o4 : Option SV) (g1 : xs = rngL low ((ws.length : Int) + 1 - width)) (g2 : Sq (ws.length + 1) M) (g3 : Done ws M width) (g4 : DoneW ws M width low) (e : st = ⟨lsL ws ws.length (ws.length + 1) (some (.int width)) o2 o3 o4, hpM M⟩) : LowI ws width xs st
inductive WidI (ws : List Int) (xs : List SV) (st : St) : Prop
  | mk (M : Mx) (width : Nat) (o1 o2 o3 o4 : Option SV) (h1 : 2 ≤ width) (h2 : width ≤ ws.length + 1) (h3 : xs = rngL width ((ws.length : Int) + 1)) (h4 : Sq (ws.length + 1) M) (h5 : Done ws M width) (e : st = ⟨lsL ws ws.length (ws.length + 1) o1 o2 o3 o4, hpM M⟩) : WidI ws xs st
theorem rngL_end {a : Nat} {b : Int} {xs : List SV} (h : xs = rngL a b) (e : xs = []) : b ≤ a := by
  rcases rngL_cases a b with ⟨h', _⟩ | ⟨_, h'⟩
  · exact h'
  · rw [h, h'] at e; cases e
theorem rngL_step {a : Nat} {b : Int} {z : SV} {zs : List SV} (h : z :: zs = rngL a b) : (a : Int) < b ∧ z = .int a ∧ zs = rngL ((a + 1 : Nat) : Int) b := by
  rcases rngL_cases a b with ⟨_, h'⟩ | ⟨q, h'⟩
  · rw [h'] at h; cases h
  · rw [h'] at h
    injection h with e1 e2
    exact ⟨q, e1, e2⟩
section
variable (w : World) (hB : Heap) (ws : List Int) (hn : ws.length ≤ 100) {M : Mx} {low hi : Nat} (h1 : low < hi) (h2 : hi ≤ ws.length) (g2 : Sq (ws.length + 1) M)
include hn h1 h2 g2
theorem leastA (o1 o4 : Option SV) (K : AFl → St → Prop) (hK : K .next ⟨lsL ws ws.length (ws.length + 1) o1 (some (.int low)) (some (.int hi)) (some (.list (SI (cutsL M low hi (hi - (low + 1)))))), hpM M⟩) :
    (exL_1 w hB).1 K ⟨lsL ws ws.length (ws.length + 1) o1 (some (.int low)) (some (.int hi)) o4, hpM M⟩ := by
  unfold exL_1
  have cast2 : (low : Int) + 1 = ((low + 1 : Nat) : Int) := by omega
  k_go
  refine ⟨⟨by show -1000000 ≤ ((low : Int) + 1); omega, by show ((low : Int) + 1) ≤ 1000000; omega, by omega, by omega⟩, ?_⟩
  refine ⟨by
    show (rngL ((low : Int) + 1) (hi : Int)).length ≤ 1000
    have e : (hi : Int) = ((low : Int) + 1) + ((hi - low - 1 : Nat) : Int) := by omega
    rw [e, rngL_len]; omega, ?_⟩
  obtain ⟨rowL, hrowL, hlenL⟩ := g2.row (i := low) (by omega)
  refine comp_indF (CutI ws M low hi) ?_ ?_ _ _ _ ⟨low + 1, none, Nat.le_refl _, by omega, by rw [← cast2], rfl, by simp [SI]⟩
  · rintro st acc ⟨j, o, q1, q2, q3, rfl, rfl⟩
    have hj : j = hi := by have := rngL_end q3 rfl; omega
    subst hj
    exact hK
  · rintro z zs st acc G ⟨j, o, q1, q2, q3, rfl, rfl⟩ ihc
    obtain ⟨hltj, rfl, rfl⟩ := rngL_step q3
    obtain ⟨rowJ, hrowJ, hlenJ⟩ := g2.row (i := j) (by omega)
    have hb : hget (hpM M) (ws.length + 1) = some (.list ((List.range (ws.length + 1)).map .obj)) := by have := hpM_best (M := M); rw [g2.1] at this; exact this
    have hrow := hpM_row hrowL
    have hrowj := hpM_row hrowJ
    generalize hacc : SI (cutsL M low hi (j - (low + 1))) = acc at ihc ⊢
    k_go
    simp only [hb]
    rw [Int.toNat_natCast, obj_nth (by omega)]
    refine ⟨by omega, ?_⟩
    k_go
    simp only [hrow]
    rw [Int.toNat_natCast, mg_row hrowL (by omega)]
    refine ⟨by omega, ?_⟩
    k_go
    try simp only [hb]
    rw [obj_nth (by omega)]
    refine ⟨by omega, ?_⟩
    k_go
    simp only [hrowj]
    rw [Int.toNat_natCast, mg_row hrowJ (by omega)]
    refine ⟨by omega, ?_⟩
    k_go
    refine ihc _ _ ⟨j + 1, some (.int j), by omega, by omega, rfl, rfl, ?_⟩
    have e : j + 1 - (low + 1) = (j - (low + 1)) + 1 := by omega
    unfold cutsL
    rw [e, List.range'_1_concat, List.map_append, ← hacc]
    simp only [SI, List.map_append, List.map_cons, List.map_nil]
    have e2 : low + 1 + (j - (low + 1)) = j := by omega
    rw [e2]
theorem leastB {cuts : List Int} (hcl : cuts.length ≤ 1000) (hne : cuts ≠ []) (o1 : Option SV) (K : AFl → St → Prop)
    (hK : ∀ m ∈ cuts, (∀ y ∈ cuts, m ≤ y) → K .next ⟨lsL ws ws.length (ws.length + 1) o1 (some (.int low)) (some (.int hi)) (some (.list (SI cuts))), hpM (ms M low hi ((seg ws low hi).sum + m))⟩) :
    (exL_2 w hB).1 K ⟨lsL ws ws.length (ws.length + 1) o1 (some (.int low)) (some (.int hi)) (some (.list (SI cuts))), hpM M⟩ := by
  unfold exL_2
  obtain ⟨rowL, hrowL, hlenL⟩ := g2.row (i := low) (by omega)
  have hb : hget (hpM M) (ws.length + 1) = some (.list ((List.range (ws.length + 1)).map .obj)) := by have := hpM_best (M := M); rw [g2.1] at this; exact this
  have hrow := hpM_row hrowL
  have es : List.take (hi - low) (List.drop low (SI ws)) = SI (seg ws low hi) := by simp [SI, seg, List.map_take, List.map_drop]
  k_go
  rw [if_pos (by omega), if_pos (by omega), Int.toNat_natCast, Int.toNat_natCast]
  dsimp only
  rw [es]
  refine ⟨by simp [SI]; omega, ?_⟩
  refine ⟨seg ws low hi, rfl, ?_⟩
  k_go
  refine ⟨cuts, rfl, hne, fun m hm hmin => ?_⟩
  k_go
  simp only [hb]
  try k_go
  rw [Int.toNat_natCast, obj_nth (by omega)]
  refine ⟨by omega, ?_⟩
  k_go
  simp only [hrow]
  try k_go
  have hSI : (SI rowL).length = ws.length + 1 := by simp [SI, hlenL]
  rw [hSI, Int.toNat_natCast]
  refine ⟨by omega, by omega, ?_⟩
  rw [hpM_set hrowL]
  exact hK m hm hmin
end
theorem leastIn (w : World) (hB : Heap) (ws : List Int) (hn : ws.length ≤ 100) {M : Mx} {width : Nat} (h1 : 2 ≤ width) (h2 : width ≤ ws.length) (g2 : Sq (ws.length + 1) M) (g3 : Done ws M width) (o2 o3 o4 : Option SV) (K : AFl → St → Prop)
    (hK : ∀ M o2 o3 o4, Sq (ws.length + 1) M → Done ws M (width + 1) → K .next ⟨lsL ws ws.length (ws.length + 1) (some (.int width)) o2 o3 o4, hpM M⟩) : (exL w hB).1 K ⟨lsL ws ws.length (ws.length + 1) (some (.int width)) o2 o3 o4, hpM M⟩ := by
  unfold exL
  k_go
  refine ⟨⟨by omega, by omega, by show -1000000 ≤ ((ws.length : Int) + 1 - width); omega, by show ((ws.length : Int) + 1 - width) ≤ 1000000; omega⟩, clos_rng _ _, ?_⟩
  refine loop_indF (LowI ws width) ?_ ?_ _ _ ⟨M, 0, o2, o3, o4, rfl, g2, g3, fun i hi => absurd hi (Nat.not_lt_zero _), rfl⟩
  · rintro st ⟨M, low, o2, o3, o4, g1, g2, g3, g4, rfl⟩
    have hl := rngL_end g1 rfl
    refine hK M _ _ _ g2 fun i j q1 q2 q3 => ?_
    rcases Nat.lt_or_ge j (i + width) with h | h
    · exact g3 i j q1 q2 h
    · have : j = i + width := by omega
      subst this
      exact g4 i (by omega) q2
  · rintro z zs st F' ⟨M, low, o2, o3, o4, g1, g2, g3, g4, rfl⟩ ih'
    obtain ⟨hlt', rfl, rfl⟩ := rngL_step g1
    refine ⟨_, .refl, ?_⟩
    have hlw : low + width ≤ ws.length := by omega
    have cast1 : (low : Int) + (width : Int) = ((low + width : Nat) : Int) := by omega
    k_go
    rw [cast1]
    refine leastA w hB ws hn (by omega) hlw g2 _ _ _ ?_
    have ew : low + width - (low + 1) = width - 1 := by omega
    rw [ew]
    k_go
    refine leastB w hB ws hn (by omega) hlw g2 (by simp; omega) (fun e => by have := congrArg List.length e; simp at this; omega) _ _ fun m hm hmin => ?_
    have hms := g2.ms (i := low) (j := low + width) (v := (seg ws low (low + width)).sum + m)
    have hmg := fun a b => mg_ms (a := a) (b := b) (v := (seg ws low (low + width)).sum + m) g2 (i := low) (j := low + width) (by omega) (by omega)
    refine ih' _ ⟨ms M low (low + width) ((seg ws low (low + width)).sum + m), low + 1, _, _, _, rfl, hms, fun i j r1 r2 r3 => ?_, fun i r1 r2 => ?_, rfl⟩
    · rw [hmg, if_neg (by omega)]
      exact g3 i j r1 r2 r3
    · rw [hmg]
      by_cases hi : i = low
      · subst hi
        rw [if_pos ⟨rfl, rfl⟩]
        refine opt_step (f := fun k => mg M i k + mg M k (i + width)) r2 (by omega) (fun k => mg M i k) (fun k => mg M k (i + width)) (fun u_ u_ u_ => rfl) (fun k k1 k2 => g3 i k k1 (by omega) (by omega)) (fun k k1 k2 => g3 k (i + width) k2 r2 (by omega)) ?_ ?_
        · obtain ⟨k, hk, rfl⟩ := List.mem_map.mp hm
          have := List.mem_range'_1.mp hk
          exact ⟨k, by omega, by omega, rfl⟩
        · intro k k1 k2
          exact hmin _ (List.mem_map.mpr ⟨k, List.mem_range'_1.mpr (by omega), rfl⟩)
      · rw [if_neg (by omega)]
        exact g4 i (by omega) r2
theorem least2 (w : World) (hB : Heap) (ws : List Int) (hn : ws.length ≤ 100) (hn1 : 1 ≤ ws.length) (K : AFl → St → Prop) (o1 o2 o3 o4 : Option SV)
    (hK : ∀ M o1 o2 o3 o4, Sq (ws.length + 1) M → IsOpt ws (mg M 0 ws.length) → K .next ⟨lsL ws ws.length (ws.length + 1) o1 o2 o3 o4, hpM M⟩) :
    (exLeast_2 w hB).1 K ⟨lsL ws ws.length (ws.length + 1) o1 o2 o3 o4, hpM (List.replicate (ws.length + 1) (List.replicate (ws.length + 1) 0))⟩ := by
  unfold exLeast_2
  refine ⟨⟨by omega, by omega, by show -1000000 ≤ ((ws.length : Int) + 1); omega, by show ((ws.length : Int) + 1) ≤ 1000000; omega⟩, clos_rng _ _, ?_⟩
  refine loop_indF (WidI ws) ?_ ?_ _ _ ⟨_, 2, o1, o2, o3, o4, Nat.le_refl _, by omega, rfl, ?_, ?_, rfl⟩
  · rintro st ⟨M, width, o1, o2, o3, o4, h1, h2, h3, h4, h5, rfl⟩
    have hw := rngL_end h3 rfl
    refine hK M o1 o2 o3 o4 h4 ?_
    have := h5 0 ws.length (by omega) (Nat.le_refl _) (by omega)
    simpa [seg] using this
  · rintro z zs st F ⟨M, width, o1, o2, o3, o4, h1, h2, h3, h4, h5, rfl⟩ ih
    obtain ⟨hlt, rfl, rfl⟩ := rngL_step h3
    refine ⟨_, .refl, ?_⟩
    exact leastIn w hB ws hn h1 (by omega) h4 h5 o2 o3 o4 _ fun M o2 o3 o4 k1 k2 => ih _ ⟨M, width + 1, _, o2, o3, o4, by omega, by omega, rfl, k1, k2, rfl⟩
  · refine ⟨by simp, fun r hr => ?_⟩
    have := List.eq_of_mem_replicate hr
    subst this; simp
  · intro i j h1 h2 h3
    have : j = i + 1 := by omega
    subst this
    rw [seg_one (by omega)]
    have e : mg (List.replicate (ws.length + 1) (List.replicate (ws.length + 1) 0)) i (i + 1) = 0 := by
      unfold mg
      simp only [List.getD_eq_getElem?_getD, List.getElem?_replicate]
      rw [if_pos (by omega)]
      simp only [Option.getD_some, List.getElem?_replicate]
      split <;> rfl
    rw [e]
    exact opt_one _
theorem least_spec (w : World) (hB : Heap) (ws : List Int) (hn : ws.length ≤ 100) (hn1 : 1 ≤ ws.length) (v : Int) (hv : IsOpt ws v) (k : SV → List SO → Prop) (hk : ∀ hp, k (.int v) hp) :
    (exLeast w hB).1 (retK k) ⟨initLoc [.list (SI ws)] 7, []⟩ := by
  unfold exLeast
  dsimp only
  unfold exLeast_0
  k_go
  have hSI : (SI ws).length = ws.length := by simp [SI]
  rw [hSI]
  refine ⟨by omega, ?_⟩
  refine least1 w hB ws hn _ ?_
  dsimp only
  refine least2 w hB ws hn hn1 _ _ _ _ _ fun M o1 o2 o3 o4 hM hopt => ?_
  dsimp only
  unfold exLeast_3
  have hb : hget (hpM M) (ws.length + 1) = some (.list ((List.range (ws.length + 1)).map .obj)) := by have := hpM_best (M := M); rw [hM.1] at this; exact this
  obtain ⟨row, hrow, hlen⟩ := hM.row (i := 0) (by omega)
  have hr := hpM_row hrow
  k_go
  simp only [hb]
  try k_go
  rw [obj_nth (by omega)]
  refine ⟨by decide, ?_⟩
  k_go
  simp only [hr]
  try k_go
  rw [Int.toNat_natCast, mg_row hrow (by omega)]
  refine ⟨by omega, ?_⟩
  rw [hopt.uniq hv]
  exact hk _
noncomputable def wLeast : List SV → T SV := fun as k st => ∃ (ws : List Int) (v : Int), as = [.list (SI ws)] ∧ ws.length ≤ 100 ∧ 1 ≤ ws.length ∧ IsOpt ws v ∧ k (.int v) st
theorem c_least {w : World} {hB : Heap} {c : Cx} (hc : 0 < c.ht) : CallOp w hB c (.ref 202) wLeast :=
  c_fn 0 (fnLeast w) (exLeast w hB).2 hc fun as k st hw => by
    obtain ⟨ws, v, rfl, h1, h2, h3, h⟩ := hw
    refine ⟨⟨clos_SI _, trivial⟩, rfl, least_spec w hB ws h1 h2 v h3 _ fun hp => ?_⟩
    exact ⟨trivial, h⟩

noncomputable abbrev dsLaw : List (Str × Bool) := [(("script" : Str), false), (("draws" : Str), false), (("count" : Str), true), (("names" : Str), true), (("leads" : Str), true), (("total" : Str), false), (("size" : Str), true), (("order" : Str), false), (("rows" : Str), false), (("book" : Str), false), (("k" : Str), false), (("word" : Str), false), (("begun" : Str), false), (("row" : Str), false), (("place" : Str), false), (("text" : Str), false), (("lines" : Str), false), (("ahead" : Str), false), (("heads" : Str), false), (("columns" : Str), true), (("standing" : Str), false), (("turn" : Str), false), (("pair" : Str), false), (("hand" : Str), false), (("levels" : Str), false), (("one" : Str), false), (("cut" : Str), false), (("low" : Str), false), (("high" : Str), false), (("both" : Str), false), (("joint" : Str), false), (("last" : Str), false), (("entry" : Str), false), (("depths" : Str), true), (("least" : Str), false)]
noncomputable abbrev cxLaw (A : Around) (L : Addr) : Cx := mkCx 5 0 "law" (dScope (stm 15)) 207 (.ref 206) dsLaw A L
theorem fnLaw (w : World) : FnS w 207 (stm 15) "law" (.ref 206) ["script"] dsLaw where
  k := by unfold FnK; kernel_rfl
  cd := by kernel_rfl
  bd := bind1 fun fd h1 h2 h3 a0 => by unfold bindArgs; rw [h1, h2, h3]; rfl
  hs := by kernel_rfl
  nd := by decide +kernel
  chk := by decide +kernel


noncomputable def exK_0 (w : World) (hB : Heap) : { W : T AFl // ∀ A L, ExecTo w hB (cxLaw A L) (nthS (forBody (nest (stm 15) 10)) 0) W } := ⟨_, fun A L =>
  (ex_assign (ev_bin (ev_sub (ev_cell (i := 4) rfl) (ev_loc (i := 10) rfl) g_any) (ev_sub (ev_cell (i := 3) rfl) (ev_loc (i := 10) rfl) g_any) (o_addG false)) (as_loc (i := 11) rfl))⟩
noncomputable def exK_1 (w : World) (hB : Heap) : { W : T AFl // ∀ A L, ExecTo w hB (cxLaw A L) (nthS (forBody (nest (stm 15) 10)) 1) W } := ⟨_, fun A L =>
  (ex_assign (ev_call (ev_glob rfl (gl_Whitespace w)) (li_cons (ev_loc (i := 11) rfl) li_nil) (c_ws (by show 0 < 5; decide))) (as_loc (i := 12) rfl))⟩
noncomputable def exK_2 (w : World) (hB : Heap) : { W : T AFl // ∀ A L, ExecTo w hB (cxLaw A L) (nthS (forBody (nest (stm 15) 10)) 2) W } := ⟨_, fun A L =>
  (ex_assign (ev_tup (li_cons (ev_meth (ev_loc (i := 12) rfl) (li_cons (ev_cell (i := 6) rfl) li_nil) (f_inst (C := 167) (chk := ["raw", "n", "nt", "norm", "is_simple"]) (ck_ws w) (by kernel_rfl) (by kernel_rfl) (by decide +kernel)) (c_indent (by show 0 < 5; decide))) (li_cons (ev_slice (ev_loc (i := 11) rfl) (pt_some (ev_attr (ev_loc (i := 12) rfl) (o_attr (C := 167) (chk := ["raw", "n", "nt", "norm", "is_simple"]) (i := 1) (ck_ws w) (by kernel_rfl) (by decide +kernel) true))) pt_none) (li_cons (ev_call (ev_glob rfl (gl_law_written w)) (li_cons (ev_loc (i := 11) rfl) (li_cons (ev_bin (ev_bin (ev_sub (ev_loc (i := 1) rfl) (ev_loc (i := 10) rfl) g_any) ev_int o_div) (ev_loc (i := 10) rfl) (o_addG false)) li_nil)) (c_written (by show 0 < 5; decide))) li_nil)))) (as_loc (i := 13) rfl))⟩
noncomputable def exK_3 (w : World) (hB : Heap) : { W : T AFl // ∀ A L, ExecTo w hB (cxLaw A L) (nthS (forBody (nest (stm 15) 10)) 3) W } := ⟨_, fun A L =>
  (ex_assign ev_int (as_loc (i := 14) rfl))⟩
noncomputable def exK_4 (w : World) (hB : Heap) : { W : T AFl // ∀ A L, ExecTo w hB (cxLaw A L) (nthS (forBody (nest (stm 15) 10)) 4) W } := ⟨_, fun A L =>
  (ex_while rfl (te_and (te_cmp (ev_loc (i := 14) rfl) (ev_call (ev_blt (v := .builtin "len") rfl (nb_len w) rfl) (li_cons (ev_loc (i := 8) rfl) li_nil) c_len) o_ltP) (te_cmp (ev_meth (ev_loc (i := 7) rfl) (li_cons (ev_sub (ev_loc (i := 8) rfl) (ev_loc (i := 14) rfl) g_any) (li_cons (ev_loc (i := 13) rfl) li_nil)) (f_inst (C := 87) (chk := ["comp_select_list"]) (ck_tc w) (by kernel_rfl) (by kernel_rfl) (by decide +kernel)) (c_compare (by show 0 < 5; decide))) ev_int o_ltP))
  (ex_one (ex_assign (ev_bin (ev_loc (i := 14) rfl) ev_int (o_addG false)) (as_loc (i := 14) rfl))))⟩
noncomputable def exK_5 (w : World) (hB : Heap) : { W : T AFl // ∀ A L, ExecTo w hB (cxLaw A L) (nthS (forBody (nest (stm 15) 10)) 5) W } := ⟨_, fun A L =>
  (ex_expr (ev_meth (ev_loc (i := 8) rfl) (li_cons (ev_loc (i := 14) rfl) (li_cons (ev_loc (i := 13) rfl) li_nil)) (f_list PySem.F.slot_list_insert PySem.F.type_list_insert) c_insert))⟩
noncomputable def exK_6 (w : World) (hB : Heap) : { W : T AFl // ∀ A L, ExecTo w hB (cxLaw A L) (nthS (forBody (nest (stm 15) 10)) 6) W } := ⟨_, fun A L =>
  (ex_assign (ev_tup (li_cons ev_int (li_cons ev_int (li_cons (ev_sub (ev_loc (i := 13) rfl) ev_int g_any) (li_cons ev_int (li_cons (ev_dict1 (ev_sub (ev_loc (i := 13) rfl) ev_int g_any) ev_int) li_nil)))))) (as_sub (ev_loc (i := 9) rfl) (ev_sub (ev_loc (i := 13) rfl) ev_int g_any)))⟩
noncomputable def exKB (w : World) (hB : Heap) : { W : T AFl // ∀ A L, ExecsTo w hB (cxLaw A L) (forBody (nest (stm 15) 10)) W } := ⟨_, fun A L =>
  exs_cons ((exK_0 w hB).2 A L) <|
  exs_cons ((exK_1 w hB).2 A L) <|
  exs_cons ((exK_2 w hB).2 A L) <|
  exs_cons ((exK_3 w hB).2 A L) <|
  exs_cons ((exK_4 w hB).2 A L) <|
  exs_cons ((exK_5 w hB).2 A L) <|
  ex_one ((exK_6 w hB).2 A L)⟩


noncomputable def exH_0 (w : World) (hB : Heap) : { W : T AFl // ∀ A L, ExecTo w hB (cxLaw A L) (nthS (forBody (nthS (forBody (nest (stm 15) 17)) 1)) 0) W } := ⟨_, fun A L =>
  (ex_compSz [6] false (x := "head") (caps := [("size", 6, L + 4)]) (compIs_mk rfl (by decide +kernel) ⟨⟨rfl, rfl, fun u_ => rfl⟩, trivial⟩ (show (["head", "size"] : List Str).Nodup by decide +kernel)) (ev_loc (i := 18) rfl) itp_list (fun C => (ev_meth (ev_loc (i := 0) rfl) (li_cons (ev_capt (x := "size") (i := 1) rfl) li_nil) (f_inst (C := 167) (chk := ["raw", "n", "nt", "norm", "is_simple"]) (ck_ws w) (by kernel_rfl) (by kernel_rfl) (by decide +kernel)) (c_indent (by show 0 < 5; decide)))) (as_loc (i := 24) rfl) rfl)⟩
noncomputable def exH_1 (w : World) (hB : Heap) : { W : T AFl // ∀ A L, ExecTo w hB (cxLaw A L) (nthS (forBody (nthS (forBody (nest (stm 15) 17)) 1)) 1) W } := ⟨_, fun A L =>
  (ex_assign ev_int (as_loc (i := 25) rfl))⟩
noncomputable def exH_2 (w : World) (hB : Heap) : { W : T AFl // ∀ A L, ExecTo w hB (cxLaw A L) (nthS (forBody (nthS (forBody (nest (stm 15) 17)) 1)) 2) W } := ⟨_, fun A L =>
  (ex_if (te_or (te_cmp (ev_sub (ev_loc (i := 17) rfl) ev_int g_any) (ev_str []) o_eqG) (te_and (te_cmp (ev_sub (ev_loc (i := 17) rfl) ev_int g_any) (ev_str []) o_neG) (te_cmp (ev_sub (ev_loc (i := 24) rfl) ev_int g_any) (ev_sub (ev_loc (i := 24) rfl) ev_int g_any) o_ltP)))
  (ex_one (ex_assign ev_int (as_loc (i := 25) rfl)))
  (exs_nil))⟩
noncomputable def exH_3 (w : World) (hB : Heap) : { W : T AFl // ∀ A L, ExecTo w hB (cxLaw A L) (nthS (forBody (nthS (forBody (nest (stm 15) 17)) 1)) 3) W } := ⟨_, fun A L =>
  (ex_assign (ev_attr (ev_sub (ev_loc (i := 18) rfl) (ev_loc (i := 25) rfl) g_any) (o_attr (C := 167) (chk := ["raw", "n", "nt", "norm", "is_simple"]) (i := 1) (ck_ws w) (by kernel_rfl) (by decide +kernel) true)) (as_loc (i := 26) rfl))⟩
noncomputable def exH_4 (w : World) (hB : Heap) : { W : T AFl // ∀ A L, ExecTo w hB (cxLaw A L) (nthS (forBody (nthS (forBody (nest (stm 15) 17)) 1)) 4) W } := ⟨_, fun A L =>
  (ex_expr (ev_meth (ev_loc (i := 22) rfl) (li_cons (ev_tup (li_cons (ev_sub (ev_loc (i := 24) rfl) (ev_loc (i := 25) rfl) g_any) (li_cons (ev_slice (ev_sub (ev_loc (i := 17) rfl) (ev_loc (i := 25) rfl) g_any) pt_none (pt_some (ev_loc (i := 26) rfl))) (li_cons (ev_slice (ev_sub (ev_loc (i := 17) rfl) (ev_loc (i := 25) rfl) g_any) (pt_some (ev_loc (i := 26) rfl)) pt_none) li_nil)))) li_nil) (f_list PySem.F.slot_list_append PySem.F.type_list_append) c_append))⟩
noncomputable def exH_5 (w : World) (hB : Heap) : { W : T AFl // ∀ A L, ExecTo w hB (cxLaw A L) (nthS (forBody (nthS (forBody (nest (stm 15) 17)) 1)) 5) W } := ⟨_, fun A L =>
  (ex_assign (ev_meth (ev_sub (ev_loc (i := 16) rfl) (ev_loc (i := 25) rfl) g_any) li_nil (f_inst (C := 59) (chk := ["lineno", "instream", "whitespace", "pushback"]) (ck_lex w) (by kernel_rfl) (by kernel_rfl) (by decide +kernel)) (c_tok (by show 2 < 5; decide))) (as_sub (ev_loc (i := 17) rfl) (ev_loc (i := 25) rfl)))⟩
noncomputable def exH_6 (w : World) (hB : Heap) : { W : T AFl // ∀ A L, ExecTo w hB (cxLaw A L) (nthS (forBody (nthS (forBody (nest (stm 15) 17)) 1)) 6) W } := ⟨_, fun A L =>
  (ex_assign (ev_call (ev_glob rfl (gl_Whitespace w)) (li_cons (ev_sub (ev_loc (i := 17) rfl) (ev_loc (i := 25) rfl) g_any) li_nil) (c_ws (by show 0 < 5; decide))) (as_sub (ev_loc (i := 18) rfl) (ev_loc (i := 25) rfl)))⟩
noncomputable def exHB (w : World) (hB : Heap) : { W : T AFl // ∀ A L, ExecsTo w hB (cxLaw A L) (forBody (nthS (forBody (nest (stm 15) 17)) 1)) W } := ⟨_, fun A L =>
  exs_cons ((exH_0 w hB).2 A L) <|
  exs_cons ((exH_1 w hB).2 A L) <|
  exs_cons ((exH_2 w hB).2 A L) <|
  exs_cons ((exH_3 w hB).2 A L) <|
  exs_cons ((exH_4 w hB).2 A L) <|
  exs_cons ((exH_5 w hB).2 A L) <|
  ex_one ((exH_6 w hB).2 A L)⟩

noncomputable def exT_0 (w : World) (hB : Heap) : { W : T AFl // ∀ A L, ExecTo w hB (cxLaw A L) (nthS (forBody (nest (stm 15) 17)) 0) W } := ⟨_, fun A L =>
  (ex_assign (ev_listL li_nil) (as_loc (i := 22) rfl))⟩
noncomputable def exT_1 (w : World) (hB : Heap) : { W : T AFl // ∀ A L, ExecTo w hB (cxLaw A L) (nthS (forBody (nest (stm 15) 17)) 1) W } := ⟨_, fun A L =>
  (ex_for rfl (ev_call (ev_blt (v := .type "range") rfl (nb_range w) rfl) (li_cons ev_int li_nil) c_range) it_gen (as_loc (i := 23) rfl) ((exHB w hB).2 A L))⟩
noncomputable def exT_2 (w : World) (hB : Heap) : { W : T AFl // ∀ A L, ExecTo w hB (cxLaw A L) (nthS (forBody (nest (stm 15) 17)) 2) W } := ⟨_, fun A L =>
  (ex_if (te_cmp (ev_compz [] false (x := "part") (caps := []) (compIs_mk rfl (by decide +kernel) trivial (show (["part"] : List Str).Nodup by decide +kernel)) (ev_loc (i := 22) rfl) itp_list (fun C => (ev_sub (ev_loc (i := 0) rfl) ev_int g_any))) (ev_slice (ev_loc (i := 20) rfl) pt_none (pt_some ev_int)) o_neG)
  (ex_one (ex_ret ev_bool))
  (exs_nil))⟩
noncomputable def exT_3 (w : World) (hB : Heap) : { W : T AFl // ∀ A L, ExecTo w hB (cxLaw A L) (nthS (forBody (nest (stm 15) 17)) 3) W } := ⟨_, fun A L =>
  (ex_assign (ev_loc (i := 22) rfl) (as_tup (n := 2) rfl rfl rfl (tg_cons (as_loc (i := 27) rfl) (tg_cons (as_loc (i := 28) rfl) tg_nil))))⟩
noncomputable def exT_4 (w : World) (hB : Heap) : { W : T AFl // ∀ A L, ExecTo w hB (cxLaw A L) (nthS (forBody (nest (stm 15) 17)) 4) W } := ⟨_, fun A L =>
  (ex_assign (ev_call (ev_glob rfl (gl_add_func_stats w)) (li_cons (ev_sub (ev_loc (i := 9) rfl) (ev_sub (ev_loc (i := 27) rfl) ev_int g_any) g_any) (li_cons (ev_sub (ev_loc (i := 9) rfl) (ev_sub (ev_loc (i := 28) rfl) ev_int g_any) g_any) li_nil)) (c_stats (by show 1 < 5; decide))) (as_loc (i := 29) rfl))⟩
noncomputable def exT_5 (w : World) (hB : Heap) : { W : T AFl // ∀ A L, ExecTo w hB (cxLaw A L) (nthS (forBody (nest (stm 15) 17)) 5) W } := ⟨_, fun A L =>
  (ex_assign (ev_tup (li_cons ev_int (li_cons ev_int (li_cons ev_int (li_cons (ev_sub (ev_loc (i := 29) rfl) ev_int g_any) (li_cons (ev_compDz [] (x := "name") (caps := []) (compIs_mk rfl (by decide +kernel) trivial (show (["name"] : List Str).Nodup by decide +kernel)) (ev_bin (ev_sub (ev_loc (i := 27) rfl) ev_int g_any) (ev_sub (ev_loc (i := 28) rfl) ev_int g_any) (o_addG false)) (itp_of it_gen) (fun C => (ev_loc (i := 0) rfl)) (fun C => ev_int)) li_nil)))))) (as_loc (i := 30) rfl))⟩
noncomputable def exT_6 (w : World) (hB : Heap) : { W : T AFl // ∀ A L, ExecTo w hB (cxLaw A L) (nthS (forBody (nest (stm 15) 17)) 6) W } := ⟨_, fun A L =>
  (ex_assign (ev_call (ev_glob rfl (gl_add_func_stats w)) (li_cons (ev_loc (i := 29) rfl) (li_cons (ev_loc (i := 30) rfl) li_nil)) (c_stats (by show 1 < 5; decide))) (as_sub (ev_loc (i := 9) rfl) (ev_bin (ev_sub (ev_loc (i := 27) rfl) ev_int g_any) (ev_sub (ev_loc (i := 28) rfl) ev_int g_any) (o_addG false))))⟩
noncomputable def exT_7 (w : World) (hB : Heap) : { W : T AFl // ∀ A L, ExecTo w hB (cxLaw A L) (nthS (forBody (nest (stm 15) 17)) 7) W } := ⟨_, fun A L =>
  (ex_expr (ev_meth (ev_sub (ev_loc (i := 16) rfl) ev_int g_any) (li_cons (ev_bin (ev_bin (ev_bin (ev_sub (ev_loc (i := 27) rfl) ev_int g_any) (ev_sub (ev_loc (i := 28) rfl) ev_int g_any) (o_addG false)) (ev_sub (ev_loc (i := 27) rfl) ev_int g_any) (o_addG false)) (ev_sub (ev_loc (i := 28) rfl) ev_int g_any) (o_addG false)) li_nil) (f_inst (C := 59) (chk := ["lineno", "instream", "whitespace", "pushback"]) (ck_lex w) (by kernel_rfl) (by kernel_rfl) (by decide +kernel)) (c_push (by show 0 < 5; decide))))⟩
noncomputable def exT_8 (w : World) (hB : Heap) : { W : T AFl // ∀ A L, ExecTo w hB (cxLaw A L) (nthS (forBody (nest (stm 15) 17)) 8) W } := ⟨_, fun A L =>
  (ex_if (te_cmp (ev_sub (ev_loc (i := 17) rfl) ev_int g_any) (ev_str []) o_eqG)
  (exs_cons (ex_assign (ev_meth (ev_sub (ev_loc (i := 16) rfl) ev_int g_any) li_nil (f_inst (C := 59) (chk := ["lineno", "instream", "whitespace", "pushback"]) (ck_lex w) (by kernel_rfl) (by kernel_rfl) (by decide +kernel)) (c_tok (by show 2 < 5; decide))) (as_sub (ev_loc (i := 17) rfl) ev_int)) <|
    ex_one (ex_assign (ev_call (ev_glob rfl (gl_Whitespace w)) (li_cons (ev_sub (ev_loc (i := 17) rfl) ev_int g_any) li_nil) (c_ws (by show 0 < 5; decide))) (as_sub (ev_loc (i := 18) rfl) ev_int)))
  (exs_nil))⟩
noncomputable def exT_9 (w : World) (hB : Heap) : { W : T AFl // ∀ A L, ExecTo w hB (cxLaw A L) (nthS (forBody (nest (stm 15) 17)) 9) W } := ⟨_, fun A L =>
  (ex_assign (ev_call (ev_blt (v := .builtin "sorted") rfl (nb_sorted w) rfl) (li_cons (ev_bin (ev_slice (ev_loc (i := 20) rfl) (pt_some ev_int) pt_none) (ev_listZ (li_cons (ev_bin (ev_sub (ev_loc (i := 20) rfl) ev_int g_any) (ev_sub (ev_loc (i := 20) rfl) ev_int g_any) (o_addG false)) li_nil)) (o_addG false)) li_nil) c_sorted) (as_loc (i := 20) rfl))⟩
noncomputable def exTB (w : World) (hB : Heap) : { W : T AFl // ∀ A L, ExecsTo w hB (cxLaw A L) (forBody (nest (stm 15) 17)) W } := ⟨_, fun A L =>
  exs_cons ((exT_0 w hB).2 A L) <|
  exs_cons ((exT_1 w hB).2 A L) <|
  exs_cons ((exT_2 w hB).2 A L) <|
  exs_cons ((exT_3 w hB).2 A L) <|
  exs_cons ((exT_4 w hB).2 A L) <|
  exs_cons ((exT_5 w hB).2 A L) <|
  exs_cons ((exT_6 w hB).2 A L) <|
  exs_cons ((exT_7 w hB).2 A L) <|
  exs_cons ((exT_8 w hB).2 A L) <|
  ex_one ((exT_9 w hB).2 A L)⟩


noncomputable def exLaw_0 (w : World) (hB : Heap) : { W : T AFl // ∀ A L, ExecTo w hB (cxLaw A L) (nest (stm 15) 0) W } := ⟨_, fun A L =>
  (ex_compSz [] false (x := "x") (caps := []) (compIs_mk rfl (by decide +kernel) trivial (show (["x"] : List Str).Nodup by decide +kernel)) (ev_slice (ev_loc (i := 0) rfl) pt_none (pt_some ev_int)) (itp_of it_gen) (fun C => (ev_bin (ev_loc (i := 0) rfl) (ev_bin ev_int ev_int o_pow) o_mod)) (as_loc (i := 1) rfl) rfl)⟩
noncomputable def exLaw_1 (w : World) (hB : Heap) : { W : T AFl // ∀ A L, ExecTo w hB (cxLaw A L) (nest (stm 15) 1) W } := ⟨_, fun A L =>
  (ex_assign (ev_bin (ev_loc (i := 1) rfl) (ev_slice (ev_listZ (li_cons ev_int (li_cons ev_int (li_cons ev_int (li_cons ev_int (li_cons ev_int li_nil)))))) (pt_some (ev_call (ev_blt (v := .builtin "len") rfl (nb_len w) rfl) (li_cons (ev_loc (i := 1) rfl) li_nil) c_len)) pt_none) (o_addG false)) (as_loc (i := 1) rfl))⟩
noncomputable def exLaw_2 (w : World) (hB : Heap) : { W : T AFl // ∀ A L, ExecTo w hB (cxLaw A L) (nest (stm 15) 2) W } := ⟨_, fun A L =>
  (ex_assign (ev_call (ev_blt (v := .builtin "len") rfl (nb_len w) rfl) (li_cons (ev_loc (i := 1) rfl) li_nil) c_len) (as_cell (i := 2) rfl))⟩
noncomputable def exLaw_3 (w : World) (hB : Heap) : { W : T AFl // ∀ A L, ExecTo w hB (cxLaw A L) (nest (stm 15) 3) W } := ⟨_, fun A L =>
  (ex_assign (ev_slice (ev_str [97, 98, 99, 100, 101, 102, 103]) pt_none (pt_some (ev_cell (i := 2) rfl))) (as_cell (i := 3) rfl))⟩
noncomputable def exLaw_4 (w : World) (hB : Heap) : { W : T AFl // ∀ A L, ExecTo w hB (cxLaw A L) (nest (stm 15) 4) W } := ⟨_, fun A L =>
  (ex_assign (ev_compz [] false (x := "number") (caps := []) (compIs_mk rfl (by decide +kernel) trivial (show (["number"] : List Str).Nodup by decide +kernel)) (ev_loc (i := 1) rfl) (itp_of it_gen) (fun C => (ev_call (ev_glob rfl (gl_law_lead w)) (li_cons (ev_loc (i := 0) rfl) li_nil) (c_lead (by show 0 < 5; decide))))) (as_cell (i := 4) rfl))⟩
noncomputable def exLaw_5 (w : World) (hB : Heap) : { W : T AFl // ∀ A L, ExecTo w hB (cxLaw A L) (nest (stm 15) 5) W } := ⟨_, fun A L =>
  (ex_assign (ev_call (ev_blt (v := .builtin "sum") rfl (nb_sum w) rfl) (li_cons (ev_loc (i := 1) rfl) li_nil) c_sum) (as_loc (i := 5) rfl))⟩
noncomputable def exLaw_6 (w : World) (hB : Heap) : { W : T AFl // ∀ A L, ExecTo w hB (cxLaw A L) (nest (stm 15) 6) W } := ⟨_, fun A L =>
  (ex_assign (ev_bin ev_int (ev_bin (ev_bin (ev_loc (i := 5) rfl) ev_int (o_addG false)) ev_int o_mod) (o_addG false)) (as_cell (i := 6) rfl))⟩
noncomputable def exLaw_7 (w : World) (hB : Heap) : { W : T AFl // ∀ A L, ExecTo w hB (cxLaw A L) (nest (stm 15) 7) W } := ⟨_, fun A L =>
  (ex_assign (ev_call (ev_glob rfl (gl_TupleComp w)) (li_cons (ev_listZ (li_cons (ev_tup (li_cons ev_int (li_cons ev_int li_nil))) (li_cons (ev_tup (li_cons ev_int (li_cons (ev_bin ev_int (ev_bin ev_int (ev_bin (ev_bin (ev_loc (i := 5) rfl) ev_int o_div) ev_int o_mod) (o_mulG false)) o_sub) li_nil))) li_nil))) li_nil) (c_tc (by show 0 < 5; decide))) (as_loc (i := 7) rfl))⟩
noncomputable def exLaw_8 (w : World) (hB : Heap) : { W : T AFl // ∀ A L, ExecTo w hB (cxLaw A L) (nest (stm 15) 8) W } := ⟨_, fun A L =>
  (ex_assign (ev_listL li_nil) (as_loc (i := 8) rfl))⟩
noncomputable def exLaw_9 (w : World) (hB : Heap) : { W : T AFl // ∀ A L, ExecTo w hB (cxLaw A L) (nest (stm 15) 9) W } := ⟨_, fun A L =>
  (ex_assign ev_dict0 (as_loc (i := 9) rfl))⟩
noncomputable def exLaw_10 (w : World) (hB : Heap) : { W : T AFl // ∀ A L, ExecTo w hB (cxLaw A L) (nest (stm 15) 10) W } := ⟨_, fun A L =>
  (ex_for rfl (ev_call (ev_blt (v := .type "range") rfl (nb_range w) rfl) (li_cons (ev_cell (i := 2) rfl) li_nil) c_range) it_gen (as_loc (i := 10) rfl) ((exKB w hB).2 A L))⟩
noncomputable def exLaw_11 (w : World) (hB : Heap) : { W : T AFl // ∀ A L, ExecTo w hB (cxLaw A L) (nest (stm 15) 11) W } := ⟨_, fun A L =>
  (ex_assign (ev_meth (ev_str []) (li_cons (ev_compz [] false (x := "row") (caps := []) (compIs_mk rfl (by decide +kernel) trivial (show (["row"] : List Str).Nodup by decide +kernel)) (ev_loc (i := 8) rfl) itp_list (fun C => (ev_sub (ev_loc (i := 0) rfl) ev_int g_any))) li_nil) f_join c_join) (as_loc (i := 15) rfl))⟩
noncomputable def exLaw_12 (w : World) (hB : Heap) : { W : T AFl // ∀ A L, ExecTo w hB (cxLaw A L) (nest (stm 15) 12) W } := ⟨_, fun A L =>
  (ex_assign (ev_listZ (li_cons (ev_call (ev_glob rfl (gl_law_machine w)) (li_cons (ev_loc (i := 15) rfl) li_nil) (c_mach (by show 1 < 5; decide))) (li_cons (ev_call (ev_glob rfl (gl_law_machine w)) (li_cons (ev_str []) li_nil) (c_mach (by show 1 < 5; decide))) li_nil))) (as_loc (i := 16) rfl))⟩
noncomputable def exLaw_13 (w : World) (hB : Heap) : { W : T AFl // ∀ A L, ExecTo w hB (cxLaw A L) (nest (stm 15) 13) W } := ⟨_, fun A L =>
  (ex_compVSz [] true (x := "line") (caps := []) (compIs_mk rfl (by decide +kernel) trivial (show (["line"] : List Str).Nodup by decide +kernel)) (ev_loc (i := 16) rfl) it_gen (fun C => (ev_meth (ev_loc (i := 0) rfl) li_nil (f_inst (C := 59) (chk := ["lineno", "instream", "whitespace", "pushback"]) (ck_lex w) (by kernel_rfl) (by kernel_rfl) (by decide +kernel)) (c_tok (by show 2 < 5; decide)))) (as_loc (i := 17) rfl) rfl)⟩
noncomputable def exLaw_14 (w : World) (hB : Heap) : { W : T AFl // ∀ A L, ExecTo w hB (cxLaw A L) (nest (stm 15) 14) W } := ⟨_, fun A L =>
  (ex_compSz [] true (x := "word") (caps := []) (compIs_mk rfl (by decide +kernel) trivial (show (["word"] : List Str).Nodup by decide +kernel)) (ev_loc (i := 17) rfl) itp_list (fun C => (ev_call (ev_glob rfl (gl_Whitespace w)) (li_cons (ev_loc (i := 0) rfl) li_nil) (c_ws (by show 0 < 5; decide)))) (as_loc (i := 18) rfl) rfl)⟩
noncomputable def exLaw_15 (w : World) (hB : Heap) : { W : T AFl // ∀ A L, ExecTo w hB (cxLaw A L) (nest (stm 15) 15) W } := ⟨_, fun A L =>
  (ex_assign (ev_compDz [3, 4, 6] (x := "k") (caps := [("names", 3, L + 2), ("leads", 4, L + 3), ("size", 6, L + 4)]) (compIs_mk rfl (by decide +kernel) ⟨⟨rfl, rfl, fun u_ => rfl⟩, ⟨⟨rfl, rfl, fun u_ => rfl⟩, ⟨⟨rfl, rfl, fun u_ => rfl⟩, trivial⟩⟩⟩ (show (["k", "names", "leads", "size"] : List Str).Nodup by decide +kernel)) (ev_call (ev_blt (v := .type "range") rfl (nb_range w) rfl) (li_cons (ev_cell (i := 2) rfl) li_nil) c_range) (itp_of it_gen) (fun C => (ev_sub (ev_capt (x := "names") (i := 1) rfl) (ev_loc (i := 0) rfl) g_any)) (fun C => (ev_call (ev_glob rfl (gl_law_column w)) (li_cons (ev_sub (ev_capt (x := "leads") (i := 2) rfl) (ev_loc (i := 0) rfl) g_any) (li_cons (ev_capt (x := "size") (i := 3) rfl) li_nil)) (c_column (by show 0 < 5; decide))))) (as_cell (i := 19) rfl))⟩
noncomputable def exLaw_16 (w : World) (hB : Heap) : { W : T AFl // ∀ A L, ExecTo w hB (cxLaw A L) (nest (stm 15) 16) W } := ⟨_, fun A L =>
  (ex_assign (ev_call (ev_blt (v := .builtin "sorted") rfl (nb_sorted w) rfl) (li_cons (ev_meth (ev_cell (i := 19) rfl) li_nil (f_dict PySem.F.slot_dict_values PySem.F.type_dict_values) c_values) li_nil) c_sorted) (as_loc (i := 20) rfl))⟩
noncomputable def exLaw_17 (w : World) (hB : Heap) : { W : T AFl // ∀ A L, ExecTo w hB (cxLaw A L) (nest (stm 15) 17) W } := ⟨_, fun A L =>
  (ex_for rfl (ev_call (ev_blt (v := .type "range") rfl (nb_range w) rfl) (li_cons (ev_bin (ev_cell (i := 2) rfl) ev_int o_sub) li_nil) c_range) it_gen (as_loc (i := 21) rfl) ((exTB w hB).2 A L))⟩
noncomputable def exLaw_18 (w : World) (hB : Heap) : { W : T AFl // ∀ A L, ExecTo w hB (cxLaw A L) (nest (stm 15) 18) W } := ⟨_, fun A L =>
  (ex_assign (ev_slice (ev_sub (ev_loc (i := 17) rfl) ev_int g_any) (pt_some (ev_attr (ev_sub (ev_loc (i := 18) rfl) ev_int g_any) (o_attr (C := 167) (chk := ["raw", "n", "nt", "norm", "is_simple"]) (i := 1) (ck_ws w) (by kernel_rfl) (by decide +kernel) true))) pt_none) (as_loc (i := 31) rfl))⟩
noncomputable def exLaw_19 (w : World) (hB : Heap) : { W : T AFl // ∀ A L, ExecTo w hB (cxLaw A L) (nest (stm 15) 19) W } := ⟨_, fun A L =>
  (ex_assign (ev_sub (ev_loc (i := 9) rfl) (ev_loc (i := 31) rfl) g_any) (as_loc (i := 32) rfl))⟩
noncomputable def exLaw_20 (w : World) (hB : Heap) : { W : T AFl // ∀ A L, ExecTo w hB (cxLaw A L) (nest (stm 15) 20) W } := ⟨_, fun A L =>
  (ex_assign (ev_sub (ev_loc (i := 32) rfl) ev_int g_any) (as_cell (i := 33) rfl))⟩
noncomputable def exLaw_21 (w : World) (hB : Heap) : { W : T AFl // ∀ A L, ExecTo w hB (cxLaw A L) (nest (stm 15) 21) W } := ⟨_, fun A L =>
  (ex_if (te_cmp (ev_slice (ev_loc (i := 32) rfl) pt_none (pt_some ev_int)) (ev_tup (li_cons (ev_bin (ev_cell (i := 2) rfl) ev_int o_sub) (li_cons (ev_cell (i := 2) rfl) (li_cons (ev_call (ev_blt (v := .builtin "sum") rfl (nb_sum w) rfl) (li_cons (ev_meth (ev_cell (i := 19) rfl) li_nil (f_dict PySem.F.slot_dict_values PySem.F.type_dict_values) c_values) li_nil) c_sum) li_nil)))) o_neG)
  (ex_one (ex_ret ev_bool))
  (exs_nil))⟩
noncomputable def exLaw_22 (w : World) (hB : Heap) : { W : T AFl // ∀ A L, ExecTo w hB (cxLaw A L) (nest (stm 15) 22) W } := ⟨_, fun A L =>
  (ex_if (te_or (te_cmp (ev_call (ev_blt (v := .type "list") rfl (nb_list w) rfl) (li_cons (ev_cell (i := 33) rfl) li_nil) c_list) (ev_call (ev_blt (v := .type "list") rfl (nb_list w) rfl) (li_cons (ev_loc (i := 31) rfl) li_nil) c_list) o_neG) (te_cmp (ev_call (ev_blt (v := .builtin "sorted") rfl (nb_sorted w) rfl) (li_cons (ev_loc (i := 31) rfl) li_nil) c_sorted) (ev_call (ev_blt (v := .type "list") rfl (nb_list w) rfl) (li_cons (ev_cell (i := 3) rfl) li_nil) c_list) o_neG))
  (ex_one (ex_ret ev_bool))
  (exs_nil))⟩
noncomputable def exLaw_23 (w : World) (hB : Heap) : { W : T AFl // ∀ A L, ExecTo w hB (cxLaw A L) (nest (stm 15) 23) W } := ⟨_, fun A L =>
  (ex_if (te_cmp (ev_call (ev_blt (v := .builtin "sum") rfl (nb_sum w) rfl) (li_cons (ev_compz [2, 33] false (x := "name") (caps := [("count", 2, L + 1), ("depths", 33, L + 6)]) (compIs_mk rfl (by decide +kernel) ⟨⟨rfl, rfl, fun u_ => rfl⟩, ⟨⟨rfl, rfl, fun u_ => rfl⟩, trivial⟩⟩ (show (["name", "count", "depths"] : List Str).Nodup by decide +kernel)) (ev_cell (i := 3) rfl) (itp_of it_gen) (fun C => (ev_bin ev_int (ev_bin (ev_capt (x := "count") (i := 1) rfl) (ev_sub (ev_capt (x := "depths") (i := 2) rfl) (ev_loc (i := 0) rfl) g_any) o_sub) o_pow))) li_nil) c_sum) (ev_bin ev_int (ev_cell (i := 2) rfl) o_pow) o_neG)
  (ex_one (ex_ret ev_bool))
  (exs_nil))⟩
noncomputable def exLaw_24 (w : World) (hB : Heap) : { W : T AFl // ∀ A L, ExecTo w hB (cxLaw A L) (nest (stm 15) 24) W } := ⟨_, fun A L =>
  (ex_if (te_cmp (ev_call (ev_blt (v := .builtin "sum") rfl (nb_sum w) rfl) (li_cons (ev_compz [33, 19] false (x := "name") (caps := [("depths", 33, L + 6), ("columns", 19, L + 5)]) (compIs_mk rfl (by decide +kernel) ⟨⟨rfl, rfl, fun u_ => rfl⟩, ⟨⟨rfl, rfl, fun u_ => rfl⟩, trivial⟩⟩ (show (["name", "depths", "columns"] : List Str).Nodup by decide +kernel)) (ev_cell (i := 3) rfl) (itp_of it_gen) (fun C => (ev_bin (ev_sub (ev_capt (x := "depths") (i := 1) rfl) (ev_loc (i := 0) rfl) g_any) (ev_sub (ev_capt (x := "columns") (i := 2) rfl) (ev_loc (i := 0) rfl) g_any) (o_mulG false)))) li_nil) c_sum) (ev_sub (ev_loc (i := 32) rfl) ev_int g_any) o_neG)
  (ex_one (ex_ret ev_bool))
  (exs_nil))⟩
noncomputable def exLaw_25 (w : World) (hB : Heap) : { W : T AFl // ∀ A L, ExecTo w hB (cxLaw A L) (nest (stm 15) 25) W } := ⟨_, fun A L =>
  (ex_assign (ev_call (ev_glob rfl (gl_law_least w)) (li_cons (ev_call (ev_blt (v := .builtin "sorted") rfl (nb_sorted w) rfl) (li_cons (ev_compz [19] false (x := "name") (caps := [("columns", 19, L + 5)]) (compIs_mk rfl (by decide +kernel) ⟨⟨rfl, rfl, fun u_ => rfl⟩, trivial⟩ (show (["name", "columns"] : List Str).Nodup by decide +kernel)) (ev_cell (i := 3) rfl) (itp_of it_gen) (fun C => (ev_bin (ev_bin ev_int (ev_sub (ev_capt (x := "columns") (i := 1) rfl) (ev_loc (i := 0) rfl) g_any) (o_mulG false)) ev_int (o_addG false)))) li_nil) c_sorted) li_nil) (c_least (by show 0 < 5; decide))) (as_loc (i := 34) rfl))⟩
noncomputable def exLaw_26 (w : World) (hB : Heap) : { W : T AFl // ∀ A L, ExecTo w hB (cxLaw A L) (nest (stm 15) 26) W } := ⟨_, fun A L =>
  (ex_if (te_cmp (ev_bin (ev_bin ev_int (ev_sub (ev_loc (i := 32) rfl) ev_int g_any) (o_mulG false)) (ev_call (ev_blt (v := .builtin "sum") rfl (nb_sum w) rfl) (li_cons (ev_meth (ev_cell (i := 33) rfl) li_nil (f_dict PySem.F.slot_dict_values PySem.F.type_dict_values) c_values) li_nil) c_sum) (o_addG false)) (ev_loc (i := 34) rfl) o_neG)
  (ex_one (ex_ret ev_bool))
  (exs_nil))⟩
noncomputable def exLaw_27 (w : World) (hB : Heap) : { W : T AFl // ∀ A L, ExecTo w hB (cxLaw A L) (nest (stm 15) 27) W } := ⟨_, fun A L =>
  (ex_if (te_cmp (ev_sub (ev_loc (i := 17) rfl) ev_int g_any) (ev_bin (ev_meth (ev_str []) (li_cons (ev_compz [4, 3] false (x := "name") (caps := [("leads", 4, L + 3), ("names", 3, L + 2)]) (compIs_mk rfl (by decide +kernel) ⟨⟨rfl, rfl, fun u_ => rfl⟩, ⟨⟨rfl, rfl, fun u_ => rfl⟩, trivial⟩⟩ (show (["name", "leads", "names"] : List Str).Nodup by decide +kernel)) (ev_loc (i := 31) rfl) (itp_of it_gen) (fun C => (ev_sub (ev_capt (x := "leads") (i := 1) rfl) (ev_meth (ev_capt (x := "names") (i := 2) rfl) (li_cons (ev_loc (i := 0) rfl) li_nil) f_find c_find) g_any))) li_nil) f_join c_join) (ev_loc (i := 31) rfl) (o_addG false)) o_neG)
  (ex_one (ex_ret ev_bool))
  (exs_nil))⟩
noncomputable def exLaw_28 (w : World) (hB : Heap) : { W : T AFl // ∀ A L, ExecTo w hB (cxLaw A L) (nest (stm 15) 28) W } := ⟨_, fun A L =>
  (ex_if (te_cmp (ev_meth (ev_sub (ev_loc (i := 18) rfl) ev_int g_any) (li_cons (ev_call (ev_glob rfl (gl_Whitespace w)) (li_cons (ev_meth (ev_str []) (li_cons (ev_cell (i := 4) rfl) li_nil) f_join c_join) li_nil) (c_ws (by show 0 < 5; decide))) li_nil) (f_inst (C := 167) (chk := ["raw", "n", "nt", "norm", "is_simple"]) (ck_ws w) (by kernel_rfl) (by kernel_rfl) (by decide +kernel)) (c_equal (by show 0 < 5; decide))) ev_bool o_isnot)
  (ex_one (ex_ret ev_bool))
  (exs_nil))⟩
noncomputable def exLaw_29 (w : World) (hB : Heap) : { W : T AFl // ∀ A L, ExecTo w hB (cxLaw A L) (nest (stm 15) 29) W } := ⟨_, fun A L =>
  (ex_if (te_or3 (te_cmp (ev_sub (ev_loc (i := 17) rfl) ev_int g_any) (ev_str []) o_neG) (te_cmp (ev_meth (ev_sub (ev_loc (i := 16) rfl) ev_int g_any) li_nil (f_inst (C := 59) (chk := ["lineno", "instream", "whitespace", "pushback"]) (ck_lex w) (by kernel_rfl) (by kernel_rfl) (by decide +kernel)) (c_tok (by show 2 < 5; decide))) (ev_str []) o_neG) (te_cmp (ev_meth (ev_sub (ev_loc (i := 16) rfl) ev_int g_any) li_nil (f_inst (C := 59) (chk := ["lineno", "instream", "whitespace", "pushback"]) (ck_lex w) (by kernel_rfl) (by kernel_rfl) (by decide +kernel)) (c_tok (by show 2 < 5; decide))) (ev_str []) o_neG))
  (ex_one (ex_ret ev_bool))
  (exs_nil))⟩
noncomputable def exLaw_30 (w : World) (hB : Heap) : { W : T AFl // ∀ A L, ExecTo w hB (cxLaw A L) (nest (stm 15) 30) W } := ⟨_, fun A L =>
  (ex_ret (ev_cmp (ev_attr (ev_sub (ev_loc (i := 16) rfl) ev_int g_any) (o_attr (C := 59) (chk := ["lineno", "instream", "whitespace", "pushback"]) (i := 0) (ck_lex w) (by kernel_rfl) (by decide +kernel) true)) (ev_bin (ev_meth (ev_loc (i := 15) rfl) (li_cons (ev_str [10]) li_nil) f_count c_count) ev_int (o_addG false)) o_eqG))⟩
noncomputable def exLaw (w : World) (hB : Heap) : { W : T AFl // ∀ A L, ExecsTo w hB (cxLaw A L) (dBody (stm 15)) W } := ⟨_, fun A L =>
  exs_cons ((exLaw_0 w hB).2 A L) <|
  exs_cons ((exLaw_1 w hB).2 A L) <|
  exs_cons ((exLaw_2 w hB).2 A L) <|
  exs_cons ((exLaw_3 w hB).2 A L) <|
  exs_cons ((exLaw_4 w hB).2 A L) <|
  exs_cons ((exLaw_5 w hB).2 A L) <|
  exs_cons ((exLaw_6 w hB).2 A L) <|
  exs_cons ((exLaw_7 w hB).2 A L) <|
  exs_cons ((exLaw_8 w hB).2 A L) <|
  exs_cons ((exLaw_9 w hB).2 A L) <|
  exs_cons ((exLaw_10 w hB).2 A L) <|
  exs_cons ((exLaw_11 w hB).2 A L) <|
  exs_cons ((exLaw_12 w hB).2 A L) <|
  exs_cons ((exLaw_13 w hB).2 A L) <|
  exs_cons ((exLaw_14 w hB).2 A L) <|
  exs_cons ((exLaw_15 w hB).2 A L) <|
  exs_cons ((exLaw_16 w hB).2 A L) <|
  exs_cons ((exLaw_17 w hB).2 A L) <|
  exs_cons ((exLaw_18 w hB).2 A L) <|
  exs_cons ((exLaw_19 w hB).2 A L) <|
  exs_cons ((exLaw_20 w hB).2 A L) <|
  exs_cons ((exLaw_21 w hB).2 A L) <|
  exs_cons ((exLaw_22 w hB).2 A L) <|
  exs_cons ((exLaw_23 w hB).2 A L) <|
  exs_cons ((exLaw_24 w hB).2 A L) <|
  exs_cons ((exLaw_25 w hB).2 A L) <|
  exs_cons ((exLaw_26 w hB).2 A L) <|
  exs_cons ((exLaw_27 w hB).2 A L) <|
  exs_cons ((exLaw_28 w hB).2 A L) <|
  exs_cons ((exLaw_29 w hB).2 A L) <|
  ex_one ((exLaw_30 w hB).2 A L)⟩

noncomputable def ldC (ps : List Nat) : Cs := ps.flatMap fun b => List.replicate b 32 ++ [9]
noncomputable def NoBl (y : Cs) : Prop := ∀ d y', y = d :: y' → d ≠ 32 ∧ d ≠ 9
theorem wsR_bl : ∀ (b : Nat) (y : Cs) (c : List Int) (b0 n t : Nat), wsR (List.replicate b 32 ++ y) c b0 n t = wsR y c (b0 + b) (n + b) t
  | 0, y, c, b0, n, t => by simp
  | b + 1, y, c, b0, n, t => by
    rw [List.replicate_succ, List.cons_append, wsR, if_pos rfl, wsR_bl b y c (b0 + 1) (n + 1) t]
    congr 1 <;> omega
theorem wsR_ld : ∀ (ps : List Nat) (y : Cs) (c : List Int) (n t : Nat), NoBl y → wsR (ldC ps ++ y) c 0 n t = (ps.foldl bump c, 0, n + (ldC ps).length, t + ps.length)
  | [], y, c, n, t, h => by
    show wsR y c 0 n t = (c, 0, n + 0, t + 0)
    cases y with
    | nil => rfl
    | cons d y =>
      obtain ⟨h1, h2⟩ := h d y rfl
      rw [wsR, if_neg h1, if_neg h2]
      rfl
  | b :: ps, y, c, n, t, h => by
    have e : ldC (b :: ps) ++ y = List.replicate b 32 ++ (9 :: (ldC ps ++ y)) := by simp [ldC]
    rw [e, wsR_bl, wsR, if_neg (by decide), if_pos rfl, Nat.zero_add, wsR_ld ps y _ _ _ h]
    have el : (ldC (b :: ps)).length = b + 1 + (ldC ps).length := by simp [ldC]; omega
    simp only [List.foldl_cons, List.length_cons, el]
    congr 2
    congr 1 <;> omega
theorem ilF_append (ts : Int) : ∀ (c d : List Int) (i : Int), ilF ts i (c ++ d) = ilF ts i c + ilF ts (i + c.length) d
  | [], d, i => by simp [ilF]
  | v :: c, d, i => by
    simp only [List.cons_append, ilF, ilF_append ts c d (i + 1), List.length_cons]
    have e : i + 1 + (c.length : Int) = i + ((c.length + 1 : Nat) : Int) := by omega
    rw [e]; omega
theorem ilF_zero (ts : Int) : ∀ (n : Nat) (i : Int), ilF ts i (List.replicate n 0) = 0
  | 0, w1_ => rfl
  | n + 1, i => by simp only [List.replicate_succ, ilF, ilF_zero ts n]; omega
theorem ilF_modify (ts : Int) : ∀ (c : List Int) (b : Nat) (i : Int), b < c.length → ilF ts i (c.modify b (· + 1)) = ilF ts i c + (i + b) / ts
  | [], b, i, h => by simp at h
  | v :: c, 0, i, w1_ => by
    simp only [List.modify_zero_cons, ilF, Int.mul_add]
    simp
    omega
  | v :: c, b + 1, i, h => by
    simp only [List.modify_succ_cons, ilF]
    rw [ilF_modify ts c b (i + 1) (by simpa using h)]
    have e : i + 1 + (b : Int) = i + ((b + 1 : Nat) : Int) := by omega
    rw [e]; omega
set_option tactic.hygienic true in
theorem ilF_bump (ts : Int) (c : List Int) (b : Nat) : ilF ts 0 (bump c b) = ilF ts 0 c + (b : Int) / ts := by
  unfold bump
  split
  · rename_i h
    rw [ilF_modify _ _ _ _ (by simp; omega), ilF_append, ilF_zero]
    simp
  · rename_i h
    rw [ilF_modify _ _ _ _ (by omega)]
    simp
theorem ilF_low (ts : Nat) (hts : 1 ≤ ts) : ∀ (c : List Int) (i : Nat), i + c.length ≤ ts → ilF ts i c = 0
  | [], w1_, w2_ => rfl
  | v :: c, i, h => by
    simp only [List.length_cons] at h
    have e : (i : Int) / (ts : Int) = 0 := Int.ediv_eq_zero_of_lt (by omega) (by omega)
    have ih := ilF_low ts hts c (i + 1) (by omega)
    have e2 : ((i + 1 : Nat) : Int) = (i : Int) + 1 := by omega
    rw [e2] at ih
    simp only [ilF, e, ih]
    omega
theorem ilF_drop (ts : Nat) (hts : 1 ≤ ts) (c : List Int) : ilF ts ts (c.drop ts) = ilF ts 0 c := by
  have h := ilF_append ts (c.take ts) (c.drop ts) 0
  rw [List.take_append_drop] at h
  have h0 := ilF_low ts hts (c.take ts) 0 (by rw [List.length_take]; omega)
  rw [show ((0 : Nat) : Int) = 0 from rfl] at h0
  rw [h, h0]
  rcases Nat.lt_or_ge ts c.length with q | q
  · have e : (c.take ts).length = ts := by rw [List.length_take]; omega
    rw [e]; simp
  · rw [List.drop_of_length_le q]; simp [ilF]
noncomputable def colP (ts : Nat) (ps : List Nat) : Int := (ps.map fun (b : Nat) => (ts : Int) * ((b : Int) / ts + 1)).sum
theorem ilF_fold (ts : Int) : ∀ (ps : List Nat) (c : List Int), ilF ts 0 (ps.foldl bump c) = ilF ts 0 c + (ps.map fun (b : Nat) => (b : Int) / ts).sum
  | [], c => by simp
  | b :: ps, c => by
    simp only [List.foldl_cons, List.map_cons, List.sum_cons]
    rw [ilF_fold ts ps, ilF_bump]; omega
theorem sum_col (ts : Int) : ∀ ps : List Nat, (ps.map fun (b : Nat) => ts * ((b : Int) / ts + 1)).sum = ts * ((ps.map fun (b : Nat) => (b : Int) / ts).sum + ps.length)
  | [] => by simp
  | b :: ps => by
    simp only [List.map_cons, List.sum_cons, sum_col ts ps, List.length_cons, Int.natCast_add]
    rw [← Int.mul_add]
    congr 1
    omega
theorem lvl_ld (ts : Nat) (hts : 1 ≤ ts) (ps : List Nat) (y : Cs) (h : NoBl y) : lvl ts (ldC ps ++ y) = colP ts ps := by
  unfold lvl lvlR
  rw [wsR_ld ps y [] 0 0 h]
  dsimp only
  rw [Int.toNat_natCast, ilF_drop ts hts, ilF_fold]
  unfold colP
  rw [sum_col]
  simp [ilF]
theorem colS_bl (n : Int) : ∀ (b : Nat) (c : Int), (List.replicate b 32).foldl (colS n) c = c + b
  | 0, c => by simp
  | b + 1, c => by
    rw [List.replicate_succ, List.foldl_cons, colS_bl n b]
    simp only [colS]
    rw [if_neg (by decide)]
    omega
theorem col_fold (ts : Nat) (hts : 1 ≤ ts) : ∀ (ps : List Nat) (m : Int), (ldC ps).foldl (colS ts) (ts * m) = ts * m + colP ts ps
  | [], m => by simp [ldC, colP]
  | b :: ps, m => by
    have e : ldC (b :: ps) = List.replicate b 32 ++ (9 :: ldC ps) := by simp [ldC]
    rw [e, List.foldl_append, List.foldl_cons, colS_bl]
    have e2 : colS ts (ts * m + b) 9 = ts * (m + ((b : Int) / ts + 1)) := by
      simp only [colS, if_true]
      have hq := Int.emod_add_mul_ediv ((ts : Int) * m + b) ts
      rw [Int.add_comm ((ts : Int) * m) b, Int.add_mul_ediv_left _ _ (by omega)] at hq
      rw [Int.add_comm ((ts : Int) * m) b]
      rw [Int.mul_add, Int.mul_add, Int.mul_one]
      rw [Int.mul_add] at hq
      omega
    rw [e2, col_fold ts hts ps]
    have e3 : colP ts (b :: ps) = (ts : Int) * ((b : Int) / ts + 1) + colP ts ps := by simp [colP]
    rw [e3, Int.mul_add]; omega
theorem colN_ld (ts : Nat) (hts : 1 ≤ ts) (ps : List Nat) : colN ts (ldC ps) = colP ts ps := by
  have := col_fold ts hts ps 0
  rw [Int.mul_zero] at this
  unfold colN
  rw [this]; omega
theorem colP_append (ts : Nat) (a b : List Nat) : colP ts (a ++ b) = colP ts a + colP ts b := by simp [colP]
theorem ldC_append (a b : List Nat) : ldC (a ++ b) = ldC a ++ ldC b := by simp [ldC]
theorem colP_pos (ts : Nat) (hts : 1 ≤ ts) : ∀ ps : List Nat, ps ≠ [] → 1 ≤ colP ts ps
  | [], h => absurd rfl h
  | b :: ps, w1_ => by
    have e3 : colP ts (b :: ps) = (ts : Int) * ((b : Int) / ts + 1) + colP ts ps := by simp [colP]
    have h1 : 0 ≤ (b : Int) / ts := Int.ediv_nonneg (by omega) (by omega)
    have h2 : 1 ≤ (ts : Int) * ((b : Int) / ts + 1) := by
      have := Int.mul_pos (a := (ts : Int)) (b := (b : Int) / ts + 1) (by omega) (by omega)
      omega
    have h3 : 0 ≤ colP ts ps := by
      cases ps with
      | nil => simp [colP]
      | cons a r => have := colP_pos ts hts (a :: r) (by simp); omega
    omega
set_option tactic.hygienic true in
theorem bump_get (c : List Int) (b i : Nat) : (bump c b)[i]? = if i < max c.length (b + 1) then some (c.getD i 0 + if i = b then 1 else 0) else none := by
  unfold bump
  split
  · rename_i h
    rw [List.getElem?_modify]
    by_cases hi : i < c.length
    · rw [List.getElem?_append_left hi, if_pos (by omega)]
      have : ¬ b = i := by omega
      have : ¬ i = b := by omega
      simp [hi, *]
    · rw [List.getElem?_append_right (by omega), List.getElem?_replicate]
      by_cases hb : i < b + 1
      · rw [if_pos (by omega), if_pos (by omega)]
        have e : c.getD i 0 = 0 := by simp [List.getD_eq_getElem?_getD, hi]
        rw [e]
        by_cases e2 : b = i
        · subst e2; simp
        · have : ¬ i = b := fun q => e2 q.symm
          simp [e2, this]
      · rw [if_neg (by omega), if_neg (by omega)]; rfl
  · rename_i h
    rw [List.getElem?_modify]
    by_cases hi : i < c.length
    · rw [if_pos (by omega)]
      by_cases e2 : b = i
      · subst e2; simp [hi]
      · have : ¬ i = b := fun q => e2 q.symm
        simp [hi, e2, this]
    · rw [if_neg (by omega)]
      simp [hi]
set_option tactic.hygienic true in
theorem bump_getD (c : List Int) (b i : Nat) : (bump c b).getD i 0 = c.getD i 0 + if i = b then 1 else 0 := by
  rw [List.getD_eq_getElem?_getD, bump_get]
  split
  · rfl
  · rename_i h
    have h1 : ¬ i < c.length := by omega
    have h2 : ¬ i = b := by omega
    simp [List.getD_eq_getElem?_getD, h1, h2]
theorem bump_comm (c : List Int) (a b : Nat) : bump (bump c a) b = bump (bump c b) a := by
  apply List.ext_getElem?
  intro i
  rw [bump_get, bump_get, bump_len, bump_len, bump_getD, bump_getD]
  rw [Nat.max_assoc, Nat.max_comm (a + 1), ← Nat.max_assoc]
  split
  · exact congrArg some (Int.add_right_comm _ _ _)
  · rfl
theorem foldl_bump {ps qs : List Nat} (h : ps.Perm qs) : ∀ c, ps.foldl bump c = qs.foldl bump c := by
  induction h with
  | nil => exact fun u_ => rfl
  | cons x w1_ ih => exact fun c => ih (bump c x)
  | swap x y l => intro c; simp only [List.foldl_cons]; rw [bump_comm]
  | trans w1_ w2_ h1 h2 => exact fun c => (h1 c).trans (h2 c)
noncomputable def psR : Nat → Int → List Nat
  | 0, w1_ => []
  | n + 1, r => (r % 3).toNat :: psR n (r / 3)
theorem leadR_ld : ∀ (n : Nat) (r : Int), leadR n r = ldC (psR n r)
  | 0, w1_ => rfl
  | n + 1, r => by
    rw [leadR, leadR_ld n, psR]
    simp [ldC]
theorem psR_le : ∀ (n : Nat) (r : Int), ∀ b ∈ psR n r, b ≤ 2
  | 0, w1_, b, h => by simp [psR] at h
  | n + 1, r, b, h => by
    rw [psR] at h
    rcases List.mem_cons.mp h with rfl | h
    · have := Int.emod_lt_of_pos r (show (0 : Int) < 3 by decide)
      have := Int.emod_nonneg r (show (3 : Int) ≠ 0 by decide)
      omega
    · exact psR_le n _ b h
theorem psR_len : ∀ (n : Nat) (r : Int), (psR n r).length = n
  | 0, w1_ => rfl
  | n + 1, r => by rw [psR, List.length_cons, psR_len]
noncomputable def psN (z : Int) : List Nat := psR (1 + z % 4).toNat (z / 4)
theorem leadN_ld (z : Int) : leadN z = ldC (psN z) := leadR_ld _ _
theorem psN_len (z : Int) : 1 ≤ (psN z).length ∧ (psN z).length ≤ 4 := by
  unfold psN
  rw [psR_len]
  have h4 := Int.emod_nonneg z (show (4 : Int) ≠ 0 by decide)
  have h4' := Int.emod_lt_of_pos z (show (0 : Int) < 4 by decide)
  omega
theorem ldC_len : ∀ ps : List Nat, (∀ b ∈ ps, b ≤ 2) → (ldC ps).length ≤ 3 * ps.length
  | [], w1_ => by simp [ldC]
  | b :: ps, h => by
    have el : (ldC (b :: ps)).length = b + 1 + (ldC ps).length := by simp [ldC]; omega
    have := ldC_len ps fun x hx => h x (List.mem_cons_of_mem _ hx)
    have := h b (by simp)
    rw [el, List.length_cons]; omega
theorem ldC_mem : ∀ (ps : List Nat) (d : Nat), d ∈ ldC ps → d = 32 ∨ d = 9
  | [], d, h => by simp [ldC] at h
  | b :: ps, d, h => by
    have e : ldC (b :: ps) = List.replicate b 32 ++ (9 :: ldC ps) := by simp [ldC]
    rw [e] at h
    rcases List.mem_append.mp h with h | h
    · exact .inl (List.eq_of_mem_replicate h)
    · rcases List.mem_cons.mp h with h | h
      · exact .inr h
      · exact ldC_mem ps d h
inductive LT where
  | leaf (d : Nat)
  | node (l r : LT)
namespace LT
noncomputable def nm : LT → Cs
  | leaf d => [d]
  | node l r => l.nm ++ r.nm
noncomputable def dp : LT → List Int
  | leaf w1_ => [0]
  | node l r => (l.dp ++ r.dp).map (· + 1)
noncomputable def tc (cf : Nat → Int) (t : LT) : Int := (t.nm.map cf).sum
noncomputable def pr (cf : Nat → Int) : LT → Int
  | leaf w1_ => 0
  | node l r => l.pr cf + r.pr cf + (l.tc cf + r.tc cf)
noncomputable def wt (cf : Nat → Int) (t : LT) : Int := 1000 * t.tc cf + t.nm.length
noncomputable def cost (cf : Nat → Int) (t : LT) : Int := 1000 * t.pr cf + t.dp.sum
theorem dp_len : ∀ t : LT, t.dp.length = t.nm.length
  | leaf w1_ => rfl
  | node l r => by simp [dp, nm, dp_len l, dp_len r]
theorem nm_pos : ∀ t : LT, 1 ≤ t.nm.length
  | leaf w1_ => Nat.le_refl _
  | node l r => by have := nm_pos l; simp [nm]; omega
theorem tc_node (cf : Nat → Int) (l r : LT) : (node l r).tc cf = l.tc cf + r.tc cf := by simp [tc, nm]
theorem wt_node (cf : Nat → Int) (l r : LT) : (node l r).wt cf = l.wt cf + r.wt cf := by
  unfold wt
  rw [tc_node]
  simp only [nm, List.length_append, Int.natCast_add, Int.mul_add]
  omega
theorem sum_succ : ∀ l : List Int, (l.map (· + 1)).sum = l.sum + l.length
  | [] => rfl
  | a :: l => by simp only [List.map_cons, List.sum_cons, sum_succ l, List.length_cons, Int.natCast_add]; omega
theorem cost_node (cf : Nat → Int) (l r : LT) : (node l r).cost cf = l.cost cf + r.cost cf + (l.wt cf + r.wt cf) := by
  unfold cost wt
  simp only [pr, dp, sum_succ, List.sum_append, List.length_append, dp_len, Int.natCast_add, Int.mul_add]
  omega
theorem pr_eq (cf : Nat → Int) : ∀ t : LT, (List.zipWith (· * ·) t.dp (t.nm.map cf)).sum = t.pr cf
  | leaf d => by simp [dp, nm, pr]
  | node l r => by
    have z1 : ∀ (a : List Int) (b : List Int), a.length = b.length → (List.zipWith (· * ·) (a.map (· + 1)) b).sum = (List.zipWith (· * ·) a b).sum + b.sum := by
      intro a
      induction a with
      | nil => intro b h; cases b with | nil => rfl | cons _ _ => simp at h
      | cons x a ih =>
        intro b h
        cases b with
        | nil => simp at h
        | cons y b =>
          simp only [List.map_cons, List.zipWith_cons_cons, List.sum_cons, ih b (by simpa using h), Int.add_mul]
          omega
    simp only [dp, nm, pr, List.map_append]
    rw [← List.map_append, z1 _ _ (by simp [dp_len]), List.zipWith_append (by simp [dp_len]), List.sum_append, pr_eq cf l, pr_eq cf r, List.sum_append]
    rfl
theorem dp_le : ∀ t : LT, ∀ d ∈ t.dp, 0 ≤ d ∧ d + 1 ≤ t.nm.length
  | leaf w1_, d, h => by simp [dp] at h; subst h; simp [nm]
  | node l r, d, h => by
    simp only [dp, List.mem_map, List.mem_append] at h
    obtain ⟨e, h, rfl⟩ := h
    have h1 := nm_pos l
    have h2 := nm_pos r
    simp only [nm, List.length_append]
    rcases h with h | h
    · have := dp_le l e h; omega
    · have := dp_le r e h; omega
theorem kraft : ∀ (t : LT) (N : Nat), t.nm.length ≤ N + 1 → (t.dp.map fun d => (2 : Int) ^ ((N : Int) - d).toNat).sum = 2 ^ N
  | leaf w1_, N, w2_ => by simp [dp]
  | node l r, N, h => by
    have h1 := nm_pos l
    have h2 := nm_pos r
    simp only [nm, List.length_append] at h
    obtain ⟨M, rfl⟩ : ∃ M, N = M + 1 := ⟨N - 1, by omega⟩
    have e : ((l.dp ++ r.dp).map (· + 1)).map (fun d => (2 : Int) ^ (((M + 1 : Nat) : Int) - d).toNat) = (l.dp ++ r.dp).map fun d => (2 : Int) ^ ((M : Int) - d).toNat := by
      rw [List.map_map]
      apply List.map_congr_left
      intro d _
      simp only [Function.comp_apply]
      congr 2
      omega
    rw [dp, e, List.map_append, List.sum_append, kraft l M (by omega), kraft r M (by omega)]
    rw [show (2 : Int) ^ (M + 1) = 2 ^ M * 2 from Int.pow_succ 2 M]
    omega
end LT

noncomputable def pickQ (cf : Nat → Int) : List LT → List LT → Option (Bool × LT × List LT × List LT)
  | [], [] => none
  | [], u :: q2 => some (true, u, [], q2)
  | t :: q1, [] => some (false, t, q1, [])
  | t :: q1, u :: q2 => if u.tc cf < t.tc cf then some (true, u, t :: q1, q2) else some (false, t, q1, u :: q2)
structure Lns (cf : Nat → Int) (q1 q2 : List LT) : Prop where
  s1 : q1.Pairwise fun a b => a.wt cf ≤ b.wt cf
  s2 : q2.Pairwise fun a b => a.wt cf ≤ b.wt cf
  one : ∀ t ∈ q1, t.nm.length = 1
  two : ∀ t ∈ q2, 2 ≤ t.nm.length
  few : ∀ t ∈ q2, t.nm.length ≤ 100
section
variable {cf : Nat → Int}
set_option tactic.hygienic true in
theorem pick_ok {q1 q2 q1' q2' : List LT} {b : Bool} {t : LT} (h : Lns cf q1 q2) (hp : pickQ cf q1 q2 = some (b, t, q1', q2')) :
    (q1 ++ q2).Perm (t :: (q1' ++ q2')) ∧ (∀ u ∈ q1' ++ q2', t.wt cf ≤ u.wt cf) ∧ Lns cf q1' q2' := by
  match q1, q2, h, hp with
  | [], [], w1_, hp => cases hp
  | [], u :: q2, h, hp =>
    cases hp
    have s2 := List.pairwise_cons.mp h.s2
    exact ⟨by simp, fun v hv => s2.1 v (by simpa using hv), ⟨List.Pairwise.nil, s2.2, fun u_ hv => by simp at hv, fun v hv => h.two v (List.mem_cons_of_mem _ hv), fun v hv => h.few v (List.mem_cons_of_mem _ hv)⟩⟩
  | t :: q1, [], h, hp =>
    cases hp
    have s1 := List.pairwise_cons.mp h.s1
    exact ⟨by simp, fun v hv => s1.1 v (by simpa using hv), ⟨s1.2, List.Pairwise.nil, fun v hv => h.one v (List.mem_cons_of_mem _ hv), fun u_ hv => by simp at hv, fun u_ hv => by simp at hv⟩⟩
  | t0 :: q1, u :: q2, h, hp =>
    have s1 := List.pairwise_cons.mp h.s1
    have s2 := List.pairwise_cons.mp h.s2
    have o1 := h.one t0 (by simp)
    have o2 := h.two u (by simp)
    have o3 := h.few u (by simp)
    have w1 : t0.wt cf = 1000 * t0.tc cf + 1 := by unfold LT.wt; rw [o1]; rfl
    have w2 : u.wt cf = 1000 * u.tc cf + (u.nm.length : Int) := rfl
    simp only [pickQ] at hp
    split at hp
    · rename_i hlt
      cases hp
      refine ⟨List.perm_middle, fun v hv => ?_, ⟨h.s1, s2.2, h.one, fun v hv => h.two v (List.mem_cons_of_mem _ hv), fun v hv => h.few v (List.mem_cons_of_mem _ hv)⟩⟩
      rcases List.mem_append.mp hv with hv | hv
      · rcases List.mem_cons.mp hv with rfl | hv
        · omega
        · have := s1.1 v hv; omega
      · exact s2.1 v hv
    · rename_i hge
      cases hp
      refine ⟨by simp, fun v hv => ?_, ⟨s1.2, h.s2, fun v hv => h.one v (List.mem_cons_of_mem _ hv), h.two, h.few⟩⟩
      rcases List.mem_append.mp hv with hv | hv
      · exact s1.1 v hv
      · rcases List.mem_cons.mp hv with rfl | hv
        · omega
        · have := s2.1 v hv; omega
theorem pick_some {q1 q2 : List LT} (h : q1 ++ q2 ≠ []) : ∃ b t q1' q2', pickQ cf q1 q2 = some (b, t, q1', q2') := by
  match q1, q2, h with
  | [], [], h => exact absurd rfl h
  | [], u :: q2, w1_ => exact ⟨_, _, _, _, rfl⟩
  | t :: q1, [], w1_ => exact ⟨_, _, _, _, rfl⟩
  | t :: q1, u :: q2, w1_ =>
    simp only [pickQ]
    split
    · exact ⟨_, _, _, _, rfl⟩
    · exact ⟨_, _, _, _, rfl⟩
noncomputable def Mu (cf : Nat → Int) (q1 q2 : List LT) : Prop := ∃ μ : Int, (∀ t ∈ q1 ++ q2, μ ≤ t.wt cf) ∧ ∀ t ∈ q2, t.wt cf ≤ 2 * μ
theorem step_ok {q1 q2 p1 p2 r1 r2 : List LT} {a b : LT} {x y : Bool} (h : Lns cf q1 q2) (hm : Mu cf q1 q2) (hpos : ∀ t ∈ q1 ++ q2, 0 ≤ t.wt cf) (ha : pickQ cf q1 q2 = some (x, a, p1, p2)) (hb : pickQ cf p1 p2 = some (y, b, r1, r2)) (hf : (LT.node a b).nm.length ≤ 100) :
    (q1 ++ q2).Perm (a :: b :: (r1 ++ r2)) ∧ a.wt cf ≤ b.wt cf ∧ (∀ u ∈ r1 ++ r2, b.wt cf ≤ u.wt cf) ∧ Lns cf r1 (r2 ++ [.node a b]) ∧ Mu cf r1 (r2 ++ [.node a b]) ∧ (q1 ++ q2).Perm (a :: b :: (r1 ++ r2)) := by
  obtain ⟨e1, m1, l1⟩ := pick_ok h ha
  obtain ⟨e2, m2, l2⟩ := pick_ok l1 hb
  have e : (q1 ++ q2).Perm (a :: b :: (r1 ++ r2)) := e1.trans (e2.cons a)
  have hab : a.wt cf ≤ b.wt cf := m1 b (e2.mem_iff.mpr (by simp))
  obtain ⟨μ, u1, u2⟩ := hm
  have hμa : μ ≤ a.wt cf := u1 a (e.mem_iff.mpr (by simp))
  have hμb : μ ≤ b.wt cf := u1 b (e.mem_iff.mpr (by simp))
  have ha0 := hpos a (e.mem_iff.mpr (by simp))
  -- what is left of the second line was in it
  have sub2 : ∀ t ∈ r2, t ∈ q2 := by
    have one : ∀ {q1 q2 p1 p2 : List LT} {x : Bool} {a : LT}, pickQ cf q1 q2 = some (x, a, p1, p2) → ∀ t ∈ p2, t ∈ q2 := by
      intro q1 q2 p1 p2 x a hp t ht
      match q1, q2, hp with
      | [], [], hp => cases hp
      | [], u :: q2, hp => cases hp; exact List.mem_cons_of_mem _ ht
      | v :: q1, [], hp => cases hp; exact ht
      | v :: q1, u :: q2, hp =>
        simp only [pickQ] at hp
        split at hp
        · cases hp; exact List.mem_cons_of_mem _ ht
        · cases hp; exact ht
    exact fun t ht => one ha t (one hb t ht)
  have wn : (LT.node a b).wt cf = a.wt cf + b.wt cf := LT.wt_node cf a b
  have na := LT.nm_pos a
  have nb := LT.nm_pos b
  refine ⟨e, hab, m2, ⟨l2.s1, ?_, l2.one, fun t ht => ?_, fun t ht => ?_⟩, ⟨b.wt cf, fun t ht => ?_, fun t ht => ?_⟩, e⟩
  · rw [List.pairwise_append]
    refine ⟨l2.s2, by simp, fun t ht u hu => ?_⟩
    simp at hu
    subst hu
    have := u2 t (sub2 t ht)
    rw [wn]; omega
  · rcases List.mem_append.mp ht with ht | ht
    · exact l2.two t ht
    · simp at ht; subst ht; simp [LT.nm]; omega
  · rcases List.mem_append.mp ht with ht | ht
    · exact l2.few t ht
    · simp at ht; subst ht; exact hf
  · rcases List.mem_append.mp ht with ht | ht
    · exact m2 t (List.mem_append_left _ ht)
    · rcases List.mem_append.mp ht with ht | ht
      · exact m2 t (List.mem_append_right _ ht)
      · simp at ht; subst ht; rw [wn]; omega
  · rcases List.mem_append.mp ht with ht | ht
    · have := u2 t (sub2 t ht); omega
    · simp at ht; subst ht; rw [wn]; omega
theorem perm_sum {l l' : List Int} (h : l.Perm l') : l.sum = l'.sum := by
  induction h with
  | nil => rfl
  | cons x w1_ ih => simp only [List.sum_cons, ih]
  | swap x y l => simp only [List.sum_cons]; omega
  | trans w1_ w2_ h1 h2 => exact h1.trans h2
theorem Huf.perm {l l' : List Int} {v : Int} (h : Huf l v) (hp : l'.Perm l) : Huf l' v := by
  cases h with
  | one a => rw [List.perm_singleton.mp hp]; exact .one a
  | step h1 h2 h3 h4 => exact .step (hp.trans h1) h2 h3 h4
noncomputable def HInv (cf : Nat → Int) (l0 : List Int) (q : List LT) : Prop := ∀ v, Huf (q.map (LT.wt cf)) v → Huf l0 (v + (q.map (LT.cost cf)).sum)
theorem HInv.step {l0 : List Int} {q r : List LT} {a b : LT} (h : HInv cf l0 q) (hp : q.Perm (a :: b :: r)) (hab : a.wt cf ≤ b.wt cf) (hr : ∀ u ∈ r, b.wt cf ≤ u.wt cf) {q' : List LT} (hq' : q'.Perm (.node a b :: r)) : HInv cf l0 q' := by
  intro v hv
  have h1 : Huf ((a.wt cf + b.wt cf) :: r.map (LT.wt cf)) v := hv.perm (by
    have := (hq'.map (LT.wt cf)).symm
    simp only [List.map_cons, LT.wt_node] at this
    exact this)
  have h2 : Huf (q.map (LT.wt cf)) (a.wt cf + b.wt cf + v) := by
    refine .step (rest := r.map (LT.wt cf)) ?_ hab (fun x hx => ?_) h1
    · simpa using hp.map (LT.wt cf)
    · obtain ⟨u, hu, rfl⟩ := List.mem_map.mp hx
      exact hr u hu
  have h3 := h _ h2
  have s1 : (q.map (LT.cost cf)).sum = a.cost cf + (b.cost cf + (r.map (LT.cost cf)).sum) := by
    have := perm_sum (hp.map (LT.cost cf))
    simpa using this
  have s2 : (q'.map (LT.cost cf)).sum = (LT.node a b).cost cf + (r.map (LT.cost cf)).sum := by
    have := perm_sum (hq'.map (LT.cost cf))
    simpa using this
  rw [s2, LT.cost_node]
  rw [s1] at h3
  have e : a.wt cf + b.wt cf + v + (a.cost cf + (b.cost cf + (r.map (LT.cost cf)).sum)) = v + (a.cost cf + b.cost cf + (a.wt cf + b.wt cf) + (r.map (LT.cost cf)).sum) := by omega
  rw [← e]
  exact h3
theorem sorted_two {st : List Int} {x y : Int} {r : List Int} (hs : st.Pairwise (· ≤ ·)) (hp : st.Perm (x :: y :: r)) (hxy : x ≤ y) (hr : ∀ z ∈ r, y ≤ z) : ∃ st', st = x :: y :: st' ∧ st'.Perm r := by
  have head : ∀ {st : List Int} {x : Int} {r : List Int}, st.Pairwise (· ≤ ·) → st.Perm (x :: r) → (∀ z ∈ r, x ≤ z) → ∃ st', st = x :: st' ∧ st'.Perm r := by
    intro st x r hs hp hr
    cases st with
    | nil => have := hp.length_eq; simp at this
    | cons s st =>
      have h1 : x ∈ s :: st := hp.mem_iff.mpr (by simp)
      have h2 : s ∈ x :: r := hp.mem_iff.mp (by simp)
      have hs' := List.pairwise_cons.mp hs
      have e : s = x := by
        have a1 : s ≤ x := by
          rcases List.mem_cons.mp h1 with rfl | h
          · exact Int.le_refl _
          · exact hs'.1 x h
        have a2 : x ≤ s := by
          rcases List.mem_cons.mp h2 with rfl | h
          · exact Int.le_refl _
          · exact hr s h
        omega
      subst e
      exact ⟨st, rfl, hp.cons_inv⟩
  obtain ⟨st1, rfl, h1⟩ := head hs hp fun z hz => by
    rcases List.mem_cons.mp hz with rfl | hz
    · exact hxy
    · exact Int.le_trans hxy (hr z hz)
  obtain ⟨st2, rfl, h2⟩ := head (List.pairwise_cons.mp hs).2 h1 hr
  exact ⟨st2, rfl, h2⟩
theorem tc_of_wt {a b : LT} (h : a.wt cf ≤ b.wt cf) (hb : b.nm.length ≤ 100) : a.tc cf ≤ b.tc cf := by
  unfold LT.wt at h
  have := LT.nm_pos a
  omega
end
section
variable (ds : List Int) (ts : Nat)
noncomputable def lwP (d : Nat) : List Nat := psN (ds.getD (d - 97) 0)
noncomputable def lwL (d : Nat) : Cs := ldC (lwP ds d)
noncomputable def lwC (d : Nat) : Int := colP ts (lwP ds d)
noncomputable def ldT (t : LT) : Cs := t.nm.flatMap (lwL ds)
noncomputable def wd (t : LT) : Cs := ldT ds t ++ t.nm
end
noncomputable def Ltr (t : LT) : Prop := ∀ d ∈ t.nm, 97 ≤ d ∧ d ≤ 103
noncomputable def wkK (t : LT) : List Cs := t.nm.map fun d => [d]
noncomputable def bkE (cf : Nat → Int) (t : LT) : SV := entV (t.nm.length - 1) t.nm.length (t.tc cf) (t.pr cf) (wkK t) t.dp
section
variable {ds : List Int} {ts : Nat}
theorem lwP_le (d : Nat) : ∀ b ∈ lwP ds d, b ≤ 2 := psR_le _ _
theorem lwP_len (d : Nat) : 1 ≤ (lwP ds d).length ∧ (lwP ds d).length ≤ 4 := psN_len _
theorem ldT_ld (t : LT) : ldT ds t = ldC (t.nm.flatMap (lwP ds)) := by
  unfold ldT
  induction t.nm with
  | nil => rfl
  | cons d l ih => simp only [List.flatMap_cons, ldC_append, ih]; rfl
theorem wd_eq (t : LT) : wd ds t = ldC (t.nm.flatMap (lwP ds)) ++ t.nm := by unfold wd; rw [ldT_ld]
theorem wd_ne (t : LT) : wd ds t ≠ [] := by
  have := LT.nm_pos t
  intro e
  have e2 := (List.append_eq_nil_iff.mp e).2
  rw [e2] at this
  simp at this
theorem Ltr.nobl {t : LT} (h : Ltr t) : NoBl t.nm := fun d y e => by
  have := h d (by rw [e]; simp)
  omega
theorem colP_flat (l : Cs) : colP ts (l.flatMap (lwP ds)) = (l.map (lwC ds ts)).sum := by
  induction l with
  | nil => rfl
  | cons d l ih => simp only [List.flatMap_cons, colP_append, List.map_cons, List.sum_cons, ih]; rfl
theorem wd_lvl (hts : 1 ≤ ts) {t : LT} (h : Ltr t) : lvl ts (wd ds t) = t.tc (lwC ds ts) := by
  rw [wd_eq, lvl_ld ts hts _ _ h.nobl, colP_flat]; rfl
theorem wd_wsR {t : LT} (h : Ltr t) : wsR (wd ds t) [] 0 0 0 = ((t.nm.flatMap (lwP ds)).foldl bump [], 0, (ldT ds t).length, (t.nm.flatMap (lwP ds)).length) := by
  rw [wd_eq, wsR_ld _ _ _ _ _ h.nobl, ldT_ld, Nat.zero_add, Nat.zero_add]
theorem bumps_len : ∀ (ps : List Nat) (c : List Int), (∀ b ∈ ps, b ≤ 2) → c.length ≤ 3 → (ps.foldl bump c).length ≤ 3
  | [], c, w1_, h => h
  | b :: ps, c, hb, h => by
    refine bumps_len ps _ (fun x hx => hb x (List.mem_cons_of_mem _ hx)) ?_
    rw [bump_len]
    have := hb b (by simp)
    omega
theorem wd_norm {t : LT} (h : Ltr t) : (wsR (wd ds t) [] 0 0 0).1.length ≤ 1000 := by
  rw [wd_wsR h]
  have := bumps_len (t.nm.flatMap (lwP ds)) [] (fun b hb => by
    obtain ⟨d, _, hd⟩ := List.mem_flatMap.mp hb
    exact lwP_le d b hd) (by simp)
  dsimp only
  omega
theorem flat_len (f : Nat → Cs) (m : Nat) (hf : ∀ d, (f d).length ≤ m) : ∀ l : Cs, (l.flatMap f).length ≤ m * l.length
  | [] => by simp
  | d :: l => by
    have := flat_len f m hf l
    have := hf d
    rw [List.flatMap_cons, List.length_append, List.length_cons, Nat.mul_add]
    omega
theorem lwL_len (d : Nat) : (lwL ds d).length ≤ 12 := by
  have := ldC_len (lwP ds d) (lwP_le d)
  have := (lwP_len (ds := ds) d).2
  unfold lwL; omega
theorem wd_len (t : LT) : (wd ds t).length ≤ 13 * t.nm.length := by
  have := flat_len (lwL ds) 12 (fun d => lwL_len d) t.nm
  unfold wd ldT
  rw [List.length_append]
  omega
theorem wd_take (t : LT) : (wd ds t).take (ldT ds t).length = ldT ds t := by unfold wd; simp
theorem wd_drop (t : LT) : (wd ds t).drop (ldT ds t).length = t.nm := by unfold wd; simp
theorem wd_node (a b : LT) : wd ds (.node a b) = ldT ds a ++ ldT ds b ++ a.nm ++ b.nm := by
  unfold wd ldT
  simp only [LT.nm, List.flatMap_append, List.append_assoc]
theorem wd_char {t : LT} (h : Ltr t) : ∀ d ∈ wd ds t, d ≠ 34 ∧ d ≠ 92 ∧ d ≠ 10 := fun d hd => by
  rw [wd_eq] at hd
  rcases List.mem_append.mp hd with hd | hd
  · have := ldC_mem _ d hd; omega
  · have := h d hd; omega
theorem lwC_pos (hts : 1 ≤ ts) (d : Nat) : 1 ≤ lwC ds ts d := colP_pos ts hts _ (fun e => by have := (lwP_len (ds := ds) d).1; rw [e] at this; simp at this)
theorem tc_pos (hts : 1 ≤ ts) (t : LT) : 0 ≤ t.tc (lwC ds ts) := by
  unfold LT.tc
  induction t.nm with
  | nil => simp
  | cons d l ih => simp only [List.map_cons, List.sum_cons]; have := lwC_pos (ds := ds) hts d; omega
theorem wt_pos (hts : 1 ≤ ts) (t : LT) : 0 ≤ t.wt (lwC ds ts) := by
  have := tc_pos (ds := ds) hts t
  unfold LT.wt; omega

variable (ds) in
noncomputable def hdW (q : List LT) : Cs := match q with | [] => [] | t :: _ => wd ds t
variable (ds) in
structure Ln1 (m : LT → Int) (x : Cs) (q : List LT) (a : Cs) (p : Nat) (ln : Int) : Prop where
  le : p ≤ x.length
  tl : ∃ sp, (∀ d ∈ sp, d ∈ wsC) ∧ x.drop p = sp ++ (q.tail.map fun t => writtenN (wd ds t) (m t)).flatten
  hd : a = hdW ds q
  ln : ln = 1 + (x.count 10 : Nat) - ((x.drop p).count 10 : Nat)
theorem writ_esc (x : Cs) : (x.map fun d => [92, d]).flatten = esc x := by
  unfold esc
  rw [List.flatMap_def]
theorem drop_rest {x pre rest : Cs} {p : Nat} (hp : p ≤ x.length) (h : x.drop p = pre ++ rest) : x.drop (x.length - rest.length) = rest := by
  have e : x.length - rest.length = p + pre.length := by
    have := congrArg List.length h
    rw [List.length_drop, List.length_append] at this
    have q : x.length = p + (pre.length + rest.length) := by rw [← this]; exact (Nat.add_sub_cancel' hp).symm
    rw [q, ← Nat.add_assoc, Nat.add_sub_cancel]
  rw [e, ← List.drop_drop, h]
  simp
theorem tok_next {m : LT → Int} {x : Cs} {q : List LT} {p : Nat} (hq : ∀ t ∈ q, Ltr t) (hp : p ≤ x.length) (h : ∃ sp, (∀ d ∈ sp, d ∈ wsC) ∧ x.drop p = sp ++ (q.map fun t => writtenN (wd ds t) (m t)).flatten) :
    ∃ t rest, TokTo (x.drop p) t rest ∧ Ln1 ds m x q t (x.length - rest.length) (1 + (x.count 10 : Nat) - (rest.count 10 : Nat)) := by
  obtain ⟨sp, hs, h⟩ := h
  have hR : ∀ rest : Cs, x.length - rest.length ≤ x.length := fun u_ => Nat.sub_le _ _
  cases q with
  | nil =>
    simp only [List.map_nil, List.flatten_nil, List.append_nil] at h
    refine ⟨[], [], .inr (.inr ⟨by rw [h]; exact hs, rfl, rfl⟩), hR _, ⟨[], by simp, ?_⟩, rfl, ?_⟩
    · simp
    · simp
  | cons t q =>
    have hc := wd_char (ds := ds) (hq t (by simp))
    simp only [List.map_cons, List.flatten_cons] at h
    obtain ⟨c, y, hy⟩ : ∃ c y, wd ds t = c :: y := by
      cases e : wd ds t with
      | nil => exact absurd e (wd_ne t)
      | cons c y => exact ⟨c, y, rfl⟩
    unfold writtenN at h
    by_cases hm : m t % 2 = 0
    · rw [if_pos hm] at h
      refine ⟨wd ds t, 10 :: (q.map fun t => writtenN (wd ds t) (m t)).flatten, .inl ⟨sp, hs, fun d hd => ⟨(hc d hd).1, (hc d hd).2.1⟩, ?_⟩, ?_⟩
      · rw [h]; simp [writtenN]
      · have e := drop_rest (pre := sp ++ 34 :: (wd ds t ++ [34])) (rest := 10 :: (q.map fun t => writtenN (wd ds t) (m t)).flatten) hp (by rw [h]; simp [writtenN])
        refine ⟨hR _, ⟨[10], by simp [wsC], ?_⟩, rfl, by rw [e]⟩
        rw [e]; simp
    · rw [if_neg hm] at h
      rw [writ_esc] at h
      have e1 : esc (wd ds t) = 92 :: c :: esc y := by rw [hy]; simp [esc]
      refine ⟨wd ds t, (q.map fun t => writtenN (wd ds t) (m t)).flatten, .inr (.inl ⟨sp, c, y, hs, hy, ?_⟩), ?_⟩
      · rw [h, e1]; simp [writtenN]
      · have e := drop_rest (pre := sp ++ (esc (wd ds t) ++ [32])) (rest := (q.map fun t => writtenN (wd ds t) (m t)).flatten) hp (by rw [h]; simp [writtenN])
        refine ⟨hR _, ⟨[], by simp, ?_⟩, rfl, by rw [e]⟩
        rw [e]; simp
theorem Ln1.next {m : LT → Int} {x : Cs} {t : LT} {q : List LT} {a : Cs} {p : Nat} {ln : Int} (h : Ln1 ds m x (t :: q) a p ln) (hq : ∀ t ∈ q, Ltr t) :
    ∃ t rest, TokTo (x.drop p) t rest ∧ Ln1 ds m x q t (x.length - rest.length) (ln + ((x.drop p).count 10 : Nat) - (rest.count 10 : Nat)) := by
  obtain ⟨u, rest, h1, h2⟩ := tok_next hq h.le h.tl
  refine ⟨u, rest, h1, ?_⟩
  have e := h.ln
  have e2 : ln + ((x.drop p).count 10 : Nat) - (rest.count 10 : Nat) = 1 + (x.count 10 : Nat) - (rest.count 10 : Nat) := by omega
  rw [e2]; exact h2
theorem hdW_len {q : List LT} (hq : ∀ t ∈ q, t.nm.length ≤ 7) : (hdW ds q).length ≤ 1000 := by
  cases q with
  | nil => simp [hdW]
  | cons t q =>
    have := wd_len (ds := ds) t
    have := hq t (by simp)
    show (wd ds t).length ≤ 1000
    omega
theorem hdW_norm {q : List LT} (hq : ∀ t ∈ q, Ltr t) : (wsR (hdW ds q) [] 0 0 0).1.length ≤ 1000 := by
  cases q with
  | nil => simp [hdW, wsR]
  | cons t q => exact wd_norm (hq t (by simp))
theorem hdW_nil {q : List LT} : hdW ds q = [] ↔ q = [] := by
  cases q with
  | nil => simp [hdW]
  | cons t q => simp [hdW, wd_ne]
end

theorem addK_not {ks : List Cs} {k : Cs} (h : k ∉ ks) : addK ks k = ks ++ [k] := if_neg h
theorem mrgK_disj : ∀ (sk tk : List Cs), (tk ++ sk).Nodup → mrgK tk sk = tk ++ sk
  | [], tk, w1_ => by simp [mrgK]
  | k :: sk, tk, h => by
    have e : tk ++ k :: sk = (tk ++ [k]) ++ sk := by simp
    have hk : k ∉ tk := fun q => (List.nodup_append.mp h).2.2 k q k (by simp) rfl
    rw [mrgK, addK_not hk, mrgK_disj sk _ (by rw [← e]; exact h), e]
theorem mrgV_disj : ∀ (sk : List Cs) (sv : List Int) (tk : List Cs) (tv : List Int), (tk ++ sk).Nodup → sk.length = sv.length → mrgV tk tv sk sv = tv ++ sv
  | [], [], tk, tv, w1_, w2_ => by simp [mrgV]
  | [], w1_ :: w2_, w3_, w4_, w5_, h => by simp at h
  | w1_ :: w2_, [], w3_, w4_, w5_, h => by simp at h
  | k :: sk, v :: sv, tk, tv, h, hl => by
    have e : tk ++ k :: sk = (tk ++ [k]) ++ sk := by simp
    have hk : k ∉ tk := fun q => (List.nodup_append.mp h).2.2 k q k (by simp) rfl
    rw [mrgV, addK_not hk, mrgV_disj sk sv _ _ (by rw [← e]; exact h) (by simpa using hl)]
    simp [addV, hk]
theorem mrgK_in : ∀ (sk tk : List Cs), (∀ k ∈ sk, k ∈ tk) → mrgK tk sk = tk
  | [], tk, w1_ => rfl
  | k :: sk, tk, h => by
    rw [mrgK, addK, if_pos (h k (by simp)), mrgK_in sk tk fun x hx => h x (List.mem_cons_of_mem _ hx)]
theorem addP_app {k : Cs} {v z : Int} : ∀ {a b : List Cs} {x y : List Int}, a.length = x.length → k ∉ a → k ∉ b → addP (a ++ k :: b) (x ++ z :: y) k v = x ++ (z + v) :: y
  | [], b, [], y, w1_, w2_, hb => by simp [addP, addP_not hb]
  | [], w1_, w2_ :: w3_, w4_, h, w5_, w6_ => by simp at h
  | w1_ :: w2_, w3_, [], w4_, h, w5_, w6_ => by simp at h
  | c :: a, b, u :: x, y, h, ha, hb => by
    simp only [List.mem_cons, not_or] at ha
    simp only [List.cons_append, addP, if_neg (Ne.symm ha.1), addP_app (by simpa using h) ha.2 hb]
theorem mrgV_same : ∀ (sk : List Cs) (xs : List Int) (pk : List Cs) (pv : List Int), (pk ++ sk).Nodup → pk.length = pv.length → sk.length = xs.length →
    mrgV (pk ++ sk) (pv ++ xs) sk (sk.map fun u_ => 1) = pv ++ xs.map (· + 1)
  | [], [], pk, pv, w1_, w2_, w3_ => by simp [mrgV]
  | [], w1_ :: w2_, w3_, w4_, w5_, w6_, h => by simp at h
  | w1_ :: w2_, [], w3_, w4_, w5_, w6_, h => by simp at h
  | k :: sk, v :: xs, pk, pv, h, hp, hl => by
    have e : pk ++ k :: sk = (pk ++ [k]) ++ sk := by simp
    have hk : k ∉ pk := fun q => (List.nodup_append.mp h).2.2 k q k (by simp) rfl
    have hk2 : k ∉ sk := (List.nodup_cons.mp (List.nodup_append.mp h).2.1).1
    rw [List.map_cons, mrgV, addK, if_pos (by simp), addV, if_pos (by simp), addP_app hp hk hk2]
    have e3 : pv ++ (v + 1) :: xs = (pv ++ [v + 1]) ++ xs := by simp
    rw [e, e3, mrgV_same sk xs (pk ++ [k]) (pv ++ [v + 1]) (by rw [← e]; exact h) (by simp [hp]) (by simpa using hl)]
    simp
theorem wkK_nodup {t : LT} (h : t.nm.Nodup) : (wkK t).Nodup := by
  unfold wkK
  unfold List.Nodup at *
  rw [List.pairwise_map]
  exact h.imp fun q e => q (by simpa using e)
theorem wkK_node (a b : LT) : wkK (.node a b) = wkK a ++ wkK b := by simp [wkK, LT.nm]
theorem dget_put {ks : List Cs} {vs : List SV} {x y : Cs} {u : SV} (hl : ks.length = vs.length) : dget (dkeys ks x) (dvals ks vs x u) y = if y = x then some u else dget ks vs y := by
  have app : ∀ (ks : List Cs) (vs : List SV), ks.length = vs.length → x ∉ ks → dget (ks ++ [x]) (vs ++ [u]) y = if y = x then some u else dget ks vs y := by
    intro ks
    induction ks with
    | nil =>
      intro vs h _
      have : vs = [] := by cases vs with | nil => rfl | cons _ _ => simp at h
      subst this
      by_cases e : y = x
      · subst e; simp [dget]
      · have : ¬ x = y := fun q => e q.symm
        simp [dget, e, this]
    | cons k ks ih =>
      intro vs h hx
      cases vs with
      | nil => simp at h
      | cons v vs =>
        simp only [List.mem_cons, not_or] at hx
        simp only [List.cons_append, dget, ih vs (by simpa using h) hx.2]
        by_cases e : k = y
        · subst e
          rw [if_pos rfl, if_pos rfl, if_neg (Ne.symm hx.1)]
        · rw [if_neg e, if_neg e]
  have put : ∀ (ks : List Cs) (vs : List SV), ks.length = vs.length → x ∈ ks → dget ks (dput ks vs x u) y = if y = x then some u else dget ks vs y := by
    intro ks
    induction ks with
    | nil => intro vs _ h; simp at h
    | cons k ks ih =>
      intro vs h hx
      cases vs with
      | nil => simp at h
      | cons v vs =>
        simp only [dput, dget]
        by_cases e : k = y
        · subst e
          rw [if_pos rfl, if_pos rfl]
          by_cases e2 : k = x
          · rw [if_pos e2, if_pos e2]
          · rw [if_neg e2, if_neg e2]
        · rw [if_neg e, if_neg e]
          by_cases hx2 : x ∈ ks
          · exact ih vs (by simpa using h) hx2
          · have e2 : k = x := by
              rcases List.mem_cons.mp hx with q | q
              · exact q.symm
              · exact absurd q hx2
            subst e2
            have e3 : ¬ y = k := fun q => e q.symm
            rw [if_neg e3]
            congr 1
            clear ih h hx
            induction ks generalizing vs with
            | nil => cases vs <;> rfl
            | cons c ks ih =>
              cases vs with
              | nil => rfl
              | cons z vs =>
                simp only [List.mem_cons, not_or] at hx2
                simp only [dput, if_neg (Ne.symm hx2.1), ih vs hx2.2]
  unfold dkeys dvals
  by_cases h : x ∈ ks
  · rw [if_pos h, if_pos h]; exact put ks vs hl h
  · rw [if_neg h, if_neg h]; exact app ks vs hl h
theorem dput_len {x : Cs} {u : SV} : ∀ (ks : List Cs) (vs : List SV), (dput ks vs x u).length = vs.length
  | [], vs => by cases vs <;> rfl
  | w1_ :: w2_, [] => rfl
  | k :: ks, v :: vs => by simp only [dput, List.length_cons, dput_len ks vs]
theorem dk_len {ks : List Cs} {vs : List SV} {x : Cs} {u : SV} (hl : ks.length = vs.length) : (dkeys ks x).length = (dvals ks vs x u).length := by
  unfold dkeys dvals
  split
  · rw [dput_len]; exact hl
  · simp [hl]
theorem dk_le {ks : List Cs} {x : Cs} : (dkeys ks x).length ≤ ks.length + 1 := by
  unfold dkeys
  split
  · omega
  · simp
structure Sta where
  s0 : SV
  s1 : SV
  n : Nat
  nms : Cs
  lds : List SV
  tot : Int
  ts : Nat
  od : SV
  k10 : Option SV
  k11 : Option SV
  k12 : Option SV
  k13 : Option SV
  k14 : Option SV
  x : Cs
  ck : List Cs
  cv : List SV
noncomputable abbrev lwS (e : Sta) (st : List Int) (o21 o22 o23 o24 o25 o26 o27 o28 o29 o30 : Option SV) : List (Option SV) :=
  [some e.s0, some e.s1, some (.int e.n), some (.str e.nms), some (.list e.lds), some (.int e.tot), some (.int e.ts), some e.od, some (.obj 0), some (.obj 1), e.k10, e.k11, e.k12, e.k13, e.k14, some (.str e.x), some (.list [.iobj 59 3, .iobj 59 6]), some (.obj 8), some (.obj 9), some (.dict e.ck e.cv), some (.list (SI st)), o21, o22, o23, o24, o25, o26, o27, o28, o29, o30, none, none, none, none]
noncomputable abbrev tHp (rs : List SV) (bk : List Cs) (bv : List SV) (p : Nat) (x : Cs) (ln : Int) (pb : List Cs) (a0 a1 : Cs) (g : List SO) : List SO :=
  .list rs :: .dict bk bv :: .list [.int p] :: lexA 2 4 x ln :: .list [] :: .list [.int 0] :: lexA 5 7 [] 1 :: .list (pb.map .str) :: .list [.str a0, .str a1] :: .list [wsV a0, wsV a1] :: g
theorem lvls (w : World) (hB : Heap) (e : Sta) (st : List Int) (o21 o22 o23 o24 o25 o26 o27 o28 o29 o30 : Option SV) (rs : List SV) (bk : List Cs) (bv : List SV) (p : Nat) (ln : Int) (pb : List Cs) (a0 a1 : Cs) (g : List SO) (hts : 1 ≤ e.ts ∧ e.ts ≤ 4)
    (h0 : (wsR a0 [] 0 0 0).1.length ≤ 1000) (h1 : (wsR a1 [] 0 0 0).1.length ≤ 1000) (K : AFl → St → Prop)
    (hK : K .next ⟨lwS e st o21 o22 o23 (some (.list [.int (lvl e.ts a0), .int (lvl e.ts a1)])) o25 o26 o27 o28 o29 o30, tHp rs bk bv p e.x ln pb a0 a1 g⟩) :
    (exH_0 w hB).1 K ⟨lwS e st o21 o22 o23 o24 o25 o26 o27 o28 o29 o30, tHp rs bk bv p e.x ln pb a0 a1 g⟩ := by
  unfold exH_0
  dsimp only
  unfold wComp wItLP
  k_go
  refine ⟨⟨clo_ws _ _, clo_ws _ _, trivial⟩, by simp, ?_, ?_⟩
  · simp [closO, capLoc, capsZ, look, clo]
  simp only [capLoc, capsZ, List.map, look]
  unfold wCompL
  k_go
  refine ⟨⟨rfl, rfl⟩, a0, e.ts, rfl, h0, by omega, by omega, ?_⟩
  unfold wCompL
  k_go
  refine ⟨⟨rfl, rfl⟩, a1, e.ts, rfl, h1, by omega, by omega, ?_⟩
  refine ⟨⟨trivial, trivial, trivial⟩, ?_⟩
  exact hK

theorem hand2 (w : World) (hB : Heap) (e : Sta) (st : List Int) (o21 o22 o23 o26 o27 o28 o29 o30 : Option SV) (l0 l1 : Int) (rs : List SV) (bk : List Cs) (bv : List SV) (p : Nat) (ln : Int) (pb : List Cs) (a0 a1 : Cs) (g : List SO) (b : Bool) (hb : b = true ↔ (a0 = [] ∨ (a1 ≠ [] ∧ l1 < l0))) (K : AFl → St → Prop)
    (hK : K .next ⟨lwS e st o21 o22 o23 (some (.list [.int l0, .int l1])) (some (.int (if b then 1 else 0))) o26 o27 o28 o29 o30, tHp rs bk bv p e.x ln pb a0 a1 g⟩) :
    (exH_2 w hB).1 K ⟨lwS e st o21 o22 o23 (some (.list [.int l0, .int l1])) (some (.int 0)) o26 o27 o28 o29 o30, tHp rs bk bv p e.x ln pb a0 a1 g⟩ := by
  unfold exH_2
  dsimp only
  k_go
  refine ⟨by decide, ?_⟩
  cases a0 with
  | nil =>
    have : b = true := hb.mpr (.inl rfl)
    subst this
    exact hK
  | cons c0 a0 =>
    have e0 : ((c0 :: a0 : Cs) == []) = false := rfl
    rw [e0]
    k_go
    refine ⟨by decide, ?_⟩
    cases a1 with
    | nil =>
      have : b = false := by cases b with | false => rfl | true => simp at hb
      subst this
      exact hK
    | cons c1 a1 =>
      have e1 : ((c1 :: a1 : Cs) != []) = true := rfl
      rw [e1]
      k_go
      refine ⟨by decide, by decide, ?_⟩
      by_cases hl : l1 < l0
      · have : b = true := hb.mpr (.inr ⟨by simp, hl⟩)
        subst this
        have e2 : decide (l1 < l0) = true := by simpa using hl
        rw [e2]
        exact hK
      · have : b = false := by cases b with | false => rfl | true => simp [hl] at hb
        subst this
        have e2 : decide (l1 < l0) = false := by simpa using hl
        rw [e2]
        exact hK
noncomputable def two {α : Type} (b : Bool) (x y : α) : α := if b then y else x
theorem hand34 (w : World) (hB : Heap) (e : Sta) (st : List Int) (o21 o23 o26 o27 o28 o29 o30 : Option SV) (l0 l1 : Int) (rs : List SV) (bk : List Cs) (bv : List SV) (p : Nat) (ln : Int) (pb : List Cs) (a0 a1 : Cs) (g : List SO) (ps : List SV) (b : Bool)
    (h0 : a0.length ≤ 1000) (h1 : a1.length ≤ 1000) (hn0 : (wsR a0 [] 0 0 0).2.2.1 ≤ 1000) (hn1 : (wsR a1 [] 0 0 0).2.2.1 ≤ 1000) (hps : ps.length ≤ 1000) (K : AFl → St → Prop)
    (hK : ∀ o26, K .next ⟨lwS e st o21 (some (.obj (g.length + 10))) o23 (some (.list [.int l0, .int l1])) (some (.int (if b then 1 else 0))) o26 o27 o28 o29 o30, tHp rs bk bv p e.x ln pb a0 a1 (g ++ [.list (ps ++ [.tup [.int (two b l0 l1), .str ((two b a0 a1).take (wsR (two b a0 a1) [] 0 0 0).2.2.1), .str ((two b a0 a1).drop (wsR (two b a0 a1) [] 0 0 0).2.2.1)]])])⟩) :
    (exH_3 w hB).1 (fun fl st => match fl with
      | .next => (exH_4 w hB).1 K st
      | .brk => K .brk st
      | .cont => K .cont st
      | .ret v => K (.ret v) st) ⟨lwS e st o21 (some (.obj (g.length + 10))) o23 (some (.list [.int l0, .int l1])) (some (.int (if b then 1 else 0))) o26 o27 o28 o29 o30, tHp rs bk bv p e.x ln pb a0 a1 (g ++ [.list ps])⟩ := by
  unfold exH_3
  dsimp only
  cases b with
  | false =>
    simp only [two, Bool.false_eq_true, if_false, if_true] at hK ⊢
    k_go
    refine ⟨by decide, ?_⟩
    refine ⟨rfl, rfl, trivial, ?_⟩
    show (exH_4 w hB).1 K ⟨lwS e st o21 (some (.obj (g.length + 10))) o23 (some (.list [.int l0, .int l1])) (some (.int 0)) (some (.int (wsR a0 [] 0 0 0).2.2.1)) o27 o28 o29 o30, _⟩
    generalize (wsR a0 [] 0 0 0).2.2.1 = n at hK hn0 ⊢
    unfold exH_4
    dsimp only
    k_go
    refine ⟨by unfold isLst lstOf; simp only [hget, hget_mid]; rfl, by decide, by decide, ?_⟩
    rw [if_pos (by omega), Int.toNat_natCast]
    dsimp only
    rw [hget_mid]
    dsimp only
    rw [set_mid]
    refine ⟨by omega, by decide, by omega, by decide, by omega, ?_⟩
    exact hK _
  | true =>
    simp only [two, Bool.false_eq_true, if_false, if_true] at hK ⊢
    k_go
    refine ⟨by decide, ?_⟩
    refine ⟨rfl, rfl, trivial, ?_⟩
    show (exH_4 w hB).1 K ⟨lwS e st o21 (some (.obj (g.length + 10))) o23 (some (.list [.int l0, .int l1])) (some (.int 1)) (some (.int (wsR a1 [] 0 0 0).2.2.1)) o27 o28 o29 o30, _⟩
    generalize (wsR a1 [] 0 0 0).2.2.1 = n at hK hn1 ⊢
    unfold exH_4
    dsimp only
    k_go
    refine ⟨by unfold isLst lstOf; simp only [hget, hget_mid]; rfl, by decide, by decide, ?_⟩
    rw [if_pos (by omega), Int.toNat_natCast]
    dsimp only
    rw [hget_mid]
    dsimp only
    rw [set_mid]
    refine ⟨by omega, by decide, by omega, by decide, by omega, ?_⟩
    exact hK _
theorem lexA0 (rs : List SV) (bk : List Cs) (bv : List SV) (p : Nat) (x : Cs) (ln : Int) (pb : List Cs) (a0 a1 : Cs) (g : List SO) (hx : x.length ≤ 100000) (hp : p ≤ x.length) : Lex (tHp rs bk bv p x ln pb a0 a1 g) 3 2 4 x ln p [] :=
  ⟨rfl, rfl, rfl, by decide, by decide, by decide, hx, hp⟩
theorem lexA1 (rs : List SV) (bk : List Cs) (bv : List SV) (p : Nat) (x : Cs) (ln : Int) (pb : List Cs) (a0 a1 : Cs) (g : List SO) : Lex (tHp rs bk bv p x ln pb a0 a1 g) 6 5 7 [] 1 0 pb :=
  ⟨rfl, rfl, rfl, by decide, by decide, by decide, by simp, by simp⟩
noncomputable abbrev hand56W (w : World) (hB : Heap) (K : AFl → St → Prop) : St → Prop := (exH_5 w hB).1 (fun fl st => match fl with
      | .next => (exH_6 w hB).1 K st
      | .brk => K .brk st
      | .cont => K .cont st
      | .ret v => K (.ret v) st)
theorem hand56f (w : World) (hB : Heap) (e : Sta) (st : List Int) (o21 o22 o23 o24 o26 o27 o28 o29 o30 : Option SV) (rs : List SV) (bk : List Cs) (bv : List SV) (p : Nat) (ln : Int) (pb : List Cs) (a0 a1 : Cs) (g : List SO) 
    (hx : e.x.length ≤ 100000) (hp : p ≤ e.x.length) (t rest : Cs) (ht : TokTo (e.x.drop p) t rest) (hl : t.length ≤ 1000) (K : AFl → St → Prop)
    (hK : K .next ⟨lwS e st o21 o22 o23 o24 (some (.int 0)) o26 o27 o28 o29 o30, tHp rs bk bv (e.x.length - rest.length) e.x (ln + ((e.x.drop p).count 10 : Nat) - (rest.count 10 : Nat)) pb t a1 g⟩) :
    hand56W w hB K ⟨lwS e st o21 o22 o23 o24 (some (.int 0)) o26 o27 o28 o29 o30, tHp rs bk bv p e.x ln pb a0 a1 g⟩ := by
  unfold hand56W exH_5
  dsimp only
  k_go
  refine ⟨by decide, ⟨rfl, rfl⟩, rfl, 2, 4, e.x, ln, p, [], lexA0 _ _ _ _ _ _ _ _ _ _ hx hp, t, rest, ht, ?_⟩
  simp only [lexP, List.set]
  k_go
  refine ⟨by decide, by decide, ?_⟩
  unfold exH_6
  dsimp only
  k_go
  refine ⟨by decide, hl, ?_⟩
  k_go
  refine ⟨by decide, by decide, ?_⟩
  exact hK
theorem hand56t (w : World) (hB : Heap) (e : Sta) (st : List Int) (o21 o22 o23 o24 o26 o27 o28 o29 o30 : Option SV) (rs : List SV) (bk : List Cs) (bv : List SV) (p : Nat) (ln : Int) (pb : List Cs) (a0 a1 : Cs) (g : List SO) 
    (hb : pb.length ≤ 1000) (hl : (pb.headD []).length ≤ 1000) (K : AFl → St → Prop)
    (hK : K .next ⟨lwS e st o21 o22 o23 o24 (some (.int 1)) o26 o27 o28 o29 o30, tHp rs bk bv p e.x ln pb.tail a0 (pb.headD []) g⟩) :
    hand56W w hB K ⟨lwS e st o21 o22 o23 o24 (some (.int 1)) o26 o27 o28 o29 o30, tHp rs bk bv p e.x ln pb a0 a1 g⟩ := by
  unfold hand56W exH_5
  dsimp only
  k_go
  refine ⟨by decide, ⟨rfl, rfl⟩, rfl, 5, 7, [], 1, 0, pb, lexA1 _ _ _ _ _ _ _ _ _ _, ?_⟩
  cases pb with
  | nil =>
    refine ⟨[], [], .inr (.inr ⟨by simp, rfl, rfl⟩), ?_⟩
    simp only [lexP, List.set]
    k_go
    refine ⟨by decide, by decide, ?_⟩
    unfold exH_6
    dsimp only
    k_go
    refine ⟨by decide, by decide, ?_⟩
    k_go
    refine ⟨by decide, by decide, ?_⟩
    exact hK
  | cons t pb =>
    refine ⟨by simp at hb; omega, ?_⟩
    simp only [lexP, List.set]
    k_go
    refine ⟨by decide, by decide, ?_⟩
    unfold exH_6
    dsimp only
    k_go
    refine ⟨by decide, hl, ?_⟩
    k_go
    refine ⟨by decide, by decide, ?_⟩
    exact hK
theorem pick_facts {cf : Nat → Int} {q1 q2 q1' q2' : List LT} {b : Bool} {t : LT} (h : pickQ cf q1 q2 = some (b, t, q1', q2')) :
    (b = false ∧ q1 = t :: q1' ∧ q2' = q2) ∨ (b = true ∧ q2 = t :: q2' ∧ q1' = q1) := by
  match q1, q2, h with
  | [], [], h => cases h
  | [], u :: q2, h => cases h; exact .inr ⟨rfl, rfl, rfl⟩
  | v :: q1, [], h => cases h; exact .inl ⟨rfl, rfl, rfl⟩
  | v :: q1, u :: q2, h =>
    simp only [pickQ] at h
    split at h
    · cases h; exact .inr ⟨rfl, rfl, rfl⟩
    · cases h; exact .inl ⟨rfl, rfl, rfl⟩
set_option tactic.hygienic true in
theorem pick_iff {ds : List Int} {ts : Nat} (hts : 1 ≤ ts) {q1 q2 q1' q2' : List LT} {b : Bool} {t : LT} (hq1 : ∀ t ∈ q1, Ltr t) (hq2 : ∀ t ∈ q2, Ltr t) (h : pickQ (lwC ds ts) q1 q2 = some (b, t, q1', q2')) :
    b = true ↔ (hdW ds q1 = [] ∨ (hdW ds q2 ≠ [] ∧ lvl ts (hdW ds q2) < lvl ts (hdW ds q1))) := by
  match q1, q2, h with
  | [], [], h => cases h
  | [], u :: q2, h => cases h; simp [hdW]
  | v :: q1, [], h => cases h; simp [hdW, wd_ne]
  | v :: q1, u :: q2, h =>
    have e1 : lvl ts (hdW ds (v :: q1)) = v.tc (lwC ds ts) := wd_lvl hts (hq1 v (by simp))
    have e2 : lvl ts (hdW ds (u :: q2)) = u.tc (lwC ds ts) := wd_lvl hts (hq2 u (by simp))
    rw [e1, e2]
    simp only [pickQ] at h
    split at h
    · rename_i hl; cases h; simp [hdW, wd_ne, hl]
    · rename_i hl; cases h; simp [hdW, wd_ne, hl]
theorem tail_head (ds : List Int) (q : List LT) : ((q.map (wd ds)).headD []) = hdW ds q := by cases q <;> rfl
theorem hdW_n {ds : List Int} {q : List LT} (hq : ∀ t ∈ q, Ltr t ∧ t.nm.length ≤ 7) : (wsR (hdW ds q) [] 0 0 0).2.2.1 ≤ 1000 := by
  cases q with
  | nil => simp [hdW, wsR]
  | cons t q =>
    have h := hq t (by simp)
    show (wsR (wd ds t) [] 0 0 0).2.2.1 ≤ 1000
    rw [wd_wsR h.1]
    have := wd_len (ds := ds) t
    unfold wd at this
    rw [List.length_append] at this
    show (ldT ds t).length ≤ 1000
    omega
theorem hand1 (w : World) (hB : Heap) (e : Sta) (st : List Int) (o21 o22 o23 o24 o25 o26 o27 o28 o29 o30 : Option SV) (hp : List SO) (K : AFl → St → Prop)
    (hK : K .next ⟨lwS e st o21 o22 o23 o24 (some (.int 0)) o26 o27 o28 o29 o30, hp⟩) : (exH_1 w hB).1 K ⟨lwS e st o21 o22 o23 o24 o25 o26 o27 o28 o29 o30, hp⟩ := by
  unfold exH_1
  exact hK
theorem hand_step (w : World) (hB : Heap) (e : Sta) (ds : List Int) (m : LT → Int) {q1 q2 q1' q2' : List LT} {b : Bool} {t : LT} (st : List Int) (o21 o23 o24 o25 o26 o27 o28 o29 o30 : Option SV) (rs : List SV) (bk : List Cs) (bv : List SV) (p : Nat) (ln : Int) (g : List SO) (ps : List SV)
    (hts : 1 ≤ e.ts ∧ e.ts ≤ 4) (hq1 : ∀ t ∈ q1, Ltr t ∧ t.nm.length ≤ 7) (hq2 : ∀ t ∈ q2, Ltr t ∧ t.nm.length ≤ 7) (h1 : Ln1 ds m e.x q1 (hdW ds q1) p ln) (hlen : q2.length ≤ 100) (hx : e.x.length ≤ 100000) (hps : ps.length ≤ 1000) (hp : pickQ (lwC ds e.ts) q1 q2 = some (b, t, q1', q2'))
    (K : AFl → St → Prop)
    (hK : ∀ p' ln' o24 o25 o26, Ln1 ds m e.x q1' (hdW ds q1') p' ln' → K .next ⟨lwS e st o21 (some (.obj (g.length + 10))) o23 o24 o25 o26 o27 o28 o29 o30, tHp rs bk bv p' e.x ln' (q2'.tail.map (wd ds)) (hdW ds q1') (hdW ds q2') (g ++ [.list (ps ++ [.tup [.int (t.tc (lwC ds e.ts)), .str (ldT ds t), .str t.nm]])])⟩) :
    (exHB w hB).1 K ⟨lwS e st o21 (some (.obj (g.length + 10))) o23 o24 o25 o26 o27 o28 o29 o30, tHp rs bk bv p e.x ln (q2.tail.map (wd ds)) (hdW ds q1) (hdW ds q2) (g ++ [.list ps])⟩ := by
  have w1 : ∀ t ∈ q1, Ltr t := fun t ht => (hq1 t ht).1
  have w2 : ∀ t ∈ q2, Ltr t := fun t ht => (hq2 t ht).1
  unfold exHB
  dsimp only
  refine lvls w hB e st o21 _ o23 o24 o25 o26 o27 o28 o29 o30 rs bk bv p ln _ _ _ _ hts (hdW_norm w1) (hdW_norm w2) _ ?_
  refine hand1 w hB e st o21 _ o23 _ o25 o26 o27 o28 o29 o30 _ _ ?_
  refine hand2 w hB e st o21 _ o23 o26 o27 o28 o29 o30 _ _ rs bk bv p ln _ _ _ _ b (pick_iff hts.1 w1 w2 hp) _ ?_
  refine hand34 w hB e st o21 o23 o26 o27 o28 o29 o30 _ _ rs bk bv p ln _ _ _ g ps b (hdW_len fun t ht => (hq1 t ht).2) (hdW_len fun t ht => (hq2 t ht).2) (hdW_n hq1) (hdW_n hq2) hps _ fun o26' => ?_
  have ht : Ltr t ∧ two b (hdW ds q1) (hdW ds q2) = wd ds t := by
    rcases pick_facts hp with ⟨rfl, rfl, rfl⟩ | ⟨rfl, rfl, rfl⟩
    · exact ⟨w1 t (by simp), rfl⟩
    · exact ⟨w2 t (by simp), rfl⟩
  have el : two b (lvl e.ts (hdW ds q1)) (lvl e.ts (hdW ds q2)) = t.tc (lwC ds e.ts) := by
    have : two b (lvl e.ts (hdW ds q1)) (lvl e.ts (hdW ds q2)) = lvl e.ts (two b (hdW ds q1) (hdW ds q2)) := by cases b <;> rfl
    rw [this, ht.2, wd_lvl hts.1 ht.1]
  rw [ht.2, el, wd_wsR ht.1, wd_take, wd_drop]
  rcases pick_facts hp with ⟨rfl, rfl, rfl⟩ | ⟨rfl, rfl, rfl⟩
  · obtain ⟨u, rest, k1, k2⟩ := h1.next fun t ht => w1 t (List.mem_cons_of_mem _ ht)
    have eu : u = hdW ds q1' := k2.hd
    subst eu
    have hl := hdW_len (ds := ds) (q := q1') fun t ht => (hq1 t (List.mem_cons_of_mem _ ht)).2
    have hKK := fun o24 o25 o26 => hK _ _ o24 o25 o26 k2
    generalize hdW ds q1' = a1' at k1 k2 hl hKK
    refine hand56f w hB e st o21 _ o23 _ _ o27 o28 o29 o30 rs bk bv p ln _ _ _ _ hx h1.le a1' rest k1 hl K ?_
    exact hKK _ _ _
  · have e1 : List.map (wd ds) (List.tail (t :: q2')) = q2'.map (wd ds) := rfl
    rw [e1]
    refine hand56t w hB e st o21 _ o23 _ _ o27 o28 o29 o30 rs bk bv p ln _ _ _ _ ?_ ?_ K ?_
    · simp at hlen ⊢; omega
    · rw [tail_head]; exact hdW_len fun t ht => (hq2 t (List.mem_cons_of_mem _ ht)).2
    · rw [tail_head, ← List.map_tail]
      exact hK _ _ _ _ _ h1
noncomputable abbrev prt (ds : List Int) (cf : Nat → Int) (t : LT) : SV := .tup [.int (t.tc cf), .str (ldT ds t), .str t.nm]
theorem turn0 (w : World) (hB : Heap) (e : Sta) (st : List Int) (o21 o22 o23 o24 o25 o26 o27 o28 o29 o30 : Option SV) (rs : List SV) (bk : List Cs) (bv : List SV) (p : Nat) (ln : Int) (pb : List Cs) (a0 a1 : Cs) (g : List SO) (K : AFl → St → Prop)
    (hK : K .next ⟨lwS e st o21 (some (.obj (g.length + 10))) o23 o24 o25 o26 o27 o28 o29 o30, tHp rs bk bv p e.x ln pb a0 a1 (g ++ [.list []])⟩) :
    (exT_0 w hB).1 K ⟨lwS e st o21 o22 o23 o24 o25 o26 o27 o28 o29 o30, tHp rs bk bv p e.x ln pb a0 a1 g⟩ := by
  unfold exT_0
  exact ⟨by decide, hK⟩
theorem turn1 (w : World) (hB : Heap) (e : Sta) (ds : List Int) (m : LT → Int) {q1 q2 p1 p2 r1 r2 : List LT} {x y : Bool} {a b : LT} (st : List Int) (o21 o23 o24 o25 o26 o27 o28 o29 o30 : Option SV) (rs : List SV) (bk : List Cs) (bv : List SV) (p : Nat) (ln : Int) (g : List SO)
    (hts : 1 ≤ e.ts ∧ e.ts ≤ 4) (hq1 : ∀ t ∈ q1, Ltr t ∧ t.nm.length ≤ 7) (hq2 : ∀ t ∈ q2, Ltr t ∧ t.nm.length ≤ 7) (h1 : Ln1 ds m e.x q1 (hdW ds q1) p ln) (hlen : q2.length ≤ 100) (hx : e.x.length ≤ 100000) (ha : pickQ (lwC ds e.ts) q1 q2 = some (x, a, p1, p2)) (hb : pickQ (lwC ds e.ts) p1 p2 = some (y, b, r1, r2))
    (K : AFl → St → Prop)
    (hK : ∀ p' ln' o23 o24 o25 o26, Ln1 ds m e.x r1 (hdW ds r1) p' ln' → K .next ⟨lwS e st o21 (some (.obj (g.length + 10))) o23 o24 o25 o26 o27 o28 o29 o30, tHp rs bk bv p' e.x ln' (r2.tail.map (wd ds)) (hdW ds r1) (hdW ds r2) (g ++ [.list [prt ds (lwC ds e.ts) a, prt ds (lwC ds e.ts) b]])⟩) :
    (exT_1 w hB).1 K ⟨lwS e st o21 (some (.obj (g.length + 10))) o23 o24 o25 o26 o27 o28 o29 o30, tHp rs bk bv p e.x ln (q2.tail.map (wd ds)) (hdW ds q1) (hdW ds q2) (g ++ [.list []])⟩ := by
  unfold exT_1
  dsimp only
  refine ⟨by decide, clos_rng _ _, ?_⟩
  refine ⟨_, .refl, ?_⟩
  have s1 : (∀ t ∈ p1, t ∈ q1) ∧ (∀ t ∈ p2, t ∈ q2) ∧ p2.length ≤ q2.length := by
    rcases pick_facts ha with ⟨_, rfl, rfl⟩ | ⟨_, rfl, rfl⟩
    · exact ⟨fun t ht => List.mem_cons_of_mem _ ht, fun u_ ht => ht, Nat.le_refl _⟩
    · exact ⟨fun u_ ht => ht, fun t ht => List.mem_cons_of_mem _ ht, by simp⟩
  refine hand_step w hB e ds m st o21 (some (.int 0)) o24 o25 o26 o27 o28 o29 o30 rs bk bv p ln g [] hts hq1 hq2 h1 hlen hx (by simp) ha _ fun p' ln' o24' o25' o26' k1 => ?_
  refine ⟨_, .refl, ?_⟩
  refine hand_step w hB e ds m st o21 (some (.int 1)) o24' o25' o26' o27 o28 o29 o30 rs bk bv p' ln' g _ hts (fun t ht => hq1 t (s1.1 t ht)) (fun t ht => hq2 t (s1.2.1 t ht)) k1 (Nat.le_trans s1.2.2 hlen) hx (by simp) hb _ fun p'' ln'' o24'' o25'' o26'' k2 => ?_
  exact hK p'' ln'' _ o24'' o25'' o26'' k2
theorem turn2 (w : World) (hB : Heap) (e : Sta) (ds : List Int) (cf : Nat → Int) (a b : LT) (st : List Int) (o21 o23 o24 o25 o26 o27 o28 o29 o30 : Option SV) (rs : List SV) (bk : List Cs) (bv : List SV) (p : Nat) (ln : Int) (pb : List Cs) (a0 a1 : Cs) (g : List SO) (hst : st.length ≤ 100) (K : AFl → St → Prop)
    (hK : K .next ⟨lwS e (a.tc cf :: b.tc cf :: st) o21 (some (.obj (g.length + 10))) o23 o24 o25 o26 o27 o28 o29 o30, tHp rs bk bv p e.x ln pb a0 a1 (g ++ [.list [prt ds cf a, prt ds cf b]])⟩) :
    (exT_2 w hB).1 K ⟨lwS e (a.tc cf :: b.tc cf :: st) o21 (some (.obj (g.length + 10))) o23 o24 o25 o26 o27 o28 o29 o30, tHp rs bk bv p e.x ln pb a0 a1 (g ++ [.list [prt ds cf a, prt ds cf b]])⟩ := by
  unfold exT_2
  dsimp only
  unfold wComp wItLP
  k_go
  simp only [hget_mid]
  refine ⟨by simp [clos, clo], by simp, by simp [closO, capLoc, capsZ], ?_⟩
  simp only [capLoc, capsZ, List.map, look]
  unfold wCompL
  k_go
  refine ⟨by decide, ?_⟩
  unfold wCompL
  k_go
  refine ⟨by decide, ?_⟩
  unfold wCompL
  refine ⟨⟨trivial, trivial, trivial⟩, by simp [SI]; omega, ?_⟩
  exact eq_ints (neg := true) (c := [a.tc cf, b.tc cf]) (k := fun v st => match v.bool? with | some b => (if b then wConst (.bool false) fun v => K (.ret v) else K .next) st | none => False) hK
theorem turn3 (w : World) (hB : Heap) (e : Sta) (st : List Int) (u v : SV) (o21 o23 o24 o25 o26 o27 o28 o29 o30 : Option SV) (rs : List SV) (bk : List Cs) (bv : List SV) (p : Nat) (ln : Int) (pb : List Cs) (a0 a1 : Cs) (g : List SO) (K : AFl → St → Prop)
    (hK : K .next ⟨lwS e st o21 (some (.obj (g.length + 10))) o23 o24 o25 o26 (some u) (some v) o29 o30, tHp rs bk bv p e.x ln pb a0 a1 (g ++ [.list [u, v]])⟩) :
    (exT_3 w hB).1 K ⟨lwS e st o21 (some (.obj (g.length + 10))) o23 o24 o25 o26 o27 o28 o29 o30, tHp rs bk bv p e.x ln pb a0 a1 (g ++ [.list [u, v]])⟩ := by
  unfold exT_3
  dsimp only
  k_go
  simp only [hget_mid]
  exact ⟨rfl, trivial, hK⟩
theorem turn4 (w : World) (hB : Heap) (e : Sta) (ds : List Int) (cf : Nat → Int) (a b : LT) (st : List Int) (o21 o22 o23 o24 o25 o26 o29 o30 : Option SV) (rs : List SV) (bk : List Cs) (bv : List SV) (p : Nat) (ln : Int) (pb : List Cs) (a0 a1 : Cs) (g : List SO)
    (ha : dget bk bv a.nm = some (bkE cf a)) (hb : dget bk bv b.nm = some (bkE cf b)) (hn : (wkK a ++ wkK b).Nodup) (hl : a.nm.length + b.nm.length ≤ 1000) (K : AFl → St → Prop)
    (hK : K .next ⟨lwS e st o21 o22 o23 o24 o25 o26 (some (prt ds cf a)) (some (prt ds cf b)) (some (entV ((b.nm.length - 1) + (a.nm.length - 1)) (b.nm.length + a.nm.length) (b.tc cf + a.tc cf) (b.pr cf + a.pr cf) (wkK a ++ wkK b) (a.dp ++ b.dp))) o30, tHp rs bk bv p e.x ln pb a0 a1 g⟩) :
    (exT_4 w hB).1 K ⟨lwS e st o21 o22 o23 o24 o25 o26 (some (prt ds cf a)) (some (prt ds cf b)) o29 o30, tHp rs bk bv p e.x ln pb a0 a1 g⟩ := by
  unfold exT_4
  dsimp only
  k_go
  refine ⟨by decide, ?_⟩
  simp only [ha]
  refine ⟨by decide, ?_⟩
  simp only [hb]
  refine ⟨_, _, _, _, _, _, _, _, wkK a, wkK b, a.dp, b.dp, rfl, (List.nodup_append.mp hn).1, by simp [wkK, LT.dp_len], by simp [wkK, LT.dp_len], by simpa [wkK] using hl, ?_⟩
  rw [mrgK_disj _ _ hn, mrgV_disj _ _ _ _ hn (by simp [wkK, LT.dp_len])]
  exact hK
theorem compD_keys (l : Cs) (K : List Cs → List SV → List SO → Prop) : ∀ (xs pre : Cs) (o : Option SV), (pre ++ xs).Nodup → pre ++ xs = l → K (l.map fun d => [d]) (SI (l.map fun u_ => 1)) [] →
    wCompD (wName 0) (wConst (.int 1)) K (SS xs) ⟨[o], []⟩ (pre.map fun d => [d]) (SI (pre.map fun u_ => 1))
  | [], pre, o, w1_, e, h => by
    rw [List.append_nil] at e
    subst e
    exact h
  | x :: xs, pre, o, hn, e, h => by
    have hx : ([x] : Cs) ∉ pre.map fun d => [d] := by
      intro q
      obtain ⟨y, hy, e⟩ := List.mem_map.mp q
      have e : y = x := by simpa using e
      subst e
      exact (List.nodup_append.mp hn).2.2 y hy y (by simp) rfl
    show wCompD _ _ K (SS xs) ⟨[some (.str [x])], []⟩ (dkeys (pre.map fun d => [d]) [x]) (dvals (pre.map fun d => [d]) (SI (pre.map fun u_ => 1)) [x] (.int 1))
    have h1 : dkeys (pre.map fun d => [d]) [x] = (pre ++ [x]).map fun d => [d] := by unfold dkeys; rw [if_neg hx]; simp
    have h2 : dvals (pre.map fun d => [d]) (SI (pre.map fun u_ => 1)) [x] (.int 1) = SI ((pre ++ [x]).map fun u_ => 1) := by unfold dvals; rw [if_neg hx]; simp [SI]
    rw [h1, h2]
    exact compD_keys l K xs (pre ++ [x]) _ (by simpa using hn) (by simpa using e) h
theorem turn5 (w : World) (hB : Heap) (e : Sta) (ds : List Int) (cf : Nat → Int) (a b : LT) (A B C D : Int) (ks : List Cs) (vs : List Int) (st : List Int) (o21 o22 o23 o24 o25 o26 o30 : Option SV) (rs : List SV) (bk : List Cs) (bv : List SV) (p : Nat) (ln : Int) (pb : List Cs) (a0 a1 : Cs) (g : List SO)
    (hn : (a.nm ++ b.nm).Nodup) (hl : a.nm.length + b.nm.length ≤ 1000) (K : AFl → St → Prop)
    (hK : K .next ⟨lwS e st o21 o22 o23 o24 o25 o26 (some (prt ds cf a)) (some (prt ds cf b)) (some (entV A B C D ks vs)) (some (entV 1 0 0 C (wkK (.node a b)) ((a.nm ++ b.nm).map fun u_ => 1))), tHp rs bk bv p e.x ln pb a0 a1 g⟩) :
    (exT_5 w hB).1 K ⟨lwS e st o21 o22 o23 o24 o25 o26 (some (prt ds cf a)) (some (prt ds cf b)) (some (entV A B C D ks vs)) o30, tHp rs bk bv p e.x ln pb a0 a1 g⟩ := by
  unfold exT_5
  dsimp only
  unfold wCompDP
  k_go
  refine ⟨by decide, by decide, by decide, by omega, ?_, by simp [capLoc, capsZ]; omega, by simp [closO, capLoc, capsZ], ?_⟩
  · exact clos_map _ (fun u_ => by exact trivial) _
  simp only [capLoc, capsZ, List.map, look]
  refine compD_keys (a.nm ++ b.nm) _ (a.nm ++ b.nm) [] none (by simpa using hn) rfl ?_
  refine ⟨clos_SI _, by decide, ?_⟩
  exact hK
theorem turn6 (w : World) (hB : Heap) (e : Sta) (ds : List Int) (cf : Nat → Int) (a b : LT) (st : List Int) (o21 o22 o23 o24 o25 o26 : Option SV) (rs : List SV) (bk : List Cs) (bv : List SV) (p : Nat) (ln : Int) (pb : List Cs) (a0 a1 : Cs) (g : List SO)
    (hn : (wkK a ++ wkK b).Nodup) (hl : a.nm.length + b.nm.length ≤ 100) (hbk : bk.length ≤ 1000) (K : AFl → St → Prop)
    (hK : ∀ o29 o30, K .next ⟨lwS e st o21 o22 o23 o24 o25 o26 (some (prt ds cf a)) (some (prt ds cf b)) o29 o30, tHp rs (dkeys bk (a.nm ++ b.nm)) (dvals bk bv (a.nm ++ b.nm) (bkE cf (.node a b))) p e.x ln pb a0 a1 g⟩) :
    (exT_6 w hB).1 K ⟨lwS e st o21 o22 o23 o24 o25 o26 (some (prt ds cf a)) (some (prt ds cf b)) (some (entV ((b.nm.length - 1) + (a.nm.length - 1)) (b.nm.length + a.nm.length) (b.tc cf + a.tc cf) (b.pr cf + a.pr cf) (wkK a ++ wkK b) (a.dp ++ b.dp))) (some (entV 1 0 0 (b.tc cf + a.tc cf) (wkK (.node a b)) ((a.nm ++ b.nm).map fun u_ => 1))), tHp rs bk bv p e.x ln pb a0 a1 g⟩ := by
  unfold exT_6
  dsimp only
  k_go
  refine ⟨_, _, _, _, _, _, _, _, wkK a ++ wkK b, wkK (.node a b), a.dp ++ b.dp, (a.nm ++ b.nm).map fun u_ => 1, rfl, hn, by simp [wkK, LT.dp_len], by simp [wkK, LT.nm], by simp [wkK, LT.nm]; omega, ?_⟩
  have e1 : mrgK (wkK a ++ wkK b) (wkK (.node a b)) = wkK (.node a b) := by
    rw [wkK_node]; exact mrgK_in _ _ fun k hk => hk
  have e2 : mrgV (wkK a ++ wkK b) (a.dp ++ b.dp) (wkK (.node a b)) ((a.nm ++ b.nm).map fun u_ => 1) = (LT.node a b).dp := by
    have := mrgV_same (wkK a ++ wkK b) (a.dp ++ b.dp) [] [] (by simpa using hn) rfl (by simp [wkK, LT.dp_len])
    simp only [List.nil_append] at this
    rw [wkK_node]
    have e3 : ((a.nm ++ b.nm).map fun u_ => (1 : Int)) = (wkK a ++ wkK b).map fun u_ => 1 := by simp [wkK]; rfl
    rw [e3]; exact this
  rw [e1, e2]
  have e4 : entV (1 + ((b.nm.length - 1) + (a.nm.length - 1))) (0 + (b.nm.length + a.nm.length)) (0 + (b.tc cf + a.tc cf)) ((b.tc cf + a.tc cf) + (b.pr cf + a.pr cf)) (wkK (.node a b)) (LT.node a b).dp = bkE cf (.node a b) := by
    unfold bkE
    have n1 : (1 : Int) + ((b.nm.length - 1) + (a.nm.length - 1)) = (((LT.node a b).nm.length : Nat) : Int) - 1 := by simp only [LT.nm, List.length_append, Int.natCast_add]; omega
    have n2 : (0 : Int) + (b.nm.length + a.nm.length) = ((LT.node a b).nm.length : Nat) := by simp only [LT.nm, List.length_append, Int.natCast_add]; omega
    have n3 : (0 : Int) + (b.tc cf + a.tc cf) = (LT.node a b).tc cf := by rw [LT.tc_node]; omega
    have n4 : (b.tc cf + a.tc cf) + (b.pr cf + a.pr cf) = (LT.node a b).pr cf := by simp only [LT.pr]; omega
    rw [n1, n2, n3, n4]
  rw [e4]
  k_go
  refine ⟨by decide, by decide, by omega, by omega, ?_⟩
  exact hK _ _
theorem turn7 (w : World) (hB : Heap) (e : Sta) (ds : List Int) (cf : Nat → Int) (a b : LT) (st : List Int) (o21 o22 o23 o24 o25 o26 o29 o30 : Option SV) (rs : List SV) (bk : List Cs) (bv : List SV) (p : Nat) (ln : Int) (pb : List Cs) (a0 a1 : Cs) (g : List SO)
    (hl : a.nm.length + b.nm.length ≤ 100) (hpb : pb.length ≤ 1000) (K : AFl → St → Prop)
    (hK : K .next ⟨lwS e st o21 o22 o23 o24 o25 o26 (some (prt ds cf a)) (some (prt ds cf b)) o29 o30, tHp rs bk bv p e.x ln (pb ++ [wd ds (.node a b)]) a0 a1 g⟩) :
    (exT_7 w hB).1 K ⟨lwS e st o21 o22 o23 o24 o25 o26 (some (prt ds cf a)) (some (prt ds cf b)) o29 o30, tHp rs bk bv p e.x ln pb a0 a1 g⟩ := by
  have l1 := wd_len (ds := ds) a
  have l2 := wd_len (ds := ds) b
  unfold wd at l1 l2
  rw [List.length_append] at l1 l2
  unfold exT_7
  dsimp only
  k_go
  refine ⟨by decide, ⟨rfl, rfl⟩, by decide, by decide, by omega, by decide, by simp only [List.length_append]; omega, by decide, by simp only [List.length_append]; omega, ?_⟩
  refine ⟨rfl, 5, 7, [], 1, 0, pb, lexA1 _ _ _ _ _ _ _ _ _ _, hpb, ?_⟩
  rw [wd_node] at hK
  exact hK
theorem hdW_app {ds : List Int} {r : List LT} {n : LT} (h : r ≠ []) : hdW ds (r ++ [n]) = hdW ds r ∧ (r ++ [n]).tail.map (wd ds) = r.tail.map (wd ds) ++ [wd ds n] := by
  cases r with
  | nil => exact absurd rfl h
  | cons t r => exact ⟨rfl, by simp⟩
theorem turn8 (w : World) (hB : Heap) (e : Sta) (ds : List Int) (r2 : List LT) (n : LT) (st : List Int) (o21 o22 o23 o24 o25 o26 o27 o28 o29 o30 : Option SV) (rs : List SV) (bk : List Cs) (bv : List SV) (p : Nat) (ln : Int) (a0 : Cs) (g : List SO)
    (hl : n.nm.length ≤ 7) (K : AFl → St → Prop)
    (hK : K .next ⟨lwS e st o21 o22 o23 o24 o25 o26 o27 o28 o29 o30, tHp rs bk bv p e.x ln ((r2 ++ [n]).tail.map (wd ds)) a0 (hdW ds (r2 ++ [n])) g⟩) :
    (exT_8 w hB).1 K ⟨lwS e st o21 o22 o23 o24 o25 o26 o27 o28 o29 o30, tHp rs bk bv p e.x ln (r2.tail.map (wd ds) ++ [wd ds n]) a0 (hdW ds r2) g⟩ := by
  have l1 := wd_len (ds := ds) n
  unfold exT_8
  dsimp only
  k_go
  refine ⟨by decide, ?_⟩
  cases r2 with
  | nil =>
    have e0 : (hdW ds [] == []) = true := rfl
    rw [e0]
    k_go
    refine ⟨by decide, ⟨rfl, rfl⟩, rfl, 5, 7, [], 1, 0, [wd ds n], lexA1 _ _ _ _ _ _ _ _ _ _, ?_⟩
    refine ⟨by decide, ?_⟩
    simp only [lexP, List.set]
    k_go
    refine ⟨by decide, by decide, by decide, ?_⟩
    refine ⟨by omega, ?_⟩
    k_go
    refine ⟨by decide, by decide, ?_⟩
    exact hK
  | cons t r2 =>
    obtain ⟨h1, h2⟩ := hdW_app (ds := ds) (r := t :: r2) (n := n) (by simp)
    rw [h1, h2] at hK
    have e0 : (hdW ds (t :: r2) == []) = false := by
      have := wd_ne (ds := ds) t
      show (wd ds t == []) = false
      simpa using this
    rw [e0]
    exact hK
theorem turn9 (w : World) (hB : Heap) (e : Sta) (x y : Int) (st : List Int) (o21 o22 o23 o24 o25 o26 o27 o28 o29 o30 : Option SV) (hp : List SO) (hl : st.length ≤ 50) (K : AFl → St → Prop)
    (hK : ∀ st', st'.Perm (st ++ [x + y]) → st'.Pairwise (· ≤ ·) → K .next ⟨lwS e st' o21 o22 o23 o24 o25 o26 o27 o28 o29 o30, hp⟩) :
    (exT_9 w hB).1 K ⟨lwS e (x :: y :: st) o21 o22 o23 o24 o25 o26 o27 o28 o29 o30, hp⟩ := by
  unfold exT_9
  dsimp only
  k_go
  refine ⟨by simp [SI]; omega, by decide, by decide, by decide, by
    show (SI st).length + 1 ≤ 100000
    simp [SI]; omega, ?_⟩
  refine ⟨st ++ [x + y], by simp [SI], by simp; omega, fun st' h1 h2 => hK st' h1 h2⟩
theorem flatMap_perm {α β : Type} (f : α → List β) {l l' : List α} (h : l.Perm l') : (l.flatMap f).Perm (l'.flatMap f) := by
  induction h with
  | nil => exact .refl _
  | cons x w1_ ih => simp only [List.flatMap_cons]; exact ih.append_left _
  | swap x y l =>
    simp only [List.flatMap_cons, ← List.append_assoc]
    exact List.perm_append_comm.append_right _
  | trans w1_ w2_ h1 h2 => exact h1.trans h2
structure Lett (L : Cs) : Prop where
  le : ∀ d ∈ L, 97 ≤ d ∧ d ≤ 103
  nd : L.Nodup
  len : L.length ≤ 7
structure TIn (cf : Nat → Int) (L : Cs) (l0 : List Int) (q1 q2 : List LT) (st : List Int) (bk : List Cs) (bv : List SV) : Prop where
  nm : ((q1 ++ q2).flatMap LT.nm).Perm L
  lns : Lns cf q1 q2
  mu : Mu cf q1 q2
  hi : HInv cf l0 (q1 ++ q2)
  so : st.Pairwise (· ≤ ·)
  sp : st.Perm ((q1 ++ q2).map (LT.tc cf))
  bb : ∀ t ∈ q1 ++ q2, dget bk bv t.nm = some (bkE cf t)
  bl : bk.length = bv.length
section
variable {cf : Nat → Int} {L : Cs} {l0 : List Int} {q1 q2 : List LT} {st : List Int} {bk : List Cs} {bv : List SV}
theorem names_mem {q : List LT} (h : (q.flatMap LT.nm).Perm L) {t : LT} (ht : t ∈ q) : ∀ d ∈ t.nm, d ∈ L := fun d hd => h.mem_iff.mp (List.mem_flatMap.mpr ⟨t, ht, hd⟩)
theorem flat_one : ∀ {q : List LT} {t : LT}, t ∈ q → t.nm.length ≤ (q.flatMap LT.nm).length
  | [], w1_, h => by simp at h
  | u :: q, t, h => by
    rw [List.flatMap_cons, List.length_append]
    rcases List.mem_cons.mp h with rfl | h
    · omega
    · have := flat_one h; omega
theorem names_ok (hL : Lett L) {q : List LT} (h : (q.flatMap LT.nm).Perm L) {t : LT} (ht : t ∈ q) : Ltr t ∧ t.nm.length ≤ 7 := by
  refine ⟨fun d hd => hL.le d (names_mem h ht d hd), ?_⟩
  have h1 := flat_one ht
  have h2 := h.length_eq
  have h3 := hL.len
  omega
theorem flat_count : ∀ q : List LT, q.length ≤ (q.flatMap LT.nm).length
  | [] => by simp
  | t :: q => by
    have := flat_count q
    have := LT.nm_pos t
    rw [List.flatMap_cons, List.length_append, List.length_cons]; omega
theorem TIn.len (hL : Lett L) (h : TIn cf L l0 q1 q2 st bk bv) : q1.length + q2.length ≤ 7 := by
  have h1 := flat_count (q1 ++ q2)
  have h2 := h.nm.length_eq
  have h3 := hL.len
  rw [List.length_append] at h1
  omega
theorem TIn.step (hL : Lett L) (hpos : ∀ t : LT, 0 ≤ t.wt cf) (h : TIn cf L l0 q1 q2 st bk bv) (h2 : 2 ≤ q1.length + q2.length) :
    ∃ x a p1 p2 y b r1 r2 st2, pickQ cf q1 q2 = some (x, a, p1, p2) ∧ pickQ cf p1 p2 = some (y, b, r1, r2) ∧ st = a.tc cf :: b.tc cf :: st2 ∧ (q1 ++ q2).Perm (a :: b :: (r1 ++ r2)) ∧
      ∀ st', st'.Perm (st2 ++ [a.tc cf + b.tc cf]) → st'.Pairwise (· ≤ ·) → TIn cf L l0 r1 (r2 ++ [.node a b]) st' (dkeys bk (a.nm ++ b.nm)) (dvals bk bv (a.nm ++ b.nm) (bkE cf (.node a b))) := by
  obtain ⟨x, a, p1, p2, ha⟩ := pick_some (cf := cf) (q1 := q1) (q2 := q2) (fun e => by have := congrArg List.length e; rw [List.length_append] at this; simp only [List.length_nil] at this; omega)
  have e1 := (pick_ok h.lns ha).1
  obtain ⟨y, b, r1, r2, hb⟩ := pick_some (cf := cf) (q1 := p1) (q2 := p2) (fun e => by rw [e] at e1; have := e1.length_eq; rw [List.length_append] at this; simp only [List.length_nil, List.length_cons] at this; omega)
  have e2 := (pick_ok (pick_ok h.lns ha).2.2 hb).1
  have hP : (q1 ++ q2).Perm (a :: b :: (r1 ++ r2)) := e1.trans (e2.cons a)
  have hN : ((a :: b :: (r1 ++ r2)).flatMap LT.nm).Perm L := (flatMap_perm LT.nm hP).symm.trans h.nm
  have hNd : ((a :: b :: (r1 ++ r2)).flatMap LT.nm).Nodup := hN.nodup_iff.mpr hL.nd
  have hlen := hN.length_eq
  have hL7 := hL.len
  simp only [List.flatMap_cons, List.length_append] at hlen
  have hf : (LT.node a b).nm.length ≤ 100 := by simp only [LT.nm, List.length_append]; omega
  obtain ⟨_, hab, hr, l1, m1, _⟩ := step_ok h.lns h.mu (fun t u_ => hpos t) ha hb hf
  have hlb : b.nm.length ≤ 100 := by omega
  have hin : ∀ t ∈ r1 ++ r2, t.nm.length ≤ 100 := fun t ht => by
    have := (names_ok hL hN (t := t) (List.mem_cons_of_mem _ (List.mem_cons_of_mem _ ht))).2
    omega
  have hst : st.Perm (a.tc cf :: b.tc cf :: (r1 ++ r2).map (LT.tc cf)) := h.sp.trans (by simpa using hP.map (LT.tc cf))
  obtain ⟨st2, rfl, hs2⟩ := sorted_two h.so hst (tc_of_wt hab hlb) (fun z hz => by
    obtain ⟨u, hu, rfl⟩ := List.mem_map.mp hz
    exact tc_of_wt (hr u hu) (hin u hu))
  refine ⟨x, a, p1, p2, y, b, r1, r2, st2, ha, hb, rfl, hP, fun st' hp' hs' => ?_⟩
  have hq : (r1 ++ (r2 ++ [LT.node a b])).Perm (.node a b :: (r1 ++ r2)) := by
    rw [← List.append_assoc]
    exact List.perm_append_comm
  refine ⟨?_, l1, m1, h.hi.step hP hab hr hq, hs', ?_, fun t ht => ?_, dk_len h.bl⟩
  · refine (flatMap_perm LT.nm hq).trans ?_
    simp only [List.flatMap_cons, LT.nm] at hN ⊢
    rw [List.append_assoc]; exact hN
  · refine hp'.trans ?_
    have e : ((r1 ++ (r2 ++ [LT.node a b])).map (LT.tc cf)) = (r1 ++ r2).map (LT.tc cf) ++ [a.tc cf + b.tc cf] := by simp [LT.tc_node]
    rw [e]
    exact hs2.append_right _
  · rw [dget_put h.bl]
    have ht' := hq.mem_iff.mp ht
    rcases List.mem_cons.mp ht' with rfl | ht2
    · exact if_pos rfl
    · have hne : ¬ t.nm = a.nm ++ b.nm := fun e => by
        have hp := LT.nm_pos t
        obtain ⟨d, hd⟩ : ∃ d, d ∈ t.nm := by
          cases e3 : t.nm with
          | nil => rw [e3] at hp; simp at hp
          | cons d w1_ => exact ⟨d, by simp⟩
        have hd1 : d ∈ a.nm ++ b.nm := by rw [← e]; exact hd
        have hd2 : d ∈ (r1 ++ r2).flatMap LT.nm := List.mem_flatMap.mpr ⟨t, ht2, hd⟩
        simp only [List.flatMap_cons] at hNd
        rw [← List.append_assoc] at hNd
        exact (List.nodup_append.mp hNd).2.2 d hd1 d hd2 rfl
      rw [if_neg hne]
      exact h.bb t (hP.mem_iff.mpr (List.mem_cons_of_mem _ (List.mem_cons_of_mem _ ht2)))
end
noncomputable def nx (w2 : T AFl) (K : AFl → St → Prop) : AFl → St → Prop := fun fl st => match fl with
  | .next => w2 K st
  | .brk => K .brk st
  | .cont => K .cont st
  | .ret v => K (.ret v) st
theorem seq_mk {w1 w2 : T AFl} {K : AFl → St → Prop} {st : St} (h : w1 (nx w2 K) st) : wSeq w1 w2 K st := h
theorem nx_next {w2 : T AFl} {K : AFl → St → Prop} {st : St} (h : w2 K st) : nx w2 K .next st := h
theorem turn_step (w : World) (hB : Heap) (e : Sta) (ds : List Int) (m : LT → Int) {L : Cs} {l0 : List Int} {q1 q2 : List LT} {st : List Int} {bk : List Cs} {bv : List SV} (o21 o22 o23 o24 o25 o26 o27 o28 o29 o30 : Option SV) (rs : List SV) (p : Nat) (ln : Int) (g : List SO)
    (hL : Lett L) (hts : 1 ≤ e.ts ∧ e.ts ≤ 4) (hx : e.x.length ≤ 100000) (h : TIn (lwC ds e.ts) L l0 q1 q2 st bk bv) (h2 : 2 ≤ q1.length + q2.length) (hbk : bk.length ≤ 100) (h1 : Ln1 ds m e.x q1 (hdW ds q1) p ln) (K : AFl → St → Prop)
    (hK : ∀ q1' q2' st' bk' bv' p' ln' g' o22 o23 o24 o25 o26 o27 o28 o29 o30, TIn (lwC ds e.ts) L l0 q1' q2' st' bk' bv' → q1'.length + q2'.length + 1 = q1.length + q2.length → bk'.length ≤ bk.length + 1 → Ln1 ds m e.x q1' (hdW ds q1') p' ln' →
      K .next ⟨lwS e st' o21 o22 o23 o24 o25 o26 o27 o28 o29 o30, tHp rs bk' bv' p' e.x ln' (q2'.tail.map (wd ds)) (hdW ds q1') (hdW ds q2') g'⟩) :
    (exTB w hB).1 K ⟨lwS e st o21 o22 o23 o24 o25 o26 o27 o28 o29 o30, tHp rs bk bv p e.x ln (q2.tail.map (wd ds)) (hdW ds q1) (hdW ds q2) g⟩ := by
  obtain ⟨x, a, p1, p2, y, b, r1, r2, st2, ha, hb, rfl, hP, hT⟩ := h.step hL (wt_pos hts.1) h2
  have hl7 := h.len hL
  have hq : ∀ t ∈ q1 ++ q2, Ltr t ∧ t.nm.length ≤ 7 := fun t ht => names_ok hL h.nm ht
  have hN : ((a :: b :: (r1 ++ r2)).flatMap LT.nm).Perm L := (flatMap_perm LT.nm hP).symm.trans h.nm
  have hNd : ((a :: b :: (r1 ++ r2)).flatMap LT.nm).Nodup := hN.nodup_iff.mpr hL.nd
  have hlen := hN.length_eq
  have hL7 := hL.len
  simp only [List.flatMap_cons, List.length_append] at hlen
  have hab : (a.nm ++ b.nm).Nodup := by
    simp only [List.flatMap_cons] at hNd
    rw [← List.append_assoc] at hNd
    exact (List.nodup_append.mp hNd).1
  have hwk : (wkK a ++ wkK b).Nodup := by rw [← wkK_node]; exact wkK_nodup hab
  have hr : r1.length + r2.length + 2 = q1.length + q2.length := by
    have := hP.length_eq
    simp only [List.length_cons, List.length_append] at this
    omega
  have hs := h.sp.length_eq
  simp only [List.length_cons, List.length_map, List.length_append] at hs
  have hA := h.bb a (hP.mem_iff.mpr (by simp))
  have hB' := h.bb b (hP.mem_iff.mpr (by simp))
  unfold exTB
  dsimp only
  refine seq_mk ?_
  refine turn0 w hB e _ o21 o22 o23 o24 o25 o26 o27 o28 o29 o30 rs bk bv p ln _ _ _ g _ ?_
  refine nx_next ?_
  refine seq_mk ?_
  refine turn1 w hB e ds m _ o21 o23 o24 o25 o26 o27 o28 o29 o30 rs bk bv p ln g hts (fun t ht => hq t (List.mem_append_left _ ht)) (fun t ht => hq t (List.mem_append_right _ ht)) h1 (by omega) hx ha hb _ fun p' ln' o23 o24 o25 o26 k1 => ?_
  refine nx_next ?_
  refine seq_mk ?_
  refine turn2 w hB e ds (lwC ds e.ts) a b st2 o21 o23 o24 o25 o26 o27 o28 o29 o30 rs bk bv p' ln' _ _ _ g (by omega) _ ?_
  refine nx_next ?_
  refine seq_mk ?_
  refine turn3 w hB e _ _ _ o21 o23 o24 o25 o26 o27 o28 o29 o30 rs bk bv p' ln' _ _ _ g _ ?_
  refine nx_next ?_
  refine seq_mk ?_
  refine turn4 w hB e ds (lwC ds e.ts) a b _ o21 _ o23 o24 o25 o26 o29 o30 rs bk bv p' ln' _ _ _ _ hA hB' hwk (by omega) _ ?_
  refine nx_next ?_
  refine seq_mk ?_
  refine turn5 w hB e ds (lwC ds e.ts) a b _ _ _ _ _ _ _ o21 _ o23 o24 o25 o26 o30 rs bk bv p' ln' _ _ _ _ hab (by omega) _ ?_
  refine nx_next ?_
  refine seq_mk ?_
  refine turn6 w hB e ds (lwC ds e.ts) a b _ o21 _ o23 o24 o25 o26 rs bk bv p' ln' _ _ _ _ hwk (by omega) (by omega) _ fun o29 o30 => ?_
  refine nx_next ?_
  refine seq_mk ?_
  refine turn7 w hB e ds (lwC ds e.ts) a b _ o21 _ o23 o24 o25 o26 o29 o30 rs _ _ p' ln' _ _ _ _ (by omega) (by simp; omega) _ ?_
  refine nx_next ?_
  refine seq_mk ?_
  refine turn8 w hB e ds r2 (.node a b) _ o21 _ o23 o24 o25 o26 _ _ o29 o30 rs _ _ p' ln' _ _ (by simp only [LT.nm, List.length_append]; omega) _ ?_
  refine nx_next ?_
  refine turn9 w hB e _ _ st2 o21 _ o23 o24 o25 o26 _ _ o29 o30 _ (by omega) _ fun st' hp' hs' => ?_
  exact hK _ _ st' _ _ p' ln' _ _ _ _ _ _ _ _ _ _ (hT st' hp' hs') (by simp; omega) dk_le k1
inductive TurnI (ds : List Int) (e : Sta) (m : LT → Int) (L : Cs) (l0 : List Int) (rs : List SV) (xs : List SV) (s : St) : Prop
  | mk (j : Nat) (q1 q2 : List LT) (st : List Int) (bk : List Cs) (bv : List SV) (p : Nat) (ln : Int) (g : List SO) (o21 o22 o23 o24 o25 o26 o27 o28 o29 o30 : Option SV) (k1 : xs = rngL j ((e.n : Int) - 1)) (k2 : TIn (lwC ds e.ts) L l0 q1 q2 st bk bv) (k3 : q1.length + q2.length + j = e.n) (k3' : j + 1 ≤ e.n) (k4 : bk.length ≤ 7 + j) (k5 : Ln1 ds m e.x q1 (hdW ds q1) p ln)
    (k6 : s = ⟨lwS e st o21 o22 o23 o24 o25 o26 o27 o28 o29 o30, tHp rs bk bv p e.x ln (q2.tail.map (wd ds)) (hdW ds q1) (hdW ds q2) g⟩) : TurnI ds e m L l0 rs xs s
theorem turns (w : World) (hB : Heap) (e : Sta) (ds : List Int) (m : LT → Int) {L : Cs} {l0 : List Int} {q1 q2 : List LT} {st : List Int} {bk : List Cs} {bv : List SV} (o21 o22 o23 o24 o25 o26 o27 o28 o29 o30 : Option SV) (rs : List SV) (p : Nat) (ln : Int) (g : List SO)
    (hL : Lett L) (hts : 1 ≤ e.ts ∧ e.ts ≤ 4) (hx : e.x.length ≤ 100000) (h : TIn (lwC ds e.ts) L l0 q1 q2 st bk bv) (hn : q1.length + q2.length = e.n) (hn1 : 1 ≤ e.n) (hbk : bk.length ≤ 7) (h1 : Ln1 ds m e.x q1 (hdW ds q1) p ln) (K : AFl → St → Prop)
    (hK : ∀ q1' q2' st' bk' bv' p' ln' g' o21 o22 o23 o24 o25 o26 o27 o28 o29 o30, TIn (lwC ds e.ts) L l0 q1' q2' st' bk' bv' → q1'.length + q2'.length = 1 → Ln1 ds m e.x q1' (hdW ds q1') p' ln' →
      K .next ⟨lwS e st' o21 o22 o23 o24 o25 o26 o27 o28 o29 o30, tHp rs bk' bv' p' e.x ln' (q2'.tail.map (wd ds)) (hdW ds q1') (hdW ds q2') g'⟩) :
    (exLaw_17 w hB).1 K ⟨lwS e st o21 o22 o23 o24 o25 o26 o27 o28 o29 o30, tHp rs bk bv p e.x ln (q2.tail.map (wd ds)) (hdW ds q1) (hdW ds q2) g⟩ := by
  have hl7 := h.len hL
  unfold exLaw_17
  dsimp only
  refine ⟨⟨by decide, by decide, by show -1000000 ≤ (e.n : Int) - 1; omega, by show (e.n : Int) - 1 ≤ 1000000; omega⟩, clos_rng _ _, ?_⟩
  refine loop_indF (TurnI ds e m L l0 rs) ?_ ?_ _ _ ⟨0, q1, q2, st, bk, bv, p, ln, g, _, _, _, _, _, _, _, _, _, _, rfl, h, by omega, by omega, by omega, h1, rfl⟩
  · rintro s ⟨j, q1, q2, st, bk, bv, p, ln, g, o21, o22, o23, o24, o25, o26, o27, o28, o29, o30, k1, k2, k3, k3', k4, k5, rfl⟩
    have hj : j + 1 = e.n := by have := rngL_end k1 rfl; omega
    exact hK _ _ _ _ _ _ _ _ _ _ _ _ _ _ _ _ _ _ k2 (by omega) k5
  · rintro z zs s F ⟨j, q1, q2, st, bk, bv, p, ln, g, o21, o22, o23, o24, o25, o26, o27, o28, o29, o30, k1, k2, k3, k3', k4, k5, rfl⟩ ih
    obtain ⟨hlt, rfl, rfl⟩ := rngL_step k1
    refine ⟨_, .refl, ?_⟩
    have := k2.len hL
    refine turn_step w hB e ds m (some (.int j)) o22 o23 o24 o25 o26 o27 o28 o29 o30 rs p ln g hL hts hx k2 (by omega) (by omega) k5 _ fun q1' q2' st' bk' bv' p' ln' g' o22 o23 o24 o25 o26 o27 o28 o29 o30 t1 t2 t3 t4 => ?_
    exact ih _ ⟨j + 1, q1', q2', st', bk', bv', p', ln', g', _, _, _, _, _, _, _, _, _, _, rfl, t1, by omega, by omega, by omega, t4, rfl⟩
noncomputable def mT (ds : List Int) : LT → Int
  | .leaf c => ds.getD (c - 97) 0 / 324 + ((c - 97 : Nat) : Int)
  | _ => 0
noncomputable def wrT (ds : List Int) (t : LT) : Cs := writtenN (wd ds t) (mT ds t)
noncomputable def rowV (ds : List Int) (ts : Nat) (t : LT) : SV := .tup [.int (t.tc (lwC ds ts)), .str t.nm, .str (wrT ds t)]
noncomputable def lts (n : Nat) : Cs := List.range' 97 n
noncomputable def ldS (ds : List Int) : List SV := ds.map fun z => .str (leadN z)
noncomputable abbrev kS (s0 : SV) (ds : List Int) (tot : Int) (ts : Nat) (d : Int) (o10 o11 o12 o13 o14 : Option SV) : List (Option SV) :=
  [some s0, some (.list (SI ds)), some (.int ds.length), some (.str (lts ds.length)), some (.list (ldS ds)), some (.int tot), some (.int ts), some (tcV d), some (.obj 0), some (.obj 1), o10, o11, o12, o13, o14, none, none, none, none, none, none, none, none, none, none, none, none, none, none, none, none, none, none, none, none]
section
variable {ds : List Int} {ts : Nat}
theorem wd_leaf (k : Nat) (hk : k < ds.length) : wd ds (.leaf (97 + k)) = leadN ds[k] ++ [97 + k] := by
  have e : (97 + k) - 97 = k := by omega
  have e2 : ds.getD k 0 = ds[k] := by simp [List.getD_eq_getElem?_getD, hk]
  unfold wd ldT
  simp only [LT.nm, List.flatMap_cons, List.flatMap_nil, List.append_nil, lwL, lwP, e, e2, leadN_ld]
theorem ldS_nth (k : Nat) (hk : k < ds.length) : nth (ldS ds) k = some (.str (leadN ds[k])) := by rw [nth_eq]; simp [ldS, hk]
theorem lts_get (n k : Nat) (hk : k < n) : (lts n)[k]? = some (97 + k) := by simp [lts, hk]
theorem k0 (w : World) (hB : Heap) (s0 : SV) (tot : Int) (d : Int) (o11 o12 o13 o14 : Option SV) (hp : List SO) (k : Nat) (hk : k < ds.length) (hn : ds.length ≤ 7) (K : AFl → St → Prop)
    (hK : K .next ⟨kS s0 ds tot ts d (some (.int k)) (some (.str (wd ds (.leaf (97 + k))))) o12 o13 o14, hp⟩) :
    (exK_0 w hB).1 K ⟨kS s0 ds tot ts d (some (.int k)) o11 o12 o13 o14, hp⟩ := by
  have l1 := wd_len (ds := ds) (.leaf (97 + k))
  have e1 : (LT.leaf (97 + k)).nm.length = 1 := rfl
  rw [wd_leaf k hk] at hK l1
  rw [List.length_append] at l1
  unfold exK_0
  dsimp only
  k_go
  rw [Int.toNat_natCast, ldS_nth k hk, lts_get _ _ hk]
  refine ⟨by omega, by omega, ?_, ?_⟩
  · simp at l1 ⊢; omega
  exact hK
theorem k1 (w : World) (hB : Heap) (s0 : SV) (tot : Int) (d : Int) (o10 o12 o13 o14 : Option SV) (hp : List SO) (x : Cs) (hx : x.length ≤ 1000) (K : AFl → St → Prop)
    (hK : K .next ⟨kS s0 ds tot ts d o10 (some (.str x)) (some (wsV x)) o13 o14, hp⟩) :
    (exK_1 w hB).1 K ⟨kS s0 ds tot ts d o10 (some (.str x)) o12 o13 o14, hp⟩ := by
  unfold exK_1
  exact ⟨hx, hK⟩
theorem k2 (w : World) (hB : Heap) (s0 : SV) (tot : Int) (d : Int) (o13 o14 : Option SV) (hp : List SO) (k : Nat) (hk : k < ds.length) (hn : ds.length ≤ 7) (hts : 1 ≤ ts ∧ ts ≤ 4) (K : AFl → St → Prop)
    (hK : K .next ⟨kS s0 ds tot ts d (some (.int k)) (some (.str (wd ds (.leaf (97 + k))))) (some (wsV (wd ds (.leaf (97 + k))))) (some (rowV ds ts (.leaf (97 + k)))) o14, hp⟩) :
    (exK_2 w hB).1 K ⟨kS s0 ds tot ts d (some (.int k)) (some (.str (wd ds (.leaf (97 + k))))) (some (wsV (wd ds (.leaf (97 + k))))) o13 o14, hp⟩ := by
  have l1 := wd_len (ds := ds) (.leaf (97 + k))
  have e1 : (LT.leaf (97 + k)).nm.length = 1 := rfl
  have hL : Ltr (.leaf (97 + k)) := fun c hc => by
    have : c = 97 + k := by simpa [LT.nm] using hc
    omega
  unfold exK_2
  dsimp only
  k_go
  refine ⟨⟨rfl, rfl⟩, _, ts, rfl, wd_norm hL, by omega, by omega, ?_⟩
  refine ⟨rfl, rfl, trivial, ?_⟩
  have e3 : (wsR (wd ds (.leaf (97 + k))) [] 0 0 0).2.2.1 = (ldT ds (.leaf (97 + k))).length := by rw [wd_wsR hL]
  have e4 := wd_drop (ds := ds) (.leaf (97 + k))
  have e5 : (ldT ds (.leaf (97 + k))).length ≤ 1000 := by
    unfold wd at l1
    rw [List.length_append] at l1
    omega
  rw [e3]
  generalize (ldT ds (.leaf (97 + k))).length = n at e4 e5
  have e6 : mT ds (.leaf (97 + k)) = ds[k] / 324 + k := by
    have e : (97 + k) - 97 = k := by omega
    simp only [mT, e]
    simp [List.getD_eq_getElem?_getD, hk]
  have e7 := wd_lvl (ds := ds) hts.1 hL
  unfold rowV wrT at hK
  rw [e6, ← e7, ← e4] at hK
  dsimp only
  k_go
  rw [if_pos (by omega), Int.toNat_natCast, Int.toNat_natCast, SI_nth hk]
  dsimp only
  refine ⟨by omega, by omega, by omega, by omega, by simp, ?_⟩
  exact hK
theorem cmp_lt {d a b : Int} {x y : Cs} (h : cmpN d a b x y < 0) : a ≤ b := by
  unfold cmpN at h
  split at h
  · omega
  · split at h
    · omega
    · omega
theorem cmp_ge {d a b : Int} {x y : Cs} (h : ¬ cmpN d a b x y < 0) : b ≤ a := by
  unfold cmpN at h
  split at h
  · omega
  · omega
theorem k4 (w : World) (hB : Heap) (s0 : SV) (tot : Int) (d : Int) (o10 o11 o12 : Option SV) (q : List LT) (t : LT) (bk : List Cs) (bv : List SV) (hq : q.length ≤ 100) (K : AFl → St → Prop)
    (hK : ∀ i : Nat, i ≤ q.length → (∀ j (h : j < q.length), j < i → q[j].tc (lwC ds ts) ≤ t.tc (lwC ds ts)) → (∀ h : i < q.length, t.tc (lwC ds ts) ≤ q[i].tc (lwC ds ts)) → K .next ⟨kS s0 ds tot ts d o10 o11 o12 (some (rowV ds ts t)) (some (.int i)), [.list (q.map (rowV ds ts)), .dict bk bv]⟩) :
    (exK_4 w hB).1 K ⟨kS s0 ds tot ts d o10 o11 o12 (some (rowV ds ts t)) (some (.int 0)), [.list (q.map (rowV ds ts)), .dict bk bv]⟩ := by
  unfold exK_4
  dsimp only
  refine while_indF (fun n s => ∃ i : Nat, i + n = q.length ∧ (∀ j (h : j < q.length), j < i → q[j].tc (lwC ds ts) ≤ t.tc (lwC ds ts)) ∧ s = ⟨kS s0 ds tot ts d o10 o11 o12 (some (rowV ds ts t)) (some (.int i)), [.list (q.map (rowV ds ts)), .dict bk bv]⟩) ?_ q.length _ ⟨0, by omega, fun j h h' => by omega, rfl⟩
  rintro n s F ⟨i, h1, h2, rfl⟩ ih
  refine ⟨_, .refl, ?_⟩
  k_go
  rw [List.length_map]
  refine ⟨by omega, ?_⟩
  by_cases hi : i < q.length
  · have e1 : decide ((i : Int) < (q.length : Int)) = true := by simp; exact hi
    rw [e1]
    k_go
    refine ⟨⟨rfl, rfl⟩, by omega, ?_⟩
    have e2 : nth (q.map (rowV ds ts)) i = some (rowV ds ts q[i]) := by rw [nth_eq]; simp [hi]
    rw [Int.toNat_natCast, e2]
    refine ⟨d, q[i].tc (lwC ds ts), t.tc (lwC ds ts), q[i].nm, t.nm, .str (wrT ds q[i]), .str (wrT ds t), rfl, by simp [clo], by simp [clo], ?_⟩
    by_cases hc : cmpN d (q[i].tc (lwC ds ts)) (t.tc (lwC ds ts)) q[i].nm t.nm < 0
    · have e3 : decide (cmpN d (q[i].tc (lwC ds ts)) (t.tc (lwC ds ts)) q[i].nm t.nm < 0) = true := by simpa using hc
      k_go
      rw [e3]
      k_go
      refine ih (n - 1) _ (by omega) ⟨i + 1, by omega, fun j h h' => ?_, rfl⟩
      rcases Nat.lt_or_ge j i with h3 | h3
      · exact h2 j h h3
      · have : j = i := by omega
        subst this
        exact cmp_lt hc
    · have e3 : decide (cmpN d (q[i].tc (lwC ds ts)) (t.tc (lwC ds ts)) q[i].nm t.nm < 0) = false := by simpa using hc
      k_go
      rw [e3]
      k_go
      exact hK i (by omega) h2 fun h => cmp_ge hc
  · have e1 : decide ((i : Int) < (q.length : Int)) = false := by simp; omega
    rw [e1]
    k_go
    exact hK i (by omega) h2 fun h => absurd h hi
end
section
variable {ds : List Int} {ts : Nat}
theorem k3 (w : World) (hB : Heap) (s0 : SV) (tot : Int) (d : Int) (o10 o11 o12 o13 o14 : Option SV) (hp : List SO) (K : AFl → St → Prop)
    (hK : K .next ⟨kS s0 ds tot ts d o10 o11 o12 o13 (some (.int 0)), hp⟩) : (exK_3 w hB).1 K ⟨kS s0 ds tot ts d o10 o11 o12 o13 o14, hp⟩ := by
  unfold exK_3
  exact hK
theorem k5 (w : World) (hB : Heap) (s0 : SV) (tot : Int) (d : Int) (o10 o11 o12 : Option SV) (q : List LT) (t : LT) (i : Nat) (bk : List Cs) (bv : List SV) (hq : q.length ≤ 100) (hi : i ≤ q.length) (K : AFl → St → Prop)
    (hK : K .next ⟨kS s0 ds tot ts d o10 o11 o12 (some (rowV ds ts t)) (some (.int i)), [.list ((q.take i ++ t :: q.drop i).map (rowV ds ts)), .dict bk bv]⟩) :
    (exK_5 w hB).1 K ⟨kS s0 ds tot ts d o10 o11 o12 (some (rowV ds ts t)) (some (.int i)), [.list (q.map (rowV ds ts)), .dict bk bv]⟩ := by
  unfold exK_5
  dsimp only
  k_go
  rw [List.length_map]
  refine ⟨rfl, by omega, by omega, ?_⟩
  have e : List.take (i : Int).toNat (List.map (rowV ds ts) q) ++ rowV ds ts t :: List.drop (i : Int).toNat (List.map (rowV ds ts) q) = (q.take i ++ t :: q.drop i).map (rowV ds ts) := by simp [List.map_take, List.map_drop]
  rw [e]
  exact hK
theorem k6 (w : World) (hB : Heap) (s0 : SV) (tot : Int) (d : Int) (o10 o11 o12 o14 : Option SV) (rs : List SV) (c : Nat) (bk : List Cs) (bv : List SV) (hb : bk.length ≤ 100) (K : AFl → St → Prop)
    (hK : K .next ⟨kS s0 ds tot ts d o10 o11 o12 (some (rowV ds ts (.leaf c))) o14, [.list rs, .dict (dkeys bk [c]) (dvals bk bv [c] (bkE (lwC ds ts) (.leaf c)))]⟩) :
    (exK_6 w hB).1 K ⟨kS s0 ds tot ts d o10 o11 o12 (some (rowV ds ts (.leaf c))) o14, [.list rs, .dict bk bv]⟩ := by
  unfold exK_6
  dsimp only
  unfold rowV at *
  k_go
  refine ⟨by decide, ?_⟩
  unfold wDict1
  k_go
  refine ⟨by decide, by decide, by decide, by omega, ?_⟩
  exact hK
structure RowI (ds : List Int) (ts : Nat) (k : Nat) (q : List LT) (bk : List Cs) (bv : List SV) : Prop where
  pm : q.Perm ((lts k).map .leaf)
  so : q.Pairwise fun a b => a.tc (lwC ds ts) ≤ b.tc (lwC ds ts)
  bb : ∀ t ∈ q, dget bk bv t.nm = some (bkE (lwC ds ts) t)
  bl : bk.length = bv.length
  bn : bk.length ≤ k
theorem RowI.step {k : Nat} {q : List LT} {bk : List Cs} {bv : List SV} (h : RowI ds ts k q bk bv) {i : Nat} (h1 : ∀ j (h : j < q.length), j < i → q[j].tc (lwC ds ts) ≤ (LT.leaf (97 + k)).tc (lwC ds ts)) (h2 : ∀ h : i < q.length, (LT.leaf (97 + k)).tc (lwC ds ts) ≤ q[i].tc (lwC ds ts)) :
    RowI ds ts (k + 1) (q.take i ++ .leaf (97 + k) :: q.drop i) (dkeys bk [97 + k]) (dvals bk bv [97 + k] (bkE (lwC ds ts) (.leaf (97 + k)))) := by
  have hp : (q.take i ++ .leaf (97 + k) :: q.drop i).Perm (.leaf (97 + k) :: q) := by
    refine List.perm_middle.trans ?_
    rw [List.take_append_drop]
  refine ⟨?_, ?_, fun t ht => ?_, dk_len h.bl, by have := dk_le (ks := bk) (x := [97 + k]); have := h.bn; omega⟩
  · refine hp.trans ((h.pm.cons _).trans ?_)
    have e : lts (k + 1) = lts k ++ [97 + k] := by simp [lts, List.range'_concat]
    rw [e, List.map_append]
    exact (List.perm_append_comm (l₁ := (lts k).map LT.leaf) (l₂ := [LT.leaf (97 + k)])).symm
  · have hs := h.so
    rw [← List.take_append_drop i q, List.pairwise_append] at hs
    rw [List.pairwise_append]
    refine ⟨hs.1, List.pairwise_cons.mpr ⟨fun b hb => ?_, hs.2.1⟩, fun a ha b hb => ?_⟩
    · obtain ⟨j, hj, e⟩ := List.mem_iff_getElem.mp hb
      rw [List.length_drop] at hj
      rw [List.getElem_drop] at e
      subst e
      have h3 := h2 (by omega)
      rcases Nat.eq_zero_or_pos j with rfl | hj0
      · simpa using h3
      · exact Int.le_trans h3 (List.pairwise_iff_getElem.mp h.so i (i + j) (by omega) (by omega) (by omega))
    · rcases List.mem_cons.mp hb with rfl | hb
      · obtain ⟨j, hj, e⟩ := List.mem_iff_getElem.mp ha
        rw [List.length_take] at hj
        rw [List.getElem_take] at e
        subst e
        exact h1 j (by omega) (by omega)
      · exact hs.2.2 a ha b hb
  · rw [dget_put h.bl]
    rcases List.mem_cons.mp (hp.mem_iff.mp ht) with rfl | ht2
    · exact if_pos rfl
    · have hne : ¬ t.nm = [97 + k] := fun e => by
        have h3 := h.pm.mem_iff.mp ht2
        obtain ⟨c, hc, rfl⟩ := List.mem_map.mp h3
        have : c = 97 + k := by simpa [LT.nm] using e
        subst this
        simp [lts] at hc
      rw [if_neg hne]
      exact h.bb t ht2
inductive RowsI (ds : List Int) (ts : Nat) (s0 : SV) (tot : Int) (d : Int) (xs : List SV) (s : St) : Prop
  | mk (k : Nat) (q : List LT) (bk : List Cs) (bv : List SV) (o10 o11 o12 o13 o14 : Option SV) (h1 : xs = rngL k (ds.length : Int)) (h2 : k ≤ ds.length) (h3 : RowI ds ts k q bk bv) (h4 : s = ⟨kS s0 ds tot ts d o10 o11 o12 o13 o14, [.list (q.map (rowV ds ts)), .dict bk bv]⟩) : RowsI ds ts s0 tot d xs s
theorem rows_all (w : World) (hB : Heap) (s0 : SV) (tot : Int) (d : Int) (o10 o11 o12 o13 o14 : Option SV) (hn : ds.length ≤ 7) (hts : 1 ≤ ts ∧ ts ≤ 4) (K : AFl → St → Prop)
    (hK : ∀ q bk bv o10 o11 o12 o13 o14, RowI ds ts ds.length q bk bv → K .next ⟨kS s0 ds tot ts d o10 o11 o12 o13 o14, [.list (q.map (rowV ds ts)), .dict bk bv]⟩) :
    (exLaw_10 w hB).1 K ⟨kS s0 ds tot ts d o10 o11 o12 o13 o14, [.list [], .dict [] []]⟩ := by
  unfold exLaw_10
  dsimp only
  refine ⟨⟨by decide, by decide, by show -1000000 ≤ (ds.length : Int); omega, by show (ds.length : Int) ≤ 1000000; omega⟩, clos_rng _ _, ?_⟩
  refine loop_indF (RowsI ds ts s0 tot d) ?_ ?_ _ _ ⟨0, [], [], [], o10, o11, o12, o13, o14, rfl, by omega, ⟨by simp [lts], .nil, by simp, rfl, by simp⟩, rfl⟩
  · rintro s ⟨k, q, bk, bv, o10, o11, o12, o13, o14, h1, h2, h3, rfl⟩
    have hk : k = ds.length := by have := rngL_end h1 rfl; omega
    subst hk
    exact hK _ _ _ _ _ _ _ _ h3
  · rintro z zs s F ⟨k, q, bk, bv, o10, o11, o12, o13, o14, h1, h2, h3, rfl⟩ ih
    obtain ⟨hlt, rfl, rfl⟩ := rngL_step h1
    have hk : k < ds.length := by omega
    have hql : q.length = k := by have := h3.pm.length_eq; simpa [lts] using this
    have hbn := h3.bn
    have hw : (wd ds (.leaf (97 + k))).length ≤ 1000 := by
      have := wd_len (ds := ds) (.leaf (97 + k))
      have e1 : (LT.leaf (97 + k)).nm.length = 1 := rfl
      omega
    refine ⟨_, .refl, ?_⟩
    show (exKB w hB).1 _ ⟨kS s0 ds tot ts d (some (.int k)) o11 o12 o13 o14, _⟩
    unfold exKB
    dsimp only
    refine seq_mk ?_
    refine k0 w hB s0 tot d o11 o12 o13 o14 _ k hk hn _ ?_
    refine nx_next ?_
    refine seq_mk ?_
    refine k1 w hB s0 tot d _ o12 o13 o14 _ _ hw _ ?_
    refine nx_next ?_
    refine seq_mk ?_
    refine k2 w hB s0 tot d o13 o14 _ k hk hn hts _ ?_
    refine nx_next ?_
    refine seq_mk ?_
    refine k3 w hB s0 tot d _ _ _ _ o14 _ _ ?_
    refine nx_next ?_
    refine seq_mk ?_
    refine k4 w hB s0 tot d _ _ _ q _ bk bv (by omega) _ fun i i1 i2 i3 => ?_
    refine nx_next ?_
    refine seq_mk ?_
    refine k5 w hB s0 tot d _ _ _ q _ i bk bv (by omega) i1 _ ?_
    refine nx_next ?_
    refine k6 w hB s0 tot d _ _ _ _ _ _ bk bv (by omega) _ ?_
    exact ih _ ⟨k + 1, _, _, _, _, _, _, _, _, rfl, by omega, h3.step i2 i3, rfl⟩
end
theorem ints_VRs {w : World} {Z : Led} {al : List Addr} {vs : List Value} {ns : List Int} (h : IntsAre vs ns) : VRs w Z al (SI ns) vs := by
  induction h with
  | nil => exact Eq.refl _
  | cons n t w1_ ih =>
    exact ⟨_, _, rfl, ⟨t, rfl⟩, ih⟩
section
variable {w : World} {hB : Heap} {c : Cx} {st : St} {al : List Addr} {Z : Led} {s : Shared}
noncomputable def wSliceG (la : Addr) (ns : List Int) (a lo hi : SV) : T SV := fun k st => on1 (partOf lo) (fun lo => on1 (partOf hi) (fun hi => a = .gl (.ref la) ∧ ns.length ≤ 1000 ∧ k (.list (SI (cutN ns lo hi))) st) False) False
theorem slice_opG {la : Addr} {items : List Value} {ns : List Int} (H : hB.IsList la items.toArray) (hI : IntsAre items ns) {k : SV → St → Prop} {a lo hi : SV} {va vl vu : Value} {value : PySem.Expr} {lower upper : Option PySem.Expr} {p : Pos} (R : SRel w hB c st al Z s) (ra : VR w Z al a va) (rl : VR w Z al lo vl) (ru : VR w Z al hi vu) (hw : wSliceG la ns a lo hi k st) :
    WP w c.A (subscriptTail value (.Slice lower upper none p) va (.ref s.heap.objs.size)) (Ret w hB c al Z s (VR w) k) { s with heap := s.heap.push (sliceO vl vu) } := by
  obtain ⟨lo', e1, hw_1⟩ := on1.get hw
  obtain ⟨hi', e2, hw_2⟩ := on1.get hw_1
  · obtain ⟨pl, rfl, hpl⟩ := part_of e1 rl
    obtain ⟨pu, rfl, hpu⟩ := part_of e2 ru
    have p0 : Post w hB c al Z s st al Z { s with heap := s.heap.push (sliceO (partValue pl) (partValue pu)) } := Post.keep R (fun u_ u_ e => Heap.get?_push_of_some _ e)
    obtain ⟨rfl, hlen, hk⟩ := hw_2
    cases (ra : _ = _)
    obtain ⟨o, ho, hc, n, hd⟩ := H
    have hl : ({ s with heap := s.heap.push (sliceO (partValue pl) (partValue pu)) } : Shared).heap.IsList la items.toArray := ⟨o, Heap.get?_push_of_some _ (R.base _ _ ho), hc, n, hd⟩
    have hxl := (ints_VRs (w := w) (Z := Z) (al := al) hI).length
    have hxl2 : items.length = ns.length := by simpa [SI] using hxl
    refine tail_any (ops := [.ref s.heap.objs.size, .ref la]) (T := "list") ⟨o, Heap.get?_push_of_some _ (R.base _ _ ho), hc⟩ list_getitem_lookup (wpAny_getItem_list_slice hl (Heap.IsSliceOf.new ..) (isPart_of pl) (isPart_of pu) .none (by simp) ?_ (by rw [List.size_toArray, hxl2, sizeLine_eq]; omega)) rfl
    rw [hpl, hpu, pick_cut]
    have rr : VRs w Z al (cutN (SI ns) lo' hi') (cutN items lo' hi') := (ints_VRs hI).cutN lo' hi'
    have es : cutN (SI ns) lo' hi' = SI (cutN ns lo' hi') := by
      rw [cutN_nat, cutN_nat]
      simp [SI, List.map_take, List.map_drop]
    rw [es] at rr
    have p2 := newL (lv := false) (st := st) (k := k) (s := { s with heap := s.heap.push (sliceO (partValue pl) (partValue pu)) }) p0.rel rr s.toks (by simpa [wNewL] using hk)
    obtain ⟨st', al', Z', sv, p3, r3, hk⟩ := p2
    exact ⟨st', al', Z', sv, p0.trans p3, r3, hk⟩
theorem ev_sliceG {la : Addr} {items : List Value} {ns : List Int} (H : hB.IsList la items.toArray) (hI : IntsAre items ns) {v : PySem.Expr} {lo hi : Option PySem.Expr} {p pos : Pos} {wv wl wu : T SV} (hv : EvalsTo w hB c v wv) (hl : PartTo w hB c lo wl) (hu : PartTo w hB c hi wu) :
    EvalsTo w hB c (.Subscript v (.Slice lo hi none p) pos) (fun k => wv fun a => wl fun x => wu fun y => wSliceG la ns a x y k) := by
  intro st al Z s k R hw
  refine Subscript_ (wpAny_mono (hv st al Z s _ R hw) (fun va s1 h1 => ?_) fun u_ u_ h => h)
  obtain ⟨st1, al1, Z1, a, p1, r1, hk1⟩ := h1
  refine wpAny_Slice (wpAny_mono (hl st1 al1 Z1 s1 _ p1.rel hk1) (fun vl s2 h2 => ?_) fun u_ u_ h => h)
  obtain ⟨st2, al2, Z2, x, p2, r2, hk2⟩ := h2
  refine wpAny_mono (hu st2 al2 Z2 s2 _ p2.rel hk2) (fun vu s3 h3 => ?_) fun u_ u_ h => h
  obtain ⟨st3, al3, Z3, y, p3, r3, hk3⟩ := h3
  rw [evalPart_none]
  refine wpAny_pure ?_
  exact wpAny_mono (slice_opG H hI p3.rel ((r1.mono p2.sub p2.pre).mono p3.sub p3.pre) (r2.mono p3.sub p3.pre) r3 hk3) (fun u1_ u2_ ⟨st2, al2, Z2, b, q, r, hk⟩ => ⟨st2, al2, Z2, b, ((p1.trans p2).trans p3).trans q, r, hk⟩) fun u_ u_ h => h
end
noncomputable def exLaw_0G (w : World) (hB : Heap) {la : Addr} {items : List Value} {ns : List Int} (H : hB.IsList la items.toArray) (hI : IntsAre items ns) : { W : T AFl // ∀ A L, ExecTo w hB (cxLaw A L) (nest (stm 15) 0) W } := ⟨_, fun A L =>
  (ex_compSz [] false (x := "x") (caps := []) (compIs_mk rfl (by decide +kernel) trivial (show (["x"] : List Str).Nodup by decide +kernel)) (ev_sliceG H hI (ev_loc (i := 0) rfl) pt_none (pt_some ev_int)) (itp_of it_gen) (fun C => (ev_bin (ev_loc (i := 0) rfl) (ev_bin ev_int ev_int o_pow) o_mod)) (as_loc (i := 1) rfl) rfl)⟩
theorem comp_mapF {α : Type} {we : T SV} {caps : List (Option SV)} {hp : List SO} {k : List SV → List SO → Prop} (g f : α → SV) : ∀ (l : List α) (o : Option SV) (acc : List SV),
    (∀ a ∈ l, ∀ F : SV → St → Prop, F (f a) ⟨some (g a) :: caps, hp⟩ → we F ⟨some (g a) :: caps, hp⟩) → k (acc ++ l.map f) hp → wCompL we k (l.map g) ⟨o :: caps, hp⟩ acc
  | [], o, acc, w1_, h => by
    rw [List.map_nil, List.append_nil] at h
    exact h
  | a :: l, o, acc, hs, h => by
    refine hs a (by simp) _ ?_
    refine comp_mapF g f l _ _ (fun b hb => hs b (List.mem_cons_of_mem _ hb)) ?_
    rw [List.append_assoc]
    exact h
noncomputable def drw (ns : List Int) : List Int := (ns.take 7).map (· % 1000000) ++ [0, 1, 13, 6, 3].drop (ns.take 7).length
theorem drw_mem {ns : List Int} : ∀ z ∈ drw ns, 0 ≤ z ∧ z < 1000000 := fun z hz => by
  rcases List.mem_append.mp hz with h | h
  · obtain ⟨y, _, rfl⟩ := List.mem_map.mp h
    exact ⟨Int.emod_nonneg _ (by decide), Int.emod_lt_of_pos _ (by decide)⟩
  · have := List.mem_of_mem_drop h
    simp at this
    omega
theorem drw_len (ns : List Int) : 5 ≤ (drw ns).length ∧ (drw ns).length ≤ 7 := by
  unfold drw
  simp only [List.length_append, List.length_map, List.length_drop, List.length_take, List.length_cons, List.length_nil]
  omega
noncomputable def tsz (ds : List Int) : Nat := (1 + (ds.sum + 1) % 4).toNat
theorem tsz_eq (ds : List Int) : ((tsz ds : Nat) : Int) = 1 + (ds.sum + 1) % 4 ∧ 1 ≤ tsz ds ∧ tsz ds ≤ 4 := by
  have h1 := Int.emod_nonneg (ds.sum + 1) (show (4 : Int) ≠ 0 by decide)
  have h2 := Int.emod_lt_of_pos (ds.sum + 1) (show (0 : Int) < 4 by decide)
  unfold tsz
  generalize (ds.sum + 1) % 4 = z at h1 h2 ⊢
  refine ⟨Int.toNat_of_nonneg (Int.add_nonneg (by decide) h1), ?_, ?_⟩
  · exact Int.ofNat_le.mp (by rw [Int.toNat_of_nonneg (Int.add_nonneg (by decide) h1)]; exact Int.le_add_of_nonneg_right h1)
  · exact Int.ofNat_le.mp (by rw [Int.toNat_of_nonneg (Int.add_nonneg (by decide) h1)]; exact Int.add_le_add_left (Int.le_sub_one_of_lt h2) 1)
noncomputable abbrev sS (s0 : SV) (o1 o2 o3 o4 o5 o6 o7 o8 o9 : Option SV) : List (Option SV) :=
  [some s0, o1, o2, o3, o4, o5, o6, o7, o8, o9, none, none, none, none, none, none, none, none, none, none, none, none, none, none, none, none, none, none, none, none, none, none, none, none, none]
theorem law0 (w : World) (hB : Heap) {la : Addr} {items : List Value} {ns : List Int} (H : hB.IsList la items.toArray) (hI : IntsAre items ns) (hn : ns.length ≤ 63) (K : AFl → St → Prop)
    (hK : K .next ⟨sS (.gl (.ref la)) (some (.list (SI ((ns.take 7).map (· % 1000000))))) none none none none none none none none, []⟩) :
    (exLaw_0G w hB H hI).1 K ⟨sS (.gl (.ref la)) none none none none none none none none none, []⟩ := by
  unfold exLaw_0G
  dsimp only
  unfold wComp wSliceG
  k_go
  refine ⟨by omega, ?_⟩
  refine ⟨clos_SI _, by simp [SI]; omega, by simp [closO, capLoc, capsZ], ?_⟩
  refine comp_mapF SV.int (fun z => .int (z % 1000000)) (ns.take 7) none [] (fun z hz F hF => ?_) ?_
  · k_go
    refine ⟨by decide, by decide, ?_⟩
    exact hF
  · have e2 : ([] : List SV) ++ (ns.take 7).map (fun z => SV.int (z % 1000000)) = SI ((ns.take 7).map (· % 1000000)) := by simp only [SI, List.nil_append, List.map_map]; rfl
    rw [e2]
    exact ⟨clos_SI _, hK⟩
theorem law1 (w : World) (hB : Heap) (s0 : SV) (ns : List Int) (K : AFl → St → Prop)
    (hK : K .next ⟨sS s0 (some (.list (SI (drw ns)))) none none none none none none none none, []⟩) :
    (exLaw_1 w hB).1 K ⟨sS s0 (some (.list (SI ((ns.take 7).map (· % 1000000))))) none none none none none none none none, []⟩ := by
  unfold exLaw_1
  dsimp only
  have el : (SI ((ns.take 7).map (· % 1000000))).length = (ns.take 7).length := by simp [SI]
  have e7 : (ns.take 7).length ≤ 7 := by simp; omega
  have e2 : SI (drw ns) = SI ((ns.take 7).map (· % 1000000)) ++ List.drop (ns.take 7).length [SV.int 0, SV.int 1, SV.int 13, SV.int 6, SV.int 3] := by
    have : [SV.int 0, SV.int 1, SV.int 13, SV.int 6, SV.int 3] = SI [0, 1, 13, 6, 3] := rfl
    rw [this]
    simp [SI, drw, List.map_drop]
  k_go
  rw [el]
  refine ⟨by decide, by omega, ?_⟩
  rw [if_pos (by omega), Int.toNat_natCast]
  dsimp only
  rw [← e2]
  refine ⟨by decide, by simp only [List.length_drop, List.length_cons, List.length_nil]; omega, hK⟩
theorem law2 (w : World) (hB : Heap) (s0 : SV) (ds : List Int) (h7 : ds.length ≤ 7) (hp : List SO) (K : AFl → St → Prop)
    (hK : K .next ⟨sS s0 (some (.list (SI ds))) (some (.int ds.length)) none none none none none none none, hp⟩) :
    (exLaw_2 w hB).1 K ⟨sS s0 (some (.list (SI ds))) none none none none none none none none, hp⟩ := by
  unfold exLaw_2
  dsimp only
  k_go
  have el : (SI ds).length = ds.length := by simp [SI]
  rw [el]
  exact ⟨by omega, hK⟩
theorem law3 (w : World) (hB : Heap) (s0 : SV) (ds : List Int) (h7 : ds.length ≤ 7) (hp : List SO) (K : AFl → St → Prop)
    (hK : K .next ⟨sS s0 (some (.list (SI ds))) (some (.int ds.length)) (some (.str (lts ds.length))) none none none none none none, hp⟩) :
    (exLaw_3 w hB).1 K ⟨sS s0 (some (.list (SI ds))) (some (.int ds.length)) none none none none none none none, hp⟩ := by
  unfold exLaw_3
  dsimp only
  k_go
  rw [if_pos (by omega), Int.toNat_natCast]
  have e2 : List.take ds.length [97, 98, 99, 100, 101, 102, 103] = lts ds.length := by
    have : ∀ n ≤ 7, List.take n [97, 98, 99, 100, 101, 102, 103] = lts n := by decide
    exact this _ h7
  dsimp only
  rw [e2]
  refine ⟨by decide, hK⟩
theorem law4 (w : World) (hB : Heap) (s0 : SV) (ds : List Int) (h7 : ds.length ≤ 7) (h0 : ∀ z ∈ ds, 0 ≤ z) (o2 o3 : Option SV) (hp : List SO) (K : AFl → St → Prop)
    (hK : K .next ⟨sS s0 (some (.list (SI ds))) o2 o3 (some (.list (ldS ds))) none none none none none, hp⟩) :
    (exLaw_4 w hB).1 K ⟨sS s0 (some (.list (SI ds))) o2 o3 none none none none none none, hp⟩ := by
  unfold exLaw_4
  dsimp only
  unfold wComp
  k_go
  refine ⟨clos_SI _, by simp [SI]; omega, by simp [closO, capLoc, capsZ], ?_⟩
  refine comp_mapF SV.int (fun z => .str (leadN z)) ds none [] (fun z hz F hF => ?_) ?_
  · exact ⟨h0 z hz, hF⟩
  · exact ⟨clos_map _ (fun u_ => by exact trivial) _, hK⟩
theorem law5 (w : World) (hB : Heap) (s0 : SV) (ds : List Int) (o2 o3 o4 : Option SV) (hp : List SO) (K : AFl → St → Prop)
    (hK : K .next ⟨sS s0 (some (.list (SI ds))) o2 o3 o4 (some (.int ds.sum)) none none none none, hp⟩) :
    (exLaw_5 w hB).1 K ⟨sS s0 (some (.list (SI ds))) o2 o3 o4 none none none none none, hp⟩ := by
  unfold exLaw_5
  dsimp only
  unfold wSum
  k_go
  exact ⟨ds, rfl, hK⟩
theorem law6 (w : World) (hB : Heap) (s0 : SV) (ds : List Int) (o1 o2 o3 o4 : Option SV) (hp : List SO) (K : AFl → St → Prop)
    (hK : K .next ⟨sS s0 o1 o2 o3 o4 (some (.int ds.sum)) (some (.int (tsz ds))) none none none, hp⟩) :
    (exLaw_6 w hB).1 K ⟨sS s0 o1 o2 o3 o4 (some (.int ds.sum)) none none none none, hp⟩ := by
  unfold exLaw_6
  dsimp only
  k_go
  rw [← (tsz_eq ds).1]
  exact ⟨by decide, hK⟩
theorem law7 (w : World) (hB : Heap) (s0 : SV) (t : Int) (o1 o2 o3 o4 o6 : Option SV) (hp : List SO) (K : AFl → St → Prop)
    (hK : ∀ d, K .next ⟨sS s0 o1 o2 o3 o4 (some (.int t)) o6 (some (tcV d)) none none, hp⟩) :
    (exLaw_7 w hB).1 K ⟨sS s0 o1 o2 o3 o4 (some (.int t)) o6 none none none, hp⟩ := by
  unfold exLaw_7
  dsimp only
  k_go
  refine ⟨by decide, by decide, by decide, by decide, by decide, by decide, by simp [clo, clos], ?_⟩
  exact hK (1 - 2 * (t / 4 % 2))
theorem law8 (w : World) (hB : Heap) (s0 : SV) (o1 o2 o3 o4 o5 o6 o7 : Option SV) (K : AFl → St → Prop)
    (hK : K .next ⟨sS s0 o1 o2 o3 o4 o5 o6 o7 (some (.obj 0)) none, [.list []]⟩) :
    (exLaw_8 w hB).1 K ⟨sS s0 o1 o2 o3 o4 o5 o6 o7 none none, []⟩ := by
  unfold exLaw_8
  exact ⟨by decide, hK⟩
theorem law9 (w : World) (hB : Heap) (s0 : SV) (o1 o2 o3 o4 o5 o6 o7 o8 : Option SV) (K : AFl → St → Prop)
    (hK : K .next ⟨sS s0 o1 o2 o3 o4 o5 o6 o7 o8 (some (.obj 1)), [.list [], .dict [] []]⟩) :
    (exLaw_9 w hB).1 K ⟨sS s0 o1 o2 o3 o4 o5 o6 o7 o8 none, [.list []]⟩ := by
  unfold exLaw_9
  exact hK
noncomputable abbrev bS (s0 : SV) (ds : List Int) (tot : Int) (ts : Nat) (d : Int) (o10 o11 o12 o13 o14 o15 o16 o17 o18 o19 o20 : Option SV) : List (Option SV) :=
  [some s0, some (.list (SI ds)), some (.int ds.length), some (.str (lts ds.length)), some (.list (ldS ds)), some (.int tot), some (.int ts), some (tcV d), some (.obj 0), some (.obj 1), o10, o11, o12, o13, o14, o15, o16, o17, o18, o19, o20, none, none, none, none, none, none, none, none, none, none, none, none, none, none]
section
variable {ds : List Int} {ts : Nat}
theorem writ_len (x : Cs) (m : Int) : (writtenN x m).length ≤ 2 * x.length + 3 := by
  unfold writtenN
  split
  · simp; omega
  · rw [writ_esc]
    have := flat_len (fun d => [92, d]) 2 (fun u_ => by simp) x
    unfold esc
    rw [List.length_append]
    simp only [List.length_cons, List.length_nil] at *
    omega
theorem clo_rowV (t : LT) : clo (rowV ds ts t) := by simp [rowV, clo, clos]
theorem law11 (w : World) (hB : Heap) (s0 : SV) (tot : Int) (d : Int) (o10 o11 o12 o13 o14 : Option SV) (q : List LT) (bk : List Cs) (bv : List SV) (hq : q.length ≤ 7) (hl : ∀ t ∈ q, t.nm.length ≤ 7) (K : AFl → St → Prop)
    (hK : K .next ⟨bS s0 ds tot ts d o10 o11 o12 o13 o14 (some (.str (q.map (wrT ds)).flatten)) none none none none none, [.list (q.map (rowV ds ts)), .dict bk bv]⟩) :
    (exLaw_11 w hB).1 K ⟨bS s0 ds tot ts d o10 o11 o12 o13 o14 none none none none none none, [.list (q.map (rowV ds ts)), .dict bk bv]⟩ := by
  unfold exLaw_11
  dsimp only
  unfold wComp wItLP
  k_go
  refine ⟨rfl, clos_map _ (fun t => clo_rowV t) _, by simp; omega, by simp [closO, capLoc, capsZ], ?_⟩
  refine comp_mapF (rowV ds ts) (fun t => .str (wrT ds t)) q none [] (fun t ht F hF => ?_) ?_
  · exact ⟨by decide, hF⟩
  · refine ⟨clos_map _ (fun u_ => by exact trivial) _, q.map (wrT ds), by simp, by simp; omega, fun y hy => ?_, hK⟩
    obtain ⟨t, ht, rfl⟩ := List.mem_map.mp hy
    have := writ_len (wd ds t) (mT ds t)
    have := wd_len (ds := ds) t
    have := hl t ht
    unfold wrT
    omega
theorem law12 (w : World) (hB : Heap) (s0 : SV) (tot : Int) (d : Int) (o10 o11 o12 o13 o14 : Option SV) (x : Cs) (rs : List SV) (bk : List Cs) (bv : List SV) (K : AFl → St → Prop)
    (hK : K .next ⟨bS s0 ds tot ts d o10 o11 o12 o13 o14 (some (.str x)) (some (.list [.iobj 59 3, .iobj 59 6])) none none none none, [.list rs, .dict bk bv, .list [.int 0], lexA 2 4 x 1, .list [], .list [.int 0], lexA 5 7 [] 1, .list []]⟩) :
    (exLaw_12 w hB).1 K ⟨bS s0 ds tot ts d o10 o11 o12 o13 o14 (some (.str x)) none none none none none, [.list rs, .dict bk bv]⟩ := by
  unfold exLaw_12
  dsimp only
  k_go
  exact ⟨by simp, hK⟩
theorem law13 (w : World) (hB : Heap) (s0 : SV) (tot : Int) (d : Int) (o10 o11 o12 o13 o14 : Option SV) (x : Cs) (rs : List SV) (bk : List Cs) (bv : List SV) (hx : x.length ≤ 100000) (t rest : Cs) (ht : TokTo x t rest) (K : AFl → St → Prop)
    (hK : K .next ⟨bS s0 ds tot ts d o10 o11 o12 o13 o14 (some (.str x)) (some (.list [.iobj 59 3, .iobj 59 6])) (some (.obj 8)) none none none, [.list rs, .dict bk bv, .list [.int ((x.length - rest.length : Nat) : Int)], lexA 2 4 x (1 + (x.count 10 : Nat) - (rest.count 10 : Nat)), .list [], .list [.int 0], lexA 5 7 [] 1, .list [], .list [.str t, .str []]]⟩) :
    (exLaw_13 w hB).1 K ⟨bS s0 ds tot ts d o10 o11 o12 o13 o14 (some (.str x)) (some (.list [.iobj 59 3, .iobj 59 6])) none none none none, [.list rs, .dict bk bv, .list [.int 0], lexA 2 4 x 1, .list [], .list [.int 0], lexA 5 7 [] 1, .list []]⟩ := by
  unfold exLaw_13
  dsimp only
  unfold wCompV
  k_go
  refine ⟨by simp, ?_⟩
  simp only [capLoc, capsZ, List.map_nil]
  unfold wCompL
  refine ⟨⟨rfl, rfl⟩, rfl, 2, 4, x, 1, 0, [], ⟨rfl, rfl, rfl, by decide, by decide, by decide, hx, by omega⟩, t, rest, ht, ?_⟩
  simp only [lexP, List.set, List.map_nil]
  unfold wCompL
  refine ⟨⟨rfl, rfl⟩, rfl, 5, 7, [], 1, 0, [], ⟨rfl, rfl, rfl, by decide, by decide, by decide, by simp, by simp⟩, [], [], .inr (.inr ⟨by simp, rfl, rfl⟩), ?_⟩
  simp only [lexP, List.set, List.map_nil]
  unfold wCompL
  exact hK
theorem law14 (w : World) (hB : Heap) (s0 : SV) (tot : Int) (d : Int) (o10 o11 o12 o13 o14 : Option SV) (x : Cs) (rs : List SV) (bk : List Cs) (bv : List SV) (p : Nat) (ln : Int) (t : Cs) (ht : t.length ≤ 1000) (K : AFl → St → Prop)
    (hK : K .next ⟨bS s0 ds tot ts d o10 o11 o12 o13 o14 (some (.str x)) (some (.list [.iobj 59 3, .iobj 59 6])) (some (.obj 8)) (some (.obj 9)) none none, tHp rs bk bv p x ln [] t [] []⟩) :
    (exLaw_14 w hB).1 K ⟨bS s0 ds tot ts d o10 o11 o12 o13 o14 (some (.str x)) (some (.list [.iobj 59 3, .iobj 59 6])) (some (.obj 8)) none none none, [.list rs, .dict bk bv, .list [.int p], lexA 2 4 x ln, .list [], .list [.int 0], lexA 5 7 [] 1, .list [], .list [.str t, .str []]]⟩ := by
  unfold exLaw_14
  dsimp only
  unfold wComp wItLP
  k_go
  refine ⟨by simp [clos, clo], by simp, by simp [closO, capLoc, capsZ], ?_⟩
  simp only [capLoc, capsZ, List.map_nil]
  unfold wCompL
  refine ⟨ht, ?_⟩
  unfold wCompL
  refine ⟨by simp, ?_⟩
  unfold wCompL
  exact ⟨⟨clo_ws _ _, clo_ws _ _, trivial⟩, hK⟩
theorem cf_eq (hts : 1 ≤ ts) (k : Nat) (hk : k < ds.length) : colN ts (leadN ds[k]) = lwC ds ts (97 + k) := by
  rw [leadN_ld, colN_ld ts hts]
  unfold lwC lwP
  have e : (97 + k) - 97 = k := by omega
  rw [e]
  simp [List.getD_eq_getElem?_getD, hk]
theorem lts_succ (k : Nat) : lts (k + 1) = lts k ++ [97 + k] := by simp [lts, List.range'_concat]
theorem colD (hts : 1 ≤ ts) (hn : ds.length ≤ 7) (K : List Cs → List SV → List SO → Prop) : ∀ (m k : Nat) (o : Option SV), k + m = ds.length → K ((lts ds.length).map fun c => [c]) (SI ((lts ds.length).map (lwC ds ts))) [] →
    wCompD (fun k => wName 1 fun a => wName 0 fun b => wItem a b k) (fun k => wName 2 fun a => wName 0 fun b => wItem a b fun a => wName 3 fun a_1 => wColumn [a, a_1] k) K (rngL k ds.length) ⟨[o, some (.str (lts ds.length)), some (.list (ldS ds)), some (.int ts)], []⟩ ((lts k).map fun c => [c]) (SI ((lts k).map (lwC ds ts)))
  | 0, k, o, e, h => by
    have : k = ds.length := by omega
    subst this
    rw [rngL_nil _ _ (Int.le_refl _)]
    exact h
  | m + 1, k, o, e, h => by
    have hk : k < ds.length := by omega
    rcases rngL_cases k (ds.length : Int) with ⟨q, _⟩ | ⟨hlt, q⟩
    · omega
    rw [q]
    unfold wCompD
    k_go
    rw [Int.toNat_natCast, lts_get _ _ hk, ldS_nth k hk]
    refine ⟨by omega, by omega, by omega, ?_⟩
    rw [cf_eq hts k hk]
    have hx : ([97 + k] : Cs) ∉ (lts k).map fun c => [c] := by
      intro q
      obtain ⟨y, hy, e⟩ := List.mem_map.mp q
      have e : y = 97 + k := by simpa using e
      subst e
      simp [lts] at hy
    have h1 : dkeys ((lts k).map fun c => [c]) [97 + k] = (lts (k + 1)).map fun c => [c] := by unfold dkeys; rw [if_neg hx, lts_succ]; simp
    have h2 : dvals ((lts k).map fun c => [c]) (SI ((lts k).map (lwC ds ts))) [97 + k] (.int (lwC ds ts (97 + k))) = SI ((lts (k + 1)).map (lwC ds ts)) := by unfold dvals; rw [if_neg hx, lts_succ]; simp [SI]
    dsimp only
    rw [h1, h2]
    exact colD hts hn K m (k + 1) _ (by omega) h
theorem law15 (w : World) (hB : Heap) (s0 : SV) (tot : Int) (d : Int) (o10 o11 o12 o13 o14 o15 o16 o17 o18 : Option SV) (hp : List SO) (hn : ds.length ≤ 7) (hts : 1 ≤ ts ∧ ts ≤ 4) (K : AFl → St → Prop)
    (hK : K .next ⟨bS s0 ds tot ts d o10 o11 o12 o13 o14 o15 o16 o17 o18 (some (.dict ((lts ds.length).map fun c => [c]) (SI ((lts ds.length).map (lwC ds ts))))) none, hp⟩) :
    (exLaw_15 w hB).1 K ⟨bS s0 ds tot ts d o10 o11 o12 o13 o14 o15 o16 o17 o18 none none, hp⟩ := by
  unfold exLaw_15
  dsimp only
  unfold wCompDP
  k_go
  refine ⟨⟨by decide, by decide, by omega, by omega⟩, clos_rng _ _, ?_⟩
  refine ⟨by have := rngL_len 0 ds.length; rw [Int.zero_add] at this; rw [this]; omega, by simp [closO, capLoc, capsZ, look, clo]; exact clos_map _ (fun u_ => by exact trivial) _, ?_⟩
  exact colD hts.1 hn _ ds.length 0 none (by omega) ⟨clos_SI _, hK⟩
theorem law16 (w : World) (hB : Heap) (s0 : SV) (tot : Int) (d : Int) (o10 o11 o12 o13 o14 o15 o16 o17 o18 : Option SV) (ck : List Cs) (cs : List Int) (hp : List SO) (hn : cs.length ≤ 7) (K : AFl → St → Prop)
    (hK : ∀ st, st.Perm cs → st.Pairwise (· ≤ ·) → K .next ⟨bS s0 ds tot ts d o10 o11 o12 o13 o14 o15 o16 o17 o18 (some (.dict ck (SI cs))) (some (.list (SI st))), hp⟩) :
    (exLaw_16 w hB).1 K ⟨bS s0 ds tot ts d o10 o11 o12 o13 o14 o15 o16 o17 o18 (some (.dict ck (SI cs))) none, hp⟩ := by
  unfold exLaw_16
  dsimp only
  k_go
  refine ⟨rfl, ?_⟩
  refine ⟨cs, rfl, by omega, fun st h1 h2 => hK st h1 h2⟩
end
section
variable {ds : List Int} {ts : Nat}
theorem lett (hn : ds.length ≤ 7) : Lett (lts ds.length) where
  le := fun d hd => by simp [lts] at hd; omega
  nd := List.nodup_range'
  len := by simp [lts]; exact hn
noncomputable def lwts (ds : List Int) (ts : Nat) : List Int := (lts ds.length).map fun c => 1000 * lwC ds ts c + 1
theorem leaf_tc (cf : Nat → Int) (c : Nat) : (LT.leaf c).tc cf = cf c := by simp [LT.tc, LT.nm]
theorem leaf_wt (cf : Nat → Int) (c : Nat) : (LT.leaf c).wt cf = 1000 * cf c + 1 := by simp [LT.wt, LT.nm, leaf_tc]
theorem leaf_cost (cf : Nat → Int) (c : Nat) : (LT.leaf c).cost cf = 0 := by simp [LT.cost, LT.pr, LT.dp]
theorem start_in (hn : ds.length ≤ 7) (hts : 1 ≤ ts) {q : List LT} {bk : List Cs} {bv : List SV} (h : RowI ds ts ds.length q bk bv) {st : List Int} (h1 : st.Perm ((lts ds.length).map (lwC ds ts))) (h2 : st.Pairwise (· ≤ ·)) :
    TIn (lwC ds ts) (lts ds.length) (lwts ds ts) q [] st bk bv := by
  have hleaf : ∀ t ∈ q, ∃ c, t = .leaf c := fun t ht => by
    obtain ⟨c, _, e⟩ := List.mem_map.mp (h.pm.mem_iff.mp ht)
    exact ⟨c, e.symm⟩
  have one : ∀ t ∈ q, t.nm.length = 1 := fun t ht => by
    obtain ⟨c, rfl⟩ := hleaf t ht
    rfl
  refine ⟨?_, ⟨?_, .nil, one, by simp, by simp⟩, ⟨0, fun t u_ => wt_pos hts t, by simp⟩, fun v hv => ?_, h2, ?_, fun t ht => h.bb t (by simpa using ht), h.bl⟩
  · rw [List.append_nil]
    refine (flatMap_perm LT.nm h.pm).trans ?_
    have e : ((lts ds.length).map LT.leaf).flatMap LT.nm = lts ds.length := by
      generalize lts ds.length = l
      induction l with
      | nil => rfl
      | cons c l ih => simp only [List.map_cons, List.flatMap_cons, ih]; rfl
    rw [e]
  · refine List.Pairwise.imp_of_mem (fun {a b} ha hb hab => ?_) h.so
    unfold LT.wt
    rw [one a ha, one b hb]
    omega
  · rw [List.append_nil] at hv ⊢
    have e : (q.map (LT.cost (lwC ds ts))).sum = 0 := by
      have : ∀ l : List LT, (∀ t ∈ l, ∃ c, t = .leaf c) → (l.map (LT.cost (lwC ds ts))).sum = 0 := by
        intro l
        induction l with
        | nil => intro _; rfl
        | cons t l ih =>
          intro hl
          obtain ⟨c, rfl⟩ := hl t (by simp)
          simp only [List.map_cons, List.sum_cons, leaf_cost, ih fun t ht => hl t (List.mem_cons_of_mem _ ht)]
          omega
      exact this q hleaf
    rw [e, Int.add_zero]
    refine hv.perm ?_
    have := (h.pm.map (LT.wt (lwC ds ts))).symm
    rw [List.map_map] at this
    have e2 : (lts ds.length).map (LT.wt (lwC ds ts) ∘ LT.leaf) = lwts ds ts := by
      unfold lwts
      refine List.map_congr_left fun c u_ => ?_
      exact leaf_wt _ c
    rw [e2] at this
    exact this
  · rw [List.append_nil]
    have := (h.pm.map (LT.tc (lwC ds ts))).symm
    rw [List.map_map] at this
    have e2 : (lts ds.length).map (LT.tc (lwC ds ts) ∘ LT.leaf) = (lts ds.length).map (lwC ds ts) := List.map_congr_left fun c u_ => leaf_tc _ c
    rw [e2] at this
    exact h1.trans this
noncomputable abbrev staOf (s0 : SV) (ds : List Int) (d : Int) (o10 o11 o12 o13 o14 : Option SV) (x : Cs) : Sta :=
  ⟨s0, .list (SI ds), ds.length, lts ds.length, ldS ds, ds.sum, tsz ds, tcV d, o10, o11, o12, o13, o14, x, (lts ds.length).map fun c => [c], SI ((lts ds.length).map (lwC ds (tsz ds)))⟩
end
theorem law_head (w : World) (hB : Heap) {la : Addr} {items : List Value} {ns : List Int} (H : hB.IsList la items.toArray) (hI : IntsAre items ns) (hn : ns.length ≤ 63) (rest : T AFl) (K : AFl → St → Prop)
    (hK : ∀ (d : Int) (o10 o11 o12 o13 o14 : Option SV) (x : Cs) (q : List LT) (st : List Int) (rs : List SV) (bk : List Cs) (bv : List SV) (p : Nat) (ln : Int), x.length ≤ 100000 → TIn (lwC (drw ns) (tsz (drw ns))) (lts (drw ns).length) (lwts (drw ns) (tsz (drw ns))) q [] st bk bv → q.length = (drw ns).length → bk.length ≤ 7 →
      Ln1 (drw ns) (mT (drw ns)) x q (hdW (drw ns) q) p ln → rest K ⟨lwS (staOf (.gl (.ref la)) (drw ns) d o10 o11 o12 o13 o14 x) st none none none none none none none none none none, tHp rs bk bv p x ln [] (hdW (drw ns) q) [] []⟩) :
    (wSeq (exLaw_0G w hB H hI).1 <| wSeq (exLaw_1 w hB).1 <| wSeq (exLaw_2 w hB).1 <| wSeq (exLaw_3 w hB).1 <| wSeq (exLaw_4 w hB).1 <| wSeq (exLaw_5 w hB).1 <| wSeq (exLaw_6 w hB).1 <| wSeq (exLaw_7 w hB).1 <| wSeq (exLaw_8 w hB).1 <| wSeq (exLaw_9 w hB).1 <| wSeq (exLaw_10 w hB).1 <| wSeq (exLaw_11 w hB).1 <| wSeq (exLaw_12 w hB).1 <| wSeq (exLaw_13 w hB).1 <| wSeq (exLaw_14 w hB).1 <| wSeq (exLaw_15 w hB).1 <| wSeq (exLaw_16 w hB).1 rest) K ⟨sS (.gl (.ref la)) none none none none none none none none none, []⟩ := by
  obtain ⟨hl5, hl7⟩ := drw_len ns
  have hm := drw_mem (ns := ns)
  obtain ⟨hts, hts1, hts4⟩ := tsz_eq (drw ns)
  refine seq_mk ?_
  refine law0 w hB H hI hn _ ?_
  refine nx_next ?_
  refine seq_mk ?_
  refine law1 w hB _ ns _ ?_
  refine nx_next ?_
  generalize hds : drw ns = ds at *
  refine seq_mk ?_
  refine law2 w hB _ ds hl7 _ _ ?_
  refine nx_next ?_
  refine seq_mk ?_
  refine law3 w hB _ ds hl7 _ _ ?_
  refine nx_next ?_
  refine seq_mk ?_
  refine law4 w hB _ ds hl7 (fun z hz => (hm z hz).1) _ _ _ _ ?_
  refine nx_next ?_
  refine seq_mk ?_
  refine law5 w hB _ ds _ _ _ _ _ ?_
  refine nx_next ?_
  refine seq_mk ?_
  refine law6 w hB _ ds _ _ _ _ _ _ ?_
  refine nx_next ?_
  refine seq_mk ?_
  refine law7 w hB _ _ _ _ _ _ _ _ _ fun d => ?_
  refine nx_next ?_
  refine seq_mk ?_
  refine law8 w hB _ _ _ _ _ _ _ _ _ ?_
  refine nx_next ?_
  refine seq_mk ?_
  refine law9 w hB _ _ _ _ _ _ _ _ _ _ ?_
  refine nx_next ?_
  refine seq_mk ?_
  refine rows_all w hB _ _ d none none none none none hl7 ⟨hts1, hts4⟩ _ fun q bk bv o10 o11 o12 o13 o14 hR => ?_
  have hql : q.length = ds.length := by have := hR.pm.length_eq; simpa [lts] using this
  have hin := fun st h1 h2 => start_in hl7 hts1 hR (st := st) h1 h2
  have hnm : ∀ t ∈ q, Ltr t ∧ t.nm.length ≤ 7 := fun t ht => by
    obtain ⟨c, hc, rfl⟩ := List.mem_map.mp (hR.pm.mem_iff.mp ht)
    simp [lts] at hc
    refine ⟨fun d hd => ?_, by simp [LT.nm]⟩
    have : d = c := by simpa [LT.nm] using hd
    omega
  have hbn := hR.bn
  obtain ⟨t, rest', ht1, ht2⟩ := tok_next (ds := ds) (m := mT ds) (x := (q.map (wrT ds)).flatten) (q := q) (p := 0) (fun t ht => (hnm t ht).1) (by omega) ⟨[], by simp, rfl⟩
  have htl : t = hdW ds q := ht2.hd
  subst htl
  rw [List.drop_zero] at ht1
  have hx : (q.map (wrT ds)).flatten.length ≤ 100000 := by
    have : ∀ l : List LT, (∀ t ∈ l, t.nm.length ≤ 7) → (l.map (wrT ds)).flatten.length ≤ 200 * l.length := by
      intro l
      induction l with
      | nil => intro _; simp
      | cons t l ih =>
        intro hl
        have h1 := ih fun t ht => hl t (List.mem_cons_of_mem _ ht)
        have h2 := writ_len (wd ds t) (mT ds t)
        have h3 := wd_len (ds := ds) t
        have h4 := hl t (by simp)
        rw [List.map_cons, List.flatten_cons, List.length_append, List.length_cons]
        unfold wrT at h1 ⊢
        omega
    have := this q fun t ht => (hnm t ht).2
    omega
  refine nx_next ?_
  refine seq_mk ?_
  refine law11 w hB _ _ d o10 o11 o12 o13 o14 q bk bv (by omega) (fun t ht => (hnm t ht).2) _ ?_
  refine nx_next ?_
  generalize (q.map (wrT ds)).flatten = x at *
  refine seq_mk ?_
  refine law12 w hB _ _ d o10 o11 o12 o13 o14 x _ bk bv _ ?_
  refine nx_next ?_
  refine seq_mk ?_
  refine law13 w hB _ _ d o10 o11 o12 o13 o14 x _ bk bv hx _ rest' ht1 _ ?_
  refine nx_next ?_
  refine seq_mk ?_
  refine law14 w hB _ _ d o10 o11 o12 o13 o14 x _ bk bv _ _ _ (hdW_len fun t ht => (hnm t ht).2) _ ?_
  refine nx_next ?_
  refine seq_mk ?_
  refine law15 w hB _ _ d o10 o11 o12 o13 o14 _ _ _ _ _ hl7 ⟨hts1, hts4⟩ _ ?_
  refine nx_next ?_
  refine seq_mk ?_
  refine law16 w hB _ _ d o10 o11 o12 o13 o14 _ _ _ _ _ _ _ (by simp [lts]; omega) _ fun st h1 h2 => ?_
  refine nx_next ?_
  exact hK d o10 o11 o12 o13 o14 x q st _ bk bv _ _ hx (hin st h1 h2) hql (by omega) ht2
noncomputable abbrev eS (e : Sta) (st : List Int) (o21 o22 o23 o24 o25 o26 o27 o28 o29 o30 o31 o32 o33 o34 : Option SV) : List (Option SV) :=
  [some e.s0, some e.s1, some (.int e.n), some (.str e.nms), some (.list e.lds), some (.int e.tot), some (.int e.ts), some e.od, some (.obj 0), some (.obj 1), e.k10, e.k11, e.k12, e.k13, e.k14, some (.str e.x), some (.list [.iobj 59 3, .iobj 59 6]), some (.obj 8), some (.obj 9), some (.dict e.ck e.cv), some (.list (SI st)), o21, o22, o23, o24, o25, o26, o27, o28, o29, o30, o31, o32, o33, o34]
section
variable (w : World) (hB : Heap) (e : Sta) (ds : List Int) (st : List Int) (o21 o22 o23 o24 o25 o26 o27 o28 o29 o30 : Option SV) (rs : List SV) (bk : List Cs) (bv : List SV) (p : Nat) (ln : Int) (g : List SO) (t : LT) (K : AFl → St → Prop)
theorem law18 (hL : Ltr t) (hl : t.nm.length ≤ 7)
    (hK : K .next ⟨eS e st o21 o22 o23 o24 o25 o26 o27 o28 o29 o30 (some (.str t.nm)) none none none, tHp rs bk bv p e.x ln [] [] (wd ds t) g⟩) :
    (exLaw_18 w hB).1 K ⟨eS e st o21 o22 o23 o24 o25 o26 o27 o28 o29 o30 none none none none, tHp rs bk bv p e.x ln [] [] (wd ds t) g⟩ := by
  have l1 := wd_len (ds := ds) t
  have e3 : (wsR (wd ds t) [] 0 0 0).2.2.1 = (ldT ds t).length := by rw [wd_wsR hL]
  have e4 := wd_drop (ds := ds) t
  have e5 : (ldT ds t).length ≤ 1000 := by
    unfold wd at l1
    rw [List.length_append] at l1
    omega
  unfold exLaw_18
  dsimp only
  k_go
  refine ⟨by decide, by decide, rfl, rfl, trivial, ?_⟩
  rw [e3]
  generalize (ldT ds t).length = n at e4 e5
  k_go
  rw [if_pos (by omega), Int.toNat_natCast]
  dsimp only
  rw [e4]
  exact ⟨by omega, hK⟩
theorem law19 (hb : dget bk bv t.nm = some (bkE (lwC ds e.ts) t)) (hp : List SO) (hh : hget hp 1 = some (.dict bk bv))
    (hK : K .next ⟨eS e st o21 o22 o23 o24 o25 o26 o27 o28 o29 o30 (some (.str t.nm)) (some (bkE (lwC ds e.ts) t)) none none, hp⟩) :
    (exLaw_19 w hB).1 K ⟨eS e st o21 o22 o23 o24 o25 o26 o27 o28 o29 o30 (some (.str t.nm)) none none none, hp⟩ := by
  unfold exLaw_19
  dsimp only
  k_go
  simp only [dctOf, hh, hb]
  exact hK
theorem law20 (hp : List SO) (cf : Nat → Int) (o31 : Option SV)
    (hK : K .next ⟨eS e st o21 o22 o23 o24 o25 o26 o27 o28 o29 o30 o31 (some (bkE cf t)) (some (.dict (wkK t) (SI t.dp))) none, hp⟩) :
    (exLaw_20 w hB).1 K ⟨eS e st o21 o22 o23 o24 o25 o26 o27 o28 o29 o30 o31 (some (bkE cf t)) none none, hp⟩ := by
  unfold exLaw_20
  exact ⟨by decide, hK⟩
theorem law21 (hp : List SO) (cf : Nat → Int) (cs : List Int) (o31 o33 : Option SV) (hn : t.nm.length = e.n) (hcv : e.cv = SI cs) (hcs : cs.sum = t.tc cf)
    (hK : K .next ⟨eS e st o21 o22 o23 o24 o25 o26 o27 o28 o29 o30 o31 (some (bkE cf t)) o33 none, hp⟩) :
    (exLaw_21 w hB).1 K ⟨eS e st o21 o22 o23 o24 o25 o26 o27 o28 o29 o30 o31 (some (bkE cf t)) o33 none, hp⟩ := by
  unfold exLaw_21
  dsimp only
  unfold bkE entV at *
  k_go
  refine ⟨by decide, by decide, rfl, cs, hcv, by simp, ?_⟩
  have h3 := eq_three (neg := true) (a := (t.nm.length : Int) - 1) (b := (t.nm.length : Int)) (c := t.tc cf) (k := fun v st => match v.bool? with | some b => (if b then wConst (.bool false) fun v => K (.ret v) else K .next) st | none => False) hK
  rw [hcs, ← hn]
  exact h3
theorem law22 (hp : List SO) (o32 : Option SV) (hL : Ltr t) (hl : t.nm.length ≤ 7) (hP : t.nm.Perm e.nms) (hs : e.nms.Pairwise (· ≤ ·)) (hn : e.nms.length ≤ 7)
    (hK : K .next ⟨eS e st o21 o22 o23 o24 o25 o26 o27 o28 o29 o30 (some (.str t.nm)) o32 (some (.dict (wkK t) (SI t.dp))) none, hp⟩) :
    (exLaw_22 w hB).1 K ⟨eS e st o21 o22 o23 o24 o25 o26 o27 o28 o29 o30 (some (.str t.nm)) o32 (some (.dict (wkK t) (SI t.dp))) none, hp⟩ := by
  unfold exLaw_22
  dsimp only
  have ek : (wkK t).map SV.str = SS t.nm := by simp [wkK, SS]
  have hc : ∀ d ∈ t.nm, d < 0x110000 := fun d hd => by have := hL d hd; omega
  have hnn : ∀ d ∈ e.nms, d < 0x110000 := fun d hd => hc d (hP.mem_iff.mpr hd)
  refine ⟨by simp [wkK]; omega, by omega, ?_⟩
  show wEqG true (.list ((wkK t).map SV.str)) (.list (SS t.nm)) _ _
  rw [ek]
  refine eq_signs hc ?_
  refine ⟨by omega, fun y h1 h2 => ?_⟩
  have ey : y = e.nms := List.Perm.eq_of_pairwise (fun a b u_ u_ h1 h2 => Nat.le_antisymm h1 h2) h2 hs (h1.trans hP)
  subst ey
  refine ⟨by omega, ?_⟩
  exact eq_signs (neg := true) hnn (k := fun v st => match v.bool? with | some b => (if b then wConst (.bool false) fun v => K (.ret v) else K .next) st | none => False) hK
end
noncomputable def lk : Cs → List Int → Nat → Int
  | a :: l, v :: vs, c => if a = c then v else lk l vs c
  | w1_, w2_, w3_ => 0
theorem lk_dget {c : Nat} : ∀ {l : Cs} {vs : List Int}, c ∈ l → l.length = vs.length → dget (l.map fun d => [d]) (SI vs) [c] = some (.int (lk l vs c))
  | [], w1_, h, w2_ => by simp at h
  | a :: l, [], w1_, h => by simp at h
  | a :: l, v :: vs, h, hl => by
    by_cases e : a = c
    · subst e; simp [dget, lk, SI]
    · have : ¬ ([a] : Cs) = [c] := by simpa using e
      simp only [List.map_cons, SI, dget, lk, if_neg e, if_neg this]
      have h2 : c ∈ l := by
        rcases List.mem_cons.mp h with q | q
        · exact absurd q.symm e
        · exact q
      exact lk_dget h2 (by simpa using hl)
theorem lk_map : ∀ {l : Cs} {vs : List Int}, l.Nodup → l.length = vs.length → l.map (lk l vs) = vs
  | [], [], w1_, w2_ => rfl
  | [], w1_ :: w2_, w3_, h => by simp at h
  | w1_ :: w2_, [], w3_, h => by simp at h
  | a :: l, v :: vs, hn, hl => by
    have hn' := List.nodup_cons.mp hn
    have e : l.map (lk (a :: l) (v :: vs)) = l.map (lk l vs) := List.map_congr_left fun c hc => by
      have : ¬ a = c := fun q => hn'.1 (q ▸ hc)
      simp [lk, this]
    rw [List.map_cons, e, lk_map hn'.2 (by simpa using hl)]
    simp [lk]
theorem lk_mem : ∀ {l : Cs} {vs : List Int} {c : Nat}, c ∈ l → l.length = vs.length → lk l vs c ∈ vs
  | [], w1_, w2_, h, w3_ => by simp at h
  | w1_ :: w2_, [], w3_, w4_, h => by simp at h
  | a :: l, v :: vs, c, h, hl => by
    by_cases e : a = c
    · simp [lk, e]
    · simp only [lk, if_neg e]
      have h2 : c ∈ l := by
        rcases List.mem_cons.mp h with q | q
        · exact absurd q.symm e
        · exact q
      exact List.mem_cons_of_mem _ (lk_mem h2 (by simpa using hl))
theorem dget_cf {cf : Nat → Int} {c : Nat} : ∀ {l : Cs}, c ∈ l → dget (l.map fun d => [d]) (SI (l.map cf)) [c] = some (.int (cf c))
  | [], h => by simp at h
  | a :: l, h => by
    by_cases e : a = c
    · subst e; simp [dget, SI]
    · have : ¬ ([a] : Cs) = [c] := by simpa using e
      simp only [List.map_cons, SI, dget, if_neg this]
      have h2 : c ∈ l := by
        rcases List.mem_cons.mp h with q | q
        · exact absurd q.symm e
        · exact q
      exact dget_cf h2
theorem eq_intE {neg : Bool} {x y : Int} (h : x = y) {k : SV → St → Prop} {st : St} (hk : k (.bool (!neg)) st) : wEqG neg (.int x) (.int y) k st := by
  subst h
  have e : (if neg then x != x else x == x) = !neg := by cases neg <;> simp
  show k (.bool (if neg then x != x else x == x)) st
  rw [e]; exact hk
theorem eq_strE {neg : Bool} {x y : Cs} (h : x = y) {k : SV → St → Prop} {st : St} (hk : k (.bool (!neg)) st) : wEqG neg (.str x) (.str y) k st := by
  subst h
  have e : (if neg then x != x else x == x) = !neg := by cases neg <;> simp
  show k (.bool (if neg then x != x else x == x)) st
  rw [e]; exact hk
noncomputable abbrev chkK (K : AFl → St → Prop) : SV → St → Prop := fun v st => match v.bool? with | some b => (if b then wConst (.bool false) fun v => K (.ret v) else K .next) st | none => False
section
variable (w : World) (hB : Heap) (e : Sta) (ds : List Int) (st : List Int) (o21 o22 o23 o24 o25 o26 o27 o28 o29 o30 : Option SV) (t : LT) (K : AFl → St → Prop)
theorem law23 (hp : List SO) (o31 o32 : Option SV) (hl : t.nm.length ≤ 7) (hP : t.nm.Perm e.nms) (hnd : t.nm.Nodup) (hn : t.nm.length = e.n)
    (hK : K .next ⟨eS e st o21 o22 o23 o24 o25 o26 o27 o28 o29 o30 o31 o32 (some (.dict (wkK t) (SI t.dp))) none, hp⟩) :
    (exLaw_23 w hB).1 K ⟨eS e st o21 o22 o23 o24 o25 o26 o27 o28 o29 o30 o31 o32 (some (.dict (wkK t) (SI t.dp))) none, hp⟩ := by
  have hd := LT.dp_len t
  have hlen := hP.length_eq
  unfold exLaw_23
  dsimp only
  unfold wComp
  k_go
  refine ⟨clos_map _ (fun u_ => by exact trivial) _, by simp; omega, by simp [closO, capLoc, capsZ, look, clo]; exact clos_SI _, ?_⟩
  simp only [capLoc, capsZ, List.map, look]
  refine comp_mapF (fun c => .str [c]) (fun c => .int (2 ^ (e.n - lk t.nm t.dp c).toNat)) e.nms none [] (fun c hc F hF => ?_) ?_
  · have hc' : c ∈ t.nm := hP.mem_iff.mpr hc
    have hm := LT.dp_le t _ (lk_mem hc' hd.symm)
    k_go
    have hg : dget (wkK t) (SI t.dp) [c] = some (.int (lk t.nm t.dp c)) := lk_dget hc' hd.symm
    rw [hg]
    exact ⟨⟨⟨by decide, by decide⟩, by omega, by omega⟩, hF⟩
  · refine ⟨clos_map _ (fun u_ => by exact trivial) _, e.nms.map (fun c => 2 ^ (e.n - lk t.nm t.dp c).toNat), by simp, ?_⟩
    have hs : (e.nms.map (fun c => (2 : Int) ^ (e.n - lk t.nm t.dp c).toNat)).sum = 2 ^ e.n := by
      rw [← perm_sum (hP.map _)]
      have e1 : t.nm.map (fun c => (2 : Int) ^ (e.n - lk t.nm t.dp c).toNat) = (t.nm.map (lk t.nm t.dp)).map fun d => (2 : Int) ^ ((e.n : Int) - d).toNat := by rw [List.map_map]; rfl
      rw [e1, lk_map hnd hd.symm]
      exact LT.kraft t e.n (by omega)
    rw [hs]
    refine ⟨⟨⟨by decide, by decide⟩, by omega, by omega⟩, ?_⟩
    exact eq_intE (neg := true) (k := chkK K) (y := 2 ^ (e.n : Int).toNat) (by rw [Int.toNat_natCast]) hK
theorem law24 (hp : List SO) (o31 : Option SV) (cf : Nat → Int) (hl : t.nm.length ≤ 7) (hP : t.nm.Perm e.nms) (hnd : t.nm.Nodup) (hck : e.ck = e.nms.map fun d => [d]) (hcv : e.cv = SI (e.nms.map cf))
    (hK : K .next ⟨eS e st o21 o22 o23 o24 o25 o26 o27 o28 o29 o30 o31 (some (bkE cf t)) (some (.dict (wkK t) (SI t.dp))) none, hp⟩) :
    (exLaw_24 w hB).1 K ⟨eS e st o21 o22 o23 o24 o25 o26 o27 o28 o29 o30 o31 (some (bkE cf t)) (some (.dict (wkK t) (SI t.dp))) none, hp⟩ := by
  have hd := LT.dp_len t
  have hlen := hP.length_eq
  unfold exLaw_24
  dsimp only
  unfold wComp
  k_go
  refine ⟨clos_map _ (fun u_ => by exact trivial) _, by simp; omega, by simp [closO, capLoc, capsZ, look, clo]; exact ⟨clos_SI _, by rw [hcv]; exact clos_SI _⟩, ?_⟩
  simp only [capLoc, capsZ, List.map, look]
  rw [hck, hcv]
  refine comp_mapF (fun c => .str [c]) (fun c => .int (lk t.nm t.dp c * cf c)) e.nms none [] (fun c hc F hF => ?_) ?_
  · have hc' : c ∈ t.nm := hP.mem_iff.mpr hc
    k_go
    have hg : dget (wkK t) (SI t.dp) [c] = some (.int (lk t.nm t.dp c)) := lk_dget hc' hd.symm
    rw [hg]
    dsimp only
    rw [dget_cf hc]
    have hm := LT.dp_le t _ (lk_mem hc' hd.symm)
    exact ⟨by omega, hF⟩
  · refine ⟨clos_map _ (fun u_ => by exact trivial) _, e.nms.map (fun c => lk t.nm t.dp c * cf c), by simp, ?_⟩
    have hs : (e.nms.map (fun c => lk t.nm t.dp c * cf c)).sum = t.pr cf := by
      rw [← perm_sum (hP.map _), ← LT.pr_eq cf t]
      have e1 : ∀ (l : Cs), l.map (fun c => lk t.nm t.dp c * cf c) = List.zipWith (· * ·) (l.map (lk t.nm t.dp)) (l.map cf) := by
        intro l
        induction l with
        | nil => rfl
        | cons a l ih => simp only [List.map_cons, List.zipWith_cons_cons, ih]
      rw [e1, lk_map hnd hd.symm]
    rw [hs]
    refine ⟨by decide, ?_⟩
    exact eq_intE (neg := true) (k := chkK K) rfl hK
end
theorem huf_isOpt {l l' : List Int} {v : Int} (h : Huf l v) (hp : l'.Perm l) (hs : l'.Pairwise (· ≤ ·)) : IsOpt l' v := by
  refine ⟨fun t ht => h.le t (by rw [ht]; exact hp), ?_⟩
  obtain ⟨t0, h1, h2⟩ := h.tree
  obtain ⟨t, h3, h4⟩ := (lay hs (h1.trans hp.symm)).1
  refine ⟨t, h3, ?_⟩
  have := h.le t (by rw [h3]; exact hp)
  omega
section
variable (w : World) (hB : Heap) (e : Sta) (ds : List Int) (st : List Int) (o21 o22 o23 o24 o25 o26 o27 o28 o29 o30 : Option SV) (t : LT) (K : AFl → St → Prop)
theorem law25 (hp : List SO) (o31 o32 o33 : Option SV) (cf : Nat → Int) (v : Int) (hl : e.nms.length ≤ 7) (hl1 : 1 ≤ e.nms.length) (hck : e.ck = e.nms.map fun d => [d]) (hcv : e.cv = SI (e.nms.map cf)) (hv : Huf (e.nms.map fun c => 1000 * cf c + 1) v)
    (hK : K .next ⟨eS e st o21 o22 o23 o24 o25 o26 o27 o28 o29 o30 o31 o32 o33 (some (.int v)), hp⟩) :
    (exLaw_25 w hB).1 K ⟨eS e st o21 o22 o23 o24 o25 o26 o27 o28 o29 o30 o31 o32 o33 none, hp⟩ := by
  unfold exLaw_25
  dsimp only
  unfold wComp
  k_go
  refine ⟨clos_map _ (fun u_ => by exact trivial) _, by simp; omega, by simp [closO, capLoc, capsZ, look, clo]; rw [hcv]; exact clos_SI _, ?_⟩
  simp only [capLoc, capsZ, List.map, look]
  rw [hck, hcv]
  refine comp_mapF (fun c => .str [c]) (fun c => .int (1000 * cf c + 1)) e.nms none [] (fun c hc F hF => ?_) ?_
  · k_go
    rw [dget_cf hc]
    exact ⟨by decide, hF⟩
  · refine ⟨clos_map _ (fun u_ => by exact trivial) _, e.nms.map (fun c => 1000 * cf c + 1), by simp, by simp; omega, fun ws h1 h2 => ?_⟩
    have hlw := h1.length_eq
    rw [List.length_map] at hlw
    exact ⟨ws, v, rfl, by omega, by omega, huf_isOpt hv h1 h2, hK⟩
theorem law26 (hp : List SO) (o31 : Option SV) (cf : Nat → Int) (hl : t.nm.length ≤ 7)
    (hK : K .next ⟨eS e st o21 o22 o23 o24 o25 o26 o27 o28 o29 o30 o31 (some (bkE cf t)) (some (.dict (wkK t) (SI t.dp))) (some (.int (t.cost cf))), hp⟩) :
    (exLaw_26 w hB).1 K ⟨eS e st o21 o22 o23 o24 o25 o26 o27 o28 o29 o30 o31 (some (bkE cf t)) (some (.dict (wkK t) (SI t.dp))) (some (.int (t.cost cf))), hp⟩ := by
  unfold exLaw_26
  dsimp only
  refine ⟨by decide, ?_⟩
  refine on1.up rfl ?_
  show wMul false (.int 1000) (.int (t.pr cf)) _ _
  refine ⟨by decide, ?_⟩
  refine ⟨rfl, t.dp, rfl, ?_⟩
  exact eq_intE (neg := true) (k := chkK K) rfl hK
theorem law27 (hp : List SO) (o32 o33 o34 : Option SV) (a0 : Cs) (hd : List SV) (hL : Ltr t) (hl : t.nm.length ≤ 7) (hP : t.nm.Perm (lts ds.length)) (hnm : e.nms = lts ds.length) (hld : e.lds = ldS ds) (h8 : hget hp 8 = some (.list [.str a0, .str (wd ds t)]))
    (hK : K .next ⟨eS e st o21 o22 o23 o24 o25 o26 o27 o28 o29 o30 (some (.str t.nm)) o32 o33 o34, hp⟩) :
    (exLaw_27 w hB).1 K ⟨eS e st o21 o22 o23 o24 o25 o26 o27 o28 o29 o30 (some (.str t.nm)) o32 o33 o34, hp⟩ := by
  unfold exLaw_27
  dsimp only
  unfold wComp
  k_go
  simp only [h8]
  refine ⟨by decide, rfl, clos_map _ (fun u_ => by exact trivial) _, by simp; omega, by simp [closO, capLoc, capsZ, look, clo]; rw [hld]; exact clos_map _ (fun u_ => by exact trivial) _, ?_⟩
  simp only [capLoc, capsZ, List.map, look]
  rw [hld, hnm]
  refine comp_mapF (fun c => .str [c]) (fun c => .str (lwL ds c)) t.nm none [] (fun c hc F hF => ?_) ?_
  · have hc' : c ∈ lts ds.length := hP.mem_iff.mp hc
    simp only [lts, List.mem_range'_1] at hc'
    have hk : c - 97 < ds.length := by omega
    have hg := lts_get ds.length (c - 97) hk
    have ec : 97 + (c - 97) = c := by omega
    rw [ec] at hg
    refine ⟨rfl, c - 97, hg, fun j hj => ?_, ?_⟩
    · rw [lts_get _ _ (by omega)]
      intro q
      have : 97 + j = c := by simpa using q
      omega
    · have hn := ldS_nth (ds := ds) (c - 97) hk
      have el : leadN ds[c - 97] = lwL ds c := by
        rw [leadN_ld]
        unfold lwL lwP
        simp [List.getD_eq_getElem?_getD, hk]
      rw [el] at hn
      k_go
      rw [Int.toNat_natCast, hn]
      have hb := hL c hc
      exact ⟨by omega, hF⟩
  · refine ⟨clos_map _ (fun u_ => by exact trivial) _, t.nm.map (lwL ds), by simp, by simp; omega, fun y hy => ?_, ?_⟩
    · obtain ⟨c, _, rfl⟩ := List.mem_map.mp hy
      have := lwL_len (ds := ds) c
      omega
    · have l1 := wd_len (ds := ds) t
      have ef : (t.nm.map (lwL ds)).flatten = ldT ds t := by unfold ldT; rw [List.flatMap_def]
      rw [ef]
      refine ⟨by unfold wd at l1; rw [List.length_append] at l1; omega, ?_⟩
      exact eq_strE (neg := true) (k := chkK K) rfl hK
end
theorem leads_flat (ds : List Int) : (ds.map leadN).flatten = ldC ((lts ds.length).flatMap (lwP ds)) := by
  have e : ds.map leadN = (lts ds.length).map (lwL ds) := by
    apply List.ext_getElem
    · simp [lts]
    · intro i h1 h2
      simp at h1
      have e1 : (97 + i) - 97 = i := by omega
      simp only [List.getElem_map, lts, List.getElem_range', Nat.one_mul, lwL, lwP, e1, leadN_ld]
      simp [List.getD_eq_getElem?_getD, h1]
  rw [e]
  generalize lts ds.length = l
  induction l with
  | nil => rfl
  | cons c l ih => simp only [List.map_cons, List.flatten_cons, List.flatMap_cons, ldC_append, ih]; rfl
section
variable (w : World) (hB : Heap) (e : Sta) (ds : List Int) (st : List Int) (o21 o22 o23 o24 o25 o26 o27 o28 o29 o30 : Option SV) (t : LT) (K : AFl → St → Prop)
theorem law28 (hp : List SO) (o31 o32 o33 o34 : Option SV) (a0 : SV) (hn : ds.length ≤ 7) (hL : Ltr t) (hP : t.nm.Perm (lts ds.length)) (hld : e.lds = ldS ds) (h9 : hget hp 9 = some (.list [a0, wsV (wd ds t)]))
    (hK : K .next ⟨eS e st o21 o22 o23 o24 o25 o26 o27 o28 o29 o30 o31 o32 o33 o34, hp⟩) :
    (exLaw_28 w hB).1 K ⟨eS e st o21 o22 o23 o24 o25 o26 o27 o28 o29 o30 o31 o32 o33 o34, hp⟩ := by
  have hy := leads_flat ds
  have hlen : (ds.map leadN).flatten.length ≤ 100 := by
    rw [hy]
    have h1 := ldC_len ((lts ds.length).flatMap (lwP ds)) (fun b hb => by
      obtain ⟨c, _, h⟩ := List.mem_flatMap.mp hb
      exact lwP_le c b h)
    have h2 := flat_len (lwP ds) 4 (fun c => (lwP_len (ds := ds) c).2) (lts ds.length)
    have h3 : (lts ds.length).length = ds.length := by simp [lts]
    rw [h3] at h2
    omega
  have hw1 := wd_wsR (ds := ds) hL
  have hw2 : wsR (ds.map leadN).flatten [] 0 0 0 = (((lts ds.length).flatMap (lwP ds)).foldl bump [], 0, (ds.map leadN).flatten.length, ((lts ds.length).flatMap (lwP ds)).length) := by
    have := wsR_ld ((lts ds.length).flatMap (lwP ds)) [] [] 0 0 (fun u_ u_ h => by cases h)
    rw [List.append_nil] at this
    rw [hy, this, Nat.zero_add, Nat.zero_add]
  unfold exLaw_28
  dsimp only
  k_go
  simp only [h9]
  refine ⟨by decide, ⟨rfl, rfl⟩, rfl, ?_⟩
  rw [hld]
  refine ⟨ds.map leadN, by simp [ldS], by simp; omega, fun y hy => ?_, ?_⟩
  · obtain ⟨z, _, rfl⟩ := List.mem_map.mp hy
    rw [leadN_ld]
    have := ldC_len (psN z) (psR_le _ _)
    have := (psN_len z).2
    omega
  refine ⟨by omega, wd ds t, (ds.map leadN).flatten, rfl, ?_, ?_, ?_⟩
  · rw [hw1, hw2]
    exact foldl_bump (flatMap_perm (lwP ds) hP) []
  · rw [hw1, hw2]
  · exact hK
theorem law29 (o31 o32 o33 o34 : Option SV) (m : LT → Int) (rs : List SV) (bk : List Cs) (bv : List SV) (p : Nat) (ln : Int) (a1 : Cs) (g : List SO) (hx : e.x.length ≤ 100000) (h1 : Ln1 ds m e.x [] [] p ln)
    (hK : ∀ p', K .next ⟨eS e st o21 o22 o23 o24 o25 o26 o27 o28 o29 o30 o31 o32 o33 o34, tHp rs bk bv p' e.x (1 + (e.x.count 10 : Nat)) [] [] a1 g⟩) :
    (exLaw_29 w hB).1 K ⟨eS e st o21 o22 o23 o24 o25 o26 o27 o28 o29 o30 o31 o32 o33 o34, tHp rs bk bv p e.x ln [] [] a1 g⟩ := by
  obtain ⟨sp, hs, ht⟩ := h1.tl
  simp only [List.tail_nil, List.map_nil, List.flatten_nil, List.append_nil] at ht
  unfold exLaw_29
  dsimp only
  k_go
  refine ⟨by decide, by decide, ⟨rfl, rfl⟩, rfl, 2, 4, e.x, ln, p, [], lexA0 _ _ _ _ _ _ _ _ _ _ hx h1.le, [], [], .inr (.inr ⟨by rw [ht]; exact hs, rfl, rfl⟩), ?_⟩
  have e1 : ln + ((e.x.drop p).count 10 : Nat) - (([] : Cs).count 10 : Nat) = 1 + (e.x.count 10 : Nat) := by have := h1.ln; simp; omega
  rw [e1]
  simp only [lexP, List.set]
  simp only [wConst, wB]
  refine eq_strE (neg := true) rfl ?_
  simp only [SV.bool?, Bool.not_true, Bool.false_eq_true, if_false]
  refine ⟨by decide, ⟨rfl, rfl⟩, rfl, 5, 7, [], 1, 0, [], lexA1 _ _ _ _ _ _ _ _ _ _, [], [], .inr (.inr ⟨by simp, rfl, rfl⟩), ?_⟩
  simp only [lexP, List.set]
  show wEqG true (.str []) (.str []) (chkK K) _
  exact eq_strE (neg := true) (k := chkK K) rfl (hK _)
theorem law30 (o31 o32 o33 o34 : Option SV) (rs : List SV) (bk : List Cs) (bv : List SV) (p : Nat) (a1 : Cs) (g : List SO) (k : SV → List SO → Prop) (hK : ∀ hp, k (.bool true) hp) :
    (exLaw_30 w hB).1 (retK k) ⟨eS e st o21 o22 o23 o24 o25 o26 o27 o28 o29 o30 o31 o32 o33 o34, tHp rs bk bv p e.x (1 + (e.x.count 10 : Nat)) [] [] a1 g⟩ := by
  unfold exLaw_30
  dsimp only
  k_go
  refine ⟨by decide, rfl, rfl, trivial, rfl, ?_⟩
  exact eq_intE (neg := false) (by omega) (k := fun v st => retK k (.ret v) st) (hK _)
end
theorem law_tail (w : World) (hB : Heap) (s0 : SV) (ns : List Int) (d : Int) (o10 o11 o12 o13 o14 : Option SV) (x : Cs) (q : List LT) (st : List Int) (rs : List SV) (bk : List Cs) (bv : List SV) (p : Nat) (ln : Int) (hx : x.length ≤ 100000) (hT : TIn (lwC (drw ns) (tsz (drw ns))) (lts (drw ns).length) (lwts (drw ns) (tsz (drw ns))) q [] st bk bv) (hq : q.length = (drw ns).length) (hbk : bk.length ≤ 7)
    (h1 : Ln1 (drw ns) (mT (drw ns)) x q (hdW (drw ns) q) p ln) (k : SV → List SO → Prop) (hK : ∀ hp, k (.bool true) hp) :
    (wSeq (exLaw_17 w hB).1 <| wSeq (exLaw_18 w hB).1 <| wSeq (exLaw_19 w hB).1 <| wSeq (exLaw_20 w hB).1 <| wSeq (exLaw_21 w hB).1 <| wSeq (exLaw_22 w hB).1 <| wSeq (exLaw_23 w hB).1 <| wSeq (exLaw_24 w hB).1 <| wSeq (exLaw_25 w hB).1 <| wSeq (exLaw_26 w hB).1 <| wSeq (exLaw_27 w hB).1 <| wSeq (exLaw_28 w hB).1 <| wSeq (exLaw_29 w hB).1 <| (exLaw_30 w hB).1) (retK k)
      ⟨lwS (staOf s0 (drw ns) d o10 o11 o12 o13 o14 x) st none none none none none none none none none none, tHp rs bk bv p x ln [] (hdW (drw ns) q) [] []⟩ := by
  obtain ⟨hl5, hl7⟩ := drw_len ns
  obtain ⟨hts, hts1, hts4⟩ := tsz_eq (drw ns)
  generalize drw ns = ds at *
  have hL := lett hl7
  have hlen : (lts ds.length).length = ds.length := by simp [lts]
  refine seq_mk ?_
  refine turns w hB (staOf s0 ds d o10 o11 o12 o13 o14 x) ds (mT ds) (q1 := q) (q2 := []) none none none none none none none none none none rs p ln [] hL ⟨hts1, hts4⟩ hx hT (by simpa using hq) (by show 1 ≤ ds.length; omega) hbk h1 _ fun q1 q2 st bk bv p ln g o21 o22 o23 o24 o25 o26 o27 o28 o29 o30 hT hn h1 => ?_
  have hnl := hT.nm.length_eq
  rw [hlen] at hnl
  have hq1 : q1 = [] := by
    cases q1 with
    | nil => rfl
    | cons t q1 =>
      simp only [List.length_cons] at hn
      have e1 : q1 = [] := List.eq_nil_of_length_eq_zero (by omega)
      have e2 : q2 = [] := List.eq_nil_of_length_eq_zero (by omega)
      subst e1 e2
      have := hT.lns.one t (by simp)
      simp at hnl
      omega
  subst hq1
  obtain ⟨t, rfl⟩ : ∃ t, q2 = [t] := by
    cases q2 with
    | nil => simp at hn
    | cons t q2 =>
      simp only [List.length_cons, List.length_nil] at hn
      have e2 : q2 = [] := List.eq_nil_of_length_eq_zero (by omega)
      exact ⟨t, by rw [e2]⟩
  have hP : t.nm.Perm (lts ds.length) := by have := hT.nm; simpa using this
  have ht := names_ok hL hT.nm (t := t) (by simp)
  have hnd : t.nm.Nodup := hP.nodup_iff.mpr hL.nd
  have hb := hT.bb t (by simp)
  have htl : t.nm.length = ds.length := hP.length_eq.trans hlen
  have hv : Huf (lwts ds (tsz ds)) (t.cost (lwC ds (tsz ds))) := by
    have := hT.hi 0 (.one _)
    simpa using this
  have hcs : ((lts ds.length).map (lwC ds (tsz ds))).sum = t.tc (lwC ds (tsz ds)) := (perm_sum (hP.map _)).symm
  have hsort : (lts ds.length).Pairwise (· ≤ ·) := by
    unfold lts
    exact (List.pairwise_lt_range' (s := 97) (n := ds.length)).imp fun h => Nat.le_of_lt h
  refine nx_next ?_
  refine seq_mk ?_
  refine law18 w hB _ ds st _ _ _ _ _ _ _ _ _ _ rs bk bv p ln g t _ ht.1 ht.2 ?_
  refine nx_next ?_
  refine seq_mk ?_
  refine law19 w hB _ ds st _ _ _ _ _ _ _ _ _ _ bk bv t _ hb _ rfl ?_
  refine nx_next ?_
  refine seq_mk ?_
  refine law20 w hB _ st _ _ _ _ _ _ _ _ _ _ t _ _ _ _ ?_
  refine nx_next ?_
  refine seq_mk ?_
  refine law21 w hB _ st _ _ _ _ _ _ _ _ _ _ t _ _ _ ((lts ds.length).map (lwC ds (tsz ds))) _ _ htl rfl hcs ?_
  refine nx_next ?_
  refine seq_mk ?_
  refine law22 w hB _ st _ _ _ _ _ _ _ _ _ _ t _ _ _ ht.1 ht.2 hP hsort (by show (lts ds.length).length ≤ 7; omega) ?_
  refine nx_next ?_
  refine seq_mk ?_
  refine law23 w hB _ st _ _ _ _ _ _ _ _ _ _ t _ _ _ _ ht.2 hP hnd htl ?_
  refine nx_next ?_
  refine seq_mk ?_
  refine law24 w hB _ st _ _ _ _ _ _ _ _ _ _ t _ _ _ _ ht.2 hP hnd rfl rfl ?_
  refine nx_next ?_
  refine seq_mk ?_
  refine law25 w hB _ st _ _ _ _ _ _ _ _ _ _ _ _ _ _ _ (lwC ds (tsz ds)) _ (by show (lts ds.length).length ≤ 7; omega) (by show 1 ≤ (lts ds.length).length; omega) rfl rfl hv ?_
  refine nx_next ?_
  refine seq_mk ?_
  refine law26 w hB _ st _ _ _ _ _ _ _ _ _ _ t _ _ _ _ ht.2 ?_
  refine nx_next ?_
  refine seq_mk ?_
  refine law27 w hB _ ds st _ _ _ _ _ _ _ _ _ _ t _ _ _ _ _ [] [] ht.1 ht.2 hP rfl rfl rfl ?_
  refine nx_next ?_
  refine seq_mk ?_
  refine law28 w hB _ ds st _ _ _ _ _ _ _ _ _ _ t _ _ _ _ _ _ (wsV []) hl7 ht.1 hP rfl rfl ?_
  refine nx_next ?_
  refine seq_mk ?_
  refine law29 w hB (staOf s0 ds d o10 o11 o12 o13 o14 x) ds st _ _ _ _ _ _ _ _ _ _ _ _ _ _ _ (mT ds) rs bk bv p ln _ g hx h1 fun p' => ?_
  refine nx_next ?_
  exact law30 w hB (staOf s0 ds d o10 o11 o12 o13 o14 x) st _ _ _ _ _ _ _ _ _ _ _ _ _ _ rs bk bv p' _ g k hK
noncomputable def exLawG (w : World) (hB : Heap) {la : Addr} {items : List Value} {ns : List Int} (H : hB.IsList la items.toArray) (hI : IntsAre items ns) : { W : T AFl // ∀ A L, ExecsTo w hB (cxLaw A L) (dBody (stm 15)) W } := ⟨_, fun A L =>
  exs_cons ((exLaw_0G w hB H hI).2 A L) <|
  exs_cons ((exLaw_1 w hB).2 A L) <|
  exs_cons ((exLaw_2 w hB).2 A L) <|
  exs_cons ((exLaw_3 w hB).2 A L) <|
  exs_cons ((exLaw_4 w hB).2 A L) <|
  exs_cons ((exLaw_5 w hB).2 A L) <|
  exs_cons ((exLaw_6 w hB).2 A L) <|
  exs_cons ((exLaw_7 w hB).2 A L) <|
  exs_cons ((exLaw_8 w hB).2 A L) <|
  exs_cons ((exLaw_9 w hB).2 A L) <|
  exs_cons ((exLaw_10 w hB).2 A L) <|
  exs_cons ((exLaw_11 w hB).2 A L) <|
  exs_cons ((exLaw_12 w hB).2 A L) <|
  exs_cons ((exLaw_13 w hB).2 A L) <|
  exs_cons ((exLaw_14 w hB).2 A L) <|
  exs_cons ((exLaw_15 w hB).2 A L) <|
  exs_cons ((exLaw_16 w hB).2 A L) <|
  exs_cons ((exLaw_17 w hB).2 A L) <|
  exs_cons ((exLaw_18 w hB).2 A L) <|
  exs_cons ((exLaw_19 w hB).2 A L) <|
  exs_cons ((exLaw_20 w hB).2 A L) <|
  exs_cons ((exLaw_21 w hB).2 A L) <|
  exs_cons ((exLaw_22 w hB).2 A L) <|
  exs_cons ((exLaw_23 w hB).2 A L) <|
  exs_cons ((exLaw_24 w hB).2 A L) <|
  exs_cons ((exLaw_25 w hB).2 A L) <|
  exs_cons ((exLaw_26 w hB).2 A L) <|
  exs_cons ((exLaw_27 w hB).2 A L) <|
  exs_cons ((exLaw_28 w hB).2 A L) <|
  exs_cons ((exLaw_29 w hB).2 A L) <|
  ex_one ((exLaw_30 w hB).2 A L)⟩
theorem law_spec (w : World) (hB : Heap) {la : Addr} {items : List Value} {ns : List Int} (H : hB.IsList la items.toArray) (hI : IntsAre items ns) (hn : ns.length ≤ 63) (k : SV → List SO → Prop) (hK : ∀ hp, k (.bool true) hp) :
    (exLawG w hB H hI).1 (retK k) ⟨initLoc [.gl (.ref la)] 35, []⟩ := by
  unfold exLawG
  dsimp only
  refine law_head w hB H hI hn _ _ fun d o10 o11 o12 o13 o14 x q st rs bk bv p ln h1 h2 h3 h4 h5 => ?_
  exact law_tail w hB _ ns d o10 o11 o12 o13 o14 x q st rs bk bv p ln h1 h2 h3 h4 h5 k hK
theorem gl_law (w : World) : nsIn (KF w) mainGlobals "law" = some (some (.ref 207)) := by kernel_rfl
theorem law_call {w : World} {s : Shared} {p : Program} {loose : List Str} {mean : ExcName → Option Value} {mg mb : Str → Option Value} {la : Addr} {items : List Value} {ns : List Int}
    (X : (KF w).In s.heap) (hT : TabsAt [(177, 173)] s.heap) (T : Top p loose mean mg mb s.heap) (hL : s.heap.IsList la items.toArray) (hI : IntsAre items ns) (hn : ns.length ≤ 63) :
    codeAny (model P w) callerA (.call (.ref 207) ⟨[.ref la], []⟩) (fun r s' => r = .ok (.ret (.bool true)) ∧ (∀ b o, (ghostOf s.heap [(177, 173)]).get? b = some o → s'.heap.get? b = some o) ∧ s'.os = s.os ∧ s'.gens = s.gens ∧ GrownAll [(177, 173)] s'.heap) s := by
  have X' : (KF w).In (ghostOf s.heap [(177, 173)]) := ghost_K hT X (by kernel_rfl)
  have T' := ghost_top hT T
  have C' := ghost_code hT
  have G : Grd w (ghostOf s.heap [(177, 173)]) := {
    X := X'
    top := ⟨_, _, _, _, topRead_of T'⟩
    hid := hideAll_none _ (by simp)
    code := C'.1
    boot := by
      obtain ⟨bm, ob, a, b, c, d, e, f⟩ := T'.bmain
      exact ⟨_, bm, ob, T'.g, a, b, c, d, e, f⟩ }
  have R : Rel0 w (ghostOf s.heap [(177, 173)]) [] [] [] s := {
    grd := G
    base := fun b o e => of_hideAll _ e
    tab := ⟨#[], (hT (177, 173) (by simp)).2, by simp [TriplesOk], fun cv h => by simp [codeAmong] at h⟩
    len := rfl
    live := fun i so a h => by simp at h
    frz := fun p hp => by cases hp
    new := fun a h => by simp at h
    nodup := List.nodup_nil
    zap := fun p hp => by cases hp
    nomod := ⟨fun a h => by simp at h, fun p hp => by cases hp⟩ }
  have hv : VRs w [] [] [.gl (.ref la)] [.ref la] := by
    exact ⟨_, _, rfl, rfl, rfl⟩
  refine codeAny_mono (call_gen (fnIs_of G (fnLaw w).k (fnLaw w).cd (fnLaw w).bd (fnLaw w).hs (fnLaw w).nd) (cxIs_of 5 0 (fnLaw w).chk) (exLawG w _ (ghost_list hT hL) hI).2 rfl (by decide) (by decide) R hv rfl rfl (law_spec w _ (ghost_list hT hL) hI hn (fun sv u_ => sv = .bool true) fun u_ => rfl)) ?_
  rintro r s' ⟨v, sv, hp', al', Z', rfl, p, rv, rfl⟩
  cases (rv : _ = _)
  obtain ⟨ps, h1, _⟩ := p.rel.tab
  exact ⟨rfl, p.rel.base, p.os, p.gens, ⟨ps, h1⟩, trivial⟩
end Mine.Internal
set_option maxHeartbeats 8000000 in
theorem PySem.Challenge.cw_pe0218_01_holds : PySem.Challenge.rw_pe0218_01.Holds := by
  refine holds_law Mine.Internal.lsaid fun _ => ?_
  refine holds_open (q := Mine.Internal.hview) (loose := Mine.Internal.hloose) (Xt := Mine.Internal.hXt) (XP := XL Mine.Internal.hview []) (Yf := Mine.Internal.hH.obs) (Ya := Mine.Internal.hH.val) (YP := Mine.Internal.hH.says) (N := 2892) ?a ?b ?c ?d ?e (by rfl) (by rfl) (by rfl) ?i ?j ?k ?l ?m ?hw ?hc
  case a => exact Mine.Internal.hleft
  case b => exact Mine.Internal.hH.of
  case c => exact Mine.Internal.hH.keeps
  case d => exact (fun s e => xl_of s (Bool.and_eq_true_iff.mp e).1)
  case e => exact XL.keeps
  case i => exact (fun s e => recFacts_of (Bool.and_eq_true_iff.mp e).2)
  case j => rfl
  case k => exact Mine.Internal.lrow
  case l => decide +kernel
  case m => exact ⟨rfl, rfl, rfl, rfl, rfl, by decide +kernel⟩
  case hw => w_witness2
  intro w s₀ s₁ mg mb G Y fa o pm cd doc dV kV ho hd hcd hD hmg hg args vals as hpre hlay hrd hwl hlo
  have KX : (Mine.Internal.KF w).In s₁.heap := km_in_of (K := Mine.Internal.hk.heap_1) Y
  have hT8 : ∀ Q ∈ [173], s₁.heap.get? Q = some (tabObj #[]) := km_tabs_of (K := Mine.Internal.hk.heap_1) Y
  have X := (Ground.X G).1
  have V := (Ground.X G).2
  refine Ground.open G ?_
  intro T B D TE TW
  try (refine guard_noD D (by decide +kernel) ?_; clear D)
  have hT9 : TabsAt [(177, 173)] s₁.heap := fun q hq => by
    obtain rfl := List.mem_singleton.mp hq
    exact ⟨codeHd_of_K (c := 177) (P := 173) KX (by kernel_rfl), hT8 173 (List.mem_singleton.mpr rfl)⟩
  clear hd hD hcd
  have e1 : mg "law" = some (.ref fa) := hmg
  clear hmg
  have e2 : Value.ref 207 = Value.ref fa := Option.some.inj ((mg_of KX T.g (Mine.Internal.gl_law w)).symm.trans e1)
  obtain rfl : 207 = fa := Value.ref.inj e2
  wrow_args hpre hlay hrd hwl hlo
  refine enter_call ?_
  w_top on
  refine kn_post hT9 (fun _ _ => rfl) ?_
  rename_i ns _ _ _ _ _ _ _ la items _ hL _ _ _ hI _ hc _
  refine codeAny_mono (Mine.Internal.law_call KX hT9 T hL hI (by omega)) ?_
  rintro r s' ⟨rfl, h1, h2, h3, h4⟩
  exact ⟨⟨.inl ⟨_, _, _, rfl, fun _ => rfl, .bool true, by wrow_post, unshared_nil⟩, h1, h2, h3.trans hg⟩, h4⟩
