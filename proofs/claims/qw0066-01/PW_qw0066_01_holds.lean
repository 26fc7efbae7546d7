import PyProof.Rows.All
import PyProof.MinMaxWalk
import PyProof.GenObj
import KE.BitLaws
import KE.KPop
import KE.KIntText
import KE.KRevSl
import Wide.FinOn
import OpenK.AllK
import Wide.All
import Lean
import PySem.Challenge.RW_qw0066_01
set_option compiler.extract_closed false
section
open PySem PySem.W PyProof.Rows PySem.Calls
set_option Elab.async false
set_option linter.unusedVariables false
set_option maxRecDepth 100000
namespace Mine
abbrev pr : Program := PySem.Challenge.rw_qw0066_01.row.prog
def stmtAt (k : Nat) : Stmt := PySem.Challenge.pw_qw0066_01.main.body.getD k (.Pass ⟨0, 0, 0, 0⟩)
def dName : Stmt → Str
  | .FunctionDef n .. => n
  | _ => Str.empty
def dArgs : Stmt → Arguments
  | .FunctionDef _ a .. => a
  | _ => ⟨[], [], none, [], [], none, []⟩
def dBody : Stmt → List Stmt
  | .FunctionDef _ _ b .. => b
  | _ => []
def dScope : Stmt → Scope
  | .FunctionDef _ _ _ _ _ _ sc .. => sc
  | _ => { kind := .function, names := [], isGenerator := false, isCoroutine := false, more := [] }
example : dName (stmtAt 2) = Str.ofString "_iter_escaped_chars" := by rfl
end Mine
end
section
open PySem PySem.W PyProof.Rows PySem.Calls
set_option Elab.async false
set_option linter.unusedVariables false
set_option maxRecDepth 100000
set_option maxHeartbeats 8000000
namespace Mine
def keepL : List Nat := [2, 3, 4, 5, 14, 18, 19, 20, 21, 22, 24, 25, 26, 33, 47, 49, 50, 51, 52, 53, 54, 55, 56, 57]
def qv : Program := view pr keepL
def looseL : List Str := [Str.ofString "_wall", Str.ofString "_plain_name", Str.ofString "ABCMeta", Str.ofString "_ABCLike", Str.ofString "_abc_plain_meta", Str.ofString "_check_arg_types",
  Str.ofString "S_IFCHR", Str.ofString "S_IFBLK", Str.ofString "S_IFREG", Str.ofString "S_IFIFO", Str.ofString "S_IFLNK", Str.ofString "S_IFSOCK",
  Str.ofString "S_ISUID", Str.ofString "S_ISGID", Str.ofString "S_ISVTX", Str.ofString "S_IRUSR", Str.ofString "S_IWUSR", Str.ofString "S_IXUSR", Str.ofString "S_IRGRP", Str.ofString "S_IWGRP", Str.ofString "S_IXGRP", Str.ofString "S_IROTH", Str.ofString "S_IWOTH", Str.ofString "S_IXOTH", Str.ofString "_filemode_table"]
def tabW : WData := WData.tuple
            [WData.tuple
                [WData.tuple [WData.int 40960, WData.str { cps := #[108] }],
                  WData.tuple [WData.int 49152, WData.str { cps := #[115] }],
                  WData.tuple [WData.int 32768, WData.str { cps := #[45] }],
                  WData.tuple [WData.int 24576, WData.str { cps := #[98] }],
                  WData.tuple [WData.int 16384, WData.str { cps := #[100] }],
                  WData.tuple [WData.int 8192, WData.str { cps := #[99] }],
                  WData.tuple [WData.int 4096, WData.str { cps := #[112] }]],
              WData.tuple [WData.tuple [WData.int 256, WData.str { cps := #[114] }]],
              WData.tuple [WData.tuple [WData.int 128, WData.str { cps := #[119] }]],
              WData.tuple
                [WData.tuple [WData.int 2112, WData.str { cps := #[115] }],
                  WData.tuple [WData.int 2048, WData.str { cps := #[83] }],
                  WData.tuple [WData.int 64, WData.str { cps := #[120] }]],
              WData.tuple [WData.tuple [WData.int 32, WData.str { cps := #[114] }]],
              WData.tuple [WData.tuple [WData.int 16, WData.str { cps := #[119] }]],
              WData.tuple
                [WData.tuple [WData.int 1032, WData.str { cps := #[115] }],
                  WData.tuple [WData.int 1024, WData.str { cps := #[83] }],
                  WData.tuple [WData.int 8, WData.str { cps := #[120] }]],
              WData.tuple [WData.tuple [WData.int 4, WData.str { cps := #[114] }]],
              WData.tuple [WData.tuple [WData.int 2, WData.str { cps := #[119] }]],
              WData.tuple
                [WData.tuple [WData.int 513, WData.str { cps := #[116] }],
                  WData.tuple [WData.int 512, WData.str { cps := #[84] }],
                  WData.tuple [WData.int 1, WData.str { cps := #[120] }]]]
def lvL : List (Str × WData) := [(Str.ofString "_filemode_table", tabW)]
theorem left_of {p q : Program} {loose : List Str} {Xt : Shared → Bool} {N m₀ : Nat} {ann : Option Value} {H₀ : Params → Heap} {d₀ : Drawn} {k₀ : Nat}
    (open_ : ∀ w : World, (fencedOpening treeTable p w N).map (fun s => (s.heap, s.gens, s.drawn, s.toks)) = some (H₀ w.params, #[], d₀, k₀))
    (size : ∀ w : World, ((H₀ w.params).isNs mainGlobals, (H₀ w.params).objs.size, (H₀ w.params).nsMap mainGlobals "__annotations__") = (true, m₀, ann))
    (top : ∀ (w : World) (os : OsState), (topRun treeTable p w m₀ ann N ⟨H₀ w.params, #[], d₀, k₀, os⟩ (topStub p)).map (fun s₁ => (staticsOk (importedModules p.main.body) (H₀ w.params) s₁.heap && namesBound p s₁.heap && gensDone s₁ && laidKept (H₀ w.params) s₁.heap,
      openSeen q loose (importedModules p.main.body) Xt true s₁)) = some (true, openGood q loose)) : LeftO p q loose Xt (fun _ => ()) (fun _ => ()) N := fun w => by
  obtain ⟨⟨h, gs, d, k, os⟩, e, e'⟩ := Option.map_eq_some_iff.mp (open_ w)
  obtain ⟨rfl, rfl, rfl, rfl⟩ : h = H₀ w.params ∧ gs = #[] ∧ d = d₀ ∧ k = k₀ := by simpa using e'
  obtain ⟨z1, z2, z3⟩ : _ ∧ _ ∧ _ := by simpa only [Prod.mk.injEq] using size w
  obtain ⟨s₁, r, l⟩ := Option.map_eq_some_iff.mp (top w os)
  obtain ⟨l1, l2⟩ := Prod.mk.inj l
  have t : topFrom treeTable p w N ⟨H₀ w.params, #[], d, k, os⟩ = some s₁ := by
    unfold topFrom
    dsimp only
    rw [z1, z2, z3, r]
    show (match staticsOk (importedModules p.main.body) (H₀ w.params) s₁.heap && namesBound p s₁.heap && gensDone s₁ && laidKept (H₀ w.params) s₁.heap with | true => _ | false => _) = _
    rw [l1]
  unfold openEnds
  rw [e]
  show (topFrom treeTable p w N _).map _ = _
  rw [t]
  exact congrArg some (Prod.ext l2 rfl)
theorem oE : opening pr = plainProg pr.main.scope.names := by kernel_rfl
theorem oF : ∀ s, fenceModules? pr s = some s := fun s => by kernel_rfl
theorem sz : ∀ w : World, ((boot_heap w.params).isNs mainGlobals, (boot_heap w.params).objs.size, (boot_heap w.params).nsMap mainGlobals "__annotations__") = (true, 11, some (.ref 6)) := fun w => by kernel_rfl
theorem topF (w : World) (os : OsState) : (Fast.tw14082659384304107361 Fast.tw14364793385576792824 pr w 11 (some (.ref 6)) 1900 ⟨boot_heap w.params, #[], boot_drawn, boot_toks, os⟩ (topStub pr)).map (fun s₁ => (staticsOk (Fast.tw5923862056798008813 pr.main.body) (boot_heap w.params) s₁.heap && namesBound pr s₁.heap && gensDone s₁ && laidKept (boot_heap w.params) s₁.heap,
    Fast.tw4187177175401517315 qv looseL (Fast.tw5923862056798008813 pr.main.body) (fun s => xlAt qv lvL s && recOk [] s) true s₁)) = some (true, openGood qv looseL) := by kernel_rfl
theorem left : LeftO pr qv looseL (fun s => xlAt qv lvL s && recOk (RowW.records PySem.Challenge.rw_qw0066_01.row.toRowW) s) (fun _ => ()) (fun _ => ()) 1900 :=
  left_of (boot_open oE (by decide) oF) sz fun w os => by
    have h := topF w os
    rw [← Fast.te14082659384304107361, ← Fast.te14364793385576792824, ← Fast.te5923862056798008813, ← Fast.te4187177175401517315] at h
    exact h
def dPos : Stmt → Pos
  | .FunctionDef _ _ _ _ _ _ _ _ _ p => p
  | _ => ⟨0, 0, 0, 0⟩
def recAt (k : Nat) : DefRec := ⟨dName (stmtAt k), dArgs (stmtAt k), dBody (stmtAt k), dScope (stmtAt k), dPos (stmtAt k)⟩
theorem saidRow : Fast.tw17960256430627541270 PySem.Challenge.rw_qw0066_01.row = true := by kernel_rfl
theorem said : PySem.Challenge.rw_qw0066_01.wellSaid = true := by
  have h : PySem.Challenge.rw_qw0066_01.row.wellSaid = true := (congrFun Fast.te17960256430627541270 _).trans saidRow
  unfold OpenLaw.wellSaid
  rw [h, Bool.true_and, Fast.te8326940854005059898, Fast.te17119622794617984870, Fast.te9558739934217749035, Fast.te8179353310426384613, Fast.te10501279942588096481, Fast.te16286561074155671207, Fast.te797321630700447069, Fast.te10792542408131684335]
  kernel_rfl
abbrev rowL : OpenRow := PySem.Challenge.rw_qw0066_01.row
theorem holds_of (h : WalkO qv looseL (XL qv lvL) (fun _ _ => True) rowL.toRowW (recAt 57) [] fun f vs => PySem.call f vs) : PySem.Challenge.rw_qw0066_01.Holds :=
  holds_law said fun ok => holds_open (r := rowL) (q := qv) (loose := looseL) (Xt := fun s => xlAt qv lvL s && recOk (RowW.records rowL.toRowW) s) (XP := XL qv lvL) (Yf := fun _ => ()) (Ya := fun _ => ()) (YP := fun _ _ => True) (N := 1900)
    left (fun _ _ _ => trivial) (fun _ _ _ _ _ => trivial) (fun s e => xl_of s (Bool.and_eq_true_iff.mp e).1) XL.keeps (d := recAt 57) (kwd := []) (by kernel_rfl) (by kernel_rfl) (by kernel_rfl) (fun s e => recFacts_of (Bool.and_eq_true_iff.mp e).2)
    (by rfl) ok (by decide +kernel) ⟨rfl, rfl, rfl, rfl, rfl, by decide +kernel⟩ (by w_witness2) h
end Mine
end
section
open PySem PySem.W PyProof.Rows PySem.Calls
set_option Elab.async false
set_option linter.unusedVariables false
namespace Mine

/-- a part of a heap -/
noncomputable abbrev PH := Addr → Option Obj
noncomputable def PH.le (G G' : PH) : Prop := ∀ a o, G a = some o → G' a = some o
noncomputable def PH.sub (G : PH) (h : Heap) : Prop := ∀ a o, G a = some o → h.get? a = some o
theorem PH.le.refl (G : PH) : G.le G := fun _ _ e => e
theorem PH.le.trans {G G' G'' : PH} (x : G.le G') (y : G'.le G'') : G.le G'' := fun a o e => y a o (x a o e)

mutual
/-- the value v stands for the datum d, by frozen objects of G alone -/
inductive Rep (G : PH) : Value → PyData → Prop
  | none : Rep G .none .none
  | bool (b) : Rep G (.bool b) (.bool b)
  | int (i t) : Rep G (.int i t) (.int i)
  | str (x t) : Rep G (.str x t) (.str x)
  | list {a o vs n xs} : G a = some o → o.cls = .type "list" → o.data = .seq vs n → o.dict = Option.none → RepAll G vs.toList xs → Rep G (.ref a) (.list xs)
  | tuple {a o vs n xs} : G a = some o → o.cls = .type "tuple" → o.data = .seq vs n → RepAll G vs.toList xs → Rep G (.ref a) (.tuple xs)
inductive RepAll (G : PH) : List Value → List PyData → Prop
  | nil : RepAll G [] []
  | cons {v vs d ds} : Rep G v d → RepAll G vs ds → RepAll G (v :: vs) (d :: ds)
end

theorem Rep.mono {G G' : PH} (hk : G.le G') {v : Value} {d : PyData} (r : Rep G v d) : Rep G' v d :=
  Rep.rec (motive_1 := fun v d _ => Rep G' v d) (motive_2 := fun vs ds _ => RepAll G' vs ds) .none .bool .int .str
    (fun ho hc hd he _ ih => .list (hk _ _ ho) hc hd he ih) (fun ho hc hd _ ih => .tuple (hk _ _ ho) hc hd ih) .nil (fun _ _ i1 i2 => .cons i1 i2) r
theorem RepAll.ind {G : PH} {M : List Value → List PyData → Prop} (nil : M [] []) (cons : ∀ {v vs d ds}, Rep G v d → RepAll G vs ds → M vs ds → M (v :: vs) (d :: ds)) {vs : List Value} {ds : List PyData} (h : RepAll G vs ds) : M vs ds :=
  RepAll.rec (motive_1 := fun _ _ _ => True) (motive_2 := fun vs ds _ => M vs ds) trivial (fun _ => trivial) (fun _ _ => trivial) (fun _ _ => trivial) (fun _ _ _ _ _ _ => trivial) (fun _ _ _ _ _ => trivial) nil (fun a b _ ih => cons a b ih) h
theorem RepAll.mono {G G' : PH} (hk : G.le G') {vs : List Value} {ds : List PyData} (h : RepAll G vs ds) : RepAll G' vs ds := h.ind (M := fun vs ds => RepAll G' vs ds) .nil fun a _ ih => .cons (a.mono hk) ih
theorem Rep.reads {G : PH} {h : Heap} (hk : G.sub h) {v : Value} {d : PyData} (r : Rep G v d) : ∃ as, Reads h v d as :=
  Rep.rec (motive_1 := fun v d _ => ∃ as, Reads h v d as) (motive_2 := fun vs ds _ => ∃ as, ReadsAll h vs ds as)
    ⟨_, .none⟩ (fun b => ⟨_, .bool b⟩) (fun i t => ⟨_, .int i t⟩) (fun x t => ⟨_, .str x t⟩)
    (fun ho hc hd _ _ ih => let ⟨_, ih⟩ := ih; ⟨_, .list (hk _ _ ho) hc hd ih⟩) (fun ho hc hd _ ih => let ⟨_, ih⟩ := ih; ⟨_, .tuple (hk _ _ ho) hc hd ih⟩)
    ⟨_, .nil⟩ (fun _ _ i1 i2 => let ⟨_, i1⟩ := i1; let ⟨_, i2⟩ := i2; ⟨_, .cons i1 i2⟩) r
theorem RepAll.length {G : PH} {vs : List Value} {ds : List PyData} (h : RepAll G vs ds) : vs.length = ds.length := h.ind (M := fun vs ds => vs.length = ds.length) rfl fun _ _ ih => congrArg (· + 1) ih
theorem RepAll.append {G : PH} {vs ws : List Value} {ds es : List PyData} (h : RepAll G vs ds) (y : RepAll G ws es) : RepAll G (vs ++ ws) (ds ++ es) := h.ind (M := fun vs ds => RepAll G (vs ++ ws) (ds ++ es)) y fun a _ ih => .cons a ih
theorem RepAll.get {G : PH} {vs : List Value} {ds : List PyData} (h : RepAll G vs ds) : ∀ (i : Nat) (v : Value), vs[i]? = some v → ∃ d, ds[i]? = some d ∧ Rep G v d :=
  h.ind (M := fun vs ds => ∀ (i : Nat) (v : Value), vs[i]? = some v → ∃ d, ds[i]? = some d ∧ Rep G v d) (fun i v h => by simp at h) fun a _ ih i v h => by
    cases i with
    | zero => cases h; exact ⟨_, rfl, a⟩
    | succ i => exact ih i v h
theorem RepAll.get' {G : PH} {vs : List Value} {ds : List PyData} (h : RepAll G vs ds) : ∀ (i : Nat) (d : PyData), ds[i]? = some d → ∃ v, vs[i]? = some v ∧ Rep G v d :=
  h.ind (M := fun vs ds => ∀ (i : Nat) (d : PyData), ds[i]? = some d → ∃ v, vs[i]? = some v ∧ Rep G v d) (fun i v h => by simp at h) fun a _ ih i v h => by
    cases i with
    | zero => cases h; exact ⟨_, rfl, a⟩
    | succ i => exact ih i v h
theorem Rep.inv_int {G : PH} {v : Value} {i : Int} (r : Rep G v (.int i)) : ∃ t, v = .int i t := by cases r; exact ⟨_, rfl⟩
theorem Rep.inv_str {G : PH} {v : Value} {x : Str} (r : Rep G v (.str x)) : ∃ t, v = .str x t := by cases r; exact ⟨_, rfl⟩
theorem Rep.inv_bool {G : PH} {v : Value} {b : Bool} (r : Rep G v (.bool b)) : v = .bool b := by cases r; rfl
theorem Rep.inv_none {G : PH} {v : Value} (r : Rep G v .none) : v = .none := by cases r; rfl
theorem Rep.inv_list {G : PH} {v : Value} {xs : List PyData} (r : Rep G v (.list xs)) : ∃ a o vs n, v = .ref a ∧ G a = some o ∧ o.cls = .type "list" ∧ o.data = .seq vs n ∧ RepAll G vs.toList xs := by
  cases r with | list a b c e d => exact ⟨_, _, _, _, rfl, a, b, c, d⟩
theorem Rep.inv_listD {G : PH} {v : Value} {xs : List PyData} (r : Rep G v (.list xs)) : ∃ a o vs n, v = .ref a ∧ G a = some o ∧ o.cls = .type "list" ∧ o.data = .seq vs n ∧ o.dict = Option.none ∧ RepAll G vs.toList xs := by
  cases r with | list a b c e d => exact ⟨_, _, _, _, rfl, a, b, c, e, d⟩
theorem Rep.inv_tuple {G : PH} {v : Value} {xs : List PyData} (r : Rep G v (.tuple xs)) : ∃ a o vs n, v = .ref a ∧ G a = some o ∧ o.cls = .type "tuple" ∧ o.data = .seq vs n ∧ RepAll G vs.toList xs := by
  cases r with | tuple a b c d => exact ⟨_, _, _, _, rfl, a, b, c, d⟩

/-- what a name holds: a datum, a value as it stands, a list of the frame's own that it alone holds -/
inductive AV where
  | dat (d : PyData)
  | raw (v : Value)
  | own (ds : List PyData)
noncomputable def AV.pl : AV → Bool
  | .own _ => false
  | _ => true
noncomputable def AV.ok (G : PH) (v : Value) : AV → Prop
  | .dat d => Rep G v d
  | .raw u => v = u
  | .own _ => False
theorem AV.ok.mono {G G' : PH} (hk : G.le G') {v : Value} {av : AV} (h : av.ok G v) : av.ok G' v := by
  cases av with
  | dat d => exact Rep.mono hk h
  | raw u => exact h
  | own ds => exact h
inductive OkAll (G : PH) : List Value → List AV → Prop
  | nil : OkAll G [] []
  | cons {v vs d ds} : AV.ok G v d → OkAll G vs ds → OkAll G (v :: vs) (d :: ds)
theorem OkAll.mono {G G' : PH} (hk : G.le G') {vs : List Value} {ds : List AV} (h : OkAll G vs ds) : OkAll G' vs ds := by
  induction h with
  | nil => exact .nil
  | cons a _ ih => exact .cons (a.mono hk) ih

/-- all that was there is there -/
structure Grow (s s' : Shared) : Prop where
  keep : ∀ b o, s.heap.get? b = some o → s'.heap.get? b = some o
  gens : ∀ (i : Nat) (x : GenState), s.gens[i]? = some x → s'.gens[i]? = some x
  bare : AllBare s.gens → AllBare s'.gens
  os : s'.os = s.os
theorem Grow.refl (s : Shared) : Grow s s := ⟨fun _ _ e => e, fun _ _ e => e, id, rfl⟩
theorem Grow.trans {s s' s'' : Shared} (x : Grow s s') (y : Grow s' s'') : Grow s s'' :=
  ⟨fun b o e => y.keep b o (x.keep b o e), fun i g e => y.gens i g (x.gens i g e), fun h => y.bare (x.bare h), y.os.trans x.os⟩
theorem Grow.of {s : Shared} {h' : Heap} {tk : Nat} (hk : ∀ b o, s.heap.get? b = some o → h'.get? b = some o) : Grow s { s with heap := h', toks := tk } := ⟨hk, fun _ _ e => e, id, rfl⟩
theorem Grow.tok {s : Shared} {tk : Nat} : Grow s { s with toks := tk } := ⟨fun _ _ e => e, fun _ _ e => e, id, rfl⟩
theorem Grow.push {s : Shared} {o : Obj} : Grow s { s with heap := s.heap.push o } := ⟨fun _ _ e => Heap.get?_push_of_some _ e, fun _ _ e => e, id, rfl⟩

/-- the data grown by new objects alone -/
structure Gx (s : Shared) (G G' : PH) (s' : Shared) : Prop where
  le : G.le G'
  sub : G'.sub s'.heap
  new : ∀ a o, G' a = some o → G a = some o ∨ s.heap.get? a = none
theorem Gx.refl {s s' : Shared} {G : PH} (hG : G.sub s.heap) (g : Grow s s') : Gx s G G s' := ⟨.refl _, fun a o e => g.keep a o (hG a o e), fun _ _ e => .inl e⟩
theorem Gx.trans {s s' s'' : Shared} {G G' G'' : PH} (x : Gx s G G' s') (g : Grow s s') (y : Gx s' G' G'' s'') : Gx s G G'' s'' :=
  ⟨x.le.trans y.le, y.sub, fun a o e => (y.new a o e).elim (fun e' => x.new a o e') fun e' => .inr (by
    cases hq : s.heap.get? a with
    | none => rfl
    | some o' => rw [g.keep a o' hq] at e'; cases e')⟩
theorem Gx.after {s s' s'' : Shared} {G G' : PH} (x : Gx s G G' s') (g : Grow s' s'') : Gx s G G' s'' := ⟨x.le, fun a o e => g.keep a o (x.sub a o e), x.new⟩
theorem ne_of_get {P : Addr → Option Obj} {a b : Addr} {o : Obj} (e : P b = some o) (hn : P a = none) : b ≠ a := by rintro rfl; rw [hn] at e; cases e
/-- what is new is none of what was there -/
theorem Gx.still {s s' : Shared} {G G' : PH} {a : Addr} {o : Obj} (x : Gx s G G' s') (ho : s.heap.get? a = some o) (hn : G a = none) : G' a = none := by
  cases hq : G' a with
  | none => rfl
  | some o' =>
    rcases x.new a o' hq with e | e
    · rw [hn] at e; cases e
    · rw [ho] at e; cases e
/-- one object more -/
noncomputable def PH.add (G : PH) (a : Addr) (o : Obj) : PH := fun b => if b = a then some o else G b
theorem PH.add_self {G : PH} {a : Addr} {o : Obj} : G.add a o a = some o := by simp [PH.add]
theorem PH.le_add {G : PH} {a : Addr} {o : Obj} (h : G a = none) : G.le (G.add a o) := fun b ob e => by
  unfold PH.add
  by_cases hb : b = a
  · subst hb; rw [h] at e; cases e
  · simp [hb, e]
theorem PH.none_of_sub {G : PH} {h : Heap} {a : Addr} (hs : G.sub h) (hn : h.get? a = none) : G a = none := by
  cases hq : G a with
  | none => rfl
  | some o => rw [hs a o hq] at hn; cases hn
theorem get?_size (h : Heap) : h.get? h.objs.size = none := by
  cases hq : h.get? h.objs.size with
  | none => rfl
  | some o => exact absurd (Heap.lt_size hq) (Nat.lt_irrefl _)
theorem Gx.add {s s' : Shared} {G : PH} {a : Addr} {o : Obj} (hG : G.sub s.heap) (g : Grow s s') (hn : s.heap.get? a = none) (ho : s'.heap.get? a = some o) : Gx s G (G.add a o) s' :=
  ⟨PH.le_add (PH.none_of_sub hG hn), fun b ob e => by
    unfold PH.add at e
    by_cases hb : b = a
    · subst hb; simp at e; subst e; exact ho
    · simp [hb] at e; exact g.keep b ob (hG b ob e),
   fun b ob e => by
    unfold PH.add at e
    by_cases hb : b = a
    · subst hb; exact .inr hn
    · simp [hb] at e; exact .inl e⟩

/-- room for n calls more -/
structure Rm (n : Nat) (A : Around) : Prop where
  handled : A.handled = none
  depth : A.depth + n < recursionLimit
  units : A.units + 100 * n < 9000
theorem Rm.mono {n k : Nat} {A : Around} (h : Rm n A) (hk : k ≤ n) : Rm k A := ⟨h.handled, by have := h.depth; omega, by have := h.units; omega⟩
theorem Rm.deeper {n : Nat} {A : Around} {env : Env} (h : Rm (n + 1) A) : Rm n (A.deeper env) := ⟨h.handled, by have := h.depth; show A.depth + 1 + n < _; omega, by have := h.units; show A.units + 3 + 100 * n < _; omega⟩
theorem Rm.in1 {n : Nat} {A : Around} (h : Rm (n + 1) A) : Rm n A.in1 := ⟨h.handled, by have := h.depth; show A.depth + n < _; omega, by have := h.units; show A.units + 1 + 100 * n < _; omega⟩
theorem Rm.room {n : Nat} {A : Around} (h : Rm n A) : A.depth < recursionLimit := by have := h.depth; omega

/-- a frame's make: its names -/
structure FS where
  scope : Scope
  locs : List Str
  cels : List Str
  ro : Bool := false

structure EnvOk (F : FS) (env : Env) : Prop where
  scope : env.scope = F.scope
  glob : env.globals = mainGlobals
  bi : env.builtins = builtinsNs
  cell : ∀ x ∈ F.cels, ∃ c, env.cells.lookup x = some c
  apart : ∀ x ∈ F.cels, ∀ y ∈ F.cels, ∀ c, env.cells.lookup x = some c → env.cells.lookup y = some c → x = y
  code : ∃ c, env.code = .ref c
  frame : ∃ f, env.frame = some f

noncomputable def FS.fit (F : FS) : Bool := F.scope.kind == .function && F.locs.all (fun x => F.scope.names.lookup x == some .local) && F.cels.all (fun x => F.scope.names.lookup x == some .cell) &&
  decide F.locs.Nodup && decide F.cels.Nodup

/-- the whole run's ground: the heap ahead of the law's call -/
structure Glo where
  h : Heap
  os : OsState
  mg : Str → Option Value
  mb : Str → Option Value
  gd : PH

/-- an address that the frame may change -/
structure Fre (Λ : Glo) (G : PH) (a : Addr) : Prop where
  old : Λ.h.get? a = none
  data : G a = none

/-- what a frame holds, its lists and cells -/
structure SV (Λ : Glo) (F : FS) (env : Env) (G : PH) (vs cs : List (Option AV)) (s : Shared) (m : Str → Option Value) (oa : Nat → Addr) : Prop where
  old : ∀ b o, Λ.h.get? b = some o → s.heap.get? b = some o
  os : s.os = Λ.os
  bare : AllBare s.gens
  gd : Λ.gd.le G
  data : G.sub s.heap
  ns : s.heap.Ns env.locals m
  nsF : Fre Λ G env.locals
  len : vs.length ≤ F.locs.length
  loc : ∀ (k : Nat) (x : Str) (av : AV), F.locs[k]? = some x → vs[k]? = some (some av) → ∃ v, m x = some v ∧ match av with
    | AV.own ds => v = .ref (oa k) ∧ Fre Λ G (oa k) ∧ ∃ items, s.heap.PlainList (oa k) items ∧ RepAll G items.toList ds
    | av => av.ok G v
  own : ∀ (k j : Nat) (ds es : List PyData), vs[k]? = some (some (AV.own ds)) → vs[j]? = some (some (AV.own es)) → oa k = oa j → k = j
  cel : ∀ (k : Nat) (x : Str), F.cels[k]? = some x → ∃ c v, env.cells.lookup x = some c ∧ s.heap.IsCell c v ∧ (F.ro = false → Fre Λ G c) ∧ ∀ av : AV, cs[k]? = some (some av) → ∃ u, v = some u ∧ av.ok G u


theorem Fre.grow {Λ : Glo} {G G' : PH} {s s' : Shared} {a : Addr} {o : Obj} (x : Fre Λ G a) (hx : Gx s G G' s') (ho : s.heap.get? a = some o) : Fre Λ G' a := ⟨x.old, by
  cases hq : G' a with
  | none => rfl
  | some o' =>
    rcases hx.new a o' hq with e | e
    · rw [x.data] at e; cases e
    · rw [ho] at e; cases e⟩
theorem Ns_get {h : Heap} {a : Addr} {m : Str → Option Value} (x : h.Ns a m) : ∃ o, h.get? a = some o := let ⟨o, _, _, e, _⟩ := x; ⟨o, e⟩
theorem SV.grow {Λ : Glo} {F : FS} {env : Env} {G G' : PH} {vs cs : List (Option AV)} {s s' : Shared} {m : Str → Option Value} {oa : Nat → Addr}
    (x : SV Λ F env G vs cs s m oa) (g : Grow s s') (hx : Gx s G G' s') : SV Λ F env G' vs cs s' m oa where
  old := fun b o e => g.keep b o (x.old b o e)
  os := g.os.trans x.os
  bare := g.bare x.bare
  gd := x.gd.trans hx.le
  data := hx.sub
  ns := x.ns.keeps g.keep
  nsF := let ⟨_, e⟩ := Ns_get x.ns; x.nsF.grow hx e
  len := x.len
  loc := fun k y av h1 h2 => by
    obtain ⟨v, hv, hm⟩ := x.loc k y av h1 h2
    refine ⟨v, hv, ?_⟩
    cases av with
    | dat d => exact AV.ok.mono (av := .dat d) hx.le hm
    | raw u => exact hm
    | own ds =>
      obtain ⟨e, hf, items, hp, hr⟩ := hm
      exact ⟨e, let ⟨_, hg⟩ := hp; hf.grow hx hg, items, hp.at fun o e => g.keep _ o e, hr.mono hx.le⟩
  own := x.own
  cel := fun k y h1 => by
    obtain ⟨c, v, hc, hi, hf, hm⟩ := x.cel k y h1
    exact ⟨c, v, hc, hi.keeps g.keep, fun hr => let ⟨_, hg, _⟩ := hi; (hf hr).grow hx hg, fun av h2 => let ⟨u, e, hu⟩ := hm av h2; ⟨u, e, hu.mono hx.le⟩⟩

/-- the frame's view, its map and its lists' places left open -/
noncomputable def V (Λ : Glo) (F : FS) (env : Env) (G : PH) (vs cs : List (Option AV)) (s : Shared) : Prop := ∃ m oa, SV Λ F env G vs cs s m oa
theorem V.grow {Λ : Glo} {F : FS} {env : Env} {G G' : PH} {vs cs : List (Option AV)} {s s' : Shared} (x : V Λ F env G vs cs s) (g : Grow s s') (hx : Gx s G G' s') : V Λ F env G' vs cs s' :=
  let ⟨m, oa, x⟩ := x; ⟨m, oa, x.grow g hx⟩
theorem V.data {Λ : Glo} {F : FS} {env : Env} {G : PH} {vs cs : List (Option AV)} {s : Shared} (x : V Λ F env G vs cs s) : G.sub s.heap := let ⟨_, _, x⟩ := x; x.data
theorem V.old {Λ : Glo} {F : FS} {env : Env} {G : PH} {vs cs : List (Option AV)} {s : Shared} (x : V Λ F env G vs cs s) : ∀ b o, Λ.h.get? b = some o → s.heap.get? b = some o := let ⟨_, _, x⟩ := x; x.old

section
variable (prog : Program) (w : World) (Λ : Glo)
/-- what an evaluation leaves -/
noncomputable def Got (s : Shared) (G : PH) (av : AV) (v : Value) (s' : Shared) : Prop := Grow s s' ∧ ∃ G', Gx s G G' s' ∧ av.ok G' v
/-- the expression gives av -/
structure Ev (F : FS) (n : Nat) (vs cs : List (Option AV)) (e : Expr) (av : AV) : Prop where
  run : ∀ (A : Around) (env : Env) (G : PH) (s : Shared) (E : Value → Shared → Prop), Rm n A → EnvOk F env → V Λ F env G vs cs s → wpAny (model prog w) A (eval e env) (Got s G av) E s
/-- the expressions, one behind the other, give avs -/
noncomputable def EvL (F : FS) (n : Nat) (vs cs : List (Option AV)) (es : List Expr) (avs : List AV) : Prop :=
  ∀ (A : Around) (env : Env) (G : PH) (s : Shared) (pos : Pos) (E : Value → Shared → Prop), Rm n A → EnvOk F env → V Λ F env G vs cs s →
    wpAny (model prog w) A (spliced (backTo pos (starEach es env))) (fun us s' => Grow s s' ∧ ∃ G', Gx s G G' s' ∧ OkAll G' us avs) E s
/-- the test comes out as b -/
structure Tr (F : FS) (n : Nat) (vs cs : List (Option AV)) (e : Expr) (b : Bool) : Prop where
  run : ∀ (A : Around) (env : Env) (G : PH) (s : Shared) (E : Value → Shared → Prop), Rm n A → EnvOk F env → V Λ F env G vs cs s → wpAny (model prog w) A (isTrue e env (eval e env)) (fun b' s' => b' = b ∧ Grow s s') E s
end

end Mine
end
section
open PySem PySem.W PyProof.Rows PySem.Calls
set_option Elab.async false
set_option linter.unusedVariables false
namespace Mine

/-- the ground's facts -/
structure GloOk (Λ : Glo) : Prop where
  g : Λ.h.Ns mainGlobals Λ.mg
  b : Λ.h.Ns builtinsNs Λ.mb
  builtins : ∀ x : Str, x ≠ "__name__" → Λ.mb x = bootBuiltins x
  nolimit : Λ.h.NoLimit

/-- what holds at any state of the run, of no frame -/
structure P0 (Λ : Glo) (G : PH) (s : Shared) : Prop where
  old : ∀ b o, Λ.h.get? b = some o → s.heap.get? b = some o
  os : s.os = Λ.os
  bare : AllBare s.gens
  data : G.sub s.heap
  gd : Λ.gd.le G
theorem V.p0 {Λ : Glo} {F : FS} {env : Env} {G : PH} {vs cs : List (Option AV)} {s : Shared} (x : V Λ F env G vs cs s) : P0 Λ G s := let ⟨_, _, x⟩ := x; ⟨x.old, x.os, x.bare, x.data, x.gd⟩
theorem P0.grow {Λ : Glo} {G G' : PH} {s s' : Shared} (x : P0 Λ G s) (g : Grow s s') (hx : Gx s G G' s') : P0 Λ G' s' :=
  ⟨fun b o e => g.keep b o (x.old b o e), g.os.trans x.os, g.bare x.bare, hx.sub, x.gd.trans hx.le⟩

theorem Got.of {s s' : Shared} {G : PH} {av : AV} {v : Value} (hG : G.sub s.heap) (g : Grow s s') (ok : av.ok G v) : Got s G av v s' := ⟨g, G, .refl hG g, ok⟩

section
variable {prog : Program} {w : World} {Λ : Glo} {F : FS} {n : Nat} {vs cs : List (Option AV)}

theorem Ev.seq {e : Expr} {av : AV} (h : Ev prog w Λ F n vs cs e av) {A : Around} {env : Env} {G : PH} {s : Shared} {E : Value → Shared → Prop} {Q : Value → Shared → Prop}
    (hr : Rm n A) (he : EnvOk F env) (hv : V Λ F env G vs cs s)
    (k : ∀ v s' G', Grow s s' → Gx s G G' s' → V Λ F env G' vs cs s' → av.ok G' v → Q v s') : wpAny (model prog w) A (eval e env) Q E s :=
  wpAny_mono (h.run A env G s E hr he hv) (fun v s' ⟨g, G', hx, ok⟩ => k v s' G' g hx (hv.grow g hx) ok) fun _ _ x => x
theorem EvL.seq {es : List Expr} {avs : List AV} (h : EvL prog w Λ F n vs cs es avs) {A : Around} {env : Env} {G : PH} {s : Shared} {pos : Pos} {E : Value → Shared → Prop} {Q : List Value → Shared → Prop}
    (hr : Rm n A) (he : EnvOk F env) (hv : V Λ F env G vs cs s)
    (k : ∀ us s' G', Grow s s' → Gx s G G' s' → V Λ F env G' vs cs s' → OkAll G' us avs → Q us s') : wpAny (model prog w) A (spliced (backTo pos (starEach es env))) Q E s :=
  wpAny_mono (h A env G s pos E hr he hv) (fun v s' ⟨g, G', hx, ok⟩ => k v s' G' g hx (hv.grow g hx) ok) fun _ _ x => x
theorem Tr.seq {e : Expr} {b : Bool} (h : Tr prog w Λ F n vs cs e b) {A : Around} {env : Env} {G : PH} {s : Shared} {E : Value → Shared → Prop} {Q : Bool → Shared → Prop}
    (hr : Rm n A) (he : EnvOk F env) (hv : V Λ F env G vs cs s)
    (k : ∀ s', Grow s s' → V Λ F env G vs cs s' → Q b s') : wpAny (model prog w) A (isTrue e env (eval e env)) Q E s :=
  wpAny_mono (h.run A env G s E hr he hv) (fun v s' ⟨e, g⟩ => by subst e; exact k s' g (hv.grow g (.refl hv.data g))) fun _ _ x => x

/-! operations upon values -/
variable (prog w Λ n) in
noncomputable def Op1 (f : Value → Sem Value) (a r : AV) : Prop := ∀ (A : Around) (G : PH) (s : Shared) (E : Value → Shared → Prop) u, Rm n A → P0 Λ G s → a.ok G u → wpAny (model prog w) A (f u) (Got s G r) E s
variable (prog w Λ n) in
noncomputable def Op2 (f : Value → Value → Sem Value) (a b r : AV) : Prop := ∀ (A : Around) (G : PH) (s : Shared) (E : Value → Shared → Prop) u v, Rm n A → P0 Λ G s → a.ok G u → b.ok G v → wpAny (model prog w) A (f u v) (Got s G r) E s
variable (prog w Λ n) in
noncomputable def OpL (f : List Value → Sem Value) (as : List AV) (r : AV) : Prop := ∀ (A : Around) (G : PH) (s : Shared) (E : Value → Shared → Prop) us, Rm n A → P0 Λ G s → OkAll G us as → wpAny (model prog w) A (f us) (Got s G r) E s
variable (prog w Λ n) in
noncomputable def OpT (a : AV) (b : Bool) : Prop := ∀ (A : Around) (G : PH) (s : Shared) (E : Value → Shared → Prop) u, Rm n A → P0 Λ G s → a.ok G u → wpAny (model prog w) A (truthy u) (fun b' s' => b' = b ∧ Grow s s') E s

theorem Got.mono {s s₀ s' : Shared} {G₀ G : PH} {av : AV} {v : Value} (g : Grow s₀ s) (hx : Gx s₀ G₀ G s) (h : Got s G av v s') : Got s₀ G₀ av v s' :=
  let ⟨g', G', hx', ok⟩ := h; ⟨g.trans g', G', hx.trans g hx', ok⟩

/-! names -/
theorem fit_loc (h : F.fit = true) {k : Nat} {x : Str} (hx : F.locs[k]? = some x) {env : Env} (he : EnvOk F env) : env.scope.kind = .function ∧ env.kindOf x = some .local := by
  simp only [FS.fit, Bool.and_eq_true] at h
  refine ⟨by rw [he.scope]; exact eq_of_beq h.1.1.1.1, ?_⟩
  show env.scope.names.lookup x = _
  rw [he.scope]
  exact eq_of_beq (List.all_eq_true.mp h.1.1.1.2 x (List.mem_of_getElem? hx))
theorem fit_cel (h : F.fit = true) {k : Nat} {x : Str} (hx : F.cels[k]? = some x) {env : Env} (he : EnvOk F env) : env.scope.kind = .function ∧ env.kindOf x = some .cell := by
  simp only [FS.fit, Bool.and_eq_true] at h
  refine ⟨by rw [he.scope]; exact eq_of_beq h.1.1.1.1, ?_⟩
  show env.scope.names.lookup x = _
  rw [he.scope]
  exact eq_of_beq (List.all_eq_true.mp h.1.1.2 x (List.mem_of_getElem? hx))
theorem fit_kind (h : F.fit = true) {env : Env} (he : EnvOk F env) : env.scope.kind = .function := by
  simp only [FS.fit, Bool.and_eq_true] at h
  rw [he.scope]; exact eq_of_beq h.1.1.1.1
theorem fit_inj (h : F.fit = true) {k j : Nat} {x : Str} (hx : F.locs[k]? = some x) (hy : F.locs[j]? = some x) : k = j := by
  simp only [FS.fit, Bool.and_eq_true, decide_eq_true_eq] at h
  have hk : k < F.locs.length := (List.getElem?_eq_some_iff.mp hx).1
  exact (List.getElem?_inj hk h.1.2).mp (hx.trans hy.symm)
theorem fit_injC (h : F.fit = true) {k j : Nat} {x : Str} (hx : F.cels[k]? = some x) (hy : F.cels[j]? = some x) : k = j := by
  simp only [FS.fit, Bool.and_eq_true, decide_eq_true_eq] at h
  have hk : k < F.cels.length := (List.getElem?_eq_some_iff.mp hx).1
  exact (List.getElem?_inj hk h.2).mp (hx.trans hy.symm)

theorem Ev_loc {x : Str} {pos : Pos} {av : AV} (k : Nat) (hf : F.fit = true) (hx : F.locs[k]? = some x) (hv : vs[k]? = some (some av)) (ho : av.pl = true := by rfl)
    (hd : (x == ("__debug__" : Str)) = false := by decide) : Ev prog w Λ F n vs cs (.Name x pos) av := ⟨fun A env G s E hr he hV => by
  obtain ⟨m, oa, X⟩ := id hV
  obtain ⟨v, hm, hok⟩ := X.loc k x av hx hv
  obtain ⟨h1, h2⟩ := fit_loc hf hx he
  refine wpAny_Name (wpAny_loadName_local h1 h2 X.ns hm (Got.of X.data (.refl s) ?_)) hd
  cases av with
  | own ds => cases ho
  | dat d => exact hok
  | raw u => exact hok⟩
theorem Ev_cel {x : Str} {pos : Pos} {av : AV} (k : Nat) (hf : F.fit = true) (hx : F.cels[k]? = some x) (hv : cs[k]? = some (some av))
    (hd : (x == ("__debug__" : Str)) = false := by decide) : Ev prog w Λ F n vs cs (.Name x pos) av := ⟨fun A env G s E hr he hV => by
  obtain ⟨m, oa, X⟩ := id hV
  obtain ⟨c, v, hc, hi, _, hm⟩ := X.cel k x hx
  obtain ⟨u, rfl, hok⟩ := hm av hv
  obtain ⟨h1, h2⟩ := fit_cel hf hx he
  exact wpAny_Name (wpAny_loadName_cell h1 h2 hc hi (Got.of X.data (.refl s) hok)) hd⟩
theorem Ev_glob {x : Str} {pos : Pos} {v : Value} (hΛ : GloOk Λ) (hf : F.fit = true) (hk : F.scope.names.lookup x = some .globalImplicit) (hv : Λ.mg x = some v)
    (hd : (x == ("__debug__" : Str)) = false := by decide) : Ev prog w Λ F n vs cs (.Name x pos) (.raw v) := ⟨fun A env G s E hr he hV => by
  refine Name_function_global (fit_kind hf he) (by show env.scope.names.lookup x = _; rw [he.scope]; exact hk) (loadGlobal_global (mg := Λ.mg) (by rw [he.glob]; exact hΛ.g.keeps hV.old) hv (Got.of hV.data (.refl s) rfl)) hd⟩
theorem Ev_bi {x : Str} {pos : Pos} {v : Value} (hΛ : GloOk Λ) (hf : F.fit = true) (hk : F.scope.names.lookup x = some .globalImplicit) (hm : Λ.mg x = none) (hv : bootBuiltins x = some v)
    (hn : x ≠ "__name__" := by decide) (hd : (x == ("__debug__" : Str)) = false := by decide) : Ev prog w Λ F n vs cs (.Name x pos) (.raw v) := ⟨fun A env G s E hr he hV => by
  refine Name_function_global (fit_kind hf he) (by show env.scope.names.lookup x = _; rw [he.scope]; exact hk)
    (loadGlobal_builtin (mg := Λ.mg) (mb := Λ.mb) (by rw [he.glob]; exact hΛ.g.keeps hV.old) hm (by rw [he.bi]; exact hΛ.b.keeps hV.old) ((hΛ.builtins x hn).trans hv) (Got.of hV.data (.refl s) rfl)) hd⟩

/-! constants -/
theorem Ev_int {i : Int} {k : Nat} {pos : Pos} : Ev prog w Λ F n vs cs (.Constant (.int i) k pos) (.dat (.int i)) := ⟨fun A env G s E hr he hV =>
  wpAny_Constant_int (Got.of hV.data .tok (Rep.int i _))⟩
theorem Ev_str {x : Str} {k : Nat} {pos : Pos} : Ev prog w Λ F n vs cs (.Constant (.str x) k pos) (.dat (.str x)) := ⟨fun A env G s E hr he hV =>
  wpAny_Constant_str (Got.of hV.data .tok (Rep.str x _))⟩
theorem Ev_bool {b : Bool} {k : Nat} {pos : Pos} : Ev prog w Λ F n vs cs (.Constant (.bool b) k pos) (.dat (.bool b)) := ⟨fun A env G s E hr he hV =>
  wpAny_Constant_bool (Got.of hV.data (.refl s) (Rep.bool b))⟩
theorem Ev_none {k : Nat} {pos : Pos} : Ev prog w Λ F n vs cs (.Constant .none k pos) (.dat .none) := ⟨fun A env G s E hr he hV =>
  wpAny_Constant_none (Got.of hV.data (.refl s) Rep.none)⟩

/-! operators -/
theorem Ev_BinOp {l r : Expr} {op : Operator} {pos : Pos} {a b c : AV} (h1 : Ev prog w Λ F n vs cs l a) (h2 : Ev prog w Λ F n vs cs r b) (ho : Op2 prog w Λ n (binaryOp op) a b c) :
    Ev prog w Λ F n vs cs (.BinOp l op r pos) c := ⟨fun A env G s E hr he hV =>
  wpAny_BinOp (h1.seq hr he hV fun u s1 G1 g1 x1 V1 o1 => h2.seq hr he V1 fun v s2 G2 g2 x2 V2 o2 =>
    wpAny_mono (ho A G2 s2 E u v hr V2.p0 (o1.mono x2.le) o2) (fun r s3 h3 => h3.mono (g1.trans g2) (x1.trans g1 x2)) fun _ _ x => x)⟩
theorem Ev_cmp {l r : Expr} {op : CmpOp} {pos : Pos} {a b c : AV} (h1 : Ev prog w Λ F n vs cs l a) (h2 : Ev prog w Λ F n vs cs r b) (ho : Op2 prog w Λ n (compareOp op) a b c)
    (hm : behindInMarks op r = false := by with_unfolding_all rfl) : Ev prog w Λ F n vs cs (.Compare l [op] [r] pos) c := ⟨fun A env G s E hr he hV =>
  wpAny_Compare1 (h1.seq hr he hV fun u s1 G1 g1 x1 V1 o1 => h2.seq hr he V1 fun v s2 G2 g2 x2 V2 o2 =>
    wpAny_mono (ho A G2 s2 E u v hr V2.p0 (o1.mono x2.le) o2) (fun r s3 h3 => h3.mono (g1.trans g2) (x1.trans g1 x2)) fun _ _ x => x) hm⟩
theorem Ev_un {x : Expr} {op : UnaryOp} {pos : Pos} {a c : AV} (h1 : Ev prog w Λ F n vs cs x a) (ho : Op1 prog w Λ n (unaryOp op) a c) :
    Ev prog w Λ F n vs cs (.UnaryOp op x pos) c := ⟨fun A env G s E hr he hV =>
  UnaryOp_ (h1.seq hr he hV fun u s1 G1 g1 x1 V1 o1 => wpAny_mono (ho A G1 s1 E u hr V1.p0 o1) (fun r s3 h3 => h3.mono g1 x1) fun _ _ x => x)⟩
theorem Ev_ite {t b o : Expr} {pos : Pos} {c : Bool} {av : AV} (h1 : Tr prog w Λ F n vs cs t c) (h2 : c = true → Ev prog w Λ F n vs cs b av) (h3 : c = false → Ev prog w Λ F n vs cs o av) :
    Ev prog w Λ F n vs cs (.IfExp t b o pos) av := ⟨fun A env G s E hr he hV =>
  IfExp_ (h1.seq hr he hV fun s1 g1 V1 => by
    cases c with
    | true => exact wpAny_mono ((h2 rfl).run A env G s1 E hr he V1) (fun r s3 h => h.mono g1 (.refl hV.data g1)) fun _ _ x => x
    | false => exact wpAny_mono ((h3 rfl).run A env G s1 E hr he V1) (fun r s3 h => h.mono g1 (.refl hV.data g1)) fun _ _ x => x)⟩

/-! tests -/
theorem OpT_bool {b : Bool} : OpT prog w Λ n (.dat (.bool b)) b := fun A G s E u hr hp ok => by
  obtain rfl := Rep.inv_bool ok
  exact wpAny_pure ⟨rfl, .refl s⟩
theorem Tr_cmp {l r : Expr} {op : CmpOp} {pos : Pos} {a b : AV} {c : Bool} (h1 : Ev prog w Λ F n vs cs l a) (h2 : Ev prog w Λ F n vs cs r b) (ho : Op2 prog w Λ n (compareOp op) a b (.dat (.bool c)))
    (hm : behindInMarks op r = false := by with_unfolding_all rfl) : Tr prog w Λ F n vs cs (.Compare l [op] [r] pos) c := ⟨fun A env G s E hr he hV =>
  wpAny_isTrue_Compare1 (h1.seq hr he hV fun u s1 G1 g1 x1 V1 o1 => h2.seq hr he V1 fun v s2 G2 g2 x2 V2 o2 =>
    wpAny_mono (ho A G2 s2 E u v hr V2.p0 (o1.mono x2.le) o2) (fun r s3 ⟨g3, G3, x3, o3⟩ => wpAny_mono (OpT_bool A G3 s3 E r hr (V2.p0.grow g3 x3) o3) (fun b s4 ⟨e, g4⟩ => ⟨e, ((g1.trans g2).trans g3).trans g4⟩) fun _ _ x => x) fun _ _ x => x) hm⟩
theorem Tr_not {x : Expr} {pos : Pos} {c : Bool} (h : Tr prog w Λ F n vs cs x c) : Tr prog w Λ F n vs cs (.UnaryOp .Not x pos) (!c) := ⟨fun A env G s E hr he hV =>
  isTrue_not (h.seq hr he hV fun s1 g1 _ => ⟨rfl, g1⟩)⟩
theorem Tr_val {e : Expr} {a : AV} {b : Bool} (h : Ev prog w Λ F n vs cs e a) (ht : OpT prog w Λ n a b)
    (hi : ∀ env whole, isTrue e env whole = (do let v ← whole; standAt e.pos; holding [v] (truthy v)) := by intro _ _; rfl) : Tr prog w Λ F n vs cs e b := ⟨fun A env G s E hr he hV =>
  isTrue_plain (h.seq hr he hV fun u s1 G1 g1 x1 V1 o1 => wpAny_mono (ht A G1 s1 E u hr V1.p0 o1) (fun b' s' ⟨e, g⟩ => ⟨e, g1.trans g⟩) fun _ _ x => x) (hi _ _)⟩

/-! argument lists -/
theorem EvL_nil : EvL prog w Λ F n vs cs [] [] := fun A env G s pos E hr he hV => args_nil ⟨.refl s, G, .refl hV.data (.refl s), .nil⟩
theorem EvL_cons {e : Expr} {es : List Expr} {a : AV} {as : List AV} (h1 : Ev prog w Λ F n vs cs e a) (h2 : EvL prog w Λ F n vs cs es as)
    (hs : ∀ env, starEach (e :: es) env = (false, eval e env) :: starEach es env := by intro _; rfl) : EvL prog w Λ F n vs cs (e :: es) (a :: as) := fun A env G s pos E hr he hV =>
  args_cons (h1.seq hr he hV fun u s1 G1 g1 x1 V1 o1 => h2.seq hr he V1 fun us s2 G2 g2 x2 V2 o2 => ⟨g1.trans g2, G2, x1.trans g1 x2, .cons (o1.mono x2.le) o2⟩) (hs env)
end
end Mine
end
section
open PySem PySem.W PyProof.Rows PySem.Calls
set_option Elab.async false
set_option linter.unusedVariables false
namespace Mine

/-- a text by the list of its signs -/
noncomputable abbrev S (l : List Nat) : Str := ⟨l.toArray⟩
noncomputable abbrev dI (i : Int) : AV := .dat (.int i)
noncomputable abbrev dS (l : List Nat) : AV := .dat (.str (S l))
noncomputable abbrev dB (b : Bool) : AV := .dat (.bool b)
noncomputable abbrev dL (l : List PyData) : AV := .dat (.list l)
noncomputable abbrev dT (l : List PyData) : AV := .dat (.tuple l)
noncomputable abbrev pI (i : Int) : PyData := .int i
noncomputable abbrev pS (l : List Nat) : PyData := .str (S l)

theorem S_cat (a b : List Nat) : S a ++ S b = S (a ++ b) := by
  apply Str.ext'
  show a.toArray ++ b.toArray = _
  simp
theorem S_len (a : List Nat) : (S a).length = a.length := by simp [Str.length]
theorem S_beq (a b : List Nat) : (S a == S b) = (a == b) := by rw [← toList_beq]
theorem S_bne (a b : List Nat) : (S a != S b) = (a != b) := by rw [← toList_bne]

section
variable {prog : Program} {w : World} {Λ : Glo} {F : FS} {n : Nat} {vs cs : List (Option AV)}

theorem op_add {i j : Int} : Op2 prog w Λ n (binaryOp .Add) (dI i) (dI j) (dI (i + j)) := fun A G s E u v hr hp a b => by
  obtain ⟨t, rfl⟩ := Rep.inv_int a; obtain ⟨t', rfl⟩ := Rep.inv_int b; exact add_int (Got.of hp.data .tok (Rep.int _ _))
theorem op_sub {i j : Int} : Op2 prog w Λ n (binaryOp .Sub) (dI i) (dI j) (dI (i - j)) := fun A G s E u v hr hp a b => by
  obtain ⟨t, rfl⟩ := Rep.inv_int a; obtain ⟨t', rfl⟩ := Rep.inv_int b; exact PyProof.Rows.sub_int (Got.of hp.data .tok (Rep.int _ _))
theorem op_addb {i : Int} {c : Bool} : Op2 prog w Λ n (binaryOp .Add) (dI i) (dB c) (dI (i + if c = true then (1 : Int) else 0)) := fun A G s E u v hr hp a b => by
  obtain ⟨t, rfl⟩ := Rep.inv_int a; obtain rfl := Rep.inv_bool b; exact add_int_bool (Got.of hp.data .tok (Rep.int _ _))
theorem op_subb {i : Int} {c : Bool} : Op2 prog w Λ n (binaryOp .Sub) (dI i) (dB c) (dI (i - if c = true then (1 : Int) else 0)) := fun A G s E u v hr hp a b => by
  obtain ⟨t, rfl⟩ := Rep.inv_int a; obtain rfl := Rep.inv_bool b; exact IntBool.sub_int_bool (Got.of hp.data .tok (Rep.int _ _))
theorem op_mul {i j : Int} (hm : IntMulOk i j) : Op2 prog w Λ n (binaryOp .Mult) (dI i) (dI j) (dI (i * j)) := fun A G s E u v hr hp a b => by
  obtain ⟨t, rfl⟩ := Rep.inv_int a; obtain ⟨t', rfl⟩ := Rep.inv_int b; exact PyProof.Rows.mul_int (Got.of hp.data .tok (Rep.int _ _)) hm
theorem op_div {i j : Int} (hj : j ≠ 0) (hs : Builtin.divisionGoesByPylong i j = false) : Op2 prog w Λ n (binaryOp .FloorDiv) (dI i) (dI j) (dI (i.fdiv j)) := fun A G s E u v hr hp a b => by
  obtain ⟨t, rfl⟩ := Rep.inv_int a; obtain ⟨t', rfl⟩ := Rep.inv_int b; exact floordiv_int hj (Got.of hp.data .tok (Rep.int _ _)) (.inl hs)
theorem op_mod {i j : Int} (hj : j ≠ 0) : Op2 prog w Λ n (binaryOp .Mod) (dI i) (dI j) (dI (i.fmod j)) := fun A G s E u v hr hp a b => by
  obtain ⟨t, rfl⟩ := Rep.inv_int a; obtain ⟨t', rfl⟩ := Rep.inv_int b; exact mod_int' hj (Got.of hp.data .tok (Rep.int _ _))
theorem op_pow {i j : Int} (h0 : 0 ≤ j) (h1 : j ≤ 1000000) (h2 : i.natAbs < 2 ^ 64) : Op2 prog w Λ n (binaryOp .Pow) (dI i) (dI j) (dI (i ^ j.toNat)) := fun A G s E u v hr hp a b => by
  obtain ⟨t, rfl⟩ := Rep.inv_int a; obtain ⟨t', rfl⟩ := Rep.inv_int b; exact pow_int_small h0 h1 h2 (Got.of hp.data .tok (Rep.int _ _))
theorem op_band {i j : Int} : Op2 prog w Λ n (binaryOp .BitAnd) (dI i) (dI j) (dI (Builtin.bitAnd i j)) := fun A G s E u v hr hp a b => by
  obtain ⟨t, rfl⟩ := Rep.inv_int a; obtain ⟨t', rfl⟩ := Rep.inv_int b; exact and_int (Got.of hp.data .tok (Rep.int _ _))
theorem op_inv {i : Int} : Op1 prog w Λ n (unaryOp .Invert) (dI i) (dI (Builtin.bitNot i)) := fun A G s E u hr hp a => by
  obtain ⟨t, rfl⟩ := Rep.inv_int a; exact invert_int (Got.of hp.data .tok (Rep.int _ _))
theorem op_neg {i : Int} : Op1 prog w Λ n (unaryOp .USub) (dI i) (dI (-i)) := fun A G s E u hr hp a => by
  obtain ⟨t, rfl⟩ := Rep.inv_int a; exact PyProof.Rows.neg_int (Got.of hp.data .tok (Rep.int _ _))
theorem op_cat {x y : List Nat} (h : x.length + y.length ≤ sizeLine) : Op2 prog w Λ n (binaryOp .Add) (dS x) (dS y) (dS (x ++ y)) := fun A G s E u v hr hp a b => by
  obtain ⟨t, rfl⟩ := Rep.inv_str a; obtain ⟨t', rfl⟩ := Rep.inv_str b
  exact PyProof.Rows.add_str (fun t' tk => Got.of hp.data .tok (by rw [S_cat]; exact Rep.str _ _)) (by rw [S_len, S_len]; exact h)

theorem op_eq {i j : Int} : Op2 prog w Λ n (compareOp .Eq) (dI i) (dI j) (dB (i == j)) := fun A G s E u v hr hp a b => by
  obtain ⟨t, rfl⟩ := Rep.inv_int a; obtain ⟨t', rfl⟩ := Rep.inv_int b; exact PyProof.Rows.eq_int (Got.of hp.data (.refl _) (Rep.bool _))
theorem op_ne {i j : Int} : Op2 prog w Λ n (compareOp .NotEq) (dI i) (dI j) (dB (i != j)) := fun A G s E u v hr hp a b => by
  obtain ⟨t, rfl⟩ := Rep.inv_int a; obtain ⟨t', rfl⟩ := Rep.inv_int b; exact PyProof.Rows.ne_int (Got.of hp.data (.refl _) (Rep.bool _))
theorem op_lt {i j : Int} : Op2 prog w Λ n (compareOp .Lt) (dI i) (dI j) (dB (decide (i < j))) := fun A G s E u v hr hp a b => by
  obtain ⟨t, rfl⟩ := Rep.inv_int a; obtain ⟨t', rfl⟩ := Rep.inv_int b; exact PyProof.Rows.lt_int (Got.of hp.data (.refl _) (Rep.bool _))
theorem op_le {i j : Int} : Op2 prog w Λ n (compareOp .LtE) (dI i) (dI j) (dB (decide (i ≤ j))) := fun A G s E u v hr hp a b => by
  obtain ⟨t, rfl⟩ := Rep.inv_int a; obtain ⟨t', rfl⟩ := Rep.inv_int b; exact PyProof.Rows.le_int (Got.of hp.data (.refl _) (Rep.bool _))
theorem op_gt {i j : Int} : Op2 prog w Λ n (compareOp .Gt) (dI i) (dI j) (dB (decide (j < i))) := fun A G s E u v hr hp a b => by
  obtain ⟨t, rfl⟩ := Rep.inv_int a; obtain ⟨t', rfl⟩ := Rep.inv_int b; exact PyProof.Rows.gt_int (Got.of hp.data (.refl _) (Rep.bool _))
theorem op_eqS {x y : List Nat} : Op2 prog w Λ n (compareOp .Eq) (dS x) (dS y) (dB (x == y)) := fun A G s E u v hr hp a b => by
  obtain ⟨t, rfl⟩ := Rep.inv_str a; obtain ⟨t', rfl⟩ := Rep.inv_str b; exact PyProof.Rows.eq_str (Got.of hp.data (.refl _) (by rw [S_beq]; exact Rep.bool _))
theorem op_neS {x y : List Nat} : Op2 prog w Λ n (compareOp .NotEq) (dS x) (dS y) (dB (x != y)) := fun A G s E u v hr hp a b => by
  obtain ⟨t, rfl⟩ := Rep.inv_str a; obtain ⟨t', rfl⟩ := Rep.inv_str b; exact PyProof.Rows.ne_str (Got.of hp.data (.refl _) (by rw [S_bne]; exact Rep.bool _))
theorem op_isB {c d : Bool} : Op2 prog w Λ n (compareOp .IsNot) (dB c) (dB d) (dB (c != d)) := fun A G s E u v hr hp a b => by
  obtain rfl := Rep.inv_bool a; obtain rfl := Rep.inv_bool b; exact isnot_bool (Got.of hp.data (.refl _) (Rep.bool _))
theorem op_isNI {i : Int} : Op2 prog w Λ n (compareOp .Is) (dI i) (.dat .none) (dB false) := fun A G s E u v hr hp a b => by
  obtain ⟨t, rfl⟩ := Rep.inv_int a; obtain rfl := Rep.inv_none b; exact is_int_none (Got.of hp.data (.refl _) (Rep.bool _))
theorem op_isNN : Op2 prog w Λ n (compareOp .Is) (.dat .none) (.dat .none) (dB true) := fun A G s E u v hr hp a b => by
  obtain rfl := Rep.inv_none a; obtain rfl := Rep.inv_none b; exact is_none_none (Got.of hp.data (.refl _) (Rep.bool _))

theorem OpT_int {i : Int} : OpT prog w Λ n (dI i) (i != 0) := fun A G s E u hr hp a => by
  obtain ⟨t, rfl⟩ := Rep.inv_int a; exact PyProof.Rows.truthy_int ⟨rfl, .refl _⟩
theorem sizeLine_lt : (sizeLine : Int) < 2 ^ 63 := by decide
theorem OpT_str {x : List Nat} (h : x.length ≤ sizeLine) : OpT prog w Λ n (dS x) (!x.isEmpty) := fun A G s E u hr hp a => by
  obtain ⟨t, rfl⟩ := Rep.inv_str a
  have hl := sizeLine_lt
  refine P.truthy_str (by rw [S_len]; omega) ⟨?_, .tok⟩
  rw [S_len]; cases x with
  | nil => rfl
  | cons a r => simp; omega

/-! items -/
theorem Ev_item {value slice : Expr} {pos : Pos} {a b c : AV} {T id : String} (h1 : Ev prog w Λ F n vs cs value a) (h2 : Ev prog w Λ F n vs cs slice b)
    (hT : ∀ (G : PH) (s : Shared) u, G.sub s.heap → a.ok G u → s.TypeIs u T) (hl : typeLookup (.type T) "__getitem__" = pure (some (.builtin id)))
    (ho : Op2 prog w Λ n getItem a b c)
    (hs : ∀ o i, subscripted slice false o i = operate [o, i] (getItem o i) := by intro _ _; with_unfolding_all rfl) : Ev prog w Λ F n vs cs (.Subscript value slice pos) c := ⟨fun A env G s E hr he hV =>
  Subscript_ (h1.seq hr he hV fun u s1 G1 g1 x1 V1 o1 => h2.seq hr he V1 fun v s2 G2 g2 x2 V2 o2 =>
    tail_any (hT G2 s2 u V2.data (o1.mono x2.le)) hl (wpAny_mono (ho A G2 s2 E u v hr V2.p0 (o1.mono x2.le) o2) (fun r s3 h3 => h3.mono (g1.trans g2) (x1.trans g1 x2)) fun _ _ x => x) (hs u v))⟩
theorem ty_list {l : List PyData} (G : PH) (s : Shared) (u : Value) (hG : G.sub s.heap) (h : (dL l).ok G u) : s.TypeIs u "list" := by
  obtain ⟨a, o, vs, n, rfl, ho, hc, hd, _⟩ := Rep.inv_list h; exact ⟨o, hG _ _ ho, hc⟩
theorem ty_tuple {l : List PyData} (G : PH) (s : Shared) (u : Value) (hG : G.sub s.heap) (h : (dT l).ok G u) : s.TypeIs u "tuple" := by
  obtain ⟨a, o, vs, n, rfl, ho, hc, hd, _⟩ := Rep.inv_tuple h; exact ⟨o, hG _ _ ho, hc⟩
theorem ty_str {l : Str} (G : PH) (s : Shared) (u : Value) (hG : G.sub s.heap) (h : (AV.dat (.str l)).ok G u) : s.TypeIs u "str" := by
  obtain ⟨t, rfl⟩ := Rep.inv_str h; exact typeIs_str s _ _
theorem repList {l : List PyData} {G : PH} {s : Shared} {u : Value} (hG : G.sub s.heap) (h : Rep G u (.list l)) : ∃ a items, u = .ref a ∧ G a ≠ none ∧ s.heap.IsList a items ∧ RepAll G items.toList l := by
  obtain ⟨a, o, vs, n, rfl, ho, hc, hd, hr⟩ := Rep.inv_list h
  exact ⟨a, vs, rfl, by rw [ho]; nofun, ⟨o, hG _ _ ho, hc, n, hd⟩, hr⟩
theorem repTuple {l : List PyData} {G : PH} {s : Shared} {u : Value} (hG : G.sub s.heap) (h : Rep G u (.tuple l)) : ∃ a items, u = .ref a ∧ G a ≠ none ∧ IsTup s.heap a items ∧ RepAll G items.toList l := by
  obtain ⟨a, o, vs, n, rfl, ho, hc, hd, hr⟩ := Rep.inv_tuple h
  exact ⟨a, vs, rfl, by rw [ho]; nofun, ⟨o, hG _ _ ho, hc, n, hd⟩, hr⟩

theorem op_itemL {l : List PyData} {i : Int} {d : PyData} (h0 : 0 ≤ i) (h1 : i < 2 ^ 63) (hd : l[i.toNat]? = some d) : Op2 prog w Λ n getItem (dL l) (dI i) (.dat d) := fun A G s E u v hr hp a b => by
  obtain ⟨a, items, rfl, _, hl, hA⟩ := repList hp.data a
  obtain ⟨t, rfl⟩ := Rep.inv_int b
  obtain ⟨x, hx, hR⟩ := hA.get' _ _ hd
  exact wpAny_getItem_list hl h0 h1 (by simpa using hx) (Got.of hp.data (.refl _) hR)
theorem op_itemLn {l : List PyData} {i : Int} {d : PyData} (h0 : i < 0) (h1 : -(l.length : Int) ≤ i) (h2 : -(2 ^ 63) ≤ i) (hd : l[(i + l.length).toNat]? = some d) : Op2 prog w Λ n getItem (dL l) (dI i) (.dat d) := fun A G s E u v hr hp a b => by
  obtain ⟨a, items, rfl, _, hl, hA⟩ := repList hp.data a
  obtain ⟨t, rfl⟩ := Rep.inv_int b
  obtain ⟨x, hx, hR⟩ := hA.get' _ _ hd
  have hz : items.size = l.length := by have := hA.length; simpa using this
  exact wpAny_getItem_list_neg hl h0 (by rw [hz]; exact h1) h2 (by rw [hz]; simpa using hx) (Got.of hp.data (.refl _) hR)
theorem op_itemT {l : List PyData} {i : Int} {d : PyData} {j : Nat} (h0 : -(2 ^ 63) ≤ i) (h1 : i < 2 ^ 63) (hj : seqIndex? i l.length = some j) (hd : l[j]? = some d) : Op2 prog w Λ n getItem (dT l) (dI i) (.dat d) := fun A G s E u v hr hp a b => by
  obtain ⟨a, items, rfl, _, hl, hA⟩ := repTuple hp.data a
  obtain ⟨t, rfl⟩ := Rep.inv_int b
  obtain ⟨x, hx, hR⟩ := hA.get' _ _ hd
  have hz : items.size = l.length := by have := hA.length; simpa using this
  exact getItem_tuple hl h0 h1 (by rw [hz]; exact hj) (by simpa using hx) (Got.of hp.data (.refl _) hR)
theorem op_itemS {l : List Nat} {i : Int} {c j : Nat} (h0 : -(2 ^ 63) ≤ i) (h1 : i < 2 ^ 63) (hj : seqIndex? i l.length = some j) (hd : l[j]? = some c) : Op2 prog w Λ n getItem (dS l) (dI i) (dS [c]) := fun A G s E u v hr hp a b => by
  obtain ⟨t, rfl⟩ := Rep.inv_str a
  obtain ⟨t', rfl⟩ := Rep.inv_int b
  refine PyProof.Rows.getItem_str ?_ ?_ (c := c) (Got.of hp.data .tok (Rep.str _ _))
  · have h2 : ¬ i ≥ 2 ^ 63 := by omega
    have h3 : ¬ i < -(2 ^ 63 : Int) := by omega
    rw [decide_eq_false h2, decide_eq_false h3]; rfl
  · rw [S_len, hj]; simpa using hd

/-! new lists and tuples -/
theorem repAll_of {G : PH} {us : List Value} {ds : List PyData} (h : OkAll G us (ds.map AV.dat)) : RepAll G us ds := by
  induction ds generalizing us with
  | nil => cases h; exact .nil
  | cons d ds ih => cases h with | cons a b => exact .cons a (ih b)
theorem Ev_tuple {es : List Expr} {k : Nat} {pos : Pos} {ds : List PyData} (h : EvL prog w Λ F n vs cs es (ds.map .dat)) (hsz : ds.length ≤ sizeLine) : Ev prog w Λ F n vs cs (.Tuple es k pos) (dT ds) := ⟨fun A env G s E hr he hV =>
  Tuple_ (h.seq hr he hV fun us s1 G1 g1 x1 V1 o1 => by
    have hA := repAll_of o1
    refine wpAny_newObj_type ?_ (by show us.toArray.size ≤ sizeLine; rw [List.size_toArray, hA.length]; exact hsz)
    have g2 : Grow s1 { s1 with heap := s1.heap.push { cls := .type "tuple", data := .seq us.toArray } } := .push
    have x2 := Gx.add V1.data g2 (get?_size _) (Heap.get?_push_size _ rfl)
    exact ⟨g1.trans g2, _, x1.trans g1 x2, Rep.tuple PH.add_self rfl rfl (by simpa using hA.mono x2.le)⟩)⟩
theorem Ev_list {es : List Expr} {pos : Pos} {ds : List PyData} (h : EvL prog w Λ F n vs cs es (ds.map .dat)) (hsz : ds.length ≤ sizeLine) : Ev prog w Λ F n vs cs (.List es pos) (dL ds) := ⟨fun A env G s E hr he hV =>
  List_ (h.seq hr he hV fun us s1 G1 g1 x1 V1 o1 => by
    have hA := repAll_of o1
    refine wpAny_newObj_type ?_ (by show us.toArray.size ≤ sizeLine; rw [List.size_toArray, hA.length]; exact hsz)
    have g2 : Grow s1 { s1 with heap := s1.heap.push { cls := .type "list", data := .seq us.toArray } } := .push
    have x2 := Gx.add V1.data g2 (get?_size _) (Heap.get?_push_size _ rfl)
    exact ⟨g1.trans g2, _, x1.trans g1 x2, Rep.list PH.add_self rfl rfl rfl (by simpa using hA.mono x2.le)⟩)⟩
end
end Mine
end
section
open PySem PySem.W PyProof.Rows PySem.Calls
set_option Elab.async false
set_option linter.unusedVariables false
namespace Mine

/-- what lies around: kept, and no data in it -/
structure Bk (B G : PH) (gs : Array GenState) (s : Shared) : Prop where
  base : B.sub s.heap
  apart : ∀ a o, B a = some o → G a = none
  gens : ∀ (i : Nat) (x : GenState), gs[i]? = some x → s.gens[i]? = some x
theorem Bk.grow {B G G' : PH} {gs : Array GenState} {s s' : Shared} (x : Bk B G gs s) (g : Grow s s') (hx : Gx s G G' s') : Bk B G' gs s' where
  base := fun a o e => g.keep a o (x.base a o e)
  apart := fun a o e => by
    cases hq : G' a with
    | none => rfl
    | some o' =>
      rcases hx.new a o' hq with h | h
      · rw [x.apart a o e] at h; cases h
      · rw [x.base a o e] at h; cases h
  gens := fun i y e => g.gens i y (x.gens i y e)

/-- a frame's state within what lies around -/
structure SB (Λ : Glo) (F : FS) (env : Env) (B G : PH) (gs : Array GenState) (vs cs : List (Option AV)) (s : Shared) (m : Str → Option Value) (oa : Nat → Addr) : Prop extends SV Λ F env G vs cs s m oa, Bk B G gs s where
  nsB : B env.locals = none
  ownB : ∀ (k : Nat) (ds : List PyData), vs[k]? = some (some (AV.own ds)) → B (oa k) = none
  celB : F.ro = false → ∀ x ∈ F.cels, ∀ c, env.cells.lookup x = some c → B c = none
noncomputable def St (Λ : Glo) (F : FS) (env : Env) (B G : PH) (gs : Array GenState) (vs cs : List (Option AV)) (s : Shared) : Prop := ∃ m oa, SB Λ F env B G gs vs cs s m oa
section
variable {Λ : Glo} {F : FS} {env : Env} {B G G' : PH} {gs : Array GenState} {vs cs : List (Option AV)} {s s' : Shared}
theorem St.v (x : St Λ F env B G gs vs cs s) : V Λ F env G vs cs s := let ⟨m, oa, x⟩ := x; ⟨m, oa, x.toSV⟩
theorem St.bk (x : St Λ F env B G gs vs cs s) : Bk B G gs s := let ⟨_, _, x⟩ := x; x.toBk
theorem St.grow (x : St Λ F env B G gs vs cs s) (g : Grow s s') (hx : Gx s G G' s') : St Λ F env B G' gs vs cs s' :=
  let ⟨m, oa, x⟩ := x; ⟨m, oa, { x.toSV.grow g hx, x.toBk.grow g hx with nsB := x.nsB, ownB := x.ownB, celB := x.celB }⟩
end

inductive Out where
  | next (vs cs : List (Option AV))
  | brk (vs cs : List (Option AV))
  | cont (vs cs : List (Option AV))
  | ret (av : AV)

noncomputable def Post (Λ : Glo) (F : FS) (env : Env) (B G : PH) (gs : Array GenState) (o : Out) (f : Flow) (s' : Shared) : Prop :=
  match o with
  | .next vs cs => f = .next ∧ ∃ G', G.le G' ∧ St Λ F env B G' gs vs cs s'
  | .brk vs cs => f = .brk ∧ ∃ G', G.le G' ∧ St Λ F env B G' gs vs cs s'
  | .cont vs cs => f = .cont ∧ ∃ G', G.le G' ∧ St Λ F env B G' gs vs cs s'
  | .ret av => ∃ v, f = .ret v ∧ ∃ G', G.le G' ∧ P0 Λ G' s' ∧ Bk B G' gs s' ∧ av.ok G' v
theorem Post.mono {Λ : Glo} {F : FS} {env : Env} {B G G' : PH} {gs : Array GenState} {o : Out} {f : Flow} {s' : Shared} (h : Post Λ F env B G' gs o f s') (hl : G.le G') : Post Λ F env B G gs o f s' := by
  cases o with
  | next vs cs => exact ⟨h.1, let ⟨G2, a, b⟩ := h.2; ⟨G2, hl.trans a, b⟩⟩
  | brk vs cs => exact ⟨h.1, let ⟨G2, a, b⟩ := h.2; ⟨G2, hl.trans a, b⟩⟩
  | cont vs cs => exact ⟨h.1, let ⟨G2, a, b⟩ := h.2; ⟨G2, hl.trans a, b⟩⟩
  | ret av => exact let ⟨v, e, G2, a, b⟩ := h; ⟨v, e, G2, hl.trans a, b⟩

section
variable (prog : Program) (w : World) (Λ : Glo) (F : FS) (n : Nat) (vs cs : List (Option AV))
/-- the statements end as P says -/
structure Ex (ss : List Stmt) (P : Out → Prop) : Prop where
  run : ∀ (A : Around) (env : Env) (B G : PH) (gs : Array GenState) (s : Shared) (E : Value → Shared → Prop), Rm n A → EnvOk F env → St Λ F env B G gs vs cs s →
    wpAny (model prog w) A (execs ss env) (fun f s' => ∃ o, P o ∧ Post Λ F env B G gs o f s') E s
end

section
variable {prog : Program} {w : World} {Λ : Glo} {F : FS} {n : Nat} {vs cs : List (Option AV)} {P : Out → Prop}

theorem Ex_nil (h : P (.next vs cs)) : Ex prog w Λ F n vs cs [] P := ⟨fun A env B G gs s E hr he hS => wpAny_pure ⟨_, h, rfl, G, .refl _, hS⟩⟩
theorem Ex.mono {ss : List Stmt} {Q : Out → Prop} (h : Ex prog w Λ F n vs cs ss P) (hq : ∀ o, P o → Q o) : Ex prog w Λ F n vs cs ss Q := ⟨fun A env B G gs s E hr he hS =>
  wpAny_mono (h.run A env B G gs s E hr he hS) (fun f s' ⟨o, a, b⟩ => ⟨o, hq o a, b⟩) fun _ _ x => x⟩
theorem wpAny_execs_cons' {A : Around} {env : Env} {s : Shared} {E : Value → Shared → Prop} {st : Stmt} {rest : List Stmt} {Q : Flow → Shared → Prop}
    (h : wpAny (model prog w) A (exec st env) (fun f s' => match f with | .next => wpAny (model prog w) A (execs rest env) Q E s' | f => Q f s') E s) : wpAny (model prog w) A (execs (st :: rest) env) Q E s := by
  rw [execs_cons]
  refine wpAny_bind (wpAny_mono h (fun f s' h' => ?_) fun _ _ x => x)
  cases f with
  | next => exact h'
  | brk => exact wpAny_pure h'
  | cont => exact wpAny_pure h'
  | ret v => exact wpAny_pure h'
theorem execs_append (env : Env) (b : List Stmt) : ∀ a : List Stmt, execs (a ++ b) env = (execs a env >>= fun f => match f with | .next => execs b env | f => pure f)
  | [] => by rw [List.nil_append, execs_nil]; rfl
  | st :: r => by
    rw [List.cons_append, execs_cons, execs_cons, execs_append env b r]
    show Sem.bind _ _ = Sem.bind (Sem.bind _ _) _
    rw [show ∀ (m : Sem Flow) (f : Flow → Sem Flow) (g : Flow → Sem Flow), (m.bind f).bind g = m.bind fun x => (f x).bind g from fun m f g => bind_assoc m f g]
    congr 1
    funext f
    cases f <;> rfl

/-! plain statements -/
theorem Ex_ret {e : Expr} {pos : Pos} {rest : List Stmt} {av : AV} (h : Ev prog w Λ F n vs cs e av) (hP : P (.ret av)) : Ex prog w Λ F n vs cs (.Return (some e) pos :: rest) P := ⟨fun A env B G gs s E hr he hS =>
  wpAny_execs_cons' (wpAny_Return_some (h.seq hr he hS.v fun v s1 G1 g1 x1 V1 o1 => ⟨_, hP, v, rfl, G1, x1.le, V1.p0, hS.bk.grow g1 x1, o1⟩))⟩
theorem Ex_brk {pos : Pos} {rest : List Stmt} (hP : P (.brk vs cs)) : Ex prog w Λ F n vs cs (.Break pos :: rest) P := ⟨fun A env B G gs s E hr he hS =>
  wpAny_execs_cons' (wpAny_Break ⟨_, hP, rfl, G, .refl _, hS⟩)⟩
theorem Ex_cont {pos : Pos} {rest : List Stmt} (hP : P (.cont vs cs)) : Ex prog w Λ F n vs cs (.Continue pos :: rest) P := ⟨fun A env B G gs s E hr he hS =>
  wpAny_execs_cons' (wpAny_Continue ⟨_, hP, rfl, G, .refl _, hS⟩)⟩
theorem sem_assoc {α β γ : Type} (m : Sem α) (f : α → Sem β) (g : β → Sem γ) : (m >>= f) >>= g = m >>= fun x => f x >>= g := bind_assoc m f g
theorem execs_If (env : Env) (t : Expr) (b o : List Stmt) (pos : Pos) (rest : List Stmt) :
    execs (.If t b o pos :: rest) env = (standAt pos >>= fun _ => isTrue t env (eval t env) >>= fun c => if c then execs (b ++ rest) env else execs (o ++ rest) env) := by
  rw [execs_cons, exec_If, sem_assoc]
  congr 1
  funext _
  rw [sem_assoc]
  congr 1
  funext c
  cases c
  · show execs o env >>= _ = execs (o ++ rest) env
    rw [execs_append]
    congr 1
  · show execs b env >>= _ = execs (b ++ rest) env
    rw [execs_append]
    congr 1
/-- both ways of a test, each with the rest behind it -/
theorem Ex_if {t : Expr} {b o : List Stmt} {pos : Pos} {rest : List Stmt} {c : Bool} (h1 : Tr prog w Λ F n vs cs t c) (h2 : c = true → Ex prog w Λ F n vs cs (b ++ rest) P) (h3 : c = false → Ex prog w Λ F n vs cs (o ++ rest) P) :
    Ex prog w Λ F n vs cs (.If t b o pos :: rest) P := ⟨fun A env B G gs s E hr he hS => by
  rw [execs_If]
  refine wpAny_bind (wpAny_standAt (wpAny_bind (h1.seq hr he hS.v fun s1 g1 _ => ?_)))
  have S1 := hS.grow g1 (.refl hS.v.data g1)
  cases c with
  | true => exact (h2 rfl).run A env B G gs s1 E hr he S1
  | false => exact (h3 rfl).run A env B G gs s1 E hr he S1⟩
end
end Mine
end
section
open PySem PySem.W PyProof.Rows PySem.Calls
set_option Elab.async false
set_option linter.unusedVariables false
namespace Mine

theorem set_get {vs : List (Option AV)} {k j : Nat} {a : Option AV} {av : AV} (h : (vs.set k a)[j]? = some (some av)) : (j = k ∧ a = some av) ∨ (j ≠ k ∧ vs[j]? = some (some av)) := by
  by_cases hj : j = k
  · subst hj
    by_cases hl : j < vs.length
    · rw [List.getElem?_set_self hl] at h; cases h; exact .inl ⟨rfl, rfl⟩
    · rw [List.getElem?_eq_none (by rw [List.length_set]; omega)] at h; cases h
  · rw [List.getElem?_set_ne (Ne.symm hj)] at h; exact .inr ⟨hj, h⟩

section
variable {Λ : Glo} {F : FS} {env : Env} {B G : PH} {gs : Array GenState} {vs cs : List (Option AV)} {s : Shared} {m : Str → Option Value} {oa : Nat → Addr}

theorem plain_ne_ns {h : Heap} {a L : Addr} {items : Array Value} {m : Str → Option Value} (hp : h.PlainList a items) (hn : h.Ns L m) : a ≠ L := by
  rintro rfl
  obtain ⟨n, e⟩ := hp
  obtain ⟨o, es, ep, e', hd, _⟩ := hn
  rw [e] at e'; cases e'; cases hd
theorem cell_ne_ns {h : Heap} {a L : Addr} {v : Option Value} {m : Str → Option Value} (hp : h.IsCell a v) (hn : h.Ns L m) : a ≠ L := by
  rintro rfl
  obtain ⟨o, e, hd⟩ := hp
  obtain ⟨o', es, ep, e', hd', _⟩ := hn
  rw [e] at e'; cases e'; rw [hd] at hd'; cases hd'
theorem cell_ne_plain {h : Heap} {a L : Addr} {v : Option Value} {items : Array Value} (hp : h.IsCell a v) (hn : h.PlainList L items) : a ≠ L := by
  rintro rfl
  obtain ⟨o, e, hd⟩ := hp
  obtain ⟨n, e'⟩ := hn
  rw [e] at e'; cases e'; cases hd

/-- the frame's own map changed at one name, which holds a datum -/
theorem SB.setLoc (X : SB Λ F env B G gs vs cs s m oa) (hf : F.fit = true) {h' : Heap} {x : Str} {v : Value} {tk k : Nat} {av : AV} (hx : F.locs[k]? = some x)
    (hn : h'.Ns env.locals (fun y => if y = x then some v else m y)) (hs : Heap.SameBut env.locals s.heap h') (hok : av.ok G v) :
    SB Λ F env B G gs (vs.set k (some av)) cs { s with heap := h', toks := tk } (fun y => if y = x then some v else m y) oa where
  old := fun b o e => hs.extBut b o (ne_of_get e (X.nsF.old)) (X.old b o e)
  os := X.os
  bare := X.bare
  gd := X.gd
  data := fun b o e => hs.extBut b o (ne_of_get e (X.nsF.data)) (X.data b o e)
  ns := hn
  nsF := X.nsF
  len := by rw [List.length_set]; exact X.len
  loc := fun j y av' h1 h2 => by
    rcases set_get h2 with ⟨rfl, e⟩ | ⟨hj, h2⟩
    · cases e
      rw [hx] at h1; cases h1
      refine ⟨v, by simp, ?_⟩
      cases av with
      | own ds => exact hok.elim
      | dat d => exact hok
      | raw u => exact hok
    · have hne : y ≠ x := by rintro rfl; exact hj (fit_inj hf h1 hx)
      obtain ⟨v', hv', hm⟩ := X.loc j y av' h1 h2
      refine ⟨v', by simp [hne, hv'], ?_⟩
      cases av' with
      | dat d => exact hm
      | raw u => exact hm
      | own ds =>
        obtain ⟨e, hf', items, hp, hr⟩ := hm
        exact ⟨e, hf', items, hp.extBut hs.extBut (plain_ne_ns hp X.ns), hr⟩
  own := fun i j ds es h1 h2 e => by
    rcases set_get h1 with ⟨_, e1⟩ | ⟨_, h1⟩
    · cases e1; exact hok.elim
    · rcases set_get h2 with ⟨_, e2⟩ | ⟨_, h2⟩
      · cases e2; exact hok.elim
      · exact X.own i j ds es h1 h2 e
  cel := fun j y h1 => by
    obtain ⟨c, v', hc, hi, hf', hm⟩ := X.cel j y h1
    exact ⟨c, v', hc, hi.sameBut hs (cell_ne_ns hi X.ns), hf', hm⟩
  base := fun b o e => hs.extBut b o (ne_of_get e (X.nsB)) (X.base b o e)
  apart := X.apart
  gens := X.gens
  nsB := X.nsB
  ownB := fun j ds h1 => by
    rcases set_get h1 with ⟨_, e1⟩ | ⟨_, h1⟩
    · cases e1; exact hok.elim
    · exact X.ownB j ds h1
  celB := X.celB

/-- .. which holds a list of the frame's own -/
theorem SB.setOwn (X : SB Λ F env B G gs vs cs s m oa) (hf : F.fit = true) {h' : Heap} {x : Str} {a : Addr} {tk k : Nat} {ds : List PyData} {items : Array Value} (hx : F.locs[k]? = some x)
    (hn : h'.Ns env.locals (fun y => if y = x then some (.ref a) else m y)) (hs : Heap.SameBut env.locals s.heap h') (hl : s.heap.PlainList a items) (hr : RepAll G items.toList ds)
    (hfa : Fre Λ G a) (hB : B a = none) (hne : ∀ (j : Nat) (es : List PyData), j ≠ k → vs[j]? = some (some (AV.own es)) → oa j ≠ a) :
    SB Λ F env B G gs (vs.set k (some (.own ds))) cs { s with heap := h', toks := tk } (fun y => if y = x then some (.ref a) else m y) (fun j => if j = k then a else oa j) where
  old := fun b o e => hs.extBut b o (ne_of_get e (X.nsF.old)) (X.old b o e)
  os := X.os
  bare := X.bare
  gd := X.gd
  data := fun b o e => hs.extBut b o (ne_of_get e (X.nsF.data)) (X.data b o e)
  ns := hn
  nsF := X.nsF
  len := by rw [List.length_set]; exact X.len
  loc := fun j y av' h1 h2 => by
    rcases set_get h2 with ⟨rfl, e⟩ | ⟨hj, h2⟩
    · cases e
      rw [hx] at h1; cases h1
      exact ⟨.ref a, by simp, by simp, by simpa using hfa, items, by simpa using hl.extBut hs.extBut (plain_ne_ns hl X.ns), hr⟩
    · have hne' : y ≠ x := by rintro rfl; exact hj (fit_inj hf h1 hx)
      obtain ⟨v', hv', hm⟩ := X.loc j y av' h1 h2
      refine ⟨v', by simp [hne', hv'], ?_⟩
      cases av' with
      | dat d => exact hm
      | raw u => exact hm
      | own ds =>
        obtain ⟨e, hf', items, hp, hr⟩ := hm
        simp only [hj, if_false]
        exact ⟨e, hf', items, hp.extBut hs.extBut (plain_ne_ns hp X.ns), hr⟩
  own := fun i j ds' es h1 h2 e => by
    rcases set_get h1 with ⟨rfl, _⟩ | ⟨hi, h1'⟩
    · rcases set_get h2 with ⟨rfl, _⟩ | ⟨hj, h2⟩
      · rfl
      · simp only [hj, if_true, if_false] at e; exact absurd e.symm (hne j es hj h2)
    · rcases set_get h2 with ⟨rfl, _⟩ | ⟨hj, h2⟩
      · simp only [hi, if_true, if_false] at e; exact absurd e (hne i ds' hi h1')
      · simp only [hi, hj, if_false] at e; exact X.own i j ds' es h1' h2 e
  cel := fun j y h1 => by
    obtain ⟨c, v', hc, hi, hf', hm⟩ := X.cel j y h1
    exact ⟨c, v', hc, hi.sameBut hs (cell_ne_ns hi X.ns), hf', hm⟩
  base := fun b o e => hs.extBut b o (ne_of_get e (X.nsB)) (X.base b o e)
  apart := X.apart
  gens := X.gens
  nsB := X.nsB
  ownB := fun j ds' h1 => by
    rcases set_get h1 with ⟨rfl, _⟩ | ⟨hj, h1⟩
    · simpa using hB
    · simpa [hj] using X.ownB j ds' h1
  celB := X.celB

/-- one of the lists of the frame's own changed -/
theorem SB.turnOwn (X : SB Λ F env B G gs vs cs s m oa) {h' : Heap} {tk k : Nat} {x : Str} {ds ds' : List PyData} {items : Array Value} (hx : F.locs[k]? = some x)
    (ho : vs[k]? = some (some (.own ds))) (hl : h'.PlainList (oa k) items) (hs : Heap.SameBut (oa k) s.heap h') (hr : RepAll G items.toList ds') :
    SB Λ F env B G gs (vs.set k (some (.own ds'))) cs { s with heap := h', toks := tk } m oa := by
  obtain ⟨v, hv, hm⟩ := X.loc k x _ hx ho
  obtain ⟨rfl, hfr, items₀, hp₀, _⟩ := hm
  exact {
    old := fun b o e => hs.extBut b o (ne_of_get e (hfr.old)) (X.old b o e)
    os := X.os
    bare := X.bare
    gd := X.gd
    data := fun b o e => hs.extBut b o (ne_of_get e (hfr.data)) (X.data b o e)
    ns := X.ns.sameBut hs (Ne.symm (plain_ne_ns hp₀ X.ns))
    nsF := X.nsF
    len := by rw [List.length_set]; exact X.len
    loc := fun j y av' h1 h2 => by
      rcases set_get h2 with ⟨rfl, e⟩ | ⟨hj, h2⟩
      · cases e
        rw [hx] at h1; cases h1
        exact ⟨_, hv, rfl, hfr, items, hl, hr⟩
      · obtain ⟨v', hv', hm⟩ := X.loc j y av' h1 h2
        refine ⟨v', hv', ?_⟩
        cases av' with
        | dat d => exact hm
        | raw u => exact hm
        | own es =>
          obtain ⟨e, hf', it, hp, hr'⟩ := hm
          exact ⟨e, hf', it, hp.extBut hs.extBut (fun e' => hj (X.own j k es ds h2 ho e')), hr'⟩
    own := fun i j es es' h1 h2 e => by
      have f1 : ∃ z, vs[i]? = some (some (AV.own z)) := by
        rcases set_get h1 with ⟨rfl, _⟩ | ⟨_, h1⟩
        · exact ⟨_, ho⟩
        · exact ⟨_, h1⟩
      have f2 : ∃ z, vs[j]? = some (some (AV.own z)) := by
        rcases set_get h2 with ⟨rfl, _⟩ | ⟨_, h2⟩
        · exact ⟨_, ho⟩
        · exact ⟨_, h2⟩
      obtain ⟨_, f1⟩ := f1; obtain ⟨_, f2⟩ := f2
      exact X.own i j _ _ f1 f2 e
    cel := fun j y h1 => by
      obtain ⟨c, v', hc, hi, hf', hm⟩ := X.cel j y h1
      exact ⟨c, v', hc, hi.sameBut hs (cell_ne_plain hi hp₀), hf', hm⟩
    base := fun b o e => hs.extBut b o (ne_of_get e (X.ownB k ds ho)) (X.base b o e)
    apart := X.apart
    gens := X.gens
    nsB := X.nsB
    ownB := fun j es h1 => by
      rcases set_get h1 with ⟨rfl, _⟩ | ⟨hj, h1⟩
      · exact X.ownB _ ds ho
      · exact X.ownB j es h1
    celB := X.celB }

/-- a cell of the frame's own changed -/
theorem SB.setCel (X : SB Λ F env B G gs vs cs s m oa) (hf : F.fit = true) (he : EnvOk F env) (hro : F.ro = false) {h' : Heap} {x : Str} {v : Value} {c : Addr} {k : Nat} {av : AV} (hx : F.cels[k]? = some x) (hc : env.cells.lookup x = some c)
    (hn : h'.IsCell c (some v)) (hs : Heap.SameBut c s.heap h') (hok : av.ok G v) :
    SB Λ F env B G gs vs (cs.set k (some av)) { s with heap := h' } m oa := by
  obtain ⟨c', v₀, hc', hi₀, hfr, _⟩ := X.cel k x hx
  rw [hc] at hc'; cases hc'
  have hfr := hfr hro
  have hB := X.celB hro x (List.mem_of_getElem? hx) c hc
  exact {
    old := fun b o e => hs.extBut b o (ne_of_get e (hfr.old)) (X.old b o e)
    os := X.os
    bare := X.bare
    gd := X.gd
    data := fun b o e => hs.extBut b o (ne_of_get e (hfr.data)) (X.data b o e)
    ns := X.ns.sameBut hs (Ne.symm (cell_ne_ns hi₀ X.ns))
    nsF := X.nsF
    len := X.len
    loc := fun j y av' h1 h2 => by
      obtain ⟨v', hv', hm⟩ := X.loc j y av' h1 h2
      refine ⟨v', hv', ?_⟩
      cases av' with
      | dat d => exact hm
      | raw u => exact hm
      | own es =>
        obtain ⟨e, hf', it, hp, hr'⟩ := hm
        exact ⟨e, hf', it, hp.extBut hs.extBut (Ne.symm (cell_ne_plain hi₀ hp)), hr'⟩
    own := X.own
    cel := fun j y h1 => by
      obtain ⟨c1, v1, hc1, hi1, hf1, hm1⟩ := X.cel j y h1
      by_cases hj : j = k
      · subst hj
        rw [hx] at h1; cases h1
        rw [hc] at hc1; cases hc1
        refine ⟨c, some v, hc, hn, hf1, fun av' h2 => ?_⟩
        rcases set_get h2 with ⟨_, e⟩ | ⟨hj, _⟩
        · cases e; exact ⟨v, rfl, hok⟩
        · exact absurd rfl hj
      · have hne : c1 ≠ c := by
          rintro rfl
          have := he.apart y (List.mem_of_getElem? h1) x (List.mem_of_getElem? hx) c1 hc1 hc
          subst this
          exact hj (fit_injC hf h1 hx)
        refine ⟨c1, v1, hc1, hi1.sameBut hs hne, hf1, fun av' h2 => ?_⟩
        rcases set_get h2 with ⟨e, _⟩ | ⟨_, h2⟩
        · exact absurd e hj
        · exact hm1 av' h2
    base := fun b o e => hs.extBut b o (ne_of_get e (hB)) (X.base b o e)
    apart := X.apart
    gens := X.gens
    nsB := X.nsB
    ownB := X.ownB
    celB := X.celB }
end

section
variable {prog : Program} {w : World} {Λ : Glo} {F : FS} {n : Nat} {vs cs : List (Option AV)} {A : Around} {env : Env} {B G : PH} {gs : Array GenState} {s : Shared} {E : Value → Shared → Prop} {Q : Unit → Shared → Prop}
theorem St.store (hS : St Λ F env B G gs vs cs s) (hf : F.fit = true) (he : EnvOk F env) {k : Nat} {x : Str} {v : Value} {av : AV} (hx : F.locs[k]? = some x) (hok : av.ok G v)
    (h : ∀ s', St Λ F env B G gs (vs.set k (some av)) cs s' → Q () s') : wpAny (model prog w) A (storeName env x v) Q E s := by
  obtain ⟨m, oa, X⟩ := hS
  obtain ⟨h1, h2⟩ := fit_loc hf hx he
  exact wpAny_storeName_local h2 X.ns (fun h' hn hs => h _ ⟨_, _, X.setLoc hf hx hn hs hok⟩) (by rw [h1]; rfl)
theorem St.storeC (hS : St Λ F env B G gs vs cs s) (hf : F.fit = true) (he : EnvOk F env) (hro : F.ro = false) {k : Nat} {x : Str} {v : Value} {av : AV} (hx : F.cels[k]? = some x) (hok : av.ok G v)
    (h : ∀ s', St Λ F env B G gs vs (cs.set k (some av)) s' → Q () s') : wpAny (model prog w) A (storeName env x v) Q E s := by
  obtain ⟨m, oa, X⟩ := hS
  obtain ⟨h1, h2⟩ := fit_cel hf hx he
  obtain ⟨c, v₀, hc, hi, _⟩ := X.cel k x hx
  exact wpAny_storeName_cell h1 h2 hc hi (fun h' hn hs => h _ ⟨_, _, X.setCel hf he hro hx hc hn hs hok⟩)
/-- a list of the frame's own, only read from now on -/
theorem SV.freeze {m : Str → Option Value} {oa : Nat → Addr} (X : SV Λ F env G vs cs s m oa) {k : Nat} {x : Str} {ds : List PyData} (hx : F.locs[k]? = some x) (ho : vs[k]? = some (some (.own ds))) :
    ∃ o, s.heap.get? (oa k) = some o ∧ G (oa k) = none ∧ SV Λ F env (G.add (oa k) o) (vs.set k (some (dL ds))) cs s m oa := by
  obtain ⟨v, hv, hm⟩ := X.loc k x _ hx ho
  obtain ⟨rfl, hfr, items, ⟨nn, hp⟩, hr⟩ := hm
  have hle : G.le (G.add (oa k) _) := PH.le_add (o := { cls := .type "list", data := .seq items nn }) hfr.data
  have hadd : ∀ b, b ≠ oa k → G b = none → (G.add (oa k) { cls := .type "list", data := .seq items nn }) b = none := fun b hb e => by simp [PH.add, hb, e]
  refine ⟨_, hp, hfr.data, {
    old := X.old
    os := X.os
    bare := X.bare
    gd := X.gd.trans hle
    data := fun b o e => by
      unfold PH.add at e
      by_cases hb : b = oa k
      · subst hb; simp at e; subst e; exact hp
      · simp [hb] at e; exact X.data b o e
    ns := X.ns
    nsF := ⟨X.nsF.old, hadd _ (Ne.symm (plain_ne_ns ⟨nn, hp⟩ X.ns)) X.nsF.data⟩
    len := by rw [List.length_set]; exact X.len
    loc := fun j y av' h1 h2 => by
      rcases set_get h2 with ⟨rfl, e⟩ | ⟨hj, h2⟩
      · cases e
        rw [hx] at h1; cases h1
        exact ⟨_, hv, Rep.list PH.add_self rfl rfl rfl (hr.mono hle)⟩
      · obtain ⟨v', hv', hm⟩ := X.loc j y av' h1 h2
        refine ⟨v', hv', ?_⟩
        cases av' with
        | dat d => exact Rep.mono hle hm
        | raw u => exact hm
        | own es =>
          obtain ⟨e, hf', it, hp', hr'⟩ := hm
          exact ⟨e, ⟨hf'.old, hadd _ (fun e' => hj (X.own j k es ds h2 ho e')) hf'.data⟩, it, hp', hr'.mono hle⟩
    own := fun i j es es' h1 h2 e => by
      rcases set_get h1 with ⟨_, e1⟩ | ⟨_, h1⟩
      · cases e1
      · rcases set_get h2 with ⟨_, e2⟩ | ⟨_, h2⟩
        · cases e2
        · exact X.own i j es es' h1 h2 e
    cel := fun j y h1 => by
      obtain ⟨c, v', hc, hi, hf', hm⟩ := X.cel j y h1
      exact ⟨c, v', hc, hi, fun hro => ⟨(hf' hro).old, hadd _ (cell_ne_plain hi ⟨nn, hp⟩) (hf' hro).data⟩, fun av h2 => let ⟨u, e, hu⟩ := hm av h2; ⟨u, e, hu.mono hle⟩⟩ }⟩
theorem St.freeze (hS : St Λ F env B G gs vs cs s) {k : Nat} {x : Str} {ds : List PyData} (hx : F.locs[k]? = some x) (ho : vs[k]? = some (some (.own ds))) :
    ∃ G', G.le G' ∧ St Λ F env B G' gs (vs.set k (some (dL ds))) cs s := by
  obtain ⟨m, oa, X⟩ := hS
  obtain ⟨o, hg, hn, Y⟩ := X.toSV.freeze hx ho
  refine ⟨_, PH.le_add hn, m, oa, { Y with
    base := X.base
    apart := fun b o' e => by
      unfold PH.add
      by_cases hb : b = oa k
      · subst hb; rw [X.ownB k ds ho] at e; cases e
      · simp [hb, X.apart b o' e]
    gens := X.gens
    nsB := X.nsB
    ownB := fun j es h1 => by
      rcases set_get h1 with ⟨_, e1⟩ | ⟨_, h1⟩
      · cases e1
      · exact X.ownB j es h1
    celB := X.celB }⟩
variable {P : Out → Prop}
theorem Ex_freeze {k : Nat} {x : Str} {ds : List PyData} {ss : List Stmt} (hx : F.locs[k]? = some x) (ho : vs[k]? = some (some (.own ds))) (h : Ex prog w Λ F n (vs.set k (some (dL ds))) cs ss P) : Ex prog w Λ F n vs cs ss P :=
  ⟨fun A env B G gs s E hr he hS => by
    obtain ⟨G', hl, S'⟩ := hS.freeze hx ho
    exact wpAny_mono (h.run A env B G' gs s E hr he S') (fun f s2 ⟨o, a, b⟩ => ⟨o, a, b.mono hl⟩) fun _ _ x => x⟩
/-- what a look at a list of the frame's own gives, where that is no part of it -/
noncomputable def AV.atom : AV → Bool
  | .dat (.int _) | .dat (.str _) | .dat (.bool _) | .dat .none | .raw _ => true
  | _ => false
theorem AV.ok.of_atom {av : AV} {G G' : PH} {v : Value} (ha : av.atom = true) (h : av.ok G v) : av.ok G' v := by
  cases av with
  | raw u => exact h
  | own ds => exact h
  | dat d =>
    cases d with
    | int i => obtain ⟨t, rfl⟩ := Rep.inv_int h; exact Rep.int _ _
    | str i => obtain ⟨t, rfl⟩ := Rep.inv_str h; exact Rep.str _ _
    | bool i => obtain rfl := Rep.inv_bool h; exact Rep.bool _
    | none => obtain rfl := Rep.inv_none h; exact Rep.none
    | _ => cases ha
theorem Ev_look {k : Nat} {x : Str} {ds : List PyData} {e : Expr} {av : AV} (hx : F.locs[k]? = some x) (ho : vs[k]? = some (some (.own ds))) (ha : av.atom = true) (h : Ev prog w Λ F n (vs.set k (some (dL ds))) cs e av) : Ev prog w Λ F n vs cs e av :=
  ⟨fun A env G s E hr he hV => by
    obtain ⟨m, oa, X⟩ := hV
    obtain ⟨o, hg, hn, Y⟩ := X.freeze hx ho
    exact wpAny_mono (h.run A env _ s E hr he ⟨m, oa, Y⟩) (fun v s2 ⟨g, G', hx, ok⟩ => Got.of X.data g (ok.of_atom ha)) fun _ _ x => x⟩
theorem Tr_look {k : Nat} {x : Str} {ds : List PyData} {e : Expr} {b : Bool} (hx : F.locs[k]? = some x) (ho : vs[k]? = some (some (.own ds))) (h : Tr prog w Λ F n (vs.set k (some (dL ds))) cs e b) : Tr prog w Λ F n vs cs e b :=
  ⟨fun A env G s E hr he hV => by
    obtain ⟨m, oa, X⟩ := hV
    obtain ⟨o, hg, hn, Y⟩ := X.freeze hx ho
    exact h.run A env _ s E hr he ⟨m, oa, Y⟩⟩

/-! assignments -/
theorem Ex_assign {e : Expr} {x : Str} {p1 p2 : Pos} {rest : List Stmt} {av : AV} (k : Nat) (hf : F.fit = true) (hx : F.locs[k]? = some x) (h : Ev prog w Λ F n vs cs e av) (h2 : Ex prog w Λ F n (vs.set k (some av)) cs rest P)
    (hs : ∀ env, swapsWith e (some (.Name x p1)) p2.line env = pure false := by intro _; rfl) : Ex prog w Λ F n vs cs (.Assign [.Name x p1] e p2 :: rest) P := ⟨fun A env B G gs s E hr he hS =>
  wpAny_execs_cons' (wpAny_Assign_Name (h.seq hr he hS.v fun v s1 G1 g1 x1 V1 o1 => (hS.grow g1 x1).store hf he hx o1 fun s2 S2 =>
    wpAny_mono (h2.run A env B G1 gs s2 E hr he S2) (fun f s2 ⟨o, a, b⟩ => ⟨o, a, b.mono x1.le⟩) fun _ _ x => x) (hs env))⟩
theorem Ex_assignC {e : Expr} {x : Str} {p1 p2 : Pos} {rest : List Stmt} {av : AV} (k : Nat) (hf : F.fit = true) (hro : F.ro = false) (hx : F.cels[k]? = some x) (h : Ev prog w Λ F n vs cs e av) (h2 : Ex prog w Λ F n vs (cs.set k (some av)) rest P)
    (hs : ∀ env, swapsWith e (some (.Name x p1)) p2.line env = pure false := by intro _; rfl) : Ex prog w Λ F n vs cs (.Assign [.Name x p1] e p2 :: rest) P := ⟨fun A env B G gs s E hr he hS =>
  wpAny_execs_cons' (wpAny_Assign_Name (h.seq hr he hS.v fun v s1 G1 g1 x1 V1 o1 => (hS.grow g1 x1).storeC hf he hro hx o1 fun s2 S2 =>
    wpAny_mono (h2.run A env B G1 gs s2 E hr he S2) (fun f s2 ⟨o, a, b⟩ => ⟨o, a, b.mono x1.le⟩) fun _ _ x => x) (hs env))⟩
/-- a written list, the frame's own -/
theorem Ex_own {es : List Expr} {x : Str} {p1 p2 p3 : Pos} {rest : List Stmt} {ds : List PyData} (k : Nat) (hf : F.fit = true) (hx : F.locs[k]? = some x) (h : EvL prog w Λ F n vs cs es (ds.map .dat)) (h2 : Ex prog w Λ F n (vs.set k (some (.own ds))) cs rest P)
    (hsz : ds.length ≤ sizeLine) : Ex prog w Λ F n vs cs (.Assign [.Name x p1] (.List es p3) p2 :: rest) P := ⟨fun A env B G gs s E hr he hS =>
  wpAny_execs_cons' (wpAny_Assign_Name (List_ (h.seq hr he hS.v fun us s1 G1 g1 x1 V1 o1 => by
    have hA := repAll_of o1
    refine wpAny_newObj_type ?_ (by show us.toArray.size ≤ sizeLine; rw [List.size_toArray, hA.length]; exact hsz)
    have g2 : Grow s1 { s1 with heap := s1.heap.push { cls := .type "list", data := .seq us.toArray } } := .push
    have S1 := hS.grow g1 x1
    have S2 := S1.grow g2 (.refl V1.data g2)
    obtain ⟨m, oa, X1⟩ := S1
    obtain ⟨h1', h2'⟩ := fit_loc hf hx he
    have X2 : SB Λ F env B G1 gs vs cs { s1 with heap := s1.heap.push { cls := .type "list", data := .seq us.toArray } } m oa :=
      { X1.toSV.grow g2 (.refl V1.data g2), X1.toBk.grow g2 (.refl V1.data g2) with nsB := X1.nsB, ownB := X1.ownB, celB := X1.celB }
    have hnone : ∀ (q : PH), q.sub s1.heap → q s1.heap.objs.size = none := fun q hq => PH.none_of_sub hq (get?_size _)
    have hold : Λ.h.get? s1.heap.objs.size = none := PH.none_of_sub (G := Λ.h.get?) X1.old (get?_size _)
    refine wpAny_storeName_local h2' X2.ns (fun h' hn hs => ?_) (by rw [h1']; rfl)
    have X3 := X2.setOwn hf (a := s1.heap.objs.size) (ds := ds) (items := us.toArray) (tk := s1.toks + 1) hx hn hs ⟨_, Heap.get?_push_size _ rfl⟩ (by simpa using hA) ⟨hold, hnone _ X1.data⟩ (hnone _ X1.base) (fun j es' hj hjo => by
      have hlt : oa j < s1.heap.objs.size := by
        obtain ⟨y, hy⟩ : ∃ y, F.locs[j]? = some y := by
          have hj1 := (List.getElem?_eq_some_iff.mp hjo).1
          have := X1.len
          exact ⟨_, List.getElem?_eq_getElem (by omega)⟩
        obtain ⟨v', _, hm⟩ := X1.loc j y _ hy hjo
        obtain ⟨_, _, it, ⟨_, hp⟩, _⟩ := hm
        exact Heap.lt_size hp
      exact Nat.ne_of_lt hlt)
    exact wpAny_mono (h2.run A env B G1 gs _ E hr he ⟨_, _, X3⟩) (fun f s2 ⟨o, a, b⟩ => ⟨o, a, b.mono x1.le⟩) fun _ _ x => x)) (by rfl))⟩
end
end Mine
end
section
open PySem PySem.W PyProof.Rows PySem.Calls
set_option Elab.async false
set_option linter.unusedVariables false
namespace Mine

theorem bindL_not {kind : Str → Option NameKind} : ∀ (ps : List Str) (us : List Value) (m : Str → Option Value) (x : Str), x ∉ ps → bindL kind (ps.zip us) m x = m x
  | [], _, _, _, _ => rfl
  | _ :: _, [], _, _, _ => rfl
  | p :: ps, u :: us, m, x, hx => by
    have h1 : x ≠ p := fun e => hx (by simp [e])
    have h2 : x ∉ ps := fun e => hx (by simp [e])
    show bindL kind (ps.zip us) _ x = m x
    rw [bindL_not ps us _ x h2]
    split <;> simp [h1]
theorem bindC_not {kind : Str → Option NameKind} : ∀ (ps : List Str) (us : List Value) (m : Str → Option Value) (x : Str), x ∉ ps → bindC kind (ps.zip us) m x = m x
  | [], _, _, _, _ => rfl
  | _ :: _, [], _, _, _ => rfl
  | p :: ps, u :: us, m, x, hx => by
    have h1 : x ≠ p := fun e => hx (by simp [e])
    have h2 : x ∉ ps := fun e => hx (by simp [e])
    show bindC kind (ps.zip us) _ x = m x
    rw [bindC_not ps us _ x h2]
    split <;> simp [h1]
theorem bindL_get {kind : Str → Option NameKind} : ∀ (ps : List Str) (us : List Value) (m : Str → Option Value) (j : Nat) (x : Str) (u : Value), ps.Nodup → ps[j]? = some x → us[j]? = some u → kind x = some .local → bindL kind (ps.zip us) m x = some u
  | [], _, _, _, _, _, _, h, _, _ => by simp at h
  | _ :: _, [], _, _, _, _, _, _, h, _ => by simp at h
  | p :: ps, u' :: us, m, 0, x, u, hn, h1, h2, hk => by
    simp at h1 h2; subst h1; subst h2
    show bindL kind (ps.zip us) _ p = some u'
    rw [bindL_not ps us _ p (List.nodup_cons.mp hn).1]; simp [hk]
  | p :: ps, u' :: us, m, j + 1, x, u, hn, h1, h2, hk => bindL_get ps us _ j x u (List.nodup_cons.mp hn).2 (by simpa using h1) (by simpa using h2) hk
theorem bindC_get {kind : Str → Option NameKind} : ∀ (ps : List Str) (us : List Value) (m : Str → Option Value) (j : Nat) (x : Str) (u : Value), ps.Nodup → ps[j]? = some x → us[j]? = some u → kind x ≠ some .local → bindC kind (ps.zip us) m x = some u
  | [], _, _, _, _, _, _, h, _, _ => by simp at h
  | _ :: _, [], _, _, _, _, _, _, h, _ => by simp at h
  | p :: ps, u' :: us, m, 0, x, u, hn, h1, h2, hk => by
    simp at h1 h2; subst h1; subst h2
    show bindC kind (ps.zip us) _ p = some u'
    rw [bindC_not ps us _ p (List.nodup_cons.mp hn).1]; simp [hk]
  | p :: ps, u' :: us, m, j + 1, x, u, hn, h1, h2, hk => bindC_get ps us _ j x u (List.nodup_cons.mp hn).2 (by simpa using h1) (by simpa using h2) hk
theorem OkAll.get' {G : PH} {us : List Value} {avs : List AV} (h : OkAll G us avs) : ∀ (j : Nat) (av : AV), avs[j]? = some av → ∃ u, us[j]? = some u ∧ av.ok G u := by
  induction h with
  | nil => intro j av h; simp at h
  | cons a _ ih =>
    intro j av h
    cases j with
    | zero => cases h; exact ⟨_, rfl, a⟩
    | succ j => exact ih j av h
theorem OkAll.length {G : PH} {us : List Value} {avs : List AV} (h : OkAll G us avs) : us.length = avs.length := by
  induction h with
  | nil => rfl
  | cons _ _ ih => exact congrArg (· + 1) ih

/-- the def stands at the address -/
structure FnAt (Λ : Glo) (name : Str) (params : Arguments) (body : List Stmt) (scope : Scope) (a : Addr) : Prop where
  glob : Λ.mg name = some (.ref a)
  code : ∃ o pm cd doc, Λ.h.get? a = some o ∧ o.data = .func (docDef name params body scope pm cd doc) ∧ Λ.h.CodeRec cd name

/-- how a def's frame begins: its parameters' names, in which order -/
structure Enters (F : FS) (scope : Scope) (ps : List Str) (avs : List AV) (vs cs : List (Option AV)) : Prop where
  sc : F.scope = scope
  ro : F.ro = false
  fit : F.fit = true
  nodup : ps.Nodup
  plen : ps.length = avs.length
  len : vs.length ≤ F.locs.length
  loc : ∀ (k : Nat) (x : Str) (av : AV), F.locs[k]? = some x → vs[k]? = some (some av) → ∃ j : Nat, ps[j]? = some x ∧ avs[j]? = some av
  cel : ∀ (k : Nat) (x : Str) (av : AV), F.cels[k]? = some x → cs[k]? = some (some av) → ∃ j : Nat, ps[j]? = some x ∧ avs[j]? = some av
  cells : ∀ L, ∀ x ∈ F.cels, ((cellsFrom (L + 1) scope.names []).lookup x).isSome = true
  kinds : ∀ L, ∀ x ∈ ps, scope.names.lookup x = some .local ∨ (scope.names.lookup x = some .cell ∧ ((cellsFrom (L + 1) scope.names []).lookup x).isSome = true)

section
variable {prog : Program} {w : World} {Λ : Glo}
/-- the objects around a call: all but the data -/
noncomputable def around (G : PH) (s : Shared) : PH := fun a => if G a = none then s.heap.get? a else none
theorem got_of_ret {G G' : PH} {s s' : Shared} {av : AV} {v : Value} (h0 : P0 Λ G s) (hl : G.le G') (hp : P0 Λ G' s') (hb : Bk (around G s) G' s.gens s') (ok : av.ok G' v) : Got s G av v s' := by
  refine ⟨⟨fun b o e => ?_, fun i x e => hb.gens i x e, fun _ => hp.bare, hp.os.trans h0.os.symm⟩, G', ⟨hl, hp.data, fun a o e => ?_⟩, ok⟩
  · cases hG : G b with
    | some o' => have := h0.data b o' hG; rw [e] at this; cases this; exact hp.data b o (hl b o hG)
    | none => exact hb.base b o (by simp [around, hG, e])
  · cases hG : G a with
    | some o' => rw [hl a o' hG] at e; cases e; exact .inl rfl
    | none =>
      refine .inr ?_
      cases hq : s.heap.get? a with
      | none => rfl
      | some o' => rw [hb.apart a o' (by simp [around, hG, hq])] at e; cases e

theorem Fn_intro {name : Str} {params : Arguments} {body : List Stmt} {scope : Scope} {a : Addr} {F : FS} {ps : List Str} {avs : List AV} {av : AV} {vs cs : List (Option AV)} {n : Nat}
    (hΛ : GloOk Λ) (hat : FnAt Λ name params body scope a) (hE : Enters F scope ps avs vs cs)
    (hbind : ∀ pm cd doc us, us.length = avs.length → bindArgs (docDef name params body scope pm cd doc) ⟨us, []⟩ = pure (ps.zip us))
    (h : Ex prog w Λ F n vs cs body (fun o => o = .ret av ∨ ((∃ vs cs, o = .next vs cs) ∧ av = .dat .none)))
    (hco : scope.isCoroutine = false := by rfl) (hgen : scope.isGenerator = false := by rfl) : OpL prog w Λ (n + 1) (fun us => call (.ref a) us) avs av := fun A G s E us hr hp ok => by
  obtain ⟨hglob, o, pm, cd, doc, ho, hd, hcd⟩ := hat
  have hk : scope.kind = .function := by
    have := hE.fit
    simp only [FS.fit, Bool.and_eq_true] at this
    rw [← hE.sc]; exact eq_of_beq this.1.1.1.1
  refine wpAny_call (call_cells_ret hr.room (hp.old _ _ ho) hd (hΛ.nolimit.keeps hp.old) (hcd.keeps hp.old) (hbind pm cd doc us ok.length) (fun x hx => ?_) (fun h₁ tk Fr₁ Cl₁ => ?_) hco hgen hk)
  · exact hE.kinds _ x.1 (List.of_mem_zip hx).1
  · have hL : Λ.h.get? s.heap.objs.size = none := PH.none_of_sub (G := Λ.h.get?) hp.old (get?_size _)
    have hGL : G s.heap.objs.size = none := PH.none_of_sub hp.data (get?_size _)
    have fre : ∀ c, s.heap.objs.size ≤ c → s.heap.get? c = none := fun c hc => by
      cases hq : s.heap.get? c with
      | none => rfl
      | some o => exact absurd (Heap.lt_size hq) (Nat.not_lt.mpr hc)
    have frees : ∀ c, s.heap.objs.size ≤ c → Fre Λ G c := fun c hc => ⟨PH.none_of_sub (G := Λ.h.get?) hp.old (fre c hc), PH.none_of_sub hp.data (fre c hc)⟩
    have hkL : ∀ x, (envOfC name scope s.heap.objs.size a cd).kindOf x = scope.names.lookup x := fun x => rfl
    have he : EnvOk F (envOfC name scope s.heap.objs.size a cd) := {
      scope := hE.sc.symm
      glob := rfl
      bi := rfl
      cell := fun x hx => Option.isSome_iff_exists.mp (hE.cells _ x hx)
      apart := fun x _ y _ c h1 h2 => name_of_addr Cl₁.apart (mem_of_lookup h1) (mem_of_lookup h2)
      code := let ⟨c, _, _, _, e, _⟩ := hcd; ⟨c, e⟩
      frame := ⟨_, rfl⟩ }
    have hfitL : ∀ (k : Nat) (x : Str), F.locs[k]? = some x → scope.names.lookup x = some .local := fun k x hx => (fit_loc hE.fit hx he).2
    have hfitC : ∀ (k : Nat) (x : Str), F.cels[k]? = some x → scope.names.lookup x = some .cell := fun k x hx => (fit_cel hE.fit hx he).2
    have S : St Λ F (envOfC name scope s.heap.objs.size a cd) (around G s) G s.gens vs cs { s with heap := h₁, toks := tk } := ⟨_, fun _ => 0, {
      old := fun b o e => Fr₁.keep b o (hp.old b o e)
      os := hp.os
      bare := hp.bare
      gd := hp.gd
      data := fun b o e => Fr₁.keep b o (hp.data b o e)
      ns := Fr₁.ns
      nsF := frees _ (Nat.le_refl _)
      len := hE.len
      loc := fun k x av' h1 h2 => by
        obtain ⟨j, hj, ha⟩ := hE.loc k x av' h1 h2
        obtain ⟨u, hu, hok⟩ := ok.get' j av' ha
        refine ⟨u, bindL_get ps us _ j x u hE.nodup hj hu (by rw [hkL]; exact hfitL k x h1), ?_⟩
        cases av' with
        | own ds => exact hok.elim
        | dat d => exact hok
        | raw v => exact hok
      own := fun k j ds es h1 _ _ => by
        have hlt := (List.getElem?_eq_some_iff.mp h1).1
        have hlen := hE.len
        obtain ⟨j', _, ha⟩ := hE.loc k _ _ (List.getElem?_eq_getElem (by omega)) h1
        obtain ⟨u, _, hok⟩ := ok.get' j' _ ha
        exact hok.elim
      cel := fun k x h1 => by
        obtain ⟨c, hc⟩ := Option.isSome_iff_exists.mp (hE.cells s.heap.objs.size x (List.mem_of_getElem? h1))
        refine ⟨c, _, hc, Cl₁.cell x c hc, fun _ => frees c (Nat.le_of_lt (Cl₁.above x c (mem_of_lookup hc))), fun av' h2 => ?_⟩
        obtain ⟨j, hj, ha⟩ := hE.cel k x av' h1 h2
        obtain ⟨u, hu, hok⟩ := ok.get' j av' ha
        exact ⟨u, bindC_get ps us _ j x u hE.nodup hj hu (by rw [hkL, hfitC k x h1]; nofun), hok⟩
      base := fun b o e => by
        unfold around at e
        split at e
        · exact Fr₁.keep b o e
        · cases e
      apart := fun b o e => by
        unfold around at e
        split at e
        · assumption
        · cases e
      gens := fun _ _ e => e
      nsB := by show around G s s.heap.objs.size = none; unfold around; rw [hGL, get?_size]; rfl
      ownB := fun k ds h1 => by
        have hlt := (List.getElem?_eq_some_iff.mp h1).1
        have hlen := hE.len
        obtain ⟨j', _, ha⟩ := hE.loc k _ _ (List.getElem?_eq_getElem (by omega)) h1
        obtain ⟨u, _, hok⟩ := ok.get' j' _ ha
        exact hok.elim
      celB := fun _ x hx c hc => by
        have := Cl₁.above x c (mem_of_lookup hc)
        unfold around
        rw [fre c (Nat.le_of_lt this)]; split <;> rfl }⟩
    refine wpAny_mono (h.run _ _ _ _ _ _ (fun _ _ => False) hr.deeper he S) ?_ fun _ _ x => x
    rintro f s' ⟨o', hP, hpo⟩
    rcases hP with rfl | ⟨⟨vs', cs', rfl⟩, rfl⟩
    · obtain ⟨v, rfl, G', hl, hp', hb, hok⟩ := hpo
      exact got_of_ret hp hl hp' hb hok
    · obtain ⟨rfl, G', hl, hS⟩ := hpo
      exact got_of_ret hp hl hS.v.p0 hS.bk Rep.none

variable {F : FS} {n : Nat} {vs cs : List (Option AV)}
/-- a call of a def -/
theorem Ev_call {f : Expr} {e : Expr} {es : List Expr} {pos : Pos} {name : Str} {params : Arguments} {body : List Stmt} {scope : Scope} {a : Addr} {avs : List AV} {av : AV} {k : Nat} (hat : FnAt Λ name params body scope a)
    (h1 : Ev prog w Λ F n vs cs f (.raw (.ref a))) (h2 : EvL prog w Λ F n vs cs (e :: es) avs) (h3 : OpL prog w Λ k (fun us => call (.ref a) us) avs av) (hk : k ≤ n)
    (he : ∀ env, eval (.Call f (e :: es) [] pos) env = (do callWith pos (← eval f env) [] (backTo pos (starEach (e :: es) env)) (backToKw pos (keywordEach [] env))) := by intro _; rfl)
    (hs : ∀ env, starEach (e :: es) env = (false, eval e env) :: starEach es env := by intro _; rfl) : Ev prog w Λ F n vs cs (.Call f (e :: es) [] pos) av := ⟨fun A env G s E hr hen hV => by
  obtain ⟨hglob, o, pm, cd, doc, ho, hd, hcd⟩ := hat
  refine Call_ (h1.seq hr hen hV fun u s1 G1 g1 x1 V1 o1 => ?_) (he env)
  obtain rfl : u = _ := o1
  refine callWith_def hd (h2.seq hr hen V1 fun us s2 G2 g2 x2 V2 o2 => ⟨V2.old _ _ ho, ?_⟩) (hs env)
  exact wpAny_mono (h3 A G2 s2 E us (hr.mono hk) V2.p0 o2) (fun r s3 h3 => h3.mono (g1.trans g2) (x1.trans g1 x2)) fun _ _ x => x⟩
/-- a call of a built-in function -/
theorem Ev_callB {f : Expr} {e : Expr} {es : List Expr} {pos : Pos} {id : String} {avs : List AV} {av : AV}
    (h1 : Ev prog w Λ F n vs cs f (.raw (.builtin id))) (h2 : EvL prog w Λ F n vs cs (e :: es) avs) (h3 : OpL prog w Λ n (fun us => call (.builtin id) us) avs av)
    (he : ∀ env, eval (.Call f (e :: es) [] pos) env = (do callWith pos (← eval f env) [] (backTo pos (starEach (e :: es) env)) (backToKw pos (keywordEach [] env))) := by intro _; rfl)
    (hs : ∀ env, starEach (e :: es) env = (false, eval e env) :: starEach es env := by intro _; rfl)
    (hpl : ∀ env, (backTo pos (starEach es env)).any (·.1) = false := by intro _; rfl) : Ev prog w Λ F n vs cs (.Call f (e :: es) [] pos) av := ⟨fun A env G s E hr hen hV => by
  refine Call_ (h1.seq hr hen hV fun u s1 G1 g1 x1 V1 o1 => ?_) (he env)
  obtain rfl : u = _ := o1
  refine callWith_builtin1 (h2.seq hr hen V1 fun us s2 G2 g2 x2 V2 o2 => ?_) (hs env) (hpl env)
  exact wpAny_mono (h3 A G2 s2 E us hr V2.p0 o2) (fun r s3 h3 => h3.mono (g1.trans g2) (x1.trans g1 x2)) fun _ _ x => x⟩
/-- a call of a built-in class -/
theorem Ev_callT {f : Expr} {e : Expr} {es : List Expr} {pos : Pos} {T : String} {avs : List AV} {av : AV}
    (h1 : Ev prog w Λ F n vs cs f (.raw (.type T))) (h2 : EvL prog w Λ F n vs cs (e :: es) avs) (h3 : OpL prog w Λ n (fun us => call (.type T) us) avs av)
    (he : ∀ env, eval (.Call f (e :: es) [] pos) env = (do callWith pos (← eval f env) [] (backTo pos (starEach (e :: es) env)) (backToKw pos (keywordEach [] env))) := by intro _; rfl)
    (hs : ∀ env, starEach (e :: es) env = (false, eval e env) :: starEach es env := by intro _; rfl)
    (hpl : ∀ env, (backTo pos (starEach es env)).any (·.1) = false := by intro _; rfl) : Ev prog w Λ F n vs cs (.Call f (e :: es) [] pos) av := ⟨fun A env G s E hr hen hV => by
  refine Call_ (h1.seq hr hen hV fun u s1 G1 g1 x1 V1 o1 => ?_) (he env)
  obtain rfl : u = _ := o1
  refine callWith_type1 (h2.seq hr hen V1 fun us s2 G2 g2 x2 V2 o2 => ?_) (hs env) (hpl env)
  exact wpAny_mono (h3 A G2 s2 E us hr V2.p0 o2) (fun r s3 h3 => h3.mono (g1.trans g2) (x1.trans g1 x2)) fun _ _ x => x⟩
end
end Mine
end
section
open PySem PySem.W PyProof.Rows PySem.Calls
set_option Elab.async false
set_option linter.unusedVariables false
namespace Mine

/-- objects wr and generators gw alone may have changed -/
structure Chg (wr : List Addr) (gw : Nat → Prop) (s s' : Shared) : Prop where
  keep : ∀ b o, b ∉ wr → s.heap.get? b = some o → s'.heap.get? b = some o
  gens : ∀ (i : Nat) (x : GenState), ¬ gw i → s.gens[i]? = some x → s'.gens[i]? = some x
  bare : AllBare s.gens → AllBare s'.gens
  os : s'.os = s.os
/-- an iterator: T i wr G s, its state ahead of item i; wr: its own objects -/
structure Itr (prog : Program) (w : World) (Λ : Glo) (A : Around) (target : Expr) (I : Addr) (gw : Nat → Prop) (len : Nat) (items : Nat → AV) (T : Nat → List Addr → PH → Shared → Prop) : Prop where
  frame : ∀ i wr G G' s s', T i wr G s → G.le G' → G'.sub s'.heap → P0 Λ G' s' → (∀ b ∈ wr, G' b = none) → (∀ b ∈ wr, ∀ o, s.heap.get? b = some o → s'.heap.get? b = some o) → (∀ (g : Nat) x, gw g → s.gens[g]? = some x → s'.gens[g]? = some x) → T i wr G' s'
  here : ∀ i wr G s, T i wr G s → ∀ b ∈ wr, ∃ o, s.heap.get? b = some o
  item : ∀ (i : Nat) (wr : List Addr) (G : PH) (s : Shared) (E : Value → Shared → Prop) (Q : Value → Shared → Prop), i < len → P0 Λ G s → T i wr G s → (∀ b ∈ wr, G b = none) →
    (∀ v s' G' wr', Chg wr gw s s' → Gx s G G' s' → T (i + 1) wr' G' s' → (∀ b ∈ wr', (b ∈ wr ∨ s.heap.get? b = none) ∧ G' b = none) → (items i).ok G' v → Q v s') →
    wpAny (model prog w) A (pyNext (.ref I)) (fun r s1 => match r with | none => False | some v => wpAny (model prog w) A (letOwnedTupleGo target (.ref I) v) (fun _ s' => Q v s') E s1) E s
  done : ∀ (wr : List Addr) (G : PH) (s : Shared) (E : Value → Shared → Prop) (Q : Shared → Prop), P0 Λ G s → T len wr G s → (∀ b ∈ wr, G b = none) → (∀ s', Chg wr gw s s' → G.sub s'.heap → Q s') →
    wpAny (model prog w) A (pyNext (.ref I)) (fun r s1 => r = none ∧ Q s1) E s
  self : ∀ (i : Nat) (wr : List Addr) (G : PH) (s : Shared) (E : Value → Shared → Prop) (Q : Value → Shared → Prop), T i wr G s → Q (.ref I) s → wpAny (model prog w) A (pyIter (.ref I)) Q E s

section
variable (prog : Program) (w : World) (Λ : Glo) (F : FS) (n : Nat) (vs cs : List (Option AV))
/-- the expression's items, one by one -/
noncomputable def Itb (target e : Expr) (len : Nat) (items : Nat → AV) : Prop :=
  ∀ (A : Around) (env : Env) (G : PH) (s : Shared) (E : Value → Shared → Prop) (Q : Value → Shared → Prop), Rm n A → EnvOk F env → V Λ F env G vs cs s →
    (∀ I wr gw T s' G', Grow s s' → Gx s G G' s' → Itr prog w Λ A target I gw len items T → T 0 wr G' s' → (∀ b ∈ wr, s.heap.get? b = none ∧ G' b = none) → (∀ g, gw g → s.gens.size ≤ g) → Q (.ref I) s') →
    wpAny (model prog w) A (eval e env) (fun x s1 => wpAny (model prog w) A (pyIter x) Q E s1) E s
/-- the value is taken by the target -/
noncomputable def Asg (target : Expr) (av : AV) (vs' cs' : List (Option AV)) : Prop :=
  ∀ (A : Around) (env : Env) (B G : PH) (gs : Array GenState) (s : Shared) (E : Value → Shared → Prop) (Q : Unit → Shared → Prop) (v : Value), Rm n A → EnvOk F env → St Λ F env B G gs vs cs s → av.ok G v →
    (∀ s' G', G.le G' → St Λ F env B G' gs vs' cs' s' → Q () s') → wpAny (model prog w) A (assign target env v) Q E s
end

/-- the things around, and the iterator's objects as they stand -/
noncomputable def ov (B : PH) (wr : List Addr) (s : Shared) : PH := fun a => if a ∈ wr then s.heap.get? a else B a

section
variable {prog : Program} {w : World} {Λ : Glo} {F : FS} {n : Nat} {vs cs : List (Option AV)} {P : Out → Prop} {env : Env} {B G G' : PH} {gs : Array GenState} {s s' : Shared}

theorem Asg_name {x : Str} {pos : Pos} {av : AV} (k : Nat) (hf : F.fit = true) (hx : F.locs[k]? = some x) : Asg prog w Λ F n vs cs (.Name x pos) av (vs.set k (some av)) cs := fun A env B G gs s E Q v hr he hS ok h =>
  wpAny_assign_Name (hS.store hf he hx ok fun s' S' => h s' G (.refl _) S')
theorem Asg_nameC {x : Str} {pos : Pos} {av : AV} (k : Nat) (hf : F.fit = true) (hro : F.ro = false) (hx : F.cels[k]? = some x) : Asg prog w Λ F n vs cs (.Name x pos) av vs (cs.set k (some av)) := fun A env B G gs s E Q v hr he hS ok h =>
  wpAny_assign_Name (hS.storeC hf he hro hx ok fun s' S' => h s' G (.refl _) S')

theorem St.regen (x : St Λ F env B G gs vs cs s) : St Λ F env B G s.gens vs cs s := let ⟨m, oa, x⟩ := x; ⟨m, oa, { x with gens := fun _ _ e => e }⟩
theorem St.gensBack {gs' : Array GenState} (x : St Λ F env B G gs' vs cs s) (h : ∀ (i : Nat) (g : GenState), gs[i]? = some g → gs'[i]? = some g) : St Λ F env B G gs vs cs s :=
  let ⟨m, oa, x⟩ := x; ⟨m, oa, { x with gens := fun i g e => x.gens i g (h i g e) }⟩

theorem SB.wr_loc {m : Str → Option Value} {oa : Nat → Addr} {wr : List Addr} (X : SB Λ F env (ov B wr s) G gs vs cs s m oa) : env.locals ∉ wr := fun h => by
  have := X.nsB
  unfold ov at this; rw [if_pos h] at this
  obtain ⟨o, e⟩ := Ns_get X.ns
  rw [e] at this; cases this
theorem SB.wr_own {m : Str → Option Value} {oa : Nat → Addr} {wr : List Addr} (X : SB Λ F env (ov B wr s) G gs vs cs s m oa) {k : Nat} {ds : List PyData} (h : vs[k]? = some (some (.own ds))) : oa k ∉ wr := fun hm => by
  have hlt := (List.getElem?_eq_some_iff.mp h).1
  have hlen := X.len
  obtain ⟨v, _, hq⟩ := X.loc k _ _ (List.getElem?_eq_getElem (by omega)) h
  obtain ⟨_, _, it, ⟨_, hp⟩, _⟩ := hq
  have := X.ownB k ds h
  unfold ov at this; rw [if_pos hm, hp] at this; cases this

/-- the iterator has moved -/
theorem St.moved {wr wr' : List Addr} {gw : Nat → Prop} (hS : St Λ F env (ov B wr s) G gs vs cs s) (c : Chg wr gw s s') (hx : Gx s G G' s') (hw : ∀ b ∈ wr, Λ.h.get? b = none ∧ B b = none) (hw' : ∀ b ∈ wr', (b ∈ wr ∨ s.heap.get? b = none) ∧ G' b = none) (hg : ∀ (i : Nat) x, gs[i]? = some x → ¬ gw i)
    (hc : F.ro = true → ∀ x ∈ F.cels, ∀ c, env.cells.lookup x = some c → c ∉ wr) :
    St Λ F env (ov B wr' s') G' gs vs cs s' := by
  obtain ⟨m, oa, X⟩ := hS
  have fre : ∀ {a : Addr} {o : Obj}, Fre Λ G a → s.heap.get? a = some o → Fre Λ G' a := fun {a o} x ho => ⟨x.old, by
    cases hq : G' a with
    | none => rfl
    | some o' =>
      rcases hx.new a o' hq with e | e
      · rw [x.data] at e; cases e
      · rw [ho] at e; cases e⟩
  have out' : ∀ {a : Addr} {o : Obj}, s.heap.get? a = some o → a ∉ wr → a ∉ wr' := fun {a o} ho hn hm => by
    rcases (hw' a hm).1 with h | h
    · exact hn h
    · rw [ho] at h; cases h
  have hB : ∀ {b : Addr} {o : Obj}, B b = some o → b ∉ wr := fun {b o} e hm => by rw [(hw b hm).2] at e; cases e
  refine ⟨m, oa, {
    old := fun b o e => c.keep b o (fun hm => by rw [(hw b hm).1] at e; cases e) (X.old b o e)
    os := c.os.trans X.os
    bare := c.bare X.bare
    gd := X.gd.trans hx.le
    data := hx.sub
    ns := let ⟨o, es, ep, e, r⟩ := X.ns; ⟨o, es, ep, c.keep _ o X.wr_loc e, r⟩
    nsF := let ⟨_, e⟩ := Ns_get X.ns; fre X.nsF e
    len := X.len
    loc := fun k x av h1 h2 => by
      obtain ⟨v, hv, hm⟩ := X.loc k x av h1 h2
      refine ⟨v, hv, ?_⟩
      cases av with
      | dat d => exact Rep.mono hx.le hm
      | raw u => exact hm
      | own ds =>
        obtain ⟨e, hf, items, hp, hr⟩ := hm
        exact ⟨e, let ⟨_, hg⟩ := hp; fre hf hg, items, hp.at fun o e' => c.keep _ o (X.wr_own h2) e', hr.mono hx.le⟩
    own := X.own
    cel := fun k x h1 => by
      obtain ⟨cc, v, hcc, hi, hf, hm⟩ := X.cel k x h1
      have hcw : cc ∉ wr := by
        cases hro : F.ro with
        | true => exact hc hro x (List.mem_of_getElem? h1) cc hcc
        | false =>
          intro hmem
          have := X.celB hro x (List.mem_of_getElem? h1) cc hcc
          obtain ⟨o, ho, _⟩ := hi
          unfold ov at this; rw [if_pos hmem, ho] at this; cases this
      exact ⟨cc, v, hcc, (let ⟨o, ho, hd⟩ := hi; ⟨o, c.keep _ o hcw ho, hd⟩), fun hr => let ⟨_, hg, _⟩ := hi; fre (hf hr) hg, fun av h2 => let ⟨u, e, hu⟩ := hm av h2; ⟨u, e, hu.mono hx.le⟩⟩
    base := fun b o e => by
      unfold ov at e
      split at e
      · exact e
      · exact c.keep b o (hB e) (X.base b o (by unfold ov; rw [if_neg (hB e)]; exact e))
    apart := fun b o e => by
      by_cases hb : b ∈ wr'
      · exact (hw' b hb).2
      · unfold ov at e; rw [if_neg hb] at e
        have e' : ov B wr s b = some o := by unfold ov; rw [if_neg (hB e)]; exact e
        cases hq : G' b with
        | none => rfl
        | some o' =>
          rcases hx.new b o' hq with h | h
          · rw [X.apart b o e'] at h; cases h
          · rw [X.base b o e'] at h; cases h
    gens := fun i x e => c.gens i x (hg i x e) (X.gens i x e)
    nsB := by
      have := X.nsB
      obtain ⟨o, ho⟩ := Ns_get X.ns
      unfold ov at this ⊢; rw [if_neg X.wr_loc] at this; rw [if_neg (out' ho X.wr_loc)]; exact this
    ownB := fun k ds h => by
      have := X.ownB k ds h
      have hlt := (List.getElem?_eq_some_iff.mp h).1
      have hlen := X.len
      obtain ⟨v, _, hq⟩ := X.loc k _ _ (List.getElem?_eq_getElem (by omega)) h
      obtain ⟨_, _, it, ⟨_, hp⟩, _⟩ := hq
      unfold ov at this ⊢; rw [if_neg (X.wr_own h)] at this; rw [if_neg (out' hp (X.wr_own h))]; exact this
    celB := fun hro x hx' cc hcc => by
      obtain ⟨k, hk⟩ := List.mem_iff_getElem?.mp hx'
      obtain ⟨c', v, hc', hi, _, _⟩ := X.cel k x hk
      rw [hcc] at hc'; cases hc'
      have := X.celB hro x hx' cc hcc
      obtain ⟨o, ho, _⟩ := hi
      have hcw : cc ∉ wr := fun hmem => by
        unfold ov at this; rw [if_pos hmem, ho] at this; cases this
      unfold ov at this ⊢; rw [if_neg hcw] at this; rw [if_neg (out' ho hcw)]; exact this }⟩

/-- the iterator's objects as they stand now -/
theorem St.reov {wr : List Addr} {s₁ : Shared} (hS : St Λ F env (ov B wr s₁) G gs vs cs s) (hh : ∀ b ∈ wr, ∃ o, s₁.heap.get? b = some o) : ov B wr s₁ = ov B wr s := by
  funext a
  unfold ov
  by_cases ha : a ∈ wr
  · rw [if_pos ha, if_pos ha]
    obtain ⟨o, ho⟩ := hh a ha
    have := hS.bk.base a o (by unfold ov; rw [if_pos ha]; exact ho)
    rw [ho, this]
  · rw [if_neg ha, if_neg ha]
theorem bk_back {wr : List Addr} {s₁ : Shared} {gs' : Array GenState} (x : Bk (ov B wr s₁) G gs' s) (hw : ∀ b ∈ wr, B b = none) (h : ∀ (i : Nat) (g : GenState), gs[i]? = some g → gs'[i]? = some g) : Bk B G gs s :=
  ⟨fun a o e => x.base a o (by unfold ov; rw [if_neg (fun hm => by rw [hw a hm] at e; cases e)]; exact e),
   fun a o e => x.apart a o (by unfold ov; rw [if_neg (fun hm => by rw [hw a hm] at e; cases e)]; exact e), fun i g e => x.gens i g (h i g e)⟩
theorem St.back {wr : List Addr} {s₁ : Shared} (hS : St Λ F env (ov B wr s₁) G gs vs cs s) (hw : ∀ b ∈ wr, B b = none) : St Λ F env B G gs vs cs s := by
  obtain ⟨m, oa, X⟩ := hS
  have le : ∀ {a : Addr}, (ov B wr s₁) a = none → B a = none := fun {a} h => by
    by_cases ha : a ∈ wr
    · exact hw a ha
    · unfold ov at h; rw [if_neg ha] at h; exact h
  exact ⟨m, oa, { X with
    base := (bk_back X.toBk hw fun _ _ e => e).base, apart := (bk_back X.toBk hw fun _ _ e => e).apart
    nsB := le X.nsB, ownB := fun k ds h => le (X.ownB k ds h), celB := fun hro x hx c hc => le (X.celB hro x hx c hc) }⟩

/-- a for, by what holds of the names ahead of each turn; Pb: what holds behind it -/
theorem Ex_for {target iter : Expr} {body orelse rest : List Stmt} {pos : Pos} {len : Nat} {items : Nat → AV} (J : Nat → List (Option AV) → List (Option AV) → Prop) (Pb : List (Option AV) → List (Option AV) → Prop)
    (hro : F.ro = false) (hit : Itb prog w Λ F n vs cs target iter len items) (h0 : J 0 vs cs)
    (hturn : ∀ i vs cs, i < len → J i vs cs → ∃ vs' cs', Asg prog w Λ F n vs cs target (items i) vs' cs' ∧ Ex prog w Λ F n vs' cs' body (fun o => match o with
      | .next vs cs => J (i + 1) vs cs | .cont vs cs => J (i + 1) vs cs | .brk vs cs => Pb vs cs | .ret av => P (.ret av)))
    (hend : ∀ vs cs, J len vs cs → Ex prog w Λ F n vs cs orelse (fun o => match o with | .next vs cs => Pb vs cs | .ret av => P (.ret av) | _ => False))
    (hrest : ∀ vs cs, Pb vs cs → Ex prog w Λ F n vs cs rest P)
    (hs : ∀ env x, foldedSetIterable iter env x = pure x := by intro _ _; rfl) : Ex prog w Λ F n vs cs (.For target iter body orelse pos :: rest) P := ⟨fun A env B G gs s E hr he hS => by
  refine wpAny_execs_cons' (wpAny_For (hit A env G s E _ hr he hS.v fun I wr gw T s1 G1 g1 x1 W T1 hwr hgw => ?_) (hs env))
  have hΛw : ∀ b ∈ wr, Λ.h.get? b = none := fun b hb => PH.none_of_sub (G := Λ.h.get?) hS.v.old (hwr b hb).1
  have hBw : ∀ b ∈ wr, B b = none := fun b hb => PH.none_of_sub hS.bk.base (hwr b hb).1
  have hgs : ∀ (i : Nat) (x : GenState), gs[i]? = some x → ¬ gw i := fun i x e hg => by
    have := (Array.getElem?_eq_some_iff.mp (hS.bk.gens i x e)).1
    have := hgw i hg
    omega
  have hloc : ∀ a o, s.heap.get? a = some o → a ∉ wr := fun a o e hm => by rw [(hwr a hm).1] at e; cases e
  have Sa := hS.grow g1 x1
  have S1 : St Λ F env (ov B wr s1) G1 gs vs cs s1 := by
    obtain ⟨m0, oa0, X0⟩ := hS
    have X : SB Λ F env B G1 gs vs cs s1 m0 oa0 := { X0.toSV.grow g1 x1, X0.toBk.grow g1 x1 with nsB := X0.nsB, ownB := X0.ownB, celB := X0.celB }
    have out : ∀ {a : Addr} {o : Obj}, s.heap.get? a = some o → B a = none → ov B wr s1 a = none := fun {a o} ho hb => by
      unfold ov; rw [if_neg (hloc a o ho)]; exact hb
    refine ⟨m0, oa0, { X with
      base := fun b o e => by
        unfold ov at e
        split at e
        · exact e
        · exact X.base b o e
      apart := fun b o e => by
        by_cases hb : b ∈ wr
        · exact (hwr b hb).2
        · unfold ov at e; rw [if_neg hb] at e; exact X.apart b o e
      nsB := let ⟨_, e⟩ := Ns_get X0.ns; out e X0.nsB
      ownB := fun k ds h => by
        have hlt := (List.getElem?_eq_some_iff.mp h).1
        have hlen := X0.len
        obtain ⟨v, _, hq⟩ := X0.loc k _ _ (List.getElem?_eq_getElem (by omega)) h
        obtain ⟨_, _, it, ⟨_, hp⟩, _⟩ := hq
        exact out hp (X0.ownB k ds h)
      celB := fun hro x hx c hc => by
        obtain ⟨k, hk⟩ := List.mem_iff_getElem?.mp hx
        obtain ⟨c', v, hc', ⟨o, ho, _⟩, _, _⟩ := X0.cel k x hk
        rw [hc] at hc'; cases hc'
        exact out ho (X0.celB hro x hx c hc) }⟩
  refine codeAny_forLoop_any (fun k s' => ∃ i wr vs' cs' G', k = len - i ∧ i ≤ len ∧ G.le G' ∧ St Λ F env (ov B wr s') G' gs vs' cs' s' ∧ T i wr G' s' ∧ J i vs' cs' ∧ (∀ b ∈ wr, G' b = none) ∧ (∀ b ∈ wr, Λ.h.get? b = none ∧ B b = none)) ?_ (len - 0)
    ⟨0, wr, vs, cs, G1, rfl, Nat.zero_le _, x1.le, S1, T1, h0, fun b hb => (hwr b hb).2, fun b hb => ⟨hΛw b hb, hBw b hb⟩⟩
  clear T1 S1 hΛw hBw hwr hloc
  rintro k s2 ⟨i, wr, vs2, cs2, G2, rfl, hi, hl2, S2, T2, hJ, hw2, hwB⟩
  by_cases hlt : i < len
  · refine' wpAny_mono (W.item i wr G2 s2 _ _ hlt S2.v.p0 T2 hw2 ?main) ?tail fun _ _ x => x
    case tail =>
      intro r s3 h
      cases r with
      | none => exact h.elim
      | some v => exact h
    case main =>
      intro v s3 G3 wr3 c3 x3 T3 hw3 ok3
      have S3 := S2.moved c3 x3 hwB hw3 hgs (fun h => by rw [hro] at h; cases h)
      have hwB3 : ∀ b ∈ wr3, Λ.h.get? b = none ∧ B b = none := fun b hb => by
        rcases (hw3 b hb).1 with h | h
        · exact hwB b h
        · refine ⟨PH.none_of_sub (G := Λ.h.get?) S2.v.old h, ?_⟩
          cases hq : B b with
          | none => rfl
          | some o =>
            have hnw : b ∉ wr := fun hm => by rw [(hwB b hm).2] at hq; cases hq
            rw [S2.bk.base b o (by unfold ov; rw [if_neg hnw]; exact hq)] at h; cases h
      have S3g := S3.regen
      obtain ⟨vs3, cs3, hasg, hbody⟩ := hturn i vs2 cs2 hlt hJ
      refine hasg A env _ G3 _ s3 _ _ v hr he S3g ok3 fun s4 G4 l4 S4 => ?_
      refine wpAny_mono (hbody.run A env _ G4 _ s4 _ hr he S4) ?_ fun _ _ x => x
      rintro f s5 ⟨o, hP, hpo⟩
      have back : ∀ {G5 : PH} {vs5 cs5 : List (Option AV)}, G4.le G5 → St Λ F env (ov B wr3 s3) G5 s3.gens vs5 cs5 s5 → St Λ F env (ov B wr3 s5) G5 gs vs5 cs5 s5 ∧ T (i + 1) wr3 G5 s5 ∧ ∀ b ∈ wr3, G5 b = none := fun {G5 vs5 cs5} l5 S5 => by
        have hh : ∀ b ∈ wr3, ∃ o, s3.heap.get? b = some o := W.here _ _ _ _ T3
        have e := S5.reov hh
        have hn : ∀ b ∈ wr3, G5 b = none := fun b hb => by
          obtain ⟨o, ho⟩ := hh b hb
          exact S5.bk.apart b o (by unfold ov; rw [if_pos hb]; exact ho)
        exact ⟨e ▸ (S5.gensBack fun i g e => S3.bk.gens i g e), W.frame _ _ _ _ _ _ T3 (l4.trans l5) S5.v.data S5.v.p0 hn (fun b hb o ho => S5.bk.base b o (by unfold ov; rw [if_pos hb]; exact ho)) (fun g x _ e => S5.bk.gens g x e), hn⟩
      cases o with
      | next vs5 cs5 =>
        obtain ⟨rfl, G5, l5, S5⟩ := hpo
        obtain ⟨a, b, c⟩ := back l5 S5
        exact ⟨len - (i + 1), by omega, i + 1, wr3, vs5, cs5, G5, rfl, hlt, (hl2.trans x3.le).trans (l4.trans l5), a, b, hP, c, hwB3⟩
      | cont vs5 cs5 =>
        obtain ⟨rfl, G5, l5, S5⟩ := hpo
        obtain ⟨a, b, c⟩ := back l5 S5
        exact ⟨len - (i + 1), by omega, i + 1, wr3, vs5, cs5, G5, rfl, hlt, (hl2.trans x3.le).trans (l4.trans l5), a, b, hP, c, hwB3⟩
      | brk vs5 cs5 =>
        obtain ⟨rfl, G5, l5, S5⟩ := hpo
        obtain ⟨a, _, _⟩ := back l5 S5
        exact wpAny_mono ((hrest vs5 cs5 hP).run A env B G5 gs s5 E hr he (a.back fun b hb => (hwB3 b hb).2)) (fun f s6 ⟨o, a, b⟩ => ⟨o, a, b.mono ((hl2.trans x3.le).trans (l4.trans l5))⟩) fun _ _ x => x
      | ret av =>
        obtain ⟨v5, rfl, G5, l5, p5, b5, ok5⟩ := hpo
        exact ⟨_, hP, v5, rfl, G5, (hl2.trans x3.le).trans (l4.trans l5), p5, bk_back b5 (fun b hb => (hwB3 b hb).2) (fun i g e => S3.bk.gens i g e), ok5⟩
  · obtain rfl : i = len := by omega
    refine' wpAny_mono (W.done wr G2 s2 _ _ S2.v.p0 T2 hw2 ?main) ?tail fun _ _ x => x
    case tail =>
      intro r s3 h
      obtain ⟨rfl, h⟩ := h
      exact h
    case main =>
      intro s3 c3 sub3
      have x3 : Gx s2 G2 G2 s3 := ⟨.refl _, sub3, fun _ _ e => .inl e⟩
      have S3 := (S2.moved (wr' := wr) c3 x3 hwB (fun b hb => ⟨.inl hb, hw2 b hb⟩) hgs (fun h => by rw [hro] at h; cases h)).back fun b hb => (hwB b hb).2
      refine wpAny_mono ((hend vs2 cs2 hJ).run A env B G2 gs s3 _ hr he S3) ?_ fun _ _ x => x
      rintro f s4 ⟨o, hP, hpo⟩
      cases o with
      | next vs5 cs5 =>
        obtain ⟨rfl, G5, l5, S5⟩ := hpo
        exact wpAny_mono ((hrest vs5 cs5 hP).run A env B G5 gs s4 E hr he S5) (fun f s6 ⟨o, a, b⟩ => ⟨o, a, b.mono (hl2.trans l5)⟩) fun _ _ x => x
      | cont vs5 cs5 => exact hP.elim
      | brk vs5 cs5 => exact hP.elim
      | ret av =>
        obtain ⟨v5, rfl, G5, l5, r⟩ := hpo
        exact ⟨_, hP, v5, rfl, G5, hl2.trans l5, r⟩⟩
end
end Mine
end
section
open PySem PySem.W PyProof.Rows PySem.Calls
set_option Elab.async false
set_option linter.unusedVariables false
namespace Mine

section
variable {prog : Program} {w : World} {Λ : Glo} {F : FS} {n : Nat} {vs cs : List (Option AV)}

theorem Chg.of_keep {wr : List Addr} {s : Shared} {h' : Heap} {tk : Nat} (hk : ∀ b o, b ∉ wr → s.heap.get? b = some o → h'.get? b = some o) : Chg wr (fun _ => False) s { s with heap := h', toks := tk } :=
  ⟨hk, fun _ _ _ e => e, id, rfl⟩

theorem Itr.of_walks {A : Around} (hA : A.handled = none) {target : Expr} {I : Addr} {fp wr : List Addr} {len : Nat} {items : Nat → AV} {PP : Nat → Value → Prop} {StW : Nat → Heap → Prop} {G0 : PH}
    (W : ∀ A : Around, A.handled = none → Walks prog w A I fp wr len PP StW) (hw : ∀ b ∈ wr, G0 b = none)
    (hgo : ∀ (i : Nat) (A : Around) (s : Shared) (v : Value) (Q : Unit → Shared → Prop) (E : Value → Shared → Prop), StW i s.heap → Q () s → wpAny (model prog w) A (letOwnedTupleGo target (.ref I) v) Q E s)
    (hhere : ∀ i h, StW i h → ∀ b ∈ wr, ∃ o, h.get? b = some o) (hfp : ∀ b ∈ fp, b ∈ wr ∨ ∃ o, G0 b = some o) (hP : ∀ i v, PP i v → (items i).ok G0 v) :
    Itr prog w Λ A target I (fun _ => False) len items (fun i wr' G s => wr' = wr ∧ G0.le G ∧ G.sub s.heap ∧ StW i s.heap) where
  frame := fun i wr' G G' s s' ⟨h0, h1, h2, h3⟩ hl hs _ hn hk _ => ⟨h0, h1.trans hl, hs, (W {} rfl).frame i _ _ h3 fun b hb o e => by
    subst h0
    rcases hfp b hb with h | ⟨o', h⟩
    · exact hk b h o e
    · have := h2 b o' (h1 b o' h); rw [e] at this; cases this; exact hs b o (hl b o (h1 b o h))⟩
  here := fun i wr' G s ⟨h0, _, _, h3⟩ => by subst h0; exact hhere i _ h3
  item := fun i wr' G s E Q hi hp ⟨h0, h1, h2, h3⟩ h4 hQ => by
    subst h0
    refine (W A hA).item i s _ _ hi h3 fun v h' tk hPv hst hk => ?_
    have hs' : G.sub h' := fun a o e => hk a o (fun hm => by rw [h4 a hm] at e; cases e) (h2 a o e)
    exact hgo (i + 1) A _ v _ _ hst (hQ v _ G wr' (Chg.of_keep hk) ⟨.refl _, hs', fun _ _ e => .inl e⟩ ⟨rfl, h1, hs', hst⟩ (fun b hb => ⟨.inl hb, h4 b hb⟩) ((hP i v hPv).mono h1))
  done := fun wr' G s E Q hp ⟨h0, h1, h2, h3⟩ h4 hQ => by
    subst h0
    exact (W A hA).done s _ _ h3 fun h' tk hk => ⟨rfl, hQ _ (Chg.of_keep hk) fun a o e => hk a o (fun hm => by rw [h4 a hm] at e; cases e) (h2 a o e)⟩
  self := fun i wr' G s E Q ⟨_, _, _, h3⟩ hQ => (W A hA).self i s Q E h3 hQ

/-- a target that takes no owned pair apart -/
noncomputable def plainTarget : Expr → Bool
  | .Tuple .. | .List .. => false
  | _ => true
theorem go_plain {target : Expr} (h : plainTarget target = true) {it v : Value} {A : Around} {s : Shared} {Q : Unit → Shared → Prop} {E : Value → Shared → Prop} (hQ : Q () s) : wpAny (model prog w) A (letOwnedTupleGo target it v) Q E s := by
  have : letOwnedTupleGo target it v = pure () := by cases target <;> first | rfl | cases h
  rw [this]; exact wpAny_pure hQ
theorem go_fields {target : Expr} {I : Addr} {T : String} {fs : Array Value} {v : Value} {A : Around} {s : Shared} {Q : Unit → Shared → Prop} {E : Value → Shared → Prop}
    (ho : ∃ o, s.heap.get? I = some o ∧ o.cls = .type T ∧ o.data = .fields fs)
    (hT : (["enumerate", "zip", "dict_itemiterator", "dict_reverseitemiterator", "odict_iterator", "itertools.zip_longest", "itertools.pairwise"].contains T) = false) (hQ : Q () s) :
    wpAny (model prog w) A (letOwnedTupleGo target (.ref I) v) Q E s := by
  obtain ⟨o, ho, hc, hd⟩ := ho
  by_cases hp : plainTarget target = true
  · exact go_plain hp hQ
  · have key : wpAny (model prog w) A (do
        let (.ref r, .ref a) := ((Value.ref I), v) | return
        let o ← load r
        match o.cls, o.data with
        | .type n, .fields vs =>
          if ["enumerate", "zip", "dict_itemiterator", "dict_reverseitemiterator", "odict_iterator", "itertools.zip_longest", "itertools.pairwise"].contains n && vs[0]? == some (rawInt a) then
            rule "for.unpacks-the-owned-tuple"
            updateField r 0 .none
        | _, _ => pure ()) Q E s := by
      cases v with
      | ref a =>
        refine wpAny_bind (wpAny_load ho ?_)
        rw [hc, hd]
        simp only [hT, Bool.false_and, Bool.false_eq_true, if_false]
        exact wpAny_pure hQ
      | _ => exact wpAny_pure hQ
    unfold letOwnedTupleGo
    cases target with
    | Tuple => exact key
    | List => exact key
    | _ => exact absurd rfl hp

theorem fresh_push {s : Shared} {o : Obj} {G : PH} (hG : G.sub s.heap) : G s.heap.objs.size = none := PH.none_of_sub hG (get?_size _)
theorem getD_of {l : List PyData} {i : Nat} {d : PyData} (h : l[i]? = some d) : l.getD i .none = d := by simp [List.getD, h]

/-- the items of a list -/
theorem Itb_list {target e : Expr} {ds : List PyData} (h : Ev prog w Λ F n vs cs e (dL ds)) : Itb prog w Λ F n vs cs target e ds.length (fun i => .dat (ds.getD i .none)) := fun A env G s E Q hr he hV hQ =>
  h.seq hr he hV fun v s1 G1 g1 x1 V1 o1 => by
    obtain ⟨a, items, rfl, hGa, hl, hA⟩ := repList V1.data o1
    refine wpAny_pyIter_list hl ?_
    have g2 : Grow s1 { s1 with heap := s1.heap.push { cls := .type "list_iterator", data := .fields #[.ref a, .int 0 0] } } := .push
    have hne : a ≠ s1.heap.objs.size := by obtain ⟨o, ho, _⟩ := hl; exact Nat.ne_of_lt (Heap.lt_size ho)
    have hz : items.size = ds.length := by have := hA.length; simpa using this
    have hnone : s.heap.get? s1.heap.objs.size = none := by
      cases hq : s.heap.get? s1.heap.objs.size with
      | none => rfl
      | some o => have := g1.keep _ _ hq; rw [get?_size] at this; cases this
    refine hQ _ [s1.heap.objs.size] (fun _ => False) _ _ G1 (g1.trans g2) (x1.after g2)
      (Itr.of_walks hr.handled (G0 := G1) (fp := [s1.heap.objs.size, a]) (len := ds.length) (fun A hA' => hz ▸ Walks.list hA' _ a hne items) (fun b hb => by simp at hb; subst hb; exact fresh_push V1.data (o := default)) ?_ ?_ ?_ ?_) ?_ ?_ (fun _ h => h.elim)
    · intro i A s v Q E hst hq
      obtain ⟨o, ho, hc, hd⟩ := hst.1
      exact go_fields ⟨o, ho, hc, hd⟩ (by decide) hq
    · intro i h hst b hb
      simp at hb; subst hb
      obtain ⟨o, ho, _⟩ := hst.1
      exact ⟨o, ho⟩
    · intro b hb
      simp at hb
      rcases hb with rfl | rfl
      · exact .inl (by simp)
      · exact .inr (by cases hq : G1 b with
          | none => exact absurd hq hGa
          | some o => exact ⟨o, rfl⟩)
    · intro i v hv
      obtain ⟨d, hd, hR⟩ := hA.get i v (by simpa using hv)
      rw [getD_of hd]; exact hR
    · exact ⟨rfl, .refl _, fun b o e => g2.keep b o (V1.data b o e), ⟨⟨_, Heap.get?_push_size _ rfl, rfl, rfl⟩, hl.push _⟩⟩
    · intro b hb
      simp at hb; subst hb
      exact ⟨hnone, fresh_push V1.data (o := default)⟩
/-- the items of a tuple -/
theorem Itb_tuple {target e : Expr} {ds : List PyData} (h : Ev prog w Λ F n vs cs e (dT ds)) : Itb prog w Λ F n vs cs target e ds.length (fun i => .dat (ds.getD i .none)) := fun A env G s E Q hr he hV hQ =>
  h.seq hr he hV fun v s1 G1 g1 x1 V1 o1 => by
    obtain ⟨a, items, rfl, hGa, hl, hA⟩ := repTuple V1.data o1
    refine wpAny_pyIter_tuple hl ?_
    have g2 : Grow s1 { s1 with heap := s1.heap.push { cls := .type "tuple_iterator", data := .fields #[.ref a, .int 0 0] } } := .push
    have hne : a ≠ s1.heap.objs.size := by obtain ⟨o, ho, _⟩ := hl; exact Nat.ne_of_lt (Heap.lt_size ho)
    have hz : items.size = ds.length := by have := hA.length; simpa using this
    have hnone : s.heap.get? s1.heap.objs.size = none := by
      cases hq : s.heap.get? s1.heap.objs.size with
      | none => rfl
      | some o => have := g1.keep _ _ hq; rw [get?_size] at this; cases this
    refine hQ _ [s1.heap.objs.size] (fun _ => False) _ _ G1 (g1.trans g2) (x1.after g2)
      (Itr.of_walks hr.handled (G0 := G1) (fp := [s1.heap.objs.size, a]) (len := ds.length) (fun A hA' => hz ▸ Walks.tuple hA' _ a hne items) (fun b hb => by simp at hb; subst hb; exact fresh_push V1.data (o := default)) ?_ ?_ ?_ ?_) ?_ ?_ (fun _ h => h.elim)
    · intro i A s v Q E hst hq
      obtain ⟨o, ho, hc, hd⟩ := hst.1
      exact go_fields ⟨o, ho, hc, hd⟩ (by decide) hq
    · intro i h hst b hb
      simp at hb; subst hb
      obtain ⟨o, ho, _⟩ := hst.1
      exact ⟨o, ho⟩
    · intro b hb
      simp at hb
      rcases hb with rfl | rfl
      · exact .inl (by simp)
      · exact .inr (by cases hq : G1 b with
          | none => exact absurd hq hGa
          | some o => exact ⟨o, rfl⟩)
    · intro i v hv
      obtain ⟨d, hd, hR⟩ := hA.get i v (by simpa using hv)
      rw [getD_of hd]; exact hR
    · exact ⟨rfl, .refl _, fun b o e => g2.keep b o (V1.data b o e), ⟨⟨_, Heap.get?_push_size _ rfl, rfl, rfl⟩, hl.push _⟩⟩
    · intro b hb
      simp at hb; subst hb
      exact ⟨hnone, fresh_push V1.data (o := default)⟩

/-- a range's ints -/
theorem range_walk {target : Expr} {A : Around} (hA : A.handled = none) {G : PH} {s s1 : Shared} {r : Addr} {a b c : Int} {t u v : Tok} {E : Value → Shared → Prop} {Q : Value → Shared → Prop} {len : Nat} {items : Nat → AV} {G1 : PH}
    (hr : IsRange s1.heap r a b c t u v) (hsm : Builtin.Range.small a b c = true) (hlen : Builtin.Range.rangeSize a b c = (len : Int)) (hit : ∀ i : Nat, items i = dI (a + i * c)) (g1 : Grow s s1) (x1 : Gx s G G1 s1)
    (hQ : ∀ I wr gw T s' G', Grow s s' → Gx s G G' s' → Itr prog w Λ A target I gw len items T → T 0 wr G' s' → (∀ b ∈ wr, s.heap.get? b = none ∧ G' b = none) → (∀ g, gw g → s.gens.size ≤ g) → Q (.ref I) s') :
    wpAny (model prog w) A (pyIter (.ref r)) Q E s1 := by
  refine wpAny_pyIter_range hr hsm ?_
  rw [hlen]
  have g2 : Grow s1 { s1 with heap := s1.heap.push { cls := .type "range_iterator", data := .fields #[rawInt a, rawInt (len : Int), rawInt c] } } := .push
  have hnone : s.heap.get? s1.heap.objs.size = none := by
    cases hq : s.heap.get? s1.heap.objs.size with
    | none => rfl
    | some o => have := g1.keep _ _ hq; rw [get?_size] at this; cases this
  have hG : G1 s1.heap.objs.size = none := fresh_push x1.sub (o := default)
  refine hQ _ [s1.heap.objs.size] (fun _ => False) _ _ G1 (g1.trans g2) (x1.after g2)
    (Itr.of_walks hA (G0 := G1) (fp := [s1.heap.objs.size]) (len := len) (fun A hA' => Walks.range hA' _ a c len) (fun b hb => by simp at hb; subst hb; exact hG) ?_ ?_ ?_ ?_) ?_ ?_ (fun _ h => h.elim)
  · intro i A s v Q E hst hq
    exact go_fields ⟨_, hst, rfl, rfl⟩ (by decide) hq
  · intro i h hst b hb
    simp at hb; subst hb
    exact ⟨_, hst⟩
  · intro b hb
    exact .inl hb
  · rintro i v ⟨t, rfl⟩
    rw [hit]; exact Rep.int _ _
  · refine ⟨rfl, .refl _, fun b o e => g2.keep b o (x1.sub b o e), ?_⟩
    show IsRangeIter _ _ (a + ((0 : Nat) : Int) * c) ((len : Int) - ((0 : Nat) : Int)) c
    have e1 : a + ((0 : Nat) : Int) * c = a := by simp
    have e2 : (len : Int) - ((0 : Nat) : Int) = (len : Int) := by simp
    rw [e1, e2]
    exact Heap.get?_push_size _ rfl
  · intro b hb
    simp at hb; subst hb
    exact ⟨hnone, hG⟩
theorem fitsLong {i : Int} (h1 : -1152921504606846976 ≤ i) (h2 : i ≤ 1152921504606846976) : Builtin.Range.rangeFitsLong i = true := by
  unfold Builtin.Range.rangeFitsLong
  rw [Bool.and_eq_true]
  exact ⟨decide_eq_true (by omega), decide_eq_true (by omega)⟩
theorem Itb_range1 {target f e : Expr} {pos : Pos} {m : Nat} (h1 : Ev prog w Λ F n vs cs f (.raw (.type "range"))) (h2 : Ev prog w Λ F n vs cs e (dI m)) (hm : m < 2 ^ 60)
    (he : ∀ env, eval (.Call f [e] [] pos) env = (do callWith pos (← eval f env) [] (backTo pos (starEach [e] env)) (backToKw pos (keywordEach [] env))) := by intro _; rfl)
    (hs : ∀ env, starEach [e] env = (false, eval e env) :: starEach [] env := by intro _; rfl) :
    Itb prog w Λ F n vs cs target (.Call f [e] [] pos) m (fun i => dI i) := fun A env G s E Q hr hen hV hQ => by
  refine Call_ (h1.seq hr hen hV fun u s1 G1 g1 x1 V1 o1 => ?_) (he env)
  obtain rfl : u = _ := o1
  refine callWith_type1 (args_cons (h2.seq hr hen V1 fun v s2 G2 g2 x2 V2 o2 => args_nil ?_) (hs env)) (hs env) rfl
  obtain ⟨t, rfl⟩ := Rep.inv_int o2
  refine call_range_1 ?_
  have g3 : Grow s2 { s2 with heap := s2.heap.push { cls := .type "range", data := .fields #[.int 0 s2.toks, .int (m : Int) t, .int 1 (s2.toks + 1)] }, toks := s2.toks + 1 + 1 } := .of fun _ _ e => Heap.get?_push_of_some _ e
  refine range_walk hr.handled (Heap.get?_push_size _ rfl) ?_ ?_ (fun i => by simp) ((g1.trans g2).trans g3) ((x1.trans g1 x2).after g3) hQ
  · have hz : Builtin.Range.rangeSize 0 (m : Int) 1 = (m : Int) := by
      unfold Builtin.Range.rangeSize
      rw [if_pos (by omega)]
      split <;> omega
    unfold Builtin.Range.small
    rw [hz, fitsLong (by omega) (by omega), fitsLong (by omega) (by omega), fitsLong (by omega) (by omega), if_pos (by omega), fitsLong (by omega) (by omega)]
    simp
  · unfold Builtin.Range.rangeSize
    rw [if_pos (by omega)]
    split <;> omega
/-- .. downwards, to nought -/
theorem Itb_rangeDown {target f e1 e2 e3 : Expr} {pos : Pos} {m : Nat} (h1 : Ev prog w Λ F n vs cs f (.raw (.type "range"))) (h2 : Ev prog w Λ F n vs cs e1 (dI ((m : Int) - 1))) (h3 : Ev prog w Λ F n vs cs e2 (dI (-1))) (h4 : Ev prog w Λ F n vs cs e3 (dI (-1))) (hm : m < 2 ^ 59)
    (he : ∀ env, eval (.Call f [e1, e2, e3] [] pos) env = (do callWith pos (← eval f env) [] (backTo pos (starEach [e1, e2, e3] env)) (backToKw pos (keywordEach [] env))) := by intro _; rfl)
    (q1 : ∀ env, starEach [e1, e2, e3] env = (false, eval e1 env) :: starEach [e2, e3] env := by intro _; rfl) (q2 : ∀ env, starEach [e2, e3] env = (false, eval e2 env) :: starEach [e3] env := by intro _; rfl)
    (q3 : ∀ env, starEach [e3] env = (false, eval e3 env) :: starEach [] env := by intro _; rfl) :
    Itb prog w Λ F n vs cs target (.Call f [e1, e2, e3] [] pos) m (fun i => dI ((m : Int) - 1 - i)) := fun A env G s E Q hr hen hV hQ => by
  refine Call_ (h1.seq hr hen hV fun u s1 G1 g1 x1 V1 o1 => ?_) (he env)
  obtain rfl : u = _ := o1
  refine callWith_type1 (args_cons (h2.seq hr hen V1 fun v s2 G2 g2 x2 V2 o2 => args_cons (h3.seq hr hen V2 fun v3 s3 G3 g3 x3 V3 o3 => args_cons (h4.seq hr hen V3 fun v4 s4 G4 g4 x4 V4 o4 => args_nil ?_) (q3 env)) (q2 env)) (q1 env)) (q1 env) (by rw [q2, q3]; rfl)
  obtain ⟨t, rfl⟩ := Rep.inv_int o2
  obtain ⟨t3, rfl⟩ := Rep.inv_int o3
  obtain ⟨t4, rfl⟩ := Rep.inv_int o4
  refine call_range_3 (by decide) ?_ (.inl (PyProof.noPylong_small (by decide)))
  have g5 : Grow s4 { s4 with heap := s4.heap.push { cls := .type "range", data := .fields #[.int ((m : Int) - 1) t, .int (-1) t3, .int (-1) t4] }, toks := s4.toks } := .of fun _ _ e => Heap.get?_push_of_some _ e
  refine range_walk hr.handled (Heap.get?_push_size _ rfl) ?_ ?_ (fun i => by congr 2; omega) ((((g1.trans g2).trans g3).trans g4).trans g5) ((((x1.trans g1 x2).trans (g1.trans g2) x3).trans ((g1.trans g2).trans g3) x4).after g5) hQ
  · have hz : Builtin.Range.rangeSize ((m : Int) - 1) (-1) (-1) = (m : Int) := by
      unfold Builtin.Range.rangeSize
      rw [if_neg (by omega), show (- -1 : Int) = 1 from rfl]
      split <;> omega
    unfold Builtin.Range.small
    rw [hz, fitsLong (by omega) (by omega), fitsLong (by omega) (by omega), fitsLong (by omega) (by omega), if_neg (by omega), fitsLong (by omega) (by omega)]
    simp
  · unfold Builtin.Range.rangeSize
    rw [if_neg (by omega), show (- -1 : Int) = 1 from rfl]
    split <;> omega
end
end Mine
end
section
open PySem PySem.W PyProof.Rows PySem.Calls
set_option Elab.async false
set_option linter.unusedVariables false
namespace Mine

section
variable (prog : Program) (w : World) (Λ : Glo) (F : FS) (n : Nat) (vs cs : List (Option AV))
/-- an expression that gives av and changes the frame's own lists -/
structure EvS (e : Expr) (av : AV) (vs' cs' : List (Option AV)) : Prop where
  run : ∀ (A : Around) (env : Env) (B G : PH) (gs : Array GenState) (s : Shared) (E : Value → Shared → Prop), Rm n A → EnvOk F env → St Λ F env B G gs vs cs s →
    wpAny (model prog w) A (eval e env) (fun v s' => ∃ G', G.le G' ∧ St Λ F env B G' gs vs' cs' s' ∧ av.ok G' v) E s
noncomputable def AsgL (targets : List Expr) (avs : List AV) (vs' cs' : List (Option AV)) : Prop :=
  ∀ (A : Around) (env : Env) (B G : PH) (gs : Array GenState) (s : Shared) (E : Value → Shared → Prop) (Q : Unit → Shared → Prop) (us : List Value), Rm n A → EnvOk F env → St Λ F env B G gs vs cs s → OkAll G us avs →
    (∀ s' G', G.le G' → St Λ F env B G' gs vs' cs' s' → Q () s') → wpAny (model prog w) A (assignInOrder ((assignEach targets env).map (·.2)) us) Q E s
end

section
variable {prog : Program} {w : World} {Λ : Glo} {F : FS} {n : Nat} {vs cs vs' cs' : List (Option AV)} {P : Out → Prop}

theorem Ev.toS {e : Expr} {av : AV} (h : Ev prog w Λ F n vs cs e av) : EvS prog w Λ F n vs cs e av vs cs := ⟨fun A env B G gs s E hr he hS =>
  h.seq hr he hS.v fun v s1 G1 g1 x1 V1 o1 => ⟨G1, x1.le, hS.grow g1 x1, o1⟩⟩

theorem AsgL_nil : AsgL prog w Λ F n vs cs [] [] vs cs := fun A env B G gs s E Q us hr he hS ok h => by
  cases ok; exact wpAny_pure (h s G (.refl _) hS)
theorem AsgL_cons {t : Expr} {ts : List Expr} {a : AV} {as : List AV} {vs1 cs1 : List (Option AV)} (h1 : Asg prog w Λ F n vs cs t a vs1 cs1) (h2 : AsgL prog w Λ F n vs1 cs1 ts as vs' cs')
    (hs : ∀ env, assignEach (t :: ts) env = (false, assign t env) :: assignEach ts env := by intro _; rfl) : AsgL prog w Λ F n vs cs (t :: ts) (a :: as) vs' cs' := fun A env B G gs s E Q us hr he hS ok h => by
  cases ok with
  | cons o1 o2 =>
    rw [hs env]
    show wpAny _ A (do holding _ (assign t env _); assignInOrder _ _) Q E s
    refine wpAny_bind (wpAny_holding (h1 A env B G gs s E _ _ hr he hS o1 fun s1 G1 l1 S1 => ?_))
    exact h2 A env B G1 gs s1 E Q _ hr he S1 (o2.mono l1) fun s2 G2 l2 S2 => h s2 G2 (l1.trans l2) S2
theorem okAll_of {G : PH} {us : List Value} {ds : List PyData} (h : RepAll G us ds) : OkAll G us (ds.map AV.dat) :=
  h.ind (M := fun us ds => OkAll G us (ds.map AV.dat)) .nil fun a _ ih => .cons a ih
theorem Asg_tuple {elts : List Expr} {k : Nat} {pos : Pos} {ds : List PyData} (h : AsgL prog w Λ F n vs cs elts (ds.map .dat) vs' cs') (hn : ∀ env, (assignEach elts env).length = ds.length := by intro _; rfl)
    (hst : ∀ env, (assignEach elts env).findIdx? (·.1) = none := by intro _; rfl) : Asg prog w Λ F n vs cs (.Tuple elts k pos) (dT ds) vs' cs' := fun A env B G gs s E Q v hr he hS ok hQ => by
  obtain ⟨a, items, rfl, _, ht, hA⟩ := repTuple hS.v.data ok
  have hz : items.size = ds.length := by have := hA.length; simpa using this
  refine assign_Tuple_tuple hr.handled ht (by rw [hz]; exact hn env) (hst env) fun h' hx => ?_
  have g : Grow s { s with heap := h' } := ⟨fun b o e => hx b o (Nat.ne_of_lt (Heap.lt_size e)) e, fun _ _ e => e, id, rfl⟩
  exact h A env B G gs _ E Q _ hr he (hS.grow g (.refl hS.v.data g)) (okAll_of hA) hQ

/-! assignments by them -/
theorem Ex_assignS {target e : Expr} {pos : Pos} {rest : List Stmt} {av : AV} {vs1 cs1 : List (Option AV)} (h1 : EvS prog w Λ F n vs cs e av vs1 cs1) (h2 : Asg prog w Λ F n vs1 cs1 target av vs' cs') (h3 : Ex prog w Λ F n vs' cs' rest P)
    (hs : ∀ env, swapsWithSole [target] e pos.line env = pure false := by intro _; rfl) (hw : ∀ env, swappedStores [target] e env = pure none := by intro _; rfl)
    (ha : ∀ env, assignEach [target] env = [(false, assign target env)] := by intro _; rfl) : Ex prog w Λ F n vs cs (.Assign [target] e pos :: rest) P := ⟨fun A env B G gs s E hr he hS => by
  refine wpAny_execs_cons' ?_
  rw [exec_Assign]
  refine wpAny_bind (wpAny_standAt ?_)
  rw [hs env]
  refine wpAny_bind (wpAny_pure ?_)
  rw [if_neg (by decide)]
  refine wpAny_bind (wpAny_mono (h1.run A env B G gs s E hr he hS) ?_ fun _ _ x => x)
  rintro v s1 ⟨G1, l1, S1, o1⟩
  rw [hw env]
  refine wpAny_bind (wpAny_pure ?_)
  rw [ha env]
  show wpAny _ A (do assignAll v [assign target env]; pure Flow.next) _ E s1
  refine wpAny_bind (h2 A env B G1 gs s1 E _ v hr he S1 o1 fun s2 G2 l2 S2 => wpAny_pure ?_)
  exact wpAny_mono (h3.run A env B G2 gs s2 E hr he S2) (fun f s3 ⟨o, a, b⟩ => ⟨o, a, b.mono (l1.trans l2)⟩) fun _ _ x => x⟩
theorem Ex_assignT {elts : List Expr} {k : Nat} {tpos pos : Pos} {e : Expr} {rest : List Stmt} {ds : List PyData} (h1 : Ev prog w Λ F n vs cs e (dT ds)) (h2 : AsgL prog w Λ F n vs cs elts (ds.map .dat) vs' cs') (h3 : Ex prog w Λ F n vs' cs' rest P)
    (hs : ∀ env, swapsWithSole [.Tuple elts k tpos] e pos.line env = pure false := by intro _; rfl) (hw : ∀ env, swappedStores [.Tuple elts k tpos] e env = pure none := by intro _; rfl)
    (hn : ∀ env, (assignEach elts env).length = ds.length := by intro _; rfl) (hst : ∀ env, (assignEach elts env).findIdx? (·.1) = none := by intro _; rfl) :
    Ex prog w Λ F n vs cs (.Assign [.Tuple elts k tpos] e pos :: rest) P := Ex_assignS h1.toS (Asg_tuple h2 hn hst) h3 hs hw (fun _ => rfl)

/-! a call for its deed -/
theorem nr_none (G : PH) (v : Value) (h : (AV.dat .none).ok G v) (a : Addr) : v ≠ .ref a := by obtain rfl := Rep.inv_none h; nofun
theorem nr_str {x : Str} (G : PH) (v : Value) (h : (AV.dat (.str x)).ok G v) (a : Addr) : v ≠ .ref a := by obtain ⟨t, rfl⟩ := Rep.inv_str h; nofun
theorem Ex_expr {e : Expr} {pos : Pos} {rest : List Stmt} {av : AV} (h1 : EvS prog w Λ F n vs cs e av vs' cs') (h3 : Ex prog w Λ F n vs' cs' rest P)
    (hf : F.fit = true) (hnr : ∀ G v, av.ok G v → ∀ a, v ≠ .ref a) (hs : ∀ env, swapsWith e none pos.line env = pure false := by intro _; rfl) : Ex prog w Λ F n vs cs (.Expr e pos :: rest) P := ⟨fun A env B G gs s E hr he hS => by
  refine wpAny_execs_cons' ?_
  have hi : interactive env = false := by unfold interactive; rw [fit_kind hf he]; rfl
  rw [exec_Expr env e pos hi (hs env)]
  refine wpAny_bind (wpAny_standAt (wpAny_bind (wpAny_mono (h1.run A env B G gs s E hr he hS) ?_ fun _ _ x => x)))
  rintro v s1 ⟨G1, l1, S1, o1⟩
  have fin : wpAny (model prog w) A (execs rest env) (fun f s' => ∃ o, P o ∧ Post Λ F env B G gs o f s') E s1 :=
    wpAny_mono (h3.run A env B G1 gs s1 E hr he S1) (fun f s3 ⟨o, a, b⟩ => ⟨o, a, b.mono l1⟩) fun _ _ x => x
  rw [dropValue_plain (hnr G1 v o1)]
  exact wpAny_pure fin⟩

theorem own_name {x : Str} {pos : Pos} {ds : List PyData} {A : Around} {env : Env} {B G : PH} {gs : Array GenState} {s : Shared} {E : Value → Shared → Prop} {Q : Value → Shared → Prop} {m : Str → Option Value} {oa : Nat → Addr} (k : Nat) (hf : F.fit = true) (he : EnvOk F env)
    (hx : F.locs[k]? = some x) (hv : vs[k]? = some (some (.own ds))) (hd : (x == ("__debug__" : Str)) = false) (X : SB Λ F env B G gs vs cs s m oa) (h : Q (.ref (oa k)) s) : wpAny (model prog w) A (eval (.Name x pos) env) Q E s := by
  obtain ⟨v, hm, hok⟩ := X.loc k x _ hx hv
  obtain ⟨rfl, _⟩ := hok
  obtain ⟨h1, h2⟩ := fit_loc hf hx he
  exact wpAny_Name (wpAny_loadName_local h1 h2 X.ns hm h) hd

theorem PlainList.toL {h : Heap} {a : Addr} {items : Array Value} (x : h.PlainList a items) : PlainL h a items := let ⟨n, e⟩ := x; ⟨_, n, e, rfl, rfl, rfl⟩

theorem EvS_append {x : Str} {pos apos npos : Pos} {e : Expr} {ds : List PyData} {d : PyData} (k : Nat) (hf : F.fit = true) (hx : F.locs[k]? = some x) (hv : vs[k]? = some (some (.own ds))) (h : Ev prog w Λ F n vs cs e (.dat d)) (hsz : ds.length ≤ sizeLine)
    (hline : (apos.endLine == pos.line) = true := by rfl) (hs : ∀ env, starEach [e] env = [(false, eval e env)] := by intro _; rfl)
    (hd : (x == ("__debug__" : Str)) = false := by decide) :
    EvS prog w Λ F n vs cs (.Call (.Attribute (.Name x npos) (Str.ofString "append") apos) [e] [] pos) (.dat .none) (vs.set k (some (.own (ds ++ [d])))) cs := ⟨fun A env B G gs s E hr he hS => by
  obtain ⟨m, oa, X⟩ := id hS
  have hb : backTo pos (starEach [e] env) = [(false, eval e env)] := by rw [hs env]; rfl
  refine wpAny_Call_append (o := .Name x npos) (apos := apos) rfl (by rw [hb]; rfl) hline hb (own_name k hf he hx hv hd X ?_)
  obtain ⟨v, hm, hok⟩ := X.loc k x _ hx hv
  obtain ⟨_, hfr, items, hp, hA⟩ := hok
  refine ⟨oa k, items, rfl, PlainList.toL hp, h.seq hr he hS.v fun y s1 G1 g1 x1 V1 o1 => ?_⟩
  have X1 : SB Λ F env B G1 gs vs cs s1 m oa := { X.toSV.grow g1 x1, X.toBk.grow g1 x1 with nsB := X.nsB, ownB := X.ownB, celB := X.celB }
  have hz : items.size = ds.length := by have := hA.length; simpa using this
  refine wpAny_list_append_plain (hp.at fun o e => g1.keep _ o e) (fun h' hl' hs' => ?_) (by rw [hz]; exact hsz)
  refine ⟨G1, x1.le, ⟨m, oa, ?_⟩, Rep.none⟩
  have := X1.turnOwn (tk := s1.toks) (ds' := ds ++ [d]) hx hv hl' hs' (by
    rw [Array.toList_push]; exact (hA.mono x1.le).append (.cons o1 .nil))
  exact this⟩
theorem EvS_pop {x : Str} {pos apos npos : Pos} {ds : List PyData} {d : PyData} (k : Nat) (hf : F.fit = true) (hx : F.locs[k]? = some x) (hv : vs[k]? = some (some (.own (ds ++ [d])))) (hsz : ds.length < sizeLine)
    (hline : (apos.endLine == pos.line) = true := by rfl) (hd : (x == ("__debug__" : Str)) = false := by decide) :
    EvS prog w Λ F n vs cs (.Call (.Attribute (.Name x npos) (Str.ofString "pop") apos) [] [] pos) (.dat d) (vs.set k (some (.own ds))) cs := ⟨fun A env B G gs s E hr he hS => by
  obtain ⟨m, oa, X⟩ := id hS
  obtain ⟨v, hm, hok⟩ := X.loc k x _ hx hv
  obtain ⟨_, hfr, items, hp, hA⟩ := hok
  refine wpAny_Call_method (o := .Name x npos) (apos := apos) (args := []) rfl rfl hline PySem.F.plainAttrs_list PySem.F.slot_list_pop PySem.F.type_list_pop (own_name k hf he hx hv hd X ⟨hp.isList.typeIs, fun a e => ?_, ?_⟩)
  · cases e; obtain ⟨_, e⟩ := hp; exact ⟨_, e, rfl⟩
  · refine callWith_builtin rfl (PyProof.Rows.evalArgs_none ?_)
    have hlen := hA.length
    obtain ⟨p, y, hpy⟩ : ∃ p y, items.toList = p ++ [y] := by
      have : items.toList ≠ [] := by intro e; rw [e] at hlen; simp at hlen
      exact ⟨_, _, (List.dropLast_concat_getLast this).symm⟩
    have ei : items = (p ++ [y]).toArray := by rw [← hpy, Array.toArray_toList]
    subst ei
    have hA' : RepAll G (p ++ [y]) (ds ++ [d]) := by simpa using hA
    have hpl : p.length = ds.length := by have := hA'.length; simpa using this
    have hsplit : ∀ {p : List Value} {ds : List PyData}, p.length = ds.length → RepAll G (p ++ [y]) (ds ++ [d]) → RepAll G p ds ∧ Rep G y d := by
      intro p
      induction p with
      | nil => intro ds hl h; cases ds with
        | nil => cases h with | cons a _ => exact ⟨.nil, a⟩
        | cons => simp at hl
      | cons a p ih => intro ds hl h; cases ds with
        | nil => simp at hl
        | cons b ds => cases h with | cons x r => obtain ⟨q1, q2⟩ := ih (by simpa using hl) r; exact ⟨.cons x q1, q2⟩
    obtain ⟨hAp, hAy⟩ := hsplit hpl hA'
    obtain ⟨nn, hg⟩ := hp
    have hz' : (p ++ [y]).toArray.size ≤ sizeLine := by rw [List.size_toArray, List.length_append, hpl]; simp; omega
    have hk' : (p ++ [y]).toArray.size - 1 = p.length := by rw [List.size_toArray, List.length_append]; rfl
    have hy' : (p ++ [y]).toArray[(p ++ [y]).toArray.size - 1]? = some y := by rw [hk']; simp
    refine call_meets PySem.F.slot_list_pop ⟨_, hg, rfl⟩ PySem.F.entry_list_pop (PySem.F.args_list_pop_1 _) (PySem.MeetsSeq.list_pop_last (oa k) _ nn y hy' hz') ⟨hg, ?_⟩
    have q := PySem.IsL.update hg (fun xs => xs.eraseIdxIfInBounds ((p ++ [y]).toArray.size - 1))
    have he' : (p ++ [y]).toArray.eraseIdxIfInBounds ((p ++ [y]).toArray.size - 1) = p.toArray := by rw [hk', kl_erase, List.append_nil]
    rw [he'] at q
    refine ⟨G, .refl _, ⟨m, oa, ?_⟩, hAy⟩
    have := X.turnOwn (tk := s.toks) (ds' := ds) (items := p.toArray) hx hv ⟨_, q⟩ (Heap.SameBut.update ..) (by simpa using hAp)
    exact this⟩

/-! augmented assignment to a name -/
theorem Ex_aug {x : Str} {op : Operator} {e : Expr} {p1 p2 : Pos} {rest : List Stmt} {a b c : AV} (k : Nat) (hf : F.fit = true) (hx : F.locs[k]? = some x) (hv : vs[k]? = some (some a)) (hna : a.pl = true) (h : Ev prog w Λ F n vs cs e b)
    (ho : Op2 prog w Λ n (inplaceOp op) a b c) (h2 : Ex prog w Λ F n (vs.set k (some c)) cs rest P) : Ex prog w Λ F n vs cs (.AugAssign (.Name x p1) op e p2 :: rest) P := ⟨fun A env B G gs s E hr he hS => by
  obtain ⟨m, oa, X⟩ := id hS
  obtain ⟨v, hm, hok⟩ := X.loc k x _ hx hv
  obtain ⟨q1, q2⟩ := fit_loc hf hx he
  have hok : a.ok G v := by
    cases a with
    | own ds => cases hna
    | dat d => exact hok
    | raw u => exact hok
  refine wpAny_execs_cons' (wpAny_AugAssign_Name (wpAny_loadName_local q1 q2 X.ns hm (h.seq hr he hS.v fun u s1 G1 g1 x1 V1 o1 => ?_)))
  refine wpAny_mono (ho A G1 s1 E v u hr V1.p0 (hok.mono x1.le) o1) ?_ fun _ _ x => x
  rintro r s2 ⟨g2, G2, x2, o2⟩
  exact ((hS.grow g1 x1).grow g2 x2).store hf he hx o2 fun s3 S3 => wpAny_mono (h2.run A env B G2 gs s3 E hr he S3) (fun f s3 ⟨o, a, b⟩ => ⟨o, a, b.mono (x1.le.trans x2.le)⟩) fun _ _ x => x⟩
end
end Mine
end
section
open PySem PySem.W PyProof.Rows PySem.Calls
set_option Elab.async false
set_option linter.unusedVariables false
namespace Mine
section
variable {prog : Program} {w : World} {Λ : Glo} {F : FS} {n : Nat} {vs cs : List (Option AV)} {P : Out → Prop}

/-- a while, by what holds ahead of each test; m: a number that falls -/
theorem Ex_while {test : Expr} {body rest : List Stmt} {pos : Pos} (J : Nat → List (Option AV) → List (Option AV) → Prop) (Pb : List (Option AV) → List (Option AV) → Prop) (m₀ : Nat) (h0 : J m₀ vs cs)
    (hturn : ∀ m vs cs, J m vs cs → ∃ b, Tr prog w Λ F n vs cs test b ∧ (b = true → Ex prog w Λ F n vs cs body (fun o => match o with
      | .next vs cs => ∃ m', m' < m ∧ J m' vs cs | .cont vs cs => ∃ m', m' < m ∧ J m' vs cs | .brk vs cs => Pb vs cs | .ret av => P (.ret av))) ∧ (b = false → Pb vs cs))
    (hrest : ∀ vs cs, Pb vs cs → Ex prog w Λ F n vs cs rest P) : Ex prog w Λ F n vs cs (.While test body [] pos :: rest) P := ⟨fun A env B G gs s E hr he hS => by
  refine wpAny_execs_cons' (wpAny_While (codeAny_whileLoop (fun m s' => ∃ vs' cs' G', G.le G' ∧ St Λ F env B G' gs vs' cs' s' ∧ J m vs' cs') ?_ m₀ ⟨vs, cs, G, .refl _, hS, h0⟩))
  rintro m s1 ⟨vs1, cs1, G1, l1, S1, hJ⟩
  obtain ⟨b, htest, hbody, hend⟩ := hturn m vs1 cs1 hJ
  refine htest.seq hr he S1.v fun s2 g2 _ => ?_
  have S2 := S1.grow g2 (.refl S1.v.data g2)
  cases b with
  | false => exact wpAny_pure (wpAny_mono ((hrest vs1 cs1 (hend rfl)).run A env B G1 gs s2 E hr he S2) (fun f s3 ⟨o, a, b⟩ => ⟨o, a, b.mono l1⟩) fun _ _ x => x)
  | true =>
    simp only [if_true]
    refine wpAny_mono ((hbody rfl).run A env B G1 gs s2 _ hr he S2) ?_ fun _ _ x => x
    rintro f s3 ⟨o, hP, hpo⟩
    cases o with
    | next vs5 cs5 =>
      obtain ⟨rfl, G5, l5, S5⟩ := hpo
      obtain ⟨m', hm, hJ'⟩ := hP
      exact ⟨m', hm, vs5, cs5, G5, l1.trans l5, S5, hJ'⟩
    | cont vs5 cs5 =>
      obtain ⟨rfl, G5, l5, S5⟩ := hpo
      obtain ⟨m', hm, hJ'⟩ := hP
      exact ⟨m', hm, vs5, cs5, G5, l1.trans l5, S5, hJ'⟩
    | brk vs5 cs5 =>
      obtain ⟨rfl, G5, l5, S5⟩ := hpo
      exact wpAny_mono ((hrest vs5 cs5 hP).run A env B G5 gs s3 E hr he S5) (fun f s6 ⟨o, a, b⟩ => ⟨o, a, b.mono (l1.trans l5)⟩) fun _ _ x => x
    | ret av =>
      obtain ⟨v5, rfl, G5, l5, r⟩ := hpo
      exact ⟨_, hP, v5, rfl, G5, l1.trans l5, r⟩⟩

/-- a try whose body raises nothing -/
theorem Ex_try {body rest : List Stmt} {h₀ : ExceptHandler} {hs : List ExceptHandler} {pos : Pos} {P1 : Out → Prop} (h1 : Ex prog w Λ F n vs cs body P1) (h2 : ∀ vs' cs', P1 (.next vs' cs') → Ex prog w Λ F n vs' cs' rest P)
    (h3 : ∀ o, P1 o → (∀ vs' cs', o ≠ .next vs' cs') → P o) : Ex prog w Λ F n vs cs (.Try body (h₀ :: hs) [] [] pos :: rest) P := ⟨fun A env B G gs s E hr he hS => by
  refine wpAny_execs_cons' (wpAny_Try_except (wpAny_mono (h1.run A env B G gs s _ hr he hS) ?_ fun _ _ x => x))
  rintro f s' ⟨o, hP, hpo⟩
  cases o with
  | next vs' cs' =>
    obtain ⟨rfl, G', hl, hS'⟩ := hpo
    exact wpAny_pure (wpAny_mono ((h2 vs' cs' hP).run A env B G' gs s' E hr he hS') (fun f s2 ⟨o, a, b⟩ => ⟨o, a, b.mono hl⟩) fun _ _ x => x)
  | brk vs' cs' => obtain ⟨rfl, r⟩ := hpo; exact ⟨_, h3 _ hP (fun _ _ => nofun), rfl, r⟩
  | cont vs' cs' => obtain ⟨rfl, r⟩ := hpo; exact ⟨_, h3 _ hP (fun _ _ => nofun), rfl, r⟩
  | ret av => obtain ⟨v, rfl, r⟩ := hpo; exact ⟨_, h3 _ hP (fun _ _ => nofun), v, rfl, r⟩⟩
end
end Mine
end
section
open PySem PySem.W PyProof.Rows PySem.Calls
set_option Elab.async false
set_option linter.unusedVariables false
namespace Mine

/-- the names' cells, as the comprehension takes them along -/
noncomputable def closL (cells : List (Str × Addr)) : List (Str × NameKind) → List (Str × Addr) → List (Str × Addr)
  | [], acc => acc
  | (x, k) :: r, acc => closL cells r (if k == .free then ((cells.lookup x).map fun c => (x, c)).toList ++ acc else acc)
theorem closureFor_eq {scope : Scope} {env : Env} (h : ∀ x ∈ scope.names, x.2 = .free → ∃ c, env.cells.lookup x.1 = some c) : closureFor scope env = pure (closL env.cells scope.names []) := by
  have key : ∀ (names : List (Str × NameKind)) (acc : List (Str × Addr)), (∀ x ∈ names, x.2 = .free → ∃ c, env.cells.lookup x.1 = some c) →
      (forIn names acc fun x r => (do
        if x.2 == .free then let c ← cellOf env x.1; pure (ForInStep.yield ((x.1, c) :: r)) else pure (ForInStep.yield r) : Sem (ForInStep (List (Str × Addr))))) = pure (closL env.cells names acc) := by
    intro names
    induction names with
    | nil => intro acc _; rfl
    | cons x r ih =>
      intro acc hh
      obtain ⟨x, k⟩ := x
      rw [List.forIn_cons]
      by_cases hk : k = .free
      · subst hk
        obtain ⟨c, hc⟩ := hh (x, .free) List.mem_cons_self rfl
        simp only [beq_self_eq_true, if_true, cellOf, hc, pure_bind]
        have := ih ((x, c) :: acc) fun y hy => hh y (List.mem_cons_of_mem _ hy)
        simp only [cellOf] at this
        rw [this]
        simp [closL, hc]
      · have hk' : (k == NameKind.free) = false := by simpa using hk
        simp only [hk', Bool.false_eq_true, if_false, pure_bind]
        have := ih acc fun y hy => hh y (List.mem_cons_of_mem _ hy)
        rw [this]
        simp [closL, hk']
  have := key scope.names [] h
  unfold closureFor
  first
    | exact this
    | (simp only [bind_pure]; exact this)
    | (rw [show (forIn scope.names ([] : List (Str × Addr)) _ >>= pure) = _ from bind_pure _]; exact this)

theorem closL_lookup {cells : List (Str × Addr)} {x : Str} {c : Addr} (hc : cells.lookup x = some c) : ∀ (names : List (Str × NameKind)) (acc : List (Str × Addr)), (acc.lookup x = none ∨ acc.lookup x = some c) → ((x, NameKind.free) ∈ names ∨ acc.lookup x = some c) →
    (closL cells names acc).lookup x = some c
  | [], acc, _, h => by
    rcases h with h | h
    · cases h
    · exact h
  | (y, k) :: r, acc, h1, h2 => by
    show (closL cells r _).lookup x = some c
    by_cases hk : k = .free
    · subst hk
      simp only [beq_self_eq_true, if_true]
      by_cases hy : x = y
      · subst hy
        rw [hc]
        refine closL_lookup hc r _ (.inr ?_) (.inr ?_) <;> simp
      · have hb : (x == y) = false := by simpa using hy
        refine closL_lookup hc r _ ?_ ?_
        · cases hq : cells.lookup y with
          | none => simpa using h1
          | some d => show List.lookup x ((y, d) :: acc) = none ∨ List.lookup x ((y, d) :: acc) = some c; rw [List.lookup_cons, hb]; exact h1
        · rcases h2 with h2 | h2
          · rcases List.mem_cons.mp h2 with e | h2
            · cases e; exact absurd rfl hy
            · exact .inl h2
          · refine .inr ?_
            cases hq : cells.lookup y with
            | none => simpa using h2
            | some d => show List.lookup x ((y, d) :: acc) = some c; rw [List.lookup_cons, hb]; exact h2
    · have hk' : (k == NameKind.free) = false := by simpa using hk
      simp only [hk', Bool.false_eq_true, if_false]
      refine closL_lookup hc r acc h1 ?_
      rcases h2 with h2 | h2
      · rcases List.mem_cons.mp h2 with e | h2
        · cases e; exact absurd rfl hk
        · exact .inl h2
      · exact .inr h2

noncomputable def relab (scope outer : Scope) : Scope :=
  { scope with names := scope.names.map fun (n, k) => if (k == .free && outer.kind == .function && outer.names.lookup n == some .cell) then (n, .cell) else (n, k) }
/-- the comprehension's block within its frame -/
structure CompOk (F Fc : FS) (scope : Scope) : Prop where
  sc : Fc.scope = relab scope F.scope
  ro : Fc.ro = true
  fit : Fc.fit = true
  kind : scope.kind = .function
  nocell : ∀ x ∈ scope.names, x.2 ≠ .cell
  names : ∀ x ∈ scope.names, x.2 = .local → scope.names.lookup x.1 = some .local
  free : ∀ x ∈ scope.names, x.2 = .free → x.1 ∈ F.cels
  cels : ∀ x ∈ Fc.cels, (x, NameKind.free) ∈ scope.names ∧ x ∈ F.cels

section
variable (prog : Program) (w : World) (Λ : Glo) (F : FS) (n : Nat) (vs cs : List (Option AV))
noncomputable def Tests (ifs : List Expr) (b : Bool) : Prop :=
  ∀ (A : Around) (env : Env) (G : PH) (s : Shared) (E : Value → Shared → Prop), Rm n A → EnvOk F env → V Λ F env G vs cs s →
    wpAny (model prog w) A (forIn ifs true fun c r => if r = true then do let ok ← isTrue c env (eval c env); pure (ForInStep.yield ok) else pure (ForInStep.yield r)) (fun ok s' => ok = b ∧ Grow s s') E s
end
section
variable {prog : Program} {w : World} {Λ : Glo} {F Fc : FS} {n : Nat} {vs cs : List (Option AV)}
theorem Tests_nil : Tests prog w Λ F n vs cs [] true := fun A env G s E hr he hV => wpAny_tests_nil ⟨rfl, .refl s⟩
theorem Tests_one {c : Expr} {b : Bool} (h : Tr prog w Λ F n vs cs c b) : Tests prog w Λ F n vs cs [c] b := fun A env G s E hr he hV => wpAny_tests_one (h.run A env G s E hr he hV)

theorem codeAny_compLoop_go {A : Around} {R : Result → Shared → Prop} {s : Shared} {elt target iter : Expr} {ifs : List Expr} {scope : Scope} {pos : Pos} {it acc : Value} {env : Env} (I : Nat → Shared → Prop)
    (turn : ∀ n s, I n s → wpAny (model prog w) A (pyNext it) (fun r s₁ => match r with
      | none => R (.ok .next) s₁
      | some v => wpAny (model prog w) A (letOwnedTupleGo target it v) (fun _ s₁' => wpAny (model prog w) A (assign target env v) (fun _ s₂ =>
          wpAny (model prog w) A (forIn ifs true fun c r => if r = true then do let ok ← isTrue c env (eval c env); pure (ForInStep.yield ok) else pure (ForInStep.yield r)) (fun ok s₃ =>
            if ok = true then wpAny (model prog w) A (eval elt env) (fun x s₄ =>
              wpAny (model prog w) A (call (.builtin "list.append") [acc, x]) (fun _ s₅ => ∃ m, m < n ∧ I m s₅) (notedBy (model prog w) A env fun e s' => R (.error e) s') s₄) (notedBy (model prog w) A env fun e s' => R (.error e) s') s₃
            else ∃ m, m < n ∧ I m s₃) (notedBy (model prog w) A env fun e s' => R (.error e) s') s₂) (notedBy (model prog w) A env fun e s' => R (.error e) s') s₁') (notedBy (model prog w) A env fun e s' => R (.error e) s') s₁) (notedBy (model prog w) A env fun e s' => R (.error e) s') s)
    (n : Nat) (h : I n s) :
    codeAny (model prog w) A (.compLoop (.ListComp elt [⟨target, iter, ifs, 0⟩] scope pos) 0 it acc env) R s := by
  refine codeAny_loop rfl I (fun n s hI => ?_) n h
  show wpAny _ A ((compTurn (.ListComp elt [⟨target, iter, ifs, 0⟩] scope pos) 0 it acc env).onRaise (fun x => do noteFrame x env; theTreesLotGoes x)) _ _ s
  refine wpAny_noted ?_
  rw [compTurn_list]
  refine wpAny_bind (wpAny_standAt (wpAny_bind (wpAny_mono (turn n s hI) (fun r s₁ h₁ => ?_) fun _ _ h' => h')))
  cases r with
  | none => exact wpAny_pure h₁
  | some v =>
    refine wpAny_bind (wpAny_mono h₁ (fun _ s₁' h₁' => ?_) fun _ _ h' => h')
    refine wpAny_bind (wpAny_mono h₁' (fun _ s₂ h₂ => wpAny_bind (wpAny_mono h₂ (fun ok s₃ h₃ => ?_) fun _ _ h' => h')) fun _ _ h' => h')
    cases ok with
    | false => exact wpAny_pure ⟨rfl, h₃⟩
    | true =>
      exact wpAny_bind (wpAny_bind (wpAny_mono h₃ (fun x s₄ h₄ => wpAny_bind (wpAny_mono h₄ (fun _ s₅ h₅ => wpAny_pure (wpAny_pure ⟨rfl, h₅⟩)) fun _ _ h' => h')) fun _ _ h' => h'))

/-- what the turns up to i have put into the list -/
noncomputable def outs (b : Nat → Bool) (out : Nat → PyData) (i : Nat) : List PyData := ((List.range i).filter b).map out
theorem outs_succ {b : Nat → Bool} {out : Nat → PyData} {i : Nat} : outs b out (i + 1) = outs b out i ++ (if b i then [out i] else []) := by
  unfold outs
  rw [List.range_succ, List.filter_append, List.map_append]
  cases hb : b i <;> simp [hb]
theorem outs_len {b : Nat → Bool} {out : Nat → PyData} {i : Nat} : (outs b out i).length ≤ i := by
  unfold outs
  rw [List.length_map]
  exact Nat.le_trans (List.length_filter_le _ _) (by simp)

/-- the state between the turns of a comprehension -/
structure CInv (Λ : Glo) (s₀ : Shared) (G₀ : PH) (C D : Addr) (ds : List PyData) (G : PH) (s : Shared) : Prop where
  grow : Grow s₀ s
  gx : Gx s₀ G₀ G s
  acc : ∃ items, s.heap.PlainList D items ∧ RepAll G items.toList ds
  ns : ∃ m, s.heap.Ns C m
  noC : G C = none
  noD : G D = none

/-- the state between the turns, whatever is filled: K tells of the thing that is -/
structure CInvG (K : Nat → PH → Obj → Prop) (s₀ : Shared) (G₀ : PH) (C D : Addr) (i : Nat) (G : PH) (s : Shared) : Prop where
  grow : Grow s₀ s
  gx : Gx s₀ G₀ G s
  acc : ∃ o, s.heap.get? D = some o ∧ K i G o
  ns : ∃ m, s.heap.Ns C m
  noC : G C = none
  noD : G D = none
noncomputable def CompI (T : Nat → List Addr → PH → Shared → Prop) (K : Nat → PH → Obj → Prop) (s₀ : Shared) (G₀ : PH) (C D : Addr) (len k : Nat) (s' : Shared) : Prop :=
  ∃ i wr G', k = len + 1 - i ∧ i ≤ len ∧ T i wr G' s' ∧ CInvG K s₀ G₀ C D i G' s' ∧ (∀ x ∈ wr, G' x = none) ∧ (∀ x ∈ wr, s₀.heap.get? x = none) ∧ C ∉ wr ∧ D ∉ wr
/-- a comprehension's frame is a frame of its make -/
theorem comp_env {env : Env} {scope : Scope} {C : Addr} (he : EnvOk F env) (hc : CompOk F Fc scope) :
    (∀ x ∈ Fc.cels, ∃ c, env.cells.lookup x = some c ∧ (compEnvC scope (closL env.cells scope.names []) C env).cells.lookup x = some c) ∧ EnvOk Fc (compEnvC scope (closL env.cells scope.names []) C env) := by
  have cls : ∀ x ∈ Fc.cels, ∃ c, env.cells.lookup x = some c ∧ (closL env.cells scope.names []).lookup x = some c := fun x hx => by
    obtain ⟨h1, h2⟩ := hc.cels x hx
    obtain ⟨c, hcc⟩ := he.cell x h2
    exact ⟨c, hcc, closL_lookup hcc _ _ (.inl rfl) (.inl h1)⟩
  have hen : EnvOk Fc (compEnvC scope (closL env.cells scope.names []) C env) := {
    scope := by rw [hc.sc, ← he.scope]; rfl
    glob := he.glob
    bi := he.bi
    cell := fun x hx => let ⟨c, _, h⟩ := cls x hx; ⟨c, h⟩
    apart := fun x hx y hy c h1 h2 => by
      obtain ⟨c1, e1, e1'⟩ := cls x hx
      obtain ⟨c2, e2, e2'⟩ := cls y hy
      have h1' : c1 = c := by have := e1'.symm.trans h1; simpa using this
      have h2' : c2 = c := by have := e2'.symm.trans h2; simpa using this
      exact he.apart x (hc.cels x hx).2 y (hc.cels y hy).2 c (h1' ▸ e1) (h2' ▸ e2)
    code := he.code
    frame := he.frame }
  exact ⟨cls, hen⟩
theorem comp_turnG {A : Around} {env : Env} {s₀ : Shared} {G₀ : PH} {elt target : Expr} {ifs : List Expr} {scope : Scope} {I C D : Addr} {gw : Nat → Prop} {len : Nat} {items : Nat → AV} {T : Nat → List Addr → PH → Shared → Prop}
    {b : Nat → Bool} {out : Nat → PyData} {csc : List (Option AV)} {R : Result → Shared → Prop} {K : Nat → PH → Obj → Prop} {id : String} {cenv : Env} {N : Value → Shared → Prop} (hr : Rm n A) (he : EnvOk F env) (hfit : F.fit = true) (hV : V Λ F env G₀ vs cs s₀) (hc : CompOk F Fc scope) (hce : cenv = (compEnvC scope (closL env.cells scope.names []) C env))
    (hcs : ∀ (k : Nat) x av, Fc.cels[k]? = some x → csc[k]? = some (some av) → ∃ j : Nat, F.cels[j]? = some x ∧ cs[j]? = some (some av))
    (W : Itr prog w Λ A target I gw len items T) (hgw : ∀ g, gw g → s₀.gens.size ≤ g)
    (hturn : ∀ i, i < len → ∃ vsc, Asg prog w Λ Fc n (List.replicate Fc.locs.length none) csc target (items i) vsc csc ∧ Tests prog w Λ Fc n vsc csc ifs (b i) ∧ (b i = true → Ev prog w Λ Fc n vsc csc elt (.dat (out i))))
    (hC0 : s₀.heap.get? C = none) (hD0 : s₀.heap.get? D = none) (hDC : D ≠ C)
    (hmono : ∀ i G G' o, K i G o → G.le G' → K i G' o) (hskip : ∀ i G o, b i = false → K i G o → K (i + 1) G o)
    (hadd : ∀ i G (s5 : Shared) (y : Value) o (E Q : Value → Shared → Prop), i < len → b i = true → K i G o → s5.heap.get? D = some o → (AV.dat (out i)).ok G y →
      (∀ h6 tk o6, K (i + 1) G o6 → h6.get? D = some o6 → Heap.SameBut D s5.heap h6 → Q .none { s5 with heap := h6, toks := tk }) → wpAny (model prog w) A (call (.builtin id) [.ref D, y]) Q E s5)
    (hR : ∀ s' G', CInvG K s₀ G₀ C D len G' s' → R (.ok .next) s') (k : Nat) (s1 : Shared) (hI : CompI T K s₀ G₀ C D len k s1) :
    wpAny (model prog w) A (pyNext (.ref I)) (fun r s₁ => match r with
      | none => R (.ok .next) s₁
      | some v => wpAny (model prog w) A (letOwnedTupleGo target (.ref I) v) (fun _ s₁' => wpAny (model prog w) A (assign target cenv v) (fun _ s₂ =>
          wpAny (model prog w) A (forIn ifs true fun c r => if r = true then do let ok ← isTrue c cenv (eval c cenv); pure (ForInStep.yield ok) else pure (ForInStep.yield r)) (fun ok s₃ =>
            if ok = true then wpAny (model prog w) A (eval elt cenv) (fun x s₄ =>
              wpAny (model prog w) A (call (.builtin id) [.ref D, x]) (fun _ s₅ => ∃ m, m < k ∧ CompI T K s₀ G₀ C D len m s₅) N s₄) N s₃
            else ∃ m, m < k ∧ CompI T K s₀ G₀ C D len m s₃) N s₂) N s₁') N s₁) N s1 := by
  obtain ⟨cls, hen⟩ := comp_env (C := C) he hc
  rw [← hce] at cls hen
  have hcl : cenv.locals = C := by rw [hce]; rfl
  clear hce
  subst hcl
  obtain ⟨i, wr, G1, rfl, hi, T1, I1, hnw, hw0, hCw, hDw⟩ := hI
  have P1 : P0 Λ G1 s1 := hV.p0.grow I1.grow I1.gx
  obtain ⟨oD, hoD, hK⟩ := I1.acc
  obtain ⟨m1, hC1⟩ := I1.ns
  by_cases hlt : i < len
  · refine' wpAny_mono (W.item i wr G1 s1 _ _ hlt P1 T1 hnw ?main) ?tail fun _ _ x => x
    case tail =>
      intro r s3 h
      cases r with
      | none => exact h.elim
      | some v => exact h
    case main =>
      intro v s2 G2 wr2 c2 x2 T2 hw2 ok2
      obtain ⟨vsc, hasg, htest, helt⟩ := hturn i hlt
      obtain ⟨oC, hoC⟩ := Ns_get hC1
      have keep2 : ∀ x o, s₀.heap.get? x = some o → s2.heap.get? x = some o := fun x o e => c2.keep x o (fun hm => by rw [hw0 x hm] at e; cases e) (I1.grow.keep x o e)
      have gens2 : ∀ (j : Nat) (x : GenState), s₀.gens[j]? = some x → s2.gens[j]? = some x := fun j x e => c2.gens j x (fun hg => by
        have h1 := hgw j hg
        have h2 := (Array.getElem?_eq_some_iff.mp e).1
        omega) (I1.grow.gens j x e)
      have none2 : ∀ {x : Addr} {o : Obj}, s1.heap.get? x = some o → G1 x = none → G2 x = none := fun ho hn => x2.still ho hn
      have hC2 : s2.heap.Ns cenv.locals m1 := let ⟨o, es, ep, e, r⟩ := hC1; ⟨o, es, ep, c2.keep _ o hCw e, r⟩
      have hoD2 := c2.keep _ _ hDw hoD
      have gx2 : Gx s₀ G₀ G2 s2 := ⟨I1.gx.le.trans x2.le, x2.sub, fun a o e => by
        rcases x2.new a o e with h | h
        · exact I1.gx.new a o h
        · refine .inr ?_
          cases hq : s₀.heap.get? a with
          | none => rfl
          | some o' => rw [I1.grow.keep a o' hq] at h; cases h⟩
      have nC2 := none2 hoC I1.noC
      have nD2 := none2 hoD I1.noD
      have nW2 : ∀ x ∈ wr2, G2 x = none := fun x hx => (hw2 x hx).2
      have hw02 : ∀ x ∈ wr2, s₀.heap.get? x = none := fun x hx => by
        rcases (hw2 x hx).1 with h | h
        · exact hw0 x h
        · cases hq : s₀.heap.get? x with
          | none => rfl
          | some o => rw [I1.grow.keep x o hq] at h; cases h
      have hCw2 : cenv.locals ∉ wr2 := fun hm => by
        rcases (hw2 cenv.locals hm).1 with h | h
        · exact hCw h
        · rw [hoC] at h; cases h
      have hDw2 : D ∉ wr2 := fun hm => by
        rcases (hw2 D hm).1 with h | h
        · exact hDw h
        · rw [hoD] at h; cases h
      have S2 : St Λ Fc cenv (fun a => if a = cenv.locals then none else around G2 s2 a) G2 s2.gens (List.replicate Fc.locs.length none) csc s2 := ⟨m1, fun _ => 0, {
        old := fun x o e => keep2 x o (hV.old x o e)
        os := c2.os.trans P1.os
        bare := c2.bare P1.bare
        gd := P1.gd.trans x2.le
        data := x2.sub
        ns := hC2
        nsF := ⟨PH.none_of_sub (G := Λ.h.get?) hV.old hC0, nC2⟩
        len := by simp
        loc := fun k x av h1 h2 => by
          rw [List.getElem?_replicate] at h2
          split at h2 <;> cases h2
        own := fun k j ds es h1 => by
          rw [List.getElem?_replicate] at h1
          split at h1 <;> cases h1
        cel := fun k x h1 => by
          have hx := List.mem_of_getElem? h1
          obtain ⟨c, e1, e2⟩ := cls x hx
          obtain ⟨j, hj⟩ := List.mem_iff_getElem?.mp (hc.cels x hx).2
          obtain ⟨mm, oo, X⟩ := hV
          obtain ⟨c', u, hc', hi', _, hm'⟩ := X.cel j x hj
          rw [e1] at hc'; cases hc'
          refine ⟨c, u, e2, hi'.keeps keep2, (fun h => by rw [hc.ro] at h; cases h), fun av h2 => ?_⟩
          obtain ⟨j', hj', ha⟩ := hcs k x av h1 h2
          have : j' = j := fit_injC hfit hj' hj
          subst this
          obtain ⟨u', e', ok'⟩ := hm' av ha
          exact ⟨u', e', ok'.mono gx2.le⟩
        base := fun x o e => by
          by_cases hx : x = cenv.locals
          · simp [hx] at e
          · simp only [hx, if_false] at e
            unfold around at e
            split at e
            · exact e
            · cases e
        apart := fun x o e => by
          by_cases hx : x = cenv.locals
          · simp [hx] at e
          · simp only [hx, if_false] at e
            unfold around at e
            split at e
            · assumption
            · cases e
        gens := fun _ _ e => e
        nsB := by simp
        ownB := fun k ds h1 => by
          rw [List.getElem?_replicate] at h1
          split at h1 <;> cases h1
        celB := fun h => by rw [hc.ro] at h; cases h }⟩
      refine hasg A _ _ G2 _ s2 _ _ v hr hen S2 ok2 fun s3 G3 l3 S3 => ?_
      have keep3 : ∀ x o, x ≠ cenv.locals → s2.heap.get? x = some o → s3.heap.get? x = some o := fun x o hx e => by
        cases hG : G2 x with
        | some o' => have := x2.sub x o' hG; rw [e] at this; cases this; exact S3.v.data x o (l3 x o hG)
        | none => exact S3.bk.base x o (by simp [hx, around, hG, e])
      have none3 : ∀ {x : Addr} {o : Obj}, x ≠ cenv.locals → s2.heap.get? x = some o → G2 x = none → G3 x = none := fun {x o} hx ho hn => S3.bk.apart x o (by simp [hx, around, hn, ho])
      have hoD3 := keep3 D _ hDC hoD2
      have gr3 : Grow s₀ s3 := ⟨fun x o e => keep3 x o (ne_of_get e (hC0)) (keep2 x o e), fun j x e => S3.bk.gens j x (gens2 j x e), fun _ => S3.v.p0.bare, (S3.v.p0.os.trans P1.os.symm).trans (I1.grow.os)⟩
      have gx3 : Gx s₀ G₀ G3 s3 := ⟨gx2.le.trans l3, S3.v.data, fun a o e => by
        cases hq : s₀.heap.get? a with
        | none => exact .inr rfl
        | some o' =>
          have hac : a ≠ cenv.locals := ne_of_get hq (hC0)
          cases hG : G2 a with
          | none => rw [none3 hac (keep2 a o' hq) hG] at e; cases e
          | some o2 =>
            rw [l3 a o2 hG] at e; cases e
            rcases gx2.new a o hG with h | h
            · exact .inl h
            · rw [hq] at h; cases h⟩
      have nD3 := none3 hDC hoD2 nD2
      have nC3 : G3 cenv.locals = none := by obtain ⟨_, _, X⟩ := S3; exact X.nsF.data
      have nW3 : ∀ x ∈ wr2, G3 x = none := fun x hx => by
        obtain ⟨o, ho⟩ := W.here _ _ _ _ T2 x hx
        exact none3 (by rintro rfl; exact hCw2 hx) ho (nW2 x hx)
      obtain ⟨m3, hC3⟩ : ∃ m, s3.heap.Ns cenv.locals m := by obtain ⟨m, _, X⟩ := S3; exact ⟨m, X.ns⟩
      refine wpAny_mono (htest A _ G3 s3 _ hr hen S3.v) ?_ fun _ _ x => x
      rintro ok s4 ⟨rfl, g4⟩
      have x4 : Gx s3 G3 G3 s4 := .refl S3.v.data g4
      cases hb : b i with
      | false =>
        simp only [Bool.false_eq_true, if_false]
        refine ⟨len + 1 - (i + 1), by omega, i + 1, wr2, G3, rfl, hlt, ?_, ?_, nW3, hw02, hCw2, hDw2⟩
        · exact W.frame _ _ _ _ _ _ T2 l3 x4.sub (S3.v.p0.grow g4 x4) nW3 (fun x hx o e => g4.keep x o (keep3 x o (by rintro rfl; exact hCw2 hx) e)) (fun g x _ e => g4.gens g x (S3.bk.gens g x e))
        · refine ⟨gr3.trans g4, gx3.after g4, ⟨oD, g4.keep _ _ hoD3, hskip _ _ _ hb (hmono _ _ _ _ hK (x2.le.trans l3))⟩, ⟨m3, hC3.keeps g4.keep⟩, nC3, nD3⟩
      | true =>
        simp only [if_true]
        refine (helt hb).seq hr hen (S3.v.grow g4 x4) fun y s5 G5 g5 x5 V5 ok5 => ?_
        have hoD5 := g5.keep _ _ (g4.keep _ _ hoD3)
        have none5 : ∀ {x : Addr} {o : Obj}, s4.heap.get? x = some o → G3 x = none → G5 x = none := fun ho hn => x5.still ho hn
        have nD5 := none5 (g4.keep _ _ hoD3) nD3
        obtain ⟨oC3, hoC3⟩ := Ns_get hC3
        have nC5 := none5 (g4.keep _ _ hoC3) nC3
        have nW5 : ∀ x ∈ wr2, G5 x = none := fun x hx => by
          obtain ⟨o, ho⟩ := W.here _ _ _ _ T2 x hx
          exact none5 (g4.keep x o (keep3 x o (by rintro rfl; exact hCw2 hx) ho)) (nW3 x hx)
        refine hadd i G5 s5 y oD _ _ hlt hb (hmono _ _ _ _ hK ((x2.le.trans l3).trans x5.le)) hoD5 ok5 fun h6 tk o6 hK6 hl6 hs6 => ?_
        have sub6 : G5.sub h6 := fun x o e => hs6.extBut x o (ne_of_get e (nD5)) (x5.sub x o e)
        have gr5 := (gr3.trans g4).trans g5
        have p6 : P0 Λ G5 { s5 with heap := h6, toks := tk } := ⟨fun x o e => hs6.extBut x o (ne_of_get e (PH.none_of_sub (G := Λ.h.get?) hV.old hD0)) (V5.old x o e), V5.p0.os, V5.p0.bare, sub6, V5.p0.gd⟩
        refine ⟨len + 1 - (i + 1), by omega, i + 1, wr2, G5, rfl, hlt, ?_, ?_, nW5, hw02, hCw2, hDw2⟩
        · exact W.frame _ _ _ _ _ _ T2 (l3.trans x5.le) sub6 p6 nW5 (fun x hx o e => hs6.extBut x o (by rintro rfl; exact hDw2 hx) (g5.keep x o (g4.keep x o (keep3 x o (by rintro rfl; exact hCw2 hx) e)))) (fun g x _ e => g5.gens g x (g4.gens g x (S3.bk.gens g x e)))
        · refine ⟨⟨fun x o e => hs6.extBut x o (ne_of_get e (hD0)) (gr5.keep x o e), gr5.gens, gr5.bare, gr5.os⟩, ?_, ⟨o6, hl6, hK6⟩, ⟨m3, ((hC3.keeps g4.keep).keeps g5.keep).sameBut hs6 (Ne.symm hDC)⟩, nC5, nD5⟩
          · have := (gx3.after g4).trans (gr3.trans g4) x5
            exact ⟨this.le, sub6, this.new⟩
  · obtain rfl : i = len := by omega
    refine' wpAny_mono (W.done wr G1 s1 _ _ P1 T1 hnw ?main) ?tail fun _ _ x => x
    case tail =>
      intro r s3 h
      obtain ⟨rfl, h⟩ := h
      exact h
    case main =>
      intro s2 c2 sub2
      refine hR s2 G1 ⟨⟨fun x o e => c2.keep x o (fun hm => by rw [hw0 x hm] at e; cases e) (I1.grow.keep x o e), fun j x e => c2.gens j x (fun hg => ?_) (I1.grow.gens j x e), fun h => c2.bare (I1.grow.bare h), c2.os.trans I1.grow.os⟩,
        ⟨I1.gx.le, sub2, I1.gx.new⟩, ⟨oD, c2.keep _ _ hDw hoD, hK⟩, ⟨m1, let ⟨o, es, ep, e, r⟩ := hC1; ⟨o, es, ep, c2.keep _ o hCw e, r⟩⟩, I1.noC, I1.noD⟩
      have h1 := hgw j hg
      have h2 := (Array.getElem?_eq_some_iff.mp e).1
      omega
/-- a list that the turns have filled -/
noncomputable def KL (b : Nat → Bool) (out : Nat → PyData) (i : Nat) (G : PH) (o : Obj) : Prop := ∃ items n, o = { cls := .type "list", data := .seq items n } ∧ RepAll G items.toList (outs b out i)
theorem comp_loop {A : Around} {env : Env} {s₀ s : Shared} {G₀ : PH} {elt target iter : Expr} {ifs : List Expr} {scope : Scope} {pos : Pos} {I C D : Addr} {gw : Nat → Prop} {len : Nat} {items : Nat → AV} {T : Nat → List Addr → PH → Shared → Prop}
    {b : Nat → Bool} {out : Nat → PyData} {csc : List (Option AV)} {R : Result → Shared → Prop} (hr : Rm n A) (he : EnvOk F env) (hfit : F.fit = true) (hV : V Λ F env G₀ vs cs s₀) (hc : CompOk F Fc scope)
    (hcs : ∀ (k : Nat) x av, Fc.cels[k]? = some x → csc[k]? = some (some av) → ∃ j : Nat, F.cels[j]? = some x ∧ cs[j]? = some (some av))
    (W : Itr prog w Λ A target I gw len items T) (hsz : len ≤ sizeLine) (hgw : ∀ g, gw g → s₀.gens.size ≤ g)
    (hturn : ∀ i, i < len → ∃ vsc, Asg prog w Λ Fc n (List.replicate Fc.locs.length none) csc target (items i) vsc csc ∧ Tests prog w Λ Fc n vsc csc ifs (b i) ∧ (b i = true → Ev prog w Λ Fc n vsc csc elt (.dat (out i))))
    (hC0 : s₀.heap.get? C = none) (hD0 : s₀.heap.get? D = none) (hDC : D ≠ C) (hI : CompI T (KL b out) s₀ G₀ C D len (len + 1) s)
    (hR : ∀ s' G', CInv Λ s₀ G₀ C D (outs b out len) G' s' → R (.ok .next) s') :
    codeAny (model prog w) A (.compLoop (.ListComp elt [⟨target, iter, ifs, 0⟩] scope pos) 0 (.ref I) (.ref D) (compEnvC scope (closL env.cells scope.names []) C env)) R s :=
  codeAny_compLoop_go (CompI T (KL b out) s₀ G₀ C D len) (comp_turnG hr he hfit hV hc rfl hcs W hgw hturn hC0 hD0 hDC (fun i G G' o ⟨it, k, e, hA⟩ hl => ⟨it, k, e, hA.mono hl⟩)
    (fun i G o hb ⟨it, k, e, hA⟩ => ⟨it, k, e, by rw [outs_succ, hb]; simpa using hA⟩)
    (fun i G s5 y o E Q hi hb ⟨it, k, e, hA⟩ ho hy hQ => by
      subst e
      have h1 := hA.length
      have h2 := outs_len (b := b) (out := out) (i := i)
      have h3 : it.toList.length = it.size := by simp
      refine wpAny_list_append_plain ⟨k, ho⟩ (fun h6 hl6 hs6 => ?_) (by omega)
      obtain ⟨k6, hl6⟩ := hl6
      refine hQ h6 s5.toks _ ⟨_, k6, rfl, ?_⟩ hl6 hs6
      rw [outs_succ, hb, Array.toList_push]
      exact hA.append (.cons hy .nil))
    (fun s' G' c => hR s' G' ⟨c.grow, c.gx, let ⟨o, ho, it, k, e, hA⟩ := c.acc; ⟨it, ⟨k, e ▸ ho⟩, hA⟩, c.ns, c.noC, c.noD⟩)) _ hI
end
end Mine
end
section
open PySem PySem.W PyProof.Rows PySem.Calls
set_option Elab.async false
set_option linter.unusedVariables false
namespace Mine
section
variable {prog : Program} {w : World} {Λ : Glo} {F Fc : FS} {n : Nat} {vs cs csc : List (Option AV)} {P : Out → Prop}

theorem comp_block {A : Around} {env : Env} {s₀ s1 : Shared} {G₀ G1 : PH} {elt target iter : Expr} {ifs : List Expr} {scope : Scope} {pos : Pos} {I : Addr} {wr : List Addr} {gw : Nat → Prop} {len : Nat} {items : Nat → AV} {T : Nat → List Addr → PH → Shared → Prop}
    {b : Nat → Bool} {out : Nat → PyData} {E : Value → Shared → Prop} {RR : Value → Addr → Result → Shared → Prop} (hr : Rm n A) (he : EnvOk F env) (hfit : F.fit = true) (hV : V Λ F env G₀ vs cs s₀) (hc : CompOk F Fc scope)
    (hcs : ∀ (k : Nat) x av, Fc.cels[k]? = some x → csc[k]? = some (some av) → ∃ j : Nat, F.cels[j]? = some x ∧ cs[j]? = some (some av))
    (g1 : Grow s₀ s1) (x1 : Gx s₀ G₀ G1 s1) (W : Itr prog w Λ A target I gw len items T) (T0 : T 0 wr G1 s1) (hwr : ∀ x ∈ wr, s₀.heap.get? x = none ∧ G1 x = none) (hsz : len ≤ sizeLine) (hgw : ∀ g, gw g → s₀.gens.size ≤ g)
    (hturn : ∀ i, i < len → ∃ vsc, Asg prog w Λ Fc n (List.replicate Fc.locs.length none) csc target (items i) vsc csc ∧ Tests prog w Λ Fc n vsc csc ifs (b i) ∧ (b i = true → Ev prog w Λ Fc n vsc csc elt (.dat (out i))))
    (hRR : ∀ C D s' G', s₀.heap.get? C = none → s₀.heap.get? D = none → D ≠ C → CInv Λ s₀ G₀ C D (outs b out len) G' s' → RR (.ref D) C (.ok .next) s') :
    wpAny (model prog w) A (newList []) (fun acc s₃ => wpAny (model prog w) A (newFunctionEnv scope env.globals (closL env.cells scope.names []) [] env.qual none .none (some env)) (fun cenv s₄ =>
      codeAny (model prog w) A (.compStart (.ListComp elt [⟨target, iter, ifs, 0⟩] scope pos) 0 (.ref I) acc { cenv with scope := relabel scope env }) (RR acc cenv.locals) s₄) E s₃) E s1 := by
  refine wpAny_newObj_type (wpAny_newFunctionEnv hc.nocell (by intro y hy; simp at hy) (fun h₁ hns₁ hsb₁ => ?_) hc.kind)
  dsimp only at hns₁ hsb₁ ⊢
  generalize hH2 : s1.heap.push { cls := .type "list", dict := none, data := .seq ([] : List Value).toArray } = H2 at hns₁ hsb₁ ⊢
  have hC : H2.objs.size = s1.heap.objs.size + 1 := by rw [← hH2, Heap.size_push]
  have below : ∀ a, a < s1.heap.objs.size → a ≠ H2.objs.size ∧ a ≠ s1.heap.objs.size := fun a ha => ⟨by rw [hC]; exact Nat.ne_of_lt (Nat.lt_succ_of_lt ha), Nat.ne_of_lt ha⟩
  have old : ∀ a o, s1.heap.get? a = some o → h₁.get? a = some o := fun a o e => hsb₁.extBut a o (below a (Heap.lt_size e)).1 (Heap.get?_push_of_some _ (hH2 ▸ Heap.get?_push_of_some _ e))
  have hDC : s1.heap.objs.size ≠ H2.objs.size := by rw [hC]; exact Nat.ne_of_lt (Nat.lt_succ_self _)
  have hacc : h₁.PlainList s1.heap.objs.size #[] := ⟨_, hsb₁.extBut _ _ hDC (Heap.get?_push_of_some _ (hH2 ▸ Heap.get?_push_size _ rfl))⟩
  have fresh : ∀ a, s1.heap.objs.size ≤ a → s1.heap.get? a = none := fun a ha => by
    cases e : s1.heap.get? a with
    | none => rfl
    | some o' => exact absurd (Heap.lt_size e) (Nat.not_lt.mpr ha)
  have fresh0 : ∀ a, s1.heap.get? a = none → s₀.heap.get? a = none := fun a ha => by
    cases e : s₀.heap.get? a with
    | none => rfl
    | some o' => rw [g1.keep a o' e] at ha; cases ha
  have fD := fresh s1.heap.objs.size (Nat.le_refl _)
  have fC := fresh H2.objs.size (by rw [hC]; exact Nat.le_succ _)
  have wrIn : ∀ x ∈ wr, x < s1.heap.objs.size := fun x hx => let ⟨_, ho⟩ := W.here _ _ _ _ T0 x hx; Heap.lt_size ho
  have g3' : Grow s1 { s1 with heap := h₁, toks := s1.toks + ([] : List (Str × Value)).length } := .of old
  have p3 : P0 Λ G1 { s1 with heap := h₁, toks := s1.toks + ([] : List (Str × Value)).length } := (hV.p0.grow g1 x1).grow g3' (.refl x1.sub g3')
  have loop : ∀ s₃ : Shared, s₃ = { s1 with heap := h₁, toks := s1.toks + ([] : List (Str × Value)).length } →
      codeAny (model prog w) A (.compLoop (.ListComp elt [⟨target, iter, ifs, 0⟩] scope pos) 0 (.ref I) (.ref s1.heap.objs.size) (compEnvC scope (closL env.cells scope.names []) H2.objs.size env))
        (RR (.ref s1.heap.objs.size) H2.objs.size) s₃ := by
    rintro s₃ rfl
    have g3 : Grow s1 { s1 with heap := h₁, toks := s1.toks + ([] : List (Str × Value)).length } := .of old
    refine comp_loop hr he hfit hV hc hcs W hsz hgw hturn (fresh0 _ fC) (fresh0 _ fD) hDC ⟨0, wr, G1, rfl, Nat.zero_le _, ?_, ?_, fun x hx => (hwr x hx).2, fun x hx => (hwr x hx).1, fun hm => (below _ (wrIn _ hm)).1 rfl, fun hm => (below _ (wrIn _ hm)).2 rfl⟩ ?_
    · exact W.frame _ _ _ _ _ _ T0 (.refl _) (fun a o e => old a o (x1.sub a o e)) p3 (fun x hx => (hwr x hx).2) (fun x _ o e => old x o e) (fun _ _ _ e => e)
    · exact ⟨g1.trans g3, x1.after g3, let ⟨k, e⟩ := hacc; ⟨_, e, #[], k, rfl, .nil⟩, ⟨_, hns₁⟩, PH.none_of_sub x1.sub fC, PH.none_of_sub x1.sub fD⟩
    · exact fun s' G' c => hRR _ _ s' G' (fresh0 _ fC) (fresh0 _ fD) hDC c
  refine codeAny_compStart_list (loop _ rfl) ?_
  refine W.self 0 wr G1 _ _ _ ?_ (loop _ rfl)
  exact W.frame _ _ _ _ _ _ T0 (.refl _) (fun a o e => old a o (x1.sub a o e)) p3 (fun x hx => (hwr x hx).2) (fun x _ o e => old x o e) (fun _ _ _ e => e)

theorem CInv.list {s₀ s : Shared} {G₀ G : PH} {C D : Addr} {ds : List PyData} (c : CInv Λ s₀ G₀ C D ds G s) (hD : s₀.heap.get? D = none) : ∃ G', Gx s₀ G₀ G' s ∧ G' C = none ∧ Rep G' (.ref D) (.list ds) ∧ G.le G' := by
  obtain ⟨items, hp, hA⟩ := c.acc
  obtain ⟨m, hn⟩ := c.ns
  obtain ⟨nn, hp'⟩ := id hp
  have hle : G.le (G.add D _) := PH.le_add (o := { cls := .type "list", data := .seq items nn }) c.noD
  refine ⟨_, ⟨c.gx.le.trans hle, fun a o e => ?_, fun a o e => ?_⟩, ?_, Rep.list PH.add_self rfl rfl rfl (hA.mono hle), hle⟩
  · unfold PH.add at e
    by_cases ha : a = D
    · subst ha; simp at e; subst e; exact hp'
    · simp [ha] at e; exact c.gx.sub a o e
  · unfold PH.add at e
    by_cases ha : a = D
    · subst ha; exact .inr hD
    · simp [ha] at e; exact c.gx.new a o e
  · have : C ≠ D := Ne.symm (plain_ne_ns hp hn)
    simp [PH.add, this, c.noC]

theorem comp_clos {env : Env} {scope : Scope} (he : EnvOk F env) (hc : CompOk F Fc scope) : closureFor scope env = pure (closL env.cells scope.names []) := closureFor_eq fun x hx hf => he.cell x.1 (hc.free x hx hf)

/-- a list comprehension -/
theorem Ev_comp {elt target iter : Expr} {ifs : List Expr} {scope : Scope} {pos : Pos} {len : Nat} {items : Nat → AV} (b : Nat → Bool) (out : Nat → PyData) (Fc : FS) (csc : List (Option AV)) (hfit : F.fit = true) (hc : CompOk F Fc scope)
    (hcs : ∀ (k : Nat) x av, Fc.cels[k]? = some x → csc[k]? = some (some av) → ∃ j : Nat, F.cels[j]? = some x ∧ cs[j]? = some (some av))
    (hit : Itb prog w Λ F n vs cs target iter len items) (hsz : len ≤ sizeLine)
    (hturn : ∀ i, i < len → ∃ vsc, Asg prog w Λ Fc n (List.replicate Fc.locs.length none) csc target (items i) vsc csc ∧ Tests prog w Λ Fc n vsc csc ifs (b i) ∧ (b i = true → Ev prog w Λ Fc n vsc csc elt (.dat (out i))))
    (hs : ∀ env x, foldedSetIterable iter env x = pure x := by intro _ _; rfl) : Ev prog w Λ F n vs cs (.ListComp elt [⟨target, iter, ifs, 0⟩] scope pos) (dL (outs b out len)) := ⟨fun A env G s E hr he hV => by
  rw [eval_ListComp]
  refine wpAny_comprehension_free (use := none) rfl (hs env) (comp_clos he hc) hc.kind hc.names (hit A env G s E _ hr he hV fun I wr gw T s1 G1 g1 x1 W T1 hwr hgw => ?_)
  refine comp_block (RR := fun acc C => compPost (model prog w) A E none _ acc C) hr he hfit hV hc hcs g1 x1 W T1 hwr hsz hgw hturn fun C D s' G' hC hD hDC c => ?_
  obtain ⟨m, hn⟩ := c.ns
  refine ⟨m, hn, fun h' hs' => ?_⟩
  obtain ⟨G2, x2, nC, hR, _⟩ := c.list hD
  refine ⟨⟨fun a o e => hs'.extBut a o (ne_of_get e (hC)) (c.grow.keep a o e), c.grow.gens, c.grow.bare, c.grow.os⟩, G2, ⟨x2.le, fun a o e => hs'.extBut a o (ne_of_get e (nC)) (x2.sub a o e), x2.new⟩, hR⟩⟩

/-- a list comprehension that a local name takes at once -/
theorem Ex_assignComp {elt target iter : Expr} {ifs : List Expr} {scope : Scope} {pos p1 p2 : Pos} {x : Str} {rest : List Stmt} {len : Nat} {items : Nat → AV} (k : Nat) (b : Nat → Bool) (out : Nat → PyData) (Fc : FS) (csc : List (Option AV)) (hfit : F.fit = true) (hro : F.ro = false) (hc : CompOk F Fc scope)
    (hcs : ∀ (k : Nat) x av, Fc.cels[k]? = some x → csc[k]? = some (some av) → ∃ j : Nat, F.cels[j]? = some x ∧ cs[j]? = some (some av))
    (hx : F.locs[k]? = some x) (hit : Itb prog w Λ F n vs cs target iter len items) (hsz : len ≤ sizeLine)
    (hturn : ∀ i, i < len → ∃ vsc, Asg prog w Λ Fc n (List.replicate Fc.locs.length none) csc target (items i) vsc csc ∧ Tests prog w Λ Fc n vsc csc ifs (b i) ∧ (b i = true → Ev prog w Λ Fc n vsc csc elt (.dat (out i))))
    (h2 : Ex prog w Λ F n (vs.set k (some (dL (outs b out len)))) cs rest P)
    (hsw : ∀ env : Env, env.scope = F.scope → swapsWith (.ListComp elt [⟨target, iter, ifs, 0⟩] scope pos) (some (.Name x p1)) p2.line env = pure true)
    (hs : ∀ env x, foldedSetIterable iter env x = pure x := by intro _ _; rfl) : Ex prog w Λ F n vs cs (.Assign [.Name x p1] (.ListComp elt [⟨target, iter, ifs, 0⟩] scope pos) p2 :: rest) P := ⟨fun A env B G gs s E hr he hS => by
  refine wpAny_execs_cons' ?_
  rw [exec_Assign_Name_used _ _ _ _ (hsw env he.scope)]
  refine wpAny_bind (wpAny_standAt (wpAny_bind ?_))
  show wpAny _ A (do let _ ← comprehension (.ListComp elt [⟨target, iter, ifs, 0⟩] scope pos) scope env _ (newList []) false (eval iter env) (some (assign (.Name x p1) env))) _ _ s
  have hV := hS.v
  refine wpAny_bind (wpAny_mono (wpAny_comprehension_free (use := some (assign (.Name x p1) env)) (Q := fun _ s' => wpAny (model prog w) A (execs rest env) (fun f s' => ∃ o, P o ∧ Post Λ F env B G gs o f s') E s') rfl (hs env) (comp_clos he hc) hc.kind hc.names
    (hit A env G s E _ hr he hV fun I wr gw T s1 G1 g1 x1 W T1 hwr hgw => ?_)) (fun _ s' hq => wpAny_pure (wpAny_pure hq)) fun _ _ e => e)
  refine comp_block (RR := fun acc C => compPost (model prog w) A E (some (assign (.Name x p1) env)) _ acc C) hr he hfit hV hc hcs g1 x1 W T1 hwr hsz hgw hturn fun C D s' G' hC hD hDC c => ?_
  show wpAny _ A (assign (.Name x p1) env (.ref D)) _ _ _
  obtain ⟨m, hn⟩ := c.ns
  obtain ⟨G2, x2, nC, hR, _⟩ := c.list hD
  have S2 := hS.grow c.grow x2
  obtain ⟨oC, hoC⟩ := Ns_get hn
  have ne : ∀ {a : Addr} {o : Obj}, s.heap.get? a = some o → a ≠ C := fun {a o} e => ne_of_get e (hC)
  have S3 : St Λ F env (ov B [C] s') G2 gs vs cs s' := by
    obtain ⟨m0, oa0, X0⟩ := hS
    have X : SB Λ F env B G2 gs vs cs s' m0 oa0 := { X0.toSV.grow c.grow x2, X0.toBk.grow c.grow x2 with nsB := X0.nsB, ownB := X0.ownB, celB := X0.celB }
    have out : ∀ {a : Addr} {o : Obj}, s.heap.get? a = some o → B a = none → ov B [C] s' a = none := fun {a o} ho hb => by
      unfold ov; rw [if_neg (by simpa using ne ho)]; exact hb
    exact ⟨m0, oa0, { X with
      base := fun a o e => by
        unfold ov at e
        split at e
        · exact e
        · exact X.base a o e
      apart := fun a o e => by
        by_cases ha : a = C
        · rw [ha]; exact nC
        · unfold ov at e; rw [if_neg (by simpa using ha)] at e; exact X.apart a o e
      nsB := let ⟨_, e⟩ := Ns_get X0.ns; out e X0.nsB
      ownB := fun k ds h => by
        have hlt := (List.getElem?_eq_some_iff.mp h).1
        have hlen := X0.len
        obtain ⟨v, _, hq⟩ := X0.loc k _ _ (List.getElem?_eq_getElem (by omega)) h
        obtain ⟨_, _, it, ⟨_, hp⟩, _⟩ := hq
        exact out hp (X0.ownB k ds h)
      celB := fun hro x hx c hc => by
        obtain ⟨k, hk⟩ := List.mem_iff_getElem?.mp hx
        obtain ⟨c', v, hc', ⟨o, ho, _⟩, _, _⟩ := X0.cel k x hk
        rw [hc] at hc'; cases hc'
        exact out ho (X0.celB hro x hx c hc) }⟩
  refine wpAny_assign_Name (S3.store (av := dL (outs b out len)) hfit he hx hR fun s4 S4 => ?_)
  have hoC4 : s4.heap.get? C = some oC := S4.bk.base C oC (by unfold ov; rw [if_pos (by simp)]; exact hoC)
  obtain ⟨o0, es, ep, e0, r0⟩ := hn
  rw [hoC] at e0; cases e0
  refine ⟨m, ⟨oC, es, ep, hoC4, r0⟩, fun h' hs' => ?_⟩
  have e4 := S4.reov (fun a ha => by simp at ha; subst ha; exact ⟨oC, hoC⟩)
  rw [e4] at S4
  have nC4 : G2 C = none := nC
  have S5 := S4.moved (s' := { s4 with heap := h' }) (wr' := [C]) (gw := fun _ => False) (G' := G2) ⟨fun a o ha e => hs'.extBut a o (by simpa using ha) e, fun _ _ _ e => e, id, rfl⟩
    ⟨.refl _, fun a o e => hs'.extBut a o (ne_of_get e (nC)) (S4.v.data a o e), fun _ _ e => .inl e⟩
    (fun a ha => by simp at ha; subst ha; exact ⟨PH.none_of_sub (G := Λ.h.get?) hV.old hC, PH.none_of_sub hS.bk.base hC⟩) (fun a ha => ⟨.inl ha, by simp at ha; subst ha; exact nC⟩) (fun _ _ _ h => h) (fun h => by rw [hro] at h; cases h)
  have S6 := S5.back (fun a ha => by simp at ha; subst ha; exact PH.none_of_sub hS.bk.base hC)
  exact wpAny_mono (h2.run A env B G2 gs _ E hr he S6) (fun f s6 ⟨o, a, b⟩ => ⟨o, a, b.mono x2.le⟩) fun _ _ x => x⟩
end
end Mine
end
section
open PySem PySem.W PyProof.Rows PySem.Calls
set_option Elab.async false
set_option linter.unusedVariables false
namespace Mine
section
variable {prog : Program} {w : World} {Λ : Glo} {F : FS} {n : Nat} {vs cs : List (Option AV)}

theorem Itr.of_walksT {A : Around} (hA : A.handled = none) {elts : List Expr} {kk : Nat} {tp : Pos} {I : Addr} {fp wrW wr : List Addr} {len : Nat} {items : Nat → AV} {Pt : Nat → Array Value → Prop} {StW : Nat → Heap → Prop} {Mid : Nat → Addr → Heap → Prop} {G0 : PH}
    (W : ∀ A : Around, A.handled = none → WalksT prog w A I fp wrW len Pt StW Mid) (hsub : ∀ b ∈ wrW, b ∈ wr)
    (hhere : ∀ i h, StW i h → ∀ b ∈ wr, ∃ o, h.get? b = some o) (hfp : ∀ b ∈ fp, b ∈ wr ∨ ∃ o, G0 b = some o) (hP : ∀ i vals, i < len → Pt i vals → ∃ ds, items i = dT ds ∧ RepAll G0 vals.toList ds) :
    Itr prog w Λ A (.Tuple elts kk tp) I (fun _ => False) len items (fun i wr' G s => wr' = wr ∧ G0.le G ∧ G.sub s.heap ∧ StW i s.heap) where
  frame := fun i wr' G G' s s' ⟨h0, h1, h2, h3⟩ hl hs _ hn hk _ => ⟨h0, h1.trans hl, hs, (W {} rfl).frame i _ _ h3 fun b hb o e => by
    subst h0
    rcases hfp b hb with h | ⟨o', h⟩
    · exact hk b h o e
    · have := h2 b o' (h1 b o' h); rw [e] at this; cases this; exact hs b o (hl b o (h1 b o h))⟩
  here := fun i wr' G s ⟨h0, _, _, h3⟩ => by subst h0; exact hhere i _ h3
  item := fun i wr' G s E Q hi hp ⟨h0, h1, h2, h3⟩ h4 hQ => by
    subst h0
    refine (W A hA).item i s _ _ hi h3 fun T vals h' tk hPt hTs hTup hMid hk => ?_
    refine (W A hA).go elts kk tp i T _ _ _ hMid fun h'' hst hk' => ?_
    have hTw : T ∉ wrW := (W A hA).apart i T _ hMid
    obtain ⟨o, ho, hc, nn, hd⟩ := hTup
    have ho'' := hk' T o hTw ho
    have hnone : s.heap.get? T = none := by
      cases hq : s.heap.get? T with
      | none => rfl
      | some o' => exact absurd (Heap.lt_size hq) (Nat.not_lt.mpr hTs)
    have hTw' : T ∉ wr' := fun hm => by
      obtain ⟨o', ho'⟩ := hhere i _ h3 T hm
      rw [hnone] at ho'; cases ho'
    have keep : ∀ b o, b ∉ wr' → s.heap.get? b = some o → h''.get? b = some o := fun b o hb e => hk' b o (fun hm => hb (hsub b hm)) (hk b o (fun hm => hb (hsub b hm)) e)
    have hGT : G T = none := PH.none_of_sub h2 hnone
    have hle : G.le (G.add T o) := PH.le_add hGT
    have hs' : (G.add T o).sub h'' := fun a oa e => by
      unfold PH.add at e
      by_cases ha : a = T
      · subst ha; simp at e; subst e; exact ho''
      · simp [ha] at e; exact keep a oa (fun hm => by rw [h4 a hm] at e; cases e) (h2 a oa e)
    obtain ⟨ds, hds, hA⟩ := hP i vals hi hPt
    refine hQ (.ref T) _ (G.add T o) wr' (Chg.of_keep keep) ⟨hle, hs', fun a oa e => ?_⟩ ⟨rfl, h1.trans hle, hs', hst⟩ (fun b hb => ⟨.inl hb, ?_⟩) ?_
    · unfold PH.add at e
      by_cases ha : a = T
      · subst ha; exact .inr hnone
      · simp [ha] at e; exact .inl e
    · have : b ≠ T := fun e => hTw' (e ▸ hb)
      simp [PH.add, this, h4 b hb]
    · rw [hds]; exact Rep.tuple PH.add_self hc hd (hA.mono (h1.trans hle))
  done := fun wr' G s E Q hp ⟨h0, h1, h2, h3⟩ h4 hQ => by
    subst h0
    exact (W A hA).done s _ _ h3 fun h' tk hk =>
      have keep : ∀ b o, b ∉ wr' → s.heap.get? b = some o → h'.get? b = some o := fun b o hb e => hk b o (fun hm => hb (hsub b hm)) e
      ⟨rfl, hQ _ (Chg.of_keep keep) fun a o e => keep a o (fun hm => by rw [h4 a hm] at e; cases e) (h2 a o e)⟩
  self := fun i wr' G s E Q ⟨_, _, _, h3⟩ hQ => (W A hA).self i s Q E h3 hQ

theorem Draws.strU {A : Around} (hh : A.handled = none) (it : Addr) (x : Str) (t : Tok) :
    Draws prog w A it [it] x.cps.size (fun i v => ∃ c u, x.cps[i]? = some c ∧ v = .str ⟨#[c]⟩ u) (fun i h => h.IsStrIter it (strIterType x) x t i) := by
  unfold strIterType
  split
  · exact Draws.strAscii hh it x t
  · exact Draws.strWide hh it x t

theorem none_old {s s1 : Shared} (g : Grow s s1) {a : Addr} (h : s1.heap.get? a = none) : s.heap.get? a = none := by
  cases hq : s.heap.get? a with
  | none => rfl
  | some o => rw [g.keep a o hq] at h; cases h
theorem none_ge {h : Heap} {a : Addr} (ha : h.objs.size ≤ a) : h.get? a = none := by
  cases hq : h.get? a with
  | none => rfl
  | some o => exact absurd (Heap.lt_size hq) (Nat.not_lt.mpr ha)

/-- the items of a list, numbered -/
theorem Itb_enumL {elts : List Expr} {kk : Nat} {tp pos : Pos} {f e : Expr} {ds : List PyData} (h1 : Ev prog w Λ F n vs cs f (.raw (.type "enumerate"))) (h2 : Ev prog w Λ F n vs cs e (dL ds))
    (he : ∀ env, eval (.Call f [e] [] pos) env = (do callWith pos (← eval f env) [] (backTo pos (starEach [e] env)) (backToKw pos (keywordEach [] env))) := by intro _; rfl)
    (hs : ∀ env, starEach [e] env = (false, eval e env) :: starEach [] env := by intro _; rfl) :
    Itb prog w Λ F n vs cs (.Tuple elts kk tp) (.Call f [e] [] pos) ds.length (fun i => dT [.int i, ds.getD i .none]) := fun A env G s E Q hr hen hV hQ => by
  refine Call_ (h1.seq hr hen hV fun u s1 G1 g1 x1 V1 o1 => ?_) (he env)
  obtain rfl : u = _ := o1
  refine callWith_type1 (args_cons (h2.seq hr hen V1 fun v s2 G2 g2 x2 V2 o2 => args_nil ?_) (hs env)) (hs env) rfl
  obtain ⟨a, its, rfl, hGa, hl, hA⟩ := repList V2.data o2
  refine call_enumerate_list hl fun h' hE hI hsz hk => ?_
  have g3 : Grow s2 { s2 with heap := h' } := ⟨hk, fun _ _ e => e, id, rfl⟩
  refine wpAny_pyIter_enum hE ?_
  have gg := g1.trans g2
  have fr : ∀ b, b ∈ [s2.heap.objs.size + 1, s2.heap.objs.size] → s.heap.get? b = none ∧ G2 b = none := fun b hb => by
    have : s2.heap.objs.size ≤ b := by simp at hb; omega
    exact ⟨none_old gg (none_ge this), PH.none_of_sub x2.sub (none_ge this)⟩
  have hz : its.size = ds.length := by have := hA.length; simpa using this
  have halt : a < s2.heap.objs.size := by obtain ⟨o, ho, _⟩ := hl; exact Heap.lt_size ho
  have WW := fun (A : Around) (hA : A.handled = none) => WalksT.enumerateD (prog := prog) (w := w) (A := A) (Draws.list (prog := prog) (w := w) (A := A.in1) hA s2.heap.objs.size a (Nat.ne_of_lt halt) its) (s2.heap.objs.size + 1) (Nat.succ_ne_self _) (fun hm => by
    simp at hm
    rw [← hm] at halt
    exact Nat.lt_irrefl _ (Nat.lt_of_succ_lt halt)) (by simp)
  rw [hz] at WW
  refine hQ _ [s2.heap.objs.size + 1, s2.heap.objs.size] (fun _ => False) _ _ G2 (gg.trans g3) ((x1.trans g1 x2).after g3)
    (Itr.of_walksT hr.handled (G0 := G2) WW (fun b hb => hb) ?_ (fun b hb => ?_) ?_) ?_ fr (fun _ h => h.elim)
  · rintro i h ⟨⟨old, hE⟩, ⟨o, ho, _⟩, _⟩ b hb
    simp at hb
    rcases hb with rfl | rfl
    · exact ⟨_, hE⟩
    · exact ⟨_, ho⟩
  · simp at hb
    rcases hb with rfl | rfl | rfl
    · exact .inl (by simp)
    · exact .inl (by simp)
    · exact .inr (by cases hq : G2 b with
        | none => exact absurd hq hGa
        | some o => exact ⟨o, rfl⟩)
  · rintro i vals hi ⟨t', v, hv, rfl⟩
    obtain ⟨d, hd, hR⟩ := hA.get i v (by simpa using hv)
    refine ⟨_, rfl, .cons (.int _ _) (.cons ?_ .nil)⟩
    rw [getD_of hd]; exact hR
  · exact ⟨rfl, .refl _, fun b o e => hk b o (x2.sub b o e), ⟨⟨_, hE⟩, hI, hl.at fun o e => hk _ o e⟩⟩

/-- two lists side by side -/
theorem Itb_zip {elts : List Expr} {kk : Nat} {tp pos : Pos} {f e1 e2 : Expr} {ds es : List PyData} (hl : ds.length = es.length) (h1 : Ev prog w Λ F n vs cs f (.raw (.type "zip"))) (h2 : EvL prog w Λ F n vs cs [e1, e2] [dL ds, dL es])
    (he : ∀ env, eval (.Call f [e1, e2] [] pos) env = (do callWith pos (← eval f env) [] (backTo pos (starEach [e1, e2] env)) (backToKw pos (keywordEach [] env))) := by intro _; rfl)
    (hs : ∀ env, starEach [e1, e2] env = (false, eval e1 env) :: starEach [e2] env := by intro _; rfl) (hpl : ∀ env, (backTo pos (starEach [e2] env)).any (·.1) = false := by intro _; rfl) :
    Itb prog w Λ F n vs cs (.Tuple elts kk tp) (.Call f [e1, e2] [] pos) ds.length (fun i => dT [ds.getD i .none, es.getD i .none]) := fun A env G s E Q hr hen hV hQ => by
  refine Call_ (h1.seq hr hen hV fun u s1 G1 g1 x1 V1 o1 => ?_) (he env)
  obtain rfl : u = _ := o1
  refine callWith_type1 (h2.seq hr hen V1 fun us s2 G2 g2 x2 V2 o2 => ?_) (hs env) (hpl env)
  cases o2 with
  | cons q1 q2 => cases q2 with
    | cons q2 q3 =>
      cases q3
      obtain ⟨a, its, rfl, hGa, hl1, hA⟩ := repList V2.data q1
      obtain ⟨a', its', rfl, hGa', hl2, hA'⟩ := repList V2.data q2
      refine call_zip_2 hl1 hl2 fun h' hZ hTI hTO hI1 hI2 hsz hk => ?_
      have g3 : Grow s2 { s2 with heap := h' } := ⟨hk, fun _ _ e => e, id, rfl⟩
      refine wpAny_pyIter_zip hZ ?_
      have gg := g1.trans g2
      have fr : ∀ b, b ∈ [s2.heap.objs.size + 4, s2.heap.objs.size + 2, s2.heap.objs.size + 3, s2.heap.objs.size, s2.heap.objs.size + 1] → s.heap.get? b = none ∧ G2 b = none := fun b hb => by
        have : s2.heap.objs.size ≤ b := by simp at hb; omega
        exact ⟨none_old gg (none_ge this), PH.none_of_sub x2.sub (none_ge this)⟩
      have hz : its.size = ds.length := by have := hA.length; simpa using this
      have hz' : its'.size = ds.length := by have := hA'.length; rw [hl]; simpa using this
      have halt : a < s2.heap.objs.size := by obtain ⟨o, ho, _⟩ := hl1; exact Heap.lt_size ho
      have halt' : a' < s2.heap.objs.size := by obtain ⟨o, ho, _⟩ := hl2; exact Heap.lt_size ho
      have hmin : min its.size its'.size = ds.length := by omega
      have hap : ZipApart (s2.heap.objs.size + 4) (s2.heap.objs.size + 2) (s2.heap.objs.size + 3) s2.heap.objs.size (s2.heap.objs.size + 1) a a' := by
        have key : ∀ (z k k' : Nat), k < z → k' < z → ZipApart (z + 4) (z + 2) (z + 3) z (z + 1) k k' := by
          intro z k k' h h'
          constructor <;> (show @Ne Nat _ _; omega)
        exact key _ a a' halt halt'
      have WW := fun (A : Around) (hA : A.handled = none) => WalksT.zip2 (prog := prog) (w := w) (A := A) hA _ _ _ _ _ a a' hap its its'
      rw [hmin] at WW
      refine hQ _ [s2.heap.objs.size + 4, s2.heap.objs.size + 2, s2.heap.objs.size + 3, s2.heap.objs.size, s2.heap.objs.size + 1] (fun _ => False) _ _ G2 (gg.trans g3) ((x1.trans g1 x2).after g3)
        (Itr.of_walksT hr.handled (G0 := G2) (wr := [s2.heap.objs.size + 4, s2.heap.objs.size + 2, s2.heap.objs.size + 3, s2.heap.objs.size, s2.heap.objs.size + 1]) WW (fun b hb => by simp at hb ⊢; rcases hb with rfl | rfl | rfl | rfl <;> simp) ?_ (fun b hb => ?_) ?_) ?_ fr (fun _ h => h.elim)
      · rintro i h ⟨hz, hTI, ⟨_, _, hTO⟩, ⟨o1, ho1, _⟩, ⟨o2, ho2, _⟩, _⟩ b hb
        simp at hb
        rcases hb with rfl | rfl | rfl | rfl | rfl
        · exact ⟨_, hz⟩
        · exact ⟨_, hTI⟩
        · exact ⟨_, hTO⟩
        · exact ⟨_, ho1⟩
        · exact ⟨_, ho2⟩
      · simp at hb
        rcases hb with rfl | rfl | rfl | rfl | rfl | rfl | rfl
        · exact .inl (by simp)
        · exact .inl (by simp)
        · exact .inl (by simp)
        · exact .inl (by simp)
        · exact .inl (by simp)
        · exact .inr (by cases hq : G2 b with
            | none => exact absurd hq hGa
            | some o => exact ⟨o, rfl⟩)
        · exact .inr (by cases hq : G2 b with
            | none => exact absurd hq hGa'
            | some o => exact ⟨o, rfl⟩)
      · rintro i vals hi ⟨x, y, hx, hy, rfl⟩
        obtain ⟨d, hd, hR⟩ := hA.get i x (by simpa using hx)
        obtain ⟨d', hd', hR'⟩ := hA'.get i y (by simpa using hy)
        refine ⟨_, rfl, .cons ?_ (.cons ?_ .nil)⟩
        · rw [getD_of hd]; exact hR
        · rw [getD_of hd']; exact hR'
      · exact ⟨rfl, .refl _, fun b o e => hk b o (x2.sub b o e), ⟨hZ, hTI, ⟨_, _, hTO⟩, hI1, hI2, hl1.at fun o e => hk _ o e, hl2.at fun o e => hk _ o e⟩⟩
end
end Mine
end
section
open PySem PySem.W PyProof.Rows PySem.Calls
set_option Elab.async false
set_option linter.unusedVariables false
namespace Mine
section
variable {prog : Program} {w : World} {A : Around} {R : GenEnd} {Y : Protocol} {n : Nat} {s₀ : Shared} {c : Code} {fs : List Frame} {s : Shared} {env : Env}
  {K : Flow → Sem Fin} {H : Value → Sem Fin} {gd : Bool → Bool} {lv : List Value → List Value}

theorem seg_If {t : Expr} {bd o : List Stmt} {pos : Pos}
    (h : wpAny (model prog w) (A.over c fs) (isTrue t env (eval t env)) (fun b s' => Seg (model prog w) A R Y n s₀ c ((execs (if b then bd else o) env).wrap K H gd lv) fs s') (fun x s' => Seg (model prog w) A R Y n s₀ c (H x) fs s') s) :
    Seg (model prog w) A R Y n s₀ c ((exec (.If t bd o pos) env).wrap K H gd lv) fs s := by
  rw [exec_If]
  show Seg _ A R Y n s₀ c (.at pos fun _ => ((isTrue t env (eval t env) >>= fun b => if b then execs bd env else execs o env) : Sem Flow).wrap K H gd lv) fs s
  refine seg_at ?_
  rw [Sem.bind_eq_wrap', Sem.wrap_wrap]
  refine seg_wrap (wpAny_mono h (fun b s' hb => ?_) fun x s' hx => hx)
  cases b <;> exact hb
theorem seg_stmt {st : Stmt} {rest : List Stmt}
    (h : wpAny (model prog w) (A.over c fs) (exec st env) (fun f s' => match f with | .next => Seg (model prog w) A R Y n s₀ c ((execs rest env).wrap K H gd lv) fs s' | f => Seg (model prog w) A R Y n s₀ c (K f) fs s') (fun x s' => Seg (model prog w) A R Y n s₀ c (H x) fs s') s) :
    Seg (model prog w) A R Y n s₀ c ((execs (st :: rest) env).wrap K H gd lv) fs s := by
  refine seg_execs_cons (seg_wrap (wpAny_mono h (fun f s' hf => ?_) fun _ _ x => x))
  cases f <;> exact hf
/-- what stands behind a for's own run, within a generator -/
noncomputable def forBack (env : Env) (K : Flow → Sem Fin) (H : Value → Sem Fin) (gd : Bool → Bool) (lv : List Value → List Value) (r : Result) : Sem Fin :=
  ((match r with | .ok f => (.pure f : Sem Flow) | .error e => .raise e).onRaise fun (x : Value) => do
        if (← field x 1) == Value.none then unsupported "frame.own-activation:exception-without-traceback"
        setFlight x env.frame).wrap K H gd lv
theorem seg_For {target iter : Expr} {body orelse : List Stmt} {pos : Pos}
    (h : wpAny (model prog w) (A.over c fs) (eval iter env) (fun x s1 => wpAny (model prog w) (A.over c fs) (pyIter x) (fun it s2 =>
      ∀ p, Seg (model prog w) A R Y n s₀ (.forLoop target it body orelse env) ((model prog w).den (.forLoop target it body orelse env)) (.ret (forBack env K H gd lv) none (gd false) (lv []) c p [] :: fs) s2)
      (fun x s' => Seg (model prog w) A R Y n s₀ c (H x) fs s') s1) (fun x s' => Seg (model prog w) A R Y n s₀ c (H x) fs s') s)
    (hs : ∀ x, foldedSetIterable iter env x = pure x) (hl : ∀ it, lv it = it) :
    Seg (model prog w) A R Y n s₀ c ((exec (.For target iter body orelse pos) env).wrap K H gd lv) fs s := by
  rw [exec_For]
  show Seg _ A R Y n s₀ c (.at pos fun _ => ((eval iter env >>= fun x0 => foldedSetIterable iter env x0 >>= fun x => standAt iter.pos >>= fun _ => holding [x] (pyIter x) >>= fun it => runOwn (.forLoop target it body orelse env) env) : Sem Flow).wrap K H gd lv) fs s
  refine seg_at ?_
  rw [Sem.bind_eq_wrap', Sem.wrap_wrap]
  refine seg_wrap (wpAny_mono h (fun x s1 h1 => ?_) fun x s' hx => hx)
  rw [hs x]
  show Seg _ A R Y n s₀ c (.at iter.pos fun _ => ((holding [x] (pyIter x) >>= fun it => runOwn (.forLoop target it body orelse env) env) : Sem Flow).wrap K H gd lv) fs s1
  refine seg_at ?_
  rw [Sem.bind_eq_wrap', Sem.wrap_wrap]
  refine seg_wrap (wpAny_holding (wpAny_mono h1 (fun it s2 h2 => ?_) fun x s' hx => hx))
  exact seg_call h2
end
section
variable {prog : Program} {w : World} {A : Around} {R : GenEnd} {Y : Protocol} {n : Nat} {s₀ : Shared} {fs : List Frame} {s : Shared} {env : Env}
noncomputable def loopK (target : Expr) (it : Value) (body orelse : List Stmt) (env : Env) : Flow → Sem Fin
  | .next | .cont => .pure (.again (.forLoop target it body orelse env))
  | .brk => .pure (.done .next)
  | .ret v => .pure (.done (.ret v))
noncomputable def loopH (env : Env) (e : Value) : Sem Fin := (do noteFrame e env; theTreesLotGoes e : Sem Unit).wrap (fun _ => .raise e) .raise id id
theorem seg_forLoop {target : Expr} {it : Value} {body orelse : List Stmt}
    (h : wpAny (model prog w) (A.over (.forLoop target it body orelse env) fs) (pyNext it) (fun r s1 => match r with
        | none => Seg (model prog w) A R Y n s₀ (.forLoop target it body orelse env) (.pure (.again (.block orelse env))) fs s1
        | some v => wpAny (model prog w) (A.over (.forLoop target it body orelse env) fs) (letOwnedTupleGo target it v) (fun _ s2 =>
          wpAny (model prog w) (A.over (.forLoop target it body orelse env) fs) (assign target env v) (fun _ s3 =>
            Seg (model prog w) A R Y n s₀ (.forLoop target it body orelse env) ((execs body env).wrap (loopK target it body orelse env) (loopH env) id id) fs s3)
            (fun _ _ => False) s2) (fun _ _ => False) s1) (fun _ _ => False) s) :
    Seg (model prog w) A R Y n s₀ (.forLoop target it body orelse env) ((model prog w).den (.forLoop target it body orelse env)) fs s := by
  show Seg _ A R Y n s₀ _ ((forTurn target it body orelse env).onRaise (fun x => do noteFrame x env; theTreesLotGoes x)) fs s
  unfold forTurn
  rw [Sem.onRaise_eq_wrap]
  show Seg _ A R Y n s₀ _ (.at target.pos fun _ => (((pyNext it).onRaise (fun _ => standAt { target.pos with line := 0 }) >>= fun r => match r with
    | none => again (.block orelse env)
    | some v => letOwnedTupleGo target it v >>= fun _ => assign target env v >>= fun _ => execs body env >>= fun f => match f with
      | .next | .cont => again (.forLoop target it body orelse env)
      | .brk => pure (.done .next)
      | .ret v => pure (.done (.ret v))) : Sem Fin).wrap _ _ id id) fs s
  refine seg_at ?_
  rw [Sem.bind_eq_wrap', Sem.wrap_wrap]
  refine seg_wrap (wpAny_onRaise (wpAny_mono h (fun r s1 h1 => ?_) fun _ _ x => x.elim))
  cases r with
  | none => exact h1
  | some v =>
    show Seg _ A R Y n s₀ _ ((letOwnedTupleGo target it v >>= fun _ => assign target env v >>= fun _ => execs body env >>= fun f => match f with
      | .next | .cont => again (.forLoop target it body orelse env)
      | .brk => pure (.done .next)
      | .ret v => pure (.done (.ret v)) : Sem Fin).wrap _ _ _ _) fs s1
    rw [Sem.bind_eq_wrap', Sem.wrap_wrap]
    refine seg_wrap (wpAny_mono h1 (fun _ s2 h2 => ?_) fun _ _ x => x.elim)
    show Seg _ A R Y n s₀ _ ((assign target env v >>= fun _ => execs body env >>= fun f => match f with
      | .next | .cont => again (.forLoop target it body orelse env)
      | .brk => pure (.done .next)
      | .ret v => pure (.done (.ret v)) : Sem Fin).wrap _ _ _ _) fs s2
    rw [Sem.bind_eq_wrap', Sem.wrap_wrap]
    refine seg_wrap (wpAny_mono h2 (fun _ s3 h3 => ?_) fun _ _ x => x.elim)
    show Seg _ A R Y n s₀ _ ((execs body env >>= fun f => match f with
      | .next | .cont => again (.forLoop target it body orelse env)
      | .brk => pure (.done .next)
      | .ret v => pure (.done (.ret v)) : Sem Fin).wrap _ _ _ _) fs s3
    rw [Sem.bind_eq_wrap', Sem.wrap_wrap]
    rw [Sem.wrap_congr (execs body env) _ _ (K' := loopK target it body orelse env) (H' := loopH env) (fun f => by cases f <;> rfl) (fun e => by
      show (do noteFrame e env; theTreesLotGoes e : Sem Unit).bind (fun _ => .raise e) = _; rw [Sem.bind_eq_wrap]; rfl)]
    exact h3
end
end Mine
end
section
open PySem PySem.W PyProof.Rows PySem.Calls
set_option Elab.async false
set_option linter.unusedVariables false
set_option maxRecDepth 100000
namespace Mine

/-- the pieces that the generator yields, from place p on; e: a backslash stands open -/
noncomputable def esc : Nat → Bool → List Nat → List (Nat × List Nat)
  | p, e, [] => if e then [(p - 1, [92])] else []
  | p, true, c :: r => (p, [92, c]) :: esc (p + 1) false r
  | p, false, c :: r => if c = 92 then esc (p + 1) true r else (p, [c]) :: esc (p + 1) false r

noncomputable def fTarget : Stmt → Expr
  | .For t .. => t
  | _ => .Name Str.empty ⟨0, 0, 0, 0⟩
noncomputable def fIter : Stmt → Expr
  | .For _ i .. => i
  | _ => .Name Str.empty ⟨0, 0, 0, 0⟩
noncomputable def fBody : Stmt → List Stmt
  | .For _ _ b .. => b
  | _ => []
noncomputable def gFor : Stmt := (dBody (stmtAt 2)).getD 2 (.Pass ⟨0, 0, 0, 0⟩)
noncomputable def gRest : List Stmt := (dBody (stmtAt 2)).drop 3

structure GEnv (env : Env) (L : Addr) : Prop where
  kind : env.scope.kind = .function
  co : env.scope.isCoroutine = false
  loc : env.locals = L
  glob : env.globals = mainGlobals
  bi : env.builtins = builtinsNs
  kpos : env.kindOf (Str.ofString "pos") = some .local
  kch : env.kindOf (Str.ofString "ch") = some .local
  kesc : env.kindOf (Str.ofString "escape") = some .local
  kaddr : env.kindOf (Str.ofString "addr") = some .local
  kenum : env.kindOf (Str.ofString "enumerate") = some .globalImplicit

/-- the generator's own state, i signs taken -/
structure GS (L e it : Addr) (x : List Nat) (t : Tok) (i : Nat) (b : Bool) (h : Heap) : Prop where
  ns : ∃ m tp, h.Ns L m ∧ m (Str.ofString "escape") = some (.bool b) ∧ m (Str.ofString "pos") = some (.int ((i - 1 : Nat) : Int) tp)
  en : ∃ old, IsEnum h e it i old
  si : h.IsStrIter it (strIterType (S x)) (S x) t i
  Le : L ≠ e
  Li : L ≠ it
  ei : e ≠ it

/-- a state from which the generator may be woken again -/
structure Good (Λ : Glo) (wr : List Addr) (s s' : Shared) : Prop where
  wr : ∀ b ∈ wr, ∀ o, s.heap.get? b = some o → s'.heap.get? b = some o
  old : ∀ b o, Λ.h.get? b = some o → s'.heap.get? b = some o

/-- what a wake has changed -/
structure Woke (wr : List Addr) (s₀ s : Shared) : Prop where
  keep : ∀ b o, b ∉ wr → s₀.heap.get? b = some o → s.heap.get? b = some o
  gens : s.gens = s₀.gens
  os : s.os = s₀.os

noncomputable def gEnd (wr : List Addr) (n : Nat) (s₀ s : Shared) : Prop := n = 0 ∧ Woke wr s₀ s
noncomputable def gR (wr : List Addr) : GenEnd := fun n s₀ r s => r = .ok (.ret .none) ∧ gEnd wr n s₀ s
noncomputable def gY (Λ : Glo) (wr : List Addr) (wrN : Nat → List Addr) (its : List (Nat × List Nat)) : Protocol := fun n s₀ v s kap =>
  Woke wr s₀ s ∧ (∃ (t : Addr) (o : Obj) (q : Nat × List Nat) (vs : Array Value) (k : Nat) (t1 t2 : Tok), v = .ref t ∧ n < its.length ∧ its[its.length - 1 - n]? = some q ∧ s₀.heap.get? t = none ∧ s.heap.get? t = some o ∧ o.cls = .type "tuple" ∧ o.data = .seq vs k ∧
    vs = #[.int (q.1 : Int) t1, .str (S q.2) t2] ∧ t ∉ wr) ∧ (∀ b ∈ wrN n, ∃ o, s.heap.get? b = some o) ∧ ∀ s', Good Λ (wrN n) s s' → kap (.send .none) s'

section
variable {w : World} {Λ : Glo} {A : Around} {L e it : Addr} {x : List Nat} {t : Tok} {env : Env} {s₀ s : Shared} {c : Code} {fs : List Frame} {E : Value → Shared → Prop}

theorem Woke.set {wr : List Addr} {a : Addr} {h' : Heap} {tk : Nat} (x : Woke wr s₀ s) (ha : a ∈ wr) (hs : Heap.SameBut a s.heap h') : Woke wr s₀ { s with heap := h', toks := tk } :=
  ⟨fun b o hb e => hs.extBut b o (fun h => hb (h ▸ ha)) (x.keep b o hb e), x.gens, x.os⟩
theorem Woke.more {wr : List Addr} {h' : Heap} {tk : Nat} (x : Woke wr s₀ s) (hk : ∀ b o, b ∉ wr → s.heap.get? b = some o → h'.get? b = some o) : Woke wr s₀ { s with heap := h', toks := tk } :=
  ⟨fun b o hb e => hk b o hb (x.keep b o hb e), x.gens, x.os⟩

theorem name_loc {M : Model} {m : Str → Option Value} {y : Str} {p : Pos} {v : Value} {Q : Value → Shared → Prop} (ge : GEnv env L) (hk : env.kindOf y = some .local) (hn : s.heap.Ns L m) (hv : m y = some v) (h : Q v s) (hd : (y == ("__debug__" : Str)) = false := by decide) :
    wpAny M A (eval (.Name y p) env) Q E s := wpAny_Name (wpAny_loadName_local ge.kind hk (ge.loc ▸ hn) hv h) hd
theorem store_loc {M : Model} {m : Str → Option Value} {y : Str} {v : Value} {Q : Unit → Shared → Prop} (ge : GEnv env L) (hk : env.kindOf y = some .local) (hn : s.heap.Ns L m)
    (h : ∀ h', h'.Ns L (fun z => if z = y then some v else m z) → Heap.SameBut L s.heap h' → Q () { s with heap := h', toks := s.toks + 1 }) :
    wpAny M A (storeName env y v) Q E s := by
  have := ge.loc
  subst this
  exact wpAny_storeName_local hk hn h (by rw [ge.kind]; rfl)
end

theorem ne_pe : Str.ofString "pos" ≠ Str.ofString "escape" := by decide
theorem ne_cp : Str.ofString "ch" ≠ Str.ofString "pos" := by decide
theorem ne_ce : Str.ofString "ch" ≠ Str.ofString "escape" := by decide

section
variable {w : World} {Λ : Glo} {A : Around} {L e it : Addr} {x : List Nat} {t : Tok} {env : Env} {c : Code}

theorem gs_keep {h h' : Heap} {i : Nat} {b : Bool} (g : GS L e it x t i b h) (hk : ∀ a ∈ [L, e, it], ∀ o, h.get? a = some o → h'.get? a = some o) : GS L e it x t i b h' := by
  obtain ⟨m, tp, hn, r1⟩ := g.ns
  obtain ⟨old, he⟩ := g.en
  obtain ⟨o, ho, r⟩ := g.si
  exact ⟨⟨m, tp, hn.at' fun o e => hk L (by simp) o e, r1⟩, ⟨old, hk e (by simp) _ he⟩, ⟨o, hk it (by simp) _ ho, r⟩, g.Le, g.Li, g.ei⟩
theorem gs_here {h : Heap} {i : Nat} {b : Bool} (g : GS L e it x t i b h) : ∀ a ∈ [L, e, it], ∃ o, h.get? a = some o := by
  intro a ha
  simp at ha
  rcases ha with rfl | rfl | rfl
  · obtain ⟨m, tp, hn, _⟩ := g.ns; exact Ns_get hn
  · obtain ⟨old, he⟩ := g.en; exact ⟨_, he⟩
  · obtain ⟨o, ho, _⟩ := g.si; exact ⟨_, ho⟩

theorem gen_tuple {M : Model} {s : Shared} {E : Value → Shared → Prop} {m : Str → Option Value} {P : Int} {tp : Tok} {p1 p : Pos} {k : Nat} {e2 : Expr} {y : List Nat} {Q : Value → Shared → Prop} (ge : GEnv env L) (hn : s.heap.Ns L m) (hp : m (Str.ofString "pos") = some (.int P tp))
    (h2 : ∀ (E' : Value → Shared → Prop) (Q' : Value → Shared → Prop), (∀ t2 tk, Q' (.str (S y) t2) { s with toks := tk }) → wpAny M A (eval e2 env) Q' E' s)
    (hs : starEach [e2] env = (false, eval e2 env) :: starEach [] env)
    (hQ : ∀ t2 tk, Q (.ref s.heap.objs.size) { s with heap := s.heap.push { cls := .type "tuple", data := .seq #[.int P tp, .str (S y) t2] }, toks := tk }) :
    wpAny M A (eval (.Tuple [.Name (Str.ofString "pos") p1, e2] k p) env) Q E s :=
  Tuple_ (args_cons (name_loc ge ge.kpos hn hp (args_cons (h2 _ _ fun t2 tk => args_nil (wpAny_newObj_type (hQ t2 tk) (by size_fits))) hs)) rfl)

theorem over_handled {A : Around} {c : Code} {fs : List Frame} (hh : A.handled = none) (hf : ∀ f ∈ fs, ∃ k g l c p kp, f = Frame.ret k none g l c p kp) : (A.over c fs).handled = none := by
  show (marksOver fs (A.handled, A.handled)).1 = none
  rw [hh]
  have key : ∀ fs : List Frame, (∀ f ∈ fs, ∃ k g l c p kp, f = Frame.ret k none g l c p kp) → ∀ a b, a = none → (marksOver fs (a, b)).1 = none := by
    intro fs
    induction fs with
    | nil => intro _ a b h; exact h
    | cons f r ih =>
      intro h a b hab
      obtain ⟨k, g, l, c, p, kp, rfl⟩ := h f List.mem_cons_self
      have := ih (fun f hf => h f (List.mem_cons_of_mem _ hf)) a b hab
      first
        | exact this
        | (simp only [marksOver, markOver]; first | exact this | simpa using this)
  exact key fs hf none none rfl

/-- does a backslash stand open at the end -/
noncomputable def escOpen : Bool → List Nat → Bool
  | b, [] => b
  | true, _ :: r => escOpen false r
  | false, c :: r => if c = 92 then escOpen true r else escOpen false r
theorem esc_open : ∀ (r : List Nat) (b : Bool) (p : Nat), escOpen b r = true → 0 < (esc p b r).length
  | [], b, p, h => by simp [escOpen] at h; subst h; simp [esc]
  | c :: r, true, p, h => by simp [esc]
  | c :: r, false, p, h => by
    unfold escOpen at h
    unfold esc
    split
    · rename_i hc; rw [if_pos hc] at h; exact esc_open r true _ h
    · simp
/-- the objects the generator keeps, n pieces to come -/
noncomputable def wrN (L e it : Addr) (fin : Bool) (n : Nat) : List Addr := if fin = true ∧ n = 0 then [L] else [L, e, it]
noncomputable def wrE (L e it : Addr) (fin : Bool) : List Addr := if fin = true then [L] else [L, e, it]

/-- one yield -/
theorem gen_yield {its : List (Nat × List Nat)} {fin : Bool} {n : Nat} {s₀ s : Shared} {fs : List Frame} {K : Flow → Sem Fin} {H : Value → Sem Fin} {q : Nat × List Nat} {m : Str → Option Value} {tp : Tok} {e2 : Expr} {p1 p yp sp : Pos} {k : Nat} (ge : GEnv env L)
    (hfs : splitAtGen fs = none) (hfg : fs.any Frame.guarded = false) (hlt : n < its.length) (hq : its[its.length - 1 - n]? = some q) (hn : s.heap.Ns L m) (hp : m (Str.ofString "pos") = some (.int (q.1 : Int) tp)) (wk : Woke [L, e, it] s₀ s)
    (hsz : ∀ a ∈ [L, e, it], a < s.heap.objs.size) (here : ∀ a ∈ wrN L e it fin n, ∃ o, s.heap.get? a = some o)
    (h2 : ∀ (E' : Value → Shared → Prop) (Q' : Value → Shared → Prop), (∀ t2 tk, Q' (.str (S q.2) t2) { s with toks := tk }) → wpAny (model pr w) (A.over c fs) (eval e2 env) Q' E' s)
    (hs : starEach [e2] env = (false, eval e2 env) :: starEach [] env)
    (hnext : ∀ s', (∀ a ∈ wrN L e it fin n, ∀ o, s.heap.get? a = some o → s'.heap.get? a = some o) → (∀ b o, Λ.h.get? b = some o → s'.heap.get? b = some o) → Seg (model pr w) A (gR (wrE L e it fin)) (gY Λ [L, e, it] (wrN L e it fin) its) n s' c (K .next) fs s') :
    Seg (model pr w) A (gR (wrE L e it fin)) (gY Λ [L, e, it] (wrN L e it fin) its) (n + 1) s₀ c ((exec (.Expr (.Yield (some (.Tuple [.Name (Str.ofString "pos") p1, e2] k p)) yp) sp) env).wrap K H id id) fs s := by
  refine seg_Expr_Yield hfs rfl hfg (gen_tuple ge hn hp h2 hs fun t2 tk => fun kap hkap => ?_) ge.co (by unfold interactive; rw [ge.kind]; rfl)
  have hT : ∀ a ∈ [L, e, it], a ≠ s.heap.objs.size := fun a ha => Nat.ne_of_lt (hsz a ha)
  refine ⟨wk.more fun b o _ e => Heap.get?_push_of_some _ e, ⟨_, _, q, _, _, tp, t2, rfl, hlt, hq, ?_, Heap.get?_push_size _ rfl, rfl, rfl, rfl, fun hm => hT _ hm rfl⟩, fun a ha => ?_, fun s' hg => hkap .none s' ?_⟩
  · cases hq' : s₀.heap.get? s.heap.objs.size with
    | none => rfl
    | some o => have := wk.keep _ o (fun hm => hT _ hm rfl) hq'; rw [get?_size] at this; cases this
  · obtain ⟨o, ho⟩ := here a ha; exact ⟨o, Heap.get?_push_of_some _ ho⟩
  · exact hnext s' (fun a ha o ho => hg.wr a ha o (Heap.get?_push_of_some _ ho)) hg.old
end
end Mine
end
section
open PySem PySem.W PyProof.Rows PySem.Calls
set_option Elab.async false
set_option linter.unusedVariables false
set_option maxRecDepth 100000
namespace Mine
section
variable {w : World} {Λ : Glo} {A : Around} {L e it : Addr} {x : List Nat} {t : Tok} {env : Env} {c : Code} {its : List (Nat × List Nat)} {H : Value → Sem Fin} {fin : Bool}

noncomputable def retK (f : Flow) : Sem Fin := .pure (.done (.ret (match f with | .ret v => v | _ => .none)))

theorem seg_ret {n : Nat} {s₀ s : Shared} (hn : n = 0) (wk : Woke (wrE L e it fin) s₀ s) : Seg (model pr w) A (gR (wrE L e it fin)) (gY Λ [L, e, it] (wrN L e it fin) its) n s₀ c (retK .next) [] s :=
  seg_end (.ok (.ret .none)) ⟨rfl, hn, wk⟩

/-- behind the loop -/
theorem gen_end {s₀ s : Shared} {i n : Nat} {b : Bool} {m : Str → Option Value} {tp : Tok} (ge : GEnv env L) (hns : s.heap.Ns L m) (hesc : m (Str.ofString "escape") = some (.bool b)) (hpos : m (Str.ofString "pos") = some (.int ((i - 1 : Nat) : Int) tp))
    (hsz : ∀ a ∈ [L, e, it], a < s.heap.objs.size) (wk : Woke [L, e, it] s₀ s) (hfin : b = fin) (hn : (esc i b []).length = n) (hits : ∃ pre, its = pre ++ esc i b []) :
    Seg (model pr w) A (gR (wrE L e it fin)) (gY Λ [L, e, it] (wrN L e it fin) its) n s₀ c ((execs gRest env).wrap retK H id id) [] s := by
  refine seg_execs_cons (seg_If (isTrue_plain (by
    refine name_loc ge ge.kesc hns hesc (wpAny_pure ?_)
    cases b with
    | false =>
      refine seg_execs_nil (seg_ret (by simpa [esc] using hn.symm) ?_)
      rw [← hfin]; exact wk
    | true =>
      obtain ⟨pre, hits⟩ := hits
      have hn1 : n = 0 + 1 := by simpa [esc] using hn.symm
      subst hn1
      have hl : its.length = pre.length + 1 := by rw [hits]; simp [esc]
      have hw0 : wrN L e it fin 0 = [L] := by rw [← hfin]; simp [wrN]
      refine seg_execs_cons (gen_yield (q := (i - 1, [92])) ge rfl rfl (by omega) ?_ hns hpos wk hsz (fun a ha => ?_) (fun E' Q' h => wpAny_Constant_str (h _ _)) rfl fun s' _ old' => ?_)
      · rw [hl, hits]
        simp [esc]
      · rw [hw0] at ha
        simp at ha
        subst ha
        exact Ns_get hns
      · exact seg_execs_nil (seg_ret rfl ⟨fun _ _ _ e => e, rfl, rfl⟩)) rfl))
end
end Mine
end
section
open PySem PySem.W PyProof.Rows PySem.Calls
set_option Elab.async false
set_option linter.unusedVariables false
set_option maxRecDepth 100000
namespace Mine
section
variable {w : World} {Λ : Glo} {A : Around} {L e it : Addr} {x : List Nat} {t : Tok} {env : Env} {its : List (Nat × List Nat)} {fin : Bool}

noncomputable def gTgt : Expr := fTarget gFor
noncomputable def gBody : List Stmt := fBody gFor
noncomputable def lastK (env : Env) (H : Value → Sem Fin) (f : Flow) : Sem Fin := match f with | .next => (execs gRest env).wrap retK H id id | f => retK f

/-- the turn's item is taken -/
theorem gen_assign {s : Shared} {E : Value → Shared → Prop} {Q : Unit → Shared → Prop} {T : Addr} {m : Str → Option Value} {P : Int} {t1 t2 : Tok} {y : Str} {A : Around} (hA : A.handled = none) (ge : GEnv env L) (hn : s.heap.Ns L m) (hT : IsTup s.heap T #[.int P t1, .str y t2])
    (h : ∀ h' m' tk, h'.Ns L m' → m' (Str.ofString "escape") = m (Str.ofString "escape") → m' (Str.ofString "pos") = some (.int P t1) → m' (Str.ofString "ch") = some (.str y t2) → (∀ b o, b ≠ L → s.heap.get? b = some o → h'.get? b = some o) → Q () { s with heap := h', toks := tk }) :
    wpAny (model pr w) A (assign gTgt env (.ref T)) Q E s := by
  refine assign_Tuple_tuple hA hT rfl rfl fun h1 hx1 => ?_
  have k1 : ∀ b o, s.heap.get? b = some o → h1.get? b = some o := fun b o e => hx1 b o (Nat.ne_of_lt (Heap.lt_size e)) e
  show wpAny _ A (do holding _ (assign (.Name (Str.ofString "pos") _) env _); holding _ (assign (.Name (Str.ofString "ch") _) env _); pure ()) Q E _
  refine wpAny_bind (wpAny_holding (wpAny_assign_Name (store_loc ge ge.kpos (hn.keeps k1) fun h2 n2 s2 => ?_)))
  refine wpAny_bind (wpAny_holding (wpAny_assign_Name (store_loc ge ge.kch n2 fun h3 n3 s3 => wpAny_pure ?_)))
  refine h h3 _ _ n3 ?_ ?_ ?_ fun b o hb e => s3.extBut b o hb (s2.extBut b o hb (k1 b o e))
  · simp [Ne.symm ne_ce, Ne.symm ne_pe]
  · simp [Ne.symm ne_cp]
  · simp

theorem gs_ns' {h h' : Heap} {i : Nat} {b b' : Bool} (g : GS L e it x t i b h) (hs : Heap.SameBut L h h') (hn : ∃ m tp, h'.Ns L m ∧ m (Str.ofString "escape") = some (.bool b') ∧ m (Str.ofString "pos") = some (.int ((i - 1 : Nat) : Int) tp)) : GS L e it x t i b' h' := by
  obtain ⟨old, he⟩ := g.en
  obtain ⟨o, ho, r⟩ := g.si
  exact ⟨hn, ⟨old, (hs.2 e (Ne.symm g.Le)).trans he⟩, ⟨o, (hs.2 it (Ne.symm g.Li)).trans ho, r⟩, g.Le, g.Li, g.ei⟩
theorem gs_size {h : Heap} {i : Nat} {b : Bool} (g : GS L e it x t i b h) : ∀ a ∈ [L, e, it], a < h.objs.size := fun a ha => let ⟨o, ho⟩ := gs_here g a ha; Heap.lt_size ho

theorem gen_turns (ge : GEnv env L) (hA : A.handled = none) (hie : it < e) {c : Code} {p : Pos} {H : Value → Sem Fin} : ∀ (r : List Nat) (i : Nat) (b : Bool) (n : Nat) (s₀ s : Shared), i ≤ x.length → x.drop i = r → GS L e it x t i b s.heap → Woke [L, e, it] s₀ s →
    (esc i b r).length = n → (∃ pre, its = pre ++ esc i b r) → escOpen b r = fin →
    Seg (model pr w) A (gR (wrE L e it fin)) (gY Λ [L, e, it] (wrN L e it fin) its) n s₀ (.forLoop gTgt (.ref e) gBody [] env) ((model pr w).den (.forLoop gTgt (.ref e) gBody [] env)) [.ret (forBack env (lastK env H) H id id) none (id false) (id []) c p []] s := by
  intro r
  have hO : ∀ cc, ((A.over cc [Frame.ret (forBack env (lastK env H) H id id) none (id false) (id []) c p []])).handled = none := fun cc => over_handled hA (by intro f hf; simp at hf; exact ⟨_, _, _, _, _, _, hf⟩)
  have WW := fun (A : Around) (hA : A.handled = none) (hne : e ≠ it) => WalksT.enumerateD (prog := pr) (w := w) (A := A) (Draws.strU (prog := pr) (w := w) (A := A.in1) hA it (S x) t) e hne (by simpa using hne) (by simp)
  have hlen : (S x).cps.size = x.length := by simp
  rw [hlen] at WW
  induction r with
  | nil =>
    intro i b n s₀ s hi hd g wk hn hits hfin
    have hil : i = x.length := by have := List.drop_eq_nil_iff.mp hd; omega
    obtain ⟨m, tp, hns, hesc, hpos⟩ := g.ns
    refine seg_forLoop ?_
    obtain ⟨old, hen⟩ := g.en
    have hsi : s.heap.IsStrIter it (strIterType (S x)) (S x) t (S x).cps.size := by rw [hlen, ← hil]; exact g.si
    have DD := fun (A : Around) (hA : A.handled = none) => Draws.strU (prog := pr) (w := w) (A := A.in1) hA it (S x) t
    refine wpAny_pyNext_enum_endD (DD _ (hO _)) hen hsi fun h' hk => ?_
    refine seg_again rfl ?_
    refine seg_leaf (.ok .next) ?_
    have hL' := hns.at' fun o ho => hk L o g.Li ho
    have he' := hk e _ g.ei hen
    refine gen_end (s := { s with heap := h' }) ge hL' hesc hpos ?_ (wk.more fun b o hb he => hk b o (fun hm => hb (by simp [hm])) he) hfin hn hits
    intro a ha
    simp at ha
    have h1 := Heap.lt_size he'
    obtain ⟨_, h2⟩ := Ns_get hL'
    have h2 := Heap.lt_size h2
    show a < h'.objs.size
    rcases ha with rfl | rfl | rfl
    · exact h2
    · exact h1
    · exact Nat.lt_trans hie h1
  | cons ch r ih =>
    intro i b n s₀ s hi hd g wk hn hits hfin
    have hx : x[i]? = some ch := by
      have := congrArg (·[0]?) hd
      simpa using this
    have hi' : i < x.length := (List.getElem?_eq_some_iff.mp hx).1
    have hd' : x.drop (i + 1) = r := by
      have := congrArg List.tail hd
      simpa using this
    obtain ⟨m, tp, hns, hesc, hpos⟩ := g.ns
    have Li := g.Li; have Le := g.Le; have Ei := g.ei
    refine seg_forLoop ?_
    refine (WW _ (hO _) g.ei).item i s _ _ hi' ⟨g.en, g.si⟩ fun T vals h1 tk1 hPt hTs hTup hMid k1 => ?_
    refine (WW _ (hO _) g.ei).go _ _ _ i T _ _ _ hMid fun h2 hst k2 => ?_
    have hTw := (WW _ (hO (.forLoop gTgt (.ref e) gBody [] env)) g.ei).apart i T _ hMid
    obtain ⟨o, ho, hc, nn, hdT⟩ := hTup
    obtain ⟨t1, v, ⟨c', u, hc', rfl⟩, rfl⟩ := hPt
    have hcc : c' = ch := by
      have h : x[i]? = some c' := by simpa using hc'
      rw [hx] at h; cases h; rfl
    subst hcc
    have hT2 : IsTup h2 T #[.int (i : Int) t1, .str ⟨#[c']⟩ u] := ⟨o, k2 T o hTw ho, hc, nn, hdT⟩
    have hLk : L ∉ [e, it] := by simp [Le, Li]
    refine gen_assign (hO _) ge (hns.at' fun o ho => k2 L o hLk (k1 L o hLk ho)) hT2 fun h3 m3 tk3 n3 e3 p3 c3 k3 => ?_
    have en3 : ∃ old, IsEnum h3 e it ((i + 1 : Nat) : Int) old := let ⟨old, h⟩ := hst.1; ⟨old, k3 e _ (Ne.symm Le) h⟩
    have si3 : h3.IsStrIter it (strIterType (S x)) (S x) t (i + 1) := let ⟨o, ho, r⟩ := hst.2; ⟨o, k3 it o (Ne.symm Li) ho, r⟩
    have keep : ∀ b o, b ∉ [L, e, it] → s.heap.get? b = some o → h3.get? b = some o := fun b o hb h => by
      have hb2 : b ∉ [e, it] := fun hm => hb (List.mem_cons_of_mem _ hm)
      exact k3 b o (fun hm => hb (by simp [hm])) (k2 b o hb2 (k1 b o hb2 h))
    have wk3 : Woke [L, e, it] s₀ { s with heap := h3, toks := tk3 } := wk.more keep
    have g3 : GS L e it x t (i + 1) b h3 := ⟨⟨m3, t1, n3, e3.trans hesc, by simpa using p3⟩, en3, si3, Le, Li, Ei⟩
    have hz3 := gs_size g3
    refine seg_execs_cons (seg_If (isTrue_plain (name_loc ge ge.kesc n3 (e3.trans hesc) (wpAny_pure ?_)) rfl))
    obtain ⟨pre, hits⟩ := hits
    cases b with
    | true =>
      simp only [esc, List.length_cons] at hn hits
      subst hn
      have hfin' : escOpen false r = fin := by simpa [escOpen] using hfin
      have hwN : wrN L e it fin (esc (i + 1) false r).length = [L, e, it] := by
        unfold wrN
        rw [if_neg]
        rintro ⟨rfl, h0⟩
        have := esc_open r false (i + 1) hfin'
        omega
      refine seg_execs_cons (gen_yield (s := { s with heap := h3, toks := tk3 }) (q := (i, [92, c'])) ge rfl rfl ?_ ?_ n3 p3 wk3 hz3 (by rw [hwN]; exact gs_here g3) (fun E' Q' h => ?_) rfl fun s' hg old' => ?_)
      · rw [hits]; simp; omega
      · rw [hits]; simp [List.getElem?_append]
      · refine wpAny_BinOp (wpAny_Constant_str (name_loc (s := { s with heap := h3, toks := _ }) ge ge.kch n3 c3 (PyProof.Rows.add_str (fun t' tk => h t' tk) (by size_fits))))
      · rw [hwN] at hg
        have g4 := gs_keep g3 hg
        obtain ⟨m4, tp4, n4, e4, p4⟩ := g4.ns
        refine seg_stmt (wpAny_Assign_Name (wpAny_Constant_bool (store_loc ge ge.kesc n4 fun h5 n5 s5 => ?_)) rfl)
        refine seg_again rfl (ih (i + 1) false _ s' _ hi' hd' (gs_ns' g4 s5 ⟨_, tp4, n5, by simp, by simpa [ne_pe] using p4⟩) ⟨fun b o hb h => s5.extBut b o (fun hm => hb (by simp [hm])) h, rfl, rfl⟩ rfl ⟨pre ++ [(i, [92, c'])], by rw [hits]; simp⟩ hfin')
    | false =>
      refine seg_execs_cons (seg_If (wpAny_isTrue_Compare1 (name_loc ge ge.kch n3 c3 (wpAny_Constant_str (PyProof.Rows.eq_str (s := { s with heap := h3, toks := _ }) (wpAny_pure ?_)))) (by with_unfolding_all rfl)))
      have hEq : ((⟨#[c']⟩ : Str) == ("\\" : Str)) = (c' == 92) := by
        show (S [c'] == S [92]) = _
        rw [S_beq]; simp
      rw [hEq]
      by_cases h92 : c' = 92
      · subst h92
        simp only [esc, if_true] at hn hits
        refine seg_stmt (wpAny_Assign_Name (wpAny_Constant_bool (store_loc (s := { s with heap := h3, toks := _ }) ge ge.kesc n3 fun h5 n5 s5 => ?_)) rfl)
        refine seg_again rfl (ih (i + 1) true _ s₀ _ hi' hd' (gs_ns' g3 s5 ⟨_, t1, n5, by simp, by simpa [ne_pe] using p3⟩) (wk3.set (a := L) (by simp) s5) hn ⟨pre, hits⟩ (by simpa [escOpen] using hfin))
      · simp only [esc, if_neg h92, List.length_cons] at hn hits
        subst hn
        have hfin' : escOpen false r = fin := by simpa [escOpen, h92] using hfin
        have hwN : wrN L e it fin (esc (i + 1) false r).length = [L, e, it] := by
          unfold wrN
          rw [if_neg]
          rintro ⟨rfl, h0⟩
          have := esc_open r false (i + 1) hfin'
          omega
        rw [show (c' == 92) = false by simp [h92]]
        refine seg_execs_cons (gen_yield (s := { s with heap := h3, toks := _ }) (q := (i, [c'])) ge rfl rfl ?_ ?_ n3 p3 (wk.more keep) hz3 (by rw [hwN]; exact gs_here g3) (fun E' Q' h => ?_) rfl fun s' hg old' => ?_)
        · rw [hits]; simp; omega
        · rw [hits]; simp [List.getElem?_append]
        · exact name_loc (s := { s with heap := h3, toks := _ }) ge ge.kch n3 c3 (h _ _)
        · rw [hwN] at hg
          have g4 := gs_keep g3 hg
          exact seg_again rfl (ih (i + 1) false _ s' s' hi' hd' g4 ⟨fun _ _ _ h => h, rfl, rfl⟩ rfl ⟨pre ++ [(i, [c'])], by rw [hits]; simp⟩ hfin')
end
end Mine
end
section
open PySem PySem.W PyProof.Rows PySem.Calls
set_option Elab.async false
set_option linter.unusedVariables false
set_option maxRecDepth 100000
namespace Mine
section
variable {w : World} {Λ : Glo} {A : Around} {L : Addr} {x : List Nat} {t : Tok} {env : Env}

noncomputable abbrev gStmts : List Stmt := dBody (stmtAt 2)
theorem gen_start (hΛ : GloOk Λ) (hmg : Λ.mg (Str.ofString "enumerate") = none) (ge : GEnv env L) (hA : A.handled = none) (s : Shared) (hold : ∀ b o, Λ.h.get? b = some o → s.heap.get? b = some o) (hL : Λ.h.get? L = none)
    {m : Str → Option Value} (hns : s.heap.Ns L m) (haddr : m (Str.ofString "addr") = some (.str (S x) t)) :
    Seg (model pr w) A (gR (wrE L (s.heap.objs.size + 1) s.heap.objs.size (escOpen false x))) (gY Λ [L, s.heap.objs.size + 1, s.heap.objs.size] (wrN L (s.heap.objs.size + 1) s.heap.objs.size (escOpen false x)) (esc 0 false x)) (esc 0 false x).length s
      (.func gStmts env) ((model pr w).den (.func gStmts env)) [] s := by
  refine seg_func ?_
  refine seg_stmt (wpAny_Assign_Name (wpAny_Constant_int (store_loc (s := { s with toks := _ }) ge ge.kpos hns fun h1 n1 s1 => ?_)) rfl)
  refine seg_stmt (wpAny_Assign_Name (wpAny_Constant_bool (store_loc ge ge.kesc n1 fun h2 n2 s2 => ?_)) rfl)
  have k2 : ∀ b o, b ≠ L → s.heap.get? b = some o → h2.get? b = some o := fun b o hb h => s2.extBut b o hb (s1.extBut b o hb h)
  have sz2 : h2.objs.size = s.heap.objs.size := s2.1.trans s1.1
  have old2 : ∀ b o, Λ.h.get? b = some o → h2.get? b = some o := fun b o h => k2 b o (fun e => by subst e; rw [hL] at h; cases h) (hold b o h)
  have hLs : L < s.heap.objs.size := let ⟨_, e⟩ := Ns_get hns; Heap.lt_size e
  refine seg_execs_cons (seg_For (H := fun e => (leaving env e).wrap (fun _ => .raise e) .raise id id) ?_ (fun _ => rfl) (fun _ => rfl))
  have hb : Λ.mb (Str.ofString "enumerate") = some (.type "enumerate") := (hΛ.builtins _ (by decide)).trans rfl
  refine Call_ (Name_function_global ge.kind ge.kenum (loadGlobal_builtin (mg := Λ.mg) (mb := Λ.mb) (by rw [ge.glob]; exact hΛ.g.keeps old2) hmg (by rw [ge.bi]; exact hΛ.b.keeps old2) hb ?_) (by decide)) rfl
  refine callWith_type1 (args_cons (name_loc ge ge.kaddr n2 (v := .str (S x) t) (by rw [if_neg (by decide), if_neg (by decide)]; exact haddr) (args_nil ?_)) rfl) rfl rfl
  refine call_enumerate_str fun h' hE hI hsz hk => ?_
  refine wpAny_pyIter_enum hE ?_
  intro p
  simp only [sz2] at hE hI ⊢
  have g0 : GS L (s.heap.objs.size + 1) s.heap.objs.size x t 0 false h' := ⟨⟨_, _, n2.keeps hk, by simp, by simp [ne_pe]; rfl⟩, ⟨_, hE⟩, hI, Nat.ne_of_lt (Nat.lt_succ_of_lt hLs), Nat.ne_of_lt hLs, Nat.succ_ne_self _⟩
  refine gen_turns (e := s.heap.objs.size + 1) (it := s.heap.objs.size) (t := t) (H := fun e => (leaving env e).wrap (fun _ => .raise e) .raise id id) ge hA (Nat.lt_succ_self _) x 0 false _ s { s with heap := h', toks := _ } (Nat.zero_le _) rfl g0 ?_ rfl ⟨[], rfl⟩ rfl
  exact ⟨fun b o hb h => hk b o (k2 b o (fun e => hb (by simp [e])) h), rfl, rfl⟩
end
end Mine
end
section
open PySem PySem.W PyProof.Rows PySem.Calls
set_option Elab.async false
set_option linter.unusedVariables false
set_option maxRecDepth 100000
namespace Mine
section
variable {w : World} {Λ : Glo} {A : Around} {L : Addr} {x : List Nat} {t : Tok} {env : Env} {E : Value → Shared → Prop} {s : Shared}

/-- one wake of a generator whose frame ends by None -/
theorem gen_wake {prog : Program} {a : Addr} {g n : Nat} {st : GenState} {P : Nat → Shared → Shared → Prop} {Y : Protocol} {Q : Option Value → Shared → Prop} (hh : A.handled = none) (hl : s.heap.NoLimit) (hroom : A.depth < recursionLimit)
    (hg : s.heap.IsGen a g) (hgs : s.gens[g]? = some st)
    (hgo : st.Goes (model prog w) A.in1 (fun n s₀ r s₁ => r = .ok (.ret .none) ∧ P n s₀ s₁) Y n (.send .none) (s.setGen g .running))
    (hY : ∀ v s₁ st', st'.bare = true → Y (n - 1) (s.setGen g .running) v s₁ (fun r' s'' => match n with | 0 => False | m + 1 => st'.Goes (model prog w) A.in1 (fun n s₀ r s₁ => r = .ok (.ret .none) ∧ P n s₀ s₁) Y m r' s'') → Q (some v) (s₁.setGen g st'))
    (hP : ∀ s₁, P n (s.setGen g .running) s₁ → ∀ h', (∀ b o, s₁.heap.get? b = some o → h'.get? b = some o) → Q none { s₁.setGen g .finished with heap := h' }) :
    wpAny (model prog w) A (pyNext (.ref a)) Q E s := by
  have hT := hg.typeIs
  unfold pyNext
  refine wpAny_bind (wpAny_attempt (wpAny_callSpecial?_slot (name := Str.ofString "__next__") hT slot_gen_next (wpAny_call_entry slot_gen_next hT entry_gen_next ?_ (args_gen_next _))))
  show wpAny _ A.in1 (Builtin.Generator.genWake (.ref a) (.send .none)) _ _ s
  unfold Builtin.Generator.genWake
  refine wpAny_bind (wpAny_holding (wpAny_genNumber hg (wpAny_bind (wpAny_genState hgs ?_))))
  have go : wpAny (model prog w) A.in1 (roomToWake >>= fun _ => (Sem.resume g (.send .none) [] fun r => (match r with
      | .yielded v => ret v
      | .returned v => (do
        if v == .none then raiseNew (← newExc (.type "StopIteration") [])
        rule "generator.return-value"; throw (← newExc (.type "StopIteration") [v]))
      | .raised e => Builtin.Generator.genLeft (.ref a) e
      | .running => (do rule "generator.already-executing"; raiseError "ValueError" "generator already executing")
      | .justStarted => (do rule "generator.send-to-fresh"; raiseError "TypeError" "can't send non-None value to a just-started generator")
      | .finished => (do raiseNew (← newExc (.type "StopIteration") [])) : Sem PySem.Fin)))
      (fun f s1 => ∃ v, f = .done (.ret v) ∧ Q (some v) s1) (fun x s1 => s1.TypeIs x "StopIteration" ∧ Q none s1) s := by
    refine wpAny_bind (wpAny_roomToWake hl hroom ?_)
    refine wpAny_resumeQ hgs hgo (fun x s₁ hx => ?_) (fun v s₁ st' hb hv => wpAny_pure ⟨v, rfl, hY v s₁ st' hb hv⟩)
    obtain ⟨rfl, hp⟩ := hx
    show wpAny _ A.in1 (newExc (.type "StopIteration") [] >>= _) _ _ _
    refine wpAny_bind ?_
    simp only [newExc, newTuple]
    refine wpAny_bind (wpAny_newObj_type ?_ (by size_fits))
    refine wpAny_bind (m := firstArgMember _ _) (wpAny_of_eq (a := Value.none) (by first | rfl | (simp only [firstArgMember]; rfl)) ?_)
    refine wpAny_newObj_type ?_ (by size_fits)
    simp only [raiseNew]
    refine wpAny_bind (wpAny_bind (wpAny_handled ?_))
    rw [show A.in1.handled = none from hh]
    exact wpAny_throw ⟨⟨_, Heap.get?_push_size _ rfl, rfl⟩, hP s₁ hp _ fun b o hb => Heap.get?_push_of_some _ (Heap.get?_push_of_some _ hb)⟩
  cases st with
  | running => exact hgo.elim
  | finished => exact hgo.elim
  | fresh c =>
    refine wpAny_mono go ?_ ?_
    · rintro f s1 ⟨v, rfl, hq⟩; exact ⟨v, rfl, wpAny_pure hq⟩
    · rintro x s1 ⟨hx, hq⟩
      exact wpAny_bind (wpAny_isInstance (T := "StopIteration") (b := true) hx isSubtype_stop (wpAny_pure hq))
  | suspended =>
    refine wpAny_mono go ?_ ?_
    · rintro f s1 ⟨v, rfl, hq⟩; exact ⟨v, rfl, wpAny_pure hq⟩
    · rintro x s1 ⟨hx, hq⟩
      exact wpAny_bind (wpAny_isInstance (T := "StopIteration") (b := true) hx isSubtype_stop (wpAny_pure hq))

/-- the generator's pieces to come -/
noncomputable abbrev escs (x : List Nat) : List (Nat × List Nat) := esc 0 false x
noncomputable def GenT (w : World) (Λ : Glo) (A : Around) (I g : Nat) (x : List Nat) (i : Nat) (wr : List Addr) (G : PH) (s : Shared) : Prop :=
  s.heap.IsGen I g ∧ match i with
  | 0 => ∃ L env m t, wr = [I, L] ∧ GEnv env L ∧ s.gens[g]? = some (.fresh (.func gStmts env)) ∧ s.heap.Ns L m ∧ m (Str.ofString "addr") = some (.str (S x) t) ∧ Λ.h.get? L = none
  | j + 1 => ∃ L e it fin st, wr = I :: wrN L e it fin ((escs x).length - (j + 1)) ∧ I ∉ [L, e, it] ∧ s.gens[g]? = some st ∧ (∀ b ∈ wrN L e it fin ((escs x).length - (j + 1)), ∃ o, s.heap.get? b = some o) ∧ (∀ b ∈ [L, e, it], Λ.h.get? b = none) ∧
      ∀ s', Good Λ (wrN L e it fin ((escs x).length - (j + 1))) s s' → st.Goes (model pr w) A.in1 (gR (wrE L e it fin)) (gY Λ [L, e, it] (wrN L e it fin) (escs x)) ((escs x).length - (j + 1)) (.send .none) s'

theorem isGen_at {h h' : Heap} {a : Addr} {g : Nat} (x : h.IsGen a g) (hk : ∀ o, h.get? a = some o → h'.get? a = some o) : h'.IsGen a g := let ⟨o, nm, qn, ho, r⟩ := x; ⟨o, nm, qn, hk o ho, r⟩
theorem isGen_get {h : Heap} {a : Addr} {g : Nat} (x : h.IsGen a g) : ∃ o, h.get? a = some o := let ⟨o, _, _, ho, _⟩ := x; ⟨o, ho⟩
theorem setGen_get {s : Shared} {g i : Nat} {st y : GenState} (h : i ≠ g) (e : s.gens[i]? = some y) : (s.setGen g st).gens[i]? = some y := by
  show (s.gens.setIfInBounds g st)[i]? = some y
  rw [Array.getElem?_setIfInBounds, if_neg (fun e => h e.symm)]; exact e
theorem setGen_self {s : Shared} {g : Nat} {st y : GenState} (e : s.gens[g]? = some y) : (s.setGen g st).gens[g]? = some st := by
  show (s.gens.setIfInBounds g st)[g]? = some st
  rw [Array.getElem?_setIfInBounds, if_pos rfl, if_pos (Array.getElem?_eq_some_iff.mp e).1]
theorem bare_set {gens : Array GenState} {g : Nat} {st : GenState} (h : AllBare gens) (hs : st.bare = true) : AllBare (gens.setIfInBounds g st) := fun y hy => by
  obtain ⟨i, hi⟩ := Array.mem_iff_getElem?.mp hy
  rw [Array.getElem?_setIfInBounds] at hi
  split at hi
  · split at hi
    · cases hi; exact hs
    · cases hi
  · exact h y (Array.mem_iff_getElem?.mpr ⟨i, hi⟩)
theorem wrN_sub {L e it : Addr} {fin : Bool} {n : Nat} : ∀ b ∈ wrN L e it fin n, b ∈ [L, e, it] := fun b hb => by
  unfold wrN at hb; split at hb
  · simp at hb; simp [hb]
  · exact hb
theorem wrN_pos {L e it : Addr} {fin : Bool} {n : Nat} (h : 0 < n) : wrN L e it fin n = [L, e, it] := by
  unfold wrN; rw [if_neg (by omega)]
theorem wrE_wrN {L e it : Addr} {fin : Bool} : wrE L e it fin = wrN L e it fin 0 := by unfold wrE wrN; cases fin <;> simp

/-- a wake that yields -/
theorem gen_item {A : Around} {I g : Nat} {target : Expr} {G : PH} {s : Shared} {E : Value → Shared → Prop} {Q : Value → Shared → Prop} {i : Nat} {wr : List Addr} {L e it : Addr} {fin : Bool} {st : GenState} (hΛ : GloOk Λ) (hA : A.handled = none) (hroom : A.depth < recursionLimit)
    (hi : i < (escs x).length) (hp : P0 Λ G s) (hg : s.heap.IsGen I g) (hst : s.gens[g]? = some st) (hgo : st.Goes (model pr w) A.in1 (gR (wrE L e it fin)) (gY Λ [L, e, it] (wrN L e it fin) (escs x)) ((escs x).length - i) (.send .none) (s.setGen g .running))
    (hnew : ∀ b ∈ [L, e, it], Λ.h.get? b = none) (hI : I ∈ wr) (hIn : I ∉ [L, e, it]) (hwr : ∀ b ∈ [L, e, it], b ∈ wr ∨ s.heap.get? b = none) (hG : ∀ b ∈ wr, G b = none)
    (hQ : ∀ v s' G' wr', Chg wr (· = g) s s' → Gx s G G' s' → GenT w Λ A I g x (i + 1) wr' G' s' → (∀ b ∈ wr', (b ∈ wr ∨ s.heap.get? b = none) ∧ G' b = none) → (dT [.int ((escs x).getD i (0, [])).1, pS ((escs x).getD i (0, [])).2]).ok G' v → Q v s') :
    wpAny (model pr w) A (pyNext (.ref I)) (fun r s1 => match r with | none => False | some v => wpAny (model pr w) A (letOwnedTupleGo target (.ref I) v) (fun _ s' => Q v s') E s1) E s := by
  have hn : (escs x).length - i = ((escs x).length - (i + 1)) + 1 := by omega
  refine gen_wake (P := gEnd (wrE L e it fin)) hA (hΛ.nolimit.keeps hp.old) hroom hg hst hgo (fun v s₁ st' hb hv => ?_) (fun s₁ hp => ?_)
  · rw [hn] at hv
    obtain ⟨wk, ⟨t, o, q, vals, k, t1, t2, rfl, hlt, hq, ht0, ht, hc, hd, rfl, htw⟩, here, kap⟩ := hv
    simp only [Nat.add_sub_cancel] at kap hlt hq here
    have hqi : (escs x)[i]? = some q := by rw [← hq]; congr 1; omega
    have keep : ∀ b o, b ∉ wr → s.heap.get? b = some o → s₁.heap.get? b = some o := fun b o hb h => wk.keep b o (fun hm => by
      rcases hwr b hm with h' | h'
      · exact hb h'
      · rw [h] at h'; cases h') h
    obtain ⟨oI, hoI⟩ := isGen_get hg
    have hI1 : s₁.heap.get? I = some oI := wk.keep I oI hIn hoI
    have hg1 : s₁.heap.IsGen I g := isGen_at hg fun o ho => wk.keep I o hIn ho
    have ht0' : s.heap.get? t = none := ht0
    have htI : I ≠ t := fun h => by rw [h, ht0'] at hoI; cases hoI
    have hGt : G t = none := PH.none_of_sub hp.data ht0'
    obtain ⟨oo, nm, qn, hoo, hcc, hdd, _⟩ := hg1
    refine go_fields (s := s₁.setGen g st') (T := "generator") (fs := #[.int g 0, nm, qn]) ⟨oo, hoo, hcc, hdd⟩ rfl ?_
    have hle : G.le (G.add t o) := PH.le_add hGt
    have hsub : (G.add t o).sub s₁.heap := fun a oa e => by
      unfold PH.add at e
      by_cases ha : a = t
      · subst ha; simp at e; subst e; exact ht
      · simp [ha] at e; exact keep a oa (fun hm => by rw [hG a hm] at e; cases e) (hp.data a oa e)
    have hgens : s₁.gens = (s.setGen g .running).gens := wk.gens
    refine hQ (.ref t) (s₁.setGen g st') (G.add t o) (I :: wrN L e it fin ((escs x).length - (i + 1))) ⟨keep, fun j y hj h => ?_, fun h => ?_, wk.os⟩ ⟨hle, hsub, fun a oa e => ?_⟩ ⟨⟨oo, nm, qn, hoo, hcc, hdd, by assumption⟩, L, e, it, fin, st', rfl, hIn, ?_, here, hnew, fun s' hgd => kap s' ⟨hgd.wr, hgd.old⟩⟩ (fun b hb => ?_) ?_
    · refine setGen_get hj ?_
      rw [hgens]; exact setGen_get hj h
    · show AllBare (s₁.gens.setIfInBounds g st')
      rw [hgens]; exact bare_set (bare_set h rfl) hb
    · unfold PH.add at e
      by_cases ha : a = t
      · subst ha; exact .inr ht0'
      · simp [ha] at e; exact .inl e
    · exact setGen_self (y := .running) (by rw [hgens]; exact setGen_self hst)
    · rcases List.mem_cons.mp hb with rfl | hb
      · exact ⟨.inl hI, by simp [PH.add, htI, hG _ hI]⟩
      · have hb' := wrN_sub b hb
        have hbt : b ≠ t := fun h => htw (h ▸ hb')
        refine ⟨hwr b hb', ?_⟩
        simp only [PH.add, hbt, if_false]
        rcases hwr b hb' with h | h
        · exact hG b h
        · exact PH.none_of_sub hp.data h
    · have : (escs x).getD i (0, []) = q := by rw [List.getD, hqi]; rfl
      rw [this]
      exact Rep.tuple PH.add_self hc hd (.cons (.int _ _) (.cons (.str _ _) .nil))
  · obtain ⟨h0, _⟩ := hp
    omega

theorem gen_done {A : Around} {I g : Nat} {G : PH} {s : Shared} {E : Value → Shared → Prop} {Q : Shared → Prop} {wr : List Addr} {L e it : Addr} {fin : Bool} {st : GenState} (hΛ : GloOk Λ) (hA : A.handled = none) (hroom : A.depth < recursionLimit)
    (hp : P0 Λ G s) (hg : s.heap.IsGen I g) (hst : s.gens[g]? = some st) (hgo : st.Goes (model pr w) A.in1 (gR (wrE L e it fin)) (gY Λ [L, e, it] (wrN L e it fin) (escs x)) 0 (.send .none) (s.setGen g .running))
    (hnew : ∀ b ∈ [L, e, it], Λ.h.get? b = none) (hwr : ∀ b ∈ wrE L e it fin, b ∈ wr ∨ s.heap.get? b = none) (hG : ∀ b ∈ wr, G b = none) (hQ : ∀ s', Chg wr (· = g) s s' → G.sub s'.heap → Q s') :
    wpAny (model pr w) A (pyNext (.ref I)) (fun r s1 => r = none ∧ Q s1) E s := by
  refine gen_wake (P := gEnd (wrE L e it fin)) hA (hΛ.nolimit.keeps hp.old) hroom hg hst hgo (fun v s₁ st' hb hv => ?_) (fun s₁ hpp h' hk => ?_)
  · obtain ⟨wk, _, here, kap⟩ := hv
    exact (kap s₁ ⟨fun _ _ _ e => e, fun b o h => wk.keep b o (fun hm => by rw [hnew b hm] at h; cases h) (hp.old b o h)⟩).elim
  · obtain ⟨_, wk⟩ := hpp
    have keep : ∀ b o, b ∉ wr → s.heap.get? b = some o → h'.get? b = some o := fun b o hb h => hk b o (wk.keep b o (fun hm => by
      rcases hwr b hm with h' | h'
      · exact hb h'
      · rw [h] at h'; cases h') h)
    have hgens : s₁.gens = (s.setGen g .running).gens := wk.gens
    refine ⟨rfl, hQ _ ⟨keep, fun j y hj h => ?_, fun h => ?_, wk.os⟩ fun a oa e => keep a oa (fun hm => by rw [hG a hm] at e; cases e) (hp.data a oa e)⟩
    · refine setGen_get hj ?_
      rw [hgens]; exact setGen_get hj h
    · show AllBare (s₁.gens.setIfInBounds g .finished)
      rw [hgens]; exact bare_set (bare_set h rfl) rfl

theorem gen_itr {A : Around} {I g : Nat} {target : Expr} (hΛ : GloOk Λ) (hmg : Λ.mg (Str.ofString "enumerate") = none) (hA : A.handled = none) (hroom : A.depth < recursionLimit) :
    Itr pr w Λ A target I (· = g) (escs x).length (fun i => dT [.int ((escs x).getD i (0, [])).1, pS ((escs x).getD i (0, [])).2]) (GenT w Λ A I g x) where
  frame := fun i wr G G' s s' hT hl hs hp hn hk hg => by
    obtain ⟨hI, hT⟩ := hT
    cases i with
    | zero =>
      obtain ⟨L, env, m, t, rfl, ge, hst, hns, ha, hL⟩ := hT
      exact ⟨isGen_at hI fun o ho => hk I (by simp) o ho, L, env, m, t, rfl, ge, hg g _ rfl hst, hns.at' fun o ho => hk L (by simp) o ho, ha, hL⟩
    | succ j =>
      obtain ⟨L, e, it, fin, st, rfl, hIn, hst, here, hnew, hgo⟩ := hT
      exact ⟨isGen_at hI fun o ho => hk I (by simp) o ho, L, e, it, fin, st, rfl, hIn, hg g _ rfl hst, fun b hb => let ⟨o, ho⟩ := here b hb; ⟨o, hk b (List.mem_cons_of_mem _ hb) o ho⟩, hnew,
        fun s2 hgd => hgo s2 ⟨fun b hb o ho => hgd.wr b hb o (hk b (List.mem_cons_of_mem _ hb) o ho), hgd.old⟩⟩
  here := fun i wr G s hT b hb => by
    obtain ⟨hI, hT⟩ := hT
    cases i with
    | zero =>
      obtain ⟨L, env, m, t, rfl, ge, hst, hns, ha, hL⟩ := hT
      simp at hb
      rcases hb with rfl | rfl
      · exact isGen_get hI
      · exact Ns_get hns
    | succ j =>
      obtain ⟨L, e, it, fin, st, rfl, hIn, hst, here, hnew, hgo⟩ := hT
      rcases List.mem_cons.mp hb with rfl | hb
      · exact isGen_get hI
      · exact here b hb
  item := fun i wr G s E Q hi hp hT hG hQ => by
    obtain ⟨hI, hT⟩ := hT
    cases i with
    | zero =>
      obtain ⟨L, env, m, t, rfl, ge, hst, hns, ha, hL⟩ := hT
      have nge : ∀ b, s.heap.objs.size ≤ b → s.heap.get? b = none := fun b hb => none_ge hb
      obtain ⟨oI, hoI⟩ := isGen_get hI
      obtain ⟨oL, hoL⟩ := Ns_get hns
      have hIs := Heap.lt_size hoI
      refine gen_item (L := L) (e := s.heap.objs.size + 1) (it := s.heap.objs.size) (fin := escOpen false x) hΛ hA hroom hi hp hI hst ⟨rfl, ?_⟩ ?_ (by simp) ?_ ?_ hG hQ
      · exact gen_start (w := w) (A := A.in1) hΛ hmg ge hA (s.setGen g .running) hp.old hL hns ha
      · intro b hb
        simp at hb
        rcases hb with rfl | rfl | rfl
        · exact hL
        · exact PH.none_of_sub (G := Λ.h.get?) hp.old (nge _ (Nat.le_succ _))
        · exact PH.none_of_sub (G := Λ.h.get?) hp.old (nge _ (Nat.le_refl _))
      · intro hm
        simp at hm
        rcases hm with h | h | h
        · subst h
          obtain ⟨o, _, _, ho, hc, hd, _⟩ := hI
          obtain ⟨o', _, _, ho', hd', _⟩ := hns
          rw [ho] at ho'; cases ho'; rw [hd] at hd'; cases hd'
        · rw [h] at hIs; exact absurd hIs (Nat.not_lt.mpr (Nat.le_succ _))
        · rw [h] at hIs; exact absurd hIs (Nat.lt_irrefl _)
      · intro b hb
        simp at hb
        rcases hb with rfl | rfl | rfl
        · exact .inl (by simp)
        · exact .inr (nge _ (Nat.le_succ _))
        · exact .inr (nge _ (Nat.le_refl _))
    | succ j =>
      obtain ⟨L, e, it, fin, st, rfl, hIn, hst, here, hnew, hgo⟩ := hT
      refine gen_item (L := L) (e := e) (it := it) (fin := fin) hΛ hA hroom hi hp hI hst (hgo _ ⟨fun _ _ _ e => e, hp.old⟩) hnew (by simp) hIn (fun b hb => .inl (List.mem_cons_of_mem _ ?_)) hG hQ
      rw [wrN_pos (by omega)]; exact hb
  done := fun wr G s E Q hp hT hG hQ => by
    obtain ⟨hI, hT⟩ := hT
    generalize hlen : (escs x).length = len at hT
    cases len with
    | zero =>
      obtain ⟨L, env, m, t, rfl, ge, hst, hns, ha, hL⟩ := hT
      have nge : ∀ b, s.heap.objs.size ≤ b → s.heap.get? b = none := fun b hb => none_ge hb
      refine gen_done (x := x) (L := L) (e := s.heap.objs.size + 1) (it := s.heap.objs.size) (fin := escOpen false x) hΛ hA hroom hp hI hst ⟨rfl, ?_⟩ ?_ ?_ hG hQ
      · have := gen_start (w := w) (A := A.in1) hΛ hmg ge hA (s.setGen g .running) hp.old hL hns ha
        rw [show (esc 0 false x).length = 0 from hlen] at this
        exact this
      · intro b hb
        simp at hb
        rcases hb with rfl | rfl | rfl
        · exact hL
        · exact PH.none_of_sub (G := Λ.h.get?) hp.old (nge _ (Nat.le_succ _))
        · exact PH.none_of_sub (G := Λ.h.get?) hp.old (nge _ (Nat.le_refl _))
      · intro b hb
        have hb := wrN_sub b (wrE_wrN ▸ hb)
        simp at hb
        rcases hb with rfl | rfl | rfl
        · exact .inl (by simp)
        · exact .inr (nge _ (Nat.le_succ _))
        · exact .inr (nge _ (Nat.le_refl _))
    | succ j =>
      obtain ⟨L, e, it, fin, st, rfl, hIn, hst, here, hnew, hgo⟩ := hT
      rw [Nat.sub_self] at hgo
      refine gen_done (x := x) (L := L) (e := e) (it := it) (fin := fin) hΛ hA hroom hp hI hst (hgo _ ⟨fun _ _ _ e => e, hp.old⟩) hnew (fun b hb => .inl (List.mem_cons_of_mem _ ?_)) hG hQ
      rw [Nat.sub_self, ← wrE_wrN]; exact hb
  self := fun i wr G s E Q hT hQ => wpAny_pyIter_gen hT.1 hQ
end

section
variable {w : World} {Λ : Glo} {F : FS} {n : Nat} {vs cs : List (Option AV)}
/-- the call of the generator, item by item -/
theorem Itb_gen {target f e : Expr} {pos : Pos} {x : List Nat} {a : Addr} (hΛ : GloOk Λ) (hmg : Λ.mg (Str.ofString "enumerate") = none) (hat : FnAt Λ (dName (stmtAt 2)) (dArgs (stmtAt 2)) gStmts (dScope (stmtAt 2)) a)
    (h1 : Ev pr w Λ F n vs cs f (.raw (.ref a))) (h2 : Ev pr w Λ F n vs cs e (dS x))
    (he : ∀ env, eval (.Call f [e] [] pos) env = (do callWith pos (← eval f env) [] (backTo pos (starEach [e] env)) (backToKw pos (keywordEach [] env))) := by intro _; rfl)
    (hs : ∀ env, starEach [e] env = (false, eval e env) :: starEach [] env := by intro _; rfl) :
    Itb pr w Λ F n vs cs target (.Call f [e] [] pos) (escs x).length (fun i => dT [.int ((escs x).getD i (0, [])).1, pS ((escs x).getD i (0, [])).2]) := fun A env G s E Q hr hen hV hQ => by
  obtain ⟨hglob, o, pm, cd, doc, ho, hd, hcd⟩ := hat
  refine Call_ (h1.seq hr hen hV fun u s1 G1 g1 x1 V1 o1 => ?_) (he env)
  obtain rfl : u = _ := o1
  refine callWith_def hd (args_cons (h2.seq hr hen V1 fun v s2 G2 g2 x2 V2 o2 => args_nil ⟨V2.old _ _ ho, ?_⟩) (hs env)) (hs env)
  obtain ⟨t, rfl⟩ := Rep.inv_str o2
  refine wpAny_call (codeAny_call_generator (fd := docDef (dName (stmtAt 2)) (dArgs (stmtAt 2)) gStmts (dScope (stmtAt 2)) pm cd doc) hr.room (V2.old _ _ ho) hd rfl rfl rfl (hcd.keeps V2.old) ?_)
  rw [show bindArgs (docDef (dName (stmtAt 2)) (dArgs (stmtAt 2)) gStmts (dScope (stmtAt 2)) pm cd doc) ⟨[.str (S x) t], []⟩ = pure [(Str.ofString "addr", .str (S x) t)] from rfl]
  refine wpAny_pure (wpAny_newFunctionEnv (show ∀ x ∈ (dScope (stmtAt 2)).names, x.2 ≠ NameKind.cell by decide +kernel) (by intro y hy; simp at hy; subst hy; rfl) (fun h' hns hsb => ⟨(hΛ.nolimit.keeps V2.old).fresh _ hsb, ?_⟩) rfl)
  have gk : ∀ b o, s2.heap.get? b = some o → h'.get? b = some o := fun b o h => hsb.extBut b o (Nat.ne_of_lt (Heap.lt_size h)) (Heap.get?_push_of_some _ h)
  have gk2 : ∀ (q : Obj) b o, s2.heap.get? b = some o → (h'.push q).get? b = some o := fun q b o h => Heap.get?_push_of_some _ (gk b o h)
  have hsz : h'.objs.size = s2.heap.objs.size + 1 := by rw [hsb.1]; exact Heap.size_push ..
  refine wpAny_pyIter_gen (g := s2.gens.size) ⟨_, _, _, Heap.get?_push_size _ rfl, rfl, rfl, rfl⟩ ?_
  have g3 : ∀ (q : Obj) (tk : Nat) (c : Code), Grow s2 { s2 with gens := s2.gens.push (.fresh c), toks := tk, heap := h'.push q } := fun q tk c => ⟨gk2 q, fun i y e => by
      show (s2.gens.push _)[i]? = _
      rw [Array.getElem?_push, if_neg (Nat.ne_of_lt (Array.getElem?_eq_some_iff.mp e).1)]; exact e, fun h => h.push rfl, rfl⟩
  have gg := g1.trans g2
  refine hQ _ [h'.objs.size, s2.heap.objs.size] (· = s2.gens.size) _ _ G2 (gg.trans (g3 _ _ _)) ((x1.trans g1 x2).after (g3 _ _ _)) (gen_itr (x := x) (g := s2.gens.size) hΛ hmg hr.handled hr.room) ?_ ?_ ?_
  · refine ⟨⟨_, _, _, Heap.get?_push_size _ rfl, rfl, rfl, rfl⟩, s2.heap.objs.size, newEnv (dScope (stmtAt 2)) s2.heap.objs.size mainGlobals [] (dName (stmtAt 2) ++ Str.ofString ".<locals>.") (some a) cd none builtinsNs, (fun y => [(Str.ofString "addr", Value.str (S x) t)].reverse.lookup y), t, rfl, ?_, ?_, (hns.keeps fun b o h => Heap.get?_push_of_some _ h), rfl, ?_⟩
    · exact ⟨rfl, rfl, rfl, rfl, rfl, rfl, rfl, rfl, rfl, rfl⟩
    · show (s2.gens.push _)[s2.gens.size]? = _
      rw [Array.getElem?_push_size]
      rfl
    · exact PH.none_of_sub (G := Λ.h.get?) V2.old (get?_size _)
  · intro b hb
    have : s2.heap.objs.size ≤ b := by
      simp at hb
      rcases hb with rfl | rfl
      · rw [hsz]; exact Nat.le_succ _
      · exact Nat.le_refl _
    exact ⟨none_old gg (none_ge this), PH.none_of_sub x2.sub (none_ge this)⟩
  · rintro g rfl
    have := gg.gens
    exact Nat.le_of_not_lt fun h => by
      have h1 := this (s2.gens.size) _ (Array.getElem?_eq_getElem h)
      have := (Array.getElem?_eq_some_iff.mp h1).1
      omega
end
end Mine
end
section
open PySem PySem.W PyProof.Rows PySem.Calls PySem.Builtin.Str
set_option Elab.async false
set_option linter.unusedVariables false
namespace Mine

/-- a slice's bound, clipped -/
noncomputable def clipB (v : Option Int) (d n : Nat) : Nat := match v with
  | none => d
  | some i => (max 0 (min (if i < 0 then i + n else i) n)).toNat
/-- l[lo:hi] -/
noncomputable def cut {α : Type} (lo hi : Option Int) (l : List α) : List α := (l.take (clipB hi l.length l.length)).drop (clipB lo 0 l.length)

theorem clipB_le {v : Option Int} {d n : Nat} (hd : d ≤ n) : clipB v d n ≤ n := by
  cases v with
  | none => exact hd
  | some i => exact Int.toNat_le.mpr (Int.max_le.mpr ⟨Int.natCast_nonneg n, Int.min_le_right _ _⟩)
theorem cut_len {α : Type} (lo hi : Option Int) (l : List α) : (cut lo hi l).length ≤ l.length := by
  unfold cut; rw [List.length_drop, List.length_take]; exact Nat.le_trans (Nat.sub_le _ _) (Nat.min_le_right _ _)
theorem clip_nat (k d n : Nat) : clipB (some (k : Int)) d n = min k n := by
  have h : ¬ ((k : Int) < 0) := Int.not_lt.mpr (Int.natCast_nonneg k)
  show (max 0 (min (if (k : Int) < 0 then _ else (k : Int)) (n : Int))).toNat = _
  rw [if_neg h, Int.max_eq_right (Int.le_min.mpr ⟨Int.natCast_nonneg k, Int.natCast_nonneg n⟩)]
  rcases Nat.le_total k n with h1 | h1
  · rw [Int.min_eq_left (Int.ofNat_le.mpr h1), Nat.min_eq_left h1]; rfl
  · rw [Int.min_eq_right (Int.ofNat_le.mpr h1), Nat.min_eq_right h1]; rfl
theorem clip_neg (k d n : Nat) (h0 : 0 < k) : clipB (some (-(k : Int))) d n = n - k := by
  have h : (-(k : Int)) < 0 := Int.neg_neg_of_pos (Int.natCast_pos.mpr h0)
  show (max 0 (min (if (-(k : Int)) < 0 then -(k : Int) + n else _) (n : Int))).toNat = _
  rw [if_pos h, Int.add_comm, ← Int.sub_eq_add_neg, Int.min_eq_left (Int.sub_le_self _ (Int.natCast_nonneg k))]
  rcases Nat.le_total k n with h1 | h1
  · rw [Int.max_eq_right (Int.sub_nonneg_of_le (Int.ofNat_le.mpr h1))]; exact Int.toNat_sub n k
  · rw [Int.max_eq_left (Int.sub_nonpos_of_le (Int.ofNat_le.mpr h1)), Nat.sub_eq_zero_of_le h1]; rfl
theorem drop_clip {α : Type} (k : Nat) (l : List α) : l.drop (min k l.length) = l.drop k := by
  rcases Nat.le_total k l.length with h | h
  · rw [Nat.min_eq_left h]
  · rw [Nat.min_eq_right h, List.drop_eq_nil_of_le h, List.drop_eq_nil_of_le (Nat.le_refl _)]
theorem cut_to {α : Type} {k : Nat} (l : List α) : cut none (some (k : Int)) l = l.take k := by
  unfold cut
  rw [clip_nat, ← List.take_eq_take_min]; rfl
theorem cut_from {α : Type} {k : Nat} (l : List α) : cut (some (k : Int)) none l = l.drop k := by
  show (l.take l.length).drop _ = _
  rw [List.take_length, clip_nat, drop_clip]
theorem cut_mid {α : Type} {a b : Nat} (l : List α) : cut (some (a : Int)) (some (b : Int)) l = (l.take b).drop a := by
  unfold cut
  rw [clip_nat, clip_nat, ← List.take_eq_take_min]
  rcases Nat.le_total a l.length with h | h
  · rw [Nat.min_eq_left h]
  · rw [Nat.min_eq_right h, List.drop_eq_nil_of_le (by rw [List.length_take]; exact Nat.min_le_right _ _), List.drop_eq_nil_of_le (by rw [List.length_take]; exact Nat.le_trans (Nat.min_le_right _ _) h)]
theorem cut_init {α : Type} (l : List α) : cut none (some (-1)) l = l.dropLast := by
  unfold cut
  rw [show (-1 : Int) = -((1 : Nat) : Int) from rfl, clip_neg 1 _ _ (Nat.lt_succ_self 0), List.dropLast_eq_take]; rfl
theorem cut_last {α : Type} {k : Nat} (l : List α) (hk : k ≤ l.length) (h0 : 0 < k) : cut (some (-(k : Int))) none l = l.drop (l.length - k) := by
  show (l.take l.length).drop _ = _
  rw [List.take_length, clip_neg k _ _ h0]

theorem range_pick {α : Type} (l : List α) (a b : Nat) (ha : a ≤ l.length) (hb : b ≤ l.length) : (sliceRange (a : Int) (b : Int) 1).filterMap (l[·]?) = (l.take b).drop a := by
  unfold sliceRange
  simp only [show (1 : Int) > 0 by decide, if_true]
  by_cases hlt : (a : Int) < b
  · rw [if_pos hlt]
    have e3 : (((b : Int) - a + 1 - 1) / 1).toNat = b - a := by rw [Int.ediv_one, Int.add_sub_cancel]; exact Int.toNat_sub b a
    rw [e3]
    have e4 : ((List.range (b - a)).map fun (k : Nat) => ((a : Int) + 1 * (k : Int)).toNat) = (List.range (b - a)).map (fun k => a + k) := List.map_congr_left fun k _ => by omega
    rw [e4, StrLaws.picks l (b - a) a (by omega), List.drop_take]
  · rw [if_neg hlt]
    have : (l.take b).drop a = [] := List.drop_eq_nil_of_le (by rw [List.length_take]; omega)
    rw [this]; rfl
theorem pick_cut (items : Array Value) (lo hi : Option Int) : slicePick items lo hi none = (cut lo hi items.toList).toArray := by
  unfold slicePick cut
  have hn : items.toList.length = items.size := by simp
  rw [hn]
  have key : ∀ (v : Option Int) (d : Nat), (match v with | none => (d : Int) | some i => (max 0 (min (if i < 0 then i + (items.size : Int) else i) (items.size : Int)))) = (clipB v d items.size : Int) := fun v d => by
    cases v with
    | none => rfl
    | some i => exact (Int.toNat_of_nonneg (Int.le_max_left 0 _)).symm
  have e1 : (sliceBounds lo hi none items.size) = ((clipB lo 0 items.size : Int), (clipB hi items.size items.size : Int), 1) := by
    rw [← key lo 0, ← key hi items.size]
    cases lo <;> cases hi <;> simp [sliceBounds]
  rw [e1]
  have := range_pick items.toList (clipB lo 0 items.size) (clipB hi items.size items.size) (by rw [hn]; exact clipB_le (Nat.zero_le _)) (by rw [hn]; exact clipB_le (Nat.le_refl _))
  simp only [Array.getElem?_toList] at this
  rw [this]
theorem idx_eq (lo hi : Option Int) (m : Nat) : strSliceIndices lo hi 1 m = sliceRange (clipB lo 0 m : Int) (clipB hi m m : Int) 1 := by
  have key : ∀ (v : Option Int) (d : Nat), (match v with | none => (d : Int) | some i => (max 0 (min (if i < 0 then i + (m : Int) else i) (m : Int)))) = (clipB v d m : Int) := fun v d => by
    cases v with
    | none => rfl
    | some i => exact (Int.toNat_of_nonneg (Int.le_max_left 0 _)).symm
  rw [← key lo 0, ← key hi m]
  cases lo <;> cases hi <;> simp [strSliceIndices]
theorem idx_lt {lo hi : Option Int} {m k : Nat} (h : k ∈ strSliceIndices lo hi 1 m) : k < m := by
  rw [idx_eq] at h
  have hb : clipB hi m m ≤ m := clipB_le (Nat.le_refl _)
  unfold sliceRange at h
  simp only [show (1 : Int) > 0 by decide, if_true, List.mem_map, List.mem_range] at h
  obtain ⟨j, hj, rfl⟩ := h
  rw [Int.ediv_one] at hj
  split at hj
  · omega
  · simp at hj
theorem text_cut (l : List Nat) (lo hi : Option Int) : (strSliceIndices lo hi 1 (S l).length).filterMap ((S l).cps[·]?) = cut lo hi l := by
  unfold cut
  rw [S_len l, idx_eq]
  have := range_pick l (clipB lo 0 l.length) (clipB hi l.length l.length) (clipB_le (Nat.zero_le _)) (clipB_le (Nat.le_refl _))
  simpa using this
theorem cut_full (l : List Nat) (lo hi : Option Int) (h : (cut lo hi l).length = l.length) : cut lo hi l = l := by
  unfold cut at h ⊢
  rw [List.length_drop, List.length_take] at h
  by_cases h0 : l.length = 0
  · have : l = [] := List.eq_nil_of_length_eq_zero h0
    subst this; simp
  · have e1 : clipB lo 0 l.length = 0 := by omega
    rw [e1, List.drop_zero, List.take_of_length_le (by omega)]

section
variable {prog : Program} {w : World} {Λ : Glo} {F : FS} {n : Nat} {vs cs : List (Option AV)}

variable (prog w Λ F n vs cs) in
/-- a slice's part -/
noncomputable def EvO (e : Option Expr) (o : Option Int) : Prop :=
  ∀ (A : Around) (env : Env) (G : PH) (s : Shared) (E : Value → Shared → Prop), Rm n A → EnvOk F env → V Λ F env G vs cs s → wpAny (model prog w) A (evalPart e env) (fun v s' => Grow s s' ∧ IsPart v o) E s
theorem EvO_none : EvO prog w Λ F n vs cs none none := fun A env G s E hr he hV => wpAny_pure ⟨.refl s, .none⟩
theorem EvO_some {e : Expr} {i : Int} (h : Ev prog w Λ F n vs cs e (dI i)) : EvO prog w Λ F n vs cs (some e) (some i) := fun A env G s E hr he hV =>
  h.seq hr he hV fun v s1 G1 g1 x1 V1 o1 => by obtain ⟨t, rfl⟩ := Rep.inv_int o1; exact ⟨g1, .int i t⟩

theorem rep_cut {G : PH} {lo hi : Option Int} {vs : List Value} {ds : List PyData} (h : RepAll G vs ds) : RepAll G (cut lo hi vs) (cut lo hi ds) := by
  have take : ∀ (k : Nat) {vs : List Value} {ds : List PyData}, RepAll G vs ds → RepAll G (vs.take k) (ds.take k) := by
    intro k vs ds h
    induction h using RepAll.rec (motive_1 := fun _ _ _ => True) generalizing k with
    | nil => cases k <;> exact .nil
    | cons a b _ ih => cases k with
      | zero => exact .nil
      | succ k => exact .cons a (ih k)
    | _ => trivial
  have drop : ∀ (k : Nat) {vs : List Value} {ds : List PyData}, RepAll G vs ds → RepAll G (vs.drop k) (ds.drop k) := by
    intro k vs ds h
    induction h using RepAll.rec (motive_1 := fun _ _ _ => True) generalizing k with
    | nil => cases k <;> exact .nil
    | cons a b _ ih => cases k with
      | zero => exact .cons a b
      | succ k => exact ih k
    | _ => trivial
  unfold cut
  rw [h.length]
  exact drop _ (take _ h)
theorem rep_rev {G : PH} {vs : List Value} {ds : List PyData} (h : RepAll G vs ds) : RepAll G vs.reverse ds.reverse := by
  induction h using RepAll.rec (motive_1 := fun _ _ _ => True) with
  | nil => exact .nil
  | cons a b _ ih => rw [List.reverse_cons, List.reverse_cons]; exact ih.append (.cons a .nil)
  | _ => trivial

/-- a slice's node, whatever is sliced -/
theorem slice_node {A : Around} {env : Env} {s : Shared} {E : Value → Shared → Prop} {value slice : Expr} {pos : Pos} {T id : String} {Q : Value → Shared → Prop} (hl : typeLookup (.type T) "__getitem__" = pure (some (.builtin id)))
    (h : wpAny (model prog w) A (eval value env) (fun o s₁ => wpAny (model prog w) A (eval slice env) (fun i s₂ => s₂.TypeIs o T ∧ wpAny (model prog w) A (getItem o i) Q E s₂) E s₁) E s)
    (hs : ∀ o i, subscripted slice false o i = operate [i, o] (getItem o i)) : wpAny (model prog w) A (eval (.Subscript value slice pos) env) Q E s :=
  Subscript_ (wpAny_mono h (fun o s₁ h₁ => wpAny_mono h₁ (fun i s₂ h₂ => tail_any h₂.1 hl h₂.2 (hs o i)) fun _ _ x => x) fun _ _ x => x)
theorem Ev_sliceS {value : Expr} {lo hi : Option Expr} {p pos : Pos} {l : List Nat} {ol oh : Option Int} (h : Ev prog w Λ F n vs cs value (dS l)) (h1 : EvO prog w Λ F n vs cs lo ol) (h2 : EvO prog w Λ F n vs cs hi oh) (hsz : l.length ≤ sizeLine) :
    Ev prog w Λ F n vs cs (.Subscript value (.Slice lo hi none p) pos) (dS (cut ol oh l)) := ⟨fun A env G s E hr he hV => by
  refine slice_node (T := "str") PySem.F.slot_str_getitem.lookup (h.seq hr he hV fun u s1 G1 g1 x1 V1 o1 => wpAny_Slice ?_) (fun _ _ => rfl)
  obtain ⟨t, rfl⟩ := Rep.inv_str o1
  refine wpAny_mono (h1 A env G1 s1 E hr he V1) ?_ fun _ _ x => x
  rintro v1 s2 ⟨g2, p1⟩
  have V2 := V1.grow g2 (.refl V1.data g2)
  refine wpAny_mono (h2 A env G1 s2 E hr he V2) ?_ fun _ _ x => x
  rintro v2 s3 ⟨g3, p2⟩
  have V3 := V2.grow g3 (.refl V2.data g3)
  refine wpAny_pure ⟨typeIs_str _ _ _, ?_⟩
  have g4 : Grow s3 { s3 with heap := s3.heap.push { cls := .type "slice", data := .fields #[v1, v2, .none] } } := .push
  have fin : ∀ (a b : Option (Int × Tok)), v1 = partValue a → v2 = partValue b → a.map (·.1) = ol → b.map (·.1) = oh →
      wpAny (model prog w) A (getItem (.str (S l) t) (.ref s3.heap.objs.size)) (Got s G (dS (cut ol oh l))) E { s3 with heap := s3.heap.push { cls := .type "slice", data := .fields #[v1, v2, .none] } } := by
    rintro a b rfl rfl ha hb
    refine wpAny_getItem_str_slice (l := a) (u := b) (st := none) ⟨_, Heap.get?_push_size _ rfl, rfl, rfl⟩ rfl ?_
    have e0 : (slicePicked (S l) a b none).filterMap ((S l).cps[·]?) = cut ol oh l := by
      have := text_cut l ol oh
      rw [← ha, ← hb] at this
      rw [← ha, ← hb]
      exact this
    have g5 : ∀ tk, Grow s { s3 with heap := s3.heap.push { cls := .type "slice", data := .fields #[partValue a, partValue b, .none] }, toks := tk } := fun tk => (((g1.trans g2).trans g3).trans g4).trans .tok
    refine post_val_or_str ?_
    have e1 : (if (((none : Option (Int × Tok)).map (·.1)).getD 1 == 1 && (slicePicked (S l) a b none).length == (S l).length) = true then S l else ⟨((slicePicked (S l) a b none).filterMap ((S l).cps[·]?)).toArray⟩) = S (cut ol oh l) := by
      rw [e0]
      split
      · rename_i hc
        simp only [Option.map_none, Option.getD_none, beq_self_eq_true, Bool.true_and, beq_iff_eq] at hc
        have hlen : (cut ol oh l).length = l.length := by
          have hall : ∀ k ∈ slicePicked (S l) a b none, ∃ c, (S l).cps[k]? = some c := by
            intro k hk
            have : k < (S l).cps.size := idx_lt hk
            exact ⟨_, Array.getElem?_eq_getElem this⟩
          have hfl : ∀ (ks : List Nat), (∀ k ∈ ks, ∃ c, (S l).cps[k]? = some c) → (ks.filterMap ((S l).cps[·]?)).length = ks.length := by
            intro ks
            induction ks with
            | nil => intro _; rfl
            | cons k ks ih =>
              intro hh
              obtain ⟨c, hc⟩ := hh k (by simp)
              rw [List.filterMap_cons_some hc, List.length_cons, List.length_cons, ih fun k' hk' => hh k' (List.mem_cons_of_mem _ hk')]
          rw [← e0, hfl _ hall, hc, S_len]
        rw [cut_full l ol oh hlen]
      · rfl
    rw [e1]
    refine ⟨?_, fun t' k => Got.of hV.data (g5 k) (Rep.str _ _)⟩
    rw [S_len]; exact Nat.le_trans (cut_len _ _ _) hsz
  cases p1 with
  | none => cases p2 with
    | none => exact fin none none rfl rfl rfl rfl
    | int j u => exact fin none (some (j, u)) rfl rfl rfl rfl
  | int i t' => cases p2 with
    | none => exact fin (some (i, t')) none rfl rfl rfl rfl
    | int j u => exact fin (some (i, t')) (some (j, u)) rfl rfl rfl rfl⟩

theorem Ev_sliceL {value : Expr} {lo hi : Option Expr} {p pos : Pos} {l : List PyData} {ol oh : Option Int} (h : Ev prog w Λ F n vs cs value (dL l)) (h1 : EvO prog w Λ F n vs cs lo ol) (h2 : EvO prog w Λ F n vs cs hi oh) (hsz : l.length ≤ sizeLine) :
    Ev prog w Λ F n vs cs (.Subscript value (.Slice lo hi none p) pos) (dL (cut ol oh l)) := ⟨fun A env G s E hr he hV => by
  refine slice_node (T := "list") list_getitem_lookup (h.seq hr he hV fun u s1 G1 g1 x1 V1 o1 => wpAny_Slice ?_) (fun _ _ => rfl)
  refine wpAny_mono (h1 A env G1 s1 E hr he V1) ?_ fun _ _ x => x
  rintro v1 s2 ⟨g2, p1⟩
  have V2 := V1.grow g2 (.refl V1.data g2)
  refine wpAny_mono (h2 A env G1 s2 E hr he V2) ?_ fun _ _ x => x
  rintro v2 s3 ⟨g3, p2⟩
  have V3 := V2.grow g3 (.refl V2.data g3)
  have g4 : Grow s3 { s3 with heap := s3.heap.push { cls := .type "slice", data := .fields #[v1, v2, .none] } } := .push
  have V4 := V3.grow g4 (.refl V3.data g4)
  obtain ⟨a, items, rfl, _, hl, hA⟩ := repList V4.data o1
  refine wpAny_pure ⟨hl.typeIs, ?_⟩
  have hz : items.size ≤ sizeLine := by have := hA.length; simp at this; omega
  refine wpAny_getItem_list_slice hl (Heap.IsSliceOf.new ..) p1 p2 .none (by simp) ?_ hz
  rw [pick_cut]
  have g14 := ((g1.trans g2).trans g3).trans g4
  have hx : Gx s G G1 { s3 with heap := s3.heap.push { cls := .type "slice", data := .fields #[v1, v2, .none] } } := x1.after ((g2.trans g3).trans g4)
  generalize hs4 : ({ s3 with heap := s3.heap.push { cls := .type "slice", data := .fields #[v1, v2, .none] } } : Shared) = s4 at *
  have g5 : Grow s4 { s4 with heap := s4.heap.push { cls := .type "list", data := .seq (cut ol oh items.toList).toArray } } := .push
  have x5 := Gx.add V4.data g5 (get?_size _) (Heap.get?_push_size _ rfl)
  exact ⟨g14.trans g5, _, hx.trans g14 x5, Rep.list PH.add_self rfl rfl rfl (by simpa using (rep_cut hA).mono x5.le)⟩⟩

theorem Ev_reverse {value st : Expr} {p pos : Pos} {l : List PyData} (h : Ev prog w Λ F n vs cs value (dL l)) (h1 : Ev prog w Λ F n vs cs st (dI (-1))) (hsz : l.length ≤ sizeLine)
    (ht : ∀ o r, letTemporaryGo value o r = pure () := by intro _ _; rfl) :
    Ev prog w Λ F n vs cs (.Subscript value (.Slice none none (some st) p) pos) (dL l.reverse) := ⟨fun A env G s E hr he hV => by
  refine wpAny_Subscript_Slice_step (T := "list") list_getitem_lookup (h.seq hr he hV fun u s1 G1 g1 x1 V1 o1 => wpAny_Slice ?_) ht
  refine wpAny_pure (wpAny_pure ?_)
  rw [evalPart_some]
  refine h1.seq hr he V1 fun v s2 G2 g2 x2 V2 o2 => ?_
  obtain ⟨t, rfl⟩ := Rep.inv_int o2
  have g4 : Grow s2 { s2 with heap := s2.heap.push { cls := .type "slice", data := .fields #[.none, .none, .int (-1) t] } } := .push
  have V4 := V2.grow g4 (.refl V2.data g4)
  obtain ⟨a, items, rfl, _, hl, hA⟩ := repList V4.data (Rep.mono x2.le o1)
  refine ⟨hl.typeIs, ?_⟩
  have hz : items.size ≤ sizeLine := by have := hA.length; simp at this; omega
  refine wpAny_getItem_list_slice hl (Heap.IsSliceOf.new ..) .none .none (.int _ _) (by simp) ?_ hz
  rw [krv_pick]
  have g14 := (g1.trans g2).trans g4
  have hx : Gx s G G2 { s2 with heap := s2.heap.push { cls := .type "slice", data := .fields #[.none, .none, .int (-1) t] } } := (x1.trans g1 x2).after g4
  generalize hs4 : ({ s2 with heap := s2.heap.push { cls := .type "slice", data := .fields #[.none, .none, .int (-1) t] } } : Shared) = s4 at *
  have g5 : Grow s4 { s4 with heap := s4.heap.push { cls := .type "list", data := .seq items.toList.reverse.toArray } } := .push
  have x5 := Gx.add V4.data g5 (get?_size _) (Heap.get?_push_size _ rfl)
  exact ⟨g14.trans g5, _, hx.trans g14 x5, Rep.list PH.add_self rfl rfl rfl (by simpa using (rep_rev hA).mono x5.le)⟩⟩
end
end Mine
end
section
open PySem PySem.W PyProof.Rows PySem.Calls PySem.Builtin.Str
set_option Elab.async false
set_option linter.unusedVariables false
namespace Mine

/-- texts joined -/
noncomputable def jn (sep : List Nat) : List (List Nat) → List Nat
  | [] => []
  | [x] => x
  | x :: y :: r => x ++ sep ++ jn sep (y :: r)
/-- a text split at a sign -/
noncomputable def spl (c : Nat) : List Nat → List (List Nat)
  | [] => [[]]
  | a :: r => if a = c then [] :: spl c r else match spl c r with
    | [] => [[a]]
    | p :: q => (a :: p) :: q
theorem spl_ne (c : Nat) : ∀ l, spl c l ≠ []
  | [] => by simp [spl]
  | a :: r => by
    unfold spl
    split
    · simp
    · split <;> simp
theorem spl_free (c : Nat) : ∀ (p : List Nat), c ∉ p → spl c p = [p]
  | [], _ => rfl
  | a :: r, h => by
    have h1 : a ≠ c := fun e => h (by simp [e])
    unfold spl
    rw [if_neg h1, spl_free c r (fun e => h (by simp [e]))]
theorem spl_cat (c : Nat) : ∀ (p l : List Nat), c ∉ p → spl c (p ++ [c] ++ l) = p :: spl c l
  | [], l, _ => by simp [spl]
  | a :: r, l, h => by
    have h1 : a ≠ c := fun e => h (by simp [e])
    rw [show (a :: r) ++ [c] ++ l = a :: (r ++ [c] ++ l) from rfl, spl, if_neg h1, spl_cat c r l (fun e => h (by simp [e]))]
theorem spl_jn (c : Nat) : ∀ (ps : List (List Nat)), ps ≠ [] → (∀ p ∈ ps, c ∉ p) → spl c (jn [c] ps) = ps
  | [], h, _ => absurd rfl h
  | [p], _, h => spl_free c p (h p (by simp))
  | p :: q :: r, _, h => by
    show spl c (p ++ [c] ++ jn [c] (q :: r)) = _
    rw [spl_cat c p _ (h p (by simp)), spl_jn c (q :: r) (by simp) fun x hx => h x (List.mem_cons_of_mem _ hx)]
theorem spl_len (c : Nat) : ∀ l, (spl c l).length ≤ l.length + 1
  | [] => Nat.le_refl _
  | a :: r => by
    have ih := spl_len c r
    rw [spl]
    split
    · simp; omega
    · cases h : spl c r with
      | nil => simp
      | cons p q => rw [h] at ih; simp at ih ⊢; omega
theorem jn_S (sep : List Nat) : ∀ ts : List (List Nat), Str.join (S sep) (ts.map S) = S (jn sep ts)
  | [] => rfl
  | [x] => rfl
  | x :: y :: r => by
    show S x ++ S sep ++ Str.join (S sep) ((y :: r).map S) = _
    rw [jn_S sep (y :: r), S_cat, S_cat]; rfl
theorem glued_S (sep : List Nat) (ts : List (List Nat)) : Txt.join (S sep) (ts.map S) = S (jn sep ts) := by
  show glued _ _ = _
  rw [StrLaws.glued_eq_join, jn_S]
theorem S_inj {a b : List Nat} (h : S a = S b) : a = b := by
  have := congrArg (fun x : Str => x.cps.toList) h
  simpa using this
theorem split_S (x : List Nat) (c : Nat) : Txt.split (S x) (S [c]) = (spl c x).map S := by
  have hj := StrLaws.join_split (S x) (S [c])
  have hf := StrLaws.split_free (S x) c
  have hne : Txt.split (S x) (S [c]) ≠ [] := by
    unfold Txt.split
    split
    · simp
    · split
      · simp
      · rw [StrLaws.partsBetween_eq]
        obtain ⟨p, r, e⟩ := StrLaws.partsFrom_ne (S x) (S [c]).length 0 (occurrences (S x) (S [c]) 0 (S x).length ((S x).length + 1))
        rw [e]; simp
  generalize Txt.split (S x) (S [c]) = ps at hj hf hne
  have e : ps = (ps.map fun p => p.cps.toList).map S := by
    rw [List.map_map]
    conv => lhs; rw [← List.map_id ps]
    refine List.map_congr_left fun p _ => ?_
    cases p; simp [S]
  generalize hq : ps.map (fun p => p.cps.toList) = qs at e
  subst e
  rw [jn_S] at hj
  have hx := S_inj hj
  rw [← hx, spl_jn c qs (by intro h; subst h; simp at hne)]
  intro p hp
  have := hf (S p) (List.mem_map_of_mem hp)
  simpa using this
theorem starts_S (x : List Nat) (c : Nat) : Txt.startswith (S x) (S [c]) = (x.head? == some c) := by
  unfold Txt.startswith
  rw [StrLaws.subAt_eq]
  cases x with
  | nil => rfl
  | cons a r => simp [S_len, Str.length]
theorem ends_S (x : List Nat) (c : Nat) : Txt.endswith (S x) (S [c]) = (x.getLast? == some c) := by
  unfold Txt.endswith
  rw [StrLaws.subAt_eq]
  rcases List.eq_nil_or_concat x with rfl | ⟨r, a, rfl⟩
  · rfl
  · simp [S_len, Str.length]

theorem strs_of {G : PH} {vs : List Value} {ts : List (List Nat)} (h : RepAll G vs (ts.map pS)) : ∃ l, vs = strValues l ∧ l.map (·.1) = ts.map S := by
  induction ts generalizing vs with
  | nil => cases h; exact ⟨[], rfl, rfl⟩
  | cons t ts ih => cases h with | cons a b =>
    obtain ⟨l, rfl, e⟩ := ih b
    obtain ⟨u, rfl⟩ := Rep.inv_str a
    exact ⟨(S t, u) :: l, rfl, by rw [List.map_cons, e]; rfl⟩
theorem strs_to {G : PH} : ∀ {l : List (Str × Tok)} {ts : List (List Nat)}, l.map (·.1) = ts.map S → RepAll G (strValues l) (ts.map pS)
  | [], [], _ => .nil
  | [], _ :: _, h => by simp at h
  | _ :: _, [], h => by simp at h
  | p :: l, t :: ts, h => by
    simp only [List.map_cons, List.cons.injEq] at h
    obtain ⟨p1, p2⟩ := p
    obtain ⟨rfl, h2⟩ := h
    exact .cons (Rep.str _ _) (strs_to h2)

section
variable {prog : Program} {w : World} {Λ : Glo} {F : FS} {n : Nat} {vs cs : List (Option AV)}

theorem Ev_strS {x : Str} {k : Nat} {pos : Pos} (l : List Nat) (h : x = S l := by rfl) : Ev prog w Λ F n vs cs (.Constant (.str x) k pos) (dS l) := by subst h; exact Ev_str

/-- a method of a text -/
theorem Ev_methS {o : Expr} {name : Str} {apos pos : Pos} {e : Expr} {es : List Expr} {x : List Nat} {as : List AV} {r : AV} {id : String} (h1 : Ev prog w Λ F n vs cs o (dS x))
    (slot : Slot "str" name id) (ty : typeOf (.builtin id) = pure (.type "method_descriptor")) (h2 : EvL prog w Λ F n vs cs (e :: es) as) (h3 : OpL prog w Λ n (fun us => call (.builtin id) us) (dS x :: as) r)
    (hbase : ∀ env, attributeBase o name env (eval o env) = eval o env := by intro _; rfl)
    (hfew : ∀ env, ((backTo pos (starEach (e :: es) env)).all (fun x => !x.1) && (backToKw pos (keywordEach [] env)).all (fun x => x.1.isSome)
      && decide ((e :: es).length + ([] : List Keyword).length + (if ([] : List Keyword).isEmpty then 0 else 1) < 30)) = true := by intro _; rfl)
    (hline : (apos.endLine == pos.line) = true := by rfl)
    (hs : ∀ env, starEach (e :: es) env = (false, eval e env) :: starEach es env := by intro _; rfl)
    (hpl : ∀ env, (backTo pos (starEach es env)).any (·.1) = false := by intro _; rfl) :
    Ev prog w Λ F n vs cs (.Call (.Attribute o name apos) (e :: es) [] pos) r := ⟨fun A env G s E hr he hV => by
  refine wpAny_Call_method (hbase env) (hfew env) hline PySem.F.plainAttrs_str slot ty (h1.seq hr he hV fun u s1 G1 g1 x1 V1 o1 => ?_)
  obtain ⟨t, rfl⟩ := Rep.inv_str o1
  refine ⟨typeIs_str _ _ _, (by intro a e; nomatch e), ?_⟩
  have h2' := h2.seq (pos := pos) (E := E) (Q := fun us s' => wpAny (model prog w) A (call (.builtin id) ([.str (S x) t] ++ us)) (Got s G r) E s') hr he V1 fun us s2 G2 g2 x2 V2 o2 =>
    wpAny_mono (h3 A G2 s2 E (.str (S x) t :: us) hr V2.p0 (.cons (o1.mono x2.le) o2)) (fun r s3 h3 => h3.mono (g1.trans g2) (x1.trans g1 x2)) fun _ _ x => x
  rw [hs env] at h2' ⊢
  exact PySem.Calls.callWith_builtin (by show (false || (backTo pos (starEach es env)).any (·.1)) = false; rw [hpl env]; rfl) (evalArgs_plain h2')⟩

theorem op_join {sep : List Nat} {ts : List (List Nat)} (hsz : (ts.map (·.length)).sum + ts.length * sep.length ≤ 16777216) : OpL prog w Λ n (fun us => call (.builtin "str.join") us) [dS sep, dL (ts.map pS)] (dS (jn sep ts)) := fun A G s E us hr hp ok => by
  cases ok with | cons o1 o2 => cases o2 with | cons o2 o3 => cases o3 with | nil =>
  obtain ⟨t, rfl⟩ := Rep.inv_str o1
  obtain ⟨a, items, rfl, _, hl, hA⟩ := repList hp.data o2
  obtain ⟨l, e, ht⟩ := strs_of hA
  have hl' : s.heap.IsList a (strValues l).toArray := by rw [← e]; simpa using hl
  refine SC.join hl' ht (joinOk_of ?_) fun t' k => ?_
  · simpa [List.map_map, Function.comp_def, S_len] using hsz
  · rw [glued_S]; exact Got.of hp.data .tok (Rep.str _ _)
theorem op_split {x : List Nat} {c : Nat} (hsz : x.length + 1 ≤ sizeLine) : OpL prog w Λ n (fun us => call (.builtin "str.split") us) [dS x, dS [c]] (dL ((spl c x).map pS)) := fun A G s E us hr hp ok => by
  cases ok with | cons o1 o2 => cases o2 with | cons o2 o3 => cases o3 with | nil =>
  obtain ⟨t, rfl⟩ := Rep.inv_str o1
  obtain ⟨t', rfl⟩ := Rep.inv_str o2
  have fin : ∀ (l : List (Str × Tok)) (tk : Nat), l.map (·.1) = Txt.split (S x) (S [c]) → Got s G (dL ((spl c x).map pS)) (.ref s.heap.objs.size) { s with toks := tk, heap := s.heap.push { cls := .type "list", data := .seq (strValues l).toArray } } := by
    intro l tk h
    have g : Grow s { s with toks := tk, heap := s.heap.push { cls := .type "list", data := .seq (strValues l).toArray } } := ⟨fun _ _ e => Heap.get?_push_of_some _ e, fun _ _ e => e, id, rfl⟩
    exact ⟨g, _, Gx.add hp.data g (get?_size _) (Heap.get?_push_size _ rfl), Rep.list PH.add_self rfl rfl rfl (strs_to (h.trans (split_S x c)))⟩
  have hE := split_S x c
  cases h1 : (decide ((S x).length < (S [c]).length) || decide (strKind (S x) < strKind (S [c])))
  · cases hf : (occurrences (S x) (S [c]) 0 (S x).length ((S x).length + 1)).isEmpty
    · have hsp : Txt.split (S x) (S [c]) = partsBetween (S x) (occurrences (S x) (S [c]) 0 (S x).length ((S x).length + 1)) (S [c]).length := by
        unfold Txt.split
        rw [if_neg (by simp [h1]), if_neg (by simp [hf])]
      have hlen : (partsBetween (S x) (occurrences (S x) (S [c]) 0 (S x).length ((S x).length + 1)) (S [c]).length).length ≤ sizeLine := by
        rw [← hsp, hE, List.length_map]; exact Nat.le_trans (spl_len c x) hsz
      refine call_meets PySem.F.slot_str_split (typeIs_str _ _ _) PySem.F.entry_str_split (PySem.F.args_str_split_2 _ _) (meets_str_split_sep (S x) (S [c]) t t' h1 rfl hf (by rw [S_len]; omega) hlen) ?_
      show wants _ E _ { s with toks := _, heap := s.heap.push { cls := .type "list", data := .seq (strsFrom s.toks (partsBetween (S x) (occurrences (S x) (S [c]) 0 (S x).length ((S x).length + 1)) (S [c]).length)).toArray } }
      rw [strsFrom_eq]
      exact fin _ _ ((numbered_texts _ _).trans hsp.symm)
    · have hsp : Txt.split (S x) (S [c]) = [S x] := by
        unfold Txt.split
        rw [if_neg (by simp [h1]), if_pos hf]
      exact call_meets PySem.F.slot_str_split (typeIs_str _ _ _) PySem.F.entry_str_split (PySem.F.args_str_split_2 _ _) (meets_str_split_not_found (S x) (S [c]) t t' h1 rfl hf) (fin [(S x, t)] s.toks hsp.symm)
  · have hsp : Txt.split (S x) (S [c]) = [S x] := by
      unfold Txt.split
      rw [if_pos h1]
    exact call_meets PySem.F.slot_str_split (typeIs_str _ _ _) PySem.F.entry_str_split (PySem.F.args_str_split_2 _ _) (meets_str_split_cannot_occur (S x) (S [c]) t t' h1) (fin [(S x, t)] s.toks hsp.symm)
theorem op_starts {x : List Nat} {c : Nat} : OpL prog w Λ n (fun us => call (.builtin "str.startswith") us) [dS x, dS [c]] (dB (x.head? == some c)) := fun A G s E us hr hp ok => by
  cases ok with | cons o1 o2 => cases o2 with | cons o2 o3 => cases o3 with | nil =>
  obtain ⟨t, rfl⟩ := Rep.inv_str o1
  obtain ⟨t', rfl⟩ := Rep.inv_str o2
  refine SC.startswith ?_
  rw [starts_S]; exact Got.of hp.data (.refl _) (Rep.bool _)
theorem op_ends {x : List Nat} {c : Nat} : OpL prog w Λ n (fun us => call (.builtin "str.endswith") us) [dS x, dS [c]] (dB (x.getLast? == some c)) := fun A G s E us hr hp ok => by
  cases ok with | cons o1 o2 => cases o2 with | cons o2 o3 => cases o3 with | nil =>
  obtain ⟨t, rfl⟩ := Rep.inv_str o1
  obtain ⟨t', rfl⟩ := Rep.inv_str o2
  refine SC.endswith ?_
  rw [ends_S]; exact Got.of hp.data (.refl _) (Rep.bool _)

/-! built-in functions -/
theorem op_lenS {x : List Nat} (h : x.length ≤ sizeLine) : OpL prog w Λ n (fun us => call (.builtin "len") us) [dS x] (dI x.length) := fun A G s E us hr hp ok => by
  cases ok with | cons o1 o2 => cases o2 with | nil =>
  obtain ⟨t, rfl⟩ := Rep.inv_str o1
  have hl := sizeLine_lt
  refine PyProof.Rows.len_str (by rw [S_len]; omega) ?_
  rw [S_len]; exact Got.of hp.data .tok (Rep.int _ _)
theorem op_lenL {l : List PyData} (h : l.length ≤ sizeLine) : OpL prog w Λ n (fun us => call (.builtin "len") us) [dL l] (dI l.length) := fun A G s E us hr hp ok => by
  cases ok with | cons o1 o2 => cases o2 with | nil =>
  obtain ⟨a, items, rfl, _, hl, hA⟩ := repList hp.data o1
  have hz : items.size = l.length := by have := hA.length; simpa using this
  have hs := sizeLine_lt
  refine call_len_list hl (by omega) ?_
  rw [hz]; exact Got.of hp.data .tok (Rep.int _ _)
theorem op_int {x : List Nat} {i : Int} (h : PySem.intText? (S x) = some i) (hl : x.length ≤ 640) : OpL prog w Λ n (fun us => call (.type "int") us) [dS x] (dI i) := fun A G s E us hr hp ok => by
  cases ok with | cons o1 o2 => cases o2 with | nil =>
  obtain ⟨t, rfl⟩ := Rep.inv_str o1
  exact KIN.call_text h (by rw [S_len]; exact hl) (Got.of hp.data .tok (Rep.int _ _))
theorem op_typeS {x : List Nat} : OpL prog w Λ n (fun us => call (.type "type") us) [dS x] (.raw (.type "str")) := fun A G s E us hr hp ok => by
  cases ok with | cons o1 o2 => cases o2 with | nil =>
  obtain ⟨t, rfl⟩ := Rep.inv_str o1
  exact call_type_of (typeIs_str _ _ _) (by decide) (Got.of hp.data (.refl _) rfl)
end
end Mine
end
section
open PySem PySem.W PyProof.Rows PySem.Calls PySem.Builtin.Str
set_option Elab.async false
set_option linter.unusedVariables false
namespace Mine
section
variable {prog : Program} {w : World} {Λ : Glo} {F : FS} {n : Nat} {vs cs : List (Option AV)}

theorem Rm.lineD {A : Around} (h : Rm n A) {k : Nat} (hk : k ≤ 50) : A.units + k < cLine := by have := h.units; unfold cLine; omega
theorem op_eqD {d e : PyData} (ha : d.canLay0 = true) (hb : e.canLay0 = true) (hd : min d.depth e.depth ≤ 50) : Op2 prog w Λ n (compareOp .Eq) (.dat d) (.dat e) (dB (PyData.eqv d e)) := fun A G s E u v hr hp a b => by
  obtain ⟨_, ra⟩ := Rep.reads hp.data a
  obtain ⟨_, rb⟩ := Rep.reads hp.data b
  exact SeqAt.compareEq_reads ra rb ha hb (hr.lineD hd) (Got.of hp.data (.refl _) (Rep.bool _))
theorem op_neD {d e : PyData} (ha : d.canLay0 = true) (hb : e.canLay0 = true) (hd : min d.depth e.depth ≤ 50) : Op2 prog w Λ n (compareOp .NotEq) (.dat d) (.dat e) (dB (!PyData.eqv d e)) := fun A G s E u v hr hp a b => by
  obtain ⟨_, ra⟩ := Rep.reads hp.data a
  obtain ⟨_, rb⟩ := Rep.reads hp.data b
  exact SeqAt.compareNe_reads ra rb ha hb (hr.lineD hd) (Got.of hp.data (.refl _) (Rep.bool _))
theorem op_notInL {x : PyData} {l : List PyData} (hx : x.canLay0 = true) (hl : PyData.canLayAll0 l = true) (hd : min (PyData.depthAll l) x.depth ≤ 49) : Op2 prog w Λ n (compareOp .NotIn) (.dat x) (dL l) (dB (!l.any fun y => PyData.eqv y x)) := fun A G s E u v hr hp a b => by
  obtain ⟨_, ra⟩ := Rep.reads hp.data a
  obtain ⟨_, rb⟩ := Rep.reads hp.data b
  exact SeqAt.notIn_list_reads rb ra hl hx (by have := hr.lineD (k := 50) (Nat.le_refl _); omega) (Got.of hp.data (.refl _) (Rep.bool _))
theorem op_inT {x : PyData} {l : List PyData} (hx : x.canLay0 = true) (hl : PyData.canLayAll0 l = true) (hd : min (PyData.depthAll l) x.depth ≤ 49) : Op2 prog w Λ n (compareOp .In) (.dat x) (dT l) (dB (l.any fun y => PyData.eqv y x)) := fun A G s E u v hr hp a b => by
  obtain ⟨_, ra⟩ := Rep.reads hp.data a
  obtain ⟨_, rb⟩ := Rep.reads hp.data b
  exact SeqAt.in_tuple_reads rb ra hl hx (by have := hr.lineD (k := 50) (Nat.le_refl _); omega) (Got.of hp.data (.refl _) (Rep.bool _))
theorem op_notInT {x : PyData} {l : List PyData} (hx : x.canLay0 = true) (hl : PyData.canLayAll0 l = true) (hd : min (PyData.depthAll l) x.depth ≤ 49) : Op2 prog w Λ n (compareOp .NotIn) (.dat x) (dT l) (dB (!l.any fun y => PyData.eqv y x)) := fun A G s E u v hr hp a b => by
  obtain ⟨_, ra⟩ := Rep.reads hp.data a
  obtain ⟨_, rb⟩ := Rep.reads hp.data b
  exact SeqAt.notIn_tuple_reads rb ra hl hx (by have := hr.lineD (k := 50) (Nat.le_refl _); omega) (Got.of hp.data (.refl _) (Rep.bool _))
theorem op_inS {x : List Nat} {c : Nat} : Op2 prog w Λ n (compareOp .In) (dS [c]) (dS x) (dB (decide (c ∈ x))) := fun A G s E u v hr hp a b => by
  obtain ⟨t, rfl⟩ := Rep.inv_str a; obtain ⟨t', rfl⟩ := Rep.inv_str b
  refine PyProof.Rows.in_str ?_
  rw [StrLaws.found_one]; exact Got.of hp.data (.refl _) (Rep.bool _)
theorem op_notInS {x : List Nat} {c : Nat} : Op2 prog w Λ n (compareOp .NotIn) (dS [c]) (dS x) (dB (!decide (c ∈ x))) := fun A G s E u v hr hp a b => by
  obtain ⟨t, rfl⟩ := Rep.inv_str a; obtain ⟨t', rfl⟩ := Rep.inv_str b
  refine PyProof.Rows.notIn_str ?_
  rw [StrLaws.found_one]; exact Got.of hp.data (.refl _) (Rep.bool _)
theorem op_addL {l r : List PyData} (h : l.length + r.length ≤ sizeLine) : Op2 prog w Λ n (binaryOp .Add) (dL l) (dL r) (dL (l ++ r)) := fun A G s E u v hr hp a b => by
  obtain ⟨a1, items, rfl, _, hl, hA⟩ := repList hp.data a
  obtain ⟨a2, items2, rfl, _, hl2, hA2⟩ := repList hp.data b
  obtain ⟨⟨cls, dd, data, sl⟩, ho, hc, n1, hd⟩ := id hl
  obtain ⟨⟨cls2, dd2, data2, sl2⟩, ho2, hc2, n2, hd2⟩ := id hl2
  simp only at hc hd hc2 hd2
  subst hc hd hc2 hd2
  have e1 := hA.length
  have e2 := hA2.length
  refine concat_meets ⟨_, ho, rfl⟩ ⟨_, ho2, rfl⟩ noFill_list_add seq_list_add PySem.F.slot_list_add PySem.F.entry_list_add (PySem.F.args_list_add_2 _ _) (list_addW a1 a2 items items2 n1 n2 dd dd2 sl sl2 (by simp at e1 e2; omega)) ⟨ho, ho2, ?_⟩
  have g : Grow s { s with heap := s.heap.push { cls := .type "list", data := .seq (items ++ items2) }, toks := s.toks } := .push
  have x := Gx.add hp.data g (get?_size _) (Heap.get?_push_size _ rfl)
  exact ⟨g, _, x, Rep.list PH.add_self rfl rfl rfl (by rw [Array.toList_append]; exact (hA.append hA2).mono x.le)⟩
theorem foldl_rep (c : Nat) : ∀ (k : Nat) (acc : Array Nat), (List.replicate k #[c]).foldl (· ++ ·) acc = acc ++ (List.replicate k c).toArray
  | 0, acc => by simp
  | k + 1, acc => by
    rw [List.replicate_succ, List.foldl_cons, foldl_rep c k]
    apply Array.ext'
    simp [List.replicate_succ]
theorem op_mulS {c k : Nat} (hk : k ≤ 100000) : Op2 prog w Λ n (binaryOp .Mult) (dS [c]) (dI k) (dS (List.replicate k c)) := fun A G s E u v hr hp a b => by
  obtain ⟨t, rfl⟩ := Rep.inv_str a; obtain ⟨t', rfl⟩ := Rep.inv_int b
  refine PySem.P.mul_str ?_ ?_ ?_ ?_
  · have h2 : ¬ (k : Int) ≥ 2 ^ 63 := by omega
    have h3 : ¬ (k : Int) < -(2 ^ 63 : Int) := by omega
    rw [decide_eq_false h2, decide_eq_false h3]; rfl
  · intro h1 _
    have e : ((S [c]).length : Int) = 1 := rfl
    rw [e]
    have h2 : (k : Int) ≤ (2 ^ 63 - 1) := by omega
    have : (1 : Int) ≤ (2 ^ 63 - 1) / (k : Int) := (Int.le_ediv_iff_mul_le (by omega)).mpr (by omega)
    omega
  · intro _ _
    have e : (S [c]).length = 1 := rfl
    rw [e]
    unfold tooLong
    have : (16777216 : Nat) = sizeLine := by decide
    simp; omega
  · split
    · rename_i h
      have : k = 0 := by omega
      subst this
      exact ⟨Nat.zero_le _, Got.of hp.data .tok (Rep.str (S []) _)⟩
    · split
      · rename_i h1 h2
        have : k = 1 := by
          have e : (S [c]).length = 1 := rfl
          rw [e] at h2; simp at h2; omega
        subst this
        exact Got.of hp.data (.refl _) (Rep.str _ _)
      · have e : (S [c]).cps = #[c] := rfl
        rw [e, foldl_rep]
        simp only [Int.toNat_natCast, Array.empty_append]
        have : (16777216 : Nat) = sizeLine := by decide
        exact ⟨by show (List.replicate k c).toArray.size ≤ _; simp; omega, Got.of hp.data .tok (Rep.str _ _)⟩

/-! in place -/
theorem op_iadd {i j : Int} : Op2 prog w Λ n (inplaceOp .Add) (dI i) (dI j) (dI (i + j)) := fun A G s E u v hr hp a b => by
  obtain ⟨t, rfl⟩ := Rep.inv_int a; obtain ⟨t', rfl⟩ := Rep.inv_int b; exact PyProof.Rows.iadd_int (Got.of hp.data .tok (Rep.int _ _))
theorem op_isub {i j : Int} : Op2 prog w Λ n (inplaceOp .Sub) (dI i) (dI j) (dI (i - j)) := fun A G s E u v hr hp a b => by
  obtain ⟨t, rfl⟩ := Rep.inv_int a; obtain ⟨t', rfl⟩ := Rep.inv_int b; exact PyProof.Rows.isub_int (Got.of hp.data .tok (Rep.int _ _))
theorem op_icat {x y : List Nat} (h : x.length + y.length ≤ sizeLine) : Op2 prog w Λ n (inplaceOp .Add) (dS x) (dS y) (dS (x ++ y)) := fun A G s E u v hr hp a b => by
  obtain ⟨t, rfl⟩ := Rep.inv_str a; obtain ⟨t', rfl⟩ := Rep.inv_str b
  exact PyProof.Rows.iadd_str (fun t' tk => Got.of hp.data .tok (by rw [S_cat]; exact Rep.str _ _)) (by rw [S_len, S_len]; exact h)

/-! least, sum -/
theorem ints_of {G : PH} {vs : List Value} {ns : List Int} (h : RepAll G vs (ns.map pI)) : IntsAre vs ns := by
  induction ns generalizing vs with
  | nil => cases h; exact .nil
  | cons t ts ih => cases h with | cons a b => obtain ⟨u, rfl⟩ := Rep.inv_int a; exact .cons _ _ (ih b)
theorem op_min2 {i j : Int} : OpL prog w Λ n (fun us => call (.builtin "min") us) [dI i, dI j] (dI (min i j)) := fun A G s E us hr hp ok => by
  cases ok with | cons o1 o2 => cases o2 with | cons o2 o3 => cases o3 with | nil =>
  obtain ⟨t, rfl⟩ := Rep.inv_int o1
  obtain ⟨t', rfl⟩ := Rep.inv_int o2
  refine min_two_ints hr.handled fun h' tk hk => ?_
  have g : Grow s { s with heap := h', toks := tk } := .of hk
  by_cases h : j < i
  · rw [if_pos h, show min i j = j by omega]; exact Got.of hp.data g (Rep.int _ _)
  · rw [if_neg h, show min i j = i by omega]; exact Got.of hp.data g (Rep.int _ _)
theorem op_minL {ns : List Int} {M : Int} (h1 : M ∈ ns) (h2 : ∀ a ∈ ns, M ≤ a) : OpL prog w Λ n (fun us => call (.builtin "min") us) [dL (ns.map pI)] (dI M) := fun A G s E us hr hp ok => by
  cases ok with | cons o1 o2 => cases o2 with | nil =>
  obtain ⟨a, items, rfl, _, hl, hA⟩ := repList hp.data o1
  have hi := ints_of hA
  have hai : AllInts items := by have := hi.allInts; simpa using this
  obtain ⟨xs, rfl⟩ := hai.items
  have hns : ns = xs.toList.map (·.1) := by
    have := hi.numsOf
    rw [← this, nums_intItems]
  have hsz : 0 < xs.size := by
    have : 0 < ns.length := List.length_pos_of_mem h1
    rw [hns, List.length_map, Array.length_toList] at this; exact this
  refine min_intList hr.handled hl hsz fun v h' tk hv hk => ?_
  obtain ⟨t, rfl⟩ := intItems_at hv
  obtain ⟨q1, q2⟩ := argBest_lt (numAt xs) (xs.size - 1)
  have m1 : numAt xs (argBest (fun i j => decide (numAt xs i < numAt xs j)) (xs.size - 1)) ∈ ns := by
    rw [hns, numAt_eq]; exact getD_mem (by rw [List.length_map, Array.length_toList]; omega)
  have m2 : ∀ a ∈ ns, numAt xs (argBest (fun i j => decide (numAt xs i < numAt xs j)) (xs.size - 1)) ≤ a := fun a ha => by
    rw [hns] at ha
    obtain ⟨j, hj, rfl⟩ := mem_getD ha
    rw [List.length_map, Array.length_toList] at hj
    rw [← numAt_eq]; exact q2 j (by omega)
  have := m2 M h1
  have := h2 _ m1
  rw [show numAt xs (argBest (fun i j => decide (numAt xs i < numAt xs j)) (xs.size - 1)) = M by omega]
  exact Got.of hp.data (.of hk) (Rep.int _ _)
theorem op_sum {ns : List Int} (h : ∀ a ∈ ns, 0 ≤ a) (hs : ns.sum < 2 ^ 63) : OpL prog w Λ n (fun us => call (.builtin "sum") us) [dL (ns.map pI)] (dI ns.sum) := fun A G s E us hr hp ok => by
  cases ok with | cons o1 o2 => cases o2 with | nil =>
  obtain ⟨a, items, rfl, _, hl, hA⟩ := repList hp.data o1
  have hi := ints_of hA
  have hai : AllInts items := by have := hi.allInts; simpa using this
  obtain ⟨xs, rfl⟩ := hai.items
  have hns : ns = xs.toList.map (·.1) := by
    have := hi.numsOf
    rw [← this, nums_intItems]
  have nn : ∀ (l : List Int), (∀ a ∈ l, 0 ≤ a) → 0 ≤ l.sum ∧ (∀ k, 0 ≤ (l.take k).sum ∧ (l.take k).sum ≤ l.sum) ∧ ∀ a ∈ l, a ≤ l.sum := by
    intro l
    induction l with
    | nil => intro _; simp
    | cons a l ih =>
      intro hh
      obtain ⟨i1, i2, i3⟩ := ih fun b hb => hh b (List.mem_cons_of_mem _ hb)
      have := hh a (by simp)
      refine ⟨by simp; omega, fun k => ?_, fun b hb => ?_⟩
      · cases k with
        | zero => simp; omega
        | succ k => have := i2 k; simp; omega
      · rcases List.mem_cons.mp hb with rfl | hb
        · simp; omega
        · have := i3 b hb; simp; omega
  obtain ⟨n1, n2, n3⟩ := nn ns h
  have hps : ∀ j, preSum (numAt xs) j = (ns.take j).sum := fun j => by
    rw [← preSum_getD ns j]
    congr 1
    funext i
    rw [hns, numAt_eq]
  refine sum_intList hr.handled hl (fun j hj => ?_) fun h' tk t' hk => ?_
  · have hj' : j < ns.length := by rw [hns, List.length_map, Array.length_toList]; exact hj
    have e : numAt xs j = ns.getD j 0 := by rw [hns, numAt_eq]
    have hm : ns.getD j 0 ∈ ns := getD_mem hj'
    have := h _ hm
    have := n3 _ hm
    have := n2 (j + 1)
    rw [e, hps]
    exact ⟨⟨by omega, by omega⟩, by omega, by omega⟩
  · rw [hps, List.take_of_length_le (by rw [hns, List.length_map, Array.length_toList]; exact Nat.le_refl _)]
    exact Got.of hp.data (.of hk) (Rep.int _ _)

/-! tests of lists; and, or as values -/
theorem OpT_list {l : List PyData} (h : l.length ≤ sizeLine) : OpT prog w Λ n (dL l) (!l.isEmpty) := fun A G s E u hr hp a => by
  obtain ⟨a, items, rfl, _, hl, hA⟩ := repList hp.data a
  have hz : items.size = l.length := by have := hA.length; simpa using this
  have hs := sizeLine_lt
  refine wpAny_truthy_list hl (by omega) ⟨?_, .tok⟩
  cases l with
  | nil => simp at hz; simp [hz]
  | cons a r => simp at hz ⊢; rintro rfl; simp at hz
theorem OpT_none : OpT prog w Λ n (.dat .none) false := fun A G s E u hr hp a => by
  obtain rfl := Rep.inv_none a
  exact wpAny_pure ⟨rfl, .refl s⟩
end
end Mine
end
section
open PySem PySem.W PyProof.Rows PySem.Calls PySem.Builtin.Str
set_option Elab.async false
set_option linter.unusedVariables false
namespace Mine
section
variable {prog : Program} {w : World} {Λ : Glo} {F : FS} {n : Nat} {vs cs : List (Option AV)}

/-! and, or: as tests, the later parts under what the earlier say -/
theorem Tr_and0 {pos : Pos} : Tr prog w Λ F n vs cs (.BoolOp .And [] pos) true := ⟨fun A env G s E _ _ _ => isTrue_and_nil ⟨rfl, .refl s⟩⟩
theorem Tr_or0 {pos : Pos} : Tr prog w Λ F n vs cs (.BoolOp .Or [] pos) false := ⟨fun A env G s E _ _ _ => isTrue_or_nil ⟨rfl, .refl s⟩⟩
theorem Tr_andN {x : Expr} {rest : List Expr} {pos : Pos} {b c : Bool} (h1 : Tr prog w Λ F n vs cs x b) (h2 : b = true → Tr prog w Λ F n vs cs (.BoolOp .And rest pos) c) : Tr prog w Λ F n vs cs (.BoolOp .And (x :: rest) pos) (b && c) := ⟨fun A env G s E hr he hV =>
  isTrue_and (h1.seq hr he hV fun s1 g1 V1 => by
    cases b with
    | true => exact wpAny_mono ((h2 rfl).run A env G s1 E hr he V1) (fun r s3 ⟨e, g⟩ => ⟨by simpa using e, g1.trans g⟩) fun _ _ x => x
    | false => exact ⟨rfl, g1⟩)⟩
theorem Tr_orN {x : Expr} {rest : List Expr} {pos : Pos} {b c : Bool} (h1 : Tr prog w Λ F n vs cs x b) (h2 : b = false → Tr prog w Λ F n vs cs (.BoolOp .Or rest pos) c) : Tr prog w Λ F n vs cs (.BoolOp .Or (x :: rest) pos) (b || c) := ⟨fun A env G s E hr he hV =>
  isTrue_or (h1.seq hr he hV fun s1 g1 V1 => by
    cases b with
    | false => exact wpAny_mono ((h2 rfl).run A env G s1 E hr he V1) (fun r s3 ⟨e, g⟩ => ⟨by simpa using e, g1.trans g⟩) fun _ _ x => x
    | true => exact ⟨rfl, g1⟩)⟩
theorem Tr.eq {e : Expr} {b c : Bool} (h : Tr prog w Λ F n vs cs e b) (hb : b = c) : Tr prog w Λ F n vs cs e c := hb ▸ h
theorem Ev.eq {e : Expr} {a b : AV} (h : Ev prog w Λ F n vs cs e a) (hb : a = b) : Ev prog w Λ F n vs cs e b := hb ▸ h

/-! as values -/
theorem Ev_and2 {x y : Expr} {pos : Pos} {b c : Bool} (h1 : Ev prog w Λ F n vs cs x (dB b)) (h2 : b = true → Ev prog w Λ F n vs cs y (dB c)) : Ev prog w Λ F n vs cs (.BoolOp .And [x, y] pos) (dB (b && c)) := ⟨fun A env G s E hr he hV =>
  BoolOp_and (h1.seq hr he hV fun v s1 G1 g1 x1 V1 o1 => by
    obtain rfl := Rep.inv_bool o1
    refine wpAny_pure ?_
    cases b with
    | false => exact Got.of hV.data g1 (Rep.bool _)
    | true => exact BoolOp_one (wpAny_mono ((h2 rfl).run A env G1 s1 E hr he V1) (fun r s3 h => h.mono g1 x1) fun _ _ x => x))⟩
theorem Ev_or2 {x y : Expr} {pos : Pos} {a r : AV} {b : Bool} (h1 : Ev prog w Λ F n vs cs x a) (ht : OpT prog w Λ n a b) (h2 : b = true → r = a) (h3 : b = false → Ev prog w Λ F n vs cs y r) : Ev prog w Λ F n vs cs (.BoolOp .Or [x, y] pos) r := ⟨fun A env G s E hr he hV =>
  BoolOp_or (h1.seq hr he hV fun v s1 G1 g1 x1 V1 o1 => wpAny_mono (ht A G1 s1 E v hr V1.p0 o1) (by
    rintro b' s2 ⟨rfl, g2⟩
    cases b' with
    | true => simp only [if_true]; rw [h2 rfl]; exact ⟨g1.trans g2, G1, x1.after g2, o1⟩
    | false =>
      simp only [Bool.false_eq_true, if_false]
      exact BoolOp_one (wpAny_mono ((h3 rfl).run A env G1 s2 E hr he (V1.grow g2 (.refl V1.data g2))) (fun r s3 h => h.mono (g1.trans g2) (x1.after g2)) fun _ _ x => x)) fun _ _ x => x)⟩
/-! methods that look at a list of the frame's own -/
theorem ownV {m : Str → Option Value} {oa : Nat → Addr} {A : Around} {env : Env} {G : PH} {s : Shared} {E : Value → Shared → Prop} {Q : Value → Shared → Prop} {x : Str} {pos : Pos} {ds : List PyData} (k : Nat) (hf : F.fit = true) (he : EnvOk F env)
    (hx : F.locs[k]? = some x) (hv : vs[k]? = some (some (.own ds))) (hd : (x == ("__debug__" : Str)) = false) (X : SV Λ F env G vs cs s m oa) (h : Q (.ref (oa k)) s) : wpAny (model prog w) A (eval (.Name x pos) env) Q E s := by
  obtain ⟨v, hm, hok⟩ := X.loc k x _ hx hv
  obtain ⟨rfl, _⟩ := hok
  obtain ⟨h1, h2⟩ := fit_loc hf hx he
  exact wpAny_Name (wpAny_loadName_local h1 h2 X.ns hm h) hd
theorem strsAre_of {G : PH} {vs : List Value} {ts : List (List Nat)} (h : RepAll G vs (ts.map pS)) : StrsAre vs (ts.map S) := by
  induction ts generalizing vs with
  | nil => cases h; exact .nil
  | cons t ts ih => cases h with | cons a b => obtain ⟨u, rfl⟩ := Rep.inv_str a; exact .cons _ _ (ih b)
theorem countP_S (y : List Nat) {G : PH} {vs : List Value} {ts : List (List Nat)} (h : RepAll G vs (ts.map pS)) : vs.countP (isStrOf (S y)) = ts.count y := by
  induction ts generalizing vs with
  | nil => cases h; rfl
  | cons t ts ih => cases h with | cons a b =>
    obtain ⟨u, rfl⟩ := Rep.inv_str a
    rw [List.countP_cons, ih b, List.count_cons]
    simp [isStrOf, S_beq]
theorem Ev_countO {x : Str} {pos apos npos : Pos} {e : Expr} {ts : List (List Nat)} {y : List Nat} (k : Nat) (hf : F.fit = true) (hx : F.locs[k]? = some x) (hv : vs[k]? = some (some (.own (ts.map pS)))) (h : Ev prog w Λ F n vs cs e (dS y))
    (hline : (apos.endLine == pos.line) = true := by rfl) (hs : ∀ env, starEach [e] env = [(false, eval e env)] := by intro _; rfl)
    (hd : (x == ("__debug__" : Str)) = false := by decide) :
    Ev prog w Λ F n vs cs (.Call (.Attribute (.Name x npos) (Str.ofString "count") apos) [e] [] pos) (dI (ts.count y : Nat)) := ⟨fun A env G s E hr he hV => by
  obtain ⟨m, oa, X⟩ := id hV
  have hb : backTo pos (starEach [e] env) = [(false, eval e env)] := by rw [hs env]; rfl
  refine wpAny_Call_method (o := .Name x npos) (apos := apos) rfl (by rw [hb]; rfl) hline PySem.F.plainAttrs_list PySem.F.slot_list_count PySem.F.type_list_count (ownV k hf he hx hv hd X ?_)
  obtain ⟨v, hm, hok⟩ := X.loc k x _ hx hv
  obtain ⟨_, hfr, items, hp, hA⟩ := hok
  refine ⟨hp.isList.typeIs, fun a e => ?_, ?_⟩
  · cases e; obtain ⟨_, e⟩ := hp; exact ⟨_, e, rfl⟩
  rw [hb]
  refine PySem.Calls.callWith_builtin rfl (evalArgs_plain (spliced_cons (h.seq hr he hV fun u s1 G1 g1 x1 V1 o1 => spliced_nil ?_)))
  obtain ⟨t, rfl⟩ := Rep.inv_str o1
  obtain ⟨nn, hp⟩ := hp
  have hp1 := g1.keep _ _ hp
  have hi := strsAre_of hA
  refine call_meets PySem.F.slot_list_count ⟨_, hp1, rfl⟩ PySem.F.entry_list_count (PySem.F.args_list_count_2 _ _) (SeqAt.list_countAt (oa k) items nn none #[] (.str (S y) t) (isStrOf (S y))) ⟨hp1, fun z hz => (eq_isStrOf (S y) t hi z (by simpa using hz)).at _ _, ?_⟩
  rw [countP_S y hA]
  exact ⟨g1.trans .tok, G1, x1.after .tok, Rep.int _ _⟩⟩
noncomputable def isT : Value → Bool
  | .bool b => b
  | _ => false
end
end Mine
end
section
open PySem PySem.W PyProof.Rows PySem.Calls PySem.Builtin.Str
set_option Elab.async false
set_option linter.unusedVariables false
set_option maxRecDepth 100000
namespace Mine
noncomputable abbrev FnK (Λ : Glo) (k : Nat) (a : Addr) : Prop := FnAt Λ (dName (stmtAt k)) (dArgs (stmtAt k)) (dBody (stmtAt k)) (dScope (stmtAt k)) a
noncomputable def fnIdx : List Nat := [2, 3, 4, 5, 14, 18, 19, 20, 21, 22, 24, 25, 33, 47, 49, 50, 51, 52, 53, 54, 55, 56]
noncomputable def biNames : List Str := ["enumerate", "len", "type", "issubclass", "isinstance", "str", "bytes", "tuple", "map", "min", "max", "range", "int", "sum", "zip"].map Str.ofString
/-- the table of filemode as data -/
noncomputable def tabD : PyData := .tuple [
  .tuple [.tuple [pI 40960, pS [108]], .tuple [pI 49152, pS [115]], .tuple [pI 32768, pS [45]], .tuple [pI 24576, pS [98]], .tuple [pI 16384, pS [100]], .tuple [pI 8192, pS [99]], .tuple [pI 4096, pS [112]]],
  .tuple [.tuple [pI 256, pS [114]]], .tuple [.tuple [pI 128, pS [119]]], .tuple [.tuple [pI 2112, pS [115]], .tuple [pI 2048, pS [83]], .tuple [pI 64, pS [120]]],
  .tuple [.tuple [pI 32, pS [114]]], .tuple [.tuple [pI 16, pS [119]]], .tuple [.tuple [pI 1032, pS [115]], .tuple [pI 1024, pS [83]], .tuple [pI 8, pS [120]]],
  .tuple [.tuple [pI 4, pS [114]]], .tuple [.tuple [pI 2, pS [119]]], .tuple [.tuple [pI 513, pS [116]], .tuple [pI 512, pS [84]], .tuple [pI 1, pS [120]]]]
/-- the ground of this text -/
structure Gd (Λ : Glo) : Prop where
  ok : GloOk Λ
  fn : ∀ k ∈ fnIdx, ∃ a, FnK Λ k a
  free : ∀ x ∈ biNames, Λ.mg x = none
  dir : ∃ t, Λ.mg (Str.ofString "S_IFDIR") = some (.int 16384 t)
  tab : ∃ v, Λ.mg (Str.ofString "_filemode_table") = some v ∧ Rep Λ.gd v tabD

section
variable {w : World} {Λ : Glo} {F : FS} {n : Nat} {vs cs : List (Option AV)}
variable (w Λ) in
/-- what a call of a def gives -/
noncomputable def Cl (k n : Nat) (avs : List AV) (av : AV) : Prop := ∀ a, FnK Λ k a → OpL pr w Λ n (fun us => call (.ref a) us) avs av

theorem Ev_globD {x : Str} {pos : Pos} {v : Value} {d : PyData} (hΛ : GloOk Λ) (hf : F.fit = true) (hk : F.scope.names.lookup x = some .globalImplicit) (hv : Λ.mg x = some v) (hd : Rep Λ.gd v d)
    (hdb : (x == ("__debug__" : Str)) = false := by decide) : Ev pr w Λ F n vs cs (.Name x pos) (.dat d) := ⟨fun A env G s E hr he hV =>
  (Ev_glob (prog := pr) (w := w) (n := n) (vs := vs) (cs := cs) (pos := pos) hΛ hf hk hv hdb).seq hr he hV fun u s1 G1 g1 x1 V1 o1 => by
    obtain rfl : u = _ := o1
    exact ⟨g1, G1, x1, hd.mono V1.p0.gd⟩⟩

theorem Ev_fn {x : Str} {e : Expr} {es : List Expr} {p pos : Pos} {avs : List AV} {av : AV} (k m : Nat) (hG : Gd Λ) (hf : F.fit = true) (h2 : EvL pr w Λ F n vs cs (e :: es) avs) (h3 : Cl w Λ k m avs av) (hm : m ≤ n)
    (hx : F.scope.names.lookup x = some .globalImplicit := by rfl) (hn : x = dName (stmtAt k) := by rfl) (hk : k ∈ fnIdx := by decide) (hd : (x == ("__debug__" : Str)) = false := by decide)
    (he : ∀ env, eval (.Call (.Name x p) (e :: es) [] pos) env = (do callWith pos (← eval (.Name x p) env) [] (backTo pos (starEach (e :: es) env)) (backToKw pos (keywordEach [] env))) := by intro _; rfl)
    (hs : ∀ env, starEach (e :: es) env = (false, eval e env) :: starEach es env := by intro _; rfl) : Ev pr w Λ F n vs cs (.Call (.Name x p) (e :: es) [] pos) av := by
  obtain ⟨a, hat⟩ := hG.fn k hk
  exact Ev_call hat (Ev_glob hG.ok hf hx (by rw [hn]; exact hat.glob) hd) h2 (h3 a hat) hm he hs

theorem Ev_bin {x : Str} {pos : Pos} {v : Value} (hG : Gd Λ) (hf : F.fit = true) (hk : F.scope.names.lookup x = some .globalImplicit) (hb : x ∈ biNames) (hv : bootBuiltins x = some v)
    (hn : x ≠ "__name__" := by decide) (hd : (x == ("__debug__" : Str)) = false := by decide) : Ev pr w Λ F n vs cs (.Name x pos) (.raw v) := Ev_bi hG.ok hf hk (hG.free x hb) hv hn hd

theorem Itb_genF {target e : Expr} {p pos : Pos} {x : List Nat} {y : Str} (hG : Gd Λ) (hf : F.fit = true) (h2 : Ev pr w Λ F n vs cs e (dS x))
    (hx : F.scope.names.lookup y = some .globalImplicit := by rfl) (hn : y = dName (stmtAt 2) := by rfl) (hd : (y == ("__debug__" : Str)) = false := by decide)
    (he : ∀ env, eval (.Call (.Name y p) [e] [] pos) env = (do callWith pos (← eval (.Name y p) env) [] (backTo pos (starEach [e] env)) (backToKw pos (keywordEach [] env))) := by intro _; rfl)
    (hs : ∀ env, starEach [e] env = (false, eval e env) :: starEach [] env := by intro _; rfl) :
    Itb pr w Λ F n vs cs target (.Call (.Name y p) [e] [] pos) (escs x).length (fun i => dT [.int ((escs x).getD i (0, [])).1, pS ((escs x).getD i (0, [])).2]) := by
  obtain ⟨a, hat⟩ := hG.fn 2 (by decide)
  exact Itb_gen hG.ok (hG.free _ (by decide)) hat (Ev_glob hG.ok hf hx (by rw [hn]; exact hat.glob) hd) h2 he hs

theorem Cl_intro {k : Nat} {F : FS} {ps : List Str} {avs : List AV} {av : AV} {n : Nat} (vs cs : List (Option AV))
    (hG : Gd Λ) (hE : Enters F (dScope (stmtAt k)) ps avs vs cs)
    (hbind : ∀ pm cd doc us, us.length = avs.length → bindArgs (docDef (dName (stmtAt k)) (dArgs (stmtAt k)) (dBody (stmtAt k)) (dScope (stmtAt k)) pm cd doc) ⟨us, []⟩ = pure (ps.zip us))
    (h : Ex pr w Λ F n vs cs (dBody (stmtAt k)) (fun o => o = .ret av ∨ ((∃ vs cs, o = .next vs cs) ∧ av = .dat .none)))
    (hco : (dScope (stmtAt k)).isCoroutine = false := by rfl) (hgen : (dScope (stmtAt k)).isGenerator = false := by rfl) : Cl w Λ k (n + 1) avs av := fun a hat =>
  Fn_intro hG.ok hat hE hbind h hco hgen
end
noncomputable def F_strip_quoted_realnames : FS := { scope := dScope (stmtAt 3), locs := [Str.ofString "addr", Str.ofString "start", Str.ofString "open_pos", Str.ofString "result", Str.ofString "pos", Str.ofString "ch"], cels := [] }
theorem fit_strip_quoted_realnames : F_strip_quoted_realnames.fit = true := by decide +kernel
noncomputable def F_check_parenthesis : FS := { scope := dScope (stmtAt 4), locs := [Str.ofString "addr", Str.ofString "opens", Str.ofString "pos", Str.ofString "ch"], cels := [] }
theorem fit_check_parenthesis : F_check_parenthesis.fit = true := by decide +kernel
noncomputable def F_pre_parse_validation : FS := { scope := dScope (stmtAt 5), locs := [Str.ofString "email_header_fields", Str.ofString "accepted_values", Str.ofString "v"], cels := [] }
theorem fit_pre_parse_validation : F_pre_parse_validation.fit = true := by decide +kernel
noncomputable def F_fspath : FS := { scope := dScope (stmtAt 14), locs := [Str.ofString "path", Str.ofString "kind", Str.ofString "hook", Str.ofString "given"], cels := [] }
theorem fit_fspath : F_fspath.fit = true := by decide +kernel
noncomputable def F_get_sep : FS := { scope := dScope (stmtAt 18), locs := [Str.ofString "path"], cels := [] }
theorem fit_get_sep : F_get_sep.fit = true := by decide +kernel
noncomputable def F_join : FS := { scope := dScope (stmtAt 19), locs := [Str.ofString "a", Str.ofString "p", Str.ofString "sep", Str.ofString "path", Str.ofString "b"], cels := [] }
theorem fit_join : F_join.fit = true := by decide +kernel
noncomputable def F_splitroot : FS := { scope := dScope (stmtAt 20), locs := [Str.ofString "p", Str.ofString "sep", Str.ofString "empty"], cels := [] }
theorem fit_splitroot : F_splitroot.fit = true := by decide +kernel
noncomputable def F_normpath : FS := { scope := dScope (stmtAt 21), locs := [Str.ofString "path", Str.ofString "sep", Str.ofString "dot", Str.ofString "dotdot", Str.ofString "_", Str.ofString "initial_slashes", Str.ofString "comps", Str.ofString "new_comps", Str.ofString "comp"], cels := [] }
theorem fit_normpath : F_normpath.fit = true := by decide +kernel
noncomputable def F_commonpath : FS := { scope := dScope (stmtAt 22), locs := [Str.ofString "paths", Str.ofString "split_paths", Str.ofString "isabs", Str.ofString "c", Str.ofString "s1", Str.ofString "s2", Str.ofString "common", Str.ofString "i", Str.ofString "prefix"], cels := [Str.ofString "sep", Str.ofString "curdir"] }
theorem fit_commonpath : F_commonpath.fit = true := by decide +kernel
noncomputable def F_imode : FS := { scope := dScope (stmtAt 24), locs := [Str.ofString "mode"], cels := [] }
theorem fit_imode : F_imode.fit = true := by decide +kernel
noncomputable def F_ifmt : FS := { scope := dScope (stmtAt 25), locs := [Str.ofString "mode"], cels := [] }
theorem fit_ifmt : F_ifmt.fit = true := by decide +kernel
noncomputable def F_isdir : FS := { scope := dScope (stmtAt 33), locs := [Str.ofString "mode"], cels := [] }
theorem fit_isdir : F_isdir.fit = true := by decide +kernel
noncomputable def F_filemode : FS := { scope := dScope (stmtAt 47), locs := [Str.ofString "mode", Str.ofString "perm", Str.ofString "index", Str.ofString "table", Str.ofString "bit", Str.ofString "char"], cels := [] }
theorem fit_filemode : F_filemode.fit = true := by decide +kernel
noncomputable def F_law_line : FS := { scope := dScope (stmtAt 49), locs := [Str.ofString "script"], cels := [Str.ofString "signs"] }
theorem fit_law_line : F_law_line.fit = true := by decide +kernel
noncomputable def F_law_pieces : FS := { scope := dScope (stmtAt 50), locs := [Str.ofString "line", Str.ofString "pieces", Str.ofString "at", Str.ofString "marks", Str.ofString "kept", Str.ofString "seen", Str.ofString "piece"], cels := [] }
theorem fit_law_pieces : F_law_pieces.fit = true := by decide +kernel
noncomputable def F_law_depths : FS := { scope := dScope (stmtAt 51), locs := [Str.ofString "pieces", Str.ofString "depths", Str.ofString "piece"], cels := [] }
theorem fit_law_depths : F_law_depths.fit = true := by decide +kernel
noncomputable def F_law_row : FS := { scope := dScope (stmtAt 52), locs := [Str.ofString "kind", Str.ofString "rights", Str.ofString "row", Str.ofString "triple", Str.ofString "bits", Str.ofString "extra"], cels := [] }
theorem fit_law_row : F_law_row.fit = true := by decide +kernel
noncomputable def F_law_places : FS := { scope := dScope (stmtAt 53), locs := [Str.ofString "pieces", Str.ofString "places", Str.ofString "at", Str.ofString "piece"], cels := [] }
theorem fit_law_places : F_law_places.fit = true := by decide +kernel
noncomputable def F_law_made : FS := { scope := dScope (stmtAt 54), locs := [Str.ofString "pieces", Str.ofString "depths", Str.ofString "places", Str.ofString "made", Str.ofString "at", Str.ofString "seen", Str.ofString "low", Str.ofString "k"], cels := [] }
theorem fit_law_made : F_law_made.fit = true := by decide +kernel
noncomputable def F_law_told : FS := { scope := dScope (stmtAt 55), locs := [Str.ofString "place", Str.ofString "sign", Str.ofString "seen", Str.ofString "names", Str.ofString "root", Str.ofString "figures", Str.ofString "piece", Str.ofString "kind", Str.ofString "figure"], cels := [Str.ofString "rights", Str.ofString "off"] }
theorem fit_law_told : F_law_told.fit = true := by decide +kernel
noncomputable def F_law_read : FS := { scope := dScope (stmtAt 56), locs := [Str.ofString "line", Str.ofString "here", Str.ofString "off", Str.ofString "kept", Str.ofString "made", Str.ofString "places", Str.ofString "place", Str.ofString "piece", Str.ofString "mode"], cels := [] }
theorem fit_law_read : F_law_read.fit = true := by decide +kernel
noncomputable def F_law : FS := { scope := dScope (stmtAt 57), locs := [Str.ofString "lines", Str.ofString "rows", Str.ofString "taken", Str.ofString "pieces", Str.ofString "depths", Str.ofString "kept", Str.ofString "first", Str.ofString "told", Str.ofString "made", Str.ofString "places", Str.ofString "common"], cels := [Str.ofString "script", Str.ofString "k", Str.ofString "folders"] }
theorem fit_law : F_law.fit = true := by decide +kernel
end Mine
end
section
open PySem PySem.W PyProof.Rows PySem.Calls PySem.Builtin.Str
set_option Elab.async false
set_option maxRecDepth 100000
namespace Mine
theorem ty_str_type : typeOf (.type "str") = pure (.type "type") := by rfl
theorem ty_bytes_type : typeOf (.type "bytes") = pure (.type "type") := by rfl
theorem sub_str_str : isSubtype (.type "str") (.type "str") = pure true := by rw [isSubtype_type]; kernel_rfl
theorem sub_str_bytes : isSubtype (.type "str") (.type "bytes") = pure false := by rw [isSubtype_type]; kernel_rfl
section
variable {prog : Program} {w : World} {A : Around} {E : Value → Shared → Prop} {s : Shared}
theorem code_function_meets {id : String} {B : Builtin} {args : List Value} {S : PySem.Spec} {R : Result → Shared → Prop} (kind : builtinKind id = none) (plain : plainId id = true)
    (entry : entryFor table id = some B) (ok : argsOk id ⟨args, []⟩) (g : Meets (B ⟨args, []⟩) S) (h : S A R s) : codeAny (model prog w) A (.call (.builtin id) ⟨args, []⟩) R s := by
  refine codeAny_call_builtin plain entry ?_
  have hfin := g prog w A R s h
  simp only [checkBuiltinCall, kind]
  cases hsig : Manifest.signature? id with
  | none => exact wpAny_pure hfin
  | some sig =>
    simp only [argsOk, hsig] at ok
    have h2 : Bind.checkArgs id sig ⟨args, []⟩ = pure () := ok
    show wpAny _ _ (Bind.checkArgs id sig ⟨args, []⟩) _ _ s
    rw [h2]; exact wpAny_pure hfin
theorem kind_issubn : builtinKind "issubclass.nested" = none := by decide +kernel
theorem plain_issubn : plainId "issubclass.nested" = true := by decide +kernel
theorem args_issubn (a b c : Value) : argsOk "issubclass.nested" ⟨[a, b, c], []⟩ := by unfold argsOk; kernel_rfl
theorem nest1 (dep : Int) (tk : Tok) : Meets (Builtin.«issubclass.nested» ⟨[.type "str", .type "str", .int dep tk], []⟩) (fun _ R s => R (.ok (.ret (.bool true))) s) := fun prog w A R s hq => by
  obtain ⟨h, g, d, t, os⟩ := s
  have f1 := ty_str_type
  have f2 := sub_str_str
  repeat (any_goals (first | assumption | wp_step))
theorem nest2 {c : Value} {tp : Addr} {tk : Tok} {s : Shared} {Q : Fin → Shared → Prop} (htp : s.heap.get? tp = some { cls := .type "tuple", data := .seq #[.type "str", c] })
    (hq : Q (.done (.ret (.bool true))) s) :
    wpAny (model prog w) A (Builtin.«issubclass.nested» ⟨[.type "str", .ref tp, .int 0 tk], []⟩) Q E s := by
  obtain ⟨h, g, d, t, os⟩ := s
  have hT2 : (⟨h, g, d, t, os⟩ : Shared).TypeIs (.ref tp) "tuple" := ⟨_, htp, rfl⟩
  have f1 := F.isi_sub_tuple
  repeat (any_goals (first | assumption | wp_step))
  refine code_function_meets kind_issubn plain_issubn F.entry_issubclass_nested (args_issubn _ _ _) (nest1 _ _) ?_
  show wpAny _ _ (truthy (.bool true) >>= _) _ _ _
  refine wpAny_bind (m := truthy (.bool true)) (wpAny_pure ?_)
  exact wpAny_bind (wpAny_pure (wpAny_pure (wpAny_pure (wpAny_pure hq))))
theorem subclass_tuple {c : Value} {tp : Addr} {Q : Value → Shared → Prop} (htp : s.heap.get? tp = some { cls := .type "tuple", data := .seq #[.type "str", c] }) (hq : Q (.bool true) s) :
    wpAny (model prog w) A (call (.builtin "issubclass") [.type "str", .ref tp]) Q E s :=
  PyProof.Rows.call_issubclass (S := fun _ R s => s.heap.get? tp = some { cls := .type "tuple", data := .seq #[.type "str", c] } ∧ R (.ok (.ret (.bool true))) s) (fun _ _ _ _ _ hs => issubclass_outer (nest2 hs.1 hs.2)) ⟨htp, hq⟩
end
section
variable {w : World} {Λ : Glo} {F : FS} {n : Nat} {vs cs : List (Option AV)}
theorem op_isinstB {x : List Nat} : OpL pr w Λ n (fun us => call (.builtin "isinstance") us) [dS x, .raw (.type "bytes")] (dB false) := fun A G s E us hr hp ok => by
  cases ok with | cons o1 o2 => cases o2 with | cons o2 o3 => cases o3 with | nil =>
  obtain ⟨t, rfl⟩ := Rep.inv_str o1
  obtain rfl : _ = Value.type "bytes" := o2
  exact call_isinstance (isinstance_false_str (by decide) ty_bytes_type sub_str_bytes) (Got.of hp.data .tok (Rep.bool _))
/-- issubclass(kind, (str, bytes)) -/
theorem Ev_subclass {f e a b : Expr} {k : Nat} {p pos : Pos} {c : Value} (h1 : Ev pr w Λ F n vs cs f (.raw (.builtin "issubclass"))) (h2 : Ev pr w Λ F n vs cs e (.raw (.type "str"))) (h3 : EvL pr w Λ F n vs cs [a, b] [.raw (.type "str"), .raw c])
    (he : ∀ env, eval (.Call f [e, .Tuple [a, b] k p] [] pos) env = (do callWith pos (← eval f env) [] (backTo pos (starEach [e, .Tuple [a, b] k p] env)) (backToKw pos (keywordEach [] env))) := by intro _; rfl)
    (hs : ∀ env, starEach [e, .Tuple [a, b] k p] env = (false, eval e env) :: starEach [.Tuple [a, b] k p] env := by intro _; rfl)
    (hpl : ∀ env, (backTo pos (starEach [.Tuple [a, b] k p] env)).any (·.1) = false := by intro _; rfl) : Ev pr w Λ F n vs cs (.Call f [e, .Tuple [a, b] k p] [] pos) (dB true) := ⟨fun A env G s E hr hen hV => by
  refine Call_ (h1.seq hr hen hV fun u s1 G1 g1 x1 V1 o1 => ?_) (he env)
  obtain rfl : u = _ := o1
  refine callWith_builtin1 (args_cons (h2.seq hr hen V1 fun u s2 G2 g2 x2 V2 o2 => args_cons (Tuple_ (h3.seq hr hen V2 fun us s3 G3 g3 x3 V3 o3 => wpAny_newObj_type (args_nil ?_) ?_)) rfl) (hs env)) (hs env) (hpl env)
  · obtain rfl : u = _ := o2
    cases o3 with | cons q1 q2 => cases q2 with | cons q2 q3 => cases q3 with | nil =>
    obtain rfl : _ = Value.type "str" := q1
    obtain rfl : _ = c := q2
    exact subclass_tuple (Heap.get?_push_size _ rfl) (Got.of hV.data (((g1.trans g2).trans g3).trans .push) (Rep.bool _))
  · have := o3.length
    show us.toArray.size ≤ sizeLine
    rw [List.size_toArray, this]; show 2 ≤ sizeLine; decide⟩
end
end Mine
end
section
open PySem PySem.W PyProof.Rows PySem.Calls PySem.Builtin.Str
set_option Elab.async false
set_option linter.unusedVariables false
set_option maxRecDepth 100000
namespace Mine
theorem bb_enumerate : bootBuiltins (Str.ofString "enumerate") = some (.type "enumerate") := by decide +kernel
theorem bm_enumerate : Str.ofString "enumerate" ∈ biNames := by decide +kernel
theorem bn_enumerate : Str.ofString "enumerate" ≠ "__name__" ∧ (Str.ofString "enumerate" == ("__debug__" : Str)) = false := by decide +kernel
theorem bb_len : bootBuiltins (Str.ofString "len") = some (.builtin "len") := by decide +kernel
theorem bm_len : Str.ofString "len" ∈ biNames := by decide +kernel
theorem bn_len : Str.ofString "len" ≠ "__name__" ∧ (Str.ofString "len" == ("__debug__" : Str)) = false := by decide +kernel
theorem bb_type : bootBuiltins (Str.ofString "type") = some (.type "type") := by decide +kernel
theorem bm_type : Str.ofString "type" ∈ biNames := by decide +kernel
theorem bn_type : Str.ofString "type" ≠ "__name__" ∧ (Str.ofString "type" == ("__debug__" : Str)) = false := by decide +kernel
theorem bb_issubclass : bootBuiltins (Str.ofString "issubclass") = some (.builtin "issubclass") := by decide +kernel
theorem bm_issubclass : Str.ofString "issubclass" ∈ biNames := by decide +kernel
theorem bn_issubclass : Str.ofString "issubclass" ≠ "__name__" ∧ (Str.ofString "issubclass" == ("__debug__" : Str)) = false := by decide +kernel
theorem bb_isinstance : bootBuiltins (Str.ofString "isinstance") = some (.builtin "isinstance") := by decide +kernel
theorem bm_isinstance : Str.ofString "isinstance" ∈ biNames := by decide +kernel
theorem bn_isinstance : Str.ofString "isinstance" ≠ "__name__" ∧ (Str.ofString "isinstance" == ("__debug__" : Str)) = false := by decide +kernel
theorem bb_str : bootBuiltins (Str.ofString "str") = some (.type "str") := by decide +kernel
theorem bm_str : Str.ofString "str" ∈ biNames := by decide +kernel
theorem bn_str : Str.ofString "str" ≠ "__name__" ∧ (Str.ofString "str" == ("__debug__" : Str)) = false := by decide +kernel
theorem bb_bytes : bootBuiltins (Str.ofString "bytes") = some (.type "bytes") := by decide +kernel
theorem bm_bytes : Str.ofString "bytes" ∈ biNames := by decide +kernel
theorem bn_bytes : Str.ofString "bytes" ≠ "__name__" ∧ (Str.ofString "bytes" == ("__debug__" : Str)) = false := by decide +kernel
theorem bb_tuple : bootBuiltins (Str.ofString "tuple") = some (.type "tuple") := by decide +kernel
theorem bm_tuple : Str.ofString "tuple" ∈ biNames := by decide +kernel
theorem bn_tuple : Str.ofString "tuple" ≠ "__name__" ∧ (Str.ofString "tuple" == ("__debug__" : Str)) = false := by decide +kernel
theorem bb_map : bootBuiltins (Str.ofString "map") = some (.type "map") := by decide +kernel
theorem bm_map : Str.ofString "map" ∈ biNames := by decide +kernel
theorem bn_map : Str.ofString "map" ≠ "__name__" ∧ (Str.ofString "map" == ("__debug__" : Str)) = false := by decide +kernel
theorem bb_min : bootBuiltins (Str.ofString "min") = some (.builtin "min") := by decide +kernel
theorem bm_min : Str.ofString "min" ∈ biNames := by decide +kernel
theorem bn_min : Str.ofString "min" ≠ "__name__" ∧ (Str.ofString "min" == ("__debug__" : Str)) = false := by decide +kernel
theorem bb_max : bootBuiltins (Str.ofString "max") = some (.builtin "max") := by decide +kernel
theorem bm_max : Str.ofString "max" ∈ biNames := by decide +kernel
theorem bn_max : Str.ofString "max" ≠ "__name__" ∧ (Str.ofString "max" == ("__debug__" : Str)) = false := by decide +kernel
theorem bb_range : bootBuiltins (Str.ofString "range") = some (.type "range") := by decide +kernel
theorem bm_range : Str.ofString "range" ∈ biNames := by decide +kernel
theorem bn_range : Str.ofString "range" ≠ "__name__" ∧ (Str.ofString "range" == ("__debug__" : Str)) = false := by decide +kernel
theorem bb_int : bootBuiltins (Str.ofString "int") = some (.type "int") := by decide +kernel
theorem bm_int : Str.ofString "int" ∈ biNames := by decide +kernel
theorem bn_int : Str.ofString "int" ≠ "__name__" ∧ (Str.ofString "int" == ("__debug__" : Str)) = false := by decide +kernel
theorem bb_sum : bootBuiltins (Str.ofString "sum") = some (.builtin "sum") := by decide +kernel
theorem bm_sum : Str.ofString "sum" ∈ biNames := by decide +kernel
theorem bn_sum : Str.ofString "sum" ≠ "__name__" ∧ (Str.ofString "sum" == ("__debug__" : Str)) = false := by decide +kernel
theorem bb_zip : bootBuiltins (Str.ofString "zip") = some (.type "zip") := by decide +kernel
theorem bm_zip : Str.ofString "zip" ∈ biNames := by decide +kernel
theorem bn_zip : Str.ofString "zip" ≠ "__name__" ∧ (Str.ofString "zip" == ("__debug__" : Str)) = false := by decide +kernel
theorem bx_enumerate : bootBuiltins (Str.ofString "enumerate") = some (.type "enumerate") ∧ Str.ofString "enumerate" ∈ biNames ∧ Str.ofString "enumerate" ≠ "__name__" ∧ (Str.ofString "enumerate" == ("__debug__" : Str)) = false := ⟨bb_enumerate, bm_enumerate, bn_enumerate⟩
theorem bx_len : bootBuiltins (Str.ofString "len") = some (.builtin "len") ∧ Str.ofString "len" ∈ biNames ∧ Str.ofString "len" ≠ "__name__" ∧ (Str.ofString "len" == ("__debug__" : Str)) = false := ⟨bb_len, bm_len, bn_len⟩
theorem bx_type : bootBuiltins (Str.ofString "type") = some (.type "type") ∧ Str.ofString "type" ∈ biNames ∧ Str.ofString "type" ≠ "__name__" ∧ (Str.ofString "type" == ("__debug__" : Str)) = false := ⟨bb_type, bm_type, bn_type⟩
theorem bx_issubclass : bootBuiltins (Str.ofString "issubclass") = some (.builtin "issubclass") ∧ Str.ofString "issubclass" ∈ biNames ∧ Str.ofString "issubclass" ≠ "__name__" ∧ (Str.ofString "issubclass" == ("__debug__" : Str)) = false := ⟨bb_issubclass, bm_issubclass, bn_issubclass⟩
theorem bx_isinstance : bootBuiltins (Str.ofString "isinstance") = some (.builtin "isinstance") ∧ Str.ofString "isinstance" ∈ biNames ∧ Str.ofString "isinstance" ≠ "__name__" ∧ (Str.ofString "isinstance" == ("__debug__" : Str)) = false := ⟨bb_isinstance, bm_isinstance, bn_isinstance⟩
theorem bx_str : bootBuiltins (Str.ofString "str") = some (.type "str") ∧ Str.ofString "str" ∈ biNames ∧ Str.ofString "str" ≠ "__name__" ∧ (Str.ofString "str" == ("__debug__" : Str)) = false := ⟨bb_str, bm_str, bn_str⟩
theorem bx_bytes : bootBuiltins (Str.ofString "bytes") = some (.type "bytes") ∧ Str.ofString "bytes" ∈ biNames ∧ Str.ofString "bytes" ≠ "__name__" ∧ (Str.ofString "bytes" == ("__debug__" : Str)) = false := ⟨bb_bytes, bm_bytes, bn_bytes⟩
theorem bx_tuple : bootBuiltins (Str.ofString "tuple") = some (.type "tuple") ∧ Str.ofString "tuple" ∈ biNames ∧ Str.ofString "tuple" ≠ "__name__" ∧ (Str.ofString "tuple" == ("__debug__" : Str)) = false := ⟨bb_tuple, bm_tuple, bn_tuple⟩
theorem bx_map : bootBuiltins (Str.ofString "map") = some (.type "map") ∧ Str.ofString "map" ∈ biNames ∧ Str.ofString "map" ≠ "__name__" ∧ (Str.ofString "map" == ("__debug__" : Str)) = false := ⟨bb_map, bm_map, bn_map⟩
theorem bx_min : bootBuiltins (Str.ofString "min") = some (.builtin "min") ∧ Str.ofString "min" ∈ biNames ∧ Str.ofString "min" ≠ "__name__" ∧ (Str.ofString "min" == ("__debug__" : Str)) = false := ⟨bb_min, bm_min, bn_min⟩
theorem bx_max : bootBuiltins (Str.ofString "max") = some (.builtin "max") ∧ Str.ofString "max" ∈ biNames ∧ Str.ofString "max" ≠ "__name__" ∧ (Str.ofString "max" == ("__debug__" : Str)) = false := ⟨bb_max, bm_max, bn_max⟩
theorem bx_range : bootBuiltins (Str.ofString "range") = some (.type "range") ∧ Str.ofString "range" ∈ biNames ∧ Str.ofString "range" ≠ "__name__" ∧ (Str.ofString "range" == ("__debug__" : Str)) = false := ⟨bb_range, bm_range, bn_range⟩
theorem bx_int : bootBuiltins (Str.ofString "int") = some (.type "int") ∧ Str.ofString "int" ∈ biNames ∧ Str.ofString "int" ≠ "__name__" ∧ (Str.ofString "int" == ("__debug__" : Str)) = false := ⟨bb_int, bm_int, bn_int⟩
theorem bx_sum : bootBuiltins (Str.ofString "sum") = some (.builtin "sum") ∧ Str.ofString "sum" ∈ biNames ∧ Str.ofString "sum" ≠ "__name__" ∧ (Str.ofString "sum" == ("__debug__" : Str)) = false := ⟨bb_sum, bm_sum, bn_sum⟩
theorem bx_zip : bootBuiltins (Str.ofString "zip") = some (.type "zip") ∧ Str.ofString "zip" ∈ biNames ∧ Str.ofString "zip" ≠ "__name__" ∧ (Str.ofString "zip" == ("__debug__" : Str)) = false := ⟨bb_zip, bm_zip, bn_zip⟩
theorem st_0 : Str.ofString "\\" = S [92] := by rfl
theorem st_1 : Str.ofString "\"" = S [34] := by rfl
theorem st_2 : Str.ofString "" = S [] := by rfl
theorem st_3 : Str.ofString "(" = S [40] := by rfl
theorem st_4 : Str.ofString ")" = S [41] := by rfl
theorem st_5 : Str.ofString "('', '')" = S [40, 39, 39, 44, 32, 39, 39, 41] := by rfl
theorem st_12 : Str.ofString "/" = S [47] := by rfl
theorem st_14 : Str.ofString "." = S [46] := by rfl
theorem st_15 : Str.ofString ".." = S [46, 46] := by rfl
theorem st_19 : Str.ofString "?" = S [63] := by rfl
theorem st_20 : Str.ofString "-" = S [45] := by rfl
theorem st_21 : Str.ofString "()ab\"=\"\\\\#-/.!2=a70-" = S [40, 41, 97, 98, 34, 61, 34, 92, 92, 35, 45, 47, 46, 33, 50, 61, 97, 55, 48, 45] := by rfl
theorem st_23 : Str.ofString "-r" = S [45, 114] := by rfl
theorem st_24 : Str.ofString "-w" = S [45, 119] := by rfl
theorem st_25 : Str.ofString "-x" = S [45, 120] := by rfl
theorem st_26 : Str.ofString "Tt" = S [84, 116] := by rfl
theorem st_27 : Str.ofString "Ss" = S [83, 115] := by rfl
theorem st_28 : Str.ofString "=" = S [61] := by rfl
theorem st_29 : Str.ofString "#" = S [35] := by rfl
theorem st_30 : Str.ofString "!" = S [33] := by rfl
theorem st_31 : Str.ofString "//" = S [47, 47] := by rfl
theorem st_32 : Str.ofString "c" = S [99] := by rfl
theorem st_33 : Str.ofString "l" = S [108] := by rfl
theorem st_34 : Str.ofString "01234567" = S [48, 49, 50, 51, 52, 53, 54, 55] := by rfl
theorem st_35 : Str.ofString "d" = S [100] := by rfl
theorem st_36 : Str.ofString "b" = S [98] := by rfl
theorem st_37 : Str.ofString "//c" = S [47, 47, 99] := by rfl
section
variable {w : World} {Λ : Glo}
/-- a def whose parameters are the first of its plain names -/
theorem Cl_plain {k : Nat} {F : FS} {ps : List Str} {avs : List AV} {av : AV} {n : Nat} (m c : Nat) (hG : Gd Λ) (hfit : F.fit = true) (hsc : F.scope = dScope (stmtAt k)) (hro : F.ro = false)
    (hlocs : F.locs.take ps.length = ps) (plen : ps.length = avs.length) (hlen : F.locs.length = avs.length + m)
    (hcells : ∀ L, ∀ x ∈ F.cels, ((cellsFrom (L + 1) (dScope (stmtAt k)).names []).lookup x).isSome = true)
    (hbind : ∀ pm cd doc us, us.length = avs.length → bindArgs (docDef (dName (stmtAt k)) (dArgs (stmtAt k)) (dBody (stmtAt k)) (dScope (stmtAt k)) pm cd doc) ⟨us, []⟩ = pure (ps.zip us))
    (h : Ex pr w Λ F n (avs.map some ++ List.replicate m none) (List.replicate c none) (dBody (stmtAt k)) (fun o => o = .ret av ∨ ((∃ vs cs, o = .next vs cs) ∧ av = .dat .none)))
    (hco : (dScope (stmtAt k)).isCoroutine = false := by rfl) (hgen : (dScope (stmtAt k)).isGenerator = false := by rfl) : Cl w Λ k (n + 1) avs av := by
  have hpx : ∀ (j : Nat) (x : Str), ps[j]? = some x → F.locs[j]? = some x := fun j x hj => by
    rw [← hlocs] at hj
    have hlt := (List.getElem?_eq_some_iff.mp hj).1
    rw [List.length_take] at hlt
    rwa [List.getElem?_take_of_lt (by omega)] at hj
  have hnd : F.locs.Nodup := by
    simp only [FS.fit, Bool.and_eq_true, decide_eq_true_eq] at hfit
    exact hfit.1.2
  refine Cl_intro _ _ hG (ps := ps) (F := F) { sc := hsc, ro := hro, fit := hfit, nodup := ?_, plen := plen, len := ?_, loc := ?_, cel := ?_, cells := hcells, kinds := ?_ } hbind h hco hgen
  · rw [← hlocs]; exact hnd.sublist (List.take_sublist _ _)
  · rw [List.length_append, List.length_map, List.length_replicate, hlen]; exact Nat.le_refl _
  · intro j x av' h1 h2
    rcases Nat.lt_or_ge j avs.length with hj | hj
    · rw [List.getElem?_append_left (by rw [List.length_map]; exact hj), List.getElem?_map] at h2
      cases he : avs[j]? with
      | none => rw [he] at h2; cases h2
      | some a' =>
        rw [he] at h2; cases h2
        refine ⟨j, ?_, he⟩
        have hj' : j < ps.length := by omega
        have := hpx j _ (List.getElem?_eq_getElem hj')
        rw [this] at h1; cases h1
        exact List.getElem?_eq_getElem hj'
    · rw [List.getElem?_append_right (by rw [List.length_map]; exact hj)] at h2
      have := List.mem_of_getElem? h2
      rw [List.mem_replicate] at this
      cases this.2
  · intro j x av' h1 h2
    have := List.mem_of_getElem? h2
    rw [List.mem_replicate] at this
    cases this.2
  · intro L x hx
    left
    obtain ⟨j, hj⟩ := List.mem_iff_getElem?.mp hx
    have := hpx j x hj
    simp only [FS.fit, Bool.and_eq_true] at hfit
    have := List.all_eq_true.mp hfit.1.1.1.2 x (List.mem_of_getElem? this)
    rw [← hsc]; exact eq_of_beq this
end


section
variable {prog : Program} {w : World} {Λ : Glo} {F : FS} {n : Nat} {vs cs : List (Option AV)} {P : Out → Prop}
noncomputable def undat : AV → PyData
  | .dat d => d
  | _ => .none
theorem Ev_tupleU {es : List Expr} {k : Nat} {pos : Pos} {as : List AV} (h : EvL prog w Λ F n vs cs es as) (hu : (as.map undat).map AV.dat = as) (hl : es.length ≤ 1000) (hes : as.length = es.length := by rfl) : Ev prog w Λ F n vs cs (.Tuple es k pos) (dT (as.map undat)) :=
  Ev_tuple (by rw [hu]; exact h) (by rw [List.length_map, hes]; exact Nat.le_trans hl (by decide))
theorem Ev_listU {es : List Expr} {pos : Pos} {as : List AV} (h : EvL prog w Λ F n vs cs es as) (hu : (as.map undat).map AV.dat = as) (hl : es.length ≤ 1000) (hes : as.length = es.length := by rfl) : Ev prog w Λ F n vs cs (.List es pos) (dL (as.map undat)) :=
  Ev_list (by rw [hu]; exact h) (by rw [List.length_map, hes]; exact Nat.le_trans hl (by decide))
theorem Ev_itemL {value slice : Expr} {pos : Pos} {l : List PyData} {i : Int} {d : PyData} (h1 : Ev prog w Λ F n vs cs value (dL l)) (h2 : Ev prog w Λ F n vs cs slice (dI i)) (h0 : 0 ≤ i) (hi : i < 2 ^ 63) (hd : l[i.toNat]? = some d)
    (hs : ∀ o i, subscripted slice false o i = operate [o, i] (getItem o i) := by intro _ _; with_unfolding_all rfl) : Ev prog w Λ F n vs cs (.Subscript value slice pos) (.dat d) :=
  Ev_item h1 h2 ty_list slot_list_getitem.lookup (op_itemL h0 hi hd) hs
theorem Ev_itemLn {value slice : Expr} {pos : Pos} {l : List PyData} {i : Int} {d : PyData} (h1 : Ev prog w Λ F n vs cs value (dL l)) (h2 : Ev prog w Λ F n vs cs slice (dI i)) (h0 : i < 0) (h1' : -(l.length : Int) ≤ i) (hi : -(2 ^ 63) ≤ i) (hd : l[(i + l.length).toNat]? = some d)
    (hs : ∀ o i, subscripted slice false o i = operate [o, i] (getItem o i) := by intro _ _; with_unfolding_all rfl) : Ev prog w Λ F n vs cs (.Subscript value slice pos) (.dat d) :=
  Ev_item h1 h2 ty_list slot_list_getitem.lookup (op_itemLn h0 h1' hi hd) hs
theorem Ev_itemT {value slice : Expr} {pos : Pos} {l : List PyData} {i : Int} {d : PyData} {j : Nat} (h1 : Ev prog w Λ F n vs cs value (dT l)) (h2 : Ev prog w Λ F n vs cs slice (dI i)) (h0 : -(2 ^ 63) ≤ i) (hi : i < 2 ^ 63) (hj : seqIndex? i l.length = some j) (hd : l[j]? = some d)
    (hs : ∀ o i, subscripted slice false o i = operate [o, i] (getItem o i) := by intro _ _; with_unfolding_all rfl) : Ev prog w Λ F n vs cs (.Subscript value slice pos) (.dat d) :=
  Ev_item h1 h2 ty_tuple slot_tuple_getitem.lookup (op_itemT h0 hi hj hd) hs
theorem Ev_itemS {value slice : Expr} {pos : Pos} {l : List Nat} {i : Int} {c j : Nat} (h1 : Ev prog w Λ F n vs cs value (dS l)) (h2 : Ev prog w Λ F n vs cs slice (dI i)) (h0 : -(2 ^ 63) ≤ i) (hi : i < 2 ^ 63) (hj : seqIndex? i l.length = some j) (hd : l[j]? = some c)
    (hs : ∀ o i, subscripted slice false o i = operate [o, i] (getItem o i) := by intro _ _; with_unfolding_all rfl) : Ev prog w Λ F n vs cs (.Subscript value slice pos) (dS [c]) :=
  Ev_item h1 h2 ty_str slot_str_getitem.lookup (op_itemS h0 hi hj hd) hs
/-- the last of a list, of a text -/
theorem Ev_lastL {value : Expr} {pos p1 p2 : Pos} {k : Nat} {l : List PyData} {d : PyData} (h1 : Ev prog w Λ F n vs cs value (dL l)) (hsz : l.length ≤ sizeLine) (hd : l.getLast? = some d) :
    Ev prog w Λ F n vs cs (.Subscript value (.UnaryOp .USub (.Constant (.int 1) k p1) p2) pos) (.dat d) := by
  have hl : 0 < l.length := by
    cases l with
    | nil => simp at hd
    | cons a r => simp
  refine Ev_itemLn h1 (Ev_un Ev_int op_neg) (by decide) (Int.neg_le_neg (Int.ofNat_le.mpr hl)) (by decide) ?_
  rw [List.getLast?_eq_getElem?] at hd
  rw [← hd, Int.add_comm]
  exact congrArg (l[·]?) (Int.toNat_sub l.length 1)
theorem Ev_lastS {value : Expr} {pos p1 p2 : Pos} {k : Nat} {l : List Nat} {c : Nat} (h1 : Ev prog w Λ F n vs cs value (dS l)) (hsz : l.length ≤ sizeLine) (hd : l.getLast? = some c) :
    Ev prog w Λ F n vs cs (.Subscript value (.UnaryOp .USub (.Constant (.int 1) k p1) p2) pos) (dS [c]) := by
  have hl : 0 < l.length := by
    cases l with
    | nil => simp at hd
    | cons a r => simp
  refine Ev_itemS h1 (Ev_un Ev_int op_neg) (by decide) (by decide) (j := l.length - 1) ?_ ?_
  · rw [StrLaws.seqIndex_neg (by decide) (by omega)]; congr 1; omega
  · rw [List.getLast?_eq_getElem?] at hd; exact hd
end

section
variable {w : World} {Λ : Glo} {F : FS} {n : Nat} {vs cs : List (Option AV)}
noncomputable def FS.nodbg (F : FS) : Bool := F.locs.all (fun x => !(x == ("__debug__" : Str))) && F.cels.all (fun x => !(x == ("__debug__" : Str)))
theorem Ev_locF {x : Str} {pos : Pos} {av : AV} {k : Nat} (hf : F.fit = true) (hdb : F.nodbg = true) (hx : F.locs[k]? = some x) (hv : vs[k]? = some (some av)) (ho : av.pl = true) : Ev pr w Λ F n vs cs (.Name x pos) av := by
  refine Ev_loc k hf hx hv ho ?_
  simp only [FS.nodbg, Bool.and_eq_true] at hdb
  simpa using List.all_eq_true.mp hdb.1 x (List.mem_of_getElem? hx)
theorem Ev_celF {x : Str} {pos : Pos} {av : AV} {k : Nat} (hf : F.fit = true) (hdb : F.nodbg = true) (hx : F.cels[k]? = some x) (hv : cs[k]? = some (some av)) : Ev pr w Λ F n vs cs (.Name x pos) av := by
  refine Ev_cel k hf hx hv ?_
  simp only [FS.nodbg, Bool.and_eq_true] at hdb
  simpa using List.all_eq_true.mp hdb.2 x (List.mem_of_getElem? hx)
theorem Ev_bin2 {x : Str} {pos : Pos} {v : Value} (hG : Gd Λ) (hf : F.fit = true) (hv : bootBuiltins x = some v) (hb : x ∈ biNames) (hn : x ≠ "__name__" ∧ (x == ("__debug__" : Str)) = false) (hk : F.scope.names.lookup x = some .globalImplicit) : Ev pr w Λ F n vs cs (.Name x pos) (.raw v) :=
  Ev_bin hG hf hk hb hv hn.1 hn.2
theorem Ev_bin3 {x : Str} {pos : Pos} {v : Value} (hG : Gd Λ) (hf : F.fit = true) (h : bootBuiltins x = some v ∧ x ∈ biNames ∧ x ≠ "__name__" ∧ (x == ("__debug__" : Str)) = false) (hk : F.scope.names.lookup x = some .globalImplicit) : Ev pr w Λ F n vs cs (.Name x pos) (.raw v) :=
  Ev_bin hG hf hk h.2.1 h.1 h.2.2.1 h.2.2.2
theorem lk_strip_quoted_realnames : F_strip_quoted_realnames.fit = true ∧ F_strip_quoted_realnames.nodbg = true ∧ F_strip_quoted_realnames.locs[0]? = some (Str.ofString "addr") ∧ F_strip_quoted_realnames.locs[1]? = some (Str.ofString "start") ∧ F_strip_quoted_realnames.locs[2]? = some (Str.ofString "open_pos") ∧ F_strip_quoted_realnames.locs[3]? = some (Str.ofString "result") ∧ F_strip_quoted_realnames.locs[4]? = some (Str.ofString "pos") ∧ F_strip_quoted_realnames.locs[5]? = some (Str.ofString "ch") := ⟨fit_strip_quoted_realnames, by decide +kernel, rfl, rfl, rfl, rfl, rfl, rfl⟩
theorem lk_check_parenthesis : F_check_parenthesis.fit = true ∧ F_check_parenthesis.nodbg = true ∧ F_check_parenthesis.locs[0]? = some (Str.ofString "addr") ∧ F_check_parenthesis.locs[1]? = some (Str.ofString "opens") ∧ F_check_parenthesis.locs[2]? = some (Str.ofString "pos") ∧ F_check_parenthesis.locs[3]? = some (Str.ofString "ch") := ⟨fit_check_parenthesis, by decide +kernel, rfl, rfl, rfl, rfl⟩
theorem lk_pre_parse_validation : F_pre_parse_validation.fit = true ∧ F_pre_parse_validation.nodbg = true ∧ F_pre_parse_validation.locs[0]? = some (Str.ofString "email_header_fields") ∧ F_pre_parse_validation.locs[1]? = some (Str.ofString "accepted_values") ∧ F_pre_parse_validation.locs[2]? = some (Str.ofString "v") := ⟨fit_pre_parse_validation, by decide +kernel, rfl, rfl, rfl⟩
theorem lk_fspath : F_fspath.fit = true ∧ F_fspath.nodbg = true ∧ F_fspath.locs[0]? = some (Str.ofString "path") ∧ F_fspath.locs[1]? = some (Str.ofString "kind") ∧ F_fspath.locs[2]? = some (Str.ofString "hook") ∧ F_fspath.locs[3]? = some (Str.ofString "given") := ⟨fit_fspath, by decide +kernel, rfl, rfl, rfl, rfl⟩
theorem lk_get_sep : F_get_sep.fit = true ∧ F_get_sep.nodbg = true ∧ F_get_sep.locs[0]? = some (Str.ofString "path") := ⟨fit_get_sep, by decide +kernel, rfl⟩
theorem lk_join : F_join.fit = true ∧ F_join.nodbg = true ∧ F_join.locs[0]? = some (Str.ofString "a") ∧ F_join.locs[1]? = some (Str.ofString "p") ∧ F_join.locs[2]? = some (Str.ofString "sep") ∧ F_join.locs[3]? = some (Str.ofString "path") ∧ F_join.locs[4]? = some (Str.ofString "b") := ⟨fit_join, by decide +kernel, rfl, rfl, rfl, rfl, rfl⟩
theorem lk_splitroot : F_splitroot.fit = true ∧ F_splitroot.nodbg = true ∧ F_splitroot.locs[0]? = some (Str.ofString "p") ∧ F_splitroot.locs[1]? = some (Str.ofString "sep") ∧ F_splitroot.locs[2]? = some (Str.ofString "empty") := ⟨fit_splitroot, by decide +kernel, rfl, rfl, rfl⟩
theorem lk_normpath : F_normpath.fit = true ∧ F_normpath.nodbg = true ∧ F_normpath.locs[0]? = some (Str.ofString "path") ∧ F_normpath.locs[1]? = some (Str.ofString "sep") ∧ F_normpath.locs[2]? = some (Str.ofString "dot") ∧ F_normpath.locs[3]? = some (Str.ofString "dotdot") ∧ F_normpath.locs[4]? = some (Str.ofString "_") ∧ F_normpath.locs[5]? = some (Str.ofString "initial_slashes") ∧ F_normpath.locs[6]? = some (Str.ofString "comps") ∧ F_normpath.locs[7]? = some (Str.ofString "new_comps") ∧ F_normpath.locs[8]? = some (Str.ofString "comp") := ⟨fit_normpath, by decide +kernel, rfl, rfl, rfl, rfl, rfl, rfl, rfl, rfl, rfl⟩
theorem lk_commonpath : F_commonpath.fit = true ∧ F_commonpath.nodbg = true ∧ F_commonpath.locs[0]? = some (Str.ofString "paths") ∧ F_commonpath.locs[1]? = some (Str.ofString "split_paths") ∧ F_commonpath.locs[2]? = some (Str.ofString "isabs") ∧ F_commonpath.locs[3]? = some (Str.ofString "c") ∧ F_commonpath.locs[4]? = some (Str.ofString "s1") ∧ F_commonpath.locs[5]? = some (Str.ofString "s2") ∧ F_commonpath.locs[6]? = some (Str.ofString "common") ∧ F_commonpath.locs[7]? = some (Str.ofString "i") ∧ F_commonpath.locs[8]? = some (Str.ofString "prefix") ∧ F_commonpath.cels[0]? = some (Str.ofString "sep") ∧ F_commonpath.cels[1]? = some (Str.ofString "curdir") := ⟨fit_commonpath, by decide +kernel, rfl, rfl, rfl, rfl, rfl, rfl, rfl, rfl, rfl, rfl, rfl⟩
theorem lk_imode : F_imode.fit = true ∧ F_imode.nodbg = true ∧ F_imode.locs[0]? = some (Str.ofString "mode") := ⟨fit_imode, by decide +kernel, rfl⟩
theorem lk_ifmt : F_ifmt.fit = true ∧ F_ifmt.nodbg = true ∧ F_ifmt.locs[0]? = some (Str.ofString "mode") := ⟨fit_ifmt, by decide +kernel, rfl⟩
theorem lk_isdir : F_isdir.fit = true ∧ F_isdir.nodbg = true ∧ F_isdir.locs[0]? = some (Str.ofString "mode") := ⟨fit_isdir, by decide +kernel, rfl⟩
theorem lk_filemode : F_filemode.fit = true ∧ F_filemode.nodbg = true ∧ F_filemode.locs[0]? = some (Str.ofString "mode") ∧ F_filemode.locs[1]? = some (Str.ofString "perm") ∧ F_filemode.locs[2]? = some (Str.ofString "index") ∧ F_filemode.locs[3]? = some (Str.ofString "table") ∧ F_filemode.locs[4]? = some (Str.ofString "bit") ∧ F_filemode.locs[5]? = some (Str.ofString "char") := ⟨fit_filemode, by decide +kernel, rfl, rfl, rfl, rfl, rfl, rfl⟩
theorem lk_law_line : F_law_line.fit = true ∧ F_law_line.nodbg = true ∧ F_law_line.locs[0]? = some (Str.ofString "script") ∧ F_law_line.cels[0]? = some (Str.ofString "signs") := ⟨fit_law_line, by decide +kernel, rfl, rfl⟩
theorem lk_law_pieces : F_law_pieces.fit = true ∧ F_law_pieces.nodbg = true ∧ F_law_pieces.locs[0]? = some (Str.ofString "line") ∧ F_law_pieces.locs[1]? = some (Str.ofString "pieces") ∧ F_law_pieces.locs[2]? = some (Str.ofString "at") ∧ F_law_pieces.locs[3]? = some (Str.ofString "marks") ∧ F_law_pieces.locs[4]? = some (Str.ofString "kept") ∧ F_law_pieces.locs[5]? = some (Str.ofString "seen") ∧ F_law_pieces.locs[6]? = some (Str.ofString "piece") := ⟨fit_law_pieces, by decide +kernel, rfl, rfl, rfl, rfl, rfl, rfl, rfl⟩
theorem lk_law_depths : F_law_depths.fit = true ∧ F_law_depths.nodbg = true ∧ F_law_depths.locs[0]? = some (Str.ofString "pieces") ∧ F_law_depths.locs[1]? = some (Str.ofString "depths") ∧ F_law_depths.locs[2]? = some (Str.ofString "piece") := ⟨fit_law_depths, by decide +kernel, rfl, rfl, rfl⟩
theorem lk_law_row : F_law_row.fit = true ∧ F_law_row.nodbg = true ∧ F_law_row.locs[0]? = some (Str.ofString "kind") ∧ F_law_row.locs[1]? = some (Str.ofString "rights") ∧ F_law_row.locs[2]? = some (Str.ofString "row") ∧ F_law_row.locs[3]? = some (Str.ofString "triple") ∧ F_law_row.locs[4]? = some (Str.ofString "bits") ∧ F_law_row.locs[5]? = some (Str.ofString "extra") := ⟨fit_law_row, by decide +kernel, rfl, rfl, rfl, rfl, rfl, rfl⟩
theorem lk_law_places : F_law_places.fit = true ∧ F_law_places.nodbg = true ∧ F_law_places.locs[0]? = some (Str.ofString "pieces") ∧ F_law_places.locs[1]? = some (Str.ofString "places") ∧ F_law_places.locs[2]? = some (Str.ofString "at") ∧ F_law_places.locs[3]? = some (Str.ofString "piece") := ⟨fit_law_places, by decide +kernel, rfl, rfl, rfl, rfl⟩
theorem lk_law_made : F_law_made.fit = true ∧ F_law_made.nodbg = true ∧ F_law_made.locs[0]? = some (Str.ofString "pieces") ∧ F_law_made.locs[1]? = some (Str.ofString "depths") ∧ F_law_made.locs[2]? = some (Str.ofString "places") ∧ F_law_made.locs[3]? = some (Str.ofString "made") ∧ F_law_made.locs[4]? = some (Str.ofString "at") ∧ F_law_made.locs[5]? = some (Str.ofString "seen") ∧ F_law_made.locs[6]? = some (Str.ofString "low") ∧ F_law_made.locs[7]? = some (Str.ofString "k") := ⟨fit_law_made, by decide +kernel, rfl, rfl, rfl, rfl, rfl, rfl, rfl, rfl⟩
theorem lk_law_told : F_law_told.fit = true ∧ F_law_told.nodbg = true ∧ F_law_told.locs[0]? = some (Str.ofString "place") ∧ F_law_told.locs[1]? = some (Str.ofString "sign") ∧ F_law_told.locs[2]? = some (Str.ofString "seen") ∧ F_law_told.locs[3]? = some (Str.ofString "names") ∧ F_law_told.locs[4]? = some (Str.ofString "root") ∧ F_law_told.locs[5]? = some (Str.ofString "figures") ∧ F_law_told.locs[6]? = some (Str.ofString "piece") ∧ F_law_told.locs[7]? = some (Str.ofString "kind") ∧ F_law_told.locs[8]? = some (Str.ofString "figure") ∧ F_law_told.cels[0]? = some (Str.ofString "rights") ∧ F_law_told.cels[1]? = some (Str.ofString "off") := ⟨fit_law_told, by decide +kernel, rfl, rfl, rfl, rfl, rfl, rfl, rfl, rfl, rfl, rfl, rfl⟩
theorem lk_law_read : F_law_read.fit = true ∧ F_law_read.nodbg = true ∧ F_law_read.locs[0]? = some (Str.ofString "line") ∧ F_law_read.locs[1]? = some (Str.ofString "here") ∧ F_law_read.locs[2]? = some (Str.ofString "off") ∧ F_law_read.locs[3]? = some (Str.ofString "kept") ∧ F_law_read.locs[4]? = some (Str.ofString "made") ∧ F_law_read.locs[5]? = some (Str.ofString "places") ∧ F_law_read.locs[6]? = some (Str.ofString "place") ∧ F_law_read.locs[7]? = some (Str.ofString "piece") ∧ F_law_read.locs[8]? = some (Str.ofString "mode") := ⟨fit_law_read, by decide +kernel, rfl, rfl, rfl, rfl, rfl, rfl, rfl, rfl, rfl⟩
theorem lk_law : F_law.fit = true ∧ F_law.nodbg = true ∧ F_law.locs[0]? = some (Str.ofString "lines") ∧ F_law.locs[1]? = some (Str.ofString "rows") ∧ F_law.locs[2]? = some (Str.ofString "taken") ∧ F_law.locs[3]? = some (Str.ofString "pieces") ∧ F_law.locs[4]? = some (Str.ofString "depths") ∧ F_law.locs[5]? = some (Str.ofString "kept") ∧ F_law.locs[6]? = some (Str.ofString "first") ∧ F_law.locs[7]? = some (Str.ofString "told") ∧ F_law.locs[8]? = some (Str.ofString "made") ∧ F_law.locs[9]? = some (Str.ofString "places") ∧ F_law.locs[10]? = some (Str.ofString "common") ∧ F_law.cels[0]? = some (Str.ofString "script") ∧ F_law.cels[1]? = some (Str.ofString "k") ∧ F_law.cels[2]? = some (Str.ofString "folders") := ⟨fit_law, by decide +kernel, rfl, rfl, rfl, rfl, rfl, rfl, rfl, rfl, rfl, rfl, rfl, rfl, rfl, rfl⟩
end
end Mine
end
section
open PySem PySem.W PyProof.Rows PySem.Calls PySem.Builtin.Str
set_option Elab.async false
set_option linter.unusedVariables false
set_option maxRecDepth 100000
namespace Mine
section
variable {prog : Program} {w : World} {Λ : Glo} {F : FS} {n : Nat} {vs cs : List (Option AV)} {P : Out → Prop}
theorem take_step {α σ : Type} (step : σ → α → σ) (s0 : σ) (xs : List α) (i : Nat) (x : α) (h : xs[i]? = some x) : (xs.take (i + 1)).foldl step s0 = step ((xs.take i).foldl step s0) x := by
  rw [List.take_add_one, h, List.foldl_append]; rfl
/-- a for that folds -/
theorem Ex_forF {α σ : Type} {target iter : Expr} {body rest : List Stmt} {pos : Pos} {len : Nat} {items : Nat → AV} (xs : List α) (it : α → AV) (step : σ → α → σ) (s0 : σ) (fr : σ → List (Option AV) → List (Option AV) → Prop)
    (hro : F.ro = false) (hit : Itb prog w Λ F n vs cs target iter len items) (hlen : len = xs.length) (hitem : ∀ i x, xs[i]? = some x → items i = it x) (h0 : fr s0 vs cs)
    (hturn : ∀ (i : Nat) (x : α) vs cs, xs[i]? = some x → fr ((xs.take i).foldl step s0) vs cs → ∃ vs' cs', Asg prog w Λ F n vs cs target (it x) vs' cs' ∧ Ex prog w Λ F n vs' cs' body (fun o => match o with
      | .next vs cs => fr (step ((xs.take i).foldl step s0) x) vs cs | .cont vs cs => fr (step ((xs.take i).foldl step s0) x) vs cs | _ => False))
    (hrest : ∀ vs cs, fr (xs.foldl step s0) vs cs → Ex prog w Λ F n vs cs rest P)
    (hs : ∀ env x, foldedSetIterable iter env x = pure x := by intro _ _; rfl) : Ex prog w Λ F n vs cs (.For target iter body [] pos :: rest) P := by
  refine Ex_for (fun i => fr ((xs.take i).foldl step s0)) (fr (xs.foldl step s0)) hro hit (by simpa using h0) ?_ ?_ hrest hs
  · intro i vs cs hi hfr
    obtain ⟨x, hx⟩ : ∃ x, xs[i]? = some x := ⟨_, List.getElem?_eq_getElem (by omega)⟩
    obtain ⟨vs', cs', ha, hb⟩ := hturn i x vs cs hx hfr
    rw [hitem i x hx]
    refine ⟨vs', cs', ha, hb.mono fun o ho => ?_⟩
    cases o with
    | next vs cs => rw [take_step step s0 xs i x hx]; exact ho
    | cont vs cs => rw [take_step step s0 xs i x hx]; exact ho
    | brk vs cs => exact ho.elim
    | ret av => exact ho.elim
  · intro vs cs hfr
    rw [hlen, List.take_length] at hfr
    exact Ex_nil hfr
/-- .. that may leave by a return -/
theorem Ex_forR {α σ : Type} {target iter : Expr} {body rest : List Stmt} {pos : Pos} {len : Nat} {items : Nat → AV} (xs : List α) (it : α → AV) (step : σ → α → σ) (s0 : σ) (fr : Nat → σ → List (Option AV) → List (Option AV) → Prop)
    (hro : F.ro = false) (hit : Itb prog w Λ F n vs cs target iter len items) (hlen : len = xs.length) (hitem : ∀ i x, xs[i]? = some x → items i = it x) (h0 : fr 0 s0 vs cs)
    (hturn : ∀ (i : Nat) (x : α) vs cs, xs[i]? = some x → fr i ((xs.take i).foldl step s0) vs cs → ∃ vs' cs', Asg prog w Λ F n vs cs target (it x) vs' cs' ∧ Ex prog w Λ F n vs' cs' body (fun o => match o with
      | .next vs cs => fr (i + 1) (step ((xs.take i).foldl step s0) x) vs cs | .cont vs cs => fr (i + 1) (step ((xs.take i).foldl step s0) x) vs cs | .ret av => P (.ret av) | _ => False))
    (hrest : ∀ vs cs, fr xs.length (xs.foldl step s0) vs cs → Ex prog w Λ F n vs cs rest P)
    (hs : ∀ env x, foldedSetIterable iter env x = pure x := by intro _ _; rfl) : Ex prog w Λ F n vs cs (.For target iter body [] pos :: rest) P := by
  refine Ex_for (fun i => fr i ((xs.take i).foldl step s0)) (fr xs.length (xs.foldl step s0)) hro hit (by simpa using h0) ?_ ?_ hrest hs
  · intro i vs cs hi hfr
    obtain ⟨x, hx⟩ : ∃ x, xs[i]? = some x := ⟨_, List.getElem?_eq_getElem (by omega)⟩
    obtain ⟨vs', cs', ha, hb⟩ := hturn i x vs cs hx hfr
    rw [hitem i x hx]
    refine ⟨vs', cs', ha, hb.mono fun o ho => ?_⟩
    cases o with
    | next vs cs => rw [take_step step s0 xs i x hx]; exact ho
    | cont vs cs => rw [take_step step s0 xs i x hx]; exact ho
    | brk vs cs => exact ho.elim
    | ret av => exact ho
  · intro vs cs hfr
    rw [hlen, List.take_length] at hfr
    exact Ex_nil hfr
theorem getD_map {α : Type} (f : α → PyData) (xs : List α) (i : Nat) (x : α) (h : xs[i]? = some x) : AV.dat ((xs.map f).getD i .none) = .dat (f x) := by
  simp [List.getD, h]

/-! slices by natural bounds -/
theorem Ev_toS {value hi : Expr} {p pos : Pos} {l : List Nat} {i : Int} (k : Nat) (h : Ev prog w Λ F n vs cs value (dS l)) (h2 : Ev prog w Λ F n vs cs hi (dI i)) (hsz : l.length ≤ sizeLine) (hk : i = (k : Int) := by rfl) : Ev prog w Λ F n vs cs (.Subscript value (.Slice none (some hi) none p) pos) (dS (l.take k)) := by
  subst hk; rw [← cut_to]; exact Ev_sliceS h EvO_none (EvO_some h2) hsz
theorem Ev_fromS {value lo : Expr} {p pos : Pos} {l : List Nat} {i : Int} (k : Nat) (h : Ev prog w Λ F n vs cs value (dS l)) (h2 : Ev prog w Λ F n vs cs lo (dI i)) (hsz : l.length ≤ sizeLine) (hk : i = (k : Int) := by rfl) : Ev prog w Λ F n vs cs (.Subscript value (.Slice (some lo) none none p) pos) (dS (l.drop k)) := by
  subst hk; rw [← cut_from]; exact Ev_sliceS h (EvO_some h2) EvO_none hsz
theorem Ev_midS {value lo hi : Expr} {p pos : Pos} {l : List Nat} {i j : Int} (a b : Nat) (h : Ev prog w Λ F n vs cs value (dS l)) (h1 : Ev prog w Λ F n vs cs lo (dI i)) (h2 : Ev prog w Λ F n vs cs hi (dI j)) (hsz : l.length ≤ sizeLine) (ha : i = (a : Int) := by rfl) (hb : j = (b : Int) := by rfl) : Ev prog w Λ F n vs cs (.Subscript value (.Slice (some lo) (some hi) none p) pos) (dS ((l.take b).drop a)) := by
  subst ha; subst hb; rw [← cut_mid]; exact Ev_sliceS h (EvO_some h1) (EvO_some h2) hsz
theorem Ev_toL {value hi : Expr} {p pos : Pos} {l : List PyData} {i : Int} (k : Nat) (h : Ev prog w Λ F n vs cs value (dL l)) (h2 : Ev prog w Λ F n vs cs hi (dI i)) (hsz : l.length ≤ sizeLine) (hk : i = (k : Int) := by rfl) : Ev prog w Λ F n vs cs (.Subscript value (.Slice none (some hi) none p) pos) (dL (l.take k)) := by
  subst hk; rw [← cut_to]; exact Ev_sliceL h EvO_none (EvO_some h2) hsz
theorem Ev_initL {value : Expr} {p pos p1 p2 : Pos} {k : Nat} {l : List PyData} (h : Ev prog w Λ F n vs cs value (dL l)) (hsz : l.length ≤ sizeLine) : Ev prog w Λ F n vs cs (.Subscript value (.Slice none (some (.UnaryOp .USub (.Constant (.int 1) k p1) p2)) none p) pos) (dL l.dropLast) := by
  rw [← cut_init]; exact Ev_sliceL h EvO_none (EvO_some (Ev_un Ev_int op_neg)) hsz
theorem Ev_tailL {value : Expr} {p pos p1 p2 : Pos} {k : Nat} {l : List PyData} {i : Int} (m : Nat) (h : Ev prog w Λ F n vs cs value (dL l)) (hsz : l.length ≤ sizeLine) (hm : m ≤ l.length) (h0 : 0 < m) (hi : i = (m : Int) := by rfl) : Ev prog w Λ F n vs cs (.Subscript value (.Slice (some (.UnaryOp .USub (.Constant (.int i) k p1) p2)) none none p) pos) (dL (l.drop (l.length - m))) := by
  subst hi; rw [← cut_last l hm h0]; exact Ev_sliceL h (EvO_some (Ev_un Ev_int op_neg)) EvO_none hsz
end
end Mine
end
open PySem PySem.W PyProof.Rows PySem.Calls PySem.Builtin.Str Mine
local macro_rules | `(tactic| walk_at "m_gg") => `(tactic| all_goals try walk_at "m_go")
local macro_rules | `(tactic| walk_at "m_st") => `(tactic| (with_reducible first | exact st_0 | exact st_1 | exact st_2 | exact st_3 | exact st_4 | exact st_5 | exact st_12 | exact st_14 | exact st_15 | exact st_19 | exact st_20 | exact st_21 | exact st_23 | exact st_24 | exact st_25 | exact st_26 | exact st_27 | exact st_28 | exact st_29 | exact st_30 | exact st_31 | exact st_32 | exact st_33 | exact st_34 | exact st_35 | exact st_36 | exact st_37))
local macro_rules | `(tactic| walk_at "m_bb") => `(tactic| (with_reducible first | exact bx_enumerate | exact bx_len | exact bx_type | exact bx_issubclass | exact bx_isinstance | exact bx_str | exact bx_bytes | exact bx_tuple | exact bx_map | exact bx_min | exact bx_max | exact bx_range | exact bx_int | exact bx_sum | exact bx_zip))
local macro_rules | `(tactic| walk_at "m_nm") => `(tactic| first | exact Ev_locF (by assumption) (by assumption) (by with_reducible assumption) (by rfl) (by rfl) | exact Ev_celF (by assumption) (by assumption) (by with_reducible assumption) (by rfl) | exact Ev_bin3 (by assumption) (by assumption) (by walk_at "m_bb") (by rfl))
local macro_rules | `(tactic| walk_at "m_ev") => `(tactic| first
  | ((with_reducible show Ev (e := Expr.Name ..) ..); walk_at "m_nm")
  | ((with_reducible show Ev (e := Expr.Constant (Const.str ..) ..) ..); exact Ev_strS _ (by walk_at "m_st"))
  | ((with_reducible show Ev (e := Expr.Constant (Const.int ..) ..) ..); exact Ev_int)
  | ((with_reducible show Ev (e := Expr.Constant (Const.bool ..) ..) ..); exact Ev_bool)
  | ((with_reducible show Ev (e := Expr.Constant Const.none ..) ..); exact Ev_none)
  | ((with_reducible show Ev (e := Expr.BinOp ..) ..); (refine' Ev_BinOp ?_ ?_ ?_; walk_at "m_gg"))
  | ((with_reducible show Ev (e := Expr.Compare ..) ..); (refine' Ev_cmp ?_ ?_ ?_; walk_at "m_gg"))
  | ((with_reducible show Ev (e := Expr.UnaryOp ..) ..); (refine' Ev_un ?_ ?_; walk_at "m_gg"))
  | ((with_reducible show Ev (e := Expr.Tuple ..) ..); (refine' Ev_tupleU (hes := ?_) ?_ ?_ ?_; (all_goals first | walk_at "m_go" | rfl | decide | skip)))
  | ((with_reducible show Ev (e := Expr.List ..) ..); (refine' Ev_listU (hes := ?_) ?_ ?_ ?_; (all_goals first | walk_at "m_go" | rfl | decide | skip)))
  | ((with_reducible show Ev (e := Expr.Call (Expr.Name (Str.ofString "len") ..) ..) ..); (refine' Ev_callB ?_ ?_ ?_; walk_at "m_gg"))
  | ((with_reducible show Ev (e := Expr.Call (Expr.Name (Str.ofString "isinstance") ..) ..) ..); (refine' Ev_callB ?_ ?_ ?_; walk_at "m_gg"))
  | ((with_reducible show Ev (e := Expr.Call (Expr.Name (Str.ofString "min") ..) ..) ..); (refine' Ev_callB ?_ ?_ ?_; walk_at "m_gg"))
  | ((with_reducible show Ev (e := Expr.Call (Expr.Name (Str.ofString "type") ..) ..) ..); (refine' Ev_callT ?_ ?_ ?_; walk_at "m_gg"))
  | ((with_reducible show Ev (e := Expr.Call (Expr.Name (Str.ofString "int") ..) ..) ..); (refine' Ev_callT ?_ ?_ ?_; walk_at "m_gg"))
  | ((with_reducible show Ev (e := Expr.Call (Expr.Attribute _ (Str.ofString "join") ..) ..) ..); (refine' Ev_methS ?_ PySem.F.slot_str_join PySem.F.type_str_join ?_ ?_; walk_at "m_gg"))
  | ((with_reducible show Ev (e := Expr.Call (Expr.Attribute _ (Str.ofString "split") ..) ..) ..); (refine' Ev_methS ?_ PySem.F.slot_str_split PySem.F.type_str_split ?_ ?_; walk_at "m_gg"))
  | ((with_reducible show Ev (e := Expr.Call (Expr.Attribute _ (Str.ofString "startswith") ..) ..) ..); (refine' Ev_methS ?_ PySem.F.slot_str_startswith PySem.F.type_str_startswith ?_ ?_; walk_at "m_gg"))
  | ((with_reducible show Ev (e := Expr.Call (Expr.Attribute _ (Str.ofString "endswith") ..) ..) ..); (refine' Ev_methS ?_ PySem.F.slot_str_endswith PySem.F.type_str_endswith ?_ ?_; walk_at "m_gg")))
local macro_rules | `(tactic| walk_at "m_tr") => `(tactic| first
  | ((with_reducible show Tr (e := Expr.UnaryOp UnaryOp.Not ..) ..); (refine' Tr_not ?_; walk_at "m_gg"))
  | ((with_reducible show Tr (e := Expr.Compare ..) ..); (refine' Tr_cmp ?_ ?_ ?_; walk_at "m_gg"))
  | ((with_reducible show Tr (e := Expr.BoolOp BoolOp.And [] ..) ..); exact Tr_and0)
  | ((with_reducible show Tr (e := Expr.BoolOp BoolOp.Or [] ..) ..); exact Tr_or0)
  | ((with_reducible show Tr (e := Expr.BoolOp BoolOp.And ..) ..); (refine' Tr_andN ?_ (fun _ => ?_); walk_at "m_gg"))
  | ((with_reducible show Tr (e := Expr.BoolOp BoolOp.Or ..) ..); (refine' Tr_orN ?_ (fun _ => ?_); walk_at "m_gg"))
  | (refine' Tr_val ?_ ?_; walk_at "m_gg"))
local macro_rules | `(tactic| walk_at "m_op") => `(tactic| first | exact op_eqS | exact op_neS | exact op_eq | exact op_ne | exact op_lt | exact op_le | exact op_gt | exact op_add | exact op_sub | exact op_addb | exact op_subb | exact op_band | exact op_inv | exact op_neg | exact op_iadd | exact op_isub | exact op_isB | exact op_isNI | exact op_isNN | exact op_inS | exact op_notInS | exact op_min2 | exact op_starts | exact op_ends | exact op_typeS | exact op_isinstB | exact OpT_bool | exact OpT_int | exact OpT_none | refine' op_cat ?_ | refine' op_icat ?_ | refine' op_addL ?_ | refine' op_mulS ?_ | refine' op_lenS ?_ | refine' op_lenL ?_ | refine' OpT_str ?_ | refine' OpT_list ?_ | refine' op_split ?_)
local macro_rules | `(tactic| walk_at "m_go") => `(tactic| first
  | ((with_reducible show EvL (es := []) ..); exact EvL_nil)
  | ((with_reducible show EvL ..); (refine' EvL_cons ?_ ?_; walk_at "m_gg"))
  | ((with_reducible show Ev ..); walk_at "m_ev")
  | ((with_reducible show Tr ..); walk_at "m_tr")
  | ((with_reducible show Op2 ..); walk_at "m_op")
  | ((with_reducible show OpL ..); walk_at "m_op")
  | ((with_reducible show OpT ..); walk_at "m_op")
  | ((with_reducible show Op1 ..); walk_at "m_op")
  | ((with_reducible show EvO (e := none) ..); exact EvO_none)
  | ((with_reducible show EvO ..); (refine' EvO_some ?_; try walk_at "m_go")))
local macro_rules | `(tactic| walk_at "s_as") => `(tactic| (refine' Ex_assign _ (by assumption) (by with_reducible assumption) ?_ ?_; walk_at "m_gg"; (all_goals try dsimp only [List.set])))
local macro_rules | `(tactic| walk_at "s_asC") => `(tactic| (refine' Ex_assignC _ (by assumption) (by rfl) (by with_reducible assumption) ?_ ?_; walk_at "m_gg"; (all_goals try dsimp only [List.set])))
local macro_rules | `(tactic| walk_at "s_aug") => `(tactic| (refine' Ex_aug _ (by assumption) (by with_reducible assumption) (by rfl) (by rfl) ?_ ?_ ?_; walk_at "m_gg"; (all_goals try dsimp only [List.set])))
local macro_rules | `(tactic| walk_at "s_if") => `(tactic| (refine' Ex_if ?_ ?_ ?_; walk_at "m_gg"; (all_goals try dsimp only [List.set, List.append, List.cons_append, List.nil_append])))
local macro_rules | `(tactic| walk_at "s_ret") => `(tactic| (refine' Ex_ret ?_ ?_; walk_at "m_gg"))
local macro_rules | `(tactic| walk_at "s_b1") => `(tactic| (intro pm cd doc us h; obtain ⟨a, ha⟩ := List.length_eq_one_iff.mp h; subst ha; rfl))
local macro_rules | `(tactic| walk_at "s_b2") => `(tactic| (intro pm cd doc us h; rcases us with _ | ⟨a, _ | ⟨b, _ | ⟨c, _ | ⟨d, r⟩⟩⟩⟩ <;> first | (cases h; done) | rfl))
local macro_rules | `(tactic| walk_at "s_c0") => `(tactic| (intro _ x hx; cases hx))
section
set_option Elab.async false
set_option linter.unusedVariables false
set_option maxRecDepth 100000
namespace Mine
section
variable {w : World} {Λ : Glo}
theorem cl_getsep (hG : Gd Λ) (x : List Nat) : Cl w Λ 18 1 [dS x] (dS [47]) := by
  obtain ⟨hf, hdb, l0⟩ := lk_get_sep
  refine Cl_plain (F := F_get_sep) 0 0 hG hf rfl rfl (ps := [Str.ofString "path"]) rfl rfl rfl (by walk_at "s_c0") (by walk_at "s_b1") ?_
  show Ex _ _ _ _ _ [some (dS x)] [] _ _
  walk_at "s_if"
  · intro h; cases h
  · intro _
    refine Ex_ret ?_ (.inl rfl)
    walk_at "m_go"

theorem cl_fspath (hG : Gd Λ) (x : List Nat) : Cl w Λ 14 1 [dS x] (dS x) := by
  obtain ⟨hf, hdb, l0, l1, l2, l3⟩ := lk_fspath
  refine Cl_plain (F := F_fspath) 3 0 hG hf rfl rfl (ps := [Str.ofString "path"]) rfl rfl rfl (by walk_at "s_c0") (by walk_at "s_b1") ?_
  show Ex _ _ _ _ _ [some (dS x), none, none, none] [] _ _
  walk_at "s_as"
  refine Ex_if (c := true) (Tr_val (Ev_subclass (c := .type "bytes") ?_ ?_ ?_) OpT_bool) (fun _ => ?_) (fun h => by cases h)
  all_goals try walk_at "m_go"
  dsimp only [List.cons_append]
  exact Ex_ret (by walk_at "m_go") (.inl rfl)
end
end Mine
end
section
set_option Elab.async false
set_option linter.unusedVariables false
set_option maxRecDepth 100000
namespace Mine
section
variable {w : World} {Λ : Glo}
/-- what splitroot gives of a text: root and rest -/
noncomputable def sroot (x : List Nat) : List Nat × List Nat :=
  if x.take 1 != [47] then ([], x)
  else if (x.take 2).drop 1 != [47] || (x.take 3).drop 2 == [47] then ([47], x.drop 1) else (x.take 2, x.drop 2)
theorem cl_splitroot (hG : Gd Λ) (x : List Nat) (hx : x.length ≤ sizeLine) : Cl w Λ 20 2 [dS x] (dT [pS [], pS (sroot x).1, pS (sroot x).2]) := by
  obtain ⟨hf, hdb, l0, l1, l2⟩ := lk_splitroot
  refine Cl_plain (F := F_splitroot) 2 0 hG hf rfl rfl (ps := [Str.ofString "p"]) rfl rfl rfl (by walk_at "s_c0") (by walk_at "s_b1") ?_
  show Ex _ _ _ _ _ [some (dS x), none, none] [] _ _
  refine Ex_assign 0 hf l0 (Ev_fn 14 1 hG hf (EvL_cons (Ev_locF hf hdb l0 rfl rfl) EvL_nil) (cl_fspath hG x) (by decide)) ?_
  dsimp only [List.set]
  walk_at "s_if"
  · intro h; cases h
  intro _
  walk_at "s_as"
  walk_at "s_as"
  skip
  refine' Ex_if (c := x.take 1 != [47]) (Tr_cmp (Ev_toS 1 ?_ ?_ hx) ?_ ?_) ?_ ?_
  all_goals try walk_at "m_go"
  · intro h
    walk_at "s_ret"
    exact .inl (by unfold sroot; rw [if_pos h]; rfl)
  · intro h
    dsimp only [List.cons_append, List.nil_append]
    refine' Ex_if (c := (x.take 2).drop 1 != [47] || ((x.take 3).drop 2 == [47] || false)) (Tr_orN (Tr_cmp (Ev_midS 1 2 ?_ ?_ ?_ hx) ?_ ?_) (fun _ => Tr_orN (Tr_cmp (Ev_midS 2 3 ?_ ?_ ?_ hx) ?_ ?_) (fun _ => ?_))) ?_ ?_
    all_goals try walk_at "m_go"
    · intro h2
      refine Ex_ret (av := dT [pS [], pS [47], pS (x.drop 1)]) ?_ (.inl ?_)
      · refine' Ev_tupleU (as := [dS [], dS [47], dS (x.drop 1)]) (EvL_cons ?_ (EvL_cons ?_ (EvL_cons (Ev_fromS 1 ?_ ?_ hx) EvL_nil))) rfl (by decide)
        all_goals try walk_at "m_go"
      · unfold sroot; rw [if_neg (by simpa using h), if_pos (by simpa using h2)]
    · intro h2
      refine Ex_ret (av := dT [pS [], pS (x.take 2), pS (x.drop 2)]) ?_ (.inl ?_)
      · refine' Ev_tupleU (as := [dS [], dS (x.take 2), dS (x.drop 2)]) (EvL_cons ?_ (EvL_cons (Ev_toS 2 ?_ ?_ hx) (EvL_cons (Ev_fromS 2 ?_ ?_ hx) EvL_nil))) rfl (by decide)
        all_goals try walk_at "m_go"
      · unfold sroot; rw [if_neg (by simpa using h), if_neg (by simpa using h2)]
end
end Mine
end
section
set_option Elab.async false
set_option linter.unusedVariables false
namespace Mine
section
variable {prog : Program} {w : World} {Λ : Glo}
/-- a def's run behind the binding of its parameters -/
theorem Fn_body {name : Str} {body : List Stmt} {scope : Scope} {a : Addr} {cd : Value} {F : FS} {ps : List Str} {avs : List AV} {av : AV} {vs cs : List (Option AV)} {n : Nat} {A : Around} {G : PH} {s : Shared} {us : List Value} {R : Result → Shared → Prop} {E : Value → Shared → Prop}
    (hΛ : GloOk Λ) (hE : Enters F scope ps avs vs cs) (hcd : Λ.h.CodeRec cd name) (hr : Rm (n + 1) A) (hp : P0 Λ G s) (ok : OkAll G us avs)
    (h : Ex prog w Λ F n vs cs body (fun o => o = .ret av ∨ ((∃ vs cs, o = .next vs cs) ∧ av = .dat .none)))
    (hR : ∀ v s', Got s G av v s' → R (.ok (.ret v)) s') :
    wpAny (model prog w) A.in1 (newFunctionEnv scope mainGlobals [] (ps.zip us) (name ++ ".<locals>.") (some a) cd none builtinsNs)
        (fun env s₂ => s₂.heap.NoLimit ∧ codeAny (model prog w) A (.func body env) R s₂) E s := by
  have hk : scope.kind = .function := by
    have := hE.fit
    simp only [FS.fit, Bool.and_eq_true] at this
    rw [← hE.sc]; exact eq_of_beq this.1.1.1.1
  refine wpAny_newFunctionEnv_cells hk (fun x hx => ?_) fun env he s' X => ?_
  · exact hE.kinds _ x.1 (List.of_mem_zip hx).1
  subst he
  have KP := X.toInCall.keep
  refine ⟨(hΛ.nolimit.keeps hp.old).keeps KP, codeAny_func ?_⟩
  obtain ⟨h₁, tk, rfl, _⟩ := X.done
  have Fr₁ : Fr s.heap s.heap.objs.size h₁ (bindL (envOfC name scope s.heap.objs.size a cd).kindOf (ps.zip us) fun _ => none) := ⟨X.toInCall.ns, X.toInCall.keep, X.toInCall.fresh⟩
  have Cl₁ : PyProof.Rows.Cl s.heap.objs.size (cellsFrom (s.heap.objs.size + 1) scope.names []) h₁ (bindC (envOfC name scope s.heap.objs.size a cd).kindOf (ps.zip us) fun _ => none) := ⟨X.cell, X.apart, X.above⟩
  · have hL : Λ.h.get? s.heap.objs.size = none := PH.none_of_sub (G := Λ.h.get?) hp.old (get?_size _)
    have hGL : G s.heap.objs.size = none := PH.none_of_sub hp.data (get?_size _)
    have fre : ∀ c, s.heap.objs.size ≤ c → s.heap.get? c = none := fun c hc => by
      cases hq : s.heap.get? c with
      | none => rfl
      | some o => exact absurd (Heap.lt_size hq) (Nat.not_lt.mpr hc)
    have frees : ∀ c, s.heap.objs.size ≤ c → Fre Λ G c := fun c hc => ⟨PH.none_of_sub (G := Λ.h.get?) hp.old (fre c hc), PH.none_of_sub hp.data (fre c hc)⟩
    have hkL : ∀ x, (envOfC name scope s.heap.objs.size a cd).kindOf x = scope.names.lookup x := fun x => rfl
    have he : EnvOk F (envOfC name scope s.heap.objs.size a cd) := {
      scope := hE.sc.symm
      glob := rfl
      bi := rfl
      cell := fun x hx => Option.isSome_iff_exists.mp (hE.cells _ x hx)
      apart := fun x _ y _ c h1 h2 => name_of_addr Cl₁.apart (mem_of_lookup h1) (mem_of_lookup h2)
      code := let ⟨c, _, _, _, e, _⟩ := hcd; ⟨c, e⟩
      frame := ⟨_, rfl⟩ }
    have hfitL : ∀ (k : Nat) (x : Str), F.locs[k]? = some x → scope.names.lookup x = some .local := fun k x hx => (fit_loc hE.fit hx he).2
    have hfitC : ∀ (k : Nat) (x : Str), F.cels[k]? = some x → scope.names.lookup x = some .cell := fun k x hx => (fit_cel hE.fit hx he).2
    have S : St Λ F (envOfC name scope s.heap.objs.size a cd) (around G s) G s.gens vs cs { s with heap := h₁, toks := tk } := ⟨_, fun _ => 0, {
      old := fun b o e => Fr₁.keep b o (hp.old b o e)
      os := hp.os
      bare := hp.bare
      gd := hp.gd
      data := fun b o e => Fr₁.keep b o (hp.data b o e)
      ns := Fr₁.ns
      nsF := frees _ (Nat.le_refl _)
      len := hE.len
      loc := fun k x av' h1 h2 => by
        obtain ⟨j, hj, ha⟩ := hE.loc k x av' h1 h2
        obtain ⟨u, hu, hok⟩ := ok.get' j av' ha
        refine ⟨u, bindL_get ps us _ j x u hE.nodup hj hu (by rw [hkL]; exact hfitL k x h1), ?_⟩
        cases av' with
        | own ds => exact hok.elim
        | dat d => exact hok
        | raw v => exact hok
      own := fun k j ds es h1 _ _ => by
        have hlt := (List.getElem?_eq_some_iff.mp h1).1
        have hlen := hE.len
        obtain ⟨j', _, ha⟩ := hE.loc k _ _ (List.getElem?_eq_getElem (by omega)) h1
        obtain ⟨u, _, hok⟩ := ok.get' j' _ ha
        exact hok.elim
      cel := fun k x h1 => by
        obtain ⟨c, hc⟩ := Option.isSome_iff_exists.mp (hE.cells s.heap.objs.size x (List.mem_of_getElem? h1))
        refine ⟨c, _, hc, Cl₁.cell x c hc, fun _ => frees c (Nat.le_of_lt (Cl₁.above x c (mem_of_lookup hc))), fun av' h2 => ?_⟩
        obtain ⟨j, hj, ha⟩ := hE.cel k x av' h1 h2
        obtain ⟨u, hu, hok⟩ := ok.get' j av' ha
        exact ⟨u, bindC_get ps us _ j x u hE.nodup hj hu (by rw [hkL, hfitC k x h1]; nofun), hok⟩
      base := fun b o e => by
        unfold around at e
        split at e
        · exact Fr₁.keep b o e
        · cases e
      apart := fun b o e => by
        unfold around at e
        split at e
        · assumption
        · cases e
      gens := fun _ _ e => e
      nsB := by show around G s s.heap.objs.size = none; unfold around; rw [hGL, get?_size]; rfl
      ownB := fun k ds h1 => by
        have hlt := (List.getElem?_eq_some_iff.mp h1).1
        have hlen := hE.len
        obtain ⟨j', _, ha⟩ := hE.loc k _ _ (List.getElem?_eq_getElem (by omega)) h1
        obtain ⟨u, _, hok⟩ := ok.get' j' _ ha
        exact hok.elim
      celB := fun _ x hx c hc => by
        have := Cl₁.above x c (mem_of_lookup hc)
        unfold around
        rw [fre c (Nat.le_of_lt this)]; split <;> rfl }⟩
    refine wpAny_mono (h.run _ _ _ _ _ _ (fun _ _ => False) hr.deeper he S) ?_ fun _ _ x => x.elim
    rintro f s' ⟨o', hP, hpo⟩
    rcases hP with rfl | ⟨⟨vs', cs', rfl⟩, rfl⟩
    · obtain ⟨v, rfl, G', hl, hp', hb, hok⟩ := hpo
      exact hR _ _ (got_of_ret hp hl hp' hb hok)
    · obtain ⟨rfl, G', hl, hS⟩ := hpo
      exact hR _ _ (got_of_ret hp hl hS.v.p0 hS.bk Rep.none)

end
end Mine
end
section
set_option Elab.async false
set_option linter.unusedVariables false
set_option maxRecDepth 100000
namespace Mine
section
variable {w : World} {Λ : Glo}
/-- posixpath.join of two -/
noncomputable def joinF (a b : List Nat) : List Nat :=
  if b.head? == some 47 || a.isEmpty then b else if a.getLast? == some 47 then a ++ b else a ++ ([47] ++ b)
theorem cl_join (hG : Gd Λ) (a b : List Nat) (hsz : a.length + b.length + 1 ≤ sizeLine) : Cl w Λ 19 3 [dS a, dS b] (dS (joinF a b)) := by
  obtain ⟨hf, hdb, l0, l1, l2, l3, l4⟩ := lk_join
  intro fa hat A G s E us hr hp ok
  obtain ⟨hglob, o, pm, cd, doc, ho, hd, hcd⟩ := hat
  cases ok with | cons o1 o2 => cases o2 with | cons o2 o3 => cases o3 with | nil =>
  rename_i va vb
  refine wpAny_call (codeAny_call_function hr.room (hp.old _ _ ho) hd rfl rfl rfl (hcd.keeps hp.old) ?_)
  rw [show bindArgs (docDef (dName (stmtAt 19)) (dArgs (stmtAt 19)) (dBody (stmtAt 19)) (dScope (stmtAt 19)) pm cd doc) ⟨[va, vb], []⟩ = (newTuple [vb] >>= fun t => pure [(Str.ofString "a", va), (Str.ofString "p", t)]) from rfl]
  simp only [newTuple]
  refine wpAny_bind (wpAny_newObj_type (wpAny_pure ?_) (by size_fits))
  have g : Grow s { s with heap := s.heap.push { cls := .type "tuple", data := .seq #[vb] } } := .push
  have x := Gx.add hp.data g (get?_size _) (Heap.get?_push_size _ rfl)
  have p1 := hp.grow g x
  refine Fn_body (F := F_join) (ps := [Str.ofString "a", Str.ofString "p"]) (avs := [dS a, dT [pS b]]) (av := dS (joinF a b)) (vs := [some (dS a), some (dT [pS b]), none, none, none]) (cs := []) (n := 2) hG.ok ?_ hcd hr p1
    (.cons (AV.ok.mono (av := dS a) x.le o1) (.cons (Rep.tuple PH.add_self rfl rfl (.cons (Rep.mono x.le o2) .nil)) .nil)) ?_ fun v s' h => h.mono g x
  · exact { sc := rfl, ro := rfl, fit := hf, nodup := by decide, plen := rfl, len := Nat.le_refl 5, loc := by
              intro k x av h1 h2
              match k with
              | 0 => cases h1; cases h2; exact ⟨0, rfl, rfl⟩
              | 1 => cases h1; cases h2; exact ⟨1, rfl, rfl⟩
              | 2 => cases h2
              | 3 => cases h2
              | 4 => cases h2
              | k + 5 => cases h2
            cel := by intro k x av h1 h2; cases h2
            cells := by intro L x hx; cases hx
            kinds := by
              intro L x hx
              left
              simp only [List.mem_cons, List.not_mem_nil, or_false] at hx
              rcases hx with rfl | rfl <;> rfl }
  refine Ex_assign 0 hf l0 (Ev_fn 14 1 hG hf (EvL_cons (Ev_locF hf hdb l0 rfl rfl) EvL_nil) (cl_fspath hG a) (by decide)) ?_
  dsimp only [List.set]
  refine Ex_assign 2 hf l2 (Ev_fn 18 1 hG hf (EvL_cons (Ev_locF hf hdb l0 rfl rfl) EvL_nil) (cl_getsep hG a) (by decide)) ?_
  dsimp only [List.set]
  walk_at "s_as"
  refine Ex_try (P1 := fun o => ∃ x, o = .next [some (dS a), some (dT [pS b]), some (dS [47]), some (dS (joinF a b)), x] []) ?_ ?_ ?_
  · refine Ex_forF [b] dS joinF a (fun p vs cs => cs = [] ∧ ∃ x, vs = [some (dS a), some (dT [pS b]), some (dS [47]), some (dS p), x]) rfl (Itb_tuple (Ev_locF hf hdb l1 rfl rfl)) rfl (fun i y hy => getD_map pS [b] i y hy) ⟨rfl, _, rfl⟩ ?_ ?_
    · rintro i y vs cs hy ⟨rfl, x, rfl⟩
      have hi : i = 0 := by
        have := (List.getElem?_eq_some_iff.mp hy).1; simp at this; exact this
      subst hi
      simp at hy
      subst hy
      refine ⟨_, _, Asg_name 4 hf l4, ?_⟩
      dsimp only [List.set, List.take, List.foldl]
      refine Ex_assign 4 hf l4 (Ev_fn 14 1 hG hf (EvL_cons (Ev_locF hf hdb l4 rfl rfl) EvL_nil) (cl_fspath hG b) (by decide)) ?_
      dsimp only [List.set]
      walk_at "s_if"
      · omega
      · intro h
        walk_at "s_as"
        refine Ex_nil ⟨rfl, some (dS b), ?_⟩
        unfold joinF
        rw [if_pos (by simpa using h)]
      · intro h
        walk_at "s_if"
        · intro h2
          walk_at "s_aug"
          · omega
          refine Ex_nil ⟨rfl, some (dS b), ?_⟩
          unfold joinF
          rw [if_neg (by simpa using h), if_pos h2]
        · intro h2
          walk_at "s_aug"
          · simp; omega
          · simp; omega
          refine Ex_nil ⟨rfl, some (dS b), ?_⟩
          unfold joinF
          rw [if_neg (by simpa using h), if_neg (by simpa using h2)]
    · rintro vs cs ⟨rfl, x, rfl⟩
      exact Ex_nil ⟨x, rfl⟩
  · rintro vs cs ⟨x, e⟩
    cases e
    refine Ex_ret ?_ (.inl rfl)
    walk_at "m_go"
  · rintro o ⟨x, rfl⟩ h
    exact absurd rfl (h _ _)
end
end Mine
end
section
set_option Elab.async false
set_option linter.unusedVariables false
set_option maxRecDepth 100000
namespace Mine
/-- one part of a path, taken into the parts so far -/
noncomputable def nstep (r : List Nat) (new : List (List Nat)) (c : List Nat) : List (List Nat) :=
  if c.isEmpty || c == [46] then new
  else if c != [46, 46] || (r.isEmpty && new.isEmpty) || (!new.isEmpty && new.getLastD [] == [46, 46]) then new ++ [c] else new.dropLast
noncomputable def normF (x : List Nat) : List Nat :=
  if x.isEmpty then [46] else
    if ((sroot x).1 ++ jn [47] ((spl 47 (sroot x).2).foldl (nstep (sroot x).1) [])).isEmpty then [46] else (sroot x).1 ++ jn [47] ((spl 47 (sroot x).2).foldl (nstep (sroot x).1) [])
noncomputable def wgt (ts : List (List Nat)) : Nat := (ts.map (·.length)).sum + ts.length
theorem wgt_cons (a : List Nat) (r : List (List Nat)) : wgt (a :: r) = a.length + 1 + wgt r := by simp [wgt]; omega
theorem wgt_append (a b : List (List Nat)) : wgt (a ++ b) = wgt a + wgt b := by simp [wgt]; omega
theorem wgt_dropLast (a : List (List Nat)) : wgt a.dropLast ≤ wgt a := by
  rcases List.eq_nil_or_concat a with rfl | ⟨r, x, rfl⟩
  · exact Nat.le_refl _
  · rw [List.concat_eq_append, List.dropLast_concat, wgt_append]; omega
theorem wgt_take (a : List (List Nat)) (i : Nat) : wgt (a.take i) ≤ wgt a := by
  conv => rhs; rw [← List.take_append_drop i a, wgt_append]
  omega
theorem wgt_nstep (r : List Nat) (new : List (List Nat)) (c : List Nat) : wgt (nstep r new c) ≤ wgt new + (c.length + 1) := by
  unfold nstep
  split
  · omega
  · split
    · rw [wgt_append, wgt_cons]; simp [wgt]
    · exact Nat.le_trans (wgt_dropLast _) (Nat.le_add_right _ _)
theorem wgt_fold (r : List Nat) : ∀ (cs : List (List Nat)) (new : List (List Nat)), wgt (cs.foldl (nstep r) new) ≤ wgt new + wgt cs
  | [], new => by simp [wgt]
  | c :: cs, new => by
    have := wgt_fold r cs (nstep r new c)
    have := wgt_nstep r new c
    rw [List.foldl_cons, wgt_cons]; omega
theorem wgt_spl (c : Nat) : ∀ l, wgt (spl c l) = l.length + 1
  | [] => rfl
  | a :: r => by
    have ih := wgt_spl c r
    rw [spl]
    split
    · rw [wgt_cons, ih]; simp; omega
    · cases h : spl c r with
      | nil => exact absurd h (spl_ne c r)
      | cons p q => rw [h, wgt_cons] at ih; simp only [wgt_cons, List.length_cons] at ih ⊢; omega
theorem len_wgt (ts : List (List Nat)) : ts.length ≤ wgt ts := by unfold wgt; omega
theorem sroot_len (x : List Nat) : (sroot x).1.length ≤ 2 ∧ (sroot x).2.length ≤ x.length := by
  unfold sroot
  split
  · simp
  · split
    · simp
    · simp; omega
theorem jn_len (ts : List (List Nat)) : (jn [47] ts).length ≤ wgt ts := by
  have := StrLaws.join_length_le (S [47]) (ts.map S)
  rw [jn_S, S_len] at this
  simp only [List.map_map, List.length_map, S_len, Function.comp_def] at this
  unfold wgt; simpa using this
section
variable {w : World} {Λ : Glo}
theorem cl_normpath (hG : Gd Λ) (x : List Nat) (hx : x.length ≤ 1000) : Cl w Λ 21 3 [dS x] (dS (normF x)) := by
  obtain ⟨hf, hdb, l0, l1, l2, l3, l4, l5, l6, l7, l8⟩ := lk_normpath
  have hsl : 100000 ≤ sizeLine := by decide
  obtain ⟨hr1, hr2⟩ := sroot_len x
  refine Cl_plain (F := F_normpath) 8 0 hG hf rfl rfl (ps := [Str.ofString "path"]) rfl rfl rfl (by walk_at "s_c0") (by walk_at "s_b1") ?_
  show Ex _ _ _ _ _ [some (dS x), none, none, none, none, none, none, none, none] [] _ _
  refine Ex_assign 0 hf l0 (Ev_fn 14 1 hG hf (EvL_cons (Ev_locF hf hdb l0 rfl rfl) EvL_nil) (cl_fspath hG x) (by decide)) ?_
  dsimp only [List.set]
  walk_at "s_if"
  · intro h; cases h
  intro _
  walk_at "s_as"
  walk_at "s_as"
  walk_at "s_as"
  walk_at "s_if"
  · omega
  · intro h
    walk_at "s_ret"
    refine .inl ?_
    unfold normF
    rw [if_pos (by simpa using h)]
  intro h
  refine' Ex_assignT (Ev_fn 20 2 hG hf (EvL_cons (Ev_locF hf hdb l0 rfl rfl) EvL_nil) (cl_splitroot hG x (by omega)) (by decide)) (AsgL_cons (Asg_name 4 hf l4) (AsgL_cons (Asg_name 5 hf l5) (AsgL_cons (Asg_name 0 hf l0) AsgL_nil))) ?_
  dsimp only [List.set]
  walk_at "s_as"
  · omega
  have hf7 := l7
  refine Ex_own 7 hf l7 (ds := []) EvL_nil ?_ (by decide)
  dsimp only [List.set]
  refine Ex_forF (spl 47 (sroot x).2) dS (nstep (sroot x).1) [] (fun new vs cs => cs = [] ∧ ∃ c, vs = [some (dS (sroot x).2), some (dS [47]), some (dS [46]), some (dS [46, 46]), some (dS []), some (dS (sroot x).1), some (dL ((spl 47 (sroot x).2).map pS)), some (.own (new.map pS)), c])
    rfl (Itb_list (Ev_locF hf hdb l6 rfl rfl)) (by simp) (fun i y hy => getD_map pS _ i y hy) ⟨rfl, _, rfl⟩ ?_ ?_
  · rintro i c vs cs hc ⟨rfl, c0, rfl⟩
    have hw : wgt (((spl 47 (sroot x).2).take i).foldl (nstep (sroot x).1) []) ≤ x.length + 1 := by
      have h1 := wgt_fold (sroot x).1 ((spl 47 (sroot x).2).take i) []
      have h2 := wgt_take (spl 47 (sroot x).2) i
      rw [wgt_spl] at h2
      have : wgt [] = 0 := rfl
      omega
    have hcl : c.length ≤ x.length := by
      have h1 := wgt_spl 47 (sroot x).2
      have h2 : c ∈ spl 47 (sroot x).2 := List.mem_of_getElem? hc
      obtain ⟨p, q, e⟩ := List.append_of_mem h2
      rw [e, wgt_append, wgt_cons] at h1
      omega
    generalize hnew : ((spl 47 (sroot x).2).take i).foldl (nstep (sroot x).1) [] = new at hw
    have hnl : new.length ≤ x.length + 1 := Nat.le_trans (len_wgt new) hw
    refine ⟨_, _, Asg_name 8 hf l8, ?_⟩
    dsimp only [List.set]
    walk_at "s_if"
    · omega
    · intro h1
      refine Ex_cont ⟨rfl, some (dS c), ?_⟩
      unfold nstep
      rw [if_pos (by simpa using h1)]
    · intro h1
      refine' Ex_if (c := c != [46, 46] || ((!(!(sroot x).1.isEmpty) && (!(!(new.map pS).isEmpty) && true)) || ((!(new.map pS).isEmpty && (new.getLastD [] == [46, 46] && true)) || false))) (Tr_look l7 rfl ?_) ?_ ?_
      · dsimp only [List.set]
        refine' Tr_orN ?_ (fun _ => Tr_orN (Tr_andN ?_ fun _ => Tr_andN ?_ fun _ => ?_) (fun _ => Tr_orN (Tr_andN ?_ fun hne => Tr_andN (Tr_cmp (Ev_lastL (d := pS (new.getLastD [])) ?_ ?_ ?_) ?_ ?_) fun _ => ?_) (fun _ => ?_)))
        all_goals try walk_at "m_go"
        · omega
        · simp; omega
        · simp; omega
        · simp; omega
        · rcases List.eq_nil_or_concat new with rfl | ⟨r, z, rfl⟩
          · simp at hne
          · simp
      · intro h2
        refine Ex_expr (EvS_append 7 hf l7 rfl (d := pS c) (by walk_at "m_go") (by simp; omega)) (Ex_nil ⟨rfl, some (dS c), ?_⟩) hf nr_none
        dsimp only [List.set]
        have : nstep (sroot x).1 new c = new ++ [c] := by
          unfold nstep
          rw [if_neg (by simpa using h1), if_pos (by simpa [Bool.or_assoc] using h2)]
        rw [this, List.map_append]; rfl
      · intro h2
        have hst : nstep (sroot x).1 new c = new.dropLast := by
          unfold nstep
          rw [if_neg (by simpa using h1), if_neg (by simpa [Bool.or_assoc] using h2)]
        refine' Ex_if (c := !(new.map pS).isEmpty) (Tr_look l7 rfl (Tr_val (a := dL (new.map pS)) ?_ (OpT_list ?_))) ?_ ?_
        · dsimp only [List.set]; walk_at "m_go"
        · simp; omega
        · intro h3
          rcases List.eq_nil_or_concat new with rfl | ⟨r, z, rfl⟩
          · simp at h3
          · rw [List.concat_eq_append]
            simp only [List.concat_eq_append, List.length_append, List.length_cons, List.length_nil] at hnl
            refine Ex_expr (EvS_pop (ds := r.map pS) (d := pS z) 7 hf l7 (by simp) (by simp; omega)) (Ex_nil ⟨rfl, some (dS c), ?_⟩) hf nr_str
            dsimp only [List.set]
            rw [← List.concat_eq_append, hst, List.concat_eq_append, List.dropLast_concat]
        · intro h3
          refine Ex_nil ⟨rfl, some (dS c), ?_⟩
          have : new = [] := by simpa using h3
          rw [hst, this]; rfl
  · rintro vs cs ⟨rfl, c0, rfl⟩
    have hw : wgt ((spl 47 (sroot x).2).foldl (nstep (sroot x).1) []) ≤ x.length + 1 := by
      have h1 := wgt_fold (sroot x).1 (spl 47 (sroot x).2) []
      rw [wgt_spl] at h1
      have : wgt [] = 0 := rfl
      omega
    unfold normF
    rw [if_neg (by simpa using h)]
    generalize (spl 47 (sroot x).2).foldl (nstep (sroot x).1) [] = new at hw
    have hj := jn_len new
    refine Ex_freeze l7 rfl ?_
    dsimp only [List.set]
    walk_at "s_as"
    have hsum : (new.map (·.length)).sum + new.length ≤ x.length + 1 := hw
    refine' Ex_assign 0 hf l0 (Ev_BinOp ?_ (Ev_methS ?_ PySem.F.slot_str_join PySem.F.type_str_join (EvL_cons ?_ EvL_nil) (op_join (ts := new) ?_)) (op_cat ?_)) ?_
    all_goals try walk_at "m_go"
    · simp; omega
    · omega
    dsimp only [List.set]
    refine Ex_ret (av := dS (if ((sroot x).1 ++ jn [47] new).isEmpty then [46] else (sroot x).1 ++ jn [47] new)) (Ev_or2 (b := !((sroot x).1 ++ jn [47] new).isEmpty) (a := dS ((sroot x).1 ++ jn [47] new)) ?_ (OpT_str ?_) ?_ ?_) (.inl rfl)
    · walk_at "m_go"
    · rw [List.length_append]; omega
    · intro h; rw [if_neg (by simpa using h)]
    · intro h; rw [if_pos (by simpa using h)]; walk_at "m_go"
end
end Mine
end
section
open AutoSeq1 (wpAny_loadPart')
set_option Elab.async false
set_option linter.unusedVariables false
set_option maxRecDepth 100000
namespace Mine
section
variable {prog : Program} {w : World} {A : Around} {E : Value → Shared → Prop} {s : Shared}
/-- an enumerate over a tuple is made -/
theorem enum_newT (l : Addr) (items : Array Value) (n : Nat) (dct : Option Addr) (sl : Array (Option Value)) :
    Meets (Builtin.«enumerate.__new__» ⟨[.type "enumerate", .ref l], []⟩) (fun _ R s => s.heap.get? l = some { cls := .type "tuple", dict := dct, data := .seq items n, slots := sl } ∧
      R (.ok (.ret (.ref (s.heap.push { cls := .type "tuple_iterator", data := .fields #[.ref l, .int 0 0] }).objs.size)))
        { s with heap := (s.heap.push { cls := .type "tuple_iterator", data := .fields #[.ref l, .int 0 0] }).push { cls := .type "enumerate", data := .fields #[.none, .bool false, .ref s.heap.objs.size, rawInt 0, .none, .none] } }) :=
  .of_wp fun prog w A R s h => by
    obtain ⟨hp, g, d, tk, os⟩ := s
    obtain ⟨hl, h⟩ := h
    have hsub := sub_enumerate
    have hL : Heap.IsTuple (Shared.heap ⟨hp, g, d, tk, os⟩) l items := ⟨_, hl, rfl, n, rfl⟩
    wp_walk using wpAny_loadPart' hl
    refine wpAny_stack_any fun st => wpAny_pure ?_
    split
    · rename_i c _ _ _ _ _
      cases (c == Value.type "enumerate")
      · wp_walk using wpAny_loadPart' hl, wpAny_pyIter_tuple hL
        exact ⟨_, rfl, h⟩
      · wp_walk using wpAny_loadPart' hl, wpAny_pyIter_tuple hL
        exact ⟨_, rfl, h⟩
    · wp_walk using wpAny_loadPart' hl, wpAny_pyIter_tuple hL
      exact ⟨_, rfl, h⟩
theorem enum_callT {l : Addr} {items : Array Value} {Q : Value → Shared → Prop} (hL : s.heap.IsTuple l items)
    (h : ∀ h', IsEnum h' (s.heap.objs.size + 1) s.heap.objs.size 0 .none → h'.IsTupleIter s.heap.objs.size l 0 → (∀ b o, s.heap.get? b = some o → h'.get? b = some o) → Q (.ref (s.heap.objs.size + 1)) { s with heap := h' }) :
    wpAny (model prog w) A (call (.type "enumerate") [.ref l]) Q E s := by
  obtain ⟨⟨c, dct, dt, sl⟩, hl, hc, n, hd⟩ := hL
  obtain rfl : c = .type "tuple" := hc
  obtain rfl : dt = .seq items n := hd
  refine callType_new F.called_enumerate (by decide) (F.typeCall_enumerate_1 _) (F.newCall_enumerate_1 _) (fun obj => F.args_object_init_2 obj _) F.entry_enumerate_new (enum_newT l items n dct sl) ⟨hl, ?_⟩
  have hz : (s.heap.push { cls := .type "tuple_iterator", data := .fields #[.ref l, .int 0 0] }).objs.size = s.heap.objs.size + 1 := Heap.size_push ..
  have he := Heap.get?_push_size (s.heap.push { cls := .type "tuple_iterator", data := .fields #[.ref l, .int 0 0] }) (o := { cls := .type "enumerate", data := .fields #[.none, .bool false, .ref s.heap.objs.size, rawInt 0, .none, .none] }) rfl
  show _ ∧ _
  rw [hz] at he ⊢
  exact ⟨⟨_, he, rfl⟩, h _ he ⟨_, Heap.get?_push_of_some _ (Heap.get?_push_size _ rfl), rfl, rfl⟩ fun b o x => Heap.get?_push_of_some _ (Heap.get?_push_of_some _ x)⟩

/-- what a tuple's iterator does at its next item, whatever asks it -/
theorem tupleiter_item {it l : Addr} {i : Nat} {items : Array Value} {x : Value} {Q : Value → Shared → Prop} (hit : s.heap.IsTupleIter it l i) (hl : s.heap.IsTuple l items) (hx : items[i]? = some x)
    (hQ : ∀ h', h'.IsTupleIter it l (i + 1) → Heap.SameBut it s.heap h' → Q x { s with heap := h' }) : wpAny (model prog w) A (Builtin.SmallTypes.nextOf (.ref it)) Q E s := by
  obtain ⟨o, ho, hc, hd⟩ := id hit
  obtain ⟨ol, hol, _, nl, hdl⟩ := hl
  unfold Builtin.SmallTypes.nextOf
  refine wpAny_bind (wpAny_callSpecial?_slot (name := Str.ofString "__next__") hit.typeIs PySem.F.slot_tuple_iterator_next (wpAny_call_entry PySem.F.slot_tuple_iterator_next hit.typeIs PySem.F.entry_tuple_iterator_next ?_ (PySem.F.args_tuple_iterator_next_1 _)))
  show wpAny _ _ (field (.ref it) 0 >>= _) _ _ s
  refine wpAny_bind (wpAny_field ho hd (x := .ref l) rfl ?_)
  show wpAny _ _ (if (Value.ref l == Value.none) = true then _ else _) _ _ s
  rw [if_neg (show ¬ ((Value.ref l == Value.none) = true) from Bool.false_ne_true)]
  show wpAny _ _ (field (.ref it) 1 >>= _) _ _ s
  refine wpAny_bind (wpAny_field ho hd (x := .int i 0) rfl ?_)
  show wpAny _ _ (seqItems? (.ref l) >>= _) _ _ s
  refine wpAny_bind (wpAny_seqItems hol hdl ?_)
  simp only [Int.toNat_natCast, hx]
  refine wpAny_bind (wpAny_setField ho hd (by simp) (wpAny_pure ⟨x, rfl, wpAny_pure (hQ _ ?_ (Heap.SameBut.update ..))⟩))
  exact ⟨_, Heap.get?_update_self _ ho (Obj.isFreed_of_fields (Obj.data_mapFields hd _)), (Obj.cls_mapFields ..).trans hc, by rw [Obj.data_mapFields hd]; simp [rawInt]⟩
theorem tupleiter_end {it l : Addr} {i : Nat} {items : Array Value} {Q : Value → Shared → Prop} (hh : A.handled = none) (hit : s.heap.IsTupleIter it l i) (hl : s.heap.IsTuple l items) (hx : items[i]? = none)
    (hE : ∀ h' e, Heap.ExtBut it s.heap h' → (∃ o, h'.get? e = some o ∧ o.cls = .type "StopIteration") → E (.ref e) { s with heap := h' }) : wpAny (model prog w) A (Builtin.SmallTypes.nextOf (.ref it)) Q E s := by
  obtain ⟨o, ho, hc, hd⟩ := id hit
  obtain ⟨ol, hol, _, nl, hdl⟩ := hl
  unfold Builtin.SmallTypes.nextOf
  refine wpAny_bind (wpAny_callSpecial?_slot (name := Str.ofString "__next__") hit.typeIs PySem.F.slot_tuple_iterator_next (wpAny_call_entry PySem.F.slot_tuple_iterator_next hit.typeIs PySem.F.entry_tuple_iterator_next ?_ (PySem.F.args_tuple_iterator_next_1 _)))
  show wpAny _ _ (field (.ref it) 0 >>= _) _ _ s
  refine wpAny_bind (wpAny_field ho hd (x := .ref l) rfl ?_)
  show wpAny _ _ (if (Value.ref l == Value.none) = true then _ else _) _ _ s
  rw [if_neg (show ¬ ((Value.ref l == Value.none) = true) from Bool.false_ne_true)]
  show wpAny _ _ (field (.ref it) 1 >>= _) _ _ s
  refine wpAny_bind (wpAny_field ho hd (x := .int i 0) rfl ?_)
  show wpAny _ _ (seqItems? (.ref l) >>= _) _ _ s
  refine wpAny_bind (wpAny_seqItems hol hdl ?_)
  simp only [Int.toNat_natCast, hx]
  refine wpAny_bind (wpAny_rule (wpAny_bind (wpAny_setField ho hd (by simp) ?_)))
  show wpAny _ _ (newExc (.type "StopIteration") [] >>= _) _ _ _
  refine wpAny_bind ?_
  simp only [newExc, newTuple]
  refine wpAny_bind (wpAny_newObj_type ?_ (by size_fits))
  refine wpAny_bind (m := firstArgMember _ _) (wpAny_of_eq (a := Value.none) (by first | rfl | (simp only [firstArgMember]; rfl)) ?_)
  refine wpAny_newObj_type ?_ (by size_fits)
  simp only [raiseNew]
  refine wpAny_bind (wpAny_handled ?_)
  first | rw [show A.in1.handled = none from hh] | rw [hh]
  refine wpAny_bind (wpAny_pure (wpAny_throw ?_))
  exact hE _ _ (((Heap.SameBut.update ..).extBut.push _).push _) ⟨_, Heap.get?_push_size _ rfl, rfl⟩
theorem draws_tuple (hh : A.handled = none) (it l : Addr) (hne : l ≠ it) (items : Array Value) :
    Draws prog w A it [it, l] items.size (fun i v => items[i]? = some v) (fun i h => h.IsTupleIter it l i ∧ h.IsTuple l items) where
  live := fun _ _ st => let ⟨o, ho, _⟩ := st.1; ⟨o, ho⟩
  frame := fun _ _ _ st hk => ⟨let ⟨o, ho, r⟩ := st.1; ⟨o, hk it (by simp) o ho, r⟩, let ⟨o, ho, r⟩ := st.2; ⟨o, hk l (by simp) o ho, r⟩⟩
  item := fun i s Q E hi st hQ => tupleiter_item st.1 st.2 (x := items[i]) (by simp [hi]) fun h' hit' hs' => hQ _ h' s.toks (by simp [hi]) ⟨hit', st.2.extBut hs'.extBut hne⟩ hs'
  done := fun s Q E st hE => tupleiter_end hh st.1 st.2 (by simp) hE
end
section
variable {prog : Program} {w : World} {Λ : Glo} {F : FS} {n : Nat} {vs cs : List (Option AV)}
/-- the items of a tuple, numbered -/
theorem Itb_enumT {elts : List Expr} {kk : Nat} {tp pos : Pos} {f e : Expr} {ds : List PyData} (h1 : Ev prog w Λ F n vs cs f (.raw (.type "enumerate"))) (h2 : Ev prog w Λ F n vs cs e (dT ds))
    (he : ∀ env, eval (.Call f [e] [] pos) env = (do callWith pos (← eval f env) [] (backTo pos (starEach [e] env)) (backToKw pos (keywordEach [] env))) := by intro _; rfl)
    (hs : ∀ env, starEach [e] env = (false, eval e env) :: starEach [] env := by intro _; rfl) :
    Itb prog w Λ F n vs cs (.Tuple elts kk tp) (.Call f [e] [] pos) ds.length (fun i => dT [.int i, ds.getD i .none]) := fun A env G s E Q hr hen hV hQ => by
  refine Call_ (h1.seq hr hen hV fun u s1 G1 g1 x1 V1 o1 => ?_) (he env)
  obtain rfl : u = _ := o1
  refine callWith_type1 (args_cons (h2.seq hr hen V1 fun v s2 G2 g2 x2 V2 o2 => args_nil ?_) (hs env)) (hs env) rfl
  obtain ⟨a, its, rfl, hGa, hl0, hA⟩ := repTuple V2.data o2
  have hl : s2.heap.IsTuple a its := hl0
  refine enum_callT hl fun h' hE hI hk => ?_
  have g3 : Grow s2 { s2 with heap := h' } := ⟨hk, fun _ _ e => e, id, rfl⟩
  refine wpAny_pyIter_enum hE ?_
  have gg := g1.trans g2
  have fr : ∀ b, b ∈ [s2.heap.objs.size + 1, s2.heap.objs.size] → s.heap.get? b = none ∧ G2 b = none := fun b hb => by
    have : s2.heap.objs.size ≤ b := by simp at hb; omega
    exact ⟨none_old gg (none_ge this), PH.none_of_sub x2.sub (none_ge this)⟩
  have hz : its.size = ds.length := by have := hA.length; simpa using this
  have halt : a < s2.heap.objs.size := by obtain ⟨o, ho, _⟩ := hl; exact Heap.lt_size ho
  have WW := fun (A : Around) (hA : A.handled = none) => WalksT.enumerateD (prog := prog) (w := w) (A := A) (draws_tuple (prog := prog) (w := w) (A := A.in1) hA s2.heap.objs.size a (Nat.ne_of_lt halt) its) (s2.heap.objs.size + 1) (Nat.succ_ne_self _) (fun hm => by
    simp at hm
    rw [← hm] at halt
    exact Nat.lt_irrefl _ (Nat.lt_of_succ_lt halt)) (by simp)
  rw [hz] at WW
  refine hQ _ [s2.heap.objs.size + 1, s2.heap.objs.size] (fun _ => False) _ _ G2 (gg.trans g3) ((x1.trans g1 x2).after g3)
    (Itr.of_walksT hr.handled (G0 := G2) WW (fun b hb => hb) ?_ (fun b hb => ?_) ?_) ?_ fr (fun _ h => h.elim)
  · rintro i h ⟨⟨old, hE⟩, ⟨o, ho, _⟩, _⟩ b hb
    simp at hb
    rcases hb with rfl | rfl
    · exact ⟨_, hE⟩
    · exact ⟨_, ho⟩
  · simp at hb
    rcases hb with rfl | rfl | rfl
    · exact .inl (by simp)
    · exact .inl (by simp)
    · exact .inr (by cases hq : G2 b with
        | none => exact absurd hq hGa
        | some o => exact ⟨o, rfl⟩)
  · rintro i vals hi ⟨t', v, hv, rfl⟩
    obtain ⟨d, hd, hR⟩ := hA.get i v (by simpa using hv)
    refine ⟨_, rfl, .cons (.int _ _) (.cons ?_ .nil)⟩
    rw [getD_of hd]; exact hR
  · exact ⟨rfl, .refl _, fun b o e => hk b o (x2.sub b o e), ⟨⟨_, hE⟩, hI, let ⟨o, ho, r⟩ := hl; ⟨o, hk _ o ho, r⟩⟩⟩
end
end Mine
end
section
set_option Elab.async false
set_option linter.unusedVariables false
set_option maxRecDepth 100000
namespace Mine
/-- filemode's table -/
noncomputable def fmTab : List (List (Int × List Nat)) := [
  [(40960, [108]), (49152, [115]), (32768, [45]), (24576, [98]), (16384, [100]), (8192, [99]), (4096, [112])],
  [(256, [114])], [(128, [119])], [(2112, [115]), (2048, [83]), (64, [120])], [(32, [114])], [(16, [119])], [(1032, [115]), (1024, [83]), (8, [120])],
  [(4, [114])], [(2, [119])], [(513, [116]), (512, [84]), (1, [120])]]
noncomputable def rowD (t : List (Int × List Nat)) : PyData := .tuple (t.map fun p => .tuple [pI p.1, pS p.2])
theorem tabD_eq : tabD = .tuple (fmTab.map rowD) := by rfl
/-- the sign of one row of the table -/
noncomputable def fmHit (mode : Int) (index : Nat) (bit : Int) : Bool := if index = 0 then Builtin.bitAnd mode 61440 == bit else Builtin.bitAnd mode bit == bit
noncomputable def fmSign (mode : Int) (index : Nat) (t : List (Int × List Nat)) : List Nat :=
  match t.find? fun p => fmHit mode index p.1 with
  | some p => p.2
  | none => if index = 0 then [63] else [45]
noncomputable def fmSigns (mode : Int) : List (List Nat) := fmTab.zipIdx.map fun p => fmSign mode p.2 p.1
section
variable {w : World} {Λ : Glo}
theorem cl_imode (hG : Gd Λ) (m : Int) : Cl w Λ 24 1 [dI m] (dI (Builtin.bitAnd m 4095)) := by
  obtain ⟨hf, hdb, l0⟩ := lk_imode
  refine Cl_plain (F := F_imode) 0 0 hG hf rfl rfl (ps := [Str.ofString "mode"]) rfl rfl rfl (by walk_at "s_c0") (by walk_at "s_b1") ?_
  show Ex _ _ _ _ _ [some (dI m)] [] _ _
  exact Ex_ret (by walk_at "m_go") (.inl rfl)
theorem cl_ifmt (hG : Gd Λ) (m : Int) : Cl w Λ 25 1 [dI m] (dI (Builtin.bitAnd m 61440)) := by
  obtain ⟨hf, hdb, l0⟩ := lk_ifmt
  refine Cl_plain (F := F_ifmt) 0 0 hG hf rfl rfl (ps := [Str.ofString "mode"]) rfl rfl rfl (by walk_at "s_c0") (by walk_at "s_b1") ?_
  show Ex _ _ _ _ _ [some (dI m)] [] _ _
  exact Ex_ret (by walk_at "m_go") (.inl rfl)
theorem cl_isdir (hG : Gd Λ) (m : Int) : Cl w Λ 33 2 [dI m] (dB (Builtin.bitAnd m 61440 == 16384)) := by
  obtain ⟨hf, hdb, l0⟩ := lk_isdir
  obtain ⟨t, ht⟩ := hG.dir
  refine Cl_plain (F := F_isdir) 0 0 hG hf rfl rfl (ps := [Str.ofString "mode"]) rfl rfl rfl (by walk_at "s_c0") (by walk_at "s_b1") ?_
  show Ex _ _ _ _ _ [some (dI m)] [] _ _
  exact Ex_ret (Ev_cmp (Ev_fn 25 1 hG hf (EvL_cons (by walk_at "m_go") EvL_nil) (cl_ifmt hG m) (by decide)) (Ev_globD hG.ok hf rfl ht (Rep.int _ _)) op_eq) (.inl rfl)
theorem cl_filemode (hG : Gd Λ) (m : Int) : Cl w Λ 47 2 [dI m] (dS (jn [] (fmSigns m))) := by
  obtain ⟨hf, hdb, l0, l1, l2, l3, l4, l5⟩ := lk_filemode
  obtain ⟨v, hv, hR⟩ := hG.tab
  have hsl : 100000 ≤ sizeLine := by decide
  refine Cl_plain (F := F_filemode) 5 0 hG hf rfl rfl (ps := [Str.ofString "mode"]) rfl rfl rfl (by walk_at "s_c0") (by walk_at "s_b1") ?_
  show Ex _ _ _ _ _ [some (dI m), none, none, none, none, none] [] _ _
  refine Ex_own 1 hf l1 (ds := []) EvL_nil ?_ (by decide)
  dsimp only [List.set]
  have hfold : ∀ (l : List (List (Int × List Nat) × Nat)) (acc : List (List Nat)), l.foldl (fun perm p => perm ++ [fmSign m p.2 p.1]) acc = acc ++ l.map fun p => fmSign m p.2 p.1 := by
    intro l
    induction l with
    | nil => simp
    | cons a l ih => intro acc; rw [List.foldl_cons, ih]; simp
  refine Ex_forF fmTab.zipIdx (fun p => dT [pI p.2, rowD p.1]) (fun perm p => perm ++ [fmSign m p.2 p.1]) [] (fun perm vs cs => cs = [] ∧ ∃ a b c d, vs = [some (dI m), some (.own (perm.map pS)), a, b, c, d])
    rfl (Itb_enumT (ds := fmTab.map rowD) (by walk_at "m_go") (Ev_globD hG.ok hf rfl hv hR)) (by simp) ?_ ⟨rfl, _, _, _, _, rfl⟩ ?_ ?_
  · intro i x hx
    rw [List.getElem?_zipIdx] at hx
    cases ht : fmTab[i]? with
    | none => rw [ht] at hx; cases hx
    | some t =>
      rw [ht] at hx
      simp at hx
      subst hx
      have := getD_map rowD fmTab i t ht
      simp only [AV.dat.injEq] at this
      rw [this]
  · rintro i ⟨t, idx⟩ vs cs hx ⟨rfl, a0, b0, c0, d0, rfl⟩
    have hsz : ((fmTab.zipIdx.take i).foldl (fun perm p => perm ++ [fmSign m p.2 p.1]) []).length ≤ 1000 := by
      rw [hfold, List.nil_append, List.length_map, List.length_take]
      have : fmTab.zipIdx.length = 10 := by rfl
      omega
    generalize (fmTab.zipIdx.take i).foldl (fun perm p => perm ++ [fmSign m p.2 p.1]) [] = perm at hsz
    refine ⟨_, _, Asg_tuple (AsgL_cons (Asg_name 2 hf l2) (AsgL_cons (Asg_name 3 hf l3) AsgL_nil)), ?_⟩
    dsimp only [List.set]
    refine Ex_for (fun k vs cs => cs = [] ∧ (∃ c d, vs = [some (dI m), some (.own (perm.map pS)), some (dI idx), some (.dat (rowD t)), c, d]) ∧ ∀ p ∈ t.take k, fmHit m idx p.1 = false)
      (fun vs cs => cs = [] ∧ ∃ c d, vs = [some (dI m), some (.own ((perm ++ [fmSign m idx t]).map pS)), some (dI idx), some (.dat (rowD t)), c, d]) rfl (Itb_tuple (ds := t.map fun p => .tuple [pI p.1, pS p.2]) (Ev_locF hf hdb l3 rfl rfl)) ⟨rfl, ⟨_, _, rfl⟩, by simp⟩ ?_ ?_ ?_
    · rintro k vs cs hk ⟨rfl, ⟨c1, d1, rfl⟩, hno⟩
      rw [List.length_map] at hk
      obtain ⟨p, hp⟩ : ∃ p, t[k]? = some p := ⟨_, List.getElem?_eq_getElem hk⟩
      rw [getD_map (fun p : Int × List Nat => PyData.tuple [pI p.1, pS p.2]) t k p hp]
      refine ⟨_, _, Asg_tuple (ds := [pI p.1, pS p.2]) (AsgL_cons (Asg_name 4 hf l4) (AsgL_cons (Asg_name 5 hf l5) AsgL_nil)), ?_⟩
      dsimp only [List.set]
      have hfound : fmHit m idx p.1 = true → fmSign m idx t = p.2 := fun hh => by
        have ht : t = t.take k ++ p :: t.drop (k + 1) := by
          have hk' : t[k] = p := by
            rw [List.getElem?_eq_getElem hk] at hp; exact Option.some.inj hp
          rw [← hk', ← List.drop_eq_getElem_cons hk, List.take_append_drop]
        unfold fmSign
        have : t.find? (fun p => fmHit m idx p.1) = some p := by
          rw [ht, List.find?_append]
          have h1 : (t.take k).find? (fun p => fmHit m idx p.1) = none := List.find?_eq_none.mpr fun q hq => by simp [hno q hq]
          rw [h1]
          simp [hh]
        rw [this]
      have hnext : fmHit m idx p.1 = false → ∀ q ∈ t.take (k + 1), fmHit m idx q.1 = false := fun hh q hq => by
        rw [List.take_add_one, hp] at hq
        simp at hq
        rcases hq with h | rfl
        · exact hno q h
        · exact hh
      refine' Ex_if (c := (idx : Int) == 0) (Tr_cmp ?_ ?_ op_eq) ?_ ?_
      all_goals try walk_at "m_go"
      · intro h0
        have hi0 : idx = 0 := by simpa using h0
        dsimp only [List.append, List.cons_append, List.nil_append]
        refine' Ex_if (c := Builtin.bitAnd m 61440 == p.1) (Tr_cmp (Ev_fn 25 1 hG hf (EvL_cons ?_ EvL_nil) (cl_ifmt hG m) (by decide)) ?_ op_eq) ?_ ?_
        all_goals try walk_at "m_go"
        · intro h1
          refine Ex_expr (EvS_append 1 hf l1 rfl (d := pS p.2) (by walk_at "m_go") (by simp; omega)) ?_ hf nr_none
          refine' Ex_brk ⟨rfl, some (.dat (pI p.1)), some (.dat (pS p.2)), ?_⟩
          dsimp only [List.set]
          rw [hfound (by unfold fmHit; rw [if_pos hi0]; exact h1), List.map_append]; rfl
        · intro h1
          refine Ex_nil ⟨rfl, ⟨_, _, rfl⟩, hnext (by unfold fmHit; rw [if_pos hi0]; exact h1)⟩
      · intro h0
        have hi0 : ¬ idx = 0 := by simpa using h0
        dsimp only [List.append, List.cons_append, List.nil_append]
        refine' Ex_if (c := Builtin.bitAnd m p.1 == p.1) (Tr_cmp (Ev_BinOp ?_ ?_ op_band) ?_ op_eq) ?_ ?_
        all_goals try walk_at "m_go"
        · intro h1
          refine Ex_expr (EvS_append 1 hf l1 rfl (d := pS p.2) (by walk_at "m_go") (by simp; omega)) ?_ hf nr_none
          refine' Ex_brk ⟨rfl, some (.dat (pI p.1)), some (.dat (pS p.2)), ?_⟩
          dsimp only [List.set]
          rw [hfound (by unfold fmHit; rw [if_neg hi0]; exact h1), List.map_append]; rfl
        · intro h1
          refine Ex_nil ⟨rfl, ⟨_, _, rfl⟩, hnext (by unfold fmHit; rw [if_neg hi0]; exact h1)⟩
    · rintro vs cs ⟨rfl, ⟨c1, d1, rfl⟩, hno⟩
      rw [List.length_map, List.take_length] at hno
      have hnone : fmSign m idx t = if idx = 0 then [63] else [45] := by
        unfold fmSign
        rw [List.find?_eq_none.mpr fun q hq => by simp [hno q hq]]
      refine' Ex_if (c := (idx : Int) == 0) (Tr_cmp ?_ ?_ op_eq) ?_ ?_
      all_goals try walk_at "m_go"
      · intro h0
        have hi0 : idx = 0 := by simpa using h0
        refine Ex_expr (EvS_append 1 hf l1 rfl (d := pS [63]) (by walk_at "m_go") (by simp; omega)) (Ex_nil ⟨rfl, c1, d1, ?_⟩) hf nr_none
        dsimp only [List.set]
        rw [hnone, if_pos hi0, List.map_append]; rfl
      · intro h0
        have hi0 : ¬ idx = 0 := by simpa using h0
        refine Ex_expr (EvS_append 1 hf l1 rfl (d := pS [45]) (by walk_at "m_go") (by simp; omega)) (Ex_nil ⟨rfl, c1, d1, ?_⟩) hf nr_none
        dsimp only [List.set]
        rw [hnone, if_neg hi0, List.map_append]; rfl
    · rintro vs cs ⟨rfl, c1, d1, rfl⟩
      exact Ex_nil ⟨rfl, _, _, _, _, rfl⟩
  · rintro vs cs ⟨rfl, a0, b0, c0, d0, rfl⟩
    rw [hfold, List.nil_append]
    show Ex _ _ _ _ _ [some (dI m), some (.own ((fmSigns m).map pS)), a0, b0, c0, d0] _ _ _
    refine Ex_freeze l1 rfl ?_
    dsimp only [List.set]
    refine Ex_ret (Ev_methS (x := []) ?_ PySem.F.slot_str_join PySem.F.type_str_join (EvL_cons ?_ EvL_nil) (op_join (ts := fmSigns m) ?_)) (.inl rfl)
    · walk_at "m_go"
    · walk_at "m_go"
    · have h1 : ∀ p ∈ fmSigns m, p.length ≤ 1 := by
        intro p hp
        unfold fmSigns at hp
        obtain ⟨⟨t, i⟩, hm, rfl⟩ := List.mem_map.mp hp
        have ht : t ∈ fmTab := (List.mem_zipIdx hm).2.2 ▸ List.getElem_mem _
        have hall : ∀ t ∈ fmTab, ∀ q ∈ t, q.2.length ≤ 1 := by decide
        unfold fmSign
        split
        · rename_i q hq
          exact hall t ht q (List.mem_of_find?_eq_some hq)
        · split <;> decide
      have h2 : (fmSigns m).length = 10 := by unfold fmSigns; simp; rfl
      have h3 : ∀ (l : List (List Nat)), (∀ p ∈ l, p.length ≤ 1) → (l.map (·.length)).sum ≤ l.length := by
        intro l
        induction l with
        | nil => simp
        | cons a l ih =>
          intro hh
          have := ih fun p hp => hh p (List.mem_cons_of_mem _ hp)
          have := hh a (by simp)
          simp; omega
      have := h3 _ h1
      simp; omega
end
end Mine
end
section
set_option Elab.async false
set_option linter.unusedVariables false
set_option maxRecDepth 100000
set_option maxHeartbeats 4000000
namespace Mine
theorem esc_len : ∀ (x : List Nat) (p : Nat) (e : Bool), (esc p e x).length ≤ x.length + 1
  | [], p, e => by cases e <;> simp [esc]
  | c :: r, p, true => by
    have := esc_len r (p + 1) false
    simp only [esc, List.length_cons]; omega
  | c :: r, p, false => by
    rw [esc]
    split
    · have := esc_len r (p + 1) true; simp only [List.length_cons]; omega
    · have := esc_len r (p + 1) false; simp only [List.length_cons]; omega
structure SQ where
  start : Nat
  op : Option Nat
  res : List (List Nat)
noncomputable def sqStep (x : List Nat) (s : SQ) (q : Nat × List Nat) : SQ :=
  if q.2 == [34] then match s.op with
    | none => { s with op := some q.1 }
    | some o => ⟨q.1 + 1, none, if s.start != o then s.res ++ [(x.take o).drop s.start] else s.res⟩
  else s
noncomputable def sqAll (x : List Nat) : SQ := (escs x).foldl (sqStep x) ⟨0, none, []⟩
noncomputable def stripF (x : List Nat) : List Nat :=
  if 34 ∈ x then jn [] (if (sqAll x).start < x.length then (sqAll x).res ++ [x.drop (sqAll x).start] else (sqAll x).res) else x
theorem sq_bound (x : List Nat) : ∀ (qs : List (Nat × List Nat)) (s : SQ), (∀ r ∈ s.res, r.length ≤ x.length) → (∀ r ∈ (qs.foldl (sqStep x) s).res, r.length ≤ x.length) ∧ (qs.foldl (sqStep x) s).res.length ≤ s.res.length + qs.length
  | [], s, h => ⟨h, by simp⟩
  | q :: qs, s, h => by
    have h1 : (∀ r ∈ (sqStep x s q).res, r.length ≤ x.length) ∧ (sqStep x s q).res.length ≤ s.res.length + 1 := by
      unfold sqStep
      split
      · split
        · exact ⟨h, by simp⟩
        · simp only []
          split
          · refine ⟨fun r hr => ?_, by simp⟩
            rcases List.mem_append.mp hr with hr | hr
            · exact h r hr
            · rw [List.mem_singleton.mp hr, List.length_drop, List.length_take]; omega
          · exact ⟨h, by simp⟩
      · exact ⟨h, by simp⟩
    have := sq_bound x qs (sqStep x s q) h1.1
    exact ⟨this.1, by rw [List.foldl_cons, List.length_cons]; omega⟩
theorem sum_le (B : Nat) : ∀ (l : List (List Nat)), (∀ r ∈ l, r.length ≤ B) → (l.map (·.length)).sum ≤ l.length * B
  | [], _ => by simp
  | a :: l, h => by
    have := sum_le B l fun r hr => h r (List.mem_cons_of_mem _ hr)
    have := h a (by simp)
    simp only [List.map_cons, List.sum_cons, List.length_cons, Nat.succ_mul]; omega
noncomputable def avO : Option Nat → AV
  | none => .dat .none
  | some p => dI p
noncomputable def chkAux : Int → List (List Nat) → Bool
  | o, [] => o == 0
  | o, c :: r => if c == [40] then chkAux (o + 1) r else if c == [41] then (if o - 1 < 0 then false else chkAux (o - 1) r) else chkAux o r
noncomputable def chkF (x : List Nat) : Bool := chkAux 0 ((escs (stripF x)).map (·.2))
noncomputable def fallback : List Nat := [40, 39, 39, 44, 32, 39, 39, 41]
section
variable {w : World} {Λ : Glo}
theorem itemE {x : List Nat} (i : Nat) (q : Nat × List Nat) (h : (escs x)[i]? = some q) : dT [.int ((escs x).getD i (0, [])).1, pS ((escs x).getD i (0, [])).2] = dT [pI q.1, pS q.2] := by
  have : (escs x).getD i (0, []) = q := by simp [List.getD, h]
  rw [this]
theorem cl_strip (hG : Gd Λ) (x : List Nat) (hx : x.length ≤ 1000) : Cl w Λ 3 2 [dS x] (dS (stripF x)) := by
  obtain ⟨hf, hdb, l0, l1, l2, l3, l4, l5⟩ := lk_strip_quoted_realnames
  have hsl : 100000 ≤ sizeLine := by decide
  refine Cl_plain (F := F_strip_quoted_realnames) 5 0 hG hf rfl rfl (ps := [Str.ofString "addr"]) rfl rfl rfl (by walk_at "s_c0") (by walk_at "s_b1") ?_
  show Ex _ _ _ _ _ [some (dS x), none, none, none, none, none] [] _ _
  walk_at "s_if"
  · intro h
    refine Ex_ret (by walk_at "m_go") (.inl ?_)
    unfold stripF; rw [if_neg (by simpa using h)]
  intro h
  walk_at "s_as"
  walk_at "s_as"
  refine Ex_own 3 hf l3 (ds := []) EvL_nil ?_ (by decide)
  dsimp only [List.set]
  refine Ex_forF (escs x) (fun q => dT [pI q.1, pS q.2]) (sqStep x) ⟨0, none, []⟩ (fun s vs cs => cs = [] ∧ ∃ a b, vs = [some (dS x), some (dI s.start), some (avO s.op), some (.own (s.res.map pS)), a, b])
    rfl (Itb_genF hG hf (by walk_at "m_go")) rfl itemE ⟨rfl, _, _, rfl⟩ ?_ ?_
  · rintro i ⟨p, c⟩ vs cs hq ⟨rfl, a0, b0, rfl⟩
    have hb := sq_bound x ((escs x).take i) ⟨0, none, []⟩ (by intro r hr; cases hr)
    have hl : ((escs x).take i).length ≤ x.length + 1 := by
      have := esc_len x 0 false
      change (escs x).length ≤ _ at this
      rw [List.length_take]; omega
    generalize ((escs x).take i).foldl (sqStep x) ⟨0, none, []⟩ = s at hb
    obtain ⟨hb1, hb2⟩ := hb
    have hb3 : s.res.length ≤ 1001 := by simp only [List.length_nil] at hb2; omega
    refine ⟨_, _, Asg_tuple (AsgL_cons (Asg_name 4 hf l4) (AsgL_cons (Asg_name 5 hf l5) AsgL_nil)), ?_⟩
    dsimp only [List.set]
    walk_at "s_if"
    · intro h1
      cases hop : s.op with
      | none =>
        refine' Ex_if (c := true) (Tr_cmp (a := .dat .none) ?_ ?_ op_isNN) (fun _ => ?_) (fun h => by cases h)
        all_goals try walk_at "m_go"
        dsimp only [List.append, List.cons_append, List.nil_append]
        walk_at "s_as"
        refine Ex_nil ⟨rfl, some (dI p), some (dS c), ?_⟩
        have : sqStep x s (p, c) = ⟨s.start, some p, s.res⟩ := by unfold sqStep; rw [if_pos h1, hop]
        rw [this]; rfl
      | some o =>
        refine' Ex_if (c := false) (Tr_cmp (a := dI o) ?_ ?_ op_isNI) (fun h => by cases h) (fun _ => ?_)
        all_goals try walk_at "m_go"
        dsimp only [List.append, List.cons_append, List.nil_append]
        have hst : sqStep x s (p, c) = ⟨p + 1, none, if s.start != o then s.res ++ [(x.take o).drop s.start] else s.res⟩ := by unfold sqStep; rw [if_pos h1, hop]
        refine' Ex_if (c := (s.start : Int) != (o : Int)) (Tr_cmp (a := dI s.start) (b := dI o) ?_ ?_ op_ne) ?_ ?_
        all_goals try walk_at "m_go"
        · intro h2
          refine Ex_expr (EvS_append 3 hf l3 rfl (d := pS ((x.take o).drop s.start)) (Ev_midS s.start o ?_ ?_ ?_ (by omega)) (by simp; omega)) ?_ hf nr_none
          · walk_at "m_go"
          · walk_at "m_go"
          · walk_at "m_go"
          dsimp only [List.set]
          walk_at "s_as"
          walk_at "s_as"
          refine Ex_nil ⟨rfl, some (dI p), some (dS c), ?_⟩
          rw [hst, if_pos (by simp at h2 ⊢; omega)]
          simp [avO]
        · intro h2
          dsimp only [List.append, List.cons_append, List.nil_append]
          walk_at "s_as"
          walk_at "s_as"
          refine Ex_nil ⟨rfl, some (dI p), some (dS c), ?_⟩
          rw [hst, if_neg (by simp at h2 ⊢; omega)]
          simp [avO]
    · intro h1
      refine Ex_nil ⟨rfl, some (dI p), some (dS c), ?_⟩
      have : sqStep x s (p, c) = s := by unfold sqStep; rw [if_neg (by simpa using h1)]
      rw [this]
  · rintro vs cs ⟨rfl, a0, b0, rfl⟩
    have hb := sq_bound x (escs x) ⟨0, none, []⟩ (by intro r hr; cases hr)
    have hl := esc_len x 0 false
    have hin : 34 ∈ x := by simpa using h
    show Ex _ _ _ _ _ [some (dS x), some (dI (sqAll x).start), some (avO (sqAll x).op), some (.own ((sqAll x).res.map pS)), a0, b0] _ _ _
    unfold stripF
    rw [if_pos hin]
    change (∀ r ∈ (sqAll x).res, r.length ≤ x.length) ∧ (sqAll x).res.length ≤ 0 + (escs x).length at hb
    generalize sqAll x = s at hb
    obtain ⟨hb1, hb2⟩ := hb
    have hb3 : s.res.length ≤ 1001 := by show s.res.length ≤ _; change (escs x).length ≤ _ at hl; omega
    have hjn : ∀ (l : List (List Nat)), (∀ r ∈ l, r.length ≤ x.length) → l.length ≤ 1002 → (l.map (·.length)).sum + l.length * ([] : List Nat).length ≤ 16777216 := fun l h1 h2 => by
      have h3 := sum_le 1000 l fun r hr => Nat.le_trans (h1 r hr) hx
      have h4 : l.length * 1000 ≤ 1002 * 1000 := Nat.mul_le_mul_right _ h2
      simp; omega
    refine' Ex_if (c := decide ((s.start : Int) < (x.length : Int))) (Tr_cmp (a := dI s.start) (b := dI x.length) ?_ ?_ op_lt) ?_ ?_
    all_goals try walk_at "m_go"
    · omega
    · intro h2
      refine Ex_expr (EvS_append 3 hf l3 rfl (d := pS (x.drop s.start)) (Ev_fromS s.start ?_ ?_ (by omega)) (by simp; omega)) ?_ hf nr_none
      · walk_at "m_go"
      · walk_at "m_go"
      refine Ex_freeze (ds := (s.res ++ [x.drop s.start]).map pS) l3 (by rw [List.map_append]; rfl) ?_
      dsimp only [List.set]
      refine Ex_ret (Ev_methS (x := []) ?_ PySem.F.slot_str_join PySem.F.type_str_join (EvL_cons ?_ EvL_nil) (op_join (ts := s.res ++ [x.drop s.start]) (hjn _ ?_ ?_))) (.inl ?_)
      · walk_at "m_go"
      · walk_at "m_go"
      · intro r hr
        rcases List.mem_append.mp hr with hr | hr
        · exact hb1 r hr
        · rw [List.mem_singleton.mp hr, List.length_drop]; omega
      · simp; omega
      · rw [if_pos (by simpa using h2)]
    · intro h2
      dsimp only [List.append, List.cons_append, List.nil_append]
      refine Ex_freeze l3 rfl ?_
      dsimp only [List.set]
      refine Ex_ret (Ev_methS (x := []) ?_ PySem.F.slot_str_join PySem.F.type_str_join (EvL_cons ?_ EvL_nil) (op_join (ts := s.res) (hjn _ hb1 (by omega)))) (.inl ?_)
      · walk_at "m_go"
      · walk_at "m_go"
      · rw [if_neg (by simpa using h2)]

theorem cl_check (hG : Gd Λ) (x : List Nat) (hx : x.length ≤ 1000) : Cl w Λ 4 3 [dS x] (dB (chkF x)) := by
  obtain ⟨hf, hdb, l0, l1, l2, l3⟩ := lk_check_parenthesis
  refine Cl_plain (F := F_check_parenthesis) 3 0 hG hf rfl rfl (ps := [Str.ofString "addr"]) rfl rfl rfl (by walk_at "s_c0") (by walk_at "s_b1") ?_
  show Ex _ _ _ _ _ [some (dS x), none, none, none] [] _ _
  refine Ex_assign 0 hf l0 (Ev_fn 3 2 hG hf (EvL_cons (by walk_at "m_go") EvL_nil) (cl_strip hG x hx) (by decide)) ?_
  dsimp only [List.set]
  walk_at "s_as"
  refine Ex_forR (escs (stripF x)) (fun q => dT [pI q.1, pS q.2]) (fun (o : Int) q => if q.2 == [40] then o + 1 else if q.2 == [41] then o - 1 else o) 0
    (fun i o vs cs => cs = [] ∧ (∃ a b, vs = [some (dS (stripF x)), some (dI o), a, b]) ∧ chkF x = chkAux o (((escs (stripF x)).drop i).map (·.2)))
    rfl (Itb_genF hG hf (by walk_at "m_go")) rfl itemE ⟨rfl, ⟨_, _, rfl⟩, rfl⟩ ?_ ?_
  · rintro i ⟨p, c⟩ vs cs hq ⟨rfl, ⟨a0, b0, rfl⟩, hc⟩
    generalize ((escs (stripF x)).take i).foldl _ 0 = o at hc
    have hd : (escs (stripF x)).drop i = (p, c) :: (escs (stripF x)).drop (i + 1) := by
      have hi := (List.getElem?_eq_some_iff.mp hq).1
      rw [List.drop_eq_getElem_cons hi]
      congr 1
      exact (List.getElem?_eq_some_iff.mp hq).2
    rw [hd, List.map_cons, chkAux] at hc
    refine ⟨_, _, Asg_tuple (AsgL_cons (Asg_name 2 hf l2) (AsgL_cons (Asg_name 3 hf l3) AsgL_nil)), ?_⟩
    dsimp only [List.set]
    walk_at "s_if"
    · intro h1
      walk_at "s_aug"
      refine Ex_nil ⟨rfl, ⟨some (dI p), some (dS c), ?_⟩, ?_⟩
      · simp only [h1, if_true]
      · rw [hc, if_pos h1]; simp only [h1, if_true]
    · intro h1
      walk_at "s_if"
      · intro h2
        walk_at "s_aug"
        walk_at "s_if"
        · intro h3
          refine Ex_ret (by walk_at "m_go") (.inl ?_)
          rw [hc, if_neg (by simpa using h1), if_pos h2, if_pos (by simpa using h3)]
        · intro h3
          refine Ex_nil ⟨rfl, ⟨some (dI p), some (dS c), ?_⟩, ?_⟩
          · simp only [h1, h2, if_true, Bool.false_eq_true, if_false]
          · rw [hc, if_neg (by simpa using h1), if_pos h2, if_neg (by simpa using h3)]; simp only [h1, h2, if_true, Bool.false_eq_true, if_false]
      · intro h2
        refine Ex_nil ⟨rfl, ⟨some (dI p), some (dS c), ?_⟩, ?_⟩
        · simp only [h1, h2, Bool.false_eq_true, if_false]
        · rw [hc, if_neg (by simpa using h1), if_neg (by simpa using h2)]; simp only [h1, h2, Bool.false_eq_true, if_false]
  · rintro vs cs ⟨rfl, ⟨a0, b0, rfl⟩, hc⟩
    rw [List.drop_length, List.map_nil, chkAux] at hc
    refine Ex_ret (by walk_at "m_go") (.inl ?_)
    rw [hc]
theorem cl_preparse (hG : Gd Λ) (xs : List (List Nat)) (hx : ∀ x ∈ xs, x.length ≤ 1000) (hl : xs.length ≤ 1000) : Cl w Λ 5 4 [dL (xs.map pS)] (dL (xs.map fun x => pS (if chkF x then x else fallback))) := by
  obtain ⟨hf, hdb, l0, l1, l2⟩ := lk_pre_parse_validation
  have hsl : 100000 ≤ sizeLine := by decide
  refine Cl_plain (F := F_pre_parse_validation) 2 0 hG hf rfl rfl (ps := [Str.ofString "email_header_fields"]) rfl rfl rfl (by walk_at "s_c0") (by walk_at "s_b1") ?_
  show Ex _ _ _ _ _ [some (dL (xs.map pS)), none, none] [] _ _
  refine Ex_own 1 hf l1 (ds := []) EvL_nil ?_ (by decide)
  dsimp only [List.set]
  have hfold : ∀ (l : List (List Nat)) (acc : List (List Nat)), l.foldl (fun r x => r ++ [if chkF x then x else fallback]) acc = acc ++ l.map fun x => if chkF x then x else fallback := by
    intro l
    induction l with
    | nil => simp
    | cons a l ih => intro acc; rw [List.foldl_cons, ih]; simp
  refine Ex_forF xs dS (fun r x => r ++ [if chkF x then x else fallback]) [] (fun r vs cs => cs = [] ∧ ∃ a, vs = [some (dL (xs.map pS)), some (.own (r.map pS)), a])
    rfl (Itb_list (by walk_at "m_go")) (by simp) (fun i y hy => getD_map pS xs i y hy) ⟨rfl, _, rfl⟩ ?_ ?_
  · rintro i x vs cs hq ⟨rfl, a0, rfl⟩
    have hr : ((xs.take i).foldl (fun r x => r ++ [if chkF x then x else fallback]) []).length ≤ 1000 := by
      rw [hfold, List.nil_append, List.length_map, List.length_take]; omega
    generalize (xs.take i).foldl (fun r x => r ++ [if chkF x then x else fallback]) [] = r at hr
    have hxl := hx x (List.mem_of_getElem? hq)
    refine ⟨_, _, Asg_name 2 hf l2, ?_⟩
    dsimp only [List.set]
    refine' Ex_if (c := !chkF x) (Tr_not (Tr_val (Ev_fn 4 3 hG hf (EvL_cons ?_ EvL_nil) (cl_check hG x hxl) (by decide)) OpT_bool)) ?_ ?_
    · walk_at "m_go"
    · intro h1
      dsimp only [List.append, List.cons_append, List.nil_append]
      walk_at "s_as"
      refine Ex_expr (EvS_append 1 hf l1 rfl (d := pS fallback) (by walk_at "m_go") (by simp; omega)) (Ex_nil ⟨rfl, some (dS fallback), ?_⟩) hf nr_none
      dsimp only [List.set]
      rw [if_neg (by simpa using h1), List.map_append]; rfl
    · intro h1
      dsimp only [List.append, List.cons_append, List.nil_append]
      refine Ex_expr (EvS_append 1 hf l1 rfl (d := pS x) (by walk_at "m_go") (by simp; omega)) (Ex_nil ⟨rfl, some (dS x), ?_⟩) hf nr_none
      dsimp only [List.set]
      rw [if_pos (by simpa using h1), List.map_append]; rfl
  · rintro vs cs ⟨rfl, a0, rfl⟩
    rw [hfold, List.nil_append]
    refine Ex_freeze l1 rfl ?_
    dsimp only [List.set]
    refine Ex_ret (by walk_at "m_go") (.inl ?_)
    rw [List.map_map]; rfl
end
end Mine
end
section
set_option Elab.async false
set_option linter.unusedVariables false
set_option maxRecDepth 100000
namespace Mine
section
variable {prog : Program} {w : World} {Λ : Glo} {F : FS} {n : Nat} {vs cs : List (Option AV)}
theorem pair_wp {k v : Expr} {x : List Nat} {d : PyData} {pos : Pos} (hk : Ev prog w Λ F n vs cs k (dS x)) (hv : Ev prog w Λ F n vs cs v (.dat d)) {A : Around} {env : Env} {G : PH} {s : Shared} {E : Value → Shared → Prop} {rest : List (Sem Value × Sem Value)} {Q : List (Value × Value) → Shared → Prop}
    (hr : Rm n A) (he : EnvOk F env) (hV : V Λ F env G vs cs s)
    (h : ∀ t u s' G', Grow s s' → Gx s G G' s' → V Λ F env G' vs cs s' → Rep G' u d → wpAny (model prog w) A (evalPairs rest) (fun r s'' => Q ((.str (S x) t, u) :: r) s'') E s') :
    wpAny (model prog w) A (evalPairs ((eval k env, do let z ← eval v env; standAt pos; pure z) :: rest)) Q E s :=
  evalPairs_cons (hk.seq hr he hV fun kv s1 G1 g1 x1 V1 o1 => by
    obtain ⟨t, rfl⟩ := Rep.inv_str o1
    refine wpAny_bind (hv.seq hr he V1 fun u s2 G2 g2 x2 V2 o2 => wpAny_bind (wpAny_standAt (wpAny_pure ?_)))
    exact h t u s2 G2 (g1.trans g2) (x1.trans g1 x2) V2 o2)
theorem strIs (x : Str) (t : Tok) : (strKind prog w).is x (.str x t) = true := by
  show Value.isStrOf x (.str x t) = true
  simp [Value.isStrOf]
/-- an item of a written dict of four signs -/
theorem Ev_dict4 {k1 k2 k3 k4 v1 v2 v3 v4 slice : Expr} {p pos : Pos} {d1 d2 d3 d4 d : PyData} {y : List Nat}
    (a1 : Ev prog w Λ F n vs cs k1 (dS [61])) (a2 : Ev prog w Λ F n vs cs k2 (dS [35])) (a3 : Ev prog w Λ F n vs cs k3 (dS [33])) (a4 : Ev prog w Λ F n vs cs k4 (dS [92]))
    (b1 : Ev prog w Λ F n vs cs v1 (.dat d1)) (b2 : Ev prog w Λ F n vs cs v2 (.dat d2)) (b3 : Ev prog w Λ F n vs cs v3 (.dat d3)) (b4 : Ev prog w Λ F n vs cs v4 (.dat d4))
    (hs : Ev prog w Λ F n vs cs slice (dS y)) (hy : (y = [61] ∧ d = d1) ∨ (y = [35] ∧ d = d2) ∨ (y = [33] ∧ d = d3) ∨ (y = [92] ∧ d = d4))
    (hsub : ∀ o i, subscripted slice false o i = operate [o, i] (getItem o i) := by intro _ _; with_unfolding_all rfl) :
    Ev prog w Λ F n vs cs (.Subscript (.Dict [some k1, some k2, some k3, some k4] [v1, v2, v3, v4] p) slice pos) (.dat d) := ⟨fun A env G s E hr he hV => by
  refine Subscript_ (wpAny_Dict_pairs (knd := strKind prog w) (pairs := [(eval k1 env, do let z ← eval v1 env; standAt p; pure z), (eval k2 env, do let z ← eval v2 env; standAt p; pure z), (eval k3 env, do let z ← eval v3 env; standAt p; pure z), (eval k4 env, do let z ← eval v4 env; standAt p; pure z)]) rfl (by simp) (by simp) ?_)
  have g0 : Grow s { s with heap := s.heap.push { cls := .type "dict", data := .dict #[] } } := .push
  have x0 : Gx s G G { s with heap := s.heap.push { cls := .type "dict", data := .dict #[] } } := .refl hV.data g0
  have V0 := hV.grow g0 x0
  have hD := Heap.get?_push_size s.heap (o := { cls := .type "dict", data := .dict #[] }) rfl
  generalize hs0 : ({ s with heap := s.heap.push { cls := .type "dict", data := .dict #[] } } : Shared) = s0 at *
  have hD : s0.heap.get? s.heap.objs.size = some { cls := .type "dict", data := .dict #[] } := by rw [← hs0]; exact hD
  refine pair_wp a1 b1 hr he V0 fun t1 u1 s1 G1 g1 x1 V1 r1 => ?_
  refine pair_wp a2 b2 hr he V1 fun t2 u2 s2 G2 g2 x2 V2 r2 => ?_
  refine pair_wp a3 b3 hr he V2 fun t3 u3 s3 G3 g3 x3 V3 r3 => ?_
  refine pair_wp a4 b4 hr he V3 fun t4 u4 s4 G4 g4 x4 V4 r4 => evalPairs_nil ?_
  have gg := (((g1.trans g2).trans g3).trans g4)
  have xx := ((x1.trans g1 x2).trans (g1.trans g2) x3).trans ((g1.trans g2).trans g3) x4
  have r3 := r3.mono x4.le
  have r2 := (r2.mono x3.le).mono x4.le
  have r1 := ((r1.mono x2.le).mono x3.le).mono x4.le
  refine ⟨[(S [61], u1), (S [35], u2), (S [33], u3), (S [92], u4)], ⟨strIs _ _, rfl, strIs _ _, rfl, strIs _ _, rfl, strIs _ _, rfl, trivial⟩, ⟨_, #[], _, gg.keep _ _ hD, ⟨rfl, rfl, rfl⟩, rfl, (by intro e he; simp at he), .nil, by simp⟩, fun h' hm hsb => ?_⟩
  have hn0 : s.heap.get? s.heap.objs.size = none := get?_size _
  have hG4 : G4 s.heap.objs.size = none := by
    cases hq : G4 s.heap.objs.size with
    | none => rfl
    | some o =>
      rcases xx.new _ o hq with e | e
      · rw [hV.data _ o e] at hn0; cases hn0
      · rw [hD] at e; cases e
  have g5 : ∀ tk, Grow s { s4 with heap := h', toks := tk } := fun tk => ⟨fun b o e => hsb.extBut b o (ne_of_get e (hn0)) ((g0.trans gg).keep b o e), (g0.trans gg).gens, (g0.trans gg).bare, (g0.trans gg).os⟩
  have x5 : ∀ tk, Gx s G G4 { s4 with heap := h', toks := tk } := fun tk => ⟨xx.le, fun b o e => hsb.extBut b o (ne_of_get e (hG4)) (xx.sub b o e), fun b o e => (xx.new b o e).imp id fun e' => none_old g0 e'⟩
  have V5 := hV.grow (g5 (s4.toks + 4)) (x5 (s4.toks + 4))
  refine hs.seq hr he V5 fun v s6 G6 g6 x6 V6 o6 => ?_
  obtain ⟨t, rfl⟩ := Rep.inv_str o6
  have key : ∃ u, valueAt (merged [] [(S [61], u1), (S [35], u2), (S [33], u3), (S [92], u4)]) (S y) = some u ∧ Rep G4 u d := by
    have n1 : S [61] ≠ S [35] := by decide
    have n2 : S [61] ≠ S [33] := by decide
    have n3 : S [61] ≠ S [92] := by decide
    have n4 : S [35] ≠ S [33] := by decide
    have n5 : S [35] ≠ S [92] := by decide
    have n6 : S [33] ≠ S [92] := by decide
    have e : merged [] [(S [61], u1), (S [35], u2), (S [33], u3), (S [92], u4)] = [(S [61], u1), (S [35], u2), (S [33], u3), (S [92], u4)] := by
      simp [merged, stored]
    rw [e]
    rcases hy with ⟨rfl, rfl⟩ | ⟨rfl, rfl⟩ | ⟨rfl, rfl⟩ | ⟨rfl, rfl⟩
    · exact ⟨u1, by simp [valueAt], r1⟩
    · exact ⟨u2, by simp [valueAt], r2⟩
    · exact ⟨u3, by simp [valueAt], r3⟩
    · exact ⟨u4, by simp [valueAt], r4⟩
  obtain ⟨u, hu, hR⟩ := key
  have hm6 : s6.heap.MapOf (strKind prog w) s.heap.objs.size (valueAt (merged [] [(S [61], u1), (S [35], u2), (S [33], u3), (S [92], u4)])) := by
    obtain ⟨o, es, ep, ho, r⟩ := hm.mapOf
    exact ⟨o, es, ep, g6.keep _ o ho, r⟩
  refine tail_any hm6.typeIs slot_dict_getitem.lookup ?_ (hsub _ _)
  refine wpAny_getItem_of (knd := strKind prog w) (k := S y) (strIs _ _) hm6 hu ?_
  have g7 : Grow s6 { s6 with toks := s6.toks + 1 } := .tok
  exact ⟨((g5 _).trans g6).trans g7, G6, ((x5 _).trans (g5 _) x6).after g7, hR.mono x6.le⟩⟩
end
end Mine
end
section
set_option Elab.async false
set_option linter.unusedVariables false
set_option maxRecDepth 100000
set_option maxHeartbeats 4000000
namespace Mine
/-- the law's depths -/
noncomputable def depthStep (d : Int) (c : List Nat) : Int := (d + if (c == [40]) = true then (1 : Int) else 0) - if (c == [41]) = true then (1 : Int) else 0
noncomputable def depthsF (ps : List (List Nat)) : List Int := ps.foldl (fun ds c => ds ++ [depthStep (ds.getLastD 0) c]) [0]
noncomputable def placesF (ps : List (List Nat)) : List Int := (ps.foldl (fun (s : Int × List Int) c => (s.1 + c.length, s.2 ++ [s.1 + c.length])) (-1, [])).2
theorem depths_len (ps : List (List Nat)) : ∀ (acc : List Int), acc ≠ [] → (ps.foldl (fun ds c => ds ++ [depthStep (ds.getLastD 0) c]) acc).length = acc.length + ps.length ∧ ps.foldl (fun ds c => ds ++ [depthStep (ds.getLastD 0) c]) acc ≠ [] := by
  induction ps with
  | nil => intro acc h; exact ⟨rfl, h⟩
  | cons c ps ih =>
    intro acc h
    have := ih (acc ++ [depthStep (acc.getLastD 0) c]) (by simp)
    rw [List.foldl_cons]
    exact ⟨by rw [this.1]; simp; omega, this.2⟩
theorem places_len (ps : List (List Nat)) : ∀ (s : Int × List Int), (ps.foldl (fun (s : Int × List Int) c => (s.1 + c.length, s.2 ++ [s.1 + c.length])) s).2.length = s.2.length + ps.length := by
  induction ps with
  | nil => intro s; rfl
  | cons c ps ih => intro s; rw [List.foldl_cons, ih]; simp; omega
section
variable {w : World} {Λ : Glo}
theorem last_ne {α : Type} {l : List α} (h : l ≠ []) (d : α) : l.getLast? = some (l.getLastD d) := by
  rcases List.eq_nil_or_concat l with rfl | ⟨r, x, rfl⟩
  · exact absurd rfl h
  · simp
theorem op_divN {n : Nat} {a : Nat} {j : Int} (b : Nat) (h0 : 0 < b) (hb : b < 1073741824) (hj : j = (b : Int) := by rfl) : Op2 pr w Λ n (binaryOp .FloorDiv) (dI a) (dI j) (dI (a / b : Nat)) := by
  subst hj
  have : ((a / b : Nat) : Int) = (a : Int).fdiv (b : Int) := by rw [Int.fdiv_eq_ediv_of_nonneg _ (by omega)]; rfl
  rw [this]
  exact op_div (by omega) (PyProof.noPylong_small (by omega))
theorem op_modN {n : Nat} {a : Nat} {j : Int} (b : Nat) (h0 : 0 < b) (hj : j = (b : Int) := by rfl) : Op2 pr w Λ n (binaryOp .Mod) (dI a) (dI j) (dI (a % b : Nat)) := by
  subst hj
  have : ((a % b : Nat) : Int) = (a : Int).fmod (b : Int) := by rw [Int.fmod_eq_emod_of_nonneg _ (by omega)]; rfl
  rw [this]
  exact op_mod (by omega)
theorem op_mulN {n : Nat} {a : Nat} {j : Int} (b : Nat) (hb : Builtin.Int.intBits (b : Int) ≤ 64) (hj : j = (b : Int) := by rfl) : Op2 pr w Λ n (binaryOp .Mult) (dI a) (dI j) (dI (a * b : Nat)) := by
  subst hj
  have : ((a * b : Nat) : Int) = (a : Int) * (b : Int) := Int.natCast_mul a b
  rw [this]
  exact op_mul (IntMulOk.of_right hb)
theorem cl_depths (hG : Gd Λ) (ps : List (List Nat)) (hl : ps.length ≤ 1000) (hp : ∀ p ∈ ps, p.length ≤ 1000) : Cl w Λ 51 1 [dL (ps.map pS)] (dL ((depthsF ps).map pI)) := by
  obtain ⟨hf, hdb, l0, l1, l2⟩ := lk_law_depths
  have hsl : 100000 ≤ sizeLine := by decide
  refine Cl_plain (F := F_law_depths) 2 0 hG hf rfl rfl (ps := [Str.ofString "pieces"]) rfl rfl rfl (by walk_at "s_c0") (by walk_at "s_b1") ?_
  show Ex _ _ _ _ _ [some (dL (ps.map pS)), none, none] [] _ _
  refine Ex_own 1 hf l1 (ds := [pI 0]) (EvL_cons (by walk_at "m_go") EvL_nil) ?_ (by decide)
  dsimp only [List.set]
  refine Ex_forF ps dS (fun ds c => ds ++ [depthStep (ds.getLastD 0) c]) [0] (fun ds vs cs => cs = [] ∧ ∃ a, vs = [some (dL (ps.map pS)), some (.own (ds.map pI)), a])
    rfl (Itb_list (by walk_at "m_go")) (by simp) (fun i y hy => getD_map pS ps i y hy) ⟨rfl, _, rfl⟩ ?_ ?_
  · rintro i c vs cs hq ⟨rfl, a0, rfl⟩
    obtain ⟨q1, q2⟩ := depths_len (ps.take i) [0] (by simp)
    rw [List.length_take] at q1
    generalize (ps.take i).foldl (fun ds c => ds ++ [depthStep (ds.getLastD 0) c]) [0] = ds at q1 q2
    have q3 : ds.length ≤ 1001 := by simp at q1; omega
    refine ⟨_, _, Asg_name 2 hf l2, ?_⟩
    dsimp only [List.set]
    refine Ex_expr (EvS_append 1 hf l1 rfl (d := pI (depthStep (ds.getLastD 0) c)) (Ev_look l1 rfl rfl ?_) (by simp; omega)) (Ex_nil ⟨rfl, some (dS c), ?_⟩) hf nr_none
    · dsimp only [List.set]
      refine' Ev_BinOp (Ev_BinOp (Ev_lastL (d := pI (ds.getLastD 0)) ?_ ?_ ?_) (Ev_cmp ?_ ?_ op_eqS) op_addb) (Ev_cmp ?_ ?_ op_eqS) op_subb
      all_goals try walk_at "m_go"
      · simp; omega
      · rw [List.getLast?_map, last_ne q2 0]; rfl
    · dsimp only [List.set]
      rw [List.map_append]; rfl
  · rintro vs cs ⟨rfl, a0, rfl⟩
    refine Ex_freeze l1 rfl ?_
    dsimp only [List.set]
    exact Ex_ret (by walk_at "m_go") (.inl rfl)
theorem cl_places (hG : Gd Λ) (ps : List (List Nat)) (hl : ps.length ≤ 1000) (hp : ∀ p ∈ ps, p.length ≤ 1000) : Cl w Λ 53 1 [dL (ps.map pS)] (dL ((placesF ps).map pI)) := by
  obtain ⟨hf, hdb, l0, l1, l2, l3⟩ := lk_law_places
  have hsl : 100000 ≤ sizeLine := by decide
  refine Cl_plain (F := F_law_places) 3 0 hG hf rfl rfl (ps := [Str.ofString "pieces"]) rfl rfl rfl (by walk_at "s_c0") (by walk_at "s_b1") ?_
  show Ex _ _ _ _ _ [some (dL (ps.map pS)), none, none, none] [] _ _
  refine Ex_own 1 hf l1 (ds := []) EvL_nil ?_ (by decide)
  dsimp only [List.set]
  walk_at "s_as"
  refine Ex_forF ps dS (fun (s : Int × List Int) c => (s.1 + c.length, s.2 ++ [s.1 + c.length])) (-1, []) (fun s vs cs => cs = [] ∧ ∃ a, vs = [some (dL (ps.map pS)), some (.own (s.2.map pI)), some (dI s.1), a])
    rfl (Itb_list (by walk_at "m_go")) (by simp) (fun i y hy => getD_map pS ps i y hy) ⟨rfl, _, rfl⟩ ?_ ?_
  · rintro i c vs cs hq ⟨rfl, a0, rfl⟩
    have q1 := places_len (ps.take i) (-1, [])
    rw [List.length_take] at q1
    generalize (ps.take i).foldl _ (-1, []) = s at q1
    have hc := hp c (List.mem_of_getElem? hq)
    refine ⟨_, _, Asg_name 3 hf l3, ?_⟩
    dsimp only [List.set]
    walk_at "s_aug"
    · omega
    refine Ex_expr (EvS_append 1 hf l1 rfl (d := pI (s.1 + c.length)) (by walk_at "m_go") (by simp at q1 ⊢; omega)) (Ex_nil ⟨rfl, some (dS c), ?_⟩) hf nr_none
    dsimp only [List.set]
    rw [List.map_append]; rfl
  · rintro vs cs ⟨rfl, a0, rfl⟩
    refine Ex_freeze l1 rfl ?_
    dsimp only [List.set]
    exact Ex_ret (by walk_at "m_go") (.inl rfl)

/-! the law's own cutting into pieces -/
/-- from place p on: pieces -/
noncomputable def cutP : List Nat → List (List Nat)
  | [] => []
  | 92 :: c :: r => [92, c] :: cutP r
  | c :: r => [c] :: cutP r
noncomputable def marksF (ps : List (List Nat)) : Nat := ps.count [34] / 2 * 2
noncomputable def keepStep (m : Nat) (s : Nat × List (List Nat)) (c : List Nat) : Nat × List (List Nat) :=
  if c == [34] && decide (s.1 < m) then (s.1 + 1, s.2) else if s.1 % 2 == 0 then (s.1, s.2 ++ [c]) else s
noncomputable def piecesF (x : List Nat) : List (List Nat) := ((cutP x).foldl (keepStep (marksF (cutP x))) (0, [])).2
theorem keep_len (m : Nat) (ps : List (List Nat)) : ∀ s : Nat × List (List Nat), (ps.foldl (keepStep m) s).2.length ≤ s.2.length + ps.length ∧ (ps.foldl (keepStep m) s).1 ≤ s.1 + ps.length := by
  induction ps with
  | nil => intro s; simp
  | cons c ps ih =>
    intro s
    rw [List.foldl_cons]
    have := ih (keepStep m s c)
    have h : (keepStep m s c).2.length ≤ s.2.length + 1 ∧ (keepStep m s c).1 ≤ s.1 + 1 := by
      unfold keepStep
      split
      · simp
      · split <;> simp
    simp only [List.length_cons]; omega
theorem cutP_len : ∀ x, (cutP x).length ≤ x.length
  | [] => Nat.le_refl _
  | [c] => by unfold cutP; split <;> simp_all [cutP]
  | c :: d :: r => by
    by_cases hc : c = 92
    · subst hc; have := cutP_len r; simp only [cutP, List.length_cons]; omega
    · have := cutP_len (d :: r)
      rw [cutP]
      · simp only [List.length_cons] at this ⊢; omega
      · intro c' r' h; exact absurd h hc
theorem cutP_bs (c : Nat) (r : List Nat) : cutP (92 :: c :: r) = [92, c] :: cutP r := by rw [cutP]
theorem cutP_end (c : Nat) : cutP [c] = [[c]] := by unfold cutP; split <;> simp_all [cutP]
theorem cutP_one (c : Nat) (r : List Nat) (h : c ≠ 92 ∨ r = []) : cutP (c :: r) = [c] :: cutP r := by
  rcases h with h | rfl
  · cases r with
    | nil => rw [cutP_end]; rfl
    | cons d r => rw [cutP]; intro c' r' h'; exact absurd h' h
  · rw [cutP_end]; rfl
theorem cl_pieces (hG : Gd Λ) (x : List Nat) (hx : x.length ≤ 1000) : Cl w Λ 50 1 [dS x] (dL ((piecesF x).map pS)) := by
  obtain ⟨hf, hdb, l0, l1, l2, l3, l4, l5, l6⟩ := lk_law_pieces
  have hsl : 100000 ≤ sizeLine := by decide
  refine Cl_plain (F := F_law_pieces) 6 0 hG hf rfl rfl (ps := [Str.ofString "line"]) rfl rfl rfl (by walk_at "s_c0") (by walk_at "s_b1") ?_
  show Ex _ _ _ _ _ [some (dS x), none, none, none, none, none, none] [] _ _
  refine Ex_own 1 hf l1 (ds := []) EvL_nil ?_ (by decide)
  dsimp only [List.set]
  walk_at "s_as"
  refine Ex_while (fun k vs cs => cs = [] ∧ ∃ (a : Nat) (ps : List (List Nat)), k = x.length - a ∧ a ≤ x.length ∧ cutP x = ps ++ cutP (x.drop a) ∧ ps.length ≤ a ∧ vs = [some (dS x), some (.own (ps.map pS)), some (dI a), none, none, none, none])
    (fun vs cs => cs = [] ∧ vs = [some (dS x), some (.own ((cutP x).map pS)), some (dI x.length), none, none, none, none]) x.length ⟨rfl, 0, [], by simp, by simp, by simp, by simp, rfl⟩ ?_ ?_
  · rintro k vs cs ⟨rfl, a, ps, rfl, ha, hcut, hpl, rfl⟩
    refine ⟨decide ((a : Int) < (x.length : Int)), ?_, ?_, ?_⟩
    · refine' Tr_cmp (b := dI x.length) ?_ ?_ op_lt
      all_goals try walk_at "m_go"
      omega
    · intro hlt
      have hlt : a < x.length := by simpa using hlt
      obtain ⟨c, hc⟩ : ∃ c, x[a]? = some c := ⟨_, List.getElem?_eq_getElem hlt⟩
      have hd : x.drop a = c :: x.drop (a + 1) := by
        rw [List.drop_eq_getElem_cons hlt]
        congr 1
        exact (List.getElem?_eq_some_iff.mp hc).2
      -- the piece taken
      have hp : ∃ p : List Nat, (if c = 92 then (x.take (a + 2)).drop a else [c]) = p ∧ cutP (x.drop a) = p :: cutP (x.drop (a + p.length)) ∧ 1 ≤ p.length ∧ p.length ≤ 2 ∧ a + p.length ≤ x.length := by
        by_cases h92 : c = 92
        · subst h92
          rw [if_pos rfl]
          cases hr : x.drop (a + 1) with
          | nil =>
            have hxl : x.length = a + 1 := by
              have := congrArg List.length hr
              simp at this; omega
            refine ⟨[92], ?_, ?_, by simp, by simp, by simp; omega⟩
            · rw [List.take_of_length_le (by omega), hd, hr]
            · rw [hd, hr, cutP_one 92 [] (.inr rfl), List.drop_eq_nil_of_le (by simp; omega)]
          | cons d r =>
            have hxl : a + 2 ≤ x.length := by
              have := congrArg List.length hr
              simp at this; omega
            refine ⟨[92, d], ?_, ?_, by simp, by simp, by simp; omega⟩
            · rw [List.drop_take, hd, hr]
              have : a + 2 - a = 2 := by omega
              rw [this]; rfl
            · rw [hd, hr, cutP_bs]
              congr 2
              have := congrArg List.tail hr
              rw [List.tail_drop] at this
              simpa using this.symm
        · rw [if_neg h92]
          refine ⟨[c], rfl, ?_, by simp, by simp, by simp; omega⟩
          rw [hd, cutP_one c _ (.inl h92)]; rfl
      obtain ⟨p, hp1, hp2, hp3, hp4, hp5⟩ := hp
      refine' Ex_expr (EvS_append 1 hf l1 rfl (d := pS p) (Ev_ite (c := c == 92) (Tr_cmp (Ev_itemS (c := c) (j := a) ?_ ?_ ?_ ?_ ?_ hc) ?_ ?_) ?_ ?_) (by simp; omega)) ?_ hf nr_none
      all_goals try walk_at "m_go"
      · omega
      · omega
      · rw [StrLaws.seqIndex_nonneg (by omega) (by omega)]; rfl
      · have : (c == 92) = ([c] == [92]) := by by_cases h : c = 92 <;> simp [h]
        rw [this]; exact op_eqS
      · intro h
        have h92 : c = 92 := by simpa using h
        rw [if_pos h92] at hp1
        rw [← hp1]
        refine Ev_midS a (a + 2) ?_ ?_ ?_ (by omega)
        all_goals try walk_at "m_go"
      · intro h
        have h92 : c ≠ 92 := by simpa using h
        rw [if_neg h92] at hp1
        rw [← hp1]
        exact Ev_itemS (j := a) (by walk_at "m_go") (by walk_at "m_go") (by omega) (by omega) (by rw [StrLaws.seqIndex_nonneg (by omega) (by omega)]; rfl) hc
      dsimp only [List.set]
      refine Ex_aug 2 hf l2 rfl rfl (b := dI p.length) (Ev_look l1 rfl rfl ?_) op_iadd ?_
      · dsimp only [List.set]
        refine Ev_callB (by walk_at "m_go") (EvL_cons (Ev_lastL (d := pS p) (by walk_at "m_go") (by simp; omega) (by simp)) EvL_nil) (op_lenS (by omega))
      · dsimp only [List.set]
        refine Ex_nil ⟨x.length - (a + p.length), by omega, rfl, a + p.length, ps ++ [p], rfl, hp5, ?_, by simp; omega, ?_⟩
        · rw [hcut, hp2]; simp
        · rw [List.map_append]; simp
    · intro hlt
      have hlt : ¬ a < x.length := by simpa using hlt
      have ha' : a = x.length := by omega
      subst ha'
      rw [List.drop_length] at hcut
      have : cutP x = ps := by rw [hcut]; simp [cutP]
      exact ⟨rfl, by rw [this]⟩
  · rintro vs cs ⟨rfl, rfl⟩
    have hcl := cutP_len x
    have hkl := fun i => keep_len (marksF (cutP x)) ((cutP x).take i) (0, [])
    generalize hps : cutP x = ps at hcl hkl
    have hpf : piecesF x = (ps.foldl (keepStep (marksF ps)) (0, [])).2 := by unfold piecesF; rw [hps]
    rw [hpf]
    refine Ex_assign 3 hf l3 (av := dI (marksF ps)) ?_ ?_
    · have hcnt := List.count_le_length (a := ([34] : List Nat)) (l := ps)
      refine' Ev_BinOp (Ev_BinOp (Ev_countO (ts := ps) (y := [34]) 1 hf l1 rfl ?_) ?_ (op_divN 2 (by decide) (by decide))) ?_ (op_mulN 2 (by decide +kernel))
      all_goals try walk_at "m_go"
    dsimp only [List.set]
    refine Ex_own 4 hf l4 (ds := []) EvL_nil ?_ (by decide)
    dsimp only [List.set]
    walk_at "s_as"
    refine Ex_freeze l1 rfl ?_
    dsimp only [List.set]
    refine Ex_forF ps dS (keepStep (marksF ps)) (0, []) (fun s vs cs => cs = [] ∧ ∃ a, vs = [some (dS x), some (dL (ps.map pS)), some (dI x.length), some (dI (marksF ps)), some (.own (s.2.map pS)), some (dI s.1), a])
      rfl (Itb_list (by walk_at "m_go")) (by simp) (fun i y hy => getD_map pS ps i y hy) ⟨rfl, _, rfl⟩ ?_ ?_
    · rintro i c vs cs hq ⟨rfl, a0, rfl⟩
      obtain ⟨k1, k2⟩ := hkl i
      rw [List.length_take] at k1 k2
      generalize (ps.take i).foldl (keepStep (marksF ps)) (0, []) = s at k1 k2
      refine ⟨_, _, Asg_name 6 hf l6, ?_⟩
      dsimp only [List.set]
      walk_at "s_if"
      · intro h1
        walk_at "s_aug"
        refine Ex_nil ⟨rfl, some (dS c), ?_⟩
        have : keepStep (marksF ps) s c = (s.1 + 1, s.2) := by unfold keepStep; rw [if_pos (by simpa using h1)]
        rw [this]; rfl
      · intro h1
        refine' Ex_if (c := (((s.1 % 2 : Nat) : Int) == 0)) (Tr_cmp (Ev_BinOp ?_ ?_ (op_modN 2 (by decide))) ?_ op_eq) ?_ ?_
        all_goals try walk_at "m_go"
        · intro h2
          refine Ex_expr (EvS_append 4 hf l4 rfl (d := pS c) (by walk_at "m_go") (by simp at k1 ⊢; omega)) (Ex_nil ⟨rfl, some (dS c), ?_⟩) hf nr_none
          dsimp only [List.set]
          have : keepStep (marksF ps) s c = (s.1, s.2 ++ [c]) := by
            unfold keepStep; rw [if_neg (by simpa using h1), if_pos (by simp at h2 ⊢; omega)]
          rw [this]; simp
        · intro h2
          refine Ex_nil ⟨rfl, some (dS c), ?_⟩
          have : keepStep (marksF ps) s c = s := by
            unfold keepStep; rw [if_neg (by simpa using h1), if_neg (by simp at h2 ⊢; omega)]
          rw [this]
    · rintro vs cs ⟨rfl, a0, rfl⟩
      refine Ex_freeze l4 rfl ?_
      dsimp only [List.set]
      exact Ex_ret (by walk_at "m_go") (.inl rfl)
end
end Mine
end
section
set_option Elab.async false
set_option linter.unusedVariables false
set_option maxRecDepth 100000
set_option maxHeartbeats 4000000
namespace Mine
/-- one triple of rights, told -/
noncomputable def rowBits (r t : Nat) : Nat := r / 8 ^ (2 - t) % 8
noncomputable def rowExtra (r t : Nat) : Nat := r / 2 ^ (11 - t) % 2
noncomputable def rowTri (r t : Nat) : List Nat :=
  [[45, 114].getD (rowBits r t / 4) 0] ++ [[45, 119].getD (rowBits r t / 2 % 2) 0] ++ [(if rowExtra r t = 0 then [45, 120] else if t = 2 then [84, 116] else [83, 115]).getD (rowBits r t % 2) 0]
noncomputable def rowF (kind : List Nat) (r : Nat) : List Nat := kind ++ rowTri r 0 ++ rowTri r 1 ++ rowTri r 2
section
variable {w : World} {Λ : Glo}
theorem getD2 (l : List Nat) (a b j : Nat) (hl : l = [a, b]) (h : j < 2) : l[j]? = some (l.getD j 0) := by
  subst hl
  match j with
  | 0 => rfl
  | 1 => rfl
  | j + 2 => omega
theorem cl_row (hG : Gd Λ) (kind : List Nat) (r : Nat) (hk : kind.length ≤ 10) : Cl w Λ 52 1 [dS kind, dI r] (dS (rowF kind r)) := by
  obtain ⟨hf, hdb, l0, l1, l2, l3, l4, l5⟩ := lk_law_row
  have hsl : 100000 ≤ sizeLine := by decide
  refine Cl_plain (F := F_law_row) 4 0 hG hf rfl rfl (ps := [Str.ofString "kind", Str.ofString "rights"]) rfl rfl rfl (by walk_at "s_c0") (by walk_at "s_b2") ?_
  show Ex _ _ _ _ _ [some (dS kind), some (dI r), none, none, none, none] [] _ _
  walk_at "s_as"
  have tri3 : ∀ t, (rowTri r t).length = 3 := fun t => by simp [rowTri]
  refine Ex_forF [0, 1, 2] (fun (t : Nat) => dI t) (fun row t => row ++ rowTri r t) kind (fun row vs cs => cs = [] ∧ ∃ a b c, vs = [some (dS kind), some (dI r), some (dS row), a, b, c])
    rfl (Itb_range1 (m := 3) (by walk_at "m_go") (by walk_at "m_go") (by decide)) rfl ?_ ⟨rfl, _, _, _, rfl⟩ ?_ ?_
  · intro i t ht
    match i with
    | 0 => cases ht; rfl
    | 1 => cases ht; rfl
    | 2 => cases ht; rfl
    | i + 3 => cases ht
  · rintro i t vs cs hq ⟨rfl, a0, b0, c0, rfl⟩
    have ht : t < 3 := by
      match i with
      | 0 => cases hq; decide
      | 1 => cases hq; decide
      | 2 => cases hq; decide
      | i + 3 => cases hq
    have hrow : (([0, 1, 2].take i).foldl (fun row t => row ++ rowTri r t) kind).length ≤ 100 := by
      have key : ∀ (ts row : List Nat), (ts.foldl (fun row t => row ++ rowTri r t) row).length = row.length + ts.length * 3 := by
        intro ts
        induction ts with
        | nil => intro row; rfl
        | cons a ts ih => intro row; rw [List.foldl_cons, ih, List.length_append, tri3, List.length_cons, Nat.succ_mul, Nat.add_assoc, Nat.add_comm 3]
      rw [key]
      exact Nat.le_trans (Nat.add_le_add hk (Nat.mul_le_mul_right 3 (List.length_take_le' i _))) (by decide)
    generalize ([0, 1, 2].take i).foldl (fun row t => row ++ rowTri r t) kind = row at hrow
    refine ⟨_, _, Asg_name 3 hf l3, ?_⟩
    dsimp only [List.set]
    have p8 : (8 : Int) ^ ((2 : Int) - (t : Int)).toNat = ((8 ^ (2 - t) : Nat) : Int) := by
      have : ((2 : Int) - (t : Int)).toNat = 2 - t := Int.toNat_sub 2 t
      rw [this]; push_cast; rfl
    have p2 : (2 : Int) ^ ((11 : Int) - (t : Int)).toNat = ((2 ^ (11 - t) : Nat) : Int) := by
      have : ((11 : Int) - (t : Int)).toNat = 11 - t := Int.toNat_sub 11 t
      rw [this]; push_cast; rfl
    have b8 : 0 < 8 ^ (2 - t) ∧ 8 ^ (2 - t) < 1073741824 := (by decide : ∀ t < 3, 0 < 8 ^ (2 - t) ∧ 8 ^ (2 - t) < 1073741824) t ht
    have b2 : 0 < 2 ^ (11 - t) ∧ 2 ^ (11 - t) < 1073741824 := (by decide : ∀ t < 3, 0 < 2 ^ (11 - t) ∧ 2 ^ (11 - t) < 1073741824) t ht
    have hb : rowBits r t < 8 := Nat.mod_lt _ (by decide)
    have he : rowExtra r t < 2 := Nat.mod_lt _ (by decide)
    refine' Ex_assign 4 hf l4 (av := dI (rowBits r t)) (Ev_BinOp (Ev_BinOp ?_ (Ev_BinOp ?_ (Ev_BinOp ?_ ?_ op_sub) (op_pow ?_ ?_ ?_)) (op_divN (8 ^ (2 - t)) b8.1 b8.2 p8)) ?_ (op_modN 8 (by decide))) ?_
    all_goals try walk_at "m_go"
    · omega
    · omega
    · decide
    dsimp only [List.set]
    refine' Ex_assign 5 hf l5 (av := dI (rowExtra r t)) (Ev_BinOp (Ev_BinOp ?_ (Ev_BinOp ?_ (Ev_BinOp ?_ ?_ op_sub) (op_pow ?_ ?_ ?_)) (op_divN (2 ^ (11 - t)) b2.1 b2.2 p2)) ?_ (op_modN 2 (by decide))) ?_
    all_goals try walk_at "m_go"
    · omega
    · omega
    · decide
    dsimp only [List.set]
    refine' Ex_aug 2 hf l2 rfl rfl (b := dS ([[45, 114].getD (rowBits r t / 4) 0] ++ [[45, 119].getD (rowBits r t / 2 % 2) 0]))
      (Ev_BinOp (Ev_itemS (l := [45, 114]) (j := rowBits r t / 4) ?_ (Ev_BinOp ?_ ?_ (op_divN 4 (by decide) (by decide))) ?_ ?_ ?_ (getD2 _ _ _ _ rfl (by omega)))
        (Ev_itemS (l := [45, 119]) (j := rowBits r t / 2 % 2) ?_ (Ev_BinOp (Ev_BinOp ?_ ?_ (op_divN 2 (by decide) (by decide))) ?_ (op_modN 2 (by decide))) ?_ ?_ ?_ (getD2 _ _ _ _ rfl (by omega))) (op_cat ?_)) (op_icat ?_) ?_
    all_goals try walk_at "m_go"
    · omega
    · omega
    · rw [StrLaws.seqIndex_nonneg (by omega) (by simp; omega)]; rfl
    · omega
    · omega
    · rw [StrLaws.seqIndex_nonneg (by omega) (by simp; omega)]; rfl
    · simp; omega
    · simp; omega
    dsimp only [List.set]
    refine' Ex_aug 2 hf l2 rfl rfl (b := dS [(if rowExtra r t = 0 then [45, 120] else if t = 2 then [84, 116] else [83, 115]).getD (rowBits r t % 2) 0])
      (Ev_itemS (l := if rowExtra r t = 0 then [45, 120] else if t = 2 then [84, 116] else [83, 115]) (j := rowBits r t % 2)
        (Ev_itemT (l := [pS [45, 120], pS (if t = 2 then [84, 116] else [83, 115])]) (j := rowExtra r t) (Ev_tuple (ds := [pS [45, 120], pS (if t = 2 then [84, 116] else [83, 115])]) (EvL_cons ?_ (EvL_cons (Ev_ite (c := ((t : Int) == 2)) (Tr_cmp ?_ ?_ op_eq) ?_ ?_) EvL_nil)) (Nat.le_trans (Nat.le_refl 2) (by decide))) ?_ ?_ ?_ ?_ ?_)
        (Ev_BinOp ?_ ?_ (op_modN 2 (by decide))) ?_ ?_ ?_ ?_) (op_icat ?_) ?_
    all_goals try walk_at "m_go"
    · intro h
      rw [if_pos (by simp at h; omega)]; walk_at "m_go"
    · intro h
      rw [if_neg (by simp at h; omega)]; walk_at "m_go"
    · omega
    · omega
    · rw [StrLaws.seqIndex_nonneg (by omega) (by simp; omega)]; rfl
    · show _ = some (pS (if rowExtra r t = 0 then [45, 120] else if t = 2 then [84, 116] else [83, 115]))
      rcases (by omega : rowExtra r t = 0 ∨ rowExtra r t = 1) with h | h
      · rw [h]; rfl
      · rw [h]; rfl
    · omega
    · omega
    · have : (if rowExtra r t = 0 then [45, 120] else if t = 2 then [84, 116] else [83, 115]).length = 2 := by
        split
        · rfl
        · split <;> rfl
      rw [this, StrLaws.seqIndex_nonneg (by omega) (by simp; omega)]; rfl
    · split
      · exact getD2 _ _ _ _ rfl (by omega)
      · split
        · exact getD2 _ _ _ _ rfl (by omega)
        · exact getD2 _ _ _ _ rfl (by omega)
    · simp; omega
    dsimp only [List.set]
    refine Ex_nil ⟨rfl, some (dI t), some (dI (rowBits r t)), some (dI (rowExtra r t)), ?_⟩
    simp [rowTri]
  · rintro vs cs ⟨rfl, a0, b0, c0, rfl⟩
    exact Ex_ret (by walk_at "m_go") (.inl rfl)
end
end Mine
end
section
set_option Elab.async false
set_option linter.unusedVariables false
set_option maxRecDepth 100000
set_option maxHeartbeats 4000000
namespace Mine
noncomputable def isMk (c : List Nat) : Bool := [[61], [35], [33], [92]].any fun y => y == c
noncomputable def seenStep (ps : List (List Nat)) (ds : List Int) (s : Int × List (List Nat)) (k : Nat) : Int × List (List Nat) :=
  (min s.1 (ds.getD (k + 1) 0), if ds.getD (k + 1) 0 ≤ s.1 ∧ ps.getD k [] ≠ [41] then s.2 ++ [ps.getD k []] else s.2)
noncomputable def seenF (ps : List (List Nat)) (ds : List Int) (at_ : Nat) : List (List Nat) := ((List.range at_).reverse.foldl (seenStep ps ds) (ds.getD at_ 0, [])).2.reverse
noncomputable def madeF (ps : List (List Nat)) : List (Int × List Nat × List (List Nat)) :=
  ((List.range ps.length).filter fun k => isMk (ps.getD k [])).map fun k => ((placesF ps).getD k 0, ps.getD k [], seenF ps (depthsF ps) k)
noncomputable def mkD (m : Int × List Nat × List (List Nat)) : PyData := .tuple [pI m.1, pS m.2.1, .list (m.2.2.map pS)]
theorem any_mk (c : List Nat) : ([pS [61], pS [35], pS [33], pS [92]].any fun y => PyData.eqv y (pS c)) = isMk c := by
  simp only [List.any_cons, List.any_nil, isMk, PyData.eqv, S_beq]
theorem seen_len (ps : List (List Nat)) (ds : List Int) (ks : List Nat) : ∀ s, (ks.foldl (seenStep ps ds) s).2.length ≤ s.2.length + ks.length := by
  induction ks with
  | nil => intro s; simp
  | cons k ks ih =>
    intro s
    have := ih (seenStep ps ds s k)
    have h : (seenStep ps ds s k).2.length ≤ s.2.length + 1 := by
      unfold seenStep
      simp only []
      split <;> simp
    rw [List.foldl_cons, List.length_cons]; omega
/-- texts whose signs are signs -/
noncomputable def okS (l : List Nat) : Bool := l.all fun c => decide (c < 1114112)
theorem okS_lay {l : List Nat} (h : okS l = true) : PyData.canLay0 (pS l) = true := by
  simp only [PyData.canLay0, PyData.strOk]
  simpa [okS] using h
section
variable {w : World} {Λ : Glo}
theorem getD_get {α : Type} {l : List α} {k : Nat} (d : α) (h : k < l.length) : l[k]? = some (l.getD k d) := by
  rw [List.getElem?_eq_getElem h]; simp [List.getD, h]
theorem depthsF_len (ps : List (List Nat)) : (depthsF ps).length = ps.length + 1 := by
  have := (depths_len ps [0] (by simp)).1
  show (ps.foldl _ [0]).length = _
  rw [this]; simp; omega
theorem placesF_len (ps : List (List Nat)) : (placesF ps).length = ps.length := by
  have := places_len ps (-1, [])
  unfold placesF; simpa using this
theorem cl_made (hG : Gd Λ) (ps : List (List Nat)) (hl : ps.length ≤ 1000) (hp : ∀ p ∈ ps, p.length ≤ 1000 ∧ okS p = true) : Cl w Λ 54 2 [dL (ps.map pS)] (dL ((madeF ps).map mkD)) := by
  obtain ⟨hf, hdb, l0, l1, l2, l3, l4, l5, l6, l7⟩ := lk_law_made
  have hsl : 100000 ≤ sizeLine := by decide
  have hp1 : ∀ p ∈ ps, p.length ≤ 1000 := fun p h => (hp p h).1
  have hdl := depthsF_len ps
  have hpl := placesF_len ps
  refine Cl_plain (F := F_law_made) 7 0 hG hf rfl rfl (ps := [Str.ofString "pieces"]) rfl rfl rfl (by walk_at "s_c0") (by walk_at "s_b1") ?_
  show Ex _ _ _ _ _ [some (dL (ps.map pS)), none, none, none, none, none, none, none] [] _ _
  refine Ex_assign 1 hf l1 (Ev_fn 51 1 hG hf (EvL_cons (by walk_at "m_go") EvL_nil) (cl_depths hG ps hl hp1) (by decide)) ?_
  dsimp only [List.set]
  refine Ex_assign 2 hf l2 (Ev_fn 53 1 hG hf (EvL_cons (by walk_at "m_go") EvL_nil) (cl_places hG ps hl hp1) (by decide)) ?_
  dsimp only [List.set]
  refine Ex_own 3 hf l3 (ds := []) EvL_nil ?_ (by decide)
  dsimp only [List.set]
  have hmf : (madeF ps) = (List.range ps.length).foldl (fun m k => if isMk (ps.getD k []) then m ++ [((placesF ps).getD k 0, ps.getD k [], seenF ps (depthsF ps) k)] else m) [] := by
    have key : ∀ (ks : List Nat) (acc : List (Int × List Nat × List (List Nat))), ks.foldl (fun m k => if isMk (ps.getD k []) then m ++ [((placesF ps).getD k 0, ps.getD k [], seenF ps (depthsF ps) k)] else m) acc =
        acc ++ (ks.filter fun k => isMk (ps.getD k [])).map fun k => ((placesF ps).getD k 0, ps.getD k [], seenF ps (depthsF ps) k) := by
      intro ks
      induction ks with
      | nil => simp
      | cons k ks ih =>
        intro acc
        rw [List.foldl_cons, ih, List.filter_cons]
        split <;> simp
    rw [key]; rfl
  generalize hds : depthsF ps = ds at hdl hmf
  generalize hpc : placesF ps = pl at hpl hmf
  have hmlen : ∀ i, ((List.range ps.length).take i |>.foldl (fun m k => if isMk (ps.getD k []) then m ++ [(pl.getD k 0, ps.getD k [], seenF ps ds k)] else m) ([] : List (Int × List Nat × List (List Nat)))).length ≤ 1000 := fun i => by
    have key : ∀ (ks : List Nat) (acc : List (Int × List Nat × List (List Nat))), (ks.foldl (fun m k => if isMk (ps.getD k []) then m ++ [(pl.getD k 0, ps.getD k [], seenF ps ds k)] else m) acc).length ≤ acc.length + ks.length := by
      intro ks
      induction ks with
      | nil => simp
      | cons k ks ih =>
        intro acc
        rw [List.foldl_cons, List.length_cons]
        have := ih (if isMk (ps.getD k []) then acc ++ [(pl.getD k 0, ps.getD k [], seenF ps ds k)] else acc)
        have h : (if isMk (ps.getD k []) then acc ++ [(pl.getD k 0, ps.getD k [], seenF ps ds k)] else acc).length ≤ acc.length + 1 := by split <;> simp
        omega
    have := key ((List.range ps.length).take i) []
    rw [List.length_take, List.length_range] at this
    simp at this ⊢; omega
  refine Ex_forF (List.range ps.length) (fun k => dI k) (fun m k => if isMk (ps.getD k []) then m ++ [(pl.getD k 0, ps.getD k [], seenF ps ds k)] else m) []
    (fun m vs cs => cs = [] ∧ ∃ a b c d, (∀ l, b ≠ some (.own l)) ∧ vs = [some (dL (ps.map pS)), some (dL (ds.map pI)), some (dL (pl.map pI)), some (.own (m.map mkD)), a, b, c, d])
    rfl (Itb_range1 (m := ps.length) (by walk_at "m_go") ?_ (by omega)) (by simp) ?_ ⟨rfl, _, _, _, _, ?_, rfl⟩ ?_ ?_
  · refine (Ev_callB (by walk_at "m_go") (EvL_cons (by walk_at "m_go") EvL_nil) (op_lenL (l := ps.map pS) (by simp; omega))).eq ?_
    simp
  · intro i k hk
    have : k = i := by
      rw [List.getElem?_range] at hk
      · exact (Option.some.inj hk).symm
      · have := (List.getElem?_eq_some_iff.mp hk).1; simpa using this
    rw [this]
  · intro l h; cases h
  · rintro i k vs cs hq ⟨rfl, a0, b0, c0, d0, hb0, rfl⟩
    have hki : k = i ∧ i < ps.length := by
      have h1 := (List.getElem?_eq_some_iff.mp hq).1
      rw [List.length_range] at h1
      rw [List.getElem?_range h1] at hq
      exact ⟨(Option.some.inj hq).symm, h1⟩
    obtain ⟨rfl, hk⟩ := hki
    have hml := hmlen k
    generalize ((List.range ps.length).take k).foldl _ _ = m at hml
    refine ⟨_, _, Asg_name 4 hf l4, ?_⟩
    dsimp only [List.set]
    have hpk := hp _ (List.mem_of_getElem? (getD_get [] hk))
    have hgp : (ps.map pS)[((k : Nat) : Int).toNat]? = some (pS (ps.getD k [])) := by
      rw [Int.toNat_natCast, List.getElem?_map, getD_get [] hk]; rfl
    refine' Ex_if (c := isMk (ps.getD k [])) (Tr_cmp (Ev_itemL (d := pS (ps.getD k [])) ?_ ?_ ?_ ?_ hgp) (b := dT [pS [61], pS [35], pS [33], pS [92]]) ?_ ?_) ?_ ?_
    · walk_at "m_go"
    · walk_at "m_go"
    · omega
    · omega
    · exact Ev_tuple (ds := [pS [61], pS [35], pS [33], pS [92]]) (EvL_cons (by walk_at "m_go") (EvL_cons (by walk_at "m_go") (EvL_cons (by walk_at "m_go") (EvL_cons (by walk_at "m_go") EvL_nil)))) (Nat.le_trans (Nat.le_refl 4) (by decide))
    · rw [← any_mk]
      exact op_inT (okS_lay hpk.2) (by decide +kernel) (by simp [PyData.depth])
    · intro hmk
      dsimp only [List.append, List.cons_append, List.nil_append]
      refine Ex_own 5 hf l5 (ds := []) EvL_nil ?_ (by decide)
      dsimp only [List.set]
      have hgd : ∀ j : Nat, j ≤ ps.length → (ds.map pI)[((j : Nat) : Int).toNat]? = some (pI (ds.getD j 0)) := fun j hj => by
        rw [Int.toNat_natCast, List.getElem?_map, getD_get 0 (by omega)]; rfl
      refine Ex_assign 6 hf l6 (Ev_itemL (i := (k : Int)) (by walk_at "m_go") (by walk_at "m_go") (by omega) (by omega) (hgd k (by omega))) ?_
      dsimp only [List.set]
      refine Ex_forF (List.range k).reverse (fun j => dI j) (seenStep ps ds) (ds.getD k 0, [])
        (fun s vs cs => cs = [] ∧ ∃ d, vs = [some (dL (ps.map pS)), some (dL (ds.map pI)), some (dL (pl.map pI)), some (.own (m.map mkD)), some (dI k), some (.own (s.2.map pS)), some (dI s.1), d])
        rfl (Itb_rangeDown (m := k) (by walk_at "m_go") (by walk_at "m_go") (by walk_at "m_go") (by walk_at "m_go") (by omega)) (by simp) ?_ ⟨rfl, _, rfl⟩ ?_ ?_
      · intro i j hj
        have h1 := (List.getElem?_eq_some_iff.mp hj).1
        rw [List.length_reverse, List.length_range] at h1
        rw [List.getElem?_reverse (by simpa using h1), List.length_range, List.getElem?_range (by omega)] at hj
        have := Option.some.inj hj
        rw [← this]
        have : ((k - 1 - i : Nat) : Int) = (k : Int) - 1 - i := by omega
        rw [this]
      · rintro i j vs cs hj ⟨rfl, d1, rfl⟩
        have hjk : j < k := by
          have := List.mem_of_getElem? hj
          simpa using this
        have hsl2 := seen_len ps ds ((List.range k).reverse.take i) (ds.getD k 0, [])
        rw [List.length_take, List.length_reverse, List.length_range] at hsl2
        generalize ((List.range k).reverse.take i).foldl (seenStep ps ds) (ds.getD k 0, []) = s at hsl2
        have hs2 : s.2.length ≤ 1000 := by simp at hsl2; omega
        refine ⟨_, _, Asg_name 7 hf l7, ?_⟩
        dsimp only [List.set]
        have hgp2 : (ps.map pS)[((j : Nat) : Int).toNat]? = some (pS (ps.getD j [])) := by
          rw [Int.toNat_natCast, List.getElem?_map, getD_get [] (by omega)]; rfl
        have hgd2 : (ds.map pI)[((j : Int) + 1).toNat]? = some (pI (ds.getD (j + 1) 0)) := hgd (j + 1) (by omega)
        refine' Ex_if (c := decide (ds.getD (j + 1) 0 ≤ s.1) && (ps.getD j [] != [41] && true)) (Tr_andN (Tr_cmp (Ev_itemL (i := (j : Int) + 1) (d := pI (ds.getD (j + 1) 0)) ?_ (Ev_BinOp ?_ ?_ op_add) ?_ ?_ hgd2) ?_ op_le) fun _ => Tr_andN (Tr_cmp (Ev_itemL (i := (j : Int)) (d := pS (ps.getD j [])) ?_ ?_ ?_ ?_ hgp2) ?_ op_neS) fun _ => Tr_and0) ?_ ?_
        all_goals try walk_at "m_go"
        · omega
        · omega
        · omega
        · omega
        · intro hc
          refine Ex_expr (EvS_append 5 hf l5 rfl (d := pS (ps.getD j [])) (Ev_itemL (i := (j : Int)) (by walk_at "m_go") (by walk_at "m_go") (by omega) (by omega) hgp2) (by simp; omega)) ?_ hf nr_none
          dsimp only [List.set]
          refine Ex_assign 6 hf l6 (Ev_callB (by walk_at "m_go") (EvL_cons (by walk_at "m_go") (EvL_cons (Ev_itemL (i := (j : Int) + 1) (d := pI (ds.getD (j + 1) 0)) (by walk_at "m_go") (by walk_at "m_go") (by omega) (by omega) hgd2) EvL_nil)) op_min2) ?_
          dsimp only [List.set]
          refine Ex_nil ⟨rfl, some (dI j), ?_⟩
          have : seenStep ps ds s j = (min s.1 (ds.getD (j + 1) 0), s.2 ++ [ps.getD j []]) := by
            unfold seenStep; rw [if_pos (by simpa using hc)]
          rw [this]; simp
        · intro hc
          dsimp only [List.append, List.cons_append, List.nil_append]
          refine Ex_assign 6 hf l6 (Ev_callB (by walk_at "m_go") (EvL_cons (by walk_at "m_go") (EvL_cons (Ev_itemL (i := (j : Int) + 1) (d := pI (ds.getD (j + 1) 0)) (by walk_at "m_go") (by walk_at "m_go") (by omega) (by omega) hgd2) EvL_nil)) op_min2) ?_
          dsimp only [List.set]
          refine Ex_nil ⟨rfl, some (dI j), ?_⟩
          have : seenStep ps ds s j = (min s.1 (ds.getD (j + 1) 0), s.2) := by
            unfold seenStep; rw [if_neg (by simpa using hc)]
          rw [this]
      · rintro vs cs ⟨rfl, d1, rfl⟩
        have hsl2 := seen_len ps ds (List.range k).reverse (ds.getD k 0, [])
        rw [List.length_reverse, List.length_range] at hsl2
        have hsf : seenF ps ds k = (((List.range k).reverse).foldl (seenStep ps ds) (ds.getD k 0, [])).2.reverse := rfl
        generalize ((List.range k).reverse).foldl (seenStep ps ds) (ds.getD k 0, []) = s at hsl2 hsf
        refine Ex_freeze l5 rfl ?_
        dsimp only [List.set]
        have hgpl : (pl.map pI)[((k : Nat) : Int).toNat]? = some (pI (pl.getD k 0)) := by
          rw [Int.toNat_natCast, List.getElem?_map, getD_get 0 (by omega)]; rfl
        refine Ex_expr (EvS_append 3 hf l3 rfl (d := mkD (pl.getD k 0, ps.getD k [], seenF ps ds k)) (Ev_tuple (ds := [pI (pl.getD k 0), pS (ps.getD k []), .list ((seenF ps ds k).map pS)]) (EvL_cons ?_ (EvL_cons ?_ (EvL_cons ?_ EvL_nil))) (Nat.le_trans (Nat.le_refl 3) (by decide))) (by simp; omega)) (Ex_nil ⟨rfl, some (dI k), some (dL (s.2.map pS)), some (dI s.1), d1, (by intro l h; cases h), ?_⟩) hf nr_none
        · exact Ev_itemL (i := (k : Int)) (by walk_at "m_go") (by walk_at "m_go") (by omega) (by omega) hgpl
        · exact Ev_itemL (i := (k : Int)) (by walk_at "m_go") (by walk_at "m_go") (by omega) (by omega) hgp
        · rw [hsf, List.map_reverse]
          exact Ev_reverse (by walk_at "m_go") (Ev_un Ev_int op_neg) (by simp at hsl2 ⊢; omega)
        · dsimp only [List.set]
          rw [if_pos hmk, List.map_append]; rfl
    · intro hmk
      refine Ex_nil ⟨rfl, some (dI k), b0, c0, d0, hb0, ?_⟩
      rw [if_neg (by simpa using hmk)]
  · rintro vs cs ⟨rfl, a0, b0, c0, d0, hb0, rfl⟩
    rw [← hmf]
    refine Ex_freeze l3 rfl ?_
    dsimp only [List.set]
    exact Ex_ret (by walk_at "m_go") (.inl rfl)
end
end Mine
end
section
set_option Elab.async false
set_option linter.unusedVariables false
set_option maxRecDepth 100000
namespace Mine
/-- a comprehension's frame, checked -/
noncomputable def compFS (scope outer : Scope) (locs cels : List Str) : FS := { scope := relab scope outer, locs := locs, cels := cels, ro := true }
noncomputable def compFit (F : FS) (scope : Scope) (locs cels : List Str) : Bool :=
  (compFS scope F.scope locs cels).fit && (compFS scope F.scope locs cels).nodbg && (scope.kind == .function) && scope.names.all (fun x => !(x.2 == .cell)) && scope.names.all (fun x => !(x.2 == .local) || scope.names.lookup x.1 == some .local) &&
  scope.names.all (fun x => !(x.2 == .free) || F.cels.contains x.1) && cels.all fun x => scope.names.contains (x, .free) && F.cels.contains x
theorem compOk_of {F : FS} {scope : Scope} {locs cels : List Str} (h : compFit F scope locs cels = true) : CompOk F (compFS scope F.scope locs cels) scope := by
  simp only [compFit, Bool.and_eq_true, List.all_eq_true] at h
  obtain ⟨⟨⟨⟨⟨⟨h1, h1'⟩, h2⟩, h3⟩, h4⟩, h5⟩, h6⟩ := h
  refine { sc := rfl, ro := rfl, fit := h1, kind := eq_of_beq h2, nocell := fun x hx e => ?_, names := fun x hx e => ?_, free := fun x hx e => ?_, cels := fun x hx => ?_ }
  · have := h3 x hx; rw [e] at this; cases this
  · have := h4 x hx; rw [e] at this; simpa using this
  · have := h5 x hx; rw [e] at this; simpa using this
  · have := h6 x hx; simpa using this
/-- what is known of a comprehension's frame within -/
structure CF (Fc F : FS) (scope : Scope) (locs cels : List Str) : Prop where
  fit : Fc.fit = true
  dbg : Fc.nodbg = true
  locs : Fc.locs = locs
  cels : Fc.cels = cels
  sc : Fc.scope = relab scope F.scope
section
variable {prog : Program} {w : World} {Λ : Glo} {F : FS} {n : Nat} {vs cs : List (Option AV)} {P : Out → Prop}
theorem CF.of {scope : Scope} {locs cels : List Str} (h : compFit F scope locs cels = true) : CF (compFS scope F.scope locs cels) F scope locs cels := by
  have h1 := (compOk_of h).fit
  simp only [compFit, Bool.and_eq_true] at h
  exact ⟨h1, h.1.1.1.1.1.2, rfl, rfl, rfl⟩
/-- a list comprehension; locs: its own names, cels: the cells that it reads, csc: what they hold -/
theorem Ev_compM {elt target iter : Expr} {ifs : List Expr} {scope : Scope} {pos : Pos} {len : Nat} {items : Nat → AV} (locs cels : List Str) (csc : List (Option AV)) (b : Nat → Bool) (out : Nat → PyData) (hfit : F.fit = true)
    (hit : Itb prog w Λ F n vs cs target iter len items) (hsz : len ≤ sizeLine)
    (hturn : ∀ Fc, CF Fc F scope locs cels → ∀ i, i < len → ∃ vsc, Asg prog w Λ Fc n (List.replicate locs.length none) csc target (items i) vsc csc ∧ Tests prog w Λ Fc n vsc csc ifs (b i) ∧ (b i = true → Ev prog w Λ Fc n vsc csc elt (.dat (out i))))
    (hc : compFit F scope locs cels = true := by decide +kernel)
    (hcs : ∀ (k : Nat) x av, cels[k]? = some x → csc[k]? = some (some av) → ∃ j : Nat, F.cels[j]? = some x ∧ cs[j]? = some (some av) := by intro k x av h1 h2; cases h2)
    (hs : ∀ env x, foldedSetIterable iter env x = pure x := by intro _ _; rfl) : Ev prog w Λ F n vs cs (.ListComp elt [⟨target, iter, ifs, 0⟩] scope pos) (dL (outs b out len)) :=
  Ev_comp b out (compFS scope F.scope locs cels) csc hfit (compOk_of hc) hcs hit hsz (fun i hi => hturn _ (CF.of hc) i hi) hs
theorem Ex_assignCompM {elt target iter : Expr} {ifs : List Expr} {scope : Scope} {pos p1 p2 : Pos} {x : Str} {rest : List Stmt} {len : Nat} {items : Nat → AV} (k : Nat) (locs cels : List Str) (csc : List (Option AV)) (b : Nat → Bool) (out : Nat → PyData) (hfit : F.fit = true) (hro : F.ro = false)
    (hx : F.locs[k]? = some x) (hit : Itb prog w Λ F n vs cs target iter len items) (hsz : len ≤ sizeLine)
    (hturn : ∀ Fc, CF Fc F scope locs cels → ∀ i, i < len → ∃ vsc, Asg prog w Λ Fc n (List.replicate locs.length none) csc target (items i) vsc csc ∧ Tests prog w Λ Fc n vsc csc ifs (b i) ∧ (b i = true → Ev prog w Λ Fc n vsc csc elt (.dat (out i))))
    (h2 : Ex prog w Λ F n (vs.set k (some (dL (outs b out len)))) cs rest P)
    (hsw : ∀ env : Env, env.scope = F.scope → swapsWith (.ListComp elt [⟨target, iter, ifs, 0⟩] scope pos) (some (.Name x p1)) p2.line env = pure true)
    (hc : compFit F scope locs cels = true := by decide +kernel)
    (hcs : ∀ (k : Nat) x av, cels[k]? = some x → csc[k]? = some (some av) → ∃ j : Nat, F.cels[j]? = some x ∧ cs[j]? = some (some av) := by intro k x av h1 h2; cases h2)
    (hs : ∀ env x, foldedSetIterable iter env x = pure x := by intro _ _; rfl) : Ex prog w Λ F n vs cs (.Assign [.Name x p1] (.ListComp elt [⟨target, iter, ifs, 0⟩] scope pos) p2 :: rest) P :=
  Ex_assignComp k b out (compFS scope F.scope locs cels) csc hfit hro (compOk_of hc) hcs hx hit hsz (fun i hi => hturn _ (CF.of hc) i hi) h2 hsw hs
theorem outs_all {f : Nat → PyData} {m : Nat} : outs (fun _ => true) f m = (List.range m).map f := by
  unfold outs; rw [List.filter_eq_self.mpr (by simp)]
theorem outs_list {α : Type} {f : α → PyData} {d : α} (l : List α) : outs (fun _ => true) (fun i => f (l.getD i d)) l.length = l.map f := by
  rw [outs_all]
  apply List.ext_getElem
  · simp
  · intro i h1 h2
    simp at h1 h2
    simp [List.getD, h2]
theorem outs_filter {α : Type} {f : α → PyData} {p : α → Bool} {d : α} (l : List α) : outs (fun i => p (l.getD i d)) (fun i => f (l.getD i d)) l.length = (l.filter p).map f := by
  unfold outs
  have h : l = (List.range l.length).map fun i => l.getD i d := by
    apply List.ext_getElem
    · simp
    · intro i h1 h2
      simp [List.getD, h1]
  conv => rhs; rw [h]
  rw [List.filter_map, List.map_map]
  rfl
end
end Mine
end
section
set_option Elab.async false
set_option linter.unusedVariables false
set_option maxRecDepth 100000
set_option maxHeartbeats 4000000
namespace Mine
noncomputable def sgL : List Nat := [40, 41, 97, 98, 34, 61, 34, 92, 92, 35, 45, 47, 46, 33, 50, 61, 97, 55, 48, 45]
noncomputable def preL : List Nat := [97, 40, 35, 55, 33, 92, 34, 40, 48, 61, 41, 92, 41, 34, 45, 40, 34, 35, 40, 98, 61]
noncomputable def sgAt (x : Int) : Nat := sgL.getD ((x.fmod 1000000).fmod 20).toNat 0
noncomputable def lineF (ns : List Int) : List Nat := preL ++ (ns.take 8).map sgAt
section
variable {w : World} {Λ : Glo}
theorem fmod_lt (x : Int) (k : Nat) (hk : 0 < k) : 0 ≤ x.fmod k ∧ x.fmod k < k := by
  rw [Int.fmod_eq_emod_of_nonneg _ (by omega)]
  exact ⟨Int.emod_nonneg _ (by omega), Int.emod_lt_of_pos _ (by omega)⟩
theorem jn_one : ∀ (l : List Nat), jn [] (l.map fun c => [c]) = l
  | [] => rfl
  | [a] => rfl
  | a :: b :: r => by
    show [a] ++ [] ++ jn [] ((b :: r).map fun c => [c]) = _
    rw [jn_one (b :: r)]; rfl
theorem cl_line (hG : Gd Λ) (ns : List Int) (hl : ns.length ≤ 63) : Cl w Λ 49 1 [dL (ns.map pI)] (dS (lineF ns)) := by
  obtain ⟨hf, hdb, l0, c0⟩ := lk_law_line
  have hsl : 100000 ≤ sizeLine := by decide
  refine Cl_plain (F := F_law_line) 0 1 hG hf rfl rfl (ps := [Str.ofString "script"]) rfl rfl rfl (by intro L x hx; rcases List.mem_singleton.mp hx with rfl; rfl) (by walk_at "s_b1") ?_
  show Ex _ _ _ _ _ [some (dL (ns.map pI))] [none] _ _
  walk_at "s_asC"
  have htk : (ns.map pI).take 8 = (ns.take 8).map pI := by rw [List.map_take]
  refine Ex_ret (av := dS (lineF ns)) (Ev_BinOp (a := dS preL) (b := dS ((ns.take 8).map sgAt)) (Ev_strS _ (by rfl)) ((Ev_methS (x := []) (by walk_at "m_go") PySem.F.slot_str_join PySem.F.type_str_join (EvL_cons ?_ EvL_nil) (op_join (ts := (ns.take 8).map fun x => [sgAt x]) ?_)).eq ?_) (op_cat ?_)) (.inl rfl)
  · have hlen : ((ns.map pI).take 8).length = (ns.take 8).length := by simp
    refine (Ev_compM [Str.ofString "x"] [Str.ofString "signs"] [some (dS sgL)] (fun _ => true) (fun i => pS [sgAt ((ns.take 8).getD i 0)]) hf (Itb_list (ds := (ns.map pI).take 8) (Ev_toL 8 ?_ ?_ ?_)) (by rw [List.length_take]; omega) ?_ (hcs := ?_)).eq ?_
    · walk_at "m_go"
    · walk_at "m_go"
    · simp; omega
    · intro Fc hc i hi
      rw [hlen] at hi
      have hfc := hc.fit
      have hdc := hc.dbg
      have k0 : Fc.locs[0]? = some (Str.ofString "x") := by rw [hc.locs]; rfl
      have k1 : Fc.cels[0]? = some (Str.ofString "signs") := by rw [hc.cels]; rfl
      refine ⟨_, Asg_name 0 hfc k0, Tests_nil, fun _ => ?_⟩
      dsimp only [List.replicate, List.length, List.set]
      have hit : ((ns.map pI).take 8).getD i .none = pI ((ns.take 8).getD i 0) := by
        rw [htk]
        have := getD_map pI (ns.take 8) i ((ns.take 8).getD i 0) (getD_get 0 hi)
        simpa using this
      rw [hit]
      generalize (ns.take 8).getD i 0 = x
      obtain ⟨q1, q2⟩ := fmod_lt x 1000000 (by decide)
      obtain ⟨q3, q4⟩ := fmod_lt (x.fmod 1000000) 20 (by decide)
      have q3' : (0 : Int) ≤ (x.fmod 1000000).fmod 20 := q3
      have q4' : (x.fmod 1000000).fmod 20 < 20 := q4
      refine Ev_itemS (l := sgL) (i := (x.fmod 1000000).fmod 20) (j := ((x.fmod 1000000).fmod 20).toNat) (by walk_at "m_go") (Ev_BinOp (Ev_BinOp (by walk_at "m_go") (by walk_at "m_go") (op_mod (by decide))) (by walk_at "m_go") (op_mod (by decide))) (by omega) (by omega) ?_ ?_
      · rw [StrLaws.seqIndex_nonneg (by omega) (by show _ < ((20 : Nat) : Int); omega)]
      · exact getD_get 0 (by show _ < 20; omega)
    · intro k x av h1 h2
      match k with
      | 0 => cases h1; cases h2; exact ⟨0, rfl, rfl⟩
      | k + 1 => cases h1
    · rw [hlen, outs_list (f := fun x => pS [sgAt x]) (ns.take 8)]
      rw [List.map_map]; rfl
  · have := sum_le 1 ((ns.take 8).map fun x => [sgAt x]) (by intro r hr; obtain ⟨x, _, rfl⟩ := List.mem_map.mp hr; exact Nat.le_refl 1)
    rw [List.length_map, List.length_take] at this
    simp only [List.length_nil, Nat.mul_zero]; omega
  · have := jn_one ((ns.take 8).map sgAt)
    rw [List.map_map] at this
    show dS (jn [] _) = _
    rw [show (List.map (fun x => [sgAt x]) (List.take 8 ns)) = List.map ((fun c => [c]) ∘ sgAt) (List.take 8 ns) from rfl, this]
  · simp [preL]; omega
end
end Mine
end
section
set_option Elab.async false
set_option linter.unusedVariables false
set_option maxRecDepth 100000
set_option maxHeartbeats 4000000
namespace Mine
theorem dig_mem (d : Nat) : decide (d ∈ [48, 49, 50, 51, 52, 53, 54, 55]) = decide (48 ≤ d ∧ d ≤ 55) :=
  decide_eq_decide.mpr ((List.mem_range'_1 (m := d) (s := 48) (n := 8)).trans ⟨fun h => ⟨h.1, Nat.le_of_lt_succ h.2⟩, fun h => ⟨h.1, Nat.lt_succ_of_le h.2⟩⟩)
structure TS where
  names : List (List Nat)
  root : List Nat
  figs : List Int
noncomputable def isDig (p : List Nat) : Bool := match p with
  | [c] => decide (48 ≤ c ∧ c ≤ 55)
  | _ => false
noncomputable def lastN (p : List Nat) : Nat := p.getLastD 0
noncomputable def tStep (s : TS) (p : List Nat) : TS :=
  if isDig p then { s with figs := s.figs ++ [((p.getD 0 0 - 48 : Nat) : Int)] }
  else if p == [45] then { s with names := s.names.dropLast }
  else if lastN p == 47 then { s with names := [], root := [47] }
  else if lastN p != 46 && !([[40], [61], [35], [33], [92]].any fun y => y == p) then { s with names := s.names ++ [[lastN p]] } else s
noncomputable def tAll (seen : List (List Nat)) : TS := seen.foldl tStep ⟨[[99]], [47, 47], [0, 0, 2, 2]⟩
noncomputable def offF (figs : List Int) : Int := (figs.drop (figs.length - 4)).foldl (fun o f => o * 8 + f) 0
noncomputable def kindF (s : List Nat) : List Nat := if s = [61] then [45] else if s = [35] then [100] else if s = [33] then [98] else [108]
noncomputable def rightsF (s : List Nat) : Nat := if s = [61] then 438 else if s = [35] then 1023 else if s = [33] then 3583 else 511
/-- rights less those that are off -/
noncomputable def lessF (r o : Nat) : Nat := (((List.range 12).filter fun k => decide (o / 2 ^ k % 2 < r / 2 ^ k % 2)).map fun k => 2 ^ k).sum
noncomputable def rightsT (s : List Nat) (o : Nat) : Nat := if kindF s = [108] then rightsF s else lessF (rightsF s) o
noncomputable def toldPath (t : TS) : List Nat := t.root ++ jn [47] t.names
noncomputable def toldRow (place : Int) (s : List Nat) (t : TS) : PyData := .tuple [pI place, pS (toldPath t), pS (rowF (kindF s) (rightsT s (offF t.figs).toNat)), .bool (kindF s == [100])]
noncomputable def toldF (place : Int) (s : List Nat) (seen : List (List Nat)) : PyData := .tuple [toldRow place s (tAll seen), .list ((tAll seen).names.map pS)]
theorem tStep_bound (s : TS) (p : List Nat) (h1 : ∀ n ∈ s.names, n.length = 1) (h2 : ∀ f ∈ s.figs, 0 ≤ f ∧ f ≤ 7) (h3 : s.root.length ≤ 2) :
    (∀ n ∈ (tStep s p).names, n.length = 1) ∧ (∀ f ∈ (tStep s p).figs, 0 ≤ f ∧ f ≤ 7) ∧ (tStep s p).root.length ≤ 2 ∧ (tStep s p).names.length ≤ s.names.length + 1 ∧ s.figs.length ≤ (tStep s p).figs.length ∧ (tStep s p).figs.length ≤ s.figs.length + 1 := by
  unfold tStep
  split
  · rename_i hd
    refine ⟨h1, fun f hf => ?_, h3, by simp, by simp, by simp⟩
    rcases List.mem_append.mp hf with hf | hf
    · exact h2 f hf
    · have := List.mem_singleton.mp hf
      unfold isDig at hd
      split at hd
      · simp at hd this; omega
      · cases hd
  · split
    · exact ⟨fun n hn => h1 n (List.dropLast_subset _ hn), h2, h3, by simp; omega, Nat.le_refl _, Nat.le_succ _⟩
    · split
      · exact ⟨by simp, h2, by simp, by simp, Nat.le_refl _, Nat.le_succ _⟩
      · split
        · refine ⟨fun n hn => ?_, h2, h3, by simp, Nat.le_refl _, Nat.le_succ _⟩
          rcases List.mem_append.mp hn with hn | hn
          · exact h1 n hn
          · rw [List.mem_singleton.mp hn]; rfl
        · exact ⟨h1, h2, h3, Nat.le_succ _, Nat.le_refl _, Nat.le_succ _⟩
theorem tFold_bound : ∀ (ps : List (List Nat)) (s : TS), (∀ n ∈ s.names, n.length = 1) → (∀ f ∈ s.figs, 0 ≤ f ∧ f ≤ 7) → s.root.length ≤ 2 →
    (∀ n ∈ (ps.foldl tStep s).names, n.length = 1) ∧ (∀ f ∈ (ps.foldl tStep s).figs, 0 ≤ f ∧ f ≤ 7) ∧ (ps.foldl tStep s).root.length ≤ 2 ∧ (ps.foldl tStep s).names.length ≤ s.names.length + ps.length ∧ s.figs.length ≤ (ps.foldl tStep s).figs.length ∧ (ps.foldl tStep s).figs.length ≤ s.figs.length + ps.length
  | [], s, h1, h2, h3 => ⟨h1, h2, h3, Nat.le_refl _, Nat.le_refl _, Nat.le_refl _⟩
  | p :: ps, s, h1, h2, h3 => by
    obtain ⟨a, b, c, d, e, f⟩ := tStep_bound s p h1 h2 h3
    obtain ⟨a', b', c', d', e', f'⟩ := tFold_bound ps (tStep s p) a b c
    exact ⟨a', b', c', by simp only [List.foldl_cons, List.length_cons]; omega, by simp only [List.foldl_cons]; omega, by simp only [List.foldl_cons, List.length_cons]; omega⟩
theorem off_bound : ∀ (l : List Int) (o : Int), (∀ f ∈ l, 0 ≤ f ∧ f ≤ 7) → 0 ≤ o → 0 ≤ l.foldl (fun o f => o * 8 + f) o ∧ l.foldl (fun o f => o * 8 + f) o < (o + 1) * 8 ^ l.length
  | [], o, _, h => ⟨h, by simp; omega⟩
  | f :: l, o, hf, h => by
    have h1 := hf f (by simp)
    have h2 := off_bound l (o * 8 + f) (fun g hg => hf g (List.mem_cons_of_mem _ hg)) (by omega)
    refine ⟨h2.1, ?_⟩
    rw [List.foldl_cons, List.length_cons, Int.pow_succ]
    have h3 : (o * 8 + f + 1) * 8 ^ l.length ≤ ((o + 1) * 8) * 8 ^ l.length := Int.mul_le_mul_of_nonneg_right (by omega) (Int.le_of_lt (Int.pow_pos (by decide)))
    have h4 : ((o + 1) * 8) * 8 ^ l.length = (o + 1) * (8 ^ l.length * 8) := by rw [Int.mul_assoc, Int.mul_comm 8]
    omega
theorem offF_lt (l : List Int) (h : ∀ f ∈ l, 0 ≤ f ∧ f ≤ 7) : 0 ≤ offF l ∧ offF l < 4096 := by
  have hd : ∀ f ∈ l.drop (l.length - 4), 0 ≤ f ∧ f ≤ 7 := fun f hf => h f (List.mem_of_mem_drop hf)
  have h1 := off_bound _ 0 hd (Int.le_refl 0)
  have h2 : (l.drop (l.length - 4)).length ≤ 4 := by rw [List.length_drop]; omega
  unfold offF
  generalize (l.drop (l.length - 4)).foldl (fun o f => o * 8 + f) 0 = v at h1
  generalize (l.drop (l.length - 4)).length = m at h1 h2
  have h3 : (0 + 1 : Int) * 8 ^ m ≤ 4096 := (by decide : ∀ m < 5, (0 + 1 : Int) * 8 ^ m ≤ 4096) m (Nat.lt_succ_of_le h2)
  exact ⟨h1.1, Int.lt_of_lt_of_le h1.2 h3⟩
theorem lessF_bound (r o : Nat) : lessF r o < 4096 := by
  unfold lessF
  have key : ∀ (l : List Nat) (p : Nat → Bool), ((l.filter p).map fun k => 2 ^ k).sum ≤ (l.map fun k => 2 ^ k).sum := by
    intro l p
    induction l with
    | nil => simp
    | cons a l ih =>
      rw [List.filter_cons]
      split
      · simp; exact ih
      · simp only [List.map_cons, List.sum_cons]; exact Nat.le_trans ih (Nat.le_add_left _ _)
  have h2 := key (List.range 12) fun k => decide (o / 2 ^ k % 2 < r / 2 ^ k % 2)
  have : ((List.range 12).map fun k => 2 ^ k).sum = 4095 := by decide
  omega
section
variable {w : World} {Λ : Glo}
theorem digit_int (c : Nat) (h : 48 ≤ c ∧ c ≤ 55) : PySem.intText? (S [c]) = some ((c - 48 : Nat) : Int) := by
  have key : ∀ c ∈ ([48, 49, 50, 51, 52, 53, 54, 55] : List Nat), PySem.intText? (S [c]) = some ((c - 48 : Nat) : Int) := by decide +kernel
  exact key c (of_decide_eq_true ((dig_mem c).trans (decide_eq_true h)))
theorem any5 (p : List Nat) : ([pS [40], pS [61], pS [35], pS [33], pS [92]].any fun y => PyData.eqv y (pS p)) = [[40], [61], [35], [33], [92]].any fun y => y == p := by
  simp only [List.any_cons, List.any_nil, PyData.eqv, S_beq]
theorem cl_told (hG : Gd Λ) (place : Int) (s : List Nat) (seen : List (List Nat)) (hs : s = [61] ∨ s = [35] ∨ s = [33] ∨ s = [92]) (hl : seen.length ≤ 1000) (hp : ∀ p ∈ seen, 1 ≤ p.length ∧ p.length ≤ 2 ∧ okS p = true) :
    Cl w Λ 55 2 [dI place, dS s, dL (seen.map pS)] (.dat (toldF place s seen)) := by
  obtain ⟨hf, hdb, l0, l1, l2, l3, l4, l5, l6, l7, l8, c0, c1⟩ := lk_law_told
  have hsl : 100000 ≤ sizeLine := by decide
  refine Cl_plain (F := F_law_told) 6 2 hG hf rfl rfl (ps := [Str.ofString "place", Str.ofString "sign", Str.ofString "seen"]) rfl rfl rfl (by intro L x hx; rcases List.mem_cons.mp hx with rfl | hx; rfl; rcases List.mem_singleton.mp hx with rfl; rfl) (by walk_at "s_b2") ?_
  show Ex _ _ _ _ _ [some (dI place), some (dS s), some (dL (seen.map pS)), none, none, none, none, none, none] [none, none] _ _
  walk_at "s_as"
  walk_at "s_as"
  refine Ex_own 5 hf l5 (ds := [pI 0, pI 0, pI 2, pI 2]) (EvL_cons (by walk_at "m_go") (EvL_cons (by walk_at "m_go") (EvL_cons (by walk_at "m_go") (EvL_cons (by walk_at "m_go") EvL_nil)))) ?_ (by decide)
  dsimp only [List.set]
  refine Ex_forF seen dS tStep ⟨[[99]], [47, 47], [0, 0, 2, 2]⟩ (fun t vs cs => cs = [none, none] ∧ ∃ a, vs = [some (dI place), some (dS s), some (dL (seen.map pS)), some (dL (t.names.map pS)), some (dS t.root), some (.own (t.figs.map pI)), a, none, none])
    rfl (Itb_list (by walk_at "m_go")) (by simp) (fun i y hy => getD_map pS seen i y hy) ⟨rfl, _, rfl⟩ ?_ ?_
  · rintro i p vs cs hq ⟨rfl, a0, rfl⟩
    obtain ⟨b1, b2, b3, b4, b5, b6⟩ := tFold_bound (seen.take i) ⟨[[99]], [47, 47], [0, 0, 2, 2]⟩ (by simp) (by decide) (by simp)
    rw [List.length_take] at b4 b6
    generalize (seen.take i).foldl tStep ⟨[[99]], [47, 47], [0, 0, 2, 2]⟩ = t at b1 b2 b3 b4 b5 b6
    have b4' : t.names.length ≤ 1001 := by simp at b4; omega
    have b6' : t.figs.length ≤ 1004 := by simp at b6; omega
    obtain ⟨p1, p2, p3⟩ := hp p (List.mem_of_getElem? hq)
    have hlast : p.getLast? = some (lastN p) := last_ne (by intro h; rw [h] at p1; simp at p1) 0
    refine ⟨_, _, Asg_name 6 hf l6, ?_⟩
    dsimp only [List.set]
    refine' Ex_if (c := isDig p) ((Tr_andN (b := ((p.length : Int) == 1)) (c := isDig p && true) (Tr_cmp ?_ ?_ op_eq) (fun h1 => Tr_andN (b := isDig p) ?_ fun _ => Tr_and0)).eq ?_) ?_ ?_
    · refine Ev_callB (by walk_at "m_go") (EvL_cons (by walk_at "m_go") EvL_nil) (op_lenS (by omega))
    · walk_at "m_go"
    · obtain ⟨c, rfl⟩ := List.length_eq_one_iff.mp (show p.length = 1 by simp at h1; omega)
      refine (Tr_cmp (by walk_at "m_go") (by walk_at "m_go") op_inS).eq ?_
      exact dig_mem c
    · cases hd : isDig p with
      | false => simp
      | true =>
        unfold isDig at hd
        split at hd
        · simp
        · cases hd
    · intro hd
      have hd' := hd
      unfold isDig at hd'
      split at hd'
      · rename_i c
        have hc : 48 ≤ c ∧ c ≤ 55 := by simpa using hd'
        refine Ex_expr (EvS_append 5 hf l5 rfl (d := pI ((c - 48 : Nat) : Int)) (Ev_callT (by walk_at "m_go") (EvL_cons (by walk_at "m_go") EvL_nil) (op_int (digit_int c hc) (by simp))) (by simp; omega)) (Ex_nil ⟨rfl, some (dS [c]), ?_⟩) hf nr_none
        dsimp only [List.set]
        have : tStep t [c] = { t with figs := t.figs ++ [((c - 48 : Nat) : Int)] } := by unfold tStep; rw [if_pos hd]; rfl
        rw [this]; simp
      · cases hd'
    · intro hd
      have nd : ¬ isDig p = true := by simp [hd]
      walk_at "s_if"
      · intro h1
        refine Ex_assign 3 hf l3 (Ev_initL (l := t.names.map pS) (by walk_at "m_go") (by simp; omega)) ?_
        dsimp only [List.set]
        refine Ex_nil ⟨rfl, some (dS p), ?_⟩
        have : tStep t p = { t with names := t.names.dropLast } := by unfold tStep; rw [if_neg nd, if_pos h1]
        rw [this, List.map_dropLast]
      · intro h1
        have n1 : ¬ (p == [45]) = true := by simpa using h1
        refine' Ex_if (c := [lastN p] == [47]) (Tr_cmp (Ev_lastS ?_ (by omega) hlast) ?_ op_eqS) ?_ ?_
        all_goals try walk_at "m_go"
        · intro h2
          walk_at "s_as"
          walk_at "s_as"
          refine Ex_nil ⟨rfl, some (dS p), ?_⟩
          have : tStep t p = { t with names := [], root := [47] } := by unfold tStep; rw [if_neg nd, if_neg n1, if_pos (by simpa using h2)]
          rw [this]; rfl
        · intro h2
          dsimp only [List.append, List.cons_append, List.nil_append]
          refine' Ex_if (c := [lastN p] != [46] && ((![[40], [61], [35], [33], [92]].any fun y => y == p) && true)) (Tr_andN (Tr_cmp (Ev_lastS ?_ (by omega) hlast) ?_ op_neS) fun _ => Tr_andN (Tr_cmp (b := dT [pS [40], pS [61], pS [35], pS [33], pS [92]]) ?_ (Ev_tuple (ds := [pS [40], pS [61], pS [35], pS [33], pS [92]]) (EvL_cons ?_ (EvL_cons ?_ (EvL_cons ?_ (EvL_cons ?_ (EvL_cons ?_ EvL_nil))))) ?_) ?_) fun _ => Tr_and0) ?_ ?_
          all_goals try walk_at "m_go"
          · exact Nat.le_trans (Nat.le_refl 5) (by decide)
          · rw [← any5]; exact op_notInT (okS_lay p3) (by decide +kernel) (by simp [PyData.depth])
          · intro h3
            refine Ex_assign 3 hf l3 (Ev_BinOp (b := dL [pS [lastN p]]) (by walk_at "m_go") (Ev_list (ds := [pS [lastN p]]) (EvL_cons (Ev_lastS (by walk_at "m_go") (by omega) hlast) EvL_nil) (Nat.le_trans (Nat.le_refl 1) (by decide))) (op_addL (by simp; omega))) ?_
            dsimp only [List.set]
            refine Ex_nil ⟨rfl, some (dS p), ?_⟩
            have : tStep t p = { t with names := t.names ++ [[lastN p]] } := by
              unfold tStep; rw [if_neg nd, if_neg n1, if_neg (by simpa using h2), if_pos (by simpa using h3)]
            rw [this]; simp
          · intro h3
            refine Ex_nil ⟨rfl, some (dS p), ?_⟩
            have : tStep t p = t := by
              unfold tStep; rw [if_neg nd, if_neg n1, if_neg (by simpa using h2), if_neg (by simpa using h3)]
            rw [this]
  · rintro vs cs ⟨rfl, a0, rfl⟩
    obtain ⟨b1, b2, b3, b4, b5, b6⟩ := tFold_bound seen ⟨[[99]], [47, 47], [0, 0, 2, 2]⟩ (by simp) (by decide) (by simp)
    show Ex _ _ _ _ _ [some (dI place), some (dS s), some (dL (seen.map pS)), some (dL ((tAll seen).names.map pS)), some (dS (tAll seen).root), some (.own ((tAll seen).figs.map pI)), a0, none, none] [none, none] _ _
    unfold toldF
    change (∀ n ∈ (tAll seen).names, _) at b1
    change (∀ n ∈ (tAll seen).figs, _) at b2
    change (tAll seen).root.length ≤ 2 at b3
    change (tAll seen).names.length ≤ _ at b4
    change _ ≤ (tAll seen).figs.length at b5
    change (tAll seen).figs.length ≤ _ at b6
    generalize tAll seen = t at b1 b2 b3 b4 b5 b6
    have b4' : t.names.length ≤ 1001 := by simp at b4; omega
    have b6' : t.figs.length ≤ 1004 := by simp at b6; omega
    have b5' : 4 ≤ t.figs.length := by simpa using b5
    obtain ⟨o1, o2⟩ := offF_lt t.figs b2
    refine Ex_freeze l5 rfl ?_
    dsimp only [List.set]
    -- kind, rights
    refine' Ex_assignT (ds := [pS (kindF s), pI (rightsF s)]) (Ev_dict4 (d1 := .tuple [pS [45], pI 438]) (d2 := .tuple [pS [100], pI 1023]) (d3 := .tuple [pS [98], pI 3583]) (d4 := .tuple [pS [108], pI 511]) ?_ ?_ ?_ ?_ (Ev_tuple (ds := [pS [45], pI 438]) (EvL_cons ?_ (EvL_cons ?_ EvL_nil)) (Nat.le_trans (Nat.le_refl 2) (by decide))) (Ev_tuple (ds := [pS [100], pI 1023]) (EvL_cons ?_ (EvL_cons ?_ EvL_nil)) (Nat.le_trans (Nat.le_refl 2) (by decide))) (Ev_tuple (ds := [pS [98], pI 3583]) (EvL_cons ?_ (EvL_cons ?_ EvL_nil)) (Nat.le_trans (Nat.le_refl 2) (by decide))) (Ev_tuple (ds := [pS [108], pI 511]) (EvL_cons ?_ (EvL_cons ?_ EvL_nil)) (Nat.le_trans (Nat.le_refl 2) (by decide))) ?_ ?_) (AsgL_cons (Asg_name 7 hf l7) (AsgL_cons (Asg_nameC 0 hf rfl c0) AsgL_nil)) ?_
    all_goals try walk_at "m_go"
    · rcases hs with rfl | rfl | rfl | rfl
      · exact .inl ⟨rfl, rfl⟩
      · exact .inr (.inl ⟨rfl, rfl⟩)
      · exact .inr (.inr (.inl ⟨rfl, rfl⟩))
      · exact .inr (.inr (.inr ⟨rfl, rfl⟩))
    dsimp only [List.set]
    walk_at "s_asC"
    refine Ex_forF (t.figs.drop (t.figs.length - 4)) dI (fun o f => o * 8 + f) 0 (fun o vs cs => cs = [some (.dat (pI (rightsF s))), some (dI o)] ∧ ∃ a b, vs = [some (dI place), some (dS s), some (dL (seen.map pS)), some (dL (t.names.map pS)), some (dS t.root), some (dL (t.figs.map pI)), a, some (.dat (pS (kindF s))), b])
      rfl (Itb_list (ds := (t.figs.map pI).drop ((t.figs.map pI).length - 4)) (Ev_tailL 4 (by walk_at "m_go") (by simp; omega) (by simp; omega) (by decide))) (by simp) ?_ ⟨rfl, _, _, rfl⟩ ?_ ?_
    · intro i f hf'
      rw [List.length_map, ← List.map_drop]
      exact getD_map pI _ i f hf'
    · rintro i f vs cs hq ⟨rfl, a1, b1', rfl⟩
      refine ⟨_, _, Asg_name 8 hf l8, ?_⟩
      dsimp only [List.set]
      generalize ((t.figs.drop (t.figs.length - 4)).take i).foldl (fun o f => o * 8 + f) 0 = o
      refine Ex_assignC 1 hf rfl c1 (Ev_BinOp (Ev_BinOp (by walk_at "m_go") (by walk_at "m_go") (op_mul (IntMulOk.of_right (by decide)))) (by walk_at "m_go") op_add) ?_
      dsimp only [List.set]
      exact Ex_nil ⟨rfl, _, _, rfl⟩
    · rintro vs cs ⟨rfl, a1, b1', rfl⟩
      show Ex _ _ _ _ _ _ [some (.dat (pI (rightsF s))), some (dI (offF t.figs))] _ _
      obtain ⟨on, hon⟩ : ∃ on : Nat, offF t.figs = (on : Int) := ⟨(offF t.figs).toNat, by omega⟩
      have hon2 : (offF t.figs).toNat = on := by omega
      have hkl : (kindF s).length = 1 := by rcases hs with rfl | rfl | rfl | rfl <;> rfl
      have hrl : rightsF s < 4096 := by rcases hs with rfl | rfl | rfl | rfl <;> decide
      have fin : ∀ (r : Nat), r = rightsT s on → ∀ x, Ex pr w Λ F_law_told 1 [some (dI place), some (dS s), some (dL (seen.map pS)), some (dL (t.names.map pS)), some (dS t.root), some (dL (t.figs.map pI)), a1, some (.dat (pS (kindF s))), b1'] [some (dI r), x] ((dBody (stmtAt 55)).drop 8) (fun o => o = .ret (.dat (.tuple [toldRow place s t, .list (t.names.map pS)])) ∨ ((∃ vs cs, o = .next vs cs) ∧ (AV.dat (.tuple [toldRow place s t, .list (t.names.map pS)])) = .dat .none)) := fun r hr x => by
        show Ex _ _ _ _ _ _ _ (_ :: _) _
        refine Ex_ret (Ev_tuple (ds := [toldRow place s t, .list (t.names.map pS)]) (EvL_cons (Ev_tuple (ds := [pI place, pS (toldPath t), pS (rowF (kindF s) (rightsT s (offF t.figs).toNat)), .bool (kindF s == [100])]) (EvL_cons ?_ (EvL_cons ?_ (EvL_cons ?_ (EvL_cons ?_ EvL_nil)))) (Nat.le_trans (Nat.le_refl 4) (by decide))) (EvL_cons ?_ EvL_nil)) (Nat.le_trans (Nat.le_refl 2) (by decide))) (.inl rfl)
        · walk_at "m_go"
        · have hsum := sum_le 1 t.names (fun n hn => Nat.le_of_eq (b1 n hn))
          have hj : (jn [47] t.names).length ≤ 3000 := by
            have := jn_len t.names
            unfold wgt at this; omega
          refine Ev_BinOp (a := dS t.root) (b := dS (jn [47] t.names)) (by walk_at "m_go") (Ev_methS (by walk_at "m_go") PySem.F.slot_str_join PySem.F.type_str_join (EvL_cons (by walk_at "m_go") EvL_nil) (op_join (ts := t.names) (by simp; omega))) (op_cat (by omega))
        · rw [hon2, ← hr]
          exact Ev_fn 52 1 hG hf (EvL_cons (by walk_at "m_go") (EvL_cons (by walk_at "m_go") EvL_nil)) (cl_row hG (kindF s) r (by omega)) (by decide)
        · exact Ev_cmp (by walk_at "m_go") (by walk_at "m_go") op_eqS
        · walk_at "m_go"
      walk_at "s_if"
      · intro h1
        have hns : kindF s ≠ [108] := by simpa using h1
        refine Ex_assignC 0 hf rfl c0 (av := dI ((lessF (rightsF s) on : Nat) : Int)) ?_ ?_
        · have hout : outs (fun k => decide (((on / 2 ^ k % 2 : Nat) : Int) < ((rightsF s / 2 ^ k % 2 : Nat) : Int))) (fun k => pI ((2 ^ k : Nat) : Int)) 12 = (((List.range 12).filter fun k => decide (on / 2 ^ k % 2 < rightsF s / 2 ^ k % 2)).map fun k => ((2 ^ k : Nat) : Int)).map pI := by
            unfold outs
            rw [List.map_map]
            congr 1
            apply List.filter_congr
            intro k _
            apply decide_eq_decide.mpr
            omega
          have hsum : (((List.range 12).filter fun k => decide (on / 2 ^ k % 2 < rightsF s / 2 ^ k % 2)).map fun k => ((2 ^ k : Nat) : Int)).sum = ((lessF (rightsF s) on : Nat) : Int) := by
            unfold lessF
            generalize (List.range 12).filter _ = l
            induction l with
            | nil => rfl
            | cons a l ih => rw [List.map_cons, List.sum_cons, ih, List.map_cons, List.sum_cons]; push_cast; rfl
          have hlb := lessF_bound (rightsF s) on
          rw [← hsum]
          refine Ev_callB (by walk_at "m_go") (EvL_cons ((Ev_compM [Str.ofString "k"] [Str.ofString "rights", Str.ofString "off"] [some (.dat (pI (rightsF s))), some (dI on)] (fun k => decide (((on / 2 ^ k % 2 : Nat) : Int) < ((rightsF s / 2 ^ k % 2 : Nat) : Int))) (fun k => pI ((2 ^ k : Nat) : Int)) hf (Itb_range1 (m := 12) (by walk_at "m_go") (by walk_at "m_go") (by decide)) (by decide) ?_ (hcs := ?_)).eq (congrArg dL hout)) EvL_nil) (op_sum ?_ ?_)
          · intro Fc hc k hk
            have hfc := hc.fit
            have hdc := hc.dbg
            have k0 : Fc.locs[0]? = some (Str.ofString "k") := by rw [hc.locs]; rfl
            have k1 : Fc.cels[0]? = some (Str.ofString "rights") := by rw [hc.cels]; rfl
            have k2 : Fc.cels[1]? = some (Str.ofString "off") := by rw [hc.cels]; rfl
            have p2 : (2 : Int) ^ ((k : Int)).toNat = ((2 ^ k : Nat) : Int) := by rw [Int.toNat_natCast]; push_cast; rfl
            have b2 : 2 ^ k < 1073741824 := Nat.lt_of_le_of_lt (Nat.pow_le_pow_right (by decide) (by omega : k ≤ 12)) (by decide)
            have b0 : 0 < 2 ^ k := Nat.pow_pos (by decide)
            have epow : ∀ p1 p2' p3 p4, Ev pr w Λ Fc 1 [some (dI k)] [some (.dat (pI (rightsF s))), some (dI on)] (.BinOp (.Constant (.int 2) p1 p2') .Pow (.Name (Str.ofString "k") p3) p4) (dI ((2 : Int) ^ ((k : Int)).toNat)) := fun p1 p2' p3 p4 => Ev_BinOp Ev_int (by walk_at "m_go") (op_pow (by omega) (by omega) (by decide))
            refine ⟨_, Asg_name 0 hfc k0, Tests_one ?_, fun _ => ?_⟩
            · dsimp only [List.replicate, List.length, List.set]
              refine Tr_cmp (Ev_BinOp (Ev_BinOp (by walk_at "m_go") (epow _ _ _ _) (op_divN (2 ^ k) b0 b2 p2)) (by walk_at "m_go") (op_modN 2 (by decide))) (Ev_BinOp (Ev_BinOp (by walk_at "m_go") (epow _ _ _ _) (op_divN (2 ^ k) b0 b2 p2)) (by walk_at "m_go") (op_modN 2 (by decide))) op_gt
            · dsimp only [List.replicate, List.length, List.set]
              rw [← p2]
              exact epow _ _ _ _
          · intro k x av h1 h2
            match k with
            | 0 => cases h1; cases h2; exact ⟨0, rfl, rfl⟩
            | 1 => cases h1; cases h2; exact ⟨1, rfl, by rw [← hon]; rfl⟩
            | k + 2 => cases h1
          · intro a ha
            obtain ⟨k, _, rfl⟩ := List.mem_map.mp ha
            exact Int.natCast_nonneg _
          · rw [hsum]; omega
        · dsimp only [List.set, List.append, List.cons_append, List.nil_append]
          exact fin _ (by unfold rightsT; rw [if_neg hns]) _
      · intro h1
        have hns : kindF s = [108] := by simpa using h1
        exact fin _ (by unfold rightsT; rw [if_pos hns]) _
end
end Mine
end
section
set_option Elab.async false
set_option linter.unusedVariables false
set_option maxRecDepth 100000
set_option maxHeartbeats 4000000
namespace Mine
structure RS where
  here : List Nat
  off : Nat
  kept : List (List Nat × Nat)
  made : List (Nat × List Nat × Int)
  places : List Nat
noncomputable def baseM (c : List Nat) : Int := if c = [61] then 33206 else if c = [35] then 17407 else if c = [33] then 28159 else 41471
noncomputable def modeF (c : List Nat) (off n : Nat) : Int := (if c = [92] then baseM c else Builtin.bitAnd (baseM c) 61440 + Builtin.bitAnd (Builtin.bitAnd (baseM c) 4095) (Builtin.bitNot off)) + n * 65536
noncomputable def rStep (s : RS) (q : Nat × List Nat) : RS :=
  let t : RS := { s with places := s.places ++ [q.1] }
  if q.2 == [40] then { t with kept := s.kept ++ [(s.here, s.off)] }
  else if q.2 == [41] then { t with here := (s.kept.getLastD ([], 0)).1, off := (s.kept.getLastD ([], 0)).2, kept := s.kept.dropLast }
  else if isMk q.2 then { t with made := s.made ++ [(q.1, s.here, modeF q.2 s.off s.made.length)] }
  else if isDig q.2 then { t with off := (s.off * 8 + (q.2.getD 0 0 - 48)) % 4096 }
  else if q.2 == [45] then { t with here := normF (joinF s.here [46, 46]) }
  else { t with here := normF (joinF s.here [lastN q.2]) }
noncomputable def rInit : RS := ⟨[47, 47, 99], 18, [], [], []⟩
noncomputable def readF (x : List Nat) : RS := (escs (stripF x)).foldl rStep rInit
noncomputable def rowR (m : Nat × List Nat × Int) : PyData := .tuple [pI m.1, pS m.2.1, pS (jn [] (fmSigns m.2.2)), .bool (Builtin.bitAnd m.2.2 61440 == 16384)]
theorem sroot_sum (x : List Nat) : (sroot x).1.length + (sroot x).2.length ≤ x.length := by
  unfold sroot
  split
  · simp
  · rename_i h
    have hx : x ≠ [] := by rintro rfl; simp at h
    have h0 : 1 ≤ x.length := by cases x with | nil => exact absurd rfl hx | cons a r => simp
    split
    · simp; omega
    · rename_i h2
      have : 2 ≤ x.length := by
        rcases Nat.lt_or_ge x.length 2 with h3 | h3
        · exfalso
          apply h2
          have : (x.take 2).drop 1 = [] := List.drop_eq_nil_of_le (by rw [List.length_take]; omega)
          rw [this]; rfl
        · exact h3
      simp; omega
theorem normF_len (x : List Nat) : (normF x).length ≤ x.length + 1 := by
  unfold normF
  split
  · simp
  · split
    · simp
    · have h1 := sroot_sum x
      have h2 := wgt_fold (sroot x).1 (spl 47 (sroot x).2) []
      have h3 := wgt_spl 47 (sroot x).2
      have h4 := jn_len ((spl 47 (sroot x).2).foldl (nstep (sroot x).1) [])
      have : wgt [] = 0 := rfl
      rw [List.length_append]; omega
theorem joinF_len (a b : List Nat) : (joinF a b).length ≤ a.length + b.length + 1 := by
  unfold joinF
  split
  · omega
  · split
    · simp
    · simp; omega
theorem rStep_bound (s : RS) (q : Nat × List Nat) (B : Nat) (hh : s.here.length ≤ B) (ho : s.off < 4096) (hk : ∀ z ∈ s.kept, z.1.length ≤ B ∧ z.2 < 4096) :
    (rStep s q).here.length ≤ B + 4 ∧ (rStep s q).off < 4096 ∧ (∀ z ∈ (rStep s q).kept, z.1.length ≤ B + 4 ∧ z.2 < 4096) ∧ (rStep s q).kept.length ≤ s.kept.length + 1 ∧ (rStep s q).made.length ≤ s.made.length + 1 ∧ (rStep s q).places.length = s.places.length + 1 := by
  have hk' : ∀ z ∈ s.kept, z.1.length ≤ B + 4 ∧ z.2 < 4096 := fun z hz => ⟨Nat.le_trans (hk z hz).1 (Nat.le_add_right _ _), (hk z hz).2⟩
  unfold rStep
  simp only []
  split
  · refine ⟨by simp; omega, ho, fun z hz => ?_, by simp, by simp, by simp⟩
    rcases List.mem_append.mp hz with hz | hz
    · exact hk' z hz
    · rw [List.mem_singleton.mp hz]; exact ⟨Nat.le_trans hh (Nat.le_add_right _ _), ho⟩
  · split
    · have hl : (s.kept.getLastD ([], 0)).1.length ≤ B + 4 ∧ (s.kept.getLastD ([], 0)).2 < 4096 := by
        rcases List.eq_nil_or_concat s.kept with h | ⟨r, z, h⟩
        · rw [h]; simp
        · rw [h]
          have := hk' z (by rw [h]; simp)
          simpa using this
      exact ⟨hl.1, hl.2, fun z hz => hk' z (List.dropLast_subset _ hz), by simp; omega, by simp, by simp⟩
    · split
      · exact ⟨by simp; omega, ho, hk', by simp, by simp, by simp⟩
      · split
        · exact ⟨by simp; omega, Nat.mod_lt _ (by decide), hk', by simp, by simp, by simp⟩
        · split
          · refine ⟨?_, ho, hk', by simp, by simp, by simp⟩
            have h1 := normF_len (joinF s.here [46, 46])
            have h2 := joinF_len s.here [46, 46]
            simp at h2 ⊢; omega
          · refine ⟨?_, ho, hk', by simp, by simp, by simp⟩
            have h1 := normF_len (joinF s.here [lastN q.2])
            have h2 := joinF_len s.here [lastN q.2]
            simp at h2 ⊢; omega
theorem rFold_bound : ∀ (qs : List (Nat × List Nat)) (s : RS) (B : Nat), s.here.length ≤ B → s.off < 4096 → (∀ z ∈ s.kept, z.1.length ≤ B ∧ z.2 < 4096) →
    (qs.foldl rStep s).here.length ≤ B + 4 * qs.length ∧ (qs.foldl rStep s).off < 4096 ∧ (∀ z ∈ (qs.foldl rStep s).kept, z.1.length ≤ B + 4 * qs.length ∧ z.2 < 4096) ∧ (qs.foldl rStep s).kept.length ≤ s.kept.length + qs.length ∧ (qs.foldl rStep s).made.length ≤ s.made.length + qs.length ∧ (qs.foldl rStep s).places.length = s.places.length + qs.length
  | [], s, B, h1, h2, h3 => ⟨h1, h2, h3, Nat.le_refl _, Nat.le_refl _, rfl⟩
  | q :: qs, s, B, h1, h2, h3 => by
    obtain ⟨a, b, c, d, e, f⟩ := rStep_bound s q B h1 h2 h3
    obtain ⟨a', b', c', d', e', f'⟩ := rFold_bound qs (rStep s q) (B + 4) a b c
    refine ⟨?_, b', fun z hz => ⟨?_, (c' z hz).2⟩, ?_, ?_, ?_⟩
    · simp only [List.foldl_cons, List.length_cons]; omega
    · have := (c' z hz).1; simp only [List.length_cons]; omega
    · simp only [List.foldl_cons, List.length_cons]; omega
    · simp only [List.foldl_cons, List.length_cons]; omega
    · simp only [List.foldl_cons, List.length_cons]; omega
section
variable {w : World} {Λ : Glo}
theorem cl_read (hG : Gd Λ) (x : List Nat) (hx : x.length ≤ 1000) (hsx : (stripF x).length ≤ 200) (hesc : ∀ q ∈ escs (stripF x), 1 ≤ q.2.length ∧ q.2.length ≤ 2 ∧ okS q.2 = true)
    (hpop : ∀ (i p : Nat), (escs (stripF x))[i]? = some (p, [41]) → (((escs (stripF x)).take i).foldl rStep rInit).kept ≠ []) :
    Cl w Λ 56 4 [dS x] (dT [.list ((readF x).made.map rowR), .list ((readF x).places.map fun (p : Nat) => pI p)]) := by
  obtain ⟨hf, hdb, l0, l1, l2, l3, l4, l5, l6, l7, l8⟩ := lk_law_read
  have hsl : 100000 ≤ sizeLine := by decide
  refine Cl_plain (F := F_law_read) 8 0 hG hf rfl rfl (ps := [Str.ofString "line"]) rfl rfl rfl (by walk_at "s_c0") (by walk_at "s_b1") ?_
  show Ex _ _ _ _ _ [some (dS x), none, none, none, none, none, none, none, none] [] _ _
  walk_at "s_as"
  walk_at "s_as"
  refine Ex_own 3 hf l3 (ds := []) EvL_nil ?_ (by decide)
  refine Ex_own 4 hf l4 (ds := []) EvL_nil ?_ (by decide)
  refine Ex_own 5 hf l5 (ds := []) EvL_nil ?_ (by decide)
  dsimp only [List.set]
  refine Ex_forF (escs (stripF x)) (fun q => dT [pI q.1, pS q.2]) rStep rInit (fun s vs cs => cs = [] ∧ ∃ a b c, vs = [some (dS x), some (dS s.here), some (dI s.off), some (.own (s.kept.map fun z => .tuple [pS z.1, pI z.2])), some (.own (s.made.map rowR)), some (.own (s.places.map fun (p : Nat) => pI p)), a, b, c])
    rfl (Itb_genF hG hf (Ev_fn 3 2 hG hf (EvL_cons (by walk_at "m_go") EvL_nil) (cl_strip hG x hx) (by decide))) rfl itemE ⟨rfl, _, _, _, rfl⟩ ?_ ?_
  · rintro i ⟨p, c⟩ vs cs hq ⟨rfl, a0, b0, c0, rfl⟩
    have q1 : 1 ≤ c.length := (hesc (p, c) (List.mem_of_getElem? hq)).1
    have q2 : c.length ≤ 2 := (hesc (p, c) (List.mem_of_getElem? hq)).2.1
    have q3 : okS c = true := (hesc (p, c) (List.mem_of_getElem? hq)).2.2
    have hpo := fun h : c = [41] => hpop i p (by rw [← h]; exact hq)
    obtain ⟨b1, b2, b3, b4, b5, b6⟩ := rFold_bound ((escs (stripF x)).take i) rInit 3 (by simp [rInit]) (by simp [rInit]) (by intro z hz; cases hz)
    have hel : ((escs (stripF x)).take i).length ≤ 201 := by
      have := esc_len (stripF x) 0 false
      change (escs (stripF x)).length ≤ _ at this
      rw [List.length_take]; omega
    generalize ((escs (stripF x)).take i).foldl rStep rInit = s at b1 b2 b3 b4 b5 b6 hpo
    have b4' : s.kept.length ≤ 201 := by simp [rInit] at b4 hel ⊢; omega
    have b5' : s.made.length ≤ 201 := by simp [rInit] at b5 hel ⊢; omega
    have b6' : s.places.length ≤ 201 := by simp [rInit] at b6 hel ⊢; omega
    have b1' : s.here.length ≤ 807 := by omega
    have hlast : c.getLast? = some (lastN c) := last_ne (by intro h; rw [h] at q1; simp at q1) 0
    refine ⟨_, _, Asg_tuple (AsgL_cons (Asg_name 6 hf l6) (AsgL_cons (Asg_name 7 hf l7) AsgL_nil)), ?_⟩
    dsimp only [List.set]
    refine Ex_expr (EvS_append 5 hf l5 rfl (d := pI p) (by walk_at "m_go") (by simp; omega)) ?_ hf nr_none
    dsimp only [List.set]
    have hpl : s.places.map (fun (p : Nat) => pI p) ++ [pI p] = (s.places ++ [p]).map fun (p : Nat) => pI p := by simp
    rw [hpl]
    walk_at "s_if"
    · intro h1
      refine Ex_expr (EvS_append 3 hf l3 rfl (d := .tuple [pS s.here, pI s.off]) (Ev_tuple (ds := [pS s.here, pI s.off]) (EvL_cons (by walk_at "m_go") (EvL_cons (by walk_at "m_go") EvL_nil)) (Nat.le_trans (Nat.le_refl 2) (by decide))) (by simp; omega)) (Ex_nil ⟨rfl, some (dI p), some (dS c), c0, ?_⟩) hf nr_none
      dsimp only [List.set]
      have : rStep s (p, c) = { s with places := s.places ++ [p], kept := s.kept ++ [(s.here, s.off)] } := by unfold rStep; simp only [h1, if_true]
      rw [this]; simp
    · intro h1
      walk_at "s_if"
      · intro h2
        have hne := hpo (by simpa using h2)
        rcases List.eq_nil_or_concat s.kept with h | ⟨r, z, hz⟩
        · exact absurd h hne
        · rw [List.concat_eq_append] at hz
          have hst : rStep s (p, c) = { s with places := s.places ++ [p], here := z.1, off := z.2, kept := r } := by
            unfold rStep; simp only [h1, h2, if_true, Bool.false_eq_true, if_false, hz]; simp
          refine Ex_assignS (EvS_pop (ds := r.map fun z => .tuple [pS z.1, pI z.2]) (d := .tuple [pS z.1, pI z.2]) 3 hf l3 (by rw [hz]; simp) (by rw [hz] at b4'; simp at b4' ⊢; omega)) (Asg_tuple (ds := [pS z.1, pI z.2]) (AsgL_cons (Asg_name 1 hf l1) (AsgL_cons (Asg_name 2 hf l2) AsgL_nil))) ?_
          dsimp only [List.set]
          refine Ex_nil ⟨rfl, some (dI p), some (dS c), c0, ?_⟩
          rw [hst]
      · intro h2
        refine' Ex_if (c := isMk c) (Tr_cmp (a := dS c) (b := dT [pS [61], pS [35], pS [33], pS [92]]) ?_ (Ev_tuple (ds := [pS [61], pS [35], pS [33], pS [92]]) (EvL_cons ?_ (EvL_cons ?_ (EvL_cons ?_ (EvL_cons ?_ EvL_nil)))) ?_) ?_) ?_ ?_
        all_goals try walk_at "m_go"
        · exact Nat.le_trans (Nat.le_refl 4) (by decide)
        · rw [← any_mk]
          exact op_inT (okS_lay q3) (by decide +kernel) (by simp [PyData.depth])
        · intro h3
          have hmk : c = [61] ∨ c = [35] ∨ c = [33] ∨ c = [92] := by
            unfold isMk at h3
            simp at h3
            rcases h3 with h | h | h | h
            · exact .inl h.symm
            · exact .inr (.inl h.symm)
            · exact .inr (.inr (.inl h.symm))
            · exact .inr (.inr (.inr h.symm))
          dsimp only [List.append, List.cons_append, List.nil_append]
          refine' Ex_assign 8 hf l8 (av := dI (baseM c)) (Ev_dict4 (d1 := pI 33206) (d2 := pI 17407) (d3 := pI 28159) (d4 := pI 41471) ?_ ?_ ?_ ?_ ?_ ?_ ?_ ?_ ?_ ?_) ?_
          all_goals try walk_at "m_go"
          · rcases hmk with rfl | rfl | rfl | rfl
            · exact .inl ⟨rfl, rfl⟩
            · exact .inr (.inl ⟨rfl, rfl⟩)
            · exact .inr (.inr (.inl ⟨rfl, rfl⟩))
            · exact .inr (.inr (.inr ⟨rfl, rfl⟩))
          dsimp only [List.set]
          have hst : rStep s (p, c) = { s with places := s.places ++ [p], made := s.made ++ [(p, s.here, modeF c s.off s.made.length)] } := by
            unfold rStep; simp only [h1, h2, h3, if_true, Bool.false_eq_true, if_false]
          have fin : ∀ (m : Int), m + s.made.length * 65536 = modeF c s.off s.made.length → Ex pr w Λ F_law_read 3 [some (dS x), some (dS s.here), some (dI s.off), some (.own (s.kept.map fun z => .tuple [pS z.1, pI z.2])), some (.own (s.made.map rowR)), some (.own ((s.places ++ [p]).map fun (p : Nat) => pI p)), some (dI p), some (dS c), some (dI m)] []
              ((match ((dBody (stmtAt 56)).getD 5 (.Pass ⟨0, 0, 0, 0⟩)) with | .For _ _ [_, .If _ _ [.If _ _ [.If _ b _ _] _] _] _ _ => b | _ => []).drop 2) (fun o => match o with
                | .next vs cs => cs = [] ∧ ∃ a b cc, vs = [some (dS x), some (dS (rStep s (p, c)).here), some (dI (rStep s (p, c)).off), some (.own ((rStep s (p, c)).kept.map fun z => .tuple [pS z.1, pI z.2])), some (.own ((rStep s (p, c)).made.map rowR)), some (.own ((rStep s (p, c)).places.map fun (p : Nat) => pI p)), a, b, cc]
                | .cont vs cs => cs = [] ∧ ∃ a b cc, vs = [some (dS x), some (dS (rStep s (p, c)).here), some (dI (rStep s (p, c)).off), some (.own ((rStep s (p, c)).kept.map fun z => .tuple [pS z.1, pI z.2])), some (.own ((rStep s (p, c)).made.map rowR)), some (.own ((rStep s (p, c)).places.map fun (p : Nat) => pI p)), a, b, cc]
                | _ => False) := fun m hm => by
            show Ex _ _ _ _ _ _ _ [_, _] _
            refine Ex_aug 8 hf l8 rfl rfl (b := dI ((s.made.length : Int) * 65536)) (Ev_BinOp (Ev_look l4 rfl rfl ?_) (by walk_at "m_go") (op_mul (IntMulOk.of_right (by decide)))) op_iadd ?_
            · dsimp only [List.set]
              refine (Ev_callB (by walk_at "m_go") (EvL_cons (by walk_at "m_go") EvL_nil) (op_lenL (l := s.made.map rowR) (by simp; omega))).eq ?_
              simp
            dsimp only [List.set]
            rw [hm]
            refine Ex_expr (EvS_append 4 hf l4 rfl (d := rowR (p, s.here, modeF c s.off s.made.length)) (Ev_tuple (ds := [pI p, pS s.here, pS (jn [] (fmSigns (modeF c s.off s.made.length))), .bool (Builtin.bitAnd (modeF c s.off s.made.length) 61440 == 16384)]) (EvL_cons (by walk_at "m_go") (EvL_cons (by walk_at "m_go") (EvL_cons ?_ (EvL_cons ?_ EvL_nil)))) (Nat.le_trans (Nat.le_refl 4) (by decide))) (by simp; omega)) (Ex_nil ⟨rfl, some (dI p), some (dS c), some (dI (modeF c s.off s.made.length)), ?_⟩) hf nr_none
            · exact Ev_fn 47 2 hG hf (EvL_cons (by walk_at "m_go") EvL_nil) (cl_filemode hG _) (by decide)
            · exact Ev_fn 33 2 hG hf (EvL_cons (by walk_at "m_go") EvL_nil) (cl_isdir hG _) (by decide)
            · dsimp only [List.set]
              rw [hst]; simp
          walk_at "s_if"
          · intro h4
            have hn : c ≠ [92] := by simpa using h4
            refine Ex_assign 8 hf l8 (av := dI (Builtin.bitAnd (baseM c) 61440 + Builtin.bitAnd (Builtin.bitAnd (baseM c) 4095) (Builtin.bitNot s.off))) (Ev_BinOp (Ev_fn 25 1 hG hf (EvL_cons (by walk_at "m_go") EvL_nil) (cl_ifmt hG _) (by decide)) (Ev_BinOp (Ev_fn 24 1 hG hf (EvL_cons (by walk_at "m_go") EvL_nil) (cl_imode hG _) (by decide)) (Ev_un (by walk_at "m_go") op_inv) op_band) op_add) ?_
            dsimp only [List.set]
            exact fin _ (by unfold modeF; rw [if_neg hn])
          · intro h4
            have hn : c = [92] := by simpa using h4
            exact fin _ (by unfold modeF; rw [if_pos hn])
        · intro h3
          dsimp only [List.append, List.cons_append, List.nil_append]
          refine' Ex_if (c := isDig c) ((Tr_andN (b := ((c.length : Int) == 1)) (c := isDig c && true) (Tr_cmp ?_ ?_ op_eq) (fun hone => Tr_andN (b := isDig c) ?_ fun _ => Tr_and0)).eq ?_) ?_ ?_
          · refine Ev_callB (by walk_at "m_go") (EvL_cons (by walk_at "m_go") EvL_nil) (op_lenS (by omega))
          · walk_at "m_go"
          · obtain ⟨d, rfl⟩ := List.length_eq_one_iff.mp (show c.length = 1 by simp at hone; omega)
            refine (Tr_cmp (by walk_at "m_go") (by walk_at "m_go") op_inS).eq ?_
            exact dig_mem d
          · cases hd : isDig c with
            | false => simp
            | true =>
              unfold isDig at hd
              split at hd
              · simp
              · cases hd
          · intro h4
            have h4' := h4
            unfold isDig at h4'
            split at h4'
            · rename_i d
              have hd : 48 ≤ d ∧ d ≤ 55 := by simpa using h4'
              refine Ex_assign 2 hf l2 (av := dI (((s.off * 8 + (d - 48)) % 4096 : Nat) : Int)) (Ev_BinOp (a := dI ((s.off * 8 + (d - 48) : Nat) : Int)) ((Ev_BinOp (Ev_BinOp (by walk_at "m_go") (by walk_at "m_go") (op_mulN 8 (by decide +kernel))) (Ev_callT (by walk_at "m_go") (EvL_cons (by walk_at "m_go") EvL_nil) (op_int (digit_int d hd) (by simp))) op_add).eq ?_) (by walk_at "m_go") (op_modN 4096 (by decide))) ?_
              · exact congrArg dI (Int.natCast_add _ _).symm
              dsimp only [List.set]
              refine Ex_nil ⟨rfl, some (dI p), some (dS [d]), c0, ?_⟩
              have hst : rStep s (p, [d]) = { s with places := s.places ++ [p], off := (s.off * 8 + (d - 48)) % 4096 } := by
                unfold rStep; simp only [h1, h2, h3, h4, if_true, Bool.false_eq_true, if_false]; rfl
              rw [hst]
            · cases h4'
          · intro h4
            walk_at "s_if"
            · intro h5
              refine Ex_assign 1 hf l1 (Ev_fn 21 3 hG hf (EvL_cons (Ev_fn 19 3 hG hf (EvL_cons (by walk_at "m_go") (EvL_cons (by walk_at "m_go") EvL_nil)) (cl_join hG s.here [46, 46] (by simp; omega)) (by decide)) EvL_nil) (cl_normpath hG _ ?_) (by decide)) ?_
              · have := joinF_len s.here [46, 46]; simp at this; omega
              dsimp only [List.set]
              refine Ex_nil ⟨rfl, some (dI p), some (dS c), c0, ?_⟩
              have hst : rStep s (p, c) = { s with places := s.places ++ [p], here := normF (joinF s.here [46, 46]) } := by
                unfold rStep; simp only [h1, h2, h3, h4, h5, if_true, Bool.false_eq_true, if_false]
              rw [hst]
            · intro h5
              refine Ex_assign 1 hf l1 (Ev_fn 21 3 hG hf (EvL_cons (Ev_fn 19 3 hG hf (EvL_cons (by walk_at "m_go") (EvL_cons (Ev_lastS (by walk_at "m_go") (by omega) hlast) EvL_nil)) (cl_join hG s.here [lastN c] (by simp; omega)) (by decide)) EvL_nil) (cl_normpath hG _ ?_) (by decide)) ?_
              · have := joinF_len s.here [lastN c]; simp at this; omega
              dsimp only [List.set]
              refine Ex_nil ⟨rfl, some (dI p), some (dS c), c0, ?_⟩
              have hst : rStep s (p, c) = { s with places := s.places ++ [p], here := normF (joinF s.here [lastN c]) } := by
                unfold rStep; simp only [h1, h2, h3, h4, h5, if_true, Bool.false_eq_true, if_false]
              rw [hst]
  · rintro vs cs ⟨rfl, a0, b0, c0, rfl⟩
    change Ex _ _ _ _ _ [some (dS x), some (dS (readF x).here), some (dI (readF x).off), some (.own ((readF x).kept.map fun z => .tuple [pS z.1, pI z.2])), some (.own ((readF x).made.map rowR)), some (.own ((readF x).places.map fun (p : Nat) => pI p)), a0, b0, c0] _ _ _
    refine Ex_freeze l4 rfl ?_
    dsimp only [List.set]
    refine Ex_freeze l5 rfl ?_
    dsimp only [List.set]
    exact Ex_ret (Ev_tuple (ds := [.list ((readF x).made.map rowR), .list ((readF x).places.map fun (p : Nat) => pI p)]) (EvL_cons (by walk_at "m_go") (EvL_cons (by walk_at "m_go") EvL_nil)) (Nat.le_trans (Nat.le_refl 2) (by decide))) (.inl rfl)
end
end Mine
end
section
set_option Elab.async false
set_option linter.unusedVariables false
namespace Mine

/-- pieces, each with the place of its last sign -/
noncomputable def posP : Nat → List (List Nat) → List (Nat × List Nat)
  | _, [] => []
  | p, c :: r => (p + c.length - 1, c) :: posP (p + c.length) r
noncomputable def wfP : List (List Nat) → Prop
  | [] => True
  | c :: r => ((∃ a, c = [92, a]) ∨ (∃ a, a ≠ 92 ∧ c = [a]) ∨ (c = [92] ∧ r = [])) ∧ wfP r
noncomputable def goP : List (List Nat) → Option (List (List Nat)) → List (List Nat) → List (List Nat)
  | acc, none, [] => acc
  | acc, some pend, [] => acc ++ pend
  | acc, none, c :: r => if c = [34] then goP acc (some [c]) r else goP (acc ++ [c]) none r
  | acc, some pend, c :: r => if c = [34] then goP acc none r else goP acc (some (pend ++ [c])) r

theorem cut_cases (x : List Nat) : x = [] ∨ (∃ c r, x = 92 :: c :: r) ∨ (∃ c r, x = c :: r ∧ (c ≠ 92 ∨ r = [])) := by
  match x with
  | [] => exact .inl rfl
  | [c] => exact .inr (.inr ⟨c, [], rfl, .inr rfl⟩)
  | c :: d :: r =>
    by_cases h : c = 92
    · subst h; exact .inr (.inl ⟨d, r, rfl⟩)
    · exact .inr (.inr ⟨c, _, rfl, .inl h⟩)
theorem cut_nil : cutP [] = [] := by rw [cutP]
theorem cut_ind {P : List Nat → Prop} (h0 : P []) (h1 : ∀ c r, P r → P (92 :: c :: r)) (h2 : ∀ c r, (c ≠ 92 ∨ r = []) → P r → P (c :: r)) (x : List Nat) : P x := by
  have : ∀ n x, x.length ≤ n → P x := by
    intro n
    induction n with
    | zero => intro x hx; have : x = [] := List.eq_nil_of_length_eq_zero (by omega); subst this; exact h0
    | succ n ih =>
      intro x hx
      rcases cut_cases x with rfl | ⟨c, r, rfl⟩ | ⟨c, r, rfl, h⟩
      · exact h0
      · exact h1 c r (ih r (by simp at hx; omega))
      · exact h2 c r h (ih r (by simp at hx; omega))
  exact this _ x (Nat.le_refl _)
theorem esc_pos (x : List Nat) : ∀ p, esc p false x = posP p (cutP x) := by
  induction x using cut_ind with
  | h0 => intro p; rw [cut_nil]; simp [esc, posP]
  | h1 c r ih => intro p; rw [cutP_bs]; simp [esc, posP]; exact ih _
  | h2 c r h ih =>
    intro p
    rw [cutP_one c r h]
    by_cases hc : c = 92
    · have hr : r = [] := h.resolve_left (fun x => x hc)
      subst hc; subst hr; simp [esc, posP, cut_nil]
    · simp [esc, posP, hc]; exact ih _
theorem wf_cut (x : List Nat) : wfP (cutP x) := by
  induction x using cut_ind with
  | h0 => rw [cut_nil]; trivial
  | h1 c r ih => rw [cutP_bs]; exact ⟨.inl ⟨c, rfl⟩, ih⟩
  | h2 c r h ih =>
    rw [cutP_one c r h]
    refine ⟨.inr ?_, ih⟩
    by_cases hc : c = 92
    · have hr : r = [] := h.resolve_left (fun x => x hc)
      subst hc; subst hr; exact .inr ⟨rfl, cut_nil⟩
    · exact .inl ⟨c, hc, rfl⟩
theorem flat_cut (x : List Nat) : (cutP x).flatten = x := by
  induction x using cut_ind with
  | h0 => rw [cut_nil]; rfl
  | h1 c r ih => rw [cutP_bs]; simp [ih]
  | h2 c r h ih => rw [cutP_one c r h]; simp [ih]
theorem cut_flat : ∀ ps, wfP ps → cutP ps.flatten = ps
  | [], _ => cut_nil
  | c :: r, ⟨h, hr⟩ => by
    have ih := cut_flat r hr
    rcases h with ⟨a, rfl⟩ | ⟨a, ha, rfl⟩ | ⟨rfl, rfl⟩
    · show cutP (92 :: a :: r.flatten) = _; rw [cutP_bs, ih]
    · show cutP (a :: r.flatten) = _; rw [cutP_one _ _ (.inl ha), ih]
    · exact cutP_end 92
theorem wf_sub {ps qs : List (List Nat)} (h : qs.Sublist ps) : wfP ps → wfP qs := by
  induction h with
  | slnil => exact id
  | cons c h ih => exact fun w => ih w.2
  | cons_cons c h ih =>
    rintro ⟨w, w2⟩
    refine ⟨?_, ih w2⟩
    rcases w with w | w | ⟨w, rfl⟩
    · exact .inl w
    · exact .inr (.inl w)
    · exact .inr (.inr ⟨w, List.sublist_nil.mp h⟩)
theorem keep_sub (m : Nat) : ∀ (r : List (List Nat)) (s : Nat × List (List Nat)), ∃ qs, (r.foldl (keepStep m) s).2 = s.2 ++ qs ∧ qs.Sublist r
  | [], s => ⟨[], by simp, .slnil⟩
  | c :: r, s => by
    obtain ⟨qs, e, hs⟩ := keep_sub m r (keepStep m s c)
    rw [List.foldl_cons, e]
    unfold keepStep
    split
    · exact ⟨qs, rfl, hs.cons c⟩
    · split
      · exact ⟨c :: qs, by simp, hs.cons_cons c⟩
      · exact ⟨qs, rfl, hs.cons c⟩
theorem keep_go : ∀ (r : List (List Nat)),
    (∀ s acc m, s % 2 = 0 → m = s + r.count [34] / 2 * 2 → (r.foldl (keepStep m) (s, acc)).2 = goP acc none r) ∧
    (∀ s acc pend m, s % 2 = 1 → 1 ≤ r.count [34] → m = s + 1 + (r.count [34] - 1) / 2 * 2 → (r.foldl (keepStep m) (s, acc)).2 = goP acc (some pend) r) ∧
    (∀ s acc pend m, s = m → m % 2 = 0 → r.count [34] = 0 → (r.foldl (keepStep m) (s, acc ++ pend)).2 = goP acc (some pend) r)
  | [] => by
    refine ⟨fun s acc m _ _ => rfl, fun s acc pend m _ h => ?_, fun s acc pend m _ _ _ => rfl⟩
    simp at h
  | c :: r => by
    obtain ⟨i1, i2, i3⟩ := keep_go r
    by_cases hc : c = [34]
    · subst hc
      have hcount : ([34] :: r).count ([34] : List Nat) = r.count [34] + 1 := by simp
      rw [hcount]
      refine ⟨fun s acc m h1 h2 => ?_, fun s acc pend m h1 h2 h3 => ?_, fun s acc pend m h1 h2 h3 => ?_⟩
      · rw [List.foldl_cons]
        simp only [goP, if_true]
        by_cases h0 : r.count [34] = 0
        · rw [h0] at h2
          have hm : m = s := by omega
          subst hm
          have : keepStep m (m, acc) [34] = (m, acc ++ [[34]]) := by simp [keepStep, h1]
          rw [this]
          exact i3 _ _ _ _ rfl h1 h0
        · have : keepStep m (s, acc) [34] = (s + 1, acc) := by
            have : s < m := by omega
            simp [keepStep, this]
          rw [this]
          exact i2 _ _ _ _ (by omega) (by omega) (by omega)
      · rw [List.foldl_cons]
        simp only [goP, if_true]
        have : keepStep m (s, acc) [34] = (s + 1, acc) := by
          have : s < m := by omega
          simp [keepStep, this]
        rw [this]
        exact i1 _ _ _ (by omega) (by omega)
      · omega
    · have hcount : (c :: r).count ([34] : List Nat) = r.count [34] := by
        rw [List.count_cons]; simp [hc]
      rw [hcount]
      have hb : (c == [34]) = false := by simpa using hc
      refine ⟨fun s acc m h1 h2 => ?_, fun s acc pend m h1 h2 h3 => ?_, fun s acc pend m h1 h2 h3 => ?_⟩
      · rw [List.foldl_cons]
        simp only [goP, if_neg hc]
        have : keepStep m (s, acc) c = (s, acc ++ [c]) := by simp [keepStep, hb, h1]
        rw [this]
        exact i1 _ _ _ h1 h2
      · rw [List.foldl_cons]
        simp only [goP, if_neg hc]
        have : keepStep m (s, acc) c = (s, acc) := by simp [keepStep, hb, h1]
        rw [this]
        exact i2 _ _ _ _ h1 h2 h3
      · rw [List.foldl_cons]
        simp only [goP, if_neg hc]
        have : keepStep m (s, acc ++ pend) c = (s, acc ++ (pend ++ [c])) := by subst h1; simp [keepStep, hb, h2]
        rw [this]
        exact i3 _ _ _ _ h1 h2 h3
theorem pieces_go (x : List Nat) : piecesF x = goP [] none (cutP x) := (keep_go (cutP x)).1 0 [] _ rfl (by simp [marksF])
theorem go_free : ∀ (r acc : List (List Nat)), [34] ∉ r → goP acc none r = acc ++ r
  | [], acc, _ => by simp [goP]
  | c :: r, acc, h => by
    rw [goP, if_neg (fun e => h (by simp [e])), go_free r _ (fun e => h (by simp [e]))]
    simp
theorem jn_flat : ∀ l : List (List Nat), jn [] l = l.flatten
  | [] => rfl
  | [a] => by simp [jn]
  | a :: b :: r => by rw [jn, jn_flat (b :: r)]; simp
noncomputable def finQ (x : List Nat) (s : SQ) : List Nat := jn [] (if s.start < x.length then s.res ++ [x.drop s.start] else s.res)
theorem finQ_eq (x : List Nat) (s : SQ) : finQ x s = s.res.flatten ++ x.drop s.start := by
  unfold finQ
  rw [jn_flat]
  split
  · simp
  · rw [List.drop_eq_nil_of_le (by omega)]; simp
theorem sq_go (x : List Nat) : ∀ (r : List (List Nat)) (pre : List Nat) (acc : List (List Nat)), x = pre ++ r.flatten →
    (∀ start res, start ≤ pre.length → res.flatten ++ pre.drop start = acc.flatten → finQ x ((posP pre.length r).foldl (sqStep x) ⟨start, none, res⟩) = (goP acc none r).flatten) ∧
    (∀ start res o pend, start ≤ o → o ≤ pre.length → res.flatten ++ (x.take o).drop start = acc.flatten → pre.drop o = pend.flatten →
      finQ x ((posP pre.length r).foldl (sqStep x) ⟨start, some o, res⟩) = (goP acc (some pend) r).flatten)
  | [], pre, acc, hx => by
    have hx : x = pre := by simpa using hx
    subst hx
    refine ⟨fun start res h1 h2 => ?_, fun start res o pend h1 h2 h3 h4 => ?_⟩
    · rw [show posP x.length [] = [] from rfl, List.foldl_nil, finQ_eq]; exact h2
    · rw [show posP x.length [] = [] from rfl, List.foldl_nil, finQ_eq]
      simp only [goP, List.flatten_append]
      rw [← h3, ← h4, List.append_assoc]
      congr 1
      conv => lhs; rw [← List.take_append_drop o x]
      rw [List.drop_append_of_le_length (by rw [List.length_take]; omega)]
  | c :: r, pre, acc, hx => by
    have hx2 : x = (pre ++ c) ++ r.flatten := by rw [hx]; simp
    have hlen : (pre ++ c).length = pre.length + c.length := by simp
    have ih := fun acc => sq_go x r (pre ++ c) acc hx2
    rw [hlen] at ih
    refine ⟨fun start res h1 h2 => ?_, fun start res o pend h1 h2 h3 h4 => ?_⟩
    · rw [posP, List.foldl_cons]
      by_cases hc : c = [34]
      · subst hc
        rw [goP, if_pos rfl]
        have : sqStep x ⟨start, none, res⟩ (pre.length + ([34] : List Nat).length - 1, [34]) = ⟨start, some pre.length, res⟩ := by simp [sqStep]
        rw [this]
        refine (ih acc).2 _ _ _ _ h1 (by simp) ?_ (by simp)
        rw [← h2, hx]; simp
      · have hb : (c == [34]) = false := by simpa using hc
        rw [goP, if_neg hc]
        have : sqStep x ⟨start, none, res⟩ (pre.length + c.length - 1, c) = ⟨start, none, res⟩ := by simp [sqStep, hb]
        rw [this]
        refine (ih _).1 _ _ (by omega) ?_
        rw [List.drop_append_of_le_length h1, ← List.append_assoc, h2]; simp
    · rw [posP, List.foldl_cons]
      by_cases hc : c = [34]
      · subst hc
        rw [goP, if_pos rfl]
        have : sqStep x ⟨start, some o, res⟩ (pre.length + ([34] : List Nat).length - 1, [34]) = ⟨pre.length + 1, none, if start != o then res ++ [(x.take o).drop start] else res⟩ := by simp [sqStep]
        rw [this]
        refine (ih acc).1 _ _ (by simp) ?_
        rw [List.drop_eq_nil_of_le (as := pre ++ [34]) (by simp), List.append_nil, ← h3]
        by_cases he : start = o
        · subst he
          rw [List.drop_eq_nil_of_le (by rw [List.length_take]; omega)]; simp
        · simp [he]
      · have hb : (c == [34]) = false := by simpa using hc
        rw [goP, if_neg hc]
        have : sqStep x ⟨start, some o, res⟩ (pre.length + c.length - 1, c) = ⟨start, some o, res⟩ := by simp [sqStep, hb]
        rw [this]
        refine (ih _).2 _ _ _ _ h1 (by omega) h3 ?_
        rw [List.drop_append_of_le_length h2, h4]; simp
theorem strip_flat (x : List Nat) : stripF x = (piecesF x).flatten := by
  rw [pieces_go]
  unfold stripF
  split
  · have := ((sq_go x (cutP x) [] [] (by simp [flat_cut])).1 0 [] (by simp) (by simp))
    rw [← this]
    unfold finQ sqAll
    rw [show escs x = esc 0 false x from rfl, esc_pos]
    rfl
  · rename_i h
    rw [go_free _ _ fun hm => h (by rw [← flat_cut x]; exact List.mem_flatten.mpr ⟨_, hm, by simp⟩)]
    simp [flat_cut]
theorem wf_pieces (x : List Nat) : wfP (piecesF x) := by
  obtain ⟨qs, e, hs⟩ := keep_sub (marksF (cutP x)) (cutP x) (0, [])
  unfold piecesF
  rw [e]
  exact wf_sub (by simpa using hs) (wf_cut x)
/-- A: what the walk reads of a line without its quoted names is the law's own pieces -/
theorem cut_strip (x : List Nat) : cutP (stripF x) = piecesF x := by rw [strip_flat]; exact cut_flat _ (wf_pieces x)
theorem escs_strip (x : List Nat) : escs (stripF x) = posP 0 (piecesF x) := by
  rw [show escs (stripF x) = esc 0 false (stripF x) from rfl, esc_pos, cut_strip]
theorem pos_snd : ∀ (ps : List (List Nat)) p, (posP p ps).map (·.2) = ps
  | [], _ => rfl
  | c :: r, p => by simp [posP, pos_snd r]
theorem places_pos (ps : List (List Nat)) (h : ∀ p ∈ ps, 1 ≤ p.length) : placesF ps = (posP 0 ps).map fun q => (q.1 : Int) := by
  have : ∀ (ps : List (List Nat)) (p : Nat) (acc : List Int), (∀ p ∈ ps, 1 ≤ p.length) → (ps.foldl (fun (s : Int × List Int) c => (s.1 + c.length, s.2 ++ [s.1 + c.length])) ((p : Int) - 1, acc)).2 = acc ++ (posP p ps).map fun q => (q.1 : Int) := by
    intro ps
    induction ps with
    | nil => intro p acc _; simp [posP]
    | cons c r ih =>
      intro p acc h
      have hc := h c (by simp)
      have e : (p : Int) - 1 + c.length = ((p + c.length : Nat) : Int) - 1 := by omega
      rw [List.foldl_cons]
      simp only []
      rw [e, ih _ _ fun q hq => h q (by simp [hq])]
      simp only [posP, List.map_cons, List.append_assoc, List.singleton_append]
      congr 2
      omega
  exact (this ps 0 [] h).trans (by simp)
theorem wf_len : ∀ (ps : List (List Nat)), wfP ps → ∀ p ∈ ps, 1 ≤ p.length ∧ p.length ≤ 2
  | [], _, p, h => by simp at h
  | c :: r, ⟨w, w2⟩, p, h => by
    rcases List.mem_cons.mp h with rfl | h
    · rcases w with ⟨a, rfl⟩ | ⟨a, _, rfl⟩ | ⟨rfl, _⟩ <;> simp
    · exact wf_len r w2 p h
end Mine
end
section
set_option Elab.async false
set_option linter.unusedVariables false
namespace Mine
noncomputable def dl : Int → List (List Nat) → List Int
  | _, [] => []
  | d, c :: r => depthStep d c :: dl (depthStep d c) r
theorem depths_dl (ps : List (List Nat)) : depthsF ps = 0 :: dl 0 ps := by
  have : ∀ (ps : List (List Nat)) (acc : List Int) (d : Int), ps.foldl (fun ds c => ds ++ [depthStep (ds.getLastD 0) c]) (acc ++ [d]) = acc ++ d :: dl d ps := by
    intro ps
    induction ps with
    | nil => intro acc d; rfl
    | cons c r ih =>
      intro acc d
      rw [List.foldl_cons]
      have : (acc ++ [d]).getLastD 0 = d := by simp
      rw [this, ih]
      simp [dl]
  exact this ps [] 0
theorem dl_get : ∀ (ps : List (List Nat)) (d : Int) (k : Nat), k < ps.length → (d :: dl d ps).getD (k + 1) 0 = depthStep ((d :: dl d ps).getD k 0) (ps.getD k [])
  | [], d, k, h => by simp at h
  | c :: r, d, 0, h => by simp [dl]
  | c :: r, d, k + 1, h => by
    have := dl_get r (depthStep d c) k (by simpa using h)
    simpa [dl] using this
theorem depths_get (ps : List (List Nat)) (k : Nat) (h : k < ps.length) : (depthsF ps).getD (k + 1) 0 = depthStep ((depthsF ps).getD k 0) (ps.getD k []) := by
  rw [depths_dl]; exact dl_get ps 0 k h
noncomputable def minF (l : List Int) : Int := l.foldl min 0
theorem minF_le : ∀ (l : List Int) (a : Int), l.foldl min a ≤ a ∧ ∀ x ∈ l, l.foldl min a ≤ x
  | [], a => ⟨Int.le_refl _, by simp⟩
  | b :: r, a => by
    obtain ⟨h1, h2⟩ := minF_le r (min a b)
    refine ⟨by rw [List.foldl_cons]; omega, fun x hx => ?_⟩
    rw [List.foldl_cons]
    rcases List.mem_cons.mp hx with rfl | hx
    · omega
    · exact h2 x hx
theorem minF_in : ∀ (l : List Int) (a : Int), l.foldl min a = a ∨ l.foldl min a ∈ l
  | [], a => .inl rfl
  | b :: r, a => by
    rw [List.foldl_cons]
    rcases minF_in r (min a b) with h | h
    · rw [h]
      rcases Int.le_total a b with e | e
      · exact .inl (Int.min_eq_left e)
      · exact .inr (by rw [Int.min_eq_right e]; simp)
    · exact .inr (by simp [h])
noncomputable def takenF (ps : List (List Nat)) : Bool := minF (depthsF ps) == 0 && (depthsF ps).getLastD 0 == 0
theorem minF_mem (ps : List (List Nat)) : minF (depthsF ps) ∈ depthsF ps ∧ ∀ a ∈ depthsF ps, minF (depthsF ps) ≤ a := by
  refine ⟨?_, (minF_le _ _).2⟩
  rcases minF_in (depthsF ps) 0 with h | h
  · show List.foldl min 0 _ ∈ _
    rw [h, depths_dl]; simp
  · exact h
theorem taken_nonneg {ps : List (List Nat)} (h : takenF ps = true) : ∀ k, 0 ≤ (depthsF ps).getD k 0 := by
  intro k
  unfold takenF at h
  have h1 : minF (depthsF ps) = 0 := by simpa using (Bool.and_eq_true _ _ |>.mp h).1
  by_cases hk : k < (depthsF ps).length
  · have := (minF_mem ps).2 ((depthsF ps).getD k 0) (by
      have : (depthsF ps).getD k 0 = (depthsF ps)[k] := by simp [List.getD, hk]
      rw [this]; exact List.getElem_mem hk)
    omega
  · simp [List.getD, List.getElem?_eq_none (Nat.le_of_not_lt hk)]
theorem chk_dl : ∀ (ps : List (List Nat)) (d : Int), 0 ≤ d → chkAux d ps = (decide (∀ e ∈ dl d ps, 0 ≤ e) && ((dl d ps).getLastD d == 0))
  | [], d, _ => by simp [chkAux, dl]
  | c :: r, d, hd => by
    unfold chkAux
    have hl : ∀ e, (dl d (c :: r)).getLastD e = (dl (depthStep d c) r).getLastD (depthStep d c) := by
      intro e
      simp only [dl]
      cases h : dl (depthStep d c) r <;> rfl
    rw [hl]
    by_cases h1 : c = [40]
    · subst h1
      have e : depthStep d [40] = d + 1 := by simp [depthStep]
      simp only [beq_self_eq_true, if_true]
      rw [e, chk_dl r (d + 1) (by omega)]
      congr 1
      simp only [dl, e, List.forall_mem_cons]
      simp [show (0 : Int) ≤ d + 1 by omega]
    · have b1 : (c == [40]) = false := by simpa using h1
      by_cases h2 : c = [41]
      · subst h2
        have e : depthStep d [41] = d - 1 := by simp [depthStep]
        simp only [b1, beq_self_eq_true, if_true]
        rw [e]
        by_cases h3 : d - 1 < 0
        · simp only [h3, if_true]
          simp only [dl, e, List.forall_mem_cons]
          rw [decide_eq_false (fun h => by have := h.1; omega)]; rfl
        · simp only [h3, if_false]
          rw [chk_dl r (d - 1) (by omega)]
          have h4 : (0 : Int) ≤ d - 1 := by omega
          simp only [dl, e, List.forall_mem_cons, h4, true_and]
          rfl
      · have b2 : (c == [41]) = false := by simpa using h2
        have e : depthStep d c = d := by simp [depthStep, b1, b2]
        simp only [b1, b2]
        rw [e]
        show chkAux d r = _
        rw [chk_dl r d hd]
        simp only [dl, e, List.forall_mem_cons]
        simp [hd]
/-- B: what the check takes is what the law takes -/
theorem chk_taken (x : List Nat) : chkF x = takenF (piecesF x) := by
  unfold chkF
  rw [escs_strip, pos_snd, chk_dl _ 0 (Int.le_refl _)]
  unfold takenF
  rw [depths_dl]
  have h2 : (0 :: dl 0 (piecesF x)).getLastD 0 = (dl 0 (piecesF x)).getLastD 0 := by cases dl 0 (piecesF x) <;> rfl
  rw [h2]
  congr 1
  have hm := minF_le (0 :: dl 0 (piecesF x)) 0
  have hi := minF_in (0 :: dl 0 (piecesF x)) 0
  by_cases h : ∀ e ∈ dl 0 (piecesF x), 0 ≤ e
  · rw [decide_eq_true h]
    have : minF (0 :: dl 0 (piecesF x)) = 0 := by
      rcases hi with e | e
      · exact e
      · rcases List.mem_cons.mp e with e | e
        · exact e
        · have := h _ e; have := hm.1; show List.foldl min 0 _ = 0; omega
    rw [this]; rfl
  · rw [decide_eq_false h]
    have : minF (0 :: dl 0 (piecesF x)) ≠ 0 := fun e => h fun y hy => by
      have := hm.2 y (by simp [hy]); have e : List.foldl min 0 (0 :: dl 0 (piecesF x)) = 0 := e; omega
    exact (beq_eq_false_iff_ne.mpr this).symm

/-! the deeds seen from a place, as a stack -/
noncomputable def seenLow (ps : List (List Nat)) (ds : List Int) (k : Nat) (low : Int) : List (List Nat) := ((List.range k).reverse.foldl (seenStep ps ds) (low, [])).2.reverse
theorem seen_acc (ps : List (List Nat)) (ds : List Int) : ∀ (ks : List Nat) (low : Int) (l : List (List Nat)), (ks.foldl (seenStep ps ds) (low, l)).2 = l ++ (ks.foldl (seenStep ps ds) (low, [])).2
  | [], low, l => by simp
  | k :: ks, low, l => by
    rw [List.foldl_cons, List.foldl_cons]
    have h : ∀ l, seenStep ps ds (low, l) k = (min low (ds.getD (k + 1) 0), l ++ (seenStep ps ds (low, []) k).2) := by
      intro l; unfold seenStep; simp only []; split <;> simp
    rw [h l, h [], seen_acc ps ds ks _ (l ++ _), seen_acc ps ds ks _ ([] ++ _)]
    simp
theorem seenLow_succ (ps : List (List Nat)) (ds : List Int) (k : Nat) (low : Int) :
    seenLow ps ds (k + 1) low = seenLow ps ds k (min low (ds.getD (k + 1) 0)) ++ (if ds.getD (k + 1) 0 ≤ low ∧ ps.getD k [] ≠ [41] then [ps.getD k []] else []) := by
  unfold seenLow
  rw [List.range_succ, List.reverse_append, List.reverse_singleton, List.singleton_append, List.foldl_cons]
  have h : seenStep ps ds (low, []) k = (min low (ds.getD (k + 1) 0), if ds.getD (k + 1) 0 ≤ low ∧ ps.getD k [] ≠ [41] then [ps.getD k []] else []) := by
    unfold seenStep; simp only []; split <;> simp
  rw [h, seen_acc, List.reverse_append]
  congr 1
  split <;> simp
noncomputable def stk (S : List (List (List Nat))) (c : List Nat) : List (List (List Nat)) :=
  if c = [40] then (S.headD [] ++ [c]) :: S else if c = [41] then S.tail else (S.headD [] ++ [c]) :: S.tail
noncomputable def stkAt (ps : List (List Nat)) (k : Nat) : List (List (List Nat)) := (ps.take k).foldl stk [[]]
theorem take_succ_getD (ps : List (List Nat)) (k : Nat) (h : k < ps.length) : ps.take (k + 1) = ps.take k ++ [ps.getD k []] := by
  rw [List.take_add_one]; simp [List.getD, h]
theorem stkAt_succ (ps : List (List Nat)) (k : Nat) (h : k < ps.length) : stkAt ps (k + 1) = stk (stkAt ps k) (ps.getD k []) := by
  unfold stkAt; rw [take_succ_getD ps k h, List.foldl_append]; rfl
theorem seenLow_up (ps : List (List Nat)) (ds : List Int) (k : Nat) (low : Int) (h : ds.getD k 0 ≤ low) : seenLow ps ds k low = seenLow ps ds k (ds.getD k 0) := by
  cases k with
  | zero => rfl
  | succ k =>
    rw [seenLow_succ, seenLow_succ]
    rw [Int.min_eq_right h, Int.min_self]
    simp only [h, true_and, Int.le_refl]
theorem stk_seen (ps : List (List Nat)) (hn : ∀ k, 0 ≤ (depthsF ps).getD k 0) : ∀ k, k ≤ ps.length →
    ((stkAt ps k).length : Int) = (depthsF ps).getD k 0 + 1 ∧ ∀ i : Nat, i < (stkAt ps k).length → seenLow ps (depthsF ps) k ((depthsF ps).getD k 0 - i) = (stkAt ps k).getD i []
  | 0, _ => by
    rw [depths_dl]
    refine ⟨by simp [stkAt], fun i hi => ?_⟩
    have : i = 0 := by simp [stkAt] at hi; exact hi
    subst this; rfl
  | k + 1, hk => by
    obtain ⟨hl, hs⟩ := stk_seen ps hn k (by omega)
    rw [stkAt_succ ps k (by omega)]
    have hd := depths_get ps k (by omega)
    have h0 := hn k
    have h1 := hn (k + 1)
    have hcur := hs 0 (by omega)
    obtain ⟨c0, S, hS⟩ : ∃ c0 S, stkAt ps k = c0 :: S := by
      cases h : stkAt ps k with
      | nil => rw [h] at hl; simp only [List.length_nil] at hl; omega
      | cons a b => exact ⟨a, b, rfl⟩
    rw [hS] at hl hs hcur ⊢
    have hcur : seenLow ps (depthsF ps) k ((depthsF ps).getD k 0) = c0 := by simpa using hcur
    generalize hD : (depthsF ps).getD k 0 = D at *
    generalize hD1 : (depthsF ps).getD (k + 1) 0 = D1 at *
    simp only [List.length_cons] at hl
    by_cases c1 : ps.getD k [] = [40]
    · have e : D1 = D + 1 := by rw [hd, c1]; simp [depthStep]
      rw [c1]
      have hst : stk (c0 :: S) [40] = (c0 ++ [[40]]) :: c0 :: S := by simp [stk]
      rw [hst]
      refine ⟨by simp only [List.length_cons]; omega, fun i hi => ?_⟩
      rw [seenLow_succ, hD1, c1]
      cases i with
      | zero =>
        have : (D1 - ((0 : Nat) : Int)) = D1 := by omega
        rw [this, Int.min_self, if_pos ⟨Int.le_refl _, by decide⟩, seenLow_up ps _ k D1 (by omega), hD, hcur]; rfl
      | succ i =>
        rw [if_neg (by rintro ⟨h, _⟩; omega)]
        have := hs i (by simpa using hi)
        rw [show min (D1 - ((i + 1 : Nat) : Int)) D1 = D - (i : Int) by omega, this]
        simp
    · by_cases c2 : ps.getD k [] = [41]
      · have e : D1 = D - 1 := by rw [hd, c2]; simp [depthStep]
        rw [c2]
        have hst : stk (c0 :: S) [41] = S := by simp [stk]
        rw [hst]
        refine ⟨by omega, fun i hi => ?_⟩
        rw [seenLow_succ, hD1, c2]
        rw [if_neg (by rintro ⟨_, h⟩; exact h rfl)]
        have := hs (i + 1) (by simpa using hi)
        rw [show min (D1 - (i : Int)) D1 = D - ((i + 1 : Nat) : Int) by omega, this]
        simp
      · have e : D1 = D := by
          rw [hd]; unfold depthStep
          have b1 : (ps.getD k [] == [40]) = false := by simpa using c1
          have b2 : (ps.getD k [] == [41]) = false := by simpa using c2
          rw [b1, b2]; simp
        have hst : stk (c0 :: S) (ps.getD k []) = (c0 ++ [ps.getD k []]) :: S := by unfold stk; rw [if_neg c1, if_neg c2]; rfl
        rw [hst]
        refine ⟨by simp only [List.length_cons]; omega, fun i hi => ?_⟩
        rw [seenLow_succ, hD1]
        cases i with
        | zero =>
          have : (D1 - ((0 : Nat) : Int)) = D1 := by omega
          rw [this, Int.min_self, if_pos ⟨Int.le_refl _, c2⟩, e, hcur]; rfl
        | succ i =>
          rw [if_neg (by rintro ⟨h, _⟩; omega)]
          have := hs (i + 1) (by simpa using hi)
          rw [show min (D1 - ((i + 1 : Nat) : Int)) D1 = D - ((i + 1 : Nat) : Int) by omega, this]
          simp
theorem seen_stk (ps : List (List Nat)) (hn : ∀ k, 0 ≤ (depthsF ps).getD k 0) (k : Nat) (hk : k ≤ ps.length) : seenF ps (depthsF ps) k = (stkAt ps k).headD [] := by
  obtain ⟨hl, hs⟩ := stk_seen ps hn k hk
  have := hn k
  have h := hs 0 (by omega)
  rw [show (depthsF ps).getD k 0 - ((0 : Nat) : Int) = (depthsF ps).getD k 0 by omega] at h
  rw [show seenF ps (depthsF ps) k = seenLow ps (depthsF ps) k ((depthsF ps).getD k 0) from rfl, h]
  cases stkAt ps k <;> rfl
end Mine
end
section
set_option Elab.async false
set_option linter.unusedVariables false
namespace Mine
noncomputable def okName (m : List Nat) : Prop := ∃ c, c ≠ 47 ∧ c ≠ 46 ∧ m = [c]
structure TInv (t : TS) : Prop where
  root : t.root = [47] ∨ t.root = [47, 47]
  names : ∀ m ∈ t.names, okName m
  len : 4 ≤ t.figs.length
  figs : ∀ f ∈ t.figs, 0 ≤ f ∧ f ≤ 7
theorem dig_inv {p : List Nat} (h : isDig p = true) : ∃ c, p = [c] ∧ 48 ≤ c ∧ c ≤ 55 := by
  unfold isDig at h
  split at h
  · simp at h; exact ⟨_, rfl, h⟩
  · cases h
theorem tinv_step (t : TS) (p : List Nat) (h : TInv t) : TInv (tStep t p) := by
  unfold tStep
  split
  · rename_i hd
    obtain ⟨c, rfl, h1, h2⟩ := dig_inv hd
    refine ⟨h.root, h.names, by simp; have := h.len; omega, fun f hf => ?_⟩
    rcases List.mem_append.mp hf with hf | hf
    · exact h.figs f hf
    · have := List.mem_singleton.mp hf
      subst this; simp; omega
  · split
    · exact ⟨h.root, fun m hm => h.names m (List.dropLast_subset _ hm), h.len, h.figs⟩
    · split
      · exact ⟨.inl rfl, by simp, h.len, h.figs⟩
      · rename_i h47
        split
        · rename_i h46
          refine ⟨h.root, fun m hm => ?_, h.len, h.figs⟩
          rcases List.mem_append.mp hm with hm | hm
          · exact h.names m hm
          · refine ⟨lastN p, by simpa using h47, by have := (Bool.and_eq_true _ _ |>.mp h46).1; simpa using this, List.mem_singleton.mp hm⟩
        · exact h
theorem tAll_snoc (l : List (List Nat)) (p : List Nat) : tAll (l ++ [p]) = tStep (tAll l) p := by simp [tAll]
theorem tinv_all (l : List (List Nat)) : TInv (tAll l) := by
  have : ∀ (l : List (List Nat)) (t : TS), TInv t → TInv (l.foldl tStep t) := by
    intro l
    induction l with
    | nil => exact fun _ h => h
    | cons p r ih => exact fun t h => ih _ (tinv_step t p h)
  refine this l _ ⟨.inr rfl, fun m hm => ⟨99, by decide, by decide, List.mem_singleton.mp hm⟩, by simp, ?_⟩
  intro f hf
  simp at hf
  omega
theorem jn_snoc (s : List Nat) : ∀ (l : List (List Nat)) (b : List Nat), l ≠ [] → jn s (l ++ [b]) = jn s l ++ s ++ b
  | [], b, h => absurd rfl h
  | [a], b, _ => by simp [jn]
  | a :: c :: r, b, _ => by
    show jn s (a :: c :: (r ++ [b])) = _
    rw [jn, jn, show c :: (r ++ [b]) = (c :: r) ++ [b] from rfl, jn_snoc s (c :: r) b (by simp)]
    simp
theorem join_told (t : TS) (h : TInv t) (b : List Nat) (hb : b.head? ≠ some 47) : joinF (toldPath t) b = t.root ++ jn [47] (t.names ++ [b]) := by
  have h1 : (b.head? == some 47) = false := by simpa using hb
  have h2 : (toldPath t).isEmpty = false := by unfold toldPath; rcases h.root with e | e <;> rw [e] <;> rfl
  unfold joinF
  rw [h1, h2]
  simp only [Bool.or_self, Bool.false_eq_true, if_false]
  rcases List.eq_nil_or_concat t.names with e | ⟨ns, m, e⟩
  · have : (toldPath t).getLast? = some 47 := by unfold toldPath; rw [e]; rcases h.root with e | e <;> rw [e] <;> rfl
    rw [this]; simp only [beq_self_eq_true, if_true]
    unfold toldPath; rw [e]; simp [jn]
  · rw [List.concat_eq_append] at e
    obtain ⟨c, hc, _, rfl⟩ := h.names m (by rw [e]; simp)
    have : (toldPath t).getLast? = some c := by
      unfold toldPath; rw [e]
      by_cases hn : ns = []
      · subst hn; simp [jn]
      · rw [jn_snoc _ _ _ hn]; simp
    rw [this]
    have hc2 : (some c == some 47) = false := by simpa using hc
    rw [hc2]
    simp only [Bool.false_eq_true, if_false]
    rw [jn_snoc _ t.names b (by rw [e]; simp)]
    unfold toldPath; simp
theorem jn_head (s : List Nat) (ts : List (List Nat)) (a : Nat) (h : List Nat) (r : List (List Nat)) (e : ts = (a :: h) :: r) : ∃ R, jn s ts = a :: R := by
  subst e
  cases r with
  | nil => exact ⟨h, rfl⟩
  | cons b r => exact ⟨h ++ s ++ jn s (b :: r), by simp [jn]⟩
theorem sroot_told (root R : List Nat) (hr : root = [47] ∨ root = [47, 47]) (hR : ∃ a r, a ≠ 47 ∧ R = a :: r) : sroot (root ++ R) = (root, R) := by
  obtain ⟨a, r, ha, rfl⟩ := hR
  rcases hr with rfl | rfl
  · have : ((47 :: a :: r : List Nat).take 2).drop 1 = [a] := rfl
    simp [sroot, ha]
  · simp [sroot, ha]
theorem norm_told (root : List Nat) (hr : root = [47] ∨ root = [47, 47]) (ts : List (List Nat)) (hn : ts ≠ []) (ht : ∀ m ∈ ts, m ≠ [] ∧ 47 ∉ m) :
    normF (root ++ jn [47] ts) = root ++ jn [47] (ts.foldl (nstep root) []) := by
  have hs : sroot (root ++ jn [47] ts) = (root, jn [47] ts) := by
    refine sroot_told _ _ hr ?_
    cases ts with
    | nil => exact absurd rfl hn
    | cons m r =>
      obtain ⟨h1, h2⟩ := ht m (by simp)
      cases m with
      | nil => exact absurd rfl h1
      | cons a m =>
        obtain ⟨R, e⟩ := jn_head [47] _ a m r rfl
        exact ⟨a, R, fun e => h2 (by simp [e]), e⟩
  have he : ∀ y : List Nat, (root ++ y).isEmpty = false := fun y => by rcases hr with rfl | rfl <;> rfl
  unfold normF
  rw [hs]
  simp only [he, Bool.false_eq_true, if_false]
  rw [spl_jn 47 ts hn fun p hp => (ht p hp).2]
theorem fold_names (root : List Nat) : ∀ (ns acc : List (List Nat)), (∀ m ∈ ns, okName m) → ns.foldl (nstep root) acc = acc ++ ns
  | [], acc, _ => by simp
  | m :: r, acc, h => by
    obtain ⟨c, h1, h2, rfl⟩ := h m (by simp)
    rw [List.foldl_cons]
    have : nstep root acc [c] = acc ++ [[c]] := by simp [nstep, h2]
    rw [this, fold_names root r _ fun m hm => h m (by simp [hm])]
    simp
theorem okName_free {m : List Nat} (h : okName m) : m ≠ [] ∧ 47 ∉ m := by
  obtain ⟨c, h1, _, rfl⟩ := h
  exact ⟨by simp, by simpa using fun e => h1 e.symm⟩
theorem walk_to (t : TS) (h : TInv t) (b : List Nat) (hb : b ≠ [] ∧ 47 ∉ b) : normF (joinF (toldPath t) b) = t.root ++ jn [47] (nstep t.root t.names b) := by
  rw [join_told t h b (fun e => hb.2 (List.mem_of_mem_head? e))]
  rw [norm_told t.root h.root _ (by simp) fun m hm => by
    rcases List.mem_append.mp hm with hm | hm
    · exact okName_free (h.names m hm)
    · rw [List.mem_singleton.mp hm]; exact hb]
  rw [List.foldl_append, fold_names t.root t.names [] h.names]
  rfl
theorem walk_up (t : TS) (h : TInv t) : normF (joinF (toldPath t) [46, 46]) = toldPath { t with names := t.names.dropLast } := by
  rw [walk_to t h [46, 46] ⟨by simp, by simp⟩]
  unfold toldPath
  have hr : t.root.isEmpty = false := by rcases h.root with e | e <;> rw [e] <;> rfl
  have : nstep t.root t.names [46, 46] = t.names.dropLast := by
    have h3 : (!t.names.isEmpty && t.names.getLastD [] == [46, 46]) = false := by
      rcases List.eq_nil_or_concat t.names with e | ⟨ns, m, e⟩
      · rw [e]; rfl
      · rw [List.concat_eq_append] at e
        obtain ⟨c, _, _, rfl⟩ := h.names m (by rw [e]; simp)
        rw [e]; simp
    unfold nstep
    rw [h3, hr]; simp
  rw [this]
theorem walk_name (t : TS) (h : TInv t) (c : Nat) (h1 : c ≠ 47) (h2 : c ≠ 46) : normF (joinF (toldPath t) [c]) = toldPath { t with names := t.names ++ [[c]] } := by
  rw [walk_to t h [c] ⟨by simp, by simpa using fun e => h1 e.symm⟩]
  have : nstep t.root t.names [c] = t.names ++ [[c]] := by simp [nstep, h2]
  rw [this]; rfl
theorem walk_dot (t : TS) (h : TInv t) : normF (joinF (toldPath t) [46]) = toldPath t := by
  rw [walk_to t h [46] ⟨by simp, by simp⟩]
  have : nstep t.root t.names [46] = t.names := by simp [nstep]
  rw [this]; rfl
theorem walk_root (a : List Nat) (t : TS) : normF (joinF a [47]) = toldPath { t with names := [], root := [47] } := by
  have : joinF a [47] = [47] := by simp [joinF]
  rw [this]; rfl
theorem off_four (pre : List Int) (a b c e : Int) : offF (pre ++ [a, b, c, e]) = ((a * 8 + b) * 8 + c) * 8 + e := by
  unfold offF
  rw [show (pre ++ [a, b, c, e]).length - 4 = pre.length by simp, List.drop_left]
  simp
theorem figs_split (l : List Int) (h : 4 ≤ l.length) : ∃ pre a b c e, l = pre ++ [a, b, c, e] := by
  have := List.take_append_drop (l.length - 4) l
  have hl : (l.drop (l.length - 4)).length = 4 := by rw [List.length_drop]; omega
  generalize l.drop (l.length - 4) = d at this hl
  rcases d with _ | ⟨a, _ | ⟨b, _ | ⟨c, _ | ⟨e, _ | ⟨f, r⟩⟩⟩⟩⟩
  · cases hl
  · cases hl
  · cases hl
  · cases hl
  · exact ⟨_, a, b, c, e, this.symm⟩
  · cases hl
theorem off_lt (t : TS) (h : TInv t) : 0 ≤ offF t.figs ∧ offF t.figs < 4096 := offF_lt t.figs h.figs
theorem off_step (t : TS) (h : TInv t) (f : Int) (h0 : 0 ≤ f) (h7 : f ≤ 7) : offF (t.figs ++ [f]) = (offF t.figs * 8 + f) % 4096 := by
  obtain ⟨pre, a, b, c, e, hl⟩ := figs_split t.figs h.len
  have ha := h.figs a (by rw [hl]; simp)
  have hb := h.figs b (by rw [hl]; simp)
  have hc := h.figs c (by rw [hl]; simp)
  have he := h.figs e (by rw [hl]; simp)
  rw [hl, off_four, show pre ++ [a, b, c, e] ++ [f] = (pre ++ [a]) ++ [b, c, e, f] by simp, off_four]; omega
noncomputable def vw (l : List (List Nat)) : List Nat × Nat := (toldPath (tAll l), (offF (tAll l).figs).toNat)
theorem vw_same (l : List (List Nat)) (p : List Nat) (h : p = [40] ∨ isMk p = true) : vw (l ++ [p]) = vw l := by
  have : tStep (tAll l) p = tAll l := by
    have : p = [40] ∨ p = [61] ∨ p = [35] ∨ p = [33] ∨ p = [92] := by
      rcases h with h | h
      · exact .inl h
      · simp [isMk] at h
        rcases h with h | h | h | h <;> simp [← h]
    rcases this with rfl | rfl | rfl | rfl | rfl <;> simp [tStep, isDig, lastN]
  unfold vw
  rw [tAll_snoc, this]
theorem vw_step (l : List (List Nat)) (p : List Nat) (h1 : p ≠ [40]) (h3 : isMk p = false) :
    vw (l ++ [p]) = if isDig p then ((vw l).1, ((vw l).2 * 8 + (p.getD 0 0 - 48)) % 4096) else if p == [45] then (normF (joinF (vw l).1 [46, 46]), (vw l).2) else (normF (joinF (vw l).1 [lastN p]), (vw l).2) := by
  have inv := tinv_all l
  unfold vw
  rw [tAll_snoc]
  generalize tAll l = t at inv ⊢
  have hx : ([[40], [61], [35], [33], [92]].any fun y => y == p) = false := by
    simp only [isMk, List.any_cons, List.any_nil] at h3 ⊢
    rw [h3, Bool.or_false]
    simpa using fun e => h1 e.symm
  unfold tStep
  split
  · rename_i hd
    obtain ⟨c, rfl, g1, g2⟩ := dig_inv hd
    have hl := off_lt t inv
    refine Prod.ext rfl ?_
    show (offF (t.figs ++ [(((c - 48 : Nat)) : Int)])).toNat = ((offF t.figs).toNat * 8 + (c - 48)) % 4096
    rw [off_step t inv _ (by omega) (by omega)]
    obtain ⟨o, ho⟩ := Int.eq_ofNat_of_zero_le hl.1
    rw [ho]; rfl
  · split
    · exact Prod.ext (walk_up t inv).symm rfl
    · split
      · rename_i e
        have e : lastN p = 47 := by simpa using e
        rw [e]; exact Prod.ext (walk_root _ t).symm rfl
      · rename_i e
        have e : lastN p ≠ 47 := by simpa using e
        rw [hx]
        by_cases e2 : lastN p = 46
        · rw [e2]; exact Prod.ext (walk_dot t inv).symm rfl
        · have : (lastN p != 46 && !false) = true := by simpa using e2
          rw [if_pos this]
          exact Prod.ext (walk_name t inv _ e e2).symm rfl
end Mine
end
section
set_option Elab.async false
set_option linter.unusedVariables false
namespace Mine
theorem band_nat (m b : Nat) : Builtin.bitAnd (m : Int) (b : Int) = ((m &&& b : Nat) : Int) := by
  rw [bitAnd_pp (by omega) (by omega)]; simp
theorem and_pow (m k : Nat) : m &&& 2 ^ k = (m.testBit k).toNat * 2 ^ k := by
  refine Nat.eq_of_testBit_eq fun i => ?_
  rw [Nat.testBit_and, Nat.testBit_two_pow]
  by_cases h : k = i
  · subst h
    cases hm : m.testBit k
    · simp
    · simp [Nat.testBit_two_pow]
  · rw [decide_eq_false h, Bool.and_false]
    cases hm : m.testBit k
    · simp
    · simp [Nat.testBit_two_pow, h]
theorem cast_beq (a b : Nat) : ((a : Int) == (b : Int)) = (a == b) := by
  by_cases h : a = b
  · subst h; simp
  · have h2 : (a : Int) ≠ b := by omega
    rw [beq_eq_false_iff_ne.mpr h2, beq_eq_false_iff_ne.mpr h]
theorem hit1 (m k : Nat) : (Builtin.bitAnd (m : Int) ((2 ^ k : Nat) : Int) == ((2 ^ k : Nat) : Int)) = m.testBit k := by
  rw [band_nat, and_pow, cast_beq]
  have : 0 < 2 ^ k := Nat.two_pow_pos k
  cases m.testBit k
  · rw [beq_eq_false_iff_ne.mpr]; simp; omega
  · simp
theorem hit2 (m : Nat) (a b c : Nat) (hc : c = 2 ^ a ||| 2 ^ b) (ha : (2 ^ a : Nat) ≠ c) (hb : (2 ^ b : Nat) ≠ c) (h0 : c ≠ 0) : (Builtin.bitAnd (m : Int) (c : Int) == (c : Int)) = (m.testBit a && m.testBit b) := by
  rw [band_nat, cast_beq]
  have : m &&& c = (m.testBit a).toNat * 2 ^ a ||| (m.testBit b).toNat * 2 ^ b := by
    rw [hc, Nat.and_or_distrib_left, and_pow, and_pow]
  rw [this]
  cases m.testBit a <;> cases m.testBit b
  · simpa using fun e => h0 e.symm
  · simpa using hb
  · simpa using ha
  · simp [hc]
theorem hit0 (a q : Nat) (h : q < 4096) : Builtin.bitAnd ((4096 * a + q : Nat) : Int) 61440 = ((4096 * (a % 16) : Nat) : Int) := by
  rw [show (61440 : Int) = ((61440 : Nat) : Int) from rfl, band_nat]
  congr 1
  have h1 := Nat.div_add_mod ((4096 * a + q) &&& 61440) (2 ^ 12)
  rw [Nat.and_div_two_pow, Nat.and_mod_two_pow] at h1
  rw [← h1]
  have e1 : (4096 * a + q) / 2 ^ 12 = a := by rw [Nat.mul_add_div (by decide), Nat.div_eq_of_lt h, Nat.add_zero]
  rw [e1, show 61440 / 2 ^ 12 = 2 ^ 4 - 1 from rfl, Nat.and_two_pow_sub_one_eq_mod, show 61440 % 2 ^ 12 = 0 from rfl, Nat.and_zero]
  omega
noncomputable def xs (b s u l : Nat) (e x : Bool) : Nat := if e && x then l else if e then u else if x then b else 45
noncomputable def bitsRow (f : Nat → Bool) : List Nat :=
  [if f 8 then 114 else 45] ++ [if f 7 then 119 else 45] ++ [xs 120 0 83 115 (f 11) (f 6)] ++
  [if f 5 then 114 else 45] ++ [if f 4 then 119 else 45] ++ [xs 120 0 83 115 (f 10) (f 3)] ++
  [if f 2 then 114 else 45] ++ [if f 1 then 119 else 45] ++ [xs 120 0 84 116 (f 9) (f 0)]
theorem sign1 (m k j c : Nat) (b : Int) (hb : b = ((2 ^ k : Nat) : Int)) (hj : j ≠ 0) : fmSign (m : Int) j [(b, [c])] = [if m.testBit k then c else 45] := by
  subst hb
  unfold fmSign
  have : fmHit (m : Int) j ((2 ^ k : Nat) : Int) = m.testBit k := by unfold fmHit; rw [if_neg hj]; exact hit1 m k
  simp only [List.find?, this]
  cases m.testBit k <;> simp [hj]
theorem sign2 (m a b c j x s u : Nat) (h2 h1 h0 : Int) (g2 : h2 = (c : Int)) (g1 : h1 = ((2 ^ a : Nat) : Int)) (g0 : h0 = ((2 ^ b : Nat) : Int)) (hc : c = 2 ^ a ||| 2 ^ b) (ha : (2 ^ a : Nat) ≠ c) (hb : (2 ^ b : Nat) ≠ c) (hz : c ≠ 0) (hj : j ≠ 0) :
    fmSign (m : Int) j [(h2, [s]), (h1, [u]), (h0, [x])] = [xs x 0 u s (m.testBit a) (m.testBit b)] := by
  subst g2; subst g1; subst g0
  unfold fmSign
  have e2 : fmHit (m : Int) j (c : Int) = (m.testBit a && m.testBit b) := by unfold fmHit; rw [if_neg hj]; exact hit2 m a b c hc ha hb hz
  have e1 : fmHit (m : Int) j ((2 ^ a : Nat) : Int) = m.testBit a := by unfold fmHit; rw [if_neg hj]; exact hit1 m a
  have e0 : fmHit (m : Int) j ((2 ^ b : Nat) : Int) = m.testBit b := by unfold fmHit; rw [if_neg hj]; exact hit1 m b
  simp only [List.find?, e2, e1, e0]
  cases m.testBit a <;> cases m.testBit b <;> simp [hj, xs]
theorem signs_bits (m : Nat) : jn [] (fmSigns (m : Int)) = fmSign (m : Int) 0 (fmTab.getD 0 []) ++ bitsRow m.testBit := by
  rw [jn_flat]
  have h1 := sign1 m 8 1 114 256 rfl (by decide)
  have h2 := sign1 m 7 2 119 128 rfl (by decide)
  have h3 := sign2 m 11 6 2112 3 120 115 83 2112 2048 64 rfl rfl rfl (by decide) (by decide) (by decide) (by decide) (by decide)
  have h4 := sign1 m 5 4 114 32 rfl (by decide)
  have h5 := sign1 m 4 5 119 16 rfl (by decide)
  have h6 := sign2 m 10 3 1032 6 120 115 83 1032 1024 8 rfl rfl rfl (by decide) (by decide) (by decide) (by decide) (by decide)
  have h7 := sign1 m 2 7 114 4 rfl (by decide)
  have h8 := sign1 m 1 8 119 2 rfl (by decide)
  have h9 := sign2 m 9 0 513 9 120 116 84 513 512 1 rfl rfl rfl (by decide) (by decide) (by decide) (by decide) (by decide)
  show (fmSign (m : Int) 0 _ :: fmSign (m : Int) 1 _ :: fmSign (m : Int) 2 _ :: fmSign (m : Int) 3 _ :: fmSign (m : Int) 4 _ :: fmSign (m : Int) 5 _ :: fmSign (m : Int) 6 _ :: fmSign (m : Int) 7 _ :: fmSign (m : Int) 8 _ :: fmSign (m : Int) 9 _ :: []).flatten = _
  rw [h1, h2, h3, h4, h5, h6, h7, h8, h9]
  simp [bitsRow, fmTab]
theorem tri_bits (r a b x e : Nat) (u l : Nat) (t : Nat) (h1 : r / 8 ^ (2 - t) % 8 / 4 = r / 2 ^ a % 2) (h2 : r / 8 ^ (2 - t) % 8 / 2 % 2 = r / 2 ^ b % 2) (h3 : r / 8 ^ (2 - t) % 8 % 2 = r / 2 ^ x % 2) (h4 : 11 - t = e)
    (hu : (if t = 2 then ([84, 116] : List Nat) else [83, 115]) = [u, l]) :
    rowTri r t = [if r.testBit a then 114 else 45] ++ [if r.testBit b then 119 else 45] ++ [xs 120 0 u l (r.testBit e) (r.testBit x)] := by
  unfold rowTri rowBits rowExtra
  rw [h1, h2, h3, h4, hu, ← Nat.toNat_testBit, ← Nat.toNat_testBit, ← Nat.toNat_testBit, ← Nat.toNat_testBit]
  cases r.testBit a <;> cases r.testBit b <;> cases r.testBit x <;> cases r.testBit e <;> rfl
theorem low3 (y : Nat) : y % 8 / 4 = y / 4 % 2 ∧ y % 8 / 2 % 2 = y / 2 % 2 ∧ y % 8 % 2 = y % 2 :=
  ⟨Nat.mod_mul_right_div_self y 4 2, (congrArg (· % 2) (Nat.mod_mul_right_div_self y 2 4)).trans (Nat.mod_mod_of_dvd _ ⟨2, rfl⟩), Nat.mod_mod_of_dvd _ ⟨4, rfl⟩⟩
theorem tri_at (r t p : Nat) (hp : (8 : Nat) ^ (2 - t) = 2 ^ p) : r / 8 ^ (2 - t) % 8 / 4 = r / 2 ^ (p + 2) % 2 ∧ r / 8 ^ (2 - t) % 8 / 2 % 2 = r / 2 ^ (p + 1) % 2 ∧ r / 8 ^ (2 - t) % 8 % 2 = r / 2 ^ p % 2 := by
  obtain ⟨h1, h2, h3⟩ := low3 (r / 2 ^ p)
  rw [hp, h1, h2, h3, Nat.div_div_eq_div_mul, Nat.div_div_eq_div_mul, Nat.pow_add, Nat.pow_add]
  exact ⟨rfl, rfl, rfl⟩
theorem row_bits (k : List Nat) (r : Nat) : rowF k r = k ++ bitsRow r.testBit := by
  unfold rowF
  obtain ⟨a1, a2, a3⟩ := tri_at r 0 6 rfl
  obtain ⟨b1, b2, b3⟩ := tri_at r 1 3 rfl
  obtain ⟨c1, c2, c3⟩ := tri_at r 2 0 rfl
  rw [tri_bits r 8 7 6 11 83 115 0 a1 a2 a3 rfl rfl, tri_bits r 5 4 3 10 83 115 1 b1 b2 b3 rfl rfl, tri_bits r 2 1 0 9 84 116 2 c1 c2 c3 rfl rfl]
  simp [bitsRow]
theorem bitsRow_congr {f g : Nat → Bool} (h : ∀ k, k < 12 → f k = g k) : bitsRow f = bitsRow g := by
  unfold bitsRow
  rw [h 0 (by omega), h 1 (by omega), h 2 (by omega), h 3 (by omega), h 4 (by omega), h 5 (by omega), h 6 (by omega), h 7 (by omega), h 8 (by omega), h 9 (by omega), h 10 (by omega), h 11 (by omega)]
theorem bit_less (k : Nat) : ∀ (p o : Nat), (p - (p &&& o)).testBit k = (p.testBit k && !o.testBit k) := by
  have key : ∀ p o : Nat, (p &&& o) / 2 = p / 2 &&& o / 2 ∧ (p &&& o) % 2 = (p % 2 &&& o % 2) := fun p o => by
    have h1 := Nat.and_div_two_pow (a := p) (b := o) (n := 1)
    have h2 := Nat.and_mod_two_pow (a := p) (b := o) (n := 1)
    exact ⟨by simpa using h1, by simpa using h2⟩
  have small : ∀ p o : Nat, (p % 2 &&& o % 2) ≤ p % 2 := fun p o => Nat.and_le_left
  induction k with
  | zero =>
    intro p o
    obtain ⟨h1, h2⟩ := key p o
    have hle : p &&& o ≤ p := Nat.and_le_left
    rw [Nat.testBit_zero, Nat.testBit_zero, Nat.testBit_zero]
    generalize p &&& o = z at *
    rcases Nat.mod_two_eq_zero_or_one p with e | e <;> rcases Nat.mod_two_eq_zero_or_one o with e' | e' <;> rw [e, e'] at h2 <;> rw [e, e']
    · rw [show (0 &&& 0 : Nat) = 0 from rfl] at h2
      exact decide_eq_false (by omega)
    · rw [show (0 &&& 1 : Nat) = 0 from rfl] at h2
      exact decide_eq_false (by omega)
    · rw [show (1 &&& 0 : Nat) = 0 from rfl] at h2
      exact decide_eq_true (by omega)
    · rw [show (1 &&& 1 : Nat) = 1 from rfl] at h2
      exact decide_eq_false (by omega)
  | succ k ih =>
    intro p o
    obtain ⟨h1, h2⟩ := key p o
    have hle : p &&& o ≤ p := Nat.and_le_left
    have hs := small p o
    rw [Nat.testBit_succ, Nat.testBit_succ, Nat.testBit_succ, ← ih (p / 2) (o / 2)]
    congr 1
    rw [← h1]
    rw [← h2] at hs
    have key2 : ∀ a b r s : Nat, b ≤ a → s ≤ r → r < 2 → (2 * a + r - (2 * b + s)) / 2 = a - b := fun a b r s h1 h2 h3 => by
      rw [show 2 * a + r - (2 * b + s) = 2 * (a - b) + (r - s) by omega, Nat.mul_add_div (by decide), Nat.div_eq_of_lt (Nat.lt_of_le_of_lt (Nat.sub_le r s) h3), Nat.add_zero]
    have := key2 (p / 2) ((p &&& o) / 2) (p % 2) ((p &&& o) % 2) (Nat.div_le_div_right hle) hs (Nat.mod_lt _ (by decide))
    rwa [Nat.div_add_mod, Nat.div_add_mod] at this
theorem sum_bits (f : Nat → Bool) : ∀ n, (((List.range n).filter f).map fun k => 2 ^ k).sum < 2 ^ n ∧ ∀ j, j < n → ((((List.range n).filter f).map fun k => 2 ^ k).sum).testBit j = f j
  | 0 => ⟨by simp, fun j h => absurd h (by omega)⟩
  | n + 1 => by
    obtain ⟨h1, h2⟩ := sum_bits f n
    have e : (((List.range (n + 1)).filter f).map fun k => 2 ^ k).sum = 2 ^ n * (f n).toNat + (((List.range n).filter f).map fun k => 2 ^ k).sum := by
      rw [List.range_succ, List.filter_append, List.map_append, List.sum_append]
      cases h : f n
      · simp [h]
      · simp [h]; omega
    rw [e]
    refine ⟨?_, fun j hj => ?_⟩
    · rw [Nat.pow_succ]; cases f n <;> simp <;> omega
    · rw [Nat.testBit_two_pow_mul_add _ h1]
      split
      · rename_i hlt; exact h2 j hlt
      · have : j = n := by omega
        subst this
        simp
        cases f j <;> simp
theorem lessF_bits (r o k : Nat) (hk : k < 12) : (lessF r o).testBit k = (r.testBit k && !o.testBit k) := by
  unfold lessF
  rw [(sum_bits (fun k => decide (o / 2 ^ k % 2 < r / 2 ^ k % 2)) 12).2 k hk]
  rw [← Nat.toNat_testBit, ← Nat.toNat_testBit]
  cases r.testBit k <;> cases o.testBit k <;> rfl
theorem mode_bits (a q n k : Nat) (hq : q < 4096) (hk : k < 12) : (4096 * (a + 16 * n) + q).testBit k = q.testBit k := by
  have := Nat.testBit_two_pow_mul_add (a + 16 * n) (i := 12) (b := q) (by simpa using hq) k
  rw [if_pos hk] at this
  exact this
theorem bandNot (p o : Nat) : Builtin.bitAnd (p : Int) (Builtin.bitNot (o : Int)) = ((p - (p &&& o) : Nat) : Int) := by
  have hle : p &&& o ≤ p := Nat.and_le_left
  have h1 : ¬ (0 : Int) ≤ Builtin.bitNot (o : Int) := by unfold Builtin.bitNot; omega
  have h2 : Builtin.bitNot (Builtin.bitNot (o : Int)) = o := by unfold Builtin.bitNot; omega
  unfold Builtin.bitAnd
  rw [decide_eq_true (show (0 : Int) ≤ (p : Int) by omega), decide_eq_false h1, h2]
  show (p : Int) - (((p : Int).toNat &&& (o : Int).toNat : Nat) : Int) = _
  simp; omega
/-- the mode in figures -/
theorem mode_nat (c : List Nat) (off n : Nat) (hc : isMk c = true) : ∃ a q, modeF c off n = ((4096 * (a + 16 * n) + q : Nat) : Int) ∧ q < 4096 ∧ (∀ k, k < 12 → q.testBit k = (rightsT c off).testBit k) ∧
    a < 16 ∧ fmSign ((4096 * (a + 16 * n) + q : Nat) : Int) 0 (fmTab.getD 0 []) = kindF c ∧ (a == 4) = (kindF c == [100]) := by
  have fm0 : ∀ (a q : Nat), q < 4096 → a < 16 → fmSign ((4096 * (a + 16 * n) + q : Nat) : Int) 0 (fmTab.getD 0 []) = fmSign ((4096 * a : Nat) : Int) 0 (fmTab.getD 0 []) := by
    intro a q hq ha
    have h1 := hit0 (a + 16 * n) q hq
    have h2 := hit0 a 0 (by omega)
    have e : (a + 16 * n) % 16 = a % 16 := Nat.add_mul_mod_self_left a 16 n
    rw [e] at h1
    have hh : ∀ b, fmHit ((4096 * (a + 16 * n) + q : Nat) : Int) 0 b = fmHit ((4096 * a : Nat) : Int) 0 b := by
      intro b
      unfold fmHit
      rw [if_pos rfl, if_pos rfl, h1]
      have : ((4096 * a : Nat) : Int) = ((4096 * a + 0 : Nat) : Int) := rfl
      rw [this, h2]
    unfold fmSign
    simp only [hh]
  have other : ∀ (b P a : Nat), c ≠ [92] → baseM c = (b : Int) → Builtin.bitAnd (b : Int) 61440 = ((4096 * a : Nat) : Int) → Builtin.bitAnd (b : Int) 4095 = (P : Int) → P < 4096 → rightsT c off = lessF P off → a < 16 → fmSign ((4096 * a : Nat) : Int) 0 (fmTab.getD 0 []) = kindF c → (a == 4) = (kindF c == [100]) →
      ∃ a q, modeF c off n = ((4096 * (a + 16 * n) + q : Nat) : Int) ∧ q < 4096 ∧ (∀ k, k < 12 → q.testBit k = (rightsT c off).testBit k) ∧
        a < 16 ∧ fmSign ((4096 * (a + 16 * n) + q : Nat) : Int) 0 (fmTab.getD 0 []) = kindF c ∧ (a == 4) = (kindF c == [100]) := by
    intro b P a h92 hb h1 h2 hP hr ha hk hd
    refine ⟨a, P - (P &&& off), ?_, by omega, fun k hk => ?_, ha, by rw [fm0 _ _ (by omega) ha]; exact hk, hd⟩
    · unfold modeF
      rw [if_neg h92, hb, h1, h2, bandNot]
      omega
    · rw [hr, lessF_bits _ _ _ hk, bit_less]
  have hc' : c = [61] ∨ c = [35] ∨ c = [33] ∨ c = [92] := by
    simp [isMk] at hc
    rcases hc with h | h | h | h <;> simp [← h]
  rcases hc' with rfl | rfl | rfl | rfl
  · exact other 33206 438 8 (by decide) rfl (by decide) (by decide) (by decide) rfl (by decide) (by decide) (by decide)
  · exact other 17407 1023 4 (by decide) rfl (by decide) (by decide) (by decide) rfl (by decide) (by decide) (by decide)
  · exact other 28159 3583 6 (by decide) rfl (by decide) (by decide) (by decide) rfl (by decide) (by decide) (by decide)
  · refine ⟨10, 511, ?_, by decide, fun k hk => rfl, by decide, by rw [fm0 _ _ (by omega) (by omega)]; decide, by decide⟩
    show (41471 : Int) + (n : Int) * 65536 = _
    omega
/-- D: what is read of a mode is what is told -/
theorem row_mode (c : List Nat) (off n : Nat) (hc : isMk c = true) : jn [] (fmSigns (modeF c off n)) = rowF (kindF c) (rightsT c off) ∧ (Builtin.bitAnd (modeF c off n) 61440 == 16384) = (kindF c == [100]) := by
  obtain ⟨a, q, e, hq, hb, ha, hs, hd⟩ := mode_nat c off n hc
  rw [e]
  refine ⟨?_, ?_⟩
  · rw [signs_bits, hs, row_bits, bitsRow_congr fun k hk => (mode_bits a q n k hq hk).trans (hb k hk)]
  · rw [hit0 _ _ hq, ← hd]
    have : (a + 16 * n) % 16 = a := by omega
    rw [this]
    by_cases h : a = 4
    · subst h; rfl
    · have h1 : (a == 4) = false := by simpa using h
      rw [h1]
      have : ((4096 * a : Nat) : Int) ≠ 16384 := by omega
      simpa using this
end Mine
end
section
set_option Elab.async false
set_option linter.unusedVariables false
namespace Mine
theorem pos_len : ∀ (ps : List (List Nat)) p, (posP p ps).length = ps.length
  | [], _ => rfl
  | c :: r, p => by simp [posP, pos_len r]
theorem row_read (place : Nat) (c : List Nat) (l : List (List Nat)) (n : Nat) (hc : isMk c = true) :
    rowR (place, (vw l).1, modeF c (vw l).2 n) = toldRow place c (tAll l) := by
  obtain ⟨h1, h2⟩ := row_mode c (vw l).2 n hc
  unfold rowR toldRow
  simp only []
  rw [h1, h2]
  rfl
theorem run_inv (ps : List (List Nat)) (hp : ∀ p ∈ ps, 1 ≤ p.length) (hn : ∀ k, 0 ≤ (depthsF ps).getD k 0) : ∀ k, k ≤ ps.length →
    let R := ((posP 0 ps).take k).foldl rStep rInit
    (R.here, R.off) = vw ((stkAt ps k).headD []) ∧ R.kept = ((stkAt ps k).tail.map vw).reverse ∧ R.places = ((posP 0 ps).take k).map (·.1) ∧
    R.made.map rowR = ((List.range k).filter fun j => isMk (ps.getD j [])).map fun j => toldRow ((placesF ps).getD j 0) (ps.getD j []) (tAll (seenF ps (depthsF ps) j))
  | 0, _ => by
    refine ⟨?_, rfl, rfl, rfl⟩
    show (([47, 47, 99] : List Nat), 18) = vw []
    decide
  | k + 1, hk => by
    have hk' : k < ps.length := by omega
    obtain ⟨i1, i2, i3, i4⟩ := run_inv ps hp hn k (by omega)
    have hlt : k < (posP 0 ps).length := by rw [pos_len]; exact hk'
    obtain ⟨q, hq⟩ : ∃ q, (posP 0 ps)[k]? = some q := ⟨_, List.getElem?_eq_getElem hlt⟩
    have ht : (posP 0 ps).take (k + 1) = (posP 0 ps).take k ++ [q] := by rw [List.take_add_one, hq]; rfl
    have hq2 : q.2 = ps.getD k [] := by
      have := congrArg (fun l : List (List Nat) => l[k]?) (pos_snd ps 0)
      simp only [List.getElem?_map, hq, Option.map_some] at this
      simp only [List.getD, ← this, Option.getD_some]
    have hq1 : ((q.1 : Nat) : Int) = (placesF ps).getD k 0 := by
      rw [places_pos ps hp]
      simp only [List.getD, List.getElem?_map, hq, Option.map_some, Option.getD_some]
    have hs := seen_stk ps hn k (by omega)
    have hsl := (stk_seen ps hn k (by omega)).1
    have hsl1 := (stk_seen ps hn (k + 1) hk).1
    have hn1 := hn (k + 1)
    have hn0 := hn k
    rw [stkAt_succ ps k hk'] at hsl1 ⊢
    simp only [ht, List.foldl_append, List.foldl_cons, List.foldl_nil, List.map_append, List.map_cons, List.map_nil]
    rw [List.range_succ, List.filter_append, List.map_append, ← i4, ← i3]
    generalize hR : ((posP 0 ps).take k).foldl rStep rInit = R at *
    obtain ⟨here, off, kept, made, places⟩ := R
    simp only [] at i1 i2
    obtain ⟨c0, S, hS⟩ : ∃ c0 S, stkAt ps k = c0 :: S := by
      cases h : stkAt ps k with
      | nil => rw [h] at hsl; simp only [List.length_nil] at hsl; omega
      | cons a b => exact ⟨a, b, rfl⟩
    rw [hS] at i1 i2 hs hsl hsl1 ⊢
    have i1 : (here, off) = vw c0 := i1
    have hh : here = (vw c0).1 := congrArg Prod.fst i1
    have ho : off = (vw c0).2 := congrArg Prod.snd i1
    have i2 : kept = (S.map vw).reverse := i2
    have hs : seenF ps (depthsF ps) k = c0 := hs
    rw [← hq2] at hsl1 ⊢
    unfold rStep
    simp only []
    by_cases c1 : q.2 = [40]
    · have hf : (([k] : List Nat).filter fun j => isMk (ps.getD j [])) = [] := by simp only [List.filter, ← hq2, c1]; rfl
      rw [c1, hf]
      simp only [beq_self_eq_true, if_true]
      refine ⟨?_, ?_, (by first | trivial | rfl), by simp⟩
      · show (here, off) = vw (c0 ++ [[40]])
        rw [vw_same c0 [40] (.inl rfl)]; exact i1
      · show kept ++ [(here, off)] = ((c0 :: S).map vw).reverse
        rw [i2, i1]; simp
    · have b1 : (q.2 == [40]) = false := by simpa using c1
      rw [b1]
      simp only [Bool.false_eq_true, if_false]
      by_cases c2 : q.2 = [41]
      · have hf : (([k] : List Nat).filter fun j => isMk (ps.getD j [])) = [] := by simp only [List.filter, ← hq2, c2]; rfl
        rw [c2] at hsl1
        rw [c2, hf]
        simp only [beq_self_eq_true, if_true]
        have hst : stk (c0 :: S) [41] = S := by simp [stk]
        rw [hst] at hsl1 ⊢
        obtain ⟨c3, S', rfl⟩ : ∃ c3 S', S = c3 :: S' := by
          cases S with
          | nil => simp only [List.length_nil] at hsl1; omega
          | cons a b => exact ⟨a, b, rfl⟩
        have e : kept = (S'.map vw).reverse ++ [vw c3] := by rw [i2]; simp
        refine ⟨?_, ?_, (by first | trivial | rfl), by simp⟩
        · show ((kept.getLastD ([], 0)).1, (kept.getLastD ([], 0)).2) = vw c3
          rw [e]; simp
        · show kept.dropLast = (S'.map vw).reverse
          rw [e]; simp
      · have b2 : (q.2 == [41]) = false := by simpa using c2
        rw [b2]
        simp only [Bool.false_eq_true, if_false]
        have hst : stk (c0 :: S) q.2 = (c0 ++ [q.2]) :: S := by unfold stk; rw [if_neg c1, if_neg c2]; rfl
        rw [hst]
        by_cases c3 : isMk q.2 = true
        · have hf : (([k] : List Nat).filter fun j => isMk (ps.getD j [])) = [k] := by simp only [List.filter, ← hq2, c3]
          rw [hf, c3]
          simp only [if_true]
          refine ⟨?_, i2, (by first | trivial | rfl), ?_⟩
          · show (here, off) = vw (c0 ++ [q.2])
            rw [vw_same c0 q.2 (.inr c3)]; exact i1
          · show (made ++ [(q.1, here, modeF q.2 off made.length)]).map rowR = made.map rowR ++ [toldRow ((placesF ps).getD k 0) (ps.getD k []) (tAll (seenF ps (depthsF ps) k))]
            rw [List.map_append, ← hq1, ← hq2, hs, hh, ho]
            congr 1
            exact congrArg (fun x => [x]) (row_read q.1 q.2 c0 made.length c3)
        · have c3 : isMk q.2 = false := by simpa using c3
          have hf : (([k] : List Nat).filter fun j => isMk (ps.getD j [])) = [] := by simp only [List.filter, ← hq2, c3]
          rw [hf, c3]
          simp only [Bool.false_eq_true, if_false]
          have hv := vw_step c0 q.2 c1 c3
          rw [← hh, ← ho] at hv
          show _ ∧ _ ∧ _ ∧ _
          split
          · rename_i hd
            rw [if_pos hd] at hv
            exact ⟨hv.symm, i2, rfl, by simp⟩
          · rename_i hd
            rw [if_neg hd] at hv
            split
            · rename_i he
              rw [if_pos he] at hv
              exact ⟨hv.symm, i2, rfl, by simp⟩
            · rename_i he
              rw [if_neg he] at hv
              exact ⟨hv.symm, i2, rfl, by simp⟩
/-- C: what is read of a taken line is what is told -/
theorem read_told (x : List Nat) (ht : takenF (piecesF x) = true) :
    ((readF x).places.map fun (p : Nat) => (p : Int)) = placesF (piecesF x) ∧
    (readF x).made.map rowR = (madeF (piecesF x)).map fun m => toldRow m.1 m.2.1 (tAll m.2.2) := by
  have hp := fun p hp => (wf_len _ (wf_pieces x) p hp).1
  obtain ⟨h1, h2, h3, h4⟩ := run_inv (piecesF x) hp (taken_nonneg ht) _ (Nat.le_refl _)
  rw [← pos_len (piecesF x) 0, List.take_length] at h3 h4
  unfold readF
  rw [escs_strip]
  refine ⟨?_, ?_⟩
  · rw [h3, places_pos _ hp]; simp
  · rw [h4, pos_len]; unfold madeF; simp
theorem read_pop (x : List Nat) (ht : takenF (piecesF x) = true) : ∀ (i p : Nat), (escs (stripF x))[i]? = some (p, [41]) → (((escs (stripF x)).take i).foldl rStep rInit).kept ≠ [] := by
  intro i p hi
  rw [escs_strip] at hi ⊢
  have hn := taken_nonneg ht
  have hp := fun p hp => (wf_len _ (wf_pieces x) p hp).1
  have hlt : i < (piecesF x).length := by
    rw [← pos_len (piecesF x) 0]
    exact (List.getElem?_eq_some_iff.mp hi).1
  obtain ⟨h1, h2, h3, h4⟩ := run_inv (piecesF x) hp hn i (by omega)
  rw [h2]
  have hc : (piecesF x).getD i [] = [41] := by
    have := congrArg (fun l : List (List Nat) => l[i]?) (pos_snd (piecesF x) 0)
    simp only [List.getElem?_map, hi, Option.map_some] at this
    simp only [List.getD, ← this, Option.getD_some]
  have l1 := (stk_seen _ hn i (by omega)).1
  have d1 := depths_get (piecesF x) i hlt
  have n1 := hn (i + 1)
  rw [hc] at d1
  have : depthStep ((depthsF (piecesF x)).getD i 0) [41] = (depthsF (piecesF x)).getD i 0 - 1 := by simp [depthStep]
  rw [this] at d1
  intro e
  have e : ((stkAt (piecesF x) i).tail).length = 0 := by
    have := congrArg List.length e
    simpa using this
  rw [List.length_tail] at e
  omega
end Mine
end
section
set_option Elab.async false
set_option linter.unusedVariables false
namespace Mine
theorem lex_trans {α : Type} [LT α] (tr : ∀ a b c : α, a < b → b < c → a < c) : ∀ x y z : List α, x < y → y < z → x < z
  | [], y, [], h1, h2 => absurd h2 (List.not_lt_nil y)
  | [], y, c :: z, h1, h2 => List.nil_lt_cons c z
  | a :: x, [], z, h1, h2 => absurd h1 (List.not_lt_nil _)
  | a :: x, b :: y, [], h1, h2 => absurd h2 (List.not_lt_nil _)
  | a :: x, b :: y, c :: z, h1, h2 => by
    rw [List.cons_lt_cons_iff] at h1 h2 ⊢
    rcases h1 with h1 | ⟨rfl, h1⟩
    · rcases h2 with h2 | ⟨rfl, h2⟩
      · exact .inl (tr _ _ _ h1 h2)
      · exact .inl h1
    · rcases h2 with h2 | ⟨rfl, h2⟩
      · exact .inl h2
      · exact .inr ⟨rfl, lex_trans tr x y z h1 h2⟩
theorem lex_irr {α : Type} [LT α] (ir : ∀ a : α, ¬ a < a) : ∀ x : List α, ¬ x < x
  | [], h => List.not_lt_nil _ h
  | a :: x, h => by
    rw [List.cons_lt_cons_iff] at h
    rcases h with h | ⟨_, h⟩
    · exact ir a h
    · exact lex_irr ir x h
theorem lex_tri {α : Type} [LT α] (tri : ∀ a b : α, ¬ a < b → ¬ b < a → a = b) : ∀ x y : List α, ¬ x < y → ¬ y < x → x = y
  | [], [], _, _ => rfl
  | [], b :: y, h1, _ => absurd (List.nil_lt_cons b y) h1
  | a :: x, [], _, h2 => absurd (List.nil_lt_cons a x) h2
  | a :: x, b :: y, h1, h2 => by
    rw [List.cons_lt_cons_iff] at h1 h2
    have e : a = b := tri a b (fun h => h1 (.inl h)) (fun h => h2 (.inl h))
    subst e
    rw [lex_tri tri x y (fun h => h1 (.inr ⟨rfl, h⟩)) (fun h => h2 (.inr ⟨rfl, h⟩))]
noncomputable abbrev Pc := List Nat
theorem pc_trans : ∀ a b c : Pc, a < b → b < c → a < c := lex_trans fun a b c h1 h2 => Nat.lt_trans h1 h2
theorem pc_irr : ∀ a : Pc, ¬ a < a := lex_irr fun a => Nat.lt_irrefl a
theorem pc_tri : ∀ a b : Pc, ¬ a < b → ¬ b < a → a = b := lex_tri fun a b h1 h2 => by omega
theorem pl_trans : ∀ a b c : List Pc, a < b → b < c → a < c := lex_trans pc_trans
theorem pl_irr : ∀ a : List Pc, ¬ a < a := lex_irr pc_irr
theorem best_min (f : Nat → List Pc) : ∀ k, argBest (fun i j => decide (f i < f j)) k ≤ k ∧ ∀ j, j ≤ k → ¬ f j < f (argBest (fun i j => decide (f i < f j)) k)
  | 0 => ⟨Nat.le_refl _, fun j hj => by rw [show j = 0 by omega]; exact pl_irr _⟩
  | k + 1 => by
    obtain ⟨h1, h2⟩ := best_min f k
    simp only [argBest]
    by_cases h : f (k + 1) < f (argBest (fun i j => decide (f i < f j)) k)
    · rw [if_pos (by simpa using h)]
      refine ⟨Nat.le_refl _, fun j hj hlt => ?_⟩
      rcases Nat.lt_or_ge j (k + 1) with hj' | hj'
      · exact h2 j (by omega) (pl_trans _ _ _ hlt h)
      · rw [show j = k + 1 by omega] at hlt; exact pl_irr _ hlt
    · rw [if_neg (by simpa using h)]
      refine ⟨by omega, fun j hj hlt => ?_⟩
      rcases Nat.lt_or_ge j (k + 1) with hj' | hj'
      · exact h2 j (by omega) hlt
      · rw [show j = k + 1 by omega] at hlt; exact h hlt
theorem best_max (f : Nat → List Pc) : ∀ k, argBest (fun i j => decide (f j < f i)) k ≤ k ∧ ∀ j, j ≤ k → ¬ f (argBest (fun i j => decide (f j < f i)) k) < f j
  | 0 => ⟨Nat.le_refl _, fun j hj => by rw [show j = 0 by omega]; exact pl_irr _⟩
  | k + 1 => by
    obtain ⟨h1, h2⟩ := best_max f k
    simp only [argBest]
    by_cases h : f (argBest (fun i j => decide (f j < f i)) k) < f (k + 1)
    · rw [if_pos (by simpa using h)]
      refine ⟨Nat.le_refl _, fun j hj hlt => ?_⟩
      rcases Nat.lt_or_ge j (k + 1) with hj' | hj'
      · exact h2 j (by omega) (pl_trans _ _ _ h hlt)
      · rw [show j = k + 1 by omega] at hlt; exact pl_irr _ hlt
    · rw [if_neg (by simpa using h)]
      refine ⟨by omega, fun j hj hlt => ?_⟩
      rcases Nat.lt_or_ge j (k + 1) with hj' | hj'
      · exact h2 j (by omega) hlt
      · rw [show j = k + 1 by omega] at hlt; exact h hlt
noncomputable def cpM (ls : List (List Pc)) : List Pc := ls.getD (argBest (fun i j => decide (ls.getD i [] < ls.getD j [])) (ls.length - 1)) []
noncomputable def cpX (ls : List (List Pc)) : List Pc := ls.getD (argBest (fun i j => decide (ls.getD j [] < ls.getD i [])) (ls.length - 1)) []
theorem cp_mem {ls : List (List Pc)} (h : ls ≠ []) : cpM ls ∈ ls ∧ cpX ls ∈ ls ∧ ∀ x ∈ ls, ¬ x < cpM ls ∧ ¬ cpX ls < x := by
  have h0 : 0 < ls.length := List.length_pos_iff.mpr h
  have gm : ∀ i, i < ls.length → ls.getD i [] ∈ ls := fun i hi => by
    rw [List.getD, List.getElem?_eq_getElem hi]; exact List.getElem_mem hi
  obtain ⟨a1, a2⟩ := best_min (fun i => ls.getD i []) (ls.length - 1)
  obtain ⟨b1, b2⟩ := best_max (fun i => ls.getD i []) (ls.length - 1)
  refine ⟨gm _ (Nat.lt_of_le_of_lt a1 (by omega)), gm _ (Nat.lt_of_le_of_lt b1 (by omega)), fun x hx => ?_⟩
  obtain ⟨j, hj, rfl⟩ := List.mem_iff_getElem.mp hx
  have e : ls.getD j [] = ls[j] := by rw [List.getD, List.getElem?_eq_getElem hj]; rfl
  have c1 := a2 j (by omega)
  have c2 := b2 j (by omega)
  rw [e] at c1 c2
  exact ⟨c1, c2⟩
/-- what two lists begin with alike -/
noncomputable def lcp : List Pc → List Pc → List Pc
  | a :: r, b :: t => if a = b then a :: lcp r t else []
  | _, _ => []
theorem lcp_pre : ∀ (m M x : List Pc), ¬ x < m → ¬ M < x → lcp m M <+: x
  | [], M, x, _, _ => by simp [lcp]
  | a :: r, [], x, _, _ => by simp [lcp]
  | a :: r, b :: t, x, h1, h2 => by
    unfold lcp
    split
    · rename_i e
      subst e
      cases x with
      | nil => exact absurd (List.nil_lt_cons a r) h1
      | cons y z =>
        rw [List.cons_lt_cons_iff] at h1 h2
        have e : y = a := pc_tri y a (fun h => h1 (.inl h)) (fun h => h2 (.inl h))
        subst e
        exact List.prefix_cons_inj y |>.mpr (lcp_pre r t z (fun h => h1 (.inr ⟨rfl, h⟩)) (fun h => h2 (.inr ⟨rfl, h⟩)))
    · simp
theorem lcp_stop : ∀ (m M : List Pc), (lcp m M).length < m.length → (lcp m M).length < M.length → m.take ((lcp m M).length + 1) ≠ M.take ((lcp m M).length + 1)
  | [], M, h, _ => by simp [lcp] at h
  | a :: r, [], _, h => by simp [lcp] at h
  | a :: r, b :: t, h1, h2 => by
    unfold lcp at h1 h2 ⊢
    split
    · rename_i e
      rw [if_pos e] at h1 h2
      subst e
      have := lcp_stop r t (by simpa using h1) (by simpa using h2)
      intro h
      simp only [List.length_cons, List.take_succ_cons, List.cons.injEq, true_and] at h
      exact this h
    · rename_i e
      simpa using e
noncomputable def minLen (fs : List (List Pc)) (n : Nat) : Prop := (∃ x ∈ fs, x.length = n) ∧ ∀ x ∈ fs, n ≤ x.length
noncomputable def lawStep (fs : List (List Pc)) (c : List Pc) (k : Nat) : List Pc := if (fs.filter fun x => !(x.take (k + 1) == (fs.headD []).take (k + 1))).length = 0 then (fs.headD []).take (k + 1) else c
noncomputable def lawC (fs : List (List Pc)) (n : Nat) : List Pc := (List.range n).foldl (lawStep fs) []
theorem lawC_eq (fs : List (List Pc)) (hf : fs ≠ []) (n : Nat) (hn : minLen fs n) : lawC fs n = lcp (cpM fs) (cpX fs) := by
  obtain ⟨hm, hM, hx⟩ := cp_mem hf
  have hpre : ∀ x ∈ fs, lcp (cpM fs) (cpX fs) <+: x := fun x h => lcp_pre _ _ _ (hx x h).1 (hx x h).2
  generalize hc : lcp (cpM fs) (cpX fs) = c at *
  obtain ⟨f0, r, rfl⟩ : ∃ f0 r, fs = f0 :: r := by
    cases fs with
    | nil => exact absurd rfl hf
    | cons a b => exact ⟨a, b, rfl⟩
  have h0 : (f0 :: r).headD [] = f0 := rfl
  have htk : ∀ x ∈ f0 :: r, ∀ k, k ≤ c.length → x.take k = c.take k := fun x h k hk => by
    obtain ⟨t, rfl⟩ := hpre x h
    rw [List.take_append_of_le_length hk]
  have hK : c.length ≤ n := by
    obtain ⟨⟨x, hx, e⟩, _⟩ := hn
    rw [← e]; exact (hpre x hx).length_le
  have step : ∀ k, k ≤ n → (List.range k).foldl (lawStep (f0 :: r)) [] = c.take k := by
    intro k
    induction k with
    | zero => intro _; simp
    | succ k ih =>
      intro hk
      rw [List.range_succ, List.foldl_append, ih (by omega), List.foldl_cons, List.foldl_nil]
      unfold lawStep
      rw [h0]
      by_cases h : k + 1 ≤ c.length
      · have : ((f0 :: r).filter fun x => !(x.take (k + 1) == f0.take (k + 1))).length = 0 := by
          rw [List.length_eq_zero_iff, List.filter_eq_nil_iff]
          intro x hx
          rw [htk x hx _ h, htk f0 (by simp) _ h]; simp
        rw [if_pos this, htk f0 (by simp) _ h]
      · have : ¬ ((f0 :: r).filter fun x => !(x.take (k + 1) == f0.take (k + 1))).length = 0 := by
          rw [List.length_eq_zero_iff, List.filter_eq_nil_iff]
          intro hall
          have l1 := hn.2 _ hm
          have l2 := hn.2 _ hM
          have s := lcp_stop (cpM (f0 :: r)) (cpX (f0 :: r)) (by rw [hc]; omega) (by rw [hc]; omega)
          rw [hc] at s
          have e1 : (cpM (f0 :: r)).take (k + 1) = f0.take (k + 1) := by simpa using hall _ hm
          have e2 : (cpX (f0 :: r)).take (k + 1) = f0.take (k + 1) := by simpa using hall _ hM
          refine s ?_
          have := congrArg (List.take (c.length + 1)) (e1.trans e2.symm)
          rwa [List.take_take, List.take_take, Nat.min_eq_left (by omega)] at this
        rw [if_neg this, List.take_of_length_le (by omega), List.take_of_length_le (by omega)]
  have := step n (Nat.le_refl _)
  rw [List.take_of_length_le hK] at this
  exact this
theorem cp_inb : ∀ (m M : List Pc) (i : Nat), ¬ M < m → i < m.length → m.take i = M.take i → i < M.length
  | [], M, i, _, h, _ => by simp at h
  | a :: r, [], i, h1, _, _ => absurd (List.nil_lt_cons a r) h1
  | a :: r, b :: t, 0, _, _, _ => by simp
  | a :: r, b :: t, i + 1, h1, h2, h3 => by
    simp only [List.take_succ_cons, List.cons.injEq] at h3
    obtain ⟨rfl, h3⟩ := h3
    rw [List.cons_lt_cons_iff] at h1
    have := cp_inb r t i (fun h => h1 (.inr ⟨rfl, h⟩)) (by simpa using h2) h3
    simpa using this
/-- up to i the two go alike; at i they part -/
theorem lcp_at : ∀ (m M : List Pc) (i : Nat), m.take i = M.take i → i < m.length → i < M.length → m.getD i [] ≠ M.getD i [] → lcp m M = m.take i
  | [], M, i, _, h, _, _ => by simp at h
  | a :: r, [], i, _, _, h, _ => by simp at h
  | a :: r, b :: t, 0, _, _, _, h => by
    unfold lcp; rw [if_neg (by simpa using h)]; rfl
  | a :: r, b :: t, i + 1, h, h1, h2, h3 => by
    simp only [List.take_succ_cons, List.cons.injEq] at h
    obtain ⟨rfl, h⟩ := h
    unfold lcp
    rw [if_pos rfl, lcp_at r t i h (by simpa using h1) (by simpa using h2) (by simpa using h3)]
    rfl
theorem lcp_all : ∀ (m M : List Pc), m.take m.length = M.take m.length → lcp m M = m
  | [], M, _ => by simp [lcp]
  | a :: r, [], h => by simp at h
  | a :: r, b :: t, h => by
    simp only [List.length_cons, List.take_succ_cons, List.cons.injEq] at h
    obtain ⟨rfl, h⟩ := h
    unfold lcp
    rw [if_pos rfl, lcp_all r t h]
end Mine
end
section
open AutoSeq1 (wpAny_loadPart')
open MeetsSeq MeetsSeq2 MeetsSeq3 SeqRoads2 SeqAt
set_option Elab.async false
set_option linter.unusedVariables false
set_option maxRecDepth 100000
namespace Mine
section
variable {prog : Program} {w : World} {Λ : Glo} {n : Nat}
theorem lt_loop (l b : Addr) (items items2 : Array Value) (n n2 : Nat) (dd dd2 : Option Addr) (sl sl2 : Array (Option Value)) (xs ys : List (List Nat)) (hx : xs.length = items.size) (hy : ys.length = items2.size)
    (ex : ∀ j (h : j < items.size), ∃ t, items[j] = .str (S (xs.getD j [])) t) (ey : ∀ j (h : j < items2.size), ∃ t, items2[j] = .str (S (ys.getD j [])) t) (k : Nat) :
    ∀ i : Nat, items.size - i = k → i ≤ items.size → i ≤ items2.size → Meets (Builtin.«list.__eq__.loop» ⟨[.ref l, .ref b, rawInt i, rawInt 0], []⟩)
      (fun A R s => s.heap.get? l = some { cls := .type "list", dict := dd, data := .seq items n, slots := sl } ∧ s.heap.get? b = some { cls := .type "list", dict := dd2, data := .seq items2 n2, slots := sl2 } ∧
        R (.ok (.ret (.bool (decide (xs.drop i < ys.drop i))))) s) := by
  have hsm : ∀ i, items.size ≤ i → xs.drop i = [] := fun i h => List.drop_eq_nil_of_le (by omega)
  have hsn : ∀ i, items2.size ≤ i → ys.drop i = [] := fun i h => List.drop_eq_nil_of_le (by omega)
  have hdx : ∀ i, i < items.size → xs.drop i = xs.getD i [] :: xs.drop (i + 1) := fun i h => by rw [List.drop_eq_getElem_cons (by omega)]; simp [List.getD, show i < xs.length by omega]
  have hdy : ∀ i, i < items2.size → ys.drop i = ys.getD i [] :: ys.drop (i + 1) := fun i h => by rw [List.drop_eq_getElem_cons (by omega)]; simp [List.getD, show i < ys.length by omega]
  induction k with
  | zero =>
    intro i hk h1 h2 prog w A R s h
    obtain ⟨hp, g, d, tk, os⟩ := s; obtain ⟨hl, hb, h⟩ := h
    wp_walk using wpAny_loadPart' hl, wpAny_loadPart' hb
    have hi1 : items[((i : Nat) : Int).toNat]? = none := by simp; omega
    have : items.size = i := by omega
    rw [hsm i (by omega)] at h
    rw [hi1]
    wp_walk using wpAny_loadPart' hl, wpAny_loadPart' hb
    have hres : decide (items.size < items2.size) = decide (([] : List (List Nat)) < ys.drop i) := by
      by_cases he : i = items2.size
      · rw [hsn i (by omega)]; simp; omega
      · rw [hdy i (by omega)]; simp; omega
    show R (.ok (.ret (.bool (decide (items.size < items2.size))))) _
    rw [hres]; exact h
  | succ k ih =>
    intro i hk h1 h2 prog w A R s h
    obtain ⟨hp, g, d, tk, os⟩ := s; obtain ⟨hl, hb, h⟩ := h
    wp_walk using wpAny_loadPart' hl, wpAny_loadPart' hb
    have hlt : i < items.size := by omega
    have hi1 : items[((i : Nat) : Int).toNat]? = some items[i] := by simp [hlt]
    have hc : ((i : Int) + 1) = ((i + 1 : Nat) : Int) := by push_cast; rfl
    rw [hdx i hlt] at h
    by_cases he : i = items2.size
    · have hi2 : items2[((i : Nat) : Int).toNat]? = none := by simp; omega
      rw [hsn i (by omega)] at h
      rw [hi1, hi2]
      wp_walk using wpAny_loadPart' hl, wpAny_loadPart' hb
      show R (.ok (.ret (.bool (decide (items.size < items2.size))))) _
      have hres : decide (items.size < items2.size) = false := by simp; omega
      rw [hres]; simpa using h
    · have hlt2 : i < items2.size := by omega
      have hi2 : items2[((i : Nat) : Int).toNat]? = some items2[i] := by simp [hlt2]
      rw [hdy i hlt2] at h
      rw [hi1, hi2]
      obtain ⟨t1, e1⟩ := ex i hlt
      obtain ⟨t2, e2⟩ := ey i hlt2
      rw [e1, e2]
      refine wpAny_bind (EqAt.str_str _ t1 _ t2 prog w _ _ ?_)
      rw [S_beq]
      cases hb' : (xs.getD i [] == ys.getD i []) with
      | true =>
        have e := eq_of_beq hb'
        rw [e] at h
        have h : R (.ok (.ret (.bool (decide (xs.drop (i + 1) < ys.drop (i + 1)))))) ⟨hp, g, d, tk, os⟩ := by
          have : (ys.getD i [] :: xs.drop (i + 1) < ys.getD i [] :: ys.drop (i + 1)) = (xs.drop (i + 1) < ys.drop (i + 1)) := by simp [List.cons_lt_cons_iff]
          simpa only [this] using h
        wp_walk
        rw [hc]
        exact ⟨plainId_quiet plain_eq_loop _, codeAny_builtin entry_eq_loop (by
          rw [Around.under_plainId plain_eq_loop _]
          exact ih (i + 1) (by omega) (by omega) (by omega) prog w A R _ ⟨hl, hb, h⟩)⟩
      | false =>
        have e : xs.getD i [] ≠ ys.getD i [] := by simpa using hb'
        have h : R (.ok (.ret (.bool (decide (xs.getD i [] < ys.getD i []))))) ⟨hp, g, d, tk, os⟩ := by
          have : (xs.getD i [] :: xs.drop (i + 1) < ys.getD i [] :: ys.drop (i + 1)) = (xs.getD i [] < ys.getD i []) := by simp only [List.cons_lt_cons_iff, e, false_and, or_false]
          simpa only [this] using h
        wp_walk using wpAny_loadPart' hl, wpAny_loadPart' hb
        rw [hi1, hi2, e1, e2]
        refine wpAny_bind (richCompare_gives (op := .Lt) (typeIs_str _ _ t1) (typeIs_str _ _ t2) F.slot_str_lt F.entry_str_lt (F.args_str_lt_2 _ _) (gives_str_lt _ _ t1 t2) (fun x => nomatch x) ?_)
        exact wpAny_pure h

theorem lt_call (l b : Addr) (items items2 : Array Value) (n n2 : Nat) (dd dd2 : Option Addr) (sl sl2 : Array (Option Value)) (xs ys : List (List Nat)) (hx : xs.length = items.size) (hy : ys.length = items2.size)
    (ex : ∀ j (h : j < items.size), ∃ t, items[j] = .str (S (xs.getD j [])) t) (ey : ∀ j (h : j < items2.size), ∃ t, items2[j] = .str (S (ys.getD j [])) t) :
    Meets (Builtin.«list.__lt__» ⟨[.ref l, .ref b], []⟩)
      (fun A R s => s.heap.get? l = some { cls := .type "list", dict := dd, data := .seq items n, slots := sl } ∧ s.heap.get? b = some { cls := .type "list", dict := dd2, data := .seq items2 n2, slots := sl2 } ∧
        R (.ok (.ret (.bool (decide (xs < ys))))) s) := by
  intro prog w A R s h
  obtain ⟨hp, g, d, tk, os⟩ := s; obtain ⟨hl, hb, h⟩ := h
  have f3 := AutoSeq1.sub_list_list
  wp_walk using wpAny_loadPart' hl, wpAny_loadPart' hb
  exact ⟨plainId_quiet plain_eq_loop _, codeAny_builtin entry_eq_loop (by
    rw [Around.under_plainId plain_eq_loop _]
    exact lt_loop l b items items2 n n2 dd dd2 sl sl2 xs ys hx hy ex ey _ 0 rfl (Nat.zero_le _) (Nat.zero_le _) prog w A R _ ⟨hl, hb, by simpa using h⟩)⟩

theorem lt_rc {A : Around} {s : Shared} {G : PH} {u v : Value} {xs ys : List (List Nat)} {Q E : Value → Shared → Prop} (hG : G.sub s.heap) (hu : Rep G u (.list (xs.map pS))) (hv : Rep G v (.list (ys.map pS))) (hr : A.units < cLine)
    (h : Q (.bool (decide (xs < ys))) s) : wpAny (model prog w) A (richCompare .Lt u v) Q E s := by
  obtain ⟨l, o, vs, n, rfl, ho, hc, hd, hA⟩ := hu.inv_list
  obtain ⟨b, o2, vs2, n2, rfl, ho2, hc2, hd2, hA2⟩ := hv.inv_list
  obtain ⟨cls, dd, data, sl⟩ := o
  obtain ⟨cls2, dd2, data2, sl2⟩ := o2
  simp only at hc hd hc2 hd2
  subst hc hd hc2 hd2
  have hl := hG _ _ ho
  have hb := hG _ _ ho2
  have el : ∀ {vs : Array Value} {xs : List (List Nat)}, RepAll G vs.toList (xs.map pS) → xs.length = vs.size ∧ ∀ j (h : j < vs.size), ∃ t, vs[j] = .str (S (xs.getD j [])) t := fun {vs xs} hA => by
    have hlen := hA.length
    have hlen : xs.length = vs.size := by simpa using hlen.symm
    refine ⟨hlen, fun j hj => ?_⟩
    obtain ⟨d, hd, hR⟩ := hA.get j vs[j] (by simp [hj])
    have hj2 : j < xs.length := by omega
    rw [List.getElem?_map, List.getElem?_eq_getElem hj2] at hd
    cases hd
    obtain ⟨t, e⟩ := hR.inv_str
    refine ⟨t, e.trans ?_⟩
    simp [List.getD, hj2]
  obtain ⟨hx, ex⟩ := el hA
  obtain ⟨hy, ey⟩ := el hA2
  exact richCompare_meets_room (op := .Lt) ⟨_, hl, rfl⟩ ⟨_, hb, rfl⟩ F.slot_list_lt F.entry_list_lt (F.args_list_lt_2 _ _) (lt_call l b vs vs2 n n2 dd dd2 sl sl2 xs ys hx hy ex ey)
    ⟨hl, hb, show Value.bool (decide (xs < ys)) ≠ Value.notImplemented ∧ Q (.bool (decide (xs < ys))) s from ⟨(fun x => nomatch x), h⟩⟩ hr

/-- the loop of min over a list of lists of texts: what it compares lies among the data -/
theorem min_loop {A : Around} {R : Result → Shared → Prop} {I l S : Addr} {items : Array Value} {G : PH} (hh : A.handled = none) (hne : l ≠ I) (hSI : S ≠ I) (hSl : S ≠ l) (hGI : G I = none) (hGS : G S = none) (bt : Nat → Nat → Bool)
    (hcmp : ∀ i j vi vj (s : Shared) (Q E : Value → Shared → Prop), G.sub s.heap → items[i]? = some vi → items[j]? = some vj → Q (.bool (bt i j)) s → wpAny (model prog w) A.in1 (richCompare .Lt vi vj) Q E s) :
    ∀ (k j : Nat) (s : Shared) (vb : Value) (c : Nat), items.size - (j + 1) = k → j + 1 ≤ items.size → s.heap.IsListIter I l (j + 1) → s.heap.IsList l items → items[argBest bt j]? = some vb → G.sub s.heap →
    s.heap.get? S = some { cls := .type "list", dict := none, data := .seq #[vb, vb] c, slots := #[] } →
    (∀ v h' tk, items[argBest bt (items.size - 1)]? = some v → (∀ b o, b ≠ I → b ≠ S → s.heap.get? b = some o → h'.get? b = some o) → R (.ok (.ret v)) { s with heap := h', toks := tk }) →
    codeAny (model prog w) A (.builtin "min.loop" ⟨[.ref I, .none, .ref S], []⟩) R s := by
  have W := Walks.list (prog := prog) (w := w) (A := A.in1) hh I l hne items
  have hname : (toString "min" ++ toString ".loop" : String) = "min.loop" := by decide
  have nI : ∀ {b : Addr}, b ≠ I → b ∉ [I] := fun h hm => h (by simpa using hm)
  intro k
  induction k with
  | zero =>
    intro j s vb c hk hj hit hls hPb hG hS hR
    have hin : j + 1 = items.size := by omega
    refine codeAny_builtin F.entry_min_loop ?_
    rw [Around.under_plainId F.plain_min_loop _]
    show wpAny _ A.in1 (seqItems? (.ref S) >>= _) _ _ s
    refine wpAny_bind (wpAny_seqItems hS rfl ?_)
    show wpAny _ A.in1 (tryCatch (pyNext (.ref I)) _ >>= _) _ _ s
    refine wpAny_bind (wpAny_tryCatch (W.done s _ _ (hin ▸ ⟨hit, hls⟩) fun h' tk hk' => ?_))
    have hS' := hk' S _ (nI hSI) hS
    show wpAny _ A.in1 (updateSeq S (fun _ => #[]) >>= _) _ _ _
    refine wpAny_bind ?_
    refine wpAny_updateSeq hS' rfl (wpAny_bind (wpAny_letGo (wpAny_pure ?_)))
    exact hR vb _ tk (by rw [← hin]; exact hPb) fun b o hb1 hb2 e => (Heap.get?_update_other _ _ (Ne.symm hb2)).trans (hk' b o (nI hb1) e)
  | succ k ih =>
    intro j s vb c hk hj hit hls hPb hG hS hR
    have hlt : j + 1 < items.size := by omega
    refine codeAny_builtin F.entry_min_loop ?_
    rw [Around.under_plainId F.plain_min_loop _]
    show wpAny _ A.in1 (seqItems? (.ref S) >>= _) _ _ s
    refine wpAny_bind (wpAny_seqItems hS rfl ?_)
    show wpAny _ A.in1 (tryCatch (pyNext (.ref I)) _ >>= _) _ _ s
    refine wpAny_bind (wpAny_tryCatch (W.item (j + 1) s _ _ hlt ⟨hit, hls⟩ fun v h' tk hP hst' hk' => ?_))
    have hS' := hk' S _ (nI hSI) hS
    have hG' : G.sub h' := fun b o e => hk' b o (nI (ne_of_get e (hGI))) (hG b o e)
    show wpAny _ A.in1 (tryCatch (holding [v, v] (richCompare .Lt v vb >>= _)) _ >>= _) _ _ _
    refine wpAny_bind (wpAny_tryCatch (wpAny_holding (wpAny_bind (hcmp (j + 1) (argBest bt j) v vb _ _ _ hG' hP hPb ?_))))
    refine wpAny_bind (wpAny_holding (wpAny_truthy_bool ?_))
    refine wpAny_bind (wpAny_letGo (wpAny_pure ?_))
    cases hb : bt (j + 1) (argBest bt j) with
    | true =>
      simp only [if_true]
      refine wpAny_bind ?_
      refine wpAny_updateSeq hS' rfl (wpAny_bind (wpAny_letGo ?_))
      rw [hname]
      have oth : ∀ b o, b ≠ S → h'.get? b = some o → _ := fun b o hb2 e => (Heap.get?_update_other h' (Obj.mapSeq fun _ => #[v, v]) (Ne.symm hb2)).trans e
      refine wpAny_pure ⟨plainId_quiet F.plain_min_loop _, ih (j + 1) _ v _ (by omega) hlt (hst'.1.at fun o e => oth I o (Ne.symm hSI) e) (hst'.2.at fun o e => oth l o (Ne.symm hSl) e) (by simp only [argBest, hb, if_true]; exact hP)
        (fun b o e => oth b o (ne_of_get e (hGS)) (hG' b o e)) (Heap.get?_update_self _ hS' rfl) fun v' h'' tk'' hP' hk'' => ?_⟩
      exact hR v' h'' tk'' hP' fun b o hb1 hb2 e => hk'' b o hb1 hb2 (oth b o hb2 (hk' b o (nI hb1) e))
    | false =>
      simp only [Bool.false_eq_true, if_false]
      refine wpAny_bind (wpAny_letGo ?_)
      rw [hname]
      refine wpAny_pure ⟨plainId_quiet F.plain_min_loop _, ih (j + 1) _ vb c (by omega) hlt hst'.1 hst'.2 (by simp only [argBest, hb, Bool.false_eq_true, if_false]; exact hPb) hG' hS' fun v' h'' tk'' hP' hk'' => ?_⟩
      exact hR v' h'' tk'' hP' fun b o hb1 hb2 e => hk'' b o hb1 hb2 (hk' b o (nI hb1) e)

theorem min_first {A : Around} {R : Result → Shared → Prop} {I l S : Addr} {items : Array Value} {G : PH} {s : Shared} (hh : A.handled = none) (hne : l ≠ I) (hSI : S ≠ I) (hSl : S ≠ l) (hGI : G I = none) (hGS : G S = none) (bt : Nat → Nat → Bool)
    (hcmp : ∀ i j vi vj (s : Shared) (Q E : Value → Shared → Prop), G.sub s.heap → items[i]? = some vi → items[j]? = some vj → Q (.bool (bt i j)) s → wpAny (model prog w) A.in1 (richCompare .Lt vi vj) Q E s)
    (hn : 0 < items.size) (hit : s.heap.IsListIter I l 0) (hls : s.heap.IsList l items) (hG : G.sub s.heap)
    (hS : s.heap.get? S = some { cls := .type "list", dict := none, data := .seq #[] 0, slots := #[] })
    (hR : ∀ v h' tk, items[argBest bt (items.size - 1)]? = some v → (∀ b o, b ≠ I → b ≠ S → s.heap.get? b = some o → h'.get? b = some o) → R (.ok (.ret v)) { s with heap := h', toks := tk }) :
    codeAny (model prog w) A (.builtin "min.loop" ⟨[.ref I, .none, .ref S], []⟩) R s := by
  have W := Walks.list (prog := prog) (w := w) (A := A.in1) hh I l hne items
  have hname : (toString "min" ++ toString ".loop" : String) = "min.loop" := by decide
  have nI : ∀ {b : Addr}, b ≠ I → b ∉ [I] := fun h hm => h (by simpa using hm)
  refine codeAny_builtin F.entry_min_loop ?_
  rw [Around.under_plainId F.plain_min_loop _]
  show wpAny _ A.in1 (seqItems? (.ref S) >>= _) _ _ s
  refine wpAny_bind (wpAny_seqItems hS rfl ?_)
  show wpAny _ A.in1 (tryCatch (pyNext (.ref I)) _ >>= _) _ _ s
  refine wpAny_bind (wpAny_tryCatch (W.item 0 s _ _ hn ⟨hit, hls⟩ fun v h' tk hP hst' hk' => ?_))
  have hS' := hk' S _ (nI hSI) hS
  have hG' : G.sub h' := fun b o e => hk' b o (nI (ne_of_get e (hGI))) (hG b o e)
  show wpAny _ A.in1 (updateSeq S (fun _ => #[v, v]) >>= _) _ _ _
  refine wpAny_bind ?_
  refine wpAny_updateSeq hS' rfl ?_
  rw [hname]
  have oth : ∀ b o, b ≠ S → h'.get? b = some o → _ := fun b o hb2 e => (Heap.get?_update_other h' (Obj.mapSeq fun _ => #[v, v]) (Ne.symm hb2)).trans e
  refine wpAny_pure ⟨plainId_quiet F.plain_min_loop _, min_loop hh hne hSI hSl hGI hGS bt hcmp _ 0 _ v _ rfl hn (hst'.1.at fun o e => oth I o (Ne.symm hSI) e) (hst'.2.at fun o e => oth l o (Ne.symm hSl) e) hP
    (fun b o e => oth b o (ne_of_get e (hGS)) (hG' b o e)) (Heap.get?_update_self _ hS' rfl) fun v' h'' tk'' hP' hk'' => ?_⟩
  exact hR v' h'' tk'' hP' fun b o hb1 hb2 e => hk'' b o hb1 hb2 (oth b o hb2 (hk' b o (nI hb1) e))

theorem op_minLL {ls : List (List (List Nat))} (h0 : 0 < ls.length) : OpL prog w Λ n (fun us => call (.builtin "min") us) [dL (ls.map fun l => .list (l.map pS))] (dL ((ls.getD (argBest (fun i j => decide (ls.getD i [] < ls.getD j [])) (ls.length - 1)) []).map pS)) := fun A G s E us hr hp ok => by
  cases ok with | cons o1 o2 => cases o2 with | nil =>
  obtain ⟨a, items, rfl, hGa, hl, hA⟩ := repList hp.data o1
  have hsz : items.size = ls.length := by have := hA.length; simpa using this
  have item : ∀ i v, items[i]? = some v → Rep G v (.list ((ls.getD i []).map pS)) := fun i v hv => by
    obtain ⟨d, hd, hR⟩ := hA.get i v (by simpa using hv)
    rw [List.getElem?_map] at hd
    cases hq : ls[i]? with
    | none => rw [hq] at hd; cases hd
    | some l => rw [hq] at hd; cases hd; simpa [List.getD, hq] using hR
  have hname : (toString "min" ++ toString ".loop" : String) = "min.loop" := by decide
  have halt : a < s.heap.objs.size := by obtain ⟨o, ho, _⟩ := hl; exact Heap.lt_size ho
  refine call_function_tree F.kind_min F.plain_min F.entry_min (F.args_min1 _) ?_
  show wpAny _ A.in1 (Builtin.Builtins.bindParams "min" ["key", "default"] 0 ⟨[], []⟩ >>= _) _ _ s
  refine wpAny_bind (wpAny_of_eq (show Builtin.Builtins.bindParams "min" ["key", "default"] 0 ⟨[], []⟩ = pure [none, none] from rfl) ?_)
  refine wpAny_bind (wpAny_pure ?_)
  refine wpAny_bind (wpAny_pyIter_list hl ?_)
  refine wpAny_bind (wpAny_newObj_type ?_)
  rw [hname]
  have hsz1 : (s.heap.push { cls := .type "list_iterator", data := .fields #[.ref a, .int 0 0] }).objs.size = s.heap.objs.size + 1 := Heap.size_push _ _
  have n1 : s.heap.get? s.heap.objs.size = none := none_ge (Nat.le_refl _)
  have n2 : s.heap.get? (s.heap.objs.size + 1) = none := none_ge (Nat.le_succ _)
  have ha1 : a ≠ s.heap.objs.size := Nat.ne_of_lt halt
  refine wpAny_pure ⟨plainId_quiet F.plain_min_loop _, min_first (G := G) hr.handled ha1 ?_ ?_ (PH.none_of_sub hp.data n1) ?_ (fun i j => decide (ls.getD i [] < ls.getD j [])) (fun i j vi vj s' Q E hG' hi hj hq => lt_rc hG' (item i vi hi) (item j vj hj) (by have := hr.lineD (k := 1) (by decide); exact this) hq) (by omega)
    (s := { s with heap := (s.heap.push { cls := .type "list_iterator", data := .fields #[.ref a, .int 0 0] }).push { cls := .type "list", data := .seq ([] : List Value).toArray } })
    ⟨_, Heap.get?_push_of_some _ (Heap.get?_push_size _ rfl), rfl, rfl⟩ ((hl.push _).push _) (fun b o e => Heap.get?_push_of_some _ (Heap.get?_push_of_some _ (hp.data b o e))) (Heap.get?_push_size _ rfl) fun v h' tk hv hk => ?_⟩
  · rw [hsz1]; exact Nat.succ_ne_self _
  · rw [hsz1]; exact Nat.ne_of_gt (Nat.lt_succ_of_lt halt)
  · rw [hsz1]; exact PH.none_of_sub hp.data n2
  · have old : ∀ b o, s.heap.get? b = some o → h'.get? b = some o := fun b o e => hk b o (Nat.ne_of_lt (Heap.lt_size e)) (by rw [hsz1]; exact Nat.ne_of_lt (Nat.lt_succ_of_lt (Heap.lt_size e))) (Heap.get?_push_of_some _ (Heap.get?_push_of_some _ e))
    rw [hsz] at hv
    exact Got.of hp.data (.of old) (item _ v hv)

theorem gt_loop (l b : Addr) (items items2 : Array Value) (n n2 : Nat) (dd dd2 : Option Addr) (sl sl2 : Array (Option Value)) (xs ys : List (List Nat)) (hx : xs.length = items.size) (hy : ys.length = items2.size)
    (ex : ∀ j (h : j < items.size), ∃ t, items[j] = .str (S (xs.getD j [])) t) (ey : ∀ j (h : j < items2.size), ∃ t, items2[j] = .str (S (ys.getD j [])) t) (k : Nat) :
    ∀ i : Nat, items.size - i = k → i ≤ items.size → i ≤ items2.size → Meets (Builtin.«list.__eq__.loop» ⟨[.ref l, .ref b, rawInt i, rawInt 4], []⟩)
      (fun A R s => s.heap.get? l = some { cls := .type "list", dict := dd, data := .seq items n, slots := sl } ∧ s.heap.get? b = some { cls := .type "list", dict := dd2, data := .seq items2 n2, slots := sl2 } ∧
        R (.ok (.ret (.bool (decide (ys.drop i < xs.drop i))))) s) := by
  have hsm : ∀ i, items.size ≤ i → xs.drop i = [] := fun i h => List.drop_eq_nil_of_le (by omega)
  have hsn : ∀ i, items2.size ≤ i → ys.drop i = [] := fun i h => List.drop_eq_nil_of_le (by omega)
  have hdx : ∀ i, i < items.size → xs.drop i = xs.getD i [] :: xs.drop (i + 1) := fun i h => by rw [List.drop_eq_getElem_cons (by omega)]; simp [List.getD, show i < xs.length by omega]
  have hdy : ∀ i, i < items2.size → ys.drop i = ys.getD i [] :: ys.drop (i + 1) := fun i h => by rw [List.drop_eq_getElem_cons (by omega)]; simp [List.getD, show i < ys.length by omega]
  induction k with
  | zero =>
    intro i hk h1 h2 prog w A R s h
    obtain ⟨hp, g, d, tk, os⟩ := s; obtain ⟨hl, hb, h⟩ := h
    wp_walk using wpAny_loadPart' hl, wpAny_loadPart' hb
    have hi1 : items[((i : Nat) : Int).toNat]? = none := by simp; omega
    have : items.size = i := by omega
    rw [hsm i (by omega)] at h
    rw [hi1]
    wp_walk using wpAny_loadPart' hl, wpAny_loadPart' hb
    have hres : decide (items2.size < items.size) = decide (ys.drop i < ([] : List (List Nat))) := by
      by_cases he : i = items2.size
      · rw [hsn i (by omega)]; simp; omega
      · rw [hdy i (by omega)]; simp; omega
    show R (.ok (.ret (.bool (decide (items2.size < items.size))))) _
    rw [hres]; exact h
  | succ k ih =>
    intro i hk h1 h2 prog w A R s h
    obtain ⟨hp, g, d, tk, os⟩ := s; obtain ⟨hl, hb, h⟩ := h
    wp_walk using wpAny_loadPart' hl, wpAny_loadPart' hb
    have hlt : i < items.size := by omega
    have hi1 : items[((i : Nat) : Int).toNat]? = some items[i] := by simp [hlt]
    have hc : ((i : Int) + 1) = ((i + 1 : Nat) : Int) := by push_cast; rfl
    rw [hdx i hlt] at h
    by_cases he : i = items2.size
    · have hi2 : items2[((i : Nat) : Int).toNat]? = none := by simp; omega
      rw [hsn i (by omega)] at h
      rw [hi1, hi2]
      wp_walk using wpAny_loadPart' hl, wpAny_loadPart' hb
      show R (.ok (.ret (.bool (decide (items2.size < items.size))))) _
      have hres : decide (items2.size < items.size) = true := by simp; omega
      rw [hres]; simpa using h
    · have hlt2 : i < items2.size := by omega
      have hi2 : items2[((i : Nat) : Int).toNat]? = some items2[i] := by simp [hlt2]
      rw [hdy i hlt2] at h
      rw [hi1, hi2]
      obtain ⟨t1, e1⟩ := ex i hlt
      obtain ⟨t2, e2⟩ := ey i hlt2
      rw [e1, e2]
      refine wpAny_bind (EqAt.str_str _ t1 _ t2 prog w _ _ ?_)
      rw [S_beq]
      cases hb' : (xs.getD i [] == ys.getD i []) with
      | true =>
        have e := eq_of_beq hb'
        rw [e] at h
        have h : R (.ok (.ret (.bool (decide (ys.drop (i + 1) < xs.drop (i + 1)))))) ⟨hp, g, d, tk, os⟩ := by
          have : (ys.getD i [] :: ys.drop (i + 1) < ys.getD i [] :: xs.drop (i + 1)) = (ys.drop (i + 1) < xs.drop (i + 1)) := by simp [List.cons_lt_cons_iff]
          simpa only [this] using h
        wp_walk
        rw [hc]
        exact ⟨plainId_quiet plain_eq_loop _, codeAny_builtin entry_eq_loop (by
          rw [Around.under_plainId plain_eq_loop _]
          exact ih (i + 1) (by omega) (by omega) (by omega) prog w A R _ ⟨hl, hb, h⟩)⟩
      | false =>
        have e : xs.getD i [] ≠ ys.getD i [] := by simpa using hb'
        have h : R (.ok (.ret (.bool (decide (ys.getD i [] < xs.getD i []))))) ⟨hp, g, d, tk, os⟩ := by
          have : (ys.getD i [] :: ys.drop (i + 1) < xs.getD i [] :: xs.drop (i + 1)) = (ys.getD i [] < xs.getD i []) := by simp only [List.cons_lt_cons_iff, Ne.symm e, false_and, or_false]
          simpa only [this] using h
        wp_walk using wpAny_loadPart' hl, wpAny_loadPart' hb
        rw [hi1, hi2, e1, e2]
        refine wpAny_bind (richCompare_gives (op := .Gt) (typeIs_str _ _ t1) (typeIs_str _ _ t2) F.slot_str_gt F.entry_str_gt (F.args_str_gt_2 _ _) (gives_str_gt _ _ t1 t2) (fun x => nomatch x) ?_)
        exact wpAny_pure h

theorem gt_call (l b : Addr) (items items2 : Array Value) (n n2 : Nat) (dd dd2 : Option Addr) (sl sl2 : Array (Option Value)) (xs ys : List (List Nat)) (hx : xs.length = items.size) (hy : ys.length = items2.size)
    (ex : ∀ j (h : j < items.size), ∃ t, items[j] = .str (S (xs.getD j [])) t) (ey : ∀ j (h : j < items2.size), ∃ t, items2[j] = .str (S (ys.getD j [])) t) :
    Meets (Builtin.«list.__gt__» ⟨[.ref l, .ref b], []⟩)
      (fun A R s => s.heap.get? l = some { cls := .type "list", dict := dd, data := .seq items n, slots := sl } ∧ s.heap.get? b = some { cls := .type "list", dict := dd2, data := .seq items2 n2, slots := sl2 } ∧
        R (.ok (.ret (.bool (decide (ys < xs))))) s) := by
  intro prog w A R s h
  obtain ⟨hp, g, d, tk, os⟩ := s; obtain ⟨hl, hb, h⟩ := h
  have f3 := AutoSeq1.sub_list_list
  wp_walk using wpAny_loadPart' hl, wpAny_loadPart' hb
  exact ⟨plainId_quiet plain_eq_loop _, codeAny_builtin entry_eq_loop (by
    rw [Around.under_plainId plain_eq_loop _]
    exact gt_loop l b items items2 n n2 dd dd2 sl sl2 xs ys hx hy ex ey _ 0 rfl (Nat.zero_le _) (Nat.zero_le _) prog w A R _ ⟨hl, hb, by simpa using h⟩)⟩

theorem gt_rc {A : Around} {s : Shared} {G : PH} {u v : Value} {xs ys : List (List Nat)} {Q E : Value → Shared → Prop} (hG : G.sub s.heap) (hu : Rep G u (.list (xs.map pS))) (hv : Rep G v (.list (ys.map pS))) (hr : A.units < cLine)
    (h : Q (.bool (decide (ys < xs))) s) : wpAny (model prog w) A (richCompare .Gt u v) Q E s := by
  obtain ⟨l, o, vs, n, rfl, ho, hc, hd, hA⟩ := hu.inv_list
  obtain ⟨b, o2, vs2, n2, rfl, ho2, hc2, hd2, hA2⟩ := hv.inv_list
  obtain ⟨cls, dd, data, sl⟩ := o
  obtain ⟨cls2, dd2, data2, sl2⟩ := o2
  simp only at hc hd hc2 hd2
  subst hc hd hc2 hd2
  have hl := hG _ _ ho
  have hb := hG _ _ ho2
  have el : ∀ {vs : Array Value} {xs : List (List Nat)}, RepAll G vs.toList (xs.map pS) → xs.length = vs.size ∧ ∀ j (h : j < vs.size), ∃ t, vs[j] = .str (S (xs.getD j [])) t := fun {vs xs} hA => by
    have hlen := hA.length
    have hlen : xs.length = vs.size := by simpa using hlen.symm
    refine ⟨hlen, fun j hj => ?_⟩
    obtain ⟨d, hd, hR⟩ := hA.get j vs[j] (by simp [hj])
    have hj2 : j < xs.length := by omega
    rw [List.getElem?_map, List.getElem?_eq_getElem hj2] at hd
    cases hd
    obtain ⟨t, e⟩ := hR.inv_str
    refine ⟨t, e.trans ?_⟩
    simp [List.getD, hj2]
  obtain ⟨hx, ex⟩ := el hA
  obtain ⟨hy, ey⟩ := el hA2
  exact richCompare_meets_room (op := .Gt) ⟨_, hl, rfl⟩ ⟨_, hb, rfl⟩ F.slot_list_gt F.entry_list_gt (F.args_list_gt_2 _ _) (gt_call l b vs vs2 n n2 dd dd2 sl sl2 xs ys hx hy ex ey)
    ⟨hl, hb, show Value.bool (decide (ys < xs)) ≠ Value.notImplemented ∧ Q (.bool (decide (ys < xs))) s from ⟨(fun x => nomatch x), h⟩⟩ hr

/-- the loop of max over a list of lists of texts: what it compares lies among the data -/
theorem max_loop {A : Around} {R : Result → Shared → Prop} {I l S : Addr} {items : Array Value} {G : PH} (hh : A.handled = none) (hne : l ≠ I) (hSI : S ≠ I) (hSl : S ≠ l) (hGI : G I = none) (hGS : G S = none) (bt : Nat → Nat → Bool)
    (hcmp : ∀ i j vi vj (s : Shared) (Q E : Value → Shared → Prop), G.sub s.heap → items[i]? = some vi → items[j]? = some vj → Q (.bool (bt i j)) s → wpAny (model prog w) A.in1 (richCompare .Gt vi vj) Q E s) :
    ∀ (k j : Nat) (s : Shared) (vb : Value) (c : Nat), items.size - (j + 1) = k → j + 1 ≤ items.size → s.heap.IsListIter I l (j + 1) → s.heap.IsList l items → items[argBest bt j]? = some vb → G.sub s.heap →
    s.heap.get? S = some { cls := .type "list", dict := none, data := .seq #[vb, vb] c, slots := #[] } →
    (∀ v h' tk, items[argBest bt (items.size - 1)]? = some v → (∀ b o, b ≠ I → b ≠ S → s.heap.get? b = some o → h'.get? b = some o) → R (.ok (.ret v)) { s with heap := h', toks := tk }) →
    codeAny (model prog w) A (.builtin "max.loop" ⟨[.ref I, .none, .ref S], []⟩) R s := by
  have W := Walks.list (prog := prog) (w := w) (A := A.in1) hh I l hne items
  have hname : (toString "max" ++ toString ".loop" : String) = "max.loop" := by decide
  have nI : ∀ {b : Addr}, b ≠ I → b ∉ [I] := fun h hm => h (by simpa using hm)
  intro k
  induction k with
  | zero =>
    intro j s vb c hk hj hit hls hPb hG hS hR
    have hin : j + 1 = items.size := by omega
    refine codeAny_builtin F.entry_max_loop ?_
    rw [Around.under_plainId F.plain_max_loop _]
    show wpAny _ A.in1 (seqItems? (.ref S) >>= _) _ _ s
    refine wpAny_bind (wpAny_seqItems hS rfl ?_)
    show wpAny _ A.in1 (tryCatch (pyNext (.ref I)) _ >>= _) _ _ s
    refine wpAny_bind (wpAny_tryCatch (W.done s _ _ (hin ▸ ⟨hit, hls⟩) fun h' tk hk' => ?_))
    have hS' := hk' S _ (nI hSI) hS
    show wpAny _ A.in1 (updateSeq S (fun _ => #[]) >>= _) _ _ _
    refine wpAny_bind ?_
    refine wpAny_updateSeq hS' rfl (wpAny_bind (wpAny_letGo (wpAny_pure ?_)))
    exact hR vb _ tk (by rw [← hin]; exact hPb) fun b o hb1 hb2 e => (Heap.get?_update_other _ _ (Ne.symm hb2)).trans (hk' b o (nI hb1) e)
  | succ k ih =>
    intro j s vb c hk hj hit hls hPb hG hS hR
    have hlt : j + 1 < items.size := by omega
    refine codeAny_builtin F.entry_max_loop ?_
    rw [Around.under_plainId F.plain_max_loop _]
    show wpAny _ A.in1 (seqItems? (.ref S) >>= _) _ _ s
    refine wpAny_bind (wpAny_seqItems hS rfl ?_)
    show wpAny _ A.in1 (tryCatch (pyNext (.ref I)) _ >>= _) _ _ s
    refine wpAny_bind (wpAny_tryCatch (W.item (j + 1) s _ _ hlt ⟨hit, hls⟩ fun v h' tk hP hst' hk' => ?_))
    have hS' := hk' S _ (nI hSI) hS
    have hG' : G.sub h' := fun b o e => hk' b o (nI (ne_of_get e (hGI))) (hG b o e)
    show wpAny _ A.in1 (tryCatch (holding [v, v] (richCompare .Gt v vb >>= _)) _ >>= _) _ _ _
    refine wpAny_bind (wpAny_tryCatch (wpAny_holding (wpAny_bind (hcmp (j + 1) (argBest bt j) v vb _ _ _ hG' hP hPb ?_))))
    refine wpAny_bind (wpAny_holding (wpAny_truthy_bool ?_))
    refine wpAny_bind (wpAny_letGo (wpAny_pure ?_))
    cases hb : bt (j + 1) (argBest bt j) with
    | true =>
      simp only [if_true]
      refine wpAny_bind ?_
      refine wpAny_updateSeq hS' rfl (wpAny_bind (wpAny_letGo ?_))
      rw [hname]
      have oth : ∀ b o, b ≠ S → h'.get? b = some o → _ := fun b o hb2 e => (Heap.get?_update_other h' (Obj.mapSeq fun _ => #[v, v]) (Ne.symm hb2)).trans e
      refine wpAny_pure ⟨plainId_quiet F.plain_max_loop _, ih (j + 1) _ v _ (by omega) hlt (hst'.1.at fun o e => oth I o (Ne.symm hSI) e) (hst'.2.at fun o e => oth l o (Ne.symm hSl) e) (by simp only [argBest, hb, if_true]; exact hP)
        (fun b o e => oth b o (ne_of_get e (hGS)) (hG' b o e)) (Heap.get?_update_self _ hS' rfl) fun v' h'' tk'' hP' hk'' => ?_⟩
      exact hR v' h'' tk'' hP' fun b o hb1 hb2 e => hk'' b o hb1 hb2 (oth b o hb2 (hk' b o (nI hb1) e))
    | false =>
      simp only [Bool.false_eq_true, if_false]
      refine wpAny_bind (wpAny_letGo ?_)
      rw [hname]
      refine wpAny_pure ⟨plainId_quiet F.plain_max_loop _, ih (j + 1) _ vb c (by omega) hlt hst'.1 hst'.2 (by simp only [argBest, hb, Bool.false_eq_true, if_false]; exact hPb) hG' hS' fun v' h'' tk'' hP' hk'' => ?_⟩
      exact hR v' h'' tk'' hP' fun b o hb1 hb2 e => hk'' b o hb1 hb2 (hk' b o (nI hb1) e)

theorem max_first {A : Around} {R : Result → Shared → Prop} {I l S : Addr} {items : Array Value} {G : PH} {s : Shared} (hh : A.handled = none) (hne : l ≠ I) (hSI : S ≠ I) (hSl : S ≠ l) (hGI : G I = none) (hGS : G S = none) (bt : Nat → Nat → Bool)
    (hcmp : ∀ i j vi vj (s : Shared) (Q E : Value → Shared → Prop), G.sub s.heap → items[i]? = some vi → items[j]? = some vj → Q (.bool (bt i j)) s → wpAny (model prog w) A.in1 (richCompare .Gt vi vj) Q E s)
    (hn : 0 < items.size) (hit : s.heap.IsListIter I l 0) (hls : s.heap.IsList l items) (hG : G.sub s.heap)
    (hS : s.heap.get? S = some { cls := .type "list", dict := none, data := .seq #[] 0, slots := #[] })
    (hR : ∀ v h' tk, items[argBest bt (items.size - 1)]? = some v → (∀ b o, b ≠ I → b ≠ S → s.heap.get? b = some o → h'.get? b = some o) → R (.ok (.ret v)) { s with heap := h', toks := tk }) :
    codeAny (model prog w) A (.builtin "max.loop" ⟨[.ref I, .none, .ref S], []⟩) R s := by
  have W := Walks.list (prog := prog) (w := w) (A := A.in1) hh I l hne items
  have hname : (toString "max" ++ toString ".loop" : String) = "max.loop" := by decide
  have nI : ∀ {b : Addr}, b ≠ I → b ∉ [I] := fun h hm => h (by simpa using hm)
  refine codeAny_builtin F.entry_max_loop ?_
  rw [Around.under_plainId F.plain_max_loop _]
  show wpAny _ A.in1 (seqItems? (.ref S) >>= _) _ _ s
  refine wpAny_bind (wpAny_seqItems hS rfl ?_)
  show wpAny _ A.in1 (tryCatch (pyNext (.ref I)) _ >>= _) _ _ s
  refine wpAny_bind (wpAny_tryCatch (W.item 0 s _ _ hn ⟨hit, hls⟩ fun v h' tk hP hst' hk' => ?_))
  have hS' := hk' S _ (nI hSI) hS
  have hG' : G.sub h' := fun b o e => hk' b o (nI (ne_of_get e (hGI))) (hG b o e)
  show wpAny _ A.in1 (updateSeq S (fun _ => #[v, v]) >>= _) _ _ _
  refine wpAny_bind ?_
  refine wpAny_updateSeq hS' rfl ?_
  rw [hname]
  have oth : ∀ b o, b ≠ S → h'.get? b = some o → _ := fun b o hb2 e => (Heap.get?_update_other h' (Obj.mapSeq fun _ => #[v, v]) (Ne.symm hb2)).trans e
  refine wpAny_pure ⟨plainId_quiet F.plain_max_loop _, max_loop hh hne hSI hSl hGI hGS bt hcmp _ 0 _ v _ rfl hn (hst'.1.at fun o e => oth I o (Ne.symm hSI) e) (hst'.2.at fun o e => oth l o (Ne.symm hSl) e) hP
    (fun b o e => oth b o (ne_of_get e (hGS)) (hG' b o e)) (Heap.get?_update_self _ hS' rfl) fun v' h'' tk'' hP' hk'' => ?_⟩
  exact hR v' h'' tk'' hP' fun b o hb1 hb2 e => hk'' b o hb1 hb2 (oth b o hb2 (hk' b o (nI hb1) e))

theorem op_maxLL {ls : List (List (List Nat))} (h0 : 0 < ls.length) : OpL prog w Λ n (fun us => call (.builtin "max") us) [dL (ls.map fun l => .list (l.map pS))] (dL ((ls.getD (argBest (fun i j => decide (ls.getD j [] < ls.getD i [])) (ls.length - 1)) []).map pS)) := fun A G s E us hr hp ok => by
  cases ok with | cons o1 o2 => cases o2 with | nil =>
  obtain ⟨a, items, rfl, hGa, hl, hA⟩ := repList hp.data o1
  have hsz : items.size = ls.length := by have := hA.length; simpa using this
  have item : ∀ i v, items[i]? = some v → Rep G v (.list ((ls.getD i []).map pS)) := fun i v hv => by
    obtain ⟨d, hd, hR⟩ := hA.get i v (by simpa using hv)
    rw [List.getElem?_map] at hd
    cases hq : ls[i]? with
    | none => rw [hq] at hd; cases hd
    | some l => rw [hq] at hd; cases hd; simpa [List.getD, hq] using hR
  have hname : (toString "max" ++ toString ".loop" : String) = "max.loop" := by decide
  have halt : a < s.heap.objs.size := by obtain ⟨o, ho, _⟩ := hl; exact Heap.lt_size ho
  refine call_function_tree F.kind_max F.plain_max F.entry_max (F.args_max1 _) ?_
  show wpAny _ A.in1 (Builtin.Builtins.bindParams "max" ["key", "default"] 0 ⟨[], []⟩ >>= _) _ _ s
  refine wpAny_bind (wpAny_of_eq (show Builtin.Builtins.bindParams "max" ["key", "default"] 0 ⟨[], []⟩ = pure [none, none] from rfl) ?_)
  refine wpAny_bind (wpAny_pure ?_)
  refine wpAny_bind (wpAny_pyIter_list hl ?_)
  refine wpAny_bind (wpAny_newObj_type ?_)
  rw [hname]
  have hsz1 : (s.heap.push { cls := .type "list_iterator", data := .fields #[.ref a, .int 0 0] }).objs.size = s.heap.objs.size + 1 := Heap.size_push _ _
  have n1 : s.heap.get? s.heap.objs.size = none := none_ge (Nat.le_refl _)
  have n2 : s.heap.get? (s.heap.objs.size + 1) = none := none_ge (Nat.le_succ _)
  have ha1 : a ≠ s.heap.objs.size := Nat.ne_of_lt halt
  refine wpAny_pure ⟨plainId_quiet F.plain_max_loop _, max_first (G := G) hr.handled ha1 ?_ ?_ (PH.none_of_sub hp.data n1) ?_ (fun i j => decide (ls.getD j [] < ls.getD i [])) (fun i j vi vj s' Q E hG' hi hj hq => gt_rc hG' (item i vi hi) (item j vj hj) (by have := hr.lineD (k := 1) (by decide); exact this) hq) (by omega)
    (s := { s with heap := (s.heap.push { cls := .type "list_iterator", data := .fields #[.ref a, .int 0 0] }).push { cls := .type "list", data := .seq ([] : List Value).toArray } })
    ⟨_, Heap.get?_push_of_some _ (Heap.get?_push_size _ rfl), rfl, rfl⟩ ((hl.push _).push _) (fun b o e => Heap.get?_push_of_some _ (Heap.get?_push_of_some _ (hp.data b o e))) (Heap.get?_push_size _ rfl) fun v h' tk hv hk => ?_⟩
  · rw [hsz1]; exact Nat.succ_ne_self _
  · rw [hsz1]; exact Nat.ne_of_gt (Nat.lt_succ_of_lt halt)
  · rw [hsz1]; exact PH.none_of_sub hp.data n2
  · have old : ∀ b o, s.heap.get? b = some o → h'.get? b = some o := fun b o e => hk b o (Nat.ne_of_lt (Heap.lt_size e)) (by rw [hsz1]; exact Nat.ne_of_lt (Nat.lt_succ_of_lt (Heap.lt_size e))) (Heap.get?_push_of_some _ (Heap.get?_push_of_some _ e))
    rw [hsz] at hv
    exact Got.of hp.data (.of old) (item _ v hv)
end
end Mine
end
section
open AutoSeq1 (wpAny_loadPart')
set_option Elab.async false
set_option linter.unusedVariables false
set_option maxRecDepth 100000
namespace Mine
theorem owner_map : Manifest.owners.lookup (String.ofList ['p', 'a', 'm'].reverse) = some Manifest.sig_map := by kernel_rfl
theorem slot_map_next : Slot "map" "__next__" "map.__next__" :=
  .of (owner := "map") (n := "__next__") (by rw [typeLookup_type, builtinLookup_eq_fast]; kernel_rfl) (by decide +kernel) (by decide +kernel) (by decide +kernel)
    (by first | exact .inl (by decide +kernel) | exact .inr (by decide +kernel)) (by rw [isSubtype_type]; kernel_rfl)
theorem slot_map_iter : Slot "map" "__iter__" "map.__iter__" :=
  .of (owner := "map") (n := "__iter__") (by rw [typeLookup_type, builtinLookup_eq_fast]; kernel_rfl) (by decide +kernel) (by decide +kernel) (by decide +kernel)
    (by first | exact .inl (by decide +kernel) | exact .inr (by decide +kernel)) (by rw [isSubtype_type]; kernel_rfl)
theorem slot_map_init : Slot "map" "__init__" "object.__init__" :=
  .of (owner := "object") (n := "__init__") (by rw [typeLookup_type, builtinLookup_eq_fast]; kernel_rfl) (by decide +kernel) (by decide +kernel) (by decide +kernel)
    (by first | exact .inl (by decide +kernel) | exact .inr (by decide +kernel)) (by rw [isSubtype_type]; kernel_rfl)
theorem args_map_next_1 (a : Value) : argsOk "map.__next__" ⟨[a], []⟩ := by
  unfold argsOk; rw [signature?_of (id := "map.__next__") (n := ['_', '_', 't', 'x', 'e', 'n', '_', '_']) (o := ['p', 'a', 'm']) (by kernel_rfl) owner_map]; kernel_rfl
theorem args_map_iter_1 (a : Value) : argsOk "map.__iter__" ⟨[a], []⟩ := by
  unfold argsOk; rw [signature?_of (id := "map.__iter__") (n := ['_', '_', 'r', 'e', 't', 'i', '_', '_']) (o := ['p', 'a', 'm']) (by kernel_rfl) owner_map]; kernel_rfl
theorem entry_map_next : entryFor table "map.__next__" = some Builtin.«map.__next__» := entryFor_of_tree (by kernel_rfl)
theorem entry_map_new : entryFor table "map.__new__" = some Builtin.«map.__new__» := entryFor_of_tree (by kernel_rfl)
theorem entry_map_iter : entryFor table "map.__iter__" = some Builtin.«dict_keyiterator.__iter__» :=
  entryFor_alias (id' := "dict_keyiterator.__iter__") (by kernel_rfl) (by first | rfl | decide +kernel | (unfold String.splitOn; simp +decide [String.splitOnAux])) (by decide +kernel) (by kernel_rfl)
theorem mro_map : mroOf (.type "map") = pure [.type "map", .type "object"] := by rw [mroOf_type]; kernel_rfl
theorem lookup_map_new : typeLookup (.type "map") "__new__" = pure (some (.builtin "map.__new__")) := by rw [typeLookup_type, builtinLookup_eq_fast]; kernel_rfl
theorem called_map : TypeCalled "map" "map.__new__" "object.__init__" :=
  ⟨by decide +kernel, by decide +kernel, ⟨_, _, mro_map⟩, madeBy_type mro_map lookup_map_new (by decide +kernel), by decide +kernel, by rw [isSubtype_type]; kernel_rfl, slot_map_init⟩
theorem typeCall_map_2 (a b : Value) : checkTypeCall "map" ⟨[a, b], []⟩ = pure () := by kernel_rfl
theorem newCall_map_2 (a b : Value) : checkBuiltinCall "map.__new__" ⟨[.type "map", a, b], []⟩ = pure () := by kernel_rfl
theorem sub_map : isSubtype (.type "map") (.type "map") = pure true := by rw [isSubtype_type]; kernel_rfl
theorem map_no_len : typeLookup (.type "map") "__len__" = pure none := by rw [typeLookup_type, builtinLookup_eq_fast]; kernel_rfl
theorem map_no_hint : typeLookup (.type "map") "__length_hint__" = pure none := by rw [typeLookup_type, builtinLookup_eq_fast]; kernel_rfl

noncomputable abbrev mapH1 (h : Heap) (l : Addr) : Heap := h.push { cls := .type "list_iterator", data := .fields #[.ref l, .int 0 0] }
noncomputable abbrev mapH2 (h : Heap) (l : Addr) : Heap := (mapH1 h l).push { cls := .type "tuple", data := .seq #[.ref h.objs.size] }
noncomputable abbrev mapH3 (h : Heap) (l : Addr) (f : Value) : Heap := (mapH2 h l).push { cls := .type "map", data := .fields #[.ref (mapH1 h l).objs.size, f] }
theorem meets_map_new (l : Addr) (f : Value) (xs : Array Value) :
    Meets (Builtin.«map.__new__» ⟨[.type "map", f, .ref l], []⟩) (fun _ R s => s.heap.IsList l xs ∧ R (.ok (.ret (.ref (mapH2 s.heap l).objs.size))) { s with heap := mapH3 s.heap l f }) :=
  .of_wp fun prog w A R s h => by
    obtain ⟨hp, g, d, tk, os⟩ := s; obtain ⟨hl1, h⟩ := h
    have hsub := sub_map
    have hL1 : Heap.IsList (Shared.heap ⟨hp, g, d, tk, os⟩) l xs := hl1
    wp_walk using wpAny_pyIter_list hL1
    exact ⟨_, rfl, h⟩
end Mine
end
section
open AutoSeq1 (wpAny_loadPart')
set_option Elab.async false
set_option linter.unusedVariables false
set_option maxRecDepth 100000
namespace Mine
structure IsMapO (h : Heap) (mp T I l : Addr) (f : Value) (items : Array Value) (i : Nat) : Prop where
  obj : h.get? mp = some { cls := .type "map", data := .fields #[.ref T, f] }
  tup : h.get? T = some { cls := .type "tuple", data := .seq #[.ref I] }
  it : h.IsListIter I l i
  lst : h.IsList l items
section
variable {prog : Program} {w : World} {A : Around} {E : Value → Shared → Prop} {s : Shared}
theorem call_map {l : Addr} {f : Value} {items : Array Value} {Q : Value → Shared → Prop} (hl : s.heap.IsList l items)
    (h : IsMapO (mapH3 s.heap l f) (s.heap.objs.size + 2) (s.heap.objs.size + 1) s.heap.objs.size l f items 0 → Q (.ref (s.heap.objs.size + 2)) { s with heap := mapH3 s.heap l f }) :
    wpAny (model prog w) A (call (.type "map") [f, .ref l]) Q E s := by
  refine callType_new called_map (by decide) (typeCall_map_2 _ _) (newCall_map_2 _ _) (fun obj => F.args_object_init_3 obj _ _) entry_map_new (meets_map_new l f items) ⟨hl, ?_⟩
  have z1 : (mapH1 s.heap l).objs.size = s.heap.objs.size + 1 := Heap.size_push ..
  have z2 : (mapH2 s.heap l).objs.size = s.heap.objs.size + 2 := by rw [Heap.size_push, z1]
  have g3 : (mapH3 s.heap l f).get? (mapH2 s.heap l).objs.size = some _ := Heap.get?_push_size _ rfl
  have g2 : (mapH3 s.heap l f).get? (mapH1 s.heap l).objs.size = some _ := Heap.get?_push_of_some _ (Heap.get?_push_size _ rfl)
  have g1 : (mapH3 s.heap l f).get? s.heap.objs.size = some _ := Heap.get?_push_of_some _ (Heap.get?_push_of_some _ (Heap.get?_push_size _ rfl))
  show _ ∧ _
  rw [z2] at g3
  rw [z1] at g2 g3
  rw [z2]
  exact ⟨⟨_, g3, rfl⟩, h ⟨g3, g2, ⟨_, g1, rfl, rfl⟩, ((hl.push _).push _).push _⟩⟩
theorem pyIter_map {mp T : Addr} {f : Value} {Q : Value → Shared → Prop} (ho : s.heap.get? mp = some { cls := .type "map", data := .fields #[.ref T, f] }) (h : Q (.ref mp) s) : wpAny (model prog w) A (pyIter (.ref mp)) Q E s := by
  have hT : s.TypeIs (.ref mp) "map" := ⟨_, ho, rfl⟩
  refine wpAny_pyIter_slot hT slot_map_iter (wpAny_call_entry slot_map_iter hT entry_map_iter ?_ (args_map_iter_1 _))
  show wpAny _ _ (ret (.ref mp)) _ _ s
  exact wpAny_pure ⟨_, rfl, "map", _, hT, slot_map_next.lookup, h⟩
theorem forIn_one {β : Type} (x : Value) (b : β) (f : Value → β → Sem (ForInStep β)) : (forIn (#[x] : Array Value) b f : Sem β) = (do match ← f x b with | .done b => pure b | .yield b => pure b) := by
  simp [← Array.forIn_toList, List.forIn_cons]
  rfl
/-- one draw of a map: the next thing of the list, then the call -/
theorem map_item {mp T I l : Addr} {f x : Value} {items : Array Value} {i : Nat} {Q : Option Value → Shared → Prop} (hm : IsMapO s.heap mp T I l f items i) (hx : items[i]? = some x) (hIm : mp ≠ I)
    (h : ∀ h' E', h'.IsListIter I l (i + 1) → Heap.SameBut I s.heap h' → wpAny (model prog w) A.in1 (call f [x]) (fun v s' => Q (some v) s') E' { s with heap := h' }) :
    wpAny (model prog w) A (pyNext (.ref mp)) Q E s := by
  have hT : s.TypeIs (.ref mp) "map" := ⟨_, hm.obj, rfl⟩
  unfold pyNext
  refine wpAny_bind (wpAny_attempt (wpAny_callSpecial?_slot (name := Str.ofString "__next__") hT slot_map_next (wpAny_call_entry slot_map_next hT entry_map_next ?_ (args_map_next_1 _))))
  show wpAny _ _ (field (.ref mp) 0 >>= _) _ _ s
  refine wpAny_bind (wpAny_field hm.obj rfl (x := .ref T) rfl ?_)
  show wpAny _ _ (seqItems? (.ref T) >>= _) _ _ s
  refine wpAny_bind (wpAny_seqItems hm.tup rfl ?_)
  show wpAny _ A.in1 ((do
    let r ← forIn (#[Value.ref I] : Array Value) (#[] : Array Value) fun it r => (do let v ← holding r.toList (Builtin.SmallTypes.nextOf it); pure (ForInStep.yield (r.push v)))
    let f ← field (.ref mp) 1
    let result ← holding r.toList (call f r.toList)
    letGo r.toList [result]
    ret result : Sem PySem.Fin)) _ _ s
  rw [forIn_one]
  refine wpAny_bind (wpAny_bind (wpAny_bind (wpAny_holding (wpAny_nextOf_list_item hm.it hm.lst hx fun h' hit hs => ?_))))
  refine wpAny_pure (wpAny_pure ?_)
  refine wpAny_bind (wpAny_field (hs.extBut _ _ hIm hm.obj) rfl (x := f) rfl ?_)
  refine wpAny_bind (wpAny_holding (wpAny_mono (h h' _ hit hs) (fun v s' hq => ?_) fun _ _ e => e))
  exact wpAny_bind (wpAny_letGo (wpAny_pure ⟨_, rfl, wpAny_pure hq⟩))
theorem map_done {mp T I l : Addr} {f : Value} {items : Array Value} {i : Nat} {Q : Option Value → Shared → Prop} (hh : A.handled = none) (hm : IsMapO s.heap mp T I l f items i) (hx : items[i]? = none)
    (h : ∀ h', Heap.ExtBut I s.heap h' → Q none { s with heap := h' }) :
    wpAny (model prog w) A (pyNext (.ref mp)) Q E s := by
  have hT : s.TypeIs (.ref mp) "map" := ⟨_, hm.obj, rfl⟩
  unfold pyNext
  refine wpAny_bind (wpAny_attempt (wpAny_callSpecial?_slot (name := Str.ofString "__next__") hT slot_map_next (wpAny_call_entry slot_map_next hT entry_map_next ?_ (args_map_next_1 _))))
  show wpAny _ _ (field (.ref mp) 0 >>= _) _ _ s
  refine wpAny_bind (wpAny_field hm.obj rfl (x := .ref T) rfl ?_)
  show wpAny _ _ (seqItems? (.ref T) >>= _) _ _ s
  refine wpAny_bind (wpAny_seqItems hm.tup rfl ?_)
  show wpAny _ A.in1 ((do
    let r ← forIn (#[Value.ref I] : Array Value) (#[] : Array Value) fun it r => (do let v ← holding r.toList (Builtin.SmallTypes.nextOf it); pure (ForInStep.yield (r.push v)))
    let f ← field (.ref mp) 1
    let result ← holding r.toList (call f r.toList)
    letGo r.toList [result]
    ret result : Sem PySem.Fin)) _ _ s
  rw [forIn_one]
  refine wpAny_bind (wpAny_bind (wpAny_bind (wpAny_holding (wpAny_nextOf_list_end hh hm.it hm.lst hx fun h' e hs he => ?_))))
  obtain ⟨o, ho, hc⟩ := he
  exact wpAny_bind (wpAny_isInstance (T := "StopIteration") (b := true) ⟨o, ho, hc⟩ isSubtype_stop (wpAny_pure (h h' hs)))
end
section
variable {w : World} {Λ : Glo} {m : Nat}
/-- the state amid the walk of a map -/
structure MInv (s₀ : Shared) (G₀ : PH) (mp T I D l : Addr) (f : Value) (items : Array Value) (xs : List (List Nat)) (i : Nat) (acc : Array Value) (G : PH) (s : Shared) : Prop where
  grow : Grow s₀ s
  gx : Gx s₀ G₀ G s
  map : IsMapO s.heap mp T I l f items i
  obj : ∃ c, s.heap.get? D = some { cls := .type "list", dict := none, data := .seq acc c, slots := #[] }
  rep : RepAll G acc.toList ((xs.take i).map pS)
  none : ∀ a ∈ [mp, T, I, D], G a = none ∧ s₀.heap.get? a = none
structure MApart (mp T I D l : Addr) : Prop where
  mI : mp ≠ I
  mD : mp ≠ D
  TI : T ≠ I
  TD : T ≠ D
  ID : I ≠ D
  lI : l ≠ I
  lD : l ≠ D
theorem extend_map {A : Around} {R : Result → Shared → Prop} {s₀ : Shared} {G₀ : PH} {mp T I D l : Addr} {f res : Value} {items : Array Value} {xs : List (List Nat)} (hr : Rm (m + 2) A) (p0 : P0 Λ G₀ s₀) (ap : MApart mp T I D l) (hl : items.size = xs.length) (hGl : G₀ l ≠ none)
    (hx : RepAll G₀ items.toList (xs.map pS)) (hsz : xs.length ≤ sizeLine) (hf : ∀ x ∈ xs, OpL pr w Λ m (fun us => call f us) [dS x] (dS x)) :
    ∀ (k i : Nat) (s : Shared) (G : PH) (acc : Array Value), xs.length - i = k → i ≤ xs.length → MInv s₀ G₀ mp T I D l f items xs i acc G s →
    (∀ s' acc' G' c, Grow s₀ s' → Gx s₀ G₀ G' s' → s'.heap.get? D = some { cls := .type "list", dict := Option.none, data := .seq acc' c, slots := #[] } → RepAll G' acc'.toList (xs.map pS) → R (.ok (.ret res)) s') →
    codeAny (model pr w) A (.builtin "list.extend.loop" ⟨[.ref D, .ref mp, res], []⟩) R s := by
  intro k
  induction k with
  | zero =>
    intro i s G acc hk hi inv hR
    have hin : i = xs.length := by omega
    subst hin
    refine codeAny_builtin F.entry_extend_loop ?_
    rw [Around.under_plainId F.plain_extend_loop _]
    show wpAny _ A.in1 (pyNext (.ref mp) >>= _) _ _ s
    refine wpAny_bind (map_done (A := A.in1) hr.handled inv.map (by simp [hl]) fun h' hs => wpAny_pure ?_)
    have keep : ∀ b o, b ≠ I → s.heap.get? b = some o → h'.get? b = some o := fun b o hb e => hs b o hb e
    have nI : G I = none ∧ s₀.heap.get? I = none := inv.none I (by simp)
    obtain ⟨c, hD⟩ := inv.obj
    exact hR _ acc G c ⟨fun b o e => keep b o (ne_of_get e (nI.2)) (inv.grow.keep b o e), inv.grow.gens, inv.grow.bare, inv.grow.os⟩
      ⟨inv.gx.le, fun b o e => keep b o (ne_of_get e (nI.1)) (inv.gx.sub b o e), inv.gx.new⟩ (keep _ _ (Ne.symm ap.ID) hD) (by simpa using inv.rep)
  | succ k ih =>
    intro i s G acc hk hi inv hR
    have hlt : i < xs.length := by omega
    obtain ⟨x, hxi⟩ : ∃ x, items[i]? = some x := ⟨_, Array.getElem?_eq_getElem (by omega)⟩
    obtain ⟨d, hd, hRep⟩ := hx.get i x (by simpa using hxi)
    have hd : d = pS (xs[i]) := by
      rw [List.getElem?_map, List.getElem?_eq_getElem hlt] at hd
      cases hd; rfl
    subst hd
    refine codeAny_builtin F.entry_extend_loop ?_
    rw [Around.under_plainId F.plain_extend_loop _]
    show wpAny _ A.in1 (pyNext (.ref mp) >>= _) _ _ s
    have nI : G I = none ∧ s₀.heap.get? I = none := inv.none I (by simp)
    have nD : G D = none ∧ s₀.heap.get? D = none := inv.none D (by simp)
    refine wpAny_bind (map_item (A := A.in1) inv.map hxi ap.mI fun h' E' hit hs => ?_)
    have g1 : Grow s₀ { s with heap := h' } := ⟨fun b o e => hs.extBut b o (ne_of_get e (nI.2)) (inv.grow.keep b o e), inv.grow.gens, inv.grow.bare, inv.grow.os⟩
    have x1 : Gx s₀ G₀ G { s with heap := h' } := ⟨inv.gx.le, fun b o e => hs.extBut b o (ne_of_get e (nI.1)) (inv.gx.sub b o e), inv.gx.new⟩
    have p1 : P0 Λ G { s with heap := h' } := p0.grow g1 x1
    refine wpAny_mono (hf _ (List.getElem_mem hlt) A.in1.in1 G _ E' [x] (hr.in1.in1) p1 (.cons (hRep.mono inv.gx.le) .nil)) (fun v s2 h2 => ?_) fun _ _ e => e
    obtain ⟨g2, G2, x2, ok⟩ := h2
    obtain ⟨c, hD⟩ := inv.obj
    have hD1 := hs.extBut D _ (Ne.symm ap.ID) hD
    have hD2 := g2.keep D _ hD1
    have hsz2 : acc.size = i := by
      have := inv.rep.length
      simpa [Nat.min_eq_left hi] using this
    have keep2 : ∀ b o, b ≠ I → s.heap.get? b = some o → s2.heap.get? b = some o := fun b o hb e => g2.keep b o (hs.extBut b o hb e)
    have none2 : ∀ {a : Addr} {o : Obj}, h'.get? a = some o → G a = none → G2 a = none := fun {a o} e hn => by
      cases hq : G2 a with
      | none => rfl
      | some o' =>
        rcases x2.new a o' hq with h | h
        · rw [hn] at h; cases h
        · rw [show ({ s with heap := h' } : Shared).heap.get? a = some o from e] at h; cases h
    obtain ⟨oI, hoI, _⟩ := id hit
    show wpAny _ A.in1 (updateSeq D (·.push v) >>= _) _ _ _
    refine wpAny_bind ?_
    refine wpAny_updateSeq hD2 rfl (wpAny_pure ⟨plainId_quiet F.plain_extend_loop _, ih (i + 1) _ G2 (acc.push v) (by omega) hlt ?_ hR⟩) (by rw [hsz2]; omega) (by show (acc.push v).size ≤ sizeLine + 1; rw [Array.size_push, hsz2]; omega)
    have oth : ∀ b o, b ≠ D → s2.heap.get? b = some o → (s2.heap.update D (Obj.mapSeq (·.push v))).get? b = some o := fun b o hb e => (Heap.get?_update_other _ _ (Ne.symm hb)).trans e
    have gg := g1.trans g2
    have xx := x1.trans g1 x2
    have n2 : ∀ a ∈ [mp, T, I, D], G2 a = none ∧ s₀.heap.get? a = none := fun a ha => by
      have h0 := inv.none a ha
      refine ⟨?_, h0.2⟩
      simp only [List.mem_cons, List.not_mem_nil, or_false] at ha
      rcases ha with rfl | rfl | rfl | rfl
      · exact none2 (hs.extBut _ _ ap.mI inv.map.obj) h0.1
      · exact none2 (hs.extBut _ _ ap.TI inv.map.tup) h0.1
      · exact none2 hoI h0.1
      · exact none2 hD1 h0.1
    have nD2 := n2 D (by simp)
    refine ⟨⟨fun b o e => oth b o (ne_of_get e (nD2.2)) (gg.keep b o e), gg.gens, gg.bare, gg.os⟩, ⟨xx.le, fun b o e => oth b o (ne_of_get e (nD2.1)) (xx.sub b o e), xx.new⟩,
      ⟨oth _ _ ap.mD (keep2 _ _ ap.mI inv.map.obj), oth _ _ ap.TD (keep2 _ _ ap.TI inv.map.tup), (hit.at fun o e => g2.keep _ o e).at fun o e => oth _ o ap.ID e, ?_⟩, ⟨_, Heap.get?_update_self _ hD2 rfl⟩, ?_, n2⟩
    · exact inv.map.lst.at fun o e => oth l o ap.lD (keep2 l o ap.lI e)
    · rw [Array.toList_push, List.take_add_one, List.getElem?_eq_getElem hlt, List.map_append]
      exact (inv.rep.mono x2.le).append (.cons ok .nil)
end
end Mine
end
section
open AutoSeq1 (wpAny_loadPart')
set_option Elab.async false
set_option linter.unusedVariables false
set_option maxRecDepth 100000
namespace Mine
section
variable {w : World} {Λ : Glo} {m : Nat}
theorem collect_map {A : Around} {Q : List Value → Shared → Prop} {E : Value → Shared → Prop} {s₀ s : Shared} {G₀ : PH} {mp T I l : Addr} {f : Value} {items : Array Value} {xs : List (List Nat)} (hr : Rm (m + 2) A) (p0 : P0 Λ G₀ s₀) (hl : items.size = xs.length) (hGl : G₀ l ≠ Option.none)
    (hx : RepAll G₀ items.toList (xs.map pS)) (hsz : xs.length ≤ sizeLine) (hf : ∀ x ∈ xs, OpL pr w Λ m (fun us => call f us) [dS x] (dS x))
    (g : Grow s₀ s) (hsub : G₀.sub s.heap) (hm : IsMapO s.heap mp T I l f items 0) (fresh : ∀ a ∈ [mp, T, I], s₀.heap.get? a = Option.none) (h1 : mp ≠ I) (h2 : T ≠ I)
    (hQ : ∀ s' (acc : Array Value) G', Grow s₀ s' → Gx s₀ G₀ G' s' → RepAll G' acc.toList (xs.map pS) → Q acc.toList s') : wpAny (model pr w) A (collect (.ref mp)) Q E s := by
  have hlt : ∀ {a : Addr} {o : Obj}, s.heap.get? a = some o → a ≠ s.heap.objs.size := fun e => Nat.ne_of_lt (Heap.lt_size e)
  obtain ⟨oI, hoI, hI2⟩ := id hm.it
  obtain ⟨ol, hol, hl2⟩ := id hm.lst
  have hlI : l ≠ I := by
    rintro rfl
    obtain ⟨o, ho⟩ : ∃ o, G₀ l = some o := by
      cases hq : G₀ l with
      | none => exact absurd hq hGl
      | some o => exact ⟨o, rfl⟩
    have := p0.data l o ho
    rw [fresh l (by simp)] at this; cases this
  have hD0 : s₀.heap.get? s.heap.objs.size = Option.none := by
    cases hq : s₀.heap.get? s.heap.objs.size with
    | none => rfl
    | some o => exact absurd (Heap.lt_size (g.keep _ o hq)) (Nat.lt_irrefl _)
  have ap : MApart mp T I s.heap.objs.size l := ⟨h1, hlt hm.obj, h2, hlt hm.tup, hlt hoI, hlI, hlt hol⟩
  have hT : ∀ {s' : Shared}, s'.heap.get? mp = some { cls := .type "map", data := .fields #[.ref T, f] } → s'.TypeIs (.ref mp) "map" := fun e => ⟨_, e, rfl⟩
  unfold collect
  refine wpAny_bind (wpAny_runValue (codeAny_builtin F.entry_proto_collect ?_))
  rw [Around.under_plainId F.plain_proto_collect _]
  show wpAny _ A.in1 (newList [] >>= fun l => again (.builtin "list.__iadd__" ⟨[l, .ref mp], []⟩)) _ _ s
  refine wpAny_bind (wpAny_newObj_type ?_)
  refine wpAny_pure ⟨plainId_quiet F.plain_list_iadd _, codeAny_builtin F.entry_list_iadd ?_⟩
  rw [Around.under_plainId F.plain_list_iadd _]
  have m1 : (s.heap.push { cls := .type "list", data := .seq ([] : List Value).toArray }).get? mp = _ := Heap.get?_push_of_some _ hm.obj
  show wpAny _ A.in1 (Builtin.List.listExtendWith (.ref s.heap.objs.size) (.ref mp) (.ref s.heap.objs.size)) _ _ _
  unfold Builtin.List.listExtendWith
  refine wpAny_bind (wpAny_typeOf (hT m1) ?_)
  have e1 : Builtin.List.listSameRef (.ref s.heap.objs.size) (.ref mp) = false := by simp [Builtin.List.listSameRef, Ne.symm ap.mD]
  have e2 : (Value.type "map" == Value.type "list") = false := by decide
  have e3 : (Value.type "map" == Value.type "tuple") = false := by decide
  simp only [e1, e2, e3, Bool.or_false, Bool.false_eq_true, if_false]
  refine wpAny_bind (pyIter_map m1 ?_)
  refine wpAny_bind (wpAny_holding ?_)
  unfold Builtin.List.listLengthHint
  refine wpAny_bind (wpAny_specialOf (hT m1) map_no_len ?_)
  show wpAny _ A.in1 (specialOf (Value.ref mp) (Str.ofString "__length_hint__") >>= _) _ _ _
  refine wpAny_bind (wpAny_specialOf (hT m1) map_no_hint ?_)
  refine wpAny_pure ?_
  show wpAny _ A.in1 (rule "list.extend.makes-room" >>= fun _ => Builtin.List.listTouch (.ref s.heap.objs.size) >>= fun _ =>
    again (.builtin "list.extend.loop" ⟨[.ref s.heap.objs.size, .ref mp, .ref s.heap.objs.size], []⟩)) _ _ _
  refine wpAny_bind (wpAny_rule ?_)
  have hS₁ : (s.heap.push { cls := .type "list", data := .seq ([] : List Value).toArray }).get? s.heap.objs.size = some { cls := .type "list", data := .seq ([] : List Value).toArray } := Heap.get?_push_size _ rfl
  refine wpAny_bind ?_
  show wpAny _ A.in1 (updateSeq s.heap.objs.size (·.push .none) >>= fun _ => updateSeq s.heap.objs.size (·.pop)) _ _ _
  refine wpAny_bind (wpAny_updateSeq hS₁ rfl ?_)
  have hS₂ := Heap.get?_update_self (Obj.mapSeq (·.push Value.none)) hS₁ rfl
  refine wpAny_updateSeq hS₂ rfl ?_
  have hS₃ := Heap.get?_update_self (Obj.mapSeq (·.pop)) hS₂ rfl
  have oth : ∀ b o, b ≠ s.heap.objs.size → s.heap.get? b = some o →
      (((s.heap.push { cls := .type "list", data := .seq ([] : List Value).toArray }).update s.heap.objs.size (Obj.mapSeq (·.push Value.none))).update s.heap.objs.size (Obj.mapSeq (·.pop))).get? b = some o :=
    fun b o hb e => (Heap.get?_update_other _ _ (Ne.symm hb)).trans ((Heap.get?_update_other _ _ (Ne.symm hb)).trans (Heap.get?_push_of_some _ e))
  have old : ∀ b o, s.heap.get? b = some o → _ := fun b o e => oth b o (hlt e) e
  refine wpAny_pure ⟨plainId_quiet F.plain_extend_loop _, extend_map hr p0 ap hl hGl hx hsz hf xs.length 0 _ G₀ #[] rfl (Nat.zero_le _) ⟨⟨fun b o e => old b o (g.keep b o e), g.gens, g.bare, g.os⟩, ⟨.refl _, fun b o e => old b o (hsub b o e), fun b o e => .inl e⟩,
    ⟨old _ _ hm.obj, old _ _ hm.tup, hm.it.at fun o e => old _ o e, hm.lst.at fun o e => old _ o e⟩, ⟨_, hS₃⟩, .nil, fun a ha => ?_⟩ fun s' acc' G' c g' x' hS' hA => ?_⟩
  · have : s₀.heap.get? a = Option.none := by
      simp only [List.mem_cons, List.not_mem_nil, or_false] at ha
      rcases ha with rfl | rfl | rfl | rfl
      · exact fresh _ (by simp)
      · exact fresh _ (by simp)
      · exact fresh _ (by simp)
      · exact hD0
    exact ⟨PH.none_of_sub p0.data this, this⟩
  · show wpAny _ A (load s.heap.objs.size >>= _) _ _ s'
    exact wpAny_bind (wpAny_load hS' (wpAny_pure (hQ s' acc' G' g' x' hA)))

end
end Mine
end
section
open AutoSeq1 (wpAny_loadPart')
set_option Elab.async false
set_option linter.unusedVariables false
set_option maxRecDepth 100000
namespace Mine
section
variable {w : World} {Λ : Glo} {m : Nat}
theorem tuple_map {A : Around} {E : Value → Shared → Prop} {s₀ s : Shared} {G₀ : PH} {mp T I l : Addr} {f : Value} {items : Array Value} {xs : List (List Nat)} (hr : Rm (m + 5) A) (p0 : P0 Λ G₀ s₀) (hl : items.size = xs.length) (hGl : G₀ l ≠ Option.none)
    (hx : RepAll G₀ items.toList (xs.map pS)) (hsz : xs.length ≤ sizeLine) (hf : ∀ x ∈ xs, OpL pr w Λ m (fun us => call f us) [dS x] (dS x))
    (g : Grow s₀ s) (hsub : G₀.sub s.heap) (hm : IsMapO s.heap mp T I l f items 0) (fresh : ∀ a ∈ [mp, T, I], s₀.heap.get? a = Option.none) (h1 : mp ≠ I) (h2 : T ≠ I) :
    wpAny (model pr w) A (call (.type "tuple") [.ref mp]) (Got s₀ G₀ (dT (xs.map pS))) E s := by
  refine callType_codes (Q₁ := fun obj s₁ => s₁.TypeIs obj "tuple" ∧ Got s₀ G₀ (dT (xs.map pS)) obj s₁) F.called_tuple (F.typeCall_tuple_1 _) F.entry_object_init ?_ fun obj s₁ h₁ => ?_
  · refine codeAny_of_tree ?_
    show wpAny _ A.in1.in1 (do checkBuiltinCall "tuple.__new__" ⟨[.type "tuple", .ref mp], []⟩; again (.builtin "tuple.__new__" ⟨[.type "tuple", .ref mp], []⟩)) _ _ s
    refine wpAny_bind (wpAny_of_eq (F.newCall_tuple_1 _) (wpAny_pure ⟨plainId_quiet F.plain_tuple_new _, codeAny_builtin F.entry_tuple_new ?_⟩))
    rw [Around.under_plainId F.plain_tuple_new _]
    have hsub2 := sub_tuple_self
    have hinit := init_tuple_lookup
    have hmh := madeHere_tuple
    have hTI : s.TypeIs (.ref mp) "map" := ⟨_, hm.obj, rfl⟩
    have hr2 : Rm (m + 2) A.in1.in1 := (hr.mono (k := m + 4) (by omega)).in1.in1
    wp_walk using wpAny_typeOf hTI, collect_map hr2 p0 hl hGl hx hsz hf g hsub hm fresh h1 h2
    intro s' acc G' g' x' hA
    show wpAny _ _ (Builtin.Tuple.tupleExact acc.toList.toArray >>= fun v => ret v) _ _ _
    unfold Builtin.Tuple.tupleExact
    have hn : acc.size = xs.length := by have := hA.length; simpa using this
    refine wpAny_bind (wpAny_newObj_type ?_ (by show acc.toList.toArray.size ≤ sizeLine; simp only [Array.toArray_toList]; rw [hn]; exact hsz))
    refine wpAny_pure ?_
    have e : acc.toList.toArray = acc := by simp
    rw [e]
    have gp : Grow s' { s' with heap := s'.heap.push { cls := .type "tuple", data := .seq acc } } := .push
    have xa := Gx.add x'.sub gp (get?_size _) (Heap.get?_push_size _ rfl)
    exact ⟨⟨_, Heap.get?_push_size _ rfl, rfl⟩, g'.trans gp, _, x'.trans g' xa, Rep.tuple PH.add_self rfl rfl (hA.mono xa.le)⟩
  · exact ⟨h₁.1, F.args_object_init_2 obj _, object_init_meets F.called_tuple.init.lookup F.called_tuple.made (by decide) pr w A.in1 _ s₁ ⟨h₁.1, rfl, h₁.2⟩⟩
/-- tuple(map(f, a list of texts)) where f gives each back -/
theorem Ev_tupleMap {F : FS} {n : Nat} {vs cs : List (Option AV)} {ft fm ff e : Expr} {p1 p2 : Pos} {fv : Value} {xs : List (List Nat)} (hΛ : GloOk Λ) (h1 : Ev pr w Λ F n vs cs ft (.raw (.type "tuple"))) (h2 : Ev pr w Λ F n vs cs fm (.raw (.type "map")))
    (h3 : EvL pr w Λ F n vs cs [ff, e] [.raw fv, dL (xs.map pS)]) (hsz : xs.length ≤ sizeLine) (hn : m + 5 ≤ n) (hf : ∀ x ∈ xs, OpL pr w Λ m (fun us => call fv us) [dS x] (dS x))
    (he1 : ∀ env, eval (.Call ft [.Call fm [ff, e] [] p2] [] p1) env = (do callWith p1 (← eval ft env) [] (backTo p1 (starEach [.Call fm [ff, e] [] p2] env)) (backToKw p1 (keywordEach [] env))) := by intro _; rfl)
    (he2 : ∀ env, eval (.Call fm [ff, e] [] p2) env = (do callWith p2 (← eval fm env) [] (backTo p2 (starEach [ff, e] env)) (backToKw p2 (keywordEach [] env))) := by intro _; rfl)
    (hs1 : ∀ env, starEach [.Call fm [ff, e] [] p2] env = (false, eval (.Call fm [ff, e] [] p2) env) :: starEach [] env := by intro _; rfl)
    (hs2 : ∀ env, starEach [ff, e] env = (false, eval ff env) :: starEach [e] env := by intro _; rfl) (hpl : ∀ env, (backTo p2 (starEach [e] env)).any (·.1) = false := by intro _; rfl) :
    Ev pr w Λ F n vs cs (.Call ft [.Call fm [ff, e] [] p2] [] p1) (dT (xs.map pS)) := ⟨fun A env G s E hr hen hV => by
  refine Call_ (h1.seq hr hen hV fun u s1 G1 g1 x1 V1 o1 => ?_) (he1 env)
  obtain rfl : u = _ := o1
  refine callWith_type1 (args_cons ?_ (hs1 env)) (hs1 env) rfl
  refine Call_ (h2.seq hr hen V1 fun u2 s2 G2 g2 x2 V2 o2 => ?_) (he2 env)
  obtain rfl : u2 = _ := o2
  refine callWith_type1 (h3.seq hr hen V2 fun us s3 G3 g3 x3 V3 o3 => ?_) (hs2 env) (hpl env)
  cases o3 with
  | cons q1 q2 => cases q2 with
    | cons q2 q3 =>
      cases q3
      obtain rfl : _ = fv := q1
      obtain ⟨a, items, rfl, hGa, hl, hA⟩ := repList V3.data q2
      refine call_map hl fun hm => ?_
      refine args_nil ?_
      have kp : ∀ (f : Value) b o, s3.heap.get? b = some o → (mapH3 s3.heap a f).get? b = some o := fun f b o e => Heap.get?_push_of_some _ (Heap.get?_push_of_some _ (Heap.get?_push_of_some _ e))
      have hz : items.size = xs.length := by have := hA.length; simpa using this
      refine wpAny_mono (tuple_map (s₀ := s3) (hr.mono hn) V3.p0 hz hGa hA hsz hf (.of (kp _)) (fun b o e => kp _ b o (V3.data b o e)) hm (fun b hb => ?_) ?_ ?_) (fun r s4 h4 => h4.mono ((g1.trans g2).trans g3) ((x1.trans g1 x2).trans (g1.trans g2) x3)) fun _ _ x => x
      · simp only [List.mem_cons, List.not_mem_nil, or_false] at hb
        rcases hb with rfl | rfl | rfl
        · exact none_ge (Nat.le_add_right _ _)
        · exact none_ge (Nat.le_add_right _ _)
        · exact none_ge (Nat.le_refl _)
      · exact Nat.ne_of_gt (Nat.lt_add_of_pos_right (by decide))
      · exact Nat.ne_of_gt (Nat.lt_succ_self _)⟩
end
end Mine
end
section
open AutoSeq1 (wpAny_loadPart')
set_option Elab.async false
set_option linter.unusedVariables false
set_option maxRecDepth 100000
namespace Mine
section
variable {prog : Program} {w : World} {A : Around} {E : Value → Shared → Prop} {s : Shared}
theorem pyHash_true {Q : Int → Shared → Prop} (h : Q 1 { s with toks := s.toks + 1 }) : wpAny (model prog w) A (pyHash (.bool true)) Q E s := by
  have hT : s.TypeIs (.bool true) "bool" := rfl
  unfold pyHash
  have hv : [Value.bool true].any Value.onHeap = false := rfl
  refine wpAny_bind ?_
  rw [cRoomFor, if_neg (by rw [hv]; exact Bool.false_ne_true)]; refine wpAny_pure ?_
  refine wpAny_bind (wpAny_specialOf hT F.slot_bool_hash.lookup ?_)
  show wpAny _ _ (if (some (Value.builtin "int.__hash__") == some Value.none) = true then _ else _) Q E s
  rw [if_neg (by rw [beq_builtin_none]; exact Bool.false_ne_true)]
  refine wpAny_bind (wpAny_specialOf hT F.slot_bool_hash.lookup ?_)
  show wpAny _ _ (callSpecialIfBoundUnlessNone? (.bool true) "__hash__" _ >>= _) Q E s
  refine wpAny_bind (wpAny_callSpecialIfBoundUnlessNone?_slot hT F.slot_bool_hash
    (wpAny_call_entry F.slot_bool_hash hT F.entry_int_hash
      (show wpAny _ _ (do ret (← mkInt 1)) _ _ s from wpAny_ret_mkInt ?_) (by unfold argsOk; kernel_rfl)))
  show wpAny _ _ (if (decide (-(2 : Int) ^ 63 ≤ 1) && decide ((1 : Int) < 2 ^ 63)) = true then _ else _) Q E _
  rw [if_pos (by decide)]
  exact wpAny_pure h
noncomputable abbrev esT : Array (Int × Value) := #[(1, .bool true)]
noncomputable abbrev tab0 (led : Bool) : SetTable := .fresh 0 0 led
noncomputable abbrev tab1 (led : Bool) : SetTable := { mask := 7, place := #[1], dummies := #[], finger := 0, led := led, moves := 0, plain := true }
noncomputable abbrev set0 (led : Bool) : Obj := { cls := .type "set", dict := none, data := .set #[] 0 (tab0 led) }
noncomputable abbrev set1 (led : Bool) : Obj := { cls := .type "set", dict := none, data := .set esT 1 (tab1 led) }
theorem lay_first (led : Bool) : layNew (tab0 led) #[] 1 (.bool true) = (esT, tab1 led, false, false) := by cases led <;> rfl
theorem set_add_first {a : Addr} {led : Bool} {Q : Value → Shared → Prop} (ho : s.heap.get? a = some (set0 led))
    (h : ∀ h', Heap.SameBut a s.heap h' → h'.get? a = some (set1 led) → Q .none { s with heap := h', toks := s.toks + 1 }) : wpAny (model prog w) A (call (.builtin "set.add") [.ref a, .bool true]) Q E s := by
  have hT : s.TypeIs (.ref a) "set" := ⟨_, ho, rfl⟩
  refine wpAny_call_entry F.slot_set_add hT F.entry_set_add ?_ (F.args_set_add_2 _ _)
  unfold Builtin.«set.add» Builtin.Frozenset.oneOther
  simp only [List.isEmpty_nil, bind_assoc]
  unfold Builtin.Frozenset.addrOf setAdd
  refine wpAny_bind (wpAny_pure ?_)
  try dsimp only
  refine wpAny_bind (wpAny_pure ?_)
  try dsimp only
  refine wpAny_bind ?_
  refine wpAny_holding ?_
  refine wpAny_bind (pyHash_true ?_)
  unfold setAddHashed setAddHashedIn
  refine wpAny_holding (wpAny_bind (wpAny_setState_of (s := { s with toks := s.toks + 1 }) ho rfl (by cases led <;> rfl) ?_))
  dsimp only
  rw [show byScan (.bool true) #[] = true by decide +kernel]
  simp only [↓reduceIte]
  unfold setAddByScan
  refine wpAny_bind ?_
  refine wpAny_bind (wpAny_rule ?_)
  refine wpAny_bind (wpAny_pure ?_)
  dsimp only
  rw [lay_first]
  dsimp only
  refine wpAny_bind (wpAny_pure ?_)
  rw [if_pos rfl]
  refine wpAny_bind (wpAny_of_eq (show hashByValue 8 (.bool true) = pure true from rfl) ?_)
  simp only [if_true]
  refine wpAny_bind ?_
  unfold storeSet
  refine wpAny_bind (wpAny_load (s := { s with toks := s.toks + 1 }) ho ?_)
  dsimp only
  rw [if_neg (by decide)]
  refine wpAny_update (s := { s with toks := s.toks + 1 }) ho ?_
  rw [show (tab1 led).tooFull = false by cases led <;> rfl]
  simp only [Bool.and_false, Bool.false_eq_true, if_false]
  refine wpAny_pure ?_
  dsimp only
  refine wpAny_pure ?_
  exact wpAny_pure ⟨_, rfl, h _ (Heap.SameBut.update ..) (Heap.get?_update_self _ ho rfl)⟩
theorem set_add_again {a : Addr} {led : Bool} {Q : Value → Shared → Prop} (ho : s.heap.get? a = some (set1 led))
    (h : Q .none { s with toks := s.toks + 1 }) : wpAny (model prog w) A (call (.builtin "set.add") [.ref a, .bool true]) Q E s := by
  have hT : s.TypeIs (.ref a) "set" := ⟨_, ho, rfl⟩
  have hf : (tab1 led).fits esT.size = true := by cases led <;> rfl
  refine wpAny_call_entry F.slot_set_add hT F.entry_set_add ?_ (F.args_set_add_2 _ _)
  unfold Builtin.«set.add» Builtin.Frozenset.oneOther
  simp only [List.isEmpty_nil, bind_assoc]
  unfold Builtin.Frozenset.addrOf setAdd
  refine wpAny_bind (wpAny_pure ?_)
  try dsimp only
  refine wpAny_bind (wpAny_pure ?_)
  try dsimp only
  refine wpAny_bind ?_
  refine wpAny_holding ?_
  refine wpAny_bind (pyHash_true ?_)
  unfold setAddHashed setAddHashedIn
  refine wpAny_holding (wpAny_bind (wpAny_setState_of (s := { s with toks := s.toks + 1 }) ho rfl hf ?_))
  dsimp only
  rw [show byScan (.bool true) esT = true by decide +kernel]
  simp only [↓reduceIte]
  unfold setAddByScan
  refine wpAny_bind ?_
  refine wpAny_bind (wpAny_rule ?_)
  refine wpAny_bind ?_
  show wpAny _ _ (setEpoch a >>= _) _ _ _
  refine wpAny_bind (wpAny_setEpoch_of (s := { s with toks := s.toks + 1 }) ho rfl hf ?_)
  refine wpAny_bind (SeqAt.EqAt.bool_bool true true prog w _ _ ?_)
  refine wpAny_pure ?_
  dsimp only
  refine wpAny_pure ?_
  dsimp only
  refine wpAny_pure ?_
  exact wpAny_pure ⟨_, rfl, h⟩
end
end Mine
end
section
open AutoSeq1 (wpAny_loadPart')
set_option Elab.async false
set_option linter.unusedVariables false
set_option maxRecDepth 100000
namespace Mine
theorem owner_seti : Manifest.owners.lookup (String.ofList ['r', 'o', 't', 'a', 'r', 'e', 't', 'i', '_', 't', 'e', 's'].reverse) = some Manifest.sig_set_iterator := by kernel_rfl
theorem slot_seti_next : Slot "set_iterator" "__next__" "set_iterator.__next__" :=
  .of (owner := "set_iterator") (n := "__next__") (by rw [typeLookup_type, builtinLookup_eq_fast]; kernel_rfl) (by decide +kernel) (by decide +kernel) (by decide +kernel)
    (by first | exact .inl (by decide +kernel) | exact .inr (by decide +kernel)) (by rw [isSubtype_type]; kernel_rfl)
theorem entry_seti_next : entryFor table "set_iterator.__next__" = some Builtin.«set_iterator.__next__» := entryFor_of_tree (by kernel_rfl)
theorem args_seti_next (a : Value) : argsOk "set_iterator.__next__" ⟨[a], []⟩ := by
  unfold argsOk; rw [signature?_of (id := "set_iterator.__next__") (n := ['_', '_', 't', 'x', 'e', 'n', '_', '_']) (o := ['r', 'o', 't', 'a', 'r', 'e', 't', 'i', '_', 't', 'e', 's']) (by kernel_rfl) owner_seti]; kernel_rfl
theorem entry_set_iter : entryFor table "set.__iter__" = some Builtin.«frozenset.__iter__» :=
  entryFor_alias (id' := "frozenset.__iter__") (by kernel_rfl) rfl (by decide +kernel) (by kernel_rfl)
end Mine
end
section
open AutoSeq1 (wpAny_loadPart')
set_option Elab.async false
set_option linter.unusedVariables false
set_option maxRecDepth 100000
namespace Mine
section
variable {prog : Program} {w : World} {A : Around} {E : Value → Shared → Prop} {s : Shared}
noncomputable abbrev bT (w : World) : Bool := w.params.followText "set-order"
theorem newSet_T {Q : Value → Shared → Prop} (h : Q (.ref s.heap.objs.size) { s with heap := s.heap.push (set0 (!bT w)) }) : wpAny (model prog w) A (newSet (.type "set")) Q E s := by
  unfold newSet setsByText
  refine wpAny_bind (wpAny_bind (wpAny_askSetting (wpAny_pure ?_)))
  dsimp only
  simp only [newObj]
  exact wpAny_bind (wpAny_alloc (wpAny_pure h))
theorem pick_one (f : Nat → Nat) : pickOrder f esT = esT := by
  simp [pickOrder, pickOrder.go, Nat.mod_one]
theorem setWalk_T {a : Addr} {Q : Array (Int × Value) → Shared → Prop} (hb : bT w = true) (ho : s.heap.get? a = some (set1 (!bT w))) (h : Q esT s) : wpAny (model prog w) A (setWalk a) Q E s := by
  have hf : (tab1 (!bT w)).fits esT.size = true := by cases bT w <;> rfl
  unfold setWalk
  refine wpAny_bind (wpAny_setState_of ho rfl hf ?_)
  unfold setsByText
  refine wpAny_bind (wpAny_bind (wpAny_askSetting (wpAny_pure ?_)))
  show wpAny _ _ (if bT w = true then _ else _) _ _ _
  rw [if_pos hb]
  refine wpAny_bind (wpAny_askSetting (wpAny_pure ?_))
  rw [pick_one]; exact h
theorem setNext_0 {a : Addr} {Q : Option (Value × Nat) → Shared → Prop} (ho : s.heap.get? a = some (set1 (!bT w))) (h : Q (some (.bool true, if bT w then 0 else 2)) s) : wpAny (model prog w) A (setNext a 0 0 1) Q E s := by
  have hf : (tab1 (!bT w)).fits esT.size = true := by cases bT w <;> rfl
  unfold setNext
  refine wpAny_bind (wpAny_setState_of ho rfl hf ?_)
  unfold setsByText
  refine wpAny_bind (wpAny_bind (wpAny_askSetting (wpAny_pure ?_)))
  show wpAny _ _ (if bT w = true then _ else _) _ _ _
  by_cases hb : bT w = true
  · rw [if_pos hb]
    show wpAny _ _ (setWalk a >>= _) _ _ _
    rw [if_pos hb] at h
    exact wpAny_bind (setWalk_T hb ho (wpAny_pure h))
  · have hb' : bT w = false := by simpa using hb
    rw [if_neg hb, hb']
    rw [hb'] at h
    exact wpAny_of_eq (show _ = pure (some (Value.bool true, 2)) from rfl) h
theorem setNext_1 {a : Addr} {Q : Option (Value × Nat) → Shared → Prop} (ho : s.heap.get? a = some (set1 (!bT w))) (h : Q none s) : {k : Nat} → (k = if bT w then 0 else 2) → wpAny (model prog w) A (setNext a k 1 1) Q E s := by
  rintro k rfl
  have hf : (tab1 (!bT w)).fits esT.size = true := by cases bT w <;> rfl
  unfold setNext
  refine wpAny_bind (wpAny_setState_of ho rfl hf ?_)
  unfold setsByText
  refine wpAny_bind (wpAny_bind (wpAny_askSetting (wpAny_pure ?_)))
  show wpAny _ _ (if bT w = true then _ else _) _ _ _
  by_cases hb : bT w = true
  · rw [if_pos hb]
    show wpAny _ _ (setWalk a >>= _) _ _ _
    exact wpAny_bind (setWalk_T hb ho (wpAny_pure h))
  · have hb' : bT w = false := by simpa using hb
    rw [if_neg hb, hb']
    exact wpAny_of_eq (show _ = pure none from rfl) h
end
end Mine
end
section
open AutoSeq1 (wpAny_loadPart')
set_option Elab.async false
set_option linter.unusedVariables false
set_option maxRecDepth 100000
namespace Mine
section
variable {prog : Program} {w : World} {A : Around} {E : Value → Shared → Prop} {s : Shared}
noncomputable abbrev setIt (f0 i : Int) (src : Value) : Obj := { cls := .type "set_iterator", data := .fields #[rawInt f0, rawInt i, src, rawInt 1, rawInt 1] }
theorem set_iter {a : Addr} {Q : Value → Shared → Prop} (ho : s.heap.get? a = some (set1 (!bT w))) (h : Q (.ref s.heap.objs.size) { s with heap := s.heap.push (setIt 0 0 (.ref a)) }) : wpAny (model prog w) A (pyIter (.ref a)) Q E s := by
  have hT : s.TypeIs (.ref a) "set" := ⟨_, ho, rfl⟩
  have hf : (tab1 (!bT w)).fits esT.size = true := by cases bT w <;> rfl
  refine wpAny_pyIter_slot hT F.slot_set_iter (wpAny_call_entry F.slot_set_iter hT entry_set_iter ?_ (F.args_set_iter_1 _))
  unfold Builtin.«frozenset.__iter__» Builtin.Frozenset.slot0
  refine wpAny_bind (wpAny_of_eq (a := a) (show _ = pure a from rfl) ?_)
  unfold Builtin.Frozenset.sizeOf
  refine wpAny_bind (wpAny_bind (wpAny_setEntries_of ho rfl hf (wpAny_pure ?_)))
  unfold setDrawn setsByText
  refine wpAny_bind (wpAny_bind (wpAny_setState_of ho rfl hf ?_))
  refine wpAny_bind (wpAny_bind (wpAny_askSetting (wpAny_pure ?_)))
  refine wpAny_of_eq (a := false) ((congrArg pure (Bool.and_false (!bT w)) : (pure (!bT w && false) : Sem Bool) = pure false)) ?_
  rw [if_neg (by decide)]
  refine wpAny_bind (wpAny_pure ?_)
  refine wpAny_bind (wpAny_setEpoch_of ho rfl hf ?_)
  unfold newFields
  refine wpAny_bind (wpAny_newObj_type ?_)
  exact wpAny_pure ⟨_, rfl, "set_iterator", _, ⟨_, Heap.get?_push_size _ rfl, rfl⟩, slot_seti_next.lookup, h⟩
theorem set_next {it a : Addr} {Q : Option Value → Shared → Prop} (hi : s.heap.get? it = some (setIt 0 0 (.ref a))) (ho : s.heap.get? a = some (set1 (!bT w)))
    (h : ∀ h', Heap.SameBut it s.heap h' → h'.get? it = some (setIt (if bT w then 0 else 2) 1 (.ref a)) → Q (some (.bool true)) { s with heap := h' }) : wpAny (model prog w) A (pyNext (.ref it)) Q E s := by
  have hT : s.TypeIs (.ref it) "set_iterator" := ⟨_, hi, rfl⟩
  have hf : (tab1 (!bT w)).fits esT.size = true := by cases bT w <;> rfl
  unfold pyNext
  refine wpAny_bind (wpAny_attempt (wpAny_callSpecial?_slot (name := Str.ofString "__next__") hT slot_seti_next (wpAny_call_entry slot_seti_next hT entry_seti_next ?_ (args_seti_next _))))
  show wpAny _ _ (fieldsOf (.ref it) >>= _) _ _ s
  refine wpAny_bind (wpAny_bind (wpAny_load hi (wpAny_pure ?_)))
  show wpAny _ _ (setEntries a >>= _) _ _ s
  refine wpAny_bind (wpAny_setEntries_of ho rfl hf ?_)
  show wpAny _ _ (setNext a 0 0 1 >>= _) _ _ s
  refine wpAny_bind (setNext_0 ho ?_)
  dsimp only
  refine wpAny_bind (wpAny_setField_rec hi (by simp) fun h1 hi1 hs1 => ?_)
  refine wpAny_bind (wpAny_setField_rec hi1 (by simp) fun h2 hi2 hs2 => ?_)
  refine wpAny_pure ⟨_, rfl, wpAny_pure (h h2 ?_ ?_)⟩
  · exact hs1.trans hs2
  · rw [hi2]; cases bT w <;> rfl
theorem set_end {it a : Addr} {Q : Option Value → Shared → Prop} (hh : A.handled = none) (hi : s.heap.get? it = some (setIt (if bT w then 0 else 2) 1 (.ref a))) (ho : s.heap.get? a = some (set1 (!bT w)))
    (h : ∀ h', Heap.ExtBut it s.heap h' → Q none { s with heap := h' }) : wpAny (model prog w) A (pyNext (.ref it)) Q E s := by
  have hT : s.TypeIs (.ref it) "set_iterator" := ⟨_, hi, rfl⟩
  have hf : (tab1 (!bT w)).fits esT.size = true := by cases bT w <;> rfl
  unfold pyNext
  refine wpAny_bind (wpAny_attempt (wpAny_callSpecial?_slot (name := Str.ofString "__next__") hT slot_seti_next (wpAny_call_entry slot_seti_next hT entry_seti_next ?_ (args_seti_next _))))
  show wpAny _ _ (fieldsOf (.ref it) >>= _) _ _ s
  refine wpAny_bind (wpAny_bind (wpAny_load hi (wpAny_pure ?_)))
  show wpAny _ _ (setEntries a >>= _) _ _ s
  refine wpAny_bind (wpAny_setEntries_of ho rfl hf ?_)
  show wpAny _ _ (setNext a ((if bT w then (0 : Int) else 2).toNat) 1 1 >>= _) _ _ s
  refine wpAny_bind (setNext_1 ho ?_ (by cases bT w <;> rfl))
  dsimp only
  refine wpAny_bind (wpAny_setField_rec hi (by simp) fun h1 hi1 hs1 => ?_)
  show wpAny _ _ (newExc (.type "StopIteration") [] >>= _) _ _ _
  refine wpAny_bind ?_
  simp only [newExc, newTuple]
  refine wpAny_bind (wpAny_newObj_type ?_ (by size_fits))
  refine wpAny_bind (m := firstArgMember _ _) (wpAny_of_eq (a := Value.none) (by first | rfl | (simp only [firstArgMember]; rfl)) ?_)
  refine wpAny_newObj_type ?_ (by size_fits)
  simp only [raiseNew]
  refine wpAny_bind (wpAny_handled ?_)
  rw [show A.in1.handled = none from hh]
  refine wpAny_bind (wpAny_pure (wpAny_throw ?_))
  refine wpAny_bind (wpAny_isInstance (T := "StopIteration") (b := true) ⟨_, Heap.get?_push_size _ rfl, rfl⟩ isSubtype_stop ?_)
  exact wpAny_pure (h _ ((hs1.extBut.push _).push _))
end
end Mine
end
section
set_option Elab.async false
set_option linter.unusedVariables false
set_option maxRecDepth 100000
namespace Mine
section
variable {prog : Program} {w : World} {A : Around} {E : Value → Shared → Prop} {s : Shared}
theorem unpack_set {x : Str} {p1 p2 : Pos} {k : Nat} {env : Env} {a : Addr} {Q : Unit → Shared → Prop} (hh : A.handled = none) (ho : s.heap.get? a = some (set1 (!bT w)))
    (h : ∀ h', (∀ b o, s.heap.get? b = some o → h'.get? b = some o) → wpAny (model prog w) A (assign (.Name x p1) env (.bool true)) Q E { s with heap := h' }) :
    wpAny (model prog w) A (assign (.Tuple [.Name x p1] k p2) env (.ref a)) Q E s := by
  have hT : s.TypeIs (.ref a) "set" := ⟨_, ho, rfl⟩
  have hlt : ∀ {b : Addr} {o : Obj}, s.heap.get? b = some o → b ≠ s.heap.objs.size := fun e => Nat.ne_of_lt (Heap.lt_size e)
  rw [arm_assign_Tuple]
  refine wpAny_bind (wpAny_standAt ?_)
  unfold unpack
  refine wpAny_bind (wpAny_holding ?_)
  show wpAny _ _ (unpackItems (.ref a) 1 none) _ _ s
  unfold unpackItems
  refine wpAny_bind ?_
  unfold notIterableAtAll
  refine wpAny_bind (wpAny_specialOf hT F.slot_set_iter.lookup ?_)
  refine wpAny_pure ?_
  rw [if_neg (by decide)]
  refine wpAny_bind (wpAny_holding (set_iter ho ?_))
  dsimp only
  have ho1 : (s.heap.push (setIt 0 0 (.ref a))).get? a = some (set1 (!bT w)) := Heap.get?_push_of_some _ ho
  unfold draw
  refine wpAny_bind (wpAny_holding (wpAny_bind (set_next (s := { s with heap := s.heap.push (setIt 0 0 (.ref a)) }) (Heap.get?_push_size _ rfl) ho1 fun h2 hs2 hi2 => ?_)))
  dsimp only
  unfold draw
  refine wpAny_bind (wpAny_holding (wpAny_pure (wpAny_pure ?_)))
  rw [if_neg (by decide)]
  refine wpAny_bind (wpAny_holding (set_end hh hi2 (hs2.extBut _ _ (hlt ho) ho1) fun h3 hs3 => ?_))
  rw [if_neg (by decide)]
  refine wpAny_pure ?_
  refine wpAny_bind (wpAny_holding ?_)
  refine wpAny_mono (h h3 fun b o e => hs3 b o (hlt e) (hs2.extBut b o (hlt e) (Heap.get?_push_of_some _ e))) (fun _ s' hq => wpAny_pure hq) fun _ _ e => e
end
end Mine
end
section
set_option Elab.async false
set_option linter.unusedVariables false
set_option maxRecDepth 100000
namespace Mine
section
variable {prog : Program} {w : World} {Λ : Glo} {F Fc : FS} {n : Nat} {vs cs csc : List (Option AV)}
theorem compTurn_set (elt target iter : Expr) (ifs : List Expr) (scope : Scope) (pos : Pos) (it acc : Value) (env : Env) :
    compTurn (.SetComp elt [⟨target, iter, ifs, 0⟩] scope pos) 0 it acc env = (do
      standAt iter.pos
      match ← pyNext it with
      | none => pure (.done .next)
      | some v =>
        letOwnedTupleGo target it v
        assign target env v
        let mut ok := true
        for c in ifs do
          if ok then ok ← isTrue c env (eval c env)
        if ok then
          (do let v ← eval elt env; standAt elt.pos; let _ ← call (.builtin "set.add") [acc, v])
        again (.compLoop (.SetComp elt [⟨target, iter, ifs, 0⟩] scope pos) 0 it acc env)) := by rfl
theorem codeAny_compStart_set {A : Around} {R : Result → Shared → Prop} {s : Shared} {elt target iter ifs rest scope pos it acc env}
    (h0 : codeAny (model prog w) A (.compLoop (.SetComp elt (⟨target, iter, ifs, 0⟩ :: rest) scope pos) 0 it acc env) R s)
    (h : wpAny (model prog w) A (pyIter it) (fun it' s' => codeAny (model prog w) A (.compLoop (.SetComp elt (⟨target, iter, ifs, 0⟩ :: rest) scope pos) 0 it' acc env) R s')
      (notedBy (model prog w) A env fun x s' => R (.error x) s') s) :
    codeAny (model prog w) A (.compStart (.SetComp elt (⟨target, iter, ifs, 0⟩ :: rest) scope pos) 0 it acc env) R s := by
  refine codeAny_of_tree ?_
  show wpAny _ _ ((compStart (.SetComp elt (⟨target, iter, ifs, 0⟩ :: rest) scope pos) 0 it acc env).onRaise (fun x => do noteFrame x env; standAt theWindowsPlace)) _ _ s
  refine wpAny_notedAt ?_
  unfold compStart
  show wpAny _ _ (ask >>= _) _ _ s
  refine wpAny_bind (wpAny_askSetting (wpAny_ite ?_))
  split
  · first
      | exact wpAny_bind (wpAny_pure (wpAny_pure (And.intro rfl h0)))
      | exact wpAny_pure (And.intro rfl h0)
  · first
      | exact wpAny_bind (wpAny_rule (wpAny_bind (wpAny_standAt (wpAny_bind (wpAny_mono h (fun it' s' h' => wpAny_pure (And.intro rfl h')) fun _ _ x => x)))))
      | (refine wpAny_bind (wpAny_rule ?_); show wpAny _ _ (standAt iter.pos >>= _) _ _ s; exact wpAny_bind (wpAny_standAt (wpAny_bind (wpAny_mono h (fun it' s' h' => wpAny_pure (And.intro rfl h')) fun _ _ x => x))))
theorem set_add_T {A : Around} {E : Value → Shared → Prop} {s : Shared} {a : Addr} {led : Bool} {i : Nat} {Q : Value → Shared → Prop} (ho : s.heap.get? a = some (if i = 0 then set0 led else set1 led))
    (h : ∀ h', Heap.SameBut a s.heap h' → h'.get? a = some (set1 led) → Q .none { s with heap := h', toks := s.toks + 1 }) : wpAny (model prog w) A (call (.builtin "set.add") [.ref a, .bool true]) Q E s := by
  by_cases hi : i = 0
  · rw [if_pos hi] at ho; exact set_add_first ho h
  · rw [if_neg hi] at ho; exact set_add_again ho (h s.heap (Heap.SameBut.refl a s.heap) ho)
theorem codeAny_compLoop_goS {A : Around} {R : Result → Shared → Prop} {s : Shared} {elt target iter : Expr} {ifs : List Expr} {scope : Scope} {pos : Pos} {it acc : Value} {env : Env} (I : Nat → Shared → Prop)
    (turn : ∀ n s, I n s → wpAny (model prog w) A (pyNext it) (fun r s₁ => match r with
      | none => R (.ok .next) s₁
      | some v => wpAny (model prog w) A (letOwnedTupleGo target it v) (fun _ s₁' => wpAny (model prog w) A (assign target env v) (fun _ s₂ =>
          wpAny (model prog w) A (forIn ifs true fun c r => if r = true then do let ok ← isTrue c env (eval c env); pure (ForInStep.yield ok) else pure (ForInStep.yield r)) (fun ok s₃ =>
            if ok = true then wpAny (model prog w) A (eval elt env) (fun x s₄ =>
              wpAny (model prog w) A (call (.builtin "set.add") [acc, x]) (fun _ s₅ => ∃ m, m < n ∧ I m s₅) (notedBy (model prog w) A env fun e s' => R (.error e) s') s₄) (notedBy (model prog w) A env fun e s' => R (.error e) s') s₃
            else ∃ m, m < n ∧ I m s₃) (notedBy (model prog w) A env fun e s' => R (.error e) s') s₂) (notedBy (model prog w) A env fun e s' => R (.error e) s') s₁') (notedBy (model prog w) A env fun e s' => R (.error e) s') s₁) (notedBy (model prog w) A env fun e s' => R (.error e) s') s)
    (n : Nat) (h : I n s) :
    codeAny (model prog w) A (.compLoop (.SetComp elt [⟨target, iter, ifs, 0⟩] scope pos) 0 it acc env) R s := by
  refine codeAny_loop rfl I (fun n s hI => ?_) n h
  show wpAny _ A ((compTurn (.SetComp elt [⟨target, iter, ifs, 0⟩] scope pos) 0 it acc env).onRaise (fun x => do noteFrame x env; theTreesLotGoes x)) _ _ s
  refine wpAny_noted ?_
  rw [compTurn_set]
  refine wpAny_bind (wpAny_standAt (wpAny_bind (wpAny_mono (turn n s hI) (fun r s₁ h₁ => ?_) fun _ _ h' => h')))
  cases r with
  | none => exact wpAny_pure h₁
  | some v =>
    refine wpAny_bind (wpAny_mono h₁ (fun _ s₁' h₁' => ?_) fun _ _ h' => h')
    refine wpAny_bind (wpAny_mono h₁' (fun _ s₂ h₂ => wpAny_bind (wpAny_mono h₂ (fun ok s₃ h₃ => ?_) fun _ _ h' => h')) fun _ _ h' => h')
    cases ok with
    | false => exact wpAny_pure ⟨rfl, h₃⟩
    | true =>
      exact wpAny_bind (wpAny_bind (wpAny_mono h₃ (fun x s₄ h₄ => wpAny_bind (wpAny_standAt (wpAny_bind (wpAny_mono h₄ (fun _ s₅ h₅ => wpAny_pure (wpAny_pure ⟨rfl, h₅⟩)) fun _ _ h' => h')))) fun _ _ h' => h'))

/-- a set of True that the turns fill -/
noncomputable def KS (led : Bool) (i : Nat) (G : PH) (o : Obj) : Prop := o = if i = 0 then set0 led else set1 led
theorem comp_loopS {A : Around} {env : Env} {s₀ s : Shared} {G₀ : PH} {elt target iter : Expr} {ifs : List Expr} {scope : Scope} {pos : Pos} {I C D : Addr} {gw : Nat → Prop} {len : Nat} {items : Nat → AV} {T : Nat → List Addr → PH → Shared → Prop}
    {b : Nat → Bool} {out : Nat → PyData} {csc : List (Option AV)} {R : Result → Shared → Prop} (hr : Rm n A) (he : EnvOk F env) (hfit : F.fit = true) (hV : V Λ F env G₀ vs cs s₀) (hc : CompOk F Fc scope)
    (hcs : ∀ (k : Nat) x av, Fc.cels[k]? = some x → csc[k]? = some (some av) → ∃ j : Nat, F.cels[j]? = some x ∧ cs[j]? = some (some av))
    (W : Itr prog w Λ A target I gw len items T) (hbt : ∀ i, b i = true) (hout : ∀ i, out i = .bool true) (hgw : ∀ g, gw g → s₀.gens.size ≤ g)
    (hturn : ∀ i, i < len → ∃ vsc, Asg prog w Λ Fc n (List.replicate Fc.locs.length none) csc target (items i) vsc csc ∧ Tests prog w Λ Fc n vsc csc ifs (b i) ∧ (b i = true → Ev prog w Λ Fc n vsc csc elt (.dat (out i))))
    (hC0 : s₀.heap.get? C = none) (hD0 : s₀.heap.get? D = none) (hDC : D ≠ C) (hI : CompI T (KS (!bT w)) s₀ G₀ C D len (len + 1) s)
    (hR : ∀ s' G', CInvG (KS (!bT w)) s₀ G₀ C D len G' s' → R (.ok .next) s') :
    codeAny (model prog w) A (.compLoop (.SetComp elt [⟨target, iter, ifs, 0⟩] scope pos) 0 (.ref I) (.ref D) (compEnvC scope (closL env.cells scope.names []) C env)) R s :=
  codeAny_compLoop_goS (CompI T (KS (!bT w)) s₀ G₀ C D len) (comp_turnG hr he hfit hV hc rfl hcs W hgw hturn hC0 hD0 hDC (fun i G G' o e _ => e)
    (fun i G o hb _ => by rw [hbt] at hb; cases hb)
    (fun i G s5 y o E Q hi hb e ho hy hQ => by
      rw [hout] at hy
      obtain rfl := Rep.inv_bool hy
      have e' : o = _ := e
      subst e'
      exact set_add_T ho fun h6 hs6 hl6 => hQ h6 _ _ (show _ = _ by rw [if_neg (Nat.succ_ne_zero i)]) hl6 hs6)
    hR) _ hI
theorem comp_blockS {A : Around} {env : Env} {s₀ s1 : Shared} {G₀ G1 : PH} {elt target iter : Expr} {ifs : List Expr} {scope : Scope} {pos : Pos} {I : Addr} {wr : List Addr} {gw : Nat → Prop} {len : Nat} {items : Nat → AV} {T : Nat → List Addr → PH → Shared → Prop}
    {b : Nat → Bool} {out : Nat → PyData} {E : Value → Shared → Prop} {RR : Value → Addr → Result → Shared → Prop} (hr : Rm n A) (he : EnvOk F env) (hfit : F.fit = true) (hV : V Λ F env G₀ vs cs s₀) (hc : CompOk F Fc scope)
    (hcs : ∀ (k : Nat) x av, Fc.cels[k]? = some x → csc[k]? = some (some av) → ∃ j : Nat, F.cels[j]? = some x ∧ cs[j]? = some (some av))
    (g1 : Grow s₀ s1) (x1 : Gx s₀ G₀ G1 s1) (W : Itr prog w Λ A target I gw len items T) (T0 : T 0 wr G1 s1) (hwr : ∀ x ∈ wr, s₀.heap.get? x = none ∧ G1 x = none) (hbt : ∀ i, b i = true) (hout : ∀ i, out i = .bool true) (hgw : ∀ g, gw g → s₀.gens.size ≤ g)
    (hturn : ∀ i, i < len → ∃ vsc, Asg prog w Λ Fc n (List.replicate Fc.locs.length none) csc target (items i) vsc csc ∧ Tests prog w Λ Fc n vsc csc ifs (b i) ∧ (b i = true → Ev prog w Λ Fc n vsc csc elt (.dat (out i))))
    (hRR : ∀ C D s' G', s₀.heap.get? C = none → s₀.heap.get? D = none → D ≠ C → CInvG (KS (!bT w)) s₀ G₀ C D len G' s' → RR (.ref D) C (.ok .next) s') :
    wpAny (model prog w) A (newSet (.type "set")) (fun acc s₃ => wpAny (model prog w) A (newFunctionEnv scope env.globals (closL env.cells scope.names []) [] env.qual none .none (some env)) (fun cenv s₄ =>
      codeAny (model prog w) A (.compStart (.SetComp elt [⟨target, iter, ifs, 0⟩] scope pos) 0 (.ref I) acc { cenv with scope := relabel scope env }) (RR acc cenv.locals) s₄) E s₃) E s1 := by
  refine newSet_T (wpAny_newFunctionEnv hc.nocell (by intro y hy; simp at hy) (fun h₁ hns₁ hsb₁ => ?_) hc.kind)
  dsimp only at hns₁ hsb₁ ⊢
  generalize hH2 : s1.heap.push (set0 (!bT w)) = H2 at hns₁ hsb₁ ⊢
  have hC : H2.objs.size = s1.heap.objs.size + 1 := by rw [← hH2, Heap.size_push]
  have below : ∀ a, a < s1.heap.objs.size → a ≠ H2.objs.size ∧ a ≠ s1.heap.objs.size := fun a ha => ⟨by rw [hC]; exact Nat.ne_of_lt (Nat.lt_succ_of_lt ha), Nat.ne_of_lt ha⟩
  have old : ∀ a o, s1.heap.get? a = some o → h₁.get? a = some o := fun a o e => hsb₁.extBut a o (below a (Heap.lt_size e)).1 (Heap.get?_push_of_some _ (hH2 ▸ Heap.get?_push_of_some _ e))
  have hDC : s1.heap.objs.size ≠ H2.objs.size := by rw [hC]; exact Nat.ne_of_lt (Nat.lt_succ_self _)
  have hacc : h₁.get? s1.heap.objs.size = some (set0 (!bT w)) := (hsb₁.extBut _ _ hDC (Heap.get?_push_of_some _ (hH2 ▸ Heap.get?_push_size _ rfl)))
  have fresh : ∀ a, s1.heap.objs.size ≤ a → s1.heap.get? a = none := fun a ha => by
    cases e : s1.heap.get? a with
    | none => rfl
    | some o' => exact absurd (Heap.lt_size e) (Nat.not_lt.mpr ha)
  have fresh0 : ∀ a, s1.heap.get? a = none → s₀.heap.get? a = none := fun a ha => by
    cases e : s₀.heap.get? a with
    | none => rfl
    | some o' => rw [g1.keep a o' e] at ha; cases ha
  have fD := fresh s1.heap.objs.size (Nat.le_refl _)
  have fC := fresh H2.objs.size (by rw [hC]; exact Nat.le_succ _)
  have wrIn : ∀ x ∈ wr, x < s1.heap.objs.size := fun x hx => let ⟨_, ho⟩ := W.here _ _ _ _ T0 x hx; Heap.lt_size ho
  have g3' : Grow s1 { s1 with heap := h₁, toks := s1.toks + ([] : List (Str × Value)).length } := .of old
  have p3 : P0 Λ G1 { s1 with heap := h₁, toks := s1.toks + ([] : List (Str × Value)).length } := (hV.p0.grow g1 x1).grow g3' (.refl x1.sub g3')
  have loop : ∀ s₃ : Shared, s₃ = { s1 with heap := h₁, toks := s1.toks + ([] : List (Str × Value)).length } →
      codeAny (model prog w) A (.compLoop (.SetComp elt [⟨target, iter, ifs, 0⟩] scope pos) 0 (.ref I) (.ref s1.heap.objs.size) (compEnvC scope (closL env.cells scope.names []) H2.objs.size env))
        (RR (.ref s1.heap.objs.size) H2.objs.size) s₃ := by
    rintro s₃ rfl
    have g3 : Grow s1 { s1 with heap := h₁, toks := s1.toks + ([] : List (Str × Value)).length } := .of old
    refine comp_loopS hr he hfit hV hc hcs W hbt hout hgw hturn (fresh0 _ fC) (fresh0 _ fD) hDC ⟨0, wr, G1, rfl, Nat.zero_le _, ?_, ?_, fun x hx => (hwr x hx).2, fun x hx => (hwr x hx).1, fun hm => (below _ (wrIn _ hm)).1 rfl, fun hm => (below _ (wrIn _ hm)).2 rfl⟩ ?_
    · exact W.frame _ _ _ _ _ _ T0 (.refl _) (fun a o e => old a o (x1.sub a o e)) p3 (fun x hx => (hwr x hx).2) (fun x _ o e => old x o e) (fun _ _ _ e => e)
    · exact ⟨g1.trans g3, x1.after g3, ⟨_, hacc, rfl⟩, ⟨_, hns₁⟩, PH.none_of_sub x1.sub fC, PH.none_of_sub x1.sub fD⟩
    · exact fun s' G' c => hRR _ _ s' G' (fresh0 _ fC) (fresh0 _ fD) hDC c
  refine codeAny_compStart_set (loop _ rfl) ?_
  refine W.self 0 wr G1 _ _ _ ?_ (loop _ rfl)
  exact W.frame _ _ _ _ _ _ T0 (.refl _) (fun a o e => old a o (x1.sub a o e)) p3 (fun x hx => (hwr x hx).2) (fun x _ o e => old x o e) (fun _ _ _ e => e)

end
end Mine
end
section
set_option Elab.async false
set_option linter.unusedVariables false
set_option maxRecDepth 100000
namespace Mine
section
variable {prog : Program} {w : World} {Λ : Glo} {F Fc : FS} {n : Nat} {vs cs csc : List (Option AV)} {P : Out → Prop}
/-- a set comprehension whose values are all True -/
theorem eval_setT {A : Around} {env : Env} {G : PH} {s : Shared} {E : Value → Shared → Prop} {elt target iter : Expr} {ifs : List Expr} {scope : Scope} {pos : Pos} {len : Nat} {items : Nat → AV} {b : Nat → Bool} {out : Nat → PyData} (hr : Rm n A) (he : EnvOk F env) (hV : V Λ F env G vs cs s)
    (hfit : F.fit = true) (hc : CompOk F Fc scope) (hcs : ∀ (k : Nat) x av, Fc.cels[k]? = some x → csc[k]? = some (some av) → ∃ j : Nat, F.cels[j]? = some x ∧ cs[j]? = some (some av))
    (hit : Itb prog w Λ F n vs cs target iter len items) (h0 : 0 < len) (hbt : ∀ i, b i = true) (hout : ∀ i, out i = .bool true)
    (hturn : ∀ i, i < len → ∃ vsc, Asg prog w Λ Fc n (List.replicate Fc.locs.length none) csc target (items i) vsc csc ∧ Tests prog w Λ Fc n vsc csc ifs (b i) ∧ (b i = true → Ev prog w Λ Fc n vsc csc elt (.dat (out i))))
    (hs : ∀ env x, foldedSetIterable iter env x = pure x := by intro _ _; rfl) :
    wpAny (model prog w) A (eval (.SetComp elt [⟨target, iter, ifs, 0⟩] scope pos) env) (fun v s' => ∃ D G', v = .ref D ∧ Grow s s' ∧ Gx s G G' s' ∧ s'.heap.get? D = some (set1 (!bT w))) E s := by
  rw [arm_eval_SetComp]
  refine wpAny_comprehension_free (use := none) rfl (hs env) (comp_clos he hc) hc.kind hc.names (hit A env G s E _ hr he hV fun I wr gw T s1 G1 g1 x1 W T1 hwr hgw => ?_)
  refine comp_blockS (RR := fun acc C => compPost (model prog w) A E none _ acc C) hr he hfit hV hc hcs g1 x1 W T1 hwr hbt hout hgw hturn fun C D s' G' hC hD hDC c => ?_
  obtain ⟨m, hn⟩ := c.ns
  refine ⟨m, hn, fun h' hs' => ?_⟩
  obtain ⟨o, hD1, hK⟩ := c.acc
  have hK : o = _ := hK
  rw [if_neg (Nat.ne_of_gt h0)] at hK
  subst hK
  exact ⟨D, G', rfl, ⟨fun a o e => hs'.extBut a o (ne_of_get e (hC)) (c.grow.keep a o e), c.grow.gens, c.grow.bare, c.grow.os⟩, ⟨c.gx.le, fun a o e => hs'.extBut a o (ne_of_get e (c.noC)) (c.gx.sub a o e), c.gx.new⟩, hs'.extBut D _ hDC hD1⟩
/-- x, = {a value that is True for each} -/
theorem Ex_assignSetU {x : Str} {p1 p2 p3 : Pos} {kt : Nat} {rest : List Stmt} {elt target iter : Expr} {ifs : List Expr} {scope : Scope} {pos : Pos} {len : Nat} {items : Nat → AV} {b : Nat → Bool} {out : Nat → PyData} (k : Nat) (Fc : FS) (csc : List (Option AV))
    (hfit : F.fit = true) (hx : F.locs[k]? = some x) (hc : CompOk F Fc scope) (hcs : ∀ (k : Nat) x av, Fc.cels[k]? = some x → csc[k]? = some (some av) → ∃ j : Nat, F.cels[j]? = some x ∧ cs[j]? = some (some av))
    (hit : Itb prog w Λ F n vs cs target iter len items) (h0 : 0 < len) (hbt : ∀ i, b i = true) (hout : ∀ i, out i = .bool true)
    (hturn : ∀ i, i < len → ∃ vsc, Asg prog w Λ Fc n (List.replicate Fc.locs.length none) csc target (items i) vsc csc ∧ Tests prog w Λ Fc n vsc csc ifs (b i) ∧ (b i = true → Ev prog w Λ Fc n vsc csc elt (.dat (out i))))
    (h3 : Ex prog w Λ F n (vs.set k (some (.dat (.bool true)))) cs rest P)
    (hs : ∀ env x, foldedSetIterable iter env x = pure x := by intro _ _; rfl)
    (hsw : ∀ env, swapsWithSole [.Tuple [.Name x p1] kt p2] (.SetComp elt [⟨target, iter, ifs, 0⟩] scope pos) p3.line env = pure false := by intro _; rfl)
    (hw : ∀ env, swappedStores [.Tuple [.Name x p1] kt p2] (.SetComp elt [⟨target, iter, ifs, 0⟩] scope pos) env = pure none := by intro _; rfl) :
    Ex prog w Λ F n vs cs (.Assign [.Tuple [.Name x p1] kt p2] (.SetComp elt [⟨target, iter, ifs, 0⟩] scope pos) p3 :: rest) P := ⟨fun A env B G gs s E hr he hS => by
  refine wpAny_execs_cons' ?_
  rw [exec_Assign]
  refine wpAny_bind (wpAny_standAt ?_)
  rw [hsw env]
  refine wpAny_bind (wpAny_pure ?_)
  rw [if_neg (by decide)]
  refine wpAny_bind (wpAny_mono (eval_setT hr he hS.v hfit hc hcs hit h0 hbt hout hturn hs) ?_ fun _ _ x => x)
  rintro v s1 ⟨D, G1, rfl, g1, x1, hD⟩
  rw [hw env]
  refine wpAny_bind (wpAny_pure ?_)
  rw [show assignEach [.Tuple [.Name x p1] kt p2] env = [(false, assign (.Tuple [.Name x p1] kt p2) env)] from rfl]
  show wpAny _ A (do assignAll (.ref D) [assign (.Tuple [.Name x p1] kt p2) env]; pure Flow.next) _ E s1
  have S1 := hS.grow g1 x1
  refine wpAny_bind (unpack_set hr.handled hD fun h' hk => ?_)
  have g2 : Grow s1 { s1 with heap := h' } := .of hk
  have S2 := S1.grow g2 (.refl S1.v.data g2)
  refine Asg_name (av := .dat (.bool true)) k hfit hx A env B G1 gs _ E _ _ hr he S2 (Rep.bool true) fun s3 G3 l3 S3 => wpAny_pure ?_
  exact wpAny_mono (h3.run A env B G3 gs s3 E hr he S3) (fun f s4 ⟨o, a, b⟩ => ⟨o, a, b.mono (x1.le.trans l3)⟩) fun _ _ x => x⟩
theorem Ex_assignSetM {x : Str} {p1 p2 p3 : Pos} {kt : Nat} {rest : List Stmt} {elt target iter : Expr} {ifs : List Expr} {scope : Scope} {pos : Pos} {len : Nat} {items : Nat → AV} (k : Nat) (locs cels : List Str) (csc : List (Option AV)) (hfit : F.fit = true) (hx : F.locs[k]? = some x)
    (hit : Itb prog w Λ F n vs cs target iter len items) (h0 : 0 < len)
    (hturn : ∀ Fc, CF Fc F scope locs cels → ∀ i, i < len → ∃ vsc, Asg prog w Λ Fc n (List.replicate locs.length none) csc target (items i) vsc csc ∧ Tests prog w Λ Fc n vsc csc ifs true ∧ Ev prog w Λ Fc n vsc csc elt (.dat (.bool true)))
    (h3 : Ex prog w Λ F n (vs.set k (some (.dat (.bool true)))) cs rest P)
    (hc : compFit F scope locs cels = true := by decide +kernel)
    (hcs : ∀ (k : Nat) x av, cels[k]? = some x → csc[k]? = some (some av) → ∃ j : Nat, F.cels[j]? = some x ∧ cs[j]? = some (some av) := by intro k x av h1 h2; cases h2)
    (hs : ∀ env x, foldedSetIterable iter env x = pure x := by intro _ _; rfl)
    (hsw : ∀ env, swapsWithSole [.Tuple [.Name x p1] kt p2] (.SetComp elt [⟨target, iter, ifs, 0⟩] scope pos) p3.line env = pure false := by intro _; rfl)
    (hw : ∀ env, swappedStores [.Tuple [.Name x p1] kt p2] (.SetComp elt [⟨target, iter, ifs, 0⟩] scope pos) env = pure none := by intro _; rfl) :
    Ex prog w Λ F n vs cs (.Assign [.Tuple [.Name x p1] kt p2] (.SetComp elt [⟨target, iter, ifs, 0⟩] scope pos) p3 :: rest) P :=
  Ex_assignSetU (b := fun _ => true) (out := fun _ => .bool true) k (compFS scope F.scope locs cels) csc hfit hx (compOk_of hc) hcs hit h0 (fun _ => rfl) (fun _ => rfl) (fun i hi => by
    obtain ⟨vsc, a, t, e⟩ := hturn _ (CF.of hc) i hi
    exact ⟨vsc, a, t, fun _ => e⟩) h3 hs hsw hw
end
end Mine
end
section
set_option Elab.async false
set_option linter.unusedVariables false
namespace Mine
noncomputable def namesOf (p : List Nat) : List (List Nat) := (spl 47 p).filter fun c => !c.isEmpty && c != [46]
noncomputable def commonF (ps : List (List Nat)) : List Nat := [47] ++ jn [47] (lcp (cpM (ps.map namesOf)) (cpX (ps.map namesOf)))
section
variable {w : World} {Λ : Glo}
theorem OpT_tuple {n : Nat} {l : List PyData} (h : l.length ≤ sizeLine) : OpT pr w Λ n (dT l) (!l.isEmpty) := fun A G s E u hr hp a => by
  obtain ⟨a, items, rfl, _, hl, hA⟩ := repTuple hp.data a
  have hz : items.size = l.length := by have := hA.length; simpa using this
  have hs := sizeLine_lt
  refine PyProof.Rows.truthy_tuple hl (by omega) ⟨?_, .tok⟩
  cases l with
  | nil => simp at hz; simp [hz]
  | cons a r => simp at hz ⊢; rintro rfl; simp at hz
theorem sw_list {F : FS} {elt : Expr} {gens : List Comprehension} {scope : Scope} {pos p1 : Pos} {t : Str} {line : Nat}
    (h : ((if F.scope.kind.isAnnotationScope then ScopeKind.function else F.scope.kind) == .function && F.scope.names.lookup t == some .local && p1.line == pos.line && !(scope.names.any fun x => x.1 == t && (x.2 == .local || x.2 == .cell))) = true) (env : Env) (he : env.scope = F.scope) :
    swapsWith (.ListComp elt gens scope pos) (some (.Name t p1)) line env = pure true := by
  rw [← he] at h
  exact congrArg pure h
theorem getD_mapD {α : Type} (f : α → PyData) (xs : List α) (d : α) (i : Nat) (h : i < xs.length) : (xs.map f).getD i .none = f (xs.getD i d) := by
  simp [List.getD, h]
theorem getD_mem' {α : Type} (xs : List α) (d : α) (i : Nat) (h : i < xs.length) : xs.getD i d ∈ xs := by
  simp [List.getD, h]
theorem mem_wgt : ∀ (ts : List (List Nat)) (c : List Nat), c ∈ ts → c.length + 1 ≤ wgt ts
  | a :: r, c, h => by
    rw [wgt_cons]
    rcases List.mem_cons.mp h with rfl | h
    · omega
    · have := mem_wgt r c h; omega
theorem wgt_filter (f : List Nat → Bool) : ∀ ts : List (List Nat), wgt (ts.filter f) ≤ wgt ts
  | [] => Nat.le_refl _
  | a :: r => by
    rw [List.filter_cons, wgt_cons]
    have := wgt_filter f r
    split
    · rw [wgt_cons]; omega
    · omega
theorem wgt_lcp : ∀ m M : List (List Nat), wgt (lcp m M) ≤ wgt m
  | [], M => by simp [lcp]
  | a :: r, [] => by simp [lcp, wgt]
  | a :: r, b :: t => by
    unfold lcp
    have := wgt_lcp r t
    split
    · rw [wgt_cons, wgt_cons]; omega
    · simp [wgt]
theorem cl_common (hG : Gd Λ) (ps : List (List Nat)) (h0 : ps ≠ []) (hl : ps.length ≤ 1000) (hp : ∀ p ∈ ps, p.head? = some 47 ∧ p.length ≤ 1000) : Cl w Λ 22 8 [dL (ps.map pS)] (dS (commonF ps)) := by
  obtain ⟨hf, hdb, l0, l1, l2, l3, l4, l5, l6, l7, l8, c0, c1⟩ := lk_commonpath
  have hsl : 100000 ≤ sizeLine := by decide
  refine Cl_plain (F := F_commonpath) 8 2 hG hf rfl rfl (ps := [Str.ofString "paths"]) rfl rfl rfl (by intro L x hx; rcases List.mem_cons.mp hx with rfl | hx; rfl; rcases List.mem_singleton.mp hx with rfl; rfl) (by walk_at "s_b1") ?_
  show Ex _ _ _ _ _ [some (dL (ps.map pS)), none, none, none, none, none, none, none, none] [none, none] _ _
  obtain ⟨fa, hfa⟩ := hG.fn 14 (by decide)
  refine Ex_assign 0 hf l0 (Ev_tupleMap (m := 1) (xs := ps) (fv := .ref fa) hG.ok (by walk_at "m_go") (by walk_at "m_go") ?_ (by omega) (by decide) fun x _ => cl_fspath hG x fa hfa) ?_
  · exact EvL_cons (Ev_glob hG.ok hf rfl (by have := hfa.glob; exact this) (by decide)) (EvL_cons (Ev_locF hf hdb l0 rfl rfl) EvL_nil)
  dsimp only [List.set]
  refine Ex_if (c := false) (Tr_not (Tr_val (b := true) (Ev_locF hf hdb l0 rfl rfl) ?_)) (fun h => by cases h) (fun _ => ?_)
  · have := OpT_tuple (w := w) (Λ := Λ) (n := 7) (l := ps.map pS) (by simp; omega)
    have e : (!(ps.map pS).isEmpty) = true := by cases ps with
      | nil => exact absurd rfl h0
      | cons a r => rfl
    rw [e] at this; exact this
  dsimp only [List.append, List.cons_append, List.nil_append]
  obtain ⟨p0, hp0⟩ : ∃ p0, ps[0]? = some p0 := ⟨_, List.getElem?_eq_getElem (List.length_pos_iff.mpr h0)⟩
  have hpos : 0 < ps.length := List.length_pos_iff.mpr h0
  refine Ex_if (c := false) (Tr_val (a := dB false) (b := false) (Ev_callB (by walk_at "m_go") (EvL_cons (Ev_itemT (l := ps.map pS) (i := 0) (j := 0) (d := pS p0) (by walk_at "m_go") (by walk_at "m_go") (by decide) (by decide) ?_ ?_) (EvL_cons (by walk_at "m_go") EvL_nil)) op_isinstB) OpT_bool) (fun h => by cases h) fun _ => ?_
  · rw [StrLaws.seqIndex_nonneg (by omega) (by simp; omega)]; rfl
  · rw [List.getElem?_map, hp0]; rfl
  dsimp only [List.append, List.cons_append, List.nil_append]
  walk_at "s_asC"
  walk_at "s_asC"
  refine Ex_try (P1 := fun o => o = .ret (dS (commonF ps))) ?_ (fun vs' cs' h => by cases h) (fun o ho _ => .inl ho)
  have hcs1 : ∀ (x : List Nat) (y : Option AV) (nm : Str) (k : Nat) x' av, [nm][k]? = some x' → [some (dS x)][k]? = some (some av) → F_commonpath.cels[0]? = some nm → ∃ j : Nat, F_commonpath.cels[j]? = some x' ∧ [some (dS x), y][j]? = some (some av) := by
    intro x y nm k x' av h1 h2 h3
    match k with
    | 0 => cases h1; cases h2; exact ⟨0, h3, rfl⟩
    | k + 1 => cases h1
  refine Ex_assignCompM 1 [Str.ofString "path"] [Str.ofString "sep"] [some (dS [47])] (fun _ => true) (fun i => .list ((spl 47 (ps.getD i [])).map pS)) hf rfl l1 (Itb_tuple (ds := ps.map pS) (by walk_at "m_go")) (by simp; omega) ?_ ?_ ?_ (hcs := fun k x av h1 h2 => hcs1 _ _ _ k x av h1 h2 rfl)
  · intro Fc hc i hi
    have hi' : i < ps.length := by simpa using hi
    have hfc := hc.fit
    have hdc := hc.dbg
    have k0 : Fc.locs[0]? = some (Str.ofString "path") := by rw [hc.locs]; rfl
    have k1 : Fc.cels[0]? = some (Str.ofString "sep") := by rw [hc.cels]; rfl
    rw [getD_mapD pS ps [] i hi']
    obtain ⟨q1, q2⟩ := hp _ (getD_mem' ps [] i hi')
    refine ⟨_, Asg_name 0 hfc k0, Tests_nil, fun _ => ?_⟩
    dsimp only [List.replicate, List.length, List.set]
    walk_at "m_go"
    omega
  rotate_left
  · exact sw_list (by rfl)
  rw [outs_all, List.length_map]
  have e1 : (List.range ps.length).map (fun i => PyData.list ((spl 47 (ps.getD i [])).map pS)) = ps.map fun p => .list ((spl 47 p).map pS) := by
    rw [← outs_all (f := fun i => PyData.list ((spl 47 (ps.getD i [])).map pS))]
    exact outs_list (f := fun p => PyData.list ((spl 47 p).map pS)) ps
  rw [e1]
  dsimp only [List.set]
  refine Ex_try (P1 := fun o => o = .next [some (dT (ps.map pS)), some (dL (ps.map fun p => .list ((spl 47 p).map pS))), some (dB true), none, none, none, none, none, none] [some (dS [47]), some (dS [46])]) ?_ ?_ (fun o e hn => absurd e (hn _ _))
  · refine Ex_assignSetM 2 [Str.ofString "p"] [Str.ofString "sep"] [some (dS [47])] hf l2 (Itb_tuple (ds := ps.map pS) (by walk_at "m_go")) (by simpa using hpos) ?_ ?_ (hcs := fun k x av h1 h2 => hcs1 _ _ _ k x av h1 h2 rfl)
    · intro Fc hc i hi
      have hi' : i < ps.length := by simpa using hi
      have hfc := hc.fit
      have hdc := hc.dbg
      have k0 : Fc.locs[0]? = some (Str.ofString "p") := by rw [hc.locs]; rfl
      have k1 : Fc.cels[0]? = some (Str.ofString "sep") := by rw [hc.cels]; rfl
      rw [getD_mapD pS ps [] i hi']
      obtain ⟨q1, q2⟩ := hp _ (getD_mem' ps [] i hi')
      refine ⟨_, Asg_name 0 hfc k0, Tests_nil, ?_⟩
      dsimp only [List.replicate, List.length, List.set]
      refine Ev.eq (a := dB ((ps.getD i []).head? == some 47)) (by walk_at "m_go") (by rw [q1]; rfl)
    · exact Ex_nil rfl
  · intro vs' cs' h
    cases h
    have hfilt : ∀ p : List Nat, outs (fun i => !((spl 47 p).getD i []).isEmpty && (spl 47 p).getD i [] != [46]) (fun i => pS ((spl 47 p).getD i [])) (spl 47 p).length = (namesOf p).map pS := fun p =>
      outs_filter (f := pS) (p := fun c => !c.isEmpty && c != [46]) (spl 47 p)
    refine Ex_assignCompM 1 [Str.ofString "s"] [Str.ofString "curdir"] [some (dS [46])] (fun _ => true) (fun i => .list ((namesOf (ps.getD i [])).map pS)) hf rfl l1 (Itb_list (ds := ps.map fun p => .list ((spl 47 p).map pS)) (by walk_at "m_go")) (by simp; omega) ?_ ?_ ?_ (hcs := ?_)
    · intro Fc hc i hi
      have hi' : i < ps.length := by simpa using hi
      have hfc := hc.fit
      have hdc := hc.dbg
      have k0 : Fc.locs[0]? = some (Str.ofString "s") := by rw [hc.locs]; rfl
      have k1 : Fc.cels[0]? = some (Str.ofString "curdir") := by rw [hc.cels]; rfl
      rw [getD_mapD (fun p => PyData.list ((spl 47 p).map pS)) ps [] i hi']
      obtain ⟨q1, q2⟩ := hp _ (getD_mem' ps [] i hi')
      generalize ps.getD i [] = p at q1 q2
      have hw1 := wgt_spl 47 p
      have hw2 := len_wgt (spl 47 p)
      refine ⟨_, Asg_name 0 hfc k0, Tests_nil, fun _ => ?_⟩
      dsimp only [List.replicate, List.length, List.set]
      refine Ev.eq (Ev_compM [Str.ofString "c"] [Str.ofString "curdir"] [some (dS [46])] (fun i => !((spl 47 p).getD i []).isEmpty && (spl 47 p).getD i [] != [46]) (fun i => pS ((spl 47 p).getD i [])) hfc (Itb_list (ds := (spl 47 p).map pS) (by walk_at "m_go")) (by simp; omega) ?_ (hc := ?_) (hcs := ?_)) ?_
      · intro Fd hd j hj
        have hj' : j < (spl 47 p).length := by simpa using hj
        have hfd := hd.fit
        have hdd := hd.dbg
        have m0 : Fd.locs[0]? = some (Str.ofString "c") := by rw [hd.locs]; rfl
        have m1 : Fd.cels[0]? = some (Str.ofString "curdir") := by rw [hd.cels]; rfl
        rw [getD_mapD pS (spl 47 p) [] j hj']
        have hm := mem_wgt _ _ (getD_mem' (spl 47 p) [] j hj')
        refine ⟨_, Asg_name 0 hfd m0, Tests_one ?_, fun _ => ?_⟩
        · dsimp only [List.replicate, List.length, List.set]
          generalize (spl 47 p).getD j [] = c at hm
          refine Tr.eq (b := (!c.isEmpty && ((c != [46]) && true))) ?_ (by simp)
          walk_at "m_go"
          omega
        · dsimp only [List.replicate, List.length, List.set]
          walk_at "m_go"
      · unfold compFit compFS; rw [hc.sc, hc.cels]; decide +kernel
      · intro k x av h1 h2
        match k with
        | 0 => cases h1; cases h2; exact ⟨0, k1, rfl⟩
        | k + 1 => cases h1
      · rw [List.length_map]; exact congrArg dL (hfilt p)
    rotate_left
    · exact sw_list (by rfl)
    · intro k x av h1 h2
      match k with
      | 0 => cases h1; cases h2; exact ⟨1, rfl, rfl⟩
      | k + 1 => cases h1
    rw [outs_all, List.length_map]
    have e2 : (List.range ps.length).map (fun i => PyData.list ((namesOf (ps.getD i [])).map pS)) = (ps.map namesOf).map fun l => .list (l.map pS) := by
      rw [← outs_all (f := fun i => PyData.list ((namesOf (ps.getD i [])).map pS)), List.map_map]
      exact outs_list (f := fun p => PyData.list ((namesOf p).map pS)) ps
    rw [e2]
    dsimp only [List.set]
    have hls : 0 < (ps.map namesOf).length := by simpa using hpos
    have hne : ps.map namesOf ≠ [] := List.length_pos_iff.mp hls
    obtain ⟨m1, m2, m3⟩ := cp_mem hne
    have hw : ∀ l ∈ ps.map namesOf, wgt l ≤ 1001 := by
      intro l hl'
      obtain ⟨p, hpm, rfl⟩ := List.mem_map.mp hl'
      have w1 := wgt_filter (fun c => !c.isEmpty && c != [46]) (spl 47 p)
      have w2 := wgt_spl 47 p
      have w3 := (hp p hpm).2
      unfold namesOf; omega
    have hw1 := hw _ m1
    have hw2 := hw _ m2
    have hl1 := len_wgt (cpM (ps.map namesOf))
    have hl2 := len_wgt (cpX (ps.map namesOf))
    have hlt := (m3 _ m2).1
    refine Ex_assign 4 hf l4 (av := dL ((cpM (ps.map namesOf)).map pS)) (Ev_callB (by walk_at "m_go") (EvL_cons (by walk_at "m_go") EvL_nil) (op_minLL hls)) ?_
    dsimp only [List.set]
    refine Ex_assign 5 hf l5 (av := dL ((cpX (ps.map namesOf)).map pS)) (Ev_callB (by walk_at "m_go") (EvL_cons (by walk_at "m_go") EvL_nil) (op_maxLL hls)) ?_
    dsimp only [List.set]
    have hcf : commonF ps = [47] ++ jn [47] (lcp (cpM (ps.map namesOf)) (cpX (ps.map namesOf))) := rfl
    rw [hcf]
    generalize cpM (ps.map namesOf) = M at *
    generalize cpX (ps.map namesOf) = X at *
    generalize (ps.map namesOf).map (fun l => PyData.list (l.map pS)) = LL
    walk_at "s_as"
    refine Ex_for (fun i vs cs => cs = [some (dS [47]), some (dS [46])] ∧ M.take i = X.take i ∧ ∃ a b, vs = [some (dT (ps.map pS)), some (dL LL), some (dB true), a, some (dL (M.map pS)), some (dL (X.map pS)), some (dL (M.map pS)), b, none])
      (fun vs cs => cs = [some (dS [47]), some (dS [46])] ∧ ∃ a b, vs = [some (dT (ps.map pS)), some (dL LL), some (dB true), a, some (dL (M.map pS)), some (dL (X.map pS)), some (dL ((lcp M X).map pS)), b, none])
      rfl (Itb_enumL (ds := M.map pS) (by walk_at "m_go") (by walk_at "m_go")) ⟨rfl, rfl, _, _, rfl⟩ ?_ ?_ ?_
    · rintro i vs cs hi ⟨rfl, hpre, a, b, rfl⟩
      have hi' : i < M.length := by simpa using hi
      have hx := cp_inb M X i hlt hi' hpre
      rw [getD_mapD pS M [] i hi']
      refine ⟨_, _, Asg_tuple (ds := [pI i, pS (M.getD i [])]) (AsgL_cons (Asg_name 7 hf l7) (AsgL_cons (Asg_name 3 hf l3) AsgL_nil)), ?_⟩
      dsimp only [List.set]
      refine Ex_if (c := M.getD i [] != X.getD i []) (Tr_cmp (by walk_at "m_go") (Ev_itemL (l := X.map pS) (i := (i : Int)) (by walk_at "m_go") (by walk_at "m_go") (by omega) (by omega) ?_) op_neS) ?_ ?_
      · rw [Int.toNat_natCast, List.getElem?_map, getD_get [] hx]; rfl
      · intro hc
        have hn : M.getD i [] ≠ X.getD i [] := by simpa using hc
        refine Ex_assign 6 hf l6 (Ev_toL i (l := M.map pS) (by walk_at "m_go") (by walk_at "m_go") (by simp; omega)) (Ex_brk ⟨rfl, some (dS (M.getD i [])), some (dI i), ?_⟩)
        dsimp only [List.set]
        rw [lcp_at M X i hpre hi' hx hn, List.map_take]
      · intro hc
        have hn : M.getD i [] = X.getD i [] := by simpa using hc
        refine Ex_nil ⟨rfl, ?_, _, _, rfl⟩
        rw [List.take_add_one, List.take_add_one, hpre, getD_get [] hi', getD_get [] hx, hn]
    · rintro vs cs ⟨rfl, hpre, a, b, rfl⟩
      rw [List.length_map] at hpre
      refine Ex_nil ⟨rfl, a, b, ?_⟩
      rw [lcp_all M X hpre]
    · rintro vs cs ⟨rfl, a, b, rfl⟩
      have hwl := wgt_lcp M X
      have hll := len_wgt (lcp M X)
      have hjl := jn_len (lcp M X)
      refine Ex_assign 8 hf l8 (Ev_ite (c := true) (Tr_val (by walk_at "m_go") OpT_bool) (fun _ => by walk_at "m_go") (fun h => by cases h)) ?_
      dsimp only [List.set]
      refine Ex_ret (Ev_BinOp (a := dS [47]) (b := dS (jn [47] (lcp M X))) (by walk_at "m_go") (Ev_methS (by walk_at "m_go") PySem.F.slot_str_join PySem.F.type_str_join (EvL_cons (by walk_at "m_go") EvL_nil) (op_join (ts := lcp M X) ?_)) (op_cat ?_)) rfl
      · have hk : wgt (lcp M X) ≤ 16777216 := by omega
        exact Nat.le_trans (Nat.le_of_eq (congrArg (fun z => ((lcp M X).map (·.length)).sum + z) (Nat.mul_one _))) hk
      · simp; omega
end
end Mine
end
section
set_option Elab.async false
set_option linter.unusedVariables false
namespace Mine
theorem okS_app (a b : List Nat) : okS (a ++ b) = (okS a && okS b) := by simp [okS]
theorem okS_mem {l : List Nat} (h : ∀ c ∈ l, c < 1114112) : okS l = true := by
  unfold okS; rw [List.all_eq_true]; intro c hc; exact decide_eq_true (h c hc)
theorem okS_lt {l : List Nat} (h : okS l = true) : ∀ c ∈ l, c < 1114112 := by
  unfold okS at h; rw [List.all_eq_true] at h; intro c hc; exact of_decide_eq_true (h c hc)
theorem okS_tri (r t : Nat) : okS (rowTri r t) = true := by
  have h2 : ∀ (a b j : Nat), a < 1114112 → b < 1114112 → ([a, b].getD j 0) < 1114112 := by
    intro a b j ha hb
    match j with
    | 0 => exact ha
    | 1 => exact hb
    | j + 2 => simp [List.getD]
  refine okS_mem fun c hc => ?_
  unfold rowTri at hc
  rcases List.mem_append.mp hc with hc | hc
  rcases List.mem_append.mp hc with hc | hc
  all_goals (have hc := List.mem_singleton.mp hc; subst hc)
  · exact h2 _ _ _ (by decide) (by decide)
  · exact h2 _ _ _ (by decide) (by decide)
  · split
    · exact h2 _ _ _ (by decide) (by decide)
    · split
      · exact h2 _ _ _ (by decide) (by decide)
      · exact h2 _ _ _ (by decide) (by decide)
theorem okS_row (k : List Nat) (r : Nat) (h : okS k = true) : okS (rowF k r) = true := by
  unfold rowF; rw [okS_app, okS_app, okS_app, h, okS_tri, okS_tri, okS_tri]; rfl
theorem okS_jn : ∀ ts : List (List Nat), (∀ t ∈ ts, okS t = true) → okS (jn [47] ts) = true
  | [], _ => rfl
  | [a], h => h a (by simp)
  | a :: b :: r, h => by
    show okS (a ++ [47] ++ jn [47] (b :: r)) = true
    rw [okS_app, okS_app, h a (by simp), okS_jn (b :: r) fun t ht => h t (List.mem_cons_of_mem _ ht)]; rfl
/-- a piece as the lines have them -/
noncomputable def goodP (p : List Nat) : Prop := 1 ≤ p.length ∧ p.length ≤ 2 ∧ okS p = true
theorem piecesF_sub (x : List Nat) : (piecesF x).Sublist (cutP x) := by
  obtain ⟨qs, e, h⟩ := keep_sub (marksF (cutP x)) (cutP x) (0, [])
  unfold piecesF
  rw [e]; simpa using h
theorem piecesF_len (x : List Nat) : (piecesF x).length ≤ x.length := Nat.le_trans (piecesF_sub x).length_le (cutP_len x)
theorem pieces_good (x : List Nat) (h : okS x = true) : ∀ p ∈ piecesF x, goodP p := fun p hp => by
  obtain ⟨h1, h2⟩ := wf_len _ (wf_pieces x) p hp
  refine ⟨h1, h2, okS_mem fun c hc => okS_lt h c ?_⟩
  have : c ∈ (cutP x).flatten := List.mem_flatten.mpr ⟨p, (piecesF_sub x).subset hp, hc⟩
  rwa [flat_cut] at this
theorem flat_len (ps : List (List Nat)) (h : ∀ p ∈ ps, p.length ≤ 2) : ps.flatten.length ≤ 2 * ps.length := by
  induction ps with
  | nil => simp
  | cons a r ih =>
    have := ih fun p hp => h p (List.mem_cons_of_mem _ hp)
    have := h a (by simp)
    simp only [List.flatten_cons, List.length_append, List.length_cons]; omega
theorem strip_len (x : List Nat) : (stripF x).length ≤ 2 * x.length := by
  rw [strip_flat]
  have := flat_len (piecesF x) fun p hp => (wf_len _ (wf_pieces x) p hp).2
  have := piecesF_len x
  omega
theorem seenFold_mem (ps : List (List Nat)) (ds : List Int) : ∀ (ks : List Nat) (s : Int × List (List Nat)), (∀ k ∈ ks, k < ps.length) → (∀ p ∈ s.2, p ∈ ps) → ∀ p ∈ (ks.foldl (seenStep ps ds) s).2, p ∈ ps
  | [], s, _, h => h
  | k :: ks, s, hk, h => by
    refine seenFold_mem ps ds ks (seenStep ps ds s k) (fun j hj => hk j (List.mem_cons_of_mem _ hj)) fun p hp => ?_
    unfold seenStep at hp
    simp only at hp
    split at hp
    · rcases List.mem_append.mp hp with hp | hp
      · exact h p hp
      · rw [List.mem_singleton.mp hp]
        exact getD_mem' ps [] k (hk k (by simp))
    · exact h p hp
theorem madeF_mem (ps : List (List Nat)) : ∀ m ∈ madeF ps, (m.2.1 = [61] ∨ m.2.1 = [35] ∨ m.2.1 = [33] ∨ m.2.1 = [92]) ∧ m.2.2.length ≤ ps.length ∧ ∀ p ∈ m.2.2, p ∈ ps := fun m hm => by
  unfold madeF at hm
  obtain ⟨k, hk, rfl⟩ := List.mem_map.mp hm
  obtain ⟨hk1, hk2⟩ := List.mem_filter.mp hk
  have hk1 := List.mem_range.mp hk1
  refine ⟨?_, ?_, ?_⟩
  · unfold isMk at hk2
    simp at hk2
    rcases hk2 with h | h | h | h
    · exact .inl h.symm
    · exact .inr (.inl h.symm)
    · exact .inr (.inr (.inl h.symm))
    · exact .inr (.inr (.inr h.symm))
  · have := seen_len ps (depthsF ps) (List.range k).reverse ((depthsF ps).getD k 0, [])
    unfold seenF
    simp at this ⊢; omega
  · intro p hp
    unfold seenF at hp
    refine seenFold_mem ps (depthsF ps) (List.range k).reverse ((depthsF ps).getD k 0, []) (fun j hj => ?_) (by simp) p (by simpa using hp)
    have := List.mem_range.mp (List.mem_reverse.mp hj)
    omega
theorem madeF_len (ps : List (List Nat)) : (madeF ps).length ≤ ps.length := by
  unfold madeF
  rw [List.length_map]
  exact Nat.le_trans (List.length_filter_le _ _) (by simp)
theorem lastN_ok (p : List Nat) (h : okS p = true) : lastN p < 1114112 := by
  unfold lastN
  rcases List.eq_nil_or_concat p with rfl | ⟨r, z, rfl⟩
  · simp
  · have := okS_lt h z (by simp)
    simpa using this
theorem tStep_okS (s : TS) (p : List Nat) (h : ∀ n ∈ s.names, okS n = true) (hp : okS p = true) : ∀ n ∈ (tStep s p).names, okS n = true := by
  unfold tStep
  split
  · exact h
  · split
    · exact fun n hn => h n (List.dropLast_subset _ hn)
    · split
      · simp
      · split
        · intro n hn
          rcases List.mem_append.mp hn with hn | hn
          · exact h n hn
          · rw [List.mem_singleton.mp hn]
            exact okS_mem fun c hc => by rw [List.mem_singleton.mp hc]; exact lastN_ok p hp
        · exact h
theorem tFold_okS : ∀ (ps : List (List Nat)) (s : TS), (∀ n ∈ s.names, okS n = true) → (∀ p ∈ ps, okS p = true) → ∀ n ∈ (ps.foldl tStep s).names, okS n = true
  | [], s, h, _ => h
  | p :: ps, s, h, hp => tFold_okS ps (tStep s p) (tStep_okS s p h (hp p (by simp))) fun q hq => hp q (List.mem_cons_of_mem _ hq)
theorem tAll_okS (seen : List (List Nat)) (h : ∀ p ∈ seen, okS p = true) : ∀ n ∈ (tAll seen).names, okS n = true := tFold_okS seen _ (by decide) h
theorem told_okS (seen : List (List Nat)) (h : ∀ p ∈ seen, okS p = true) : okS (toldPath (tAll seen)) = true := by
  unfold toldPath
  rw [okS_app, okS_jn _ (tAll_okS seen h)]
  rcases (tinv_all seen).root with e | e <;> rw [e] <;> rfl
theorem told_head (seen : List (List Nat)) : (toldPath (tAll seen)).head? = some 47 := by
  unfold toldPath
  rcases (tinv_all seen).root with e | e <;> rw [e] <;> rfl
theorem names_len1 : ∀ ts : List (List Nat), (∀ m ∈ ts, okName m) → (jn [47] ts).length ≤ 2 * ts.length
  | [], _ => by simp [jn]
  | [a], h => by
    obtain ⟨c, _, _, rfl⟩ := h a (by simp)
    simp [jn]
  | a :: b :: r, h => by
    have := names_len1 (b :: r) fun m hm => h m (List.mem_cons_of_mem _ hm)
    obtain ⟨c, _, _, rfl⟩ := h a (by simp)
    show ([c] ++ [47] ++ jn [47] (b :: r)).length ≤ _
    simp only [List.length_append, List.length_cons, List.length_nil] at this ⊢; omega
theorem told_names_len (seen : List (List Nat)) : (tAll seen).names.length ≤ seen.length + 1 := by
  have := (tFold_bound seen ⟨[[99]], [47, 47], [0, 0, 2, 2]⟩ (by simp) (by decide) (by simp)).2.2.2.1
  have e : (tAll seen) = seen.foldl tStep ⟨[[99]], [47, 47], [0, 0, 2, 2]⟩ := rfl
  rw [e]; simp at this ⊢; omega
theorem told_len (seen : List (List Nat)) : (toldPath (tAll seen)).length ≤ 2 * seen.length + 4 := by
  have h1 := names_len1 _ (tinv_all seen).names
  have h2 := told_names_len seen
  unfold toldPath
  rcases (tinv_all seen).root with e | e <;> rw [e] <;> simp <;> omega
/-- the path's names are those that lead to it -/
theorem names_told (seen : List (List Nat)) : namesOf (toldPath (tAll seen)) = (tAll seen).names := by
  have hn := (tinv_all seen).names
  have hr := (tinv_all seen).root
  unfold toldPath namesOf
  generalize (tAll seen).names = ts at hn
  have key : ∀ (pre : List Nat), (pre = [47] ∨ pre = [47, 47]) → ∀ l, ((spl 47 (pre ++ l)).filter fun c => !c.isEmpty && c != [46]) = (spl 47 l).filter fun c => !c.isEmpty && c != [46] := by
    intro pre hp l
    rcases hp with rfl | rfl
    · show ((spl 47 (47 :: l)).filter _) = _
      rw [spl, if_pos rfl]; rfl
    · show ((spl 47 (47 :: 47 :: l)).filter _) = _
      rw [spl, if_pos rfl, spl, if_pos rfl]; rfl
  rw [key _ hr]
  cases ts with
  | nil => rfl
  | cons a r =>
    rw [spl_jn 47 (a :: r) (by simp) fun m hm => (okName_free (hn m hm)).2, List.filter_eq_self]
    intro m hm
    obtain ⟨c, _, h2, rfl⟩ := hn m hm
    simp [h2]
theorem minLen_ex (fs : List (List Pc)) (h : fs ≠ []) : ∃ n, minLen fs n := by
  induction fs with
  | nil => exact absurd rfl h
  | cons a r ih =>
    rcases Classical.em (r = []) with rfl | hr
    · exact ⟨a.length, ⟨a, by simp, rfl⟩, fun x hx => by rw [List.mem_singleton.mp hx]; exact Nat.le_refl _⟩
    · obtain ⟨n, ⟨x, hx, e⟩, hl⟩ := ih hr
      rcases Nat.le_total a.length n with h1 | h1
      · refine ⟨a.length, ⟨a, by simp, rfl⟩, fun y hy => ?_⟩
        rcases List.mem_cons.mp hy with rfl | hy
        · exact Nat.le_refl _
        · exact Nat.le_trans h1 (hl y hy)
      · refine ⟨n, ⟨x, List.mem_cons_of_mem _ hx, e⟩, fun y hy => ?_⟩
        rcases List.mem_cons.mp hy with rfl | hy
        · exact h1
        · exact hl y hy
theorem foldl_snoc {α β : Type} (f : α → β) : ∀ (xs : List α) (acc : List β), xs.foldl (fun s x => s ++ [f x]) acc = acc ++ xs.map f
  | [], acc => by simp
  | x :: xs, acc => by rw [List.foldl_cons, foldl_snoc f xs]; simp
theorem layAll_map {α : Type} (f : α → PyData) (xs : List α) (h : ∀ x ∈ xs, (f x).canLay0 = true) : PyData.canLayAll0 (xs.map f) = true := by
  induction xs with
  | nil => rfl
  | cons a r ih =>
    rw [List.map_cons, PyData.canLayAll0, h a (by simp), ih fun x hx => h x (List.mem_cons_of_mem _ hx)]; rfl
theorem depthAll_map {α : Type} (f : α → PyData) (B : Nat) (xs : List α) (h : ∀ x ∈ xs, (f x).depth ≤ B) : PyData.depthAll (xs.map f) ≤ B := by
  induction xs with
  | nil => simp [PyData.depthAll]
  | cons a r ih =>
    have h1 := h a (by simp)
    have h2 := ih fun x hx => h x (List.mem_cons_of_mem _ hx)
    rw [List.map_cons, PyData.depthAll]; omega
noncomputable def isDirM (m : Int × List Nat × List (List Nat)) : Bool := kindF m.2.1 == [100]
noncomputable def rowM (m : Int × List Nat × List (List Nat)) : PyData := toldRow m.1 m.2.1 (tAll m.2.2)
noncomputable def foldersF (ms : List (Int × List Nat × List (List Nat))) : List (List (List Nat)) := (ms.filter isDirM).map fun m => (tAll m.2.2).names
noncomputable def pathsF (ms : List (Int × List Nat × List (List Nat))) : List (List Nat) := (ms.filter isDirM).map fun m => toldPath (tAll m.2.2)
theorem folders_names (ms : List (Int × List Nat × List (List Nat))) : (pathsF ms).map namesOf = foldersF ms := by
  unfold pathsF foldersF
  rw [List.map_map]
  exact List.map_congr_left fun m _ => names_told m.2.2
theorem common_law (ms : List (Int × List Nat × List (List Nat))) (h : foldersF ms ≠ []) (n : Nat) (hn : minLen (foldersF ms) n) : commonF (pathsF ms) = [47] ++ jn [47] (lawC (foldersF ms) n) := by
  unfold commonF
  rw [folders_names, lawC_eq _ h n hn]
theorem kind_okS (s : List Nat) : okS (kindF s) = true := by
  unfold kindF
  split
  · rfl
  · split
    · rfl
    · split <;> rfl
theorem row_lay (m : Int × List Nat × List (List Nat)) (h : ∀ p ∈ m.2.2, okS p = true) : (rowM m).canLay0 = true ∧ (rowM m).depth ≤ 1 := by
  unfold rowM toldRow
  refine ⟨?_, ?_⟩
  · simp only [PyData.canLay0, PyData.canLayAll0, Bool.and_eq_true]
    exact ⟨trivial, okS_lay (told_okS _ h), okS_lay (okS_row _ _ (kind_okS _)), trivial, trivial⟩
  · simp [PyData.depth, PyData.depthAll]
end Mine
end
section
set_option Elab.async false
set_option linter.unusedVariables false
set_option maxRecDepth 100000
set_option maxHeartbeats 4000000
namespace Mine
noncomputable def lnK (ns : List Int) (k : Nat) : List Nat := lineF ns ++ List.replicate k 41
noncomputable def lnsF (ns : List Int) : List (List Nat) := (List.range 4).map (lnK ns)
noncomputable def takF (X : List (List Nat)) : List Bool := X.map fun x => takenF (piecesF x)
theorem sgAt_ok (x : Int) : sgAt x < 1114112 := by
  unfold sgAt
  have h : ∀ j, sgL.getD j 0 < 1114112 := by
    intro j
    rcases Nat.lt_or_ge j 20 with h | h
    · have : ∀ j : Fin 20, sgL.getD j.1 0 < 1114112 := by decide
      exact this ⟨j, h⟩
    · simp [List.getD, sgL, show 20 ≤ j from h]
  exact h _
theorem lnK_ok (ns : List Int) (k : Nat) (hk : k < 4) : (lnK ns k).length ≤ 32 ∧ okS (lnK ns k) = true := by
  unfold lnK lineF
  refine ⟨?_, ?_⟩
  · have : preL.length = 21 := rfl
    simp only [List.length_append, List.length_map, List.length_take, List.length_replicate]; omega
  · refine okS_mem fun c hc => ?_
    rcases List.mem_append.mp hc with hc | hc
    · rcases List.mem_append.mp hc with hc | hc
      · have : ∀ c ∈ preL, c < 1114112 := by decide
        exact this c hc
      · obtain ⟨x, _, rfl⟩ := List.mem_map.mp hc
        exact sgAt_ok x
    · rw [(List.mem_replicate.mp hc).2]; decide
section
variable {w : World} {Λ : Glo} {F : FS} {n : Nat} {vs cs : List (Option AV)}
/-- the first True of a list of truths -/
theorem Ev_indexL {x : Str} {pos apos npos : Pos} {e : Expr} {bs : List Bool} {j : Nat} (k : Nat) (hf : F.fit = true) (hx : F.locs[k]? = some x) (hv : vs[k]? = some (some (dL (bs.map PyData.bool)))) (h : Ev pr w Λ F n vs cs e (dB true))
    (hj : bs[j]? = some true) (hno : ∀ m, m < j → bs[m]? = some false) (hsz : bs.length ≤ sizeLine)
    (hline : (apos.endLine == pos.line) = true := by rfl) (hs : ∀ env, starEach [e] env = [(false, eval e env)] := by intro _; rfl)
    (hd : (x == ("__debug__" : Str)) = false := by decide) :
    Ev pr w Λ F n vs cs (.Call (.Attribute (.Name x npos) (Str.ofString "index") apos) [e] [] pos) (dI (j : Nat)) := ⟨fun A env G s E hr he hV => by
  have hb : backTo pos (starEach [e] env) = [(false, eval e env)] := by rw [hs env]; rfl
  refine wpAny_Call_method (o := .Name x npos) (apos := apos) rfl (by rw [hb]; rfl) hline PySem.F.plainAttrs_list PySem.F.slot_list_index PySem.F.type_list_index ((Ev_loc (pos := npos) k hf hx hv rfl hd).seq hr he hV fun v0 s0 G0 g0 x0 V0 o0 => ?_)
  obtain ⟨a, o, itv, nn, rfl, hG, hc, hdt, hdc, hA⟩ := Rep.inv_listD o0
  obtain ⟨cls, dd, data, sl⟩ := o
  simp only at hc hdt hdc
  subst hc hdt hdc
  have hp := V0.data _ _ hG
  refine ⟨⟨_, hp, rfl⟩, fun a e => ?_, ?_⟩
  · cases e; exact ⟨_, hp, rfl⟩
  rw [hb]
  refine PySem.Calls.callWith_builtin rfl (evalArgs_plain (spliced_cons (h.seq hr he V0 fun u s1 G1 g1 x1 V1 o1 => spliced_nil ?_)))
  obtain rfl := Rep.inv_bool o1
  have hp1 := g1.keep _ _ hp
  have hget : ∀ (i : Nat) (b : Bool), bs[i]? = some b → itv[i]? = some (.bool b) := fun i b hb => by
    obtain ⟨v, hv, hR⟩ := hA.get' i (.bool b) (by simp [hb])
    obtain rfl := Rep.inv_bool hR
    simpa using hv
  have hlen : itv.size = bs.length := by have := hA.length; simpa using this
  have hj' : j < itv.size := by rw [hlen]; exact (List.getElem?_eq_some_iff.mp hj).1
  have hs' := sizeLine_lt
  refine call_meets PySem.F.slot_list_index ⟨_, hp1, rfl⟩ PySem.F.entry_list_index (PySem.F.args_list_index_2 _ _) (SeqAt.list_indexAt a itv nn none sl (.bool true) isT j hj' (by
      have : sizeLine < 2 ^ 63 - 1 := by decide
      omega) ?_ ?_) ⟨hp1, fun z hz => ?_, ⟨(g0.trans g1).trans .tok, G1, (x0.trans g0 x1).after .tok, Rep.int _ _⟩⟩
  · have := hget j true hj
    rw [Array.getElem?_eq_getElem hj'] at this
    cases h : itv[j] <;> rw [h] at this <;> cases this
    rfl
  · intro i hi hij
    have := hget i false (hno i hij)
    rw [Array.getElem?_eq_getElem hi] at this
    cases h : itv[i] <;> rw [h] at this <;> cases this
    rfl
  · obtain ⟨i, hi, rfl⟩ := Array.mem_iff_getElem.mp hz
    obtain ⟨b, hb⟩ : ∃ b, bs[i]? = some b := ⟨_, List.getElem?_eq_getElem (by omega)⟩
    have := hget i b hb
    rw [Array.getElem?_eq_getElem hi] at this
    have e : itv[i] = .bool b := by simpa using this
    rw [e]
    have := SeqAt.eqAt_reads (.bool b) (.bool true) A.in1 s1 (.bool b) (.bool true) _ _ (.bool b) (.bool true) rfl rfl (by show A.units + 1 + min 0 0 < cLine; have := hr.lineD (k := 1) (by decide); omega)
    have e2 : PyData.eqv (.bool b) (.bool true) = isT (.bool b) := by cases b <;> rfl
    rw [← e2]; exact this⟩
theorem sw_cel {elt : Expr} {gens : List Comprehension} {scope : Scope} {pos p1 : Pos} {t : Str} {line : Nat} (h : (F.scope.names.lookup t == some NameKind.local) = false) (env : Env) (he : env.scope = F.scope) :
    swapsWith (.ListComp elt gens scope pos) (some (.Name t p1)) line env = pure false := by
  rw [← he] at h
  have e : ∀ a b c : Bool, (a && (env.scope.names.lookup t == some NameKind.local) && b && c) = false := fun a b c => by rw [h, Bool.and_false, Bool.false_and, Bool.false_and]
  exact congrArg pure (e _ _ _)
theorem Ex_assignCs {e : Expr} {x : Str} {p1 p2 : Pos} {rest : List Stmt} {av : AV} {P : Out → Prop} (k : Nat) (hf : F.fit = true) (hro : F.ro = false) (hx : F.cels[k]? = some x) (h : Ev pr w Λ F n vs cs e av) (h2 : Ex pr w Λ F n vs (cs.set k (some av)) rest P)
    (hs : ∀ env : Env, env.scope = F.scope → swapsWith e (some (.Name x p1)) p2.line env = pure false) : Ex pr w Λ F n vs cs (.Assign [.Name x p1] e p2 :: rest) P := ⟨fun A env B G gs s E hr he hS =>
  wpAny_execs_cons' (wpAny_Assign_Name (h.seq hr he hS.v fun v s1 G1 g1 x1 V1 o1 => (hS.grow g1 x1).storeC hf he hro hx o1 fun s2 S2 =>
    wpAny_mono (h2.run A env B G1 gs s2 E hr he S2) (fun f s2 ⟨o, a, b⟩ => ⟨o, a, b.mono x1.le⟩) fun _ _ x => x) (hs env he.scope))⟩
theorem eqv_strs : ∀ a b : List (List Nat), PyData.eqvAll (a.map pS) (b.map pS) = (a == b)
  | [], [] => rfl
  | [], b :: r => rfl
  | a :: r, [] => rfl
  | a :: r, b :: t => by
    show (PyData.eqv (pS a) (pS b) && PyData.eqvAll (r.map pS) (t.map pS)) = _
    rw [eqv_strs r t]
    simp only [PyData.eqv, S_beq]; rfl
theorem eqv_strL (a b : List (List Nat)) : PyData.eqv (.list (a.map pS)) (.list (b.map pS)) = (a == b) := by
  rw [PyData.eqv]; exact eqv_strs a b
theorem lay_strs (a : List (List Nat)) (h : ∀ x ∈ a, okS x = true) : (PyData.list (a.map pS)).canLay0 = true := by
  rw [PyData.canLay0]; exact layAll_map _ _ fun x hx => okS_lay (h x hx)
theorem depth_strs (a : List (List Nat)) : (PyData.list (a.map pS)).depth ≤ 1 := by
  have := depthAll_map pS 0 a (fun x _ => Nat.le_refl 0)
  rw [PyData.depth]; omega
theorem wgt_ok : ∀ ts : List (List Nat), (∀ m ∈ ts, okName m) → wgt ts = 2 * ts.length
  | [], _ => rfl
  | a :: r, h => by
    obtain ⟨c, _, _, rfl⟩ := h a (by simp)
    rw [wgt_cons, wgt_ok r fun m hm => h m (List.mem_cons_of_mem _ hm)]
    simp only [List.length_cons, List.length_nil]; omega
theorem first_true : ∀ bs : List Bool, true ∈ bs → ∃ j : Nat, bs[j]? = some true ∧ ∀ m : Nat, m < j → bs[m]? = some false
  | [], h => by cases h
  | true :: r, _ => ⟨0, rfl, fun m hm => absurd hm (Nat.not_lt_zero m)⟩
  | false :: r, h => by
    obtain ⟨j, h1, h2⟩ := first_true r (by simpa using h)
    refine ⟨j + 1, h1, fun m hm => ?_⟩
    match m with
    | 0 => rfl
    | m + 1 => exact h2 m (by omega)
theorem cl_law (hG : Gd Λ) (ns : List Int) (hl : ns.length ≤ 63) : Cl w Λ 57 10 [dL (ns.map pI)] (dB true) := by
  obtain ⟨hf, hdb, l0, l1, l2, l3, l4, l5, l6, l7, l8, l9, l10, c0, c1, c2⟩ := lk_law
  have hsl : 100000 ≤ sizeLine := by decide
  refine Cl_intro (List.replicate 11 none) [some (dL (ns.map pI)), none, none] hG (ps := [Str.ofString "script"]) (F := F_law) { sc := rfl, ro := rfl, fit := hf, nodup := by decide, plen := rfl, len := by decide, loc := ?_, cel := ?_, cells := ?_, kinds := ?_ } (by walk_at "s_b1") ?_
  · intro k x av h1 h2
    have := List.mem_of_getElem? h2
    rw [List.mem_replicate] at this
    cases this.2
  · intro k x av h1 h2
    match k with
    | 0 => rw [c0] at h1; cases h1; cases h2; exact ⟨0, rfl, rfl⟩
    | 1 => cases h2
    | 2 => cases h2
    | k + 3 => cases h2
  · intro L x hx
    rcases List.mem_cons.mp hx with rfl | hx
    · rfl
    rcases List.mem_cons.mp hx with rfl | hx
    · rfl
    rcases List.mem_singleton.mp hx with rfl
    rfl
  · intro L x hx
    rcases List.mem_singleton.mp hx with rfl
    exact .inr ⟨rfl, rfl⟩
  show Ex _ _ _ _ _ [none, none, none, none, none, none, none, none, none, none, none] _ _ _
  have hcS : ∀ (a : Option AV) (b c : Option AV) (k : Nat) (x : Str) (av : AV), [Str.ofString "script"][k]? = some x → [a][k]? = some (some av) → ∃ j : Nat, F_law.cels[j]? = some x ∧ [a, b, c][j]? = some (some av) := by
    intro a b c k x av h1 h2
    match k with
    | 0 => cases h1; cases h2; exact ⟨0, c0, rfl⟩
    | k + 1 => cases h1
  refine Ex_assignCompM 0 [Str.ofString "k"] [Str.ofString "script"] [some (dL (ns.map pI))] (fun _ => true) (fun i => pS (lnK ns i)) hf rfl l0 (Itb_range1 (m := 4) (by walk_at "m_go") (by walk_at "m_go") (by decide)) (by decide) ?_ ?_ (sw_list (by rfl)) (hcs := hcS _ _ _)
  · intro Fc hc i hi
    have hfc := hc.fit
    have hdc := hc.dbg
    have k0 : Fc.locs[0]? = some (Str.ofString "k") := by rw [hc.locs]; rfl
    have k1 : Fc.cels[0]? = some (Str.ofString "script") := by rw [hc.cels]; rfl
    have h1 := lnK_ok ns i hi
    refine ⟨_, Asg_name 0 hfc k0, Tests_nil, fun _ => ?_⟩
    dsimp only [List.replicate, List.length, List.set]
    have hq := h1.1
    unfold lnK at hq
    rw [List.length_append] at hq
    exact Ev_BinOp (a := dS (lineF ns)) (b := dS (List.replicate i 41)) (Ev_fn 49 1 hG hfc (EvL_cons (by walk_at "m_go") EvL_nil) (cl_line hG ns hl) (by decide) (hx := by rw [hc.sc]; rfl)) (Ev_BinOp (by walk_at "m_go") (by walk_at "m_go") (op_mulS (by omega))) (op_cat (by omega))
  rw [outs_all]
  have e1 : (List.range 4).map (fun i => pS (lnK ns i)) = (lnsF ns).map pS := by unfold lnsF; rw [List.map_map]; rfl
  rw [e1]
  have hX4 : (lnsF ns).length = 4 := rfl
  have hXg : ∀ x ∈ lnsF ns, x.length ≤ 32 ∧ okS x = true := by
    intro x hx
    obtain ⟨k, hk, rfl⟩ := List.mem_map.mp hx
    exact lnK_ok ns k (List.mem_range.mp hk)
  generalize lnsF ns = X at hX4 hXg
  dsimp only [List.set]
  have hpc : ∀ x ∈ X, ((piecesF x).length ≤ 32 ∧ ∀ p ∈ piecesF x, goodP p) := fun x hx => ⟨Nat.le_trans (piecesF_len x) (hXg x hx).1, pieces_good x (hXg x hx).2⟩
  refine Ex_assignCompM 1 [Str.ofString "line"] [] [] (fun _ => true) (fun i => .list ((piecesF (X.getD i [])).map pS)) hf rfl l1 (Itb_list (ds := X.map pS) (by walk_at "m_go")) (by simp; omega) ?_ ?_ (sw_list (by rfl))
  · intro Fc hc i hi
    have hi' : i < X.length := by simpa using hi
    have hfc := hc.fit
    have hdc := hc.dbg
    have k0 : Fc.locs[0]? = some (Str.ofString "line") := by rw [hc.locs]; rfl
    rw [getD_mapD pS X [] i hi']
    have h1 := (hXg _ (getD_mem' X [] i hi')).1
    refine ⟨_, Asg_name 0 hfc k0, Tests_nil, fun _ => ?_⟩
    dsimp only [List.replicate, List.length, List.set]
    exact Ev_fn 50 1 hG hfc (EvL_cons (by walk_at "m_go") EvL_nil) (cl_pieces hG _ (by omega)) (by decide) (hx := by rw [hc.sc]; rfl)
  rw [outs_all, List.length_map]
  have e2 : (List.range X.length).map (fun i => PyData.list ((piecesF (X.getD i [])).map pS)) = X.map fun x => .list ((piecesF x).map pS) := by
    rw [← outs_all (f := fun i => PyData.list ((piecesF (X.getD i [])).map pS))]
    exact outs_list (f := fun p => PyData.list ((piecesF p).map pS)) X
  rw [e2]
  dsimp only [List.set]
  refine Ex_own 2 hf l2 (ds := []) EvL_nil ?_ (by decide)
  dsimp only [List.set]
  refine Ex_forF X (fun x => AV.dat (.list ((piecesF x).map pS))) (fun (s : List Bool) x => s ++ [takenF (piecesF x)]) [] (fun s vs cs => cs = [some (dL (ns.map pI)), none, none] ∧ ∃ a b, vs = [some (dL (X.map pS)), some (dL (X.map fun x => .list ((piecesF x).map pS))), some (.own (s.map PyData.bool)), a, b, none, none, none, none, none, none])
    rfl (Itb_list (ds := X.map fun x => .list ((piecesF x).map pS)) (by walk_at "m_go")) (by simp) (fun i y hy => getD_map (fun x => PyData.list ((piecesF x).map pS)) X i y hy) ⟨rfl, _, _, rfl⟩ ?_ ?_
  · rintro i x vs cs hq ⟨rfl, a0, b0, rfl⟩
    obtain ⟨p1, p2⟩ := hpc x (List.mem_of_getElem? hq)
    have hi4 : i < 4 := by rw [← hX4]; exact (List.getElem?_eq_some_iff.mp hq).1
    have hfl : ((X.take i).foldl (fun (s : List Bool) x => s ++ [takenF (piecesF x)]) []).length ≤ 4 := by
      rw [foldl_snoc]; simp; omega
    generalize (X.take i).foldl (fun (s : List Bool) x => s ++ [takenF (piecesF x)]) [] = s at hfl
    refine ⟨_, _, Asg_name 3 hf l3, ?_⟩
    dsimp only [List.set]
    refine Ex_assign 4 hf l4 (Ev_fn 51 1 hG hf (EvL_cons (by walk_at "m_go") EvL_nil) (cl_depths hG _ (by omega) fun p hp => by have := (p2 p hp).2.1; omega) (by decide)) ?_
    dsimp only [List.set]
    obtain ⟨m1, m2⟩ := minF_mem (piecesF x)
    have hdl := depthsF_len (piecesF x)
    have hne : depthsF (piecesF x) ≠ [] := by intro h; rw [h] at hdl; simp at hdl
    refine Ex_expr (EvS_append 2 hf l2 rfl (d := .bool (takenF (piecesF x))) (Ev_and2 (b := minF (depthsF (piecesF x)) == 0) (c := (depthsF (piecesF x)).getLastD 0 == 0) (Ev_cmp (Ev_callB (by walk_at "m_go") (EvL_cons (by walk_at "m_go") EvL_nil) (op_minL m1 m2)) (by walk_at "m_go") op_eq) (fun _ => Ev_cmp (Ev_lastL (l := (depthsF (piecesF x)).map pI) (by walk_at "m_go") (by simp; omega) ?_) (by walk_at "m_go") op_eq)) (by simp; omega)) (Ex_nil ⟨rfl, some (.dat (.list ((piecesF x).map pS))), some (dL ((depthsF (piecesF x)).map pI)), ?_⟩) hf nr_none
    · rw [List.getLast?_map, last_ne hne 0]; rfl
    · dsimp only [List.set]
      simp
  · rintro vs cs ⟨rfl, a0, b0, rfl⟩
    rw [foldl_snoc, List.nil_append]
    have hTe : X.map (fun x => takenF (piecesF x)) = takF X := rfl
    rw [hTe]
    refine Ex_freeze l2 rfl ?_
    dsimp only [List.set]
    have hTl : (takF X).length = X.length := by simp [takF]
    have h2m := getD_mem' X [] 2 (by omega)
    refine Ex_if (c := false) ((Tr_cmp (a := dB (chkF (X.getD 2 []))) (b := dB (takenF (piecesF (X.getD 2 [])))) (Ev_fn 4 3 hG hf (EvL_cons (Ev_itemL (l := X.map pS) (i := 2) (d := pS (X.getD 2 [])) (by walk_at "m_go") (by walk_at "m_go") (by decide) (by decide) ?_) EvL_nil) (cl_check hG _ ?_) (by decide)) (Ev_itemL (l := (takF X).map PyData.bool) (i := 2) (d := .bool (takenF (piecesF (X.getD 2 [])))) (by walk_at "m_go") (by walk_at "m_go") (by decide) (by decide) ?_) op_isB).eq ?_) (fun h => by cases h) fun _ => ?_
    · show (X.map pS)[2]? = _
      rw [List.getElem?_map, getD_get [] (show 2 < X.length by omega)]; rfl
    · have := (hXg _ h2m).1; omega
    · show ((takF X).map PyData.bool)[2]? = _
      rw [List.getElem?_map, takF, List.getElem?_map, getD_get [] (show 2 < X.length by omega)]; rfl
    · rw [chk_taken]; simp
    dsimp only [List.append, List.cons_append, List.nil_append]
    refine Ex_assignCompM 5 [Str.ofString "line", Str.ofString "good"] [] [] (fun _ => true) (fun i => pS (if chkF (X.getD i []) then X.getD i [] else fallback)) hf rfl l5 (Itb_zip (ds := X.map pS) (es := (takF X).map PyData.bool) (by simp [takF]) (by walk_at "m_go") (EvL_cons (by walk_at "m_go") (EvL_cons (by walk_at "m_go") EvL_nil))) (by simp; omega) ?_ ?_ (sw_list (by rfl))
    · intro Fc hc i hi
      have hi' : i < X.length := by simpa using hi
      have hfc := hc.fit
      have hdc := hc.dbg
      have k0 : Fc.locs[0]? = some (Str.ofString "line") := by rw [hc.locs]; rfl
      have k1 : Fc.locs[1]? = some (Str.ofString "good") := by rw [hc.locs]; rfl
      have eT : (takF X).map PyData.bool = X.map fun x => .bool (takenF (piecesF x)) := by unfold takF; rw [List.map_map]; rfl
      rw [eT, getD_mapD pS X [] i hi', getD_mapD (fun x => PyData.bool (takenF (piecesF x))) X [] i hi', chk_taken]
      refine ⟨_, Asg_tuple (ds := [pS (X.getD i []), .bool (takenF (piecesF (X.getD i [])))]) (AsgL_cons (Asg_name 0 hfc k0) (AsgL_cons (Asg_name 1 hfc k1) AsgL_nil)), Tests_nil, fun _ => ?_⟩
      dsimp only [List.replicate, List.length, List.set]
      refine Ev_ite (c := takenF (piecesF (X.getD i []))) (Tr_val (by walk_at "m_go") OpT_bool) (fun h => ?_) (fun h => ?_)
      · rw [if_pos h]; walk_at "m_go"
      · rw [if_neg (by rw [h]; decide)]; exact Ev_strS _ (by rfl)
    rw [outs_all, List.length_map]
    have e3 : (List.range X.length).map (fun i => pS (if chkF (X.getD i []) then X.getD i [] else fallback)) = X.map fun x => pS (if chkF x then x else fallback) := by
      rw [← outs_all (f := fun i => pS (if chkF (X.getD i []) then X.getD i [] else fallback))]
      exact outs_list (f := fun x => pS (if chkF x then x else fallback)) X
    rw [e3]
    dsimp only [List.set]
    have lay1 : (PyData.list (X.map fun x => pS (if chkF x then x else fallback))).canLay0 = true := by
      rw [PyData.canLay0]
      refine layAll_map _ X fun x hx => okS_lay ?_
      split
      · exact (hXg x hx).2
      · decide
    refine Ex_if (c := false) ((Tr_cmp (Ev_fn 5 4 hG hf (EvL_cons (by walk_at "m_go") EvL_nil) (cl_preparse hG X (fun x hx => by have := (hXg x hx).1; omega) (by omega)) (by decide)) (by walk_at "m_go") (op_neD lay1 lay1 ?_)).eq ?_) (fun h => by cases h) fun _ => ?_
    · have := depthAll_map (fun x => pS (if chkF x then x else fallback)) 0 X (fun x _ => Nat.le_refl 0)
      rw [PyData.depth]; omega
    · rw [SeqAt.eqv_refl _ lay1]; rfl
    dsimp only [List.append, List.cons_append, List.nil_append]
    refine Ex_if (c := !((takF X).map PyData.bool).any fun y => PyData.eqv y (.bool true)) (Tr_cmp (a := dB true) (by walk_at "m_go") (by walk_at "m_go") (op_notInL rfl (layAll_map _ _ fun _ _ => rfl) ?_)) ?_ ?_
    · have := depthAll_map PyData.bool 0 (takF X) (fun x _ => Nat.le_refl 0)
      omega
    · intro _
      dsimp only [List.append, List.cons_append, List.nil_append]
      exact Ex_ret (by walk_at "m_go") (.inl rfl)
    intro hany
    dsimp only [List.append, List.cons_append, List.nil_append]
    have hmem : true ∈ takF X := by
      simp only [Bool.not_eq_false', List.any_map, List.any_eq_true] at hany
      obtain ⟨b, hb, he⟩ := hany
      cases b with
      | true => exact hb
      | false => cases he
    obtain ⟨j, hj, hno⟩ := first_true _ hmem
    have hjl : j < X.length := by have := (List.getElem?_eq_some_iff.mp hj).1; omega
    refine Ex_assign 6 hf l6 (Ev_indexL (bs := takF X) 2 hf l2 rfl (by walk_at "m_go") hj hno (by omega)) ?_
    dsimp only [List.set]
    have ht : takenF (piecesF (X.getD j [])) = true := by
      unfold takF at hj
      rw [List.getElem?_map, getD_get [] hjl] at hj
      exact Option.some.inj hj
    have hxm := getD_mem' X [] j hjl
    have hxj : X[j]? = some (X.getD j []) := getD_get [] hjl
    clear hj hno hmem hany e1 e2 e3 hTe hTl h2m lay1
    generalize dL ((takF X).map PyData.bool) = K2
    generalize dL (X.map fun x => pS (if chkF x then x else fallback)) = K5
    have hM1 := madeF_mem (piecesF (X.getD j []))
    have hM2 := madeF_len (piecesF (X.getD j []))
    obtain ⟨t1, t2⟩ := read_told _ ht
    have hpop := read_pop _ ht
    obtain ⟨x1, x2⟩ := hXg _ hxm
    obtain ⟨p1, p2⟩ := hpc _ hxm
    have hsl2 := strip_len (X.getD j [])
    have hesc : ∀ q ∈ escs (stripF (X.getD j [])), 1 ≤ q.2.length ∧ q.2.length ≤ 2 ∧ okS q.2 = true := by
      intro q hq
      rw [escs_strip] at hq
      have := List.mem_map_of_mem (f := (·.2)) hq
      rw [pos_snd] at this
      exact p2 _ this
    have hrow : ((X.map fun x => PyData.list ((piecesF x).map pS)))[((j : Nat) : Int).toNat]? = some (.list ((piecesF (X.getD j [])).map pS)) := by
      rw [Int.toNat_natCast, List.getElem?_map, hxj]; rfl
    have hlin : (X.map pS)[((j : Nat) : Int).toNat]? = some (pS (X.getD j [])) := by
      rw [Int.toNat_natCast, List.getElem?_map, hxj]; rfl
    have hxl : (X.getD j []).length ≤ 32 := x1
    clear hxj hpc hXg x2 hxm
    generalize X.getD j [] = x at ht hM1 hM2 t1 t2 hpop x1 p1 p2 hsl2 hesc hrow hlin hxl ⊢
    have p3 : ∀ p ∈ piecesF x, p.length ≤ 1000 := fun p hp => by have := (p2 p hp).2.1; omega
    generalize hMd : madeF (piecesF x) = M at hM1 hM2 t2
    have hM3 : ∀ m ∈ M, ∀ p ∈ m.2.2, goodP p := fun m hm p hp => p2 p ((hM1 m hm).2.2 p hp)
    have eM : (readF x).made.map rowR = M.map rowM := t2
    have eP : ((readF x).places.map fun (p : Nat) => pI p) = (placesF (piecesF x)).map pI := by rw [← t1, List.map_map]; rfl
    refine Ex_assignCompM 7 [Str.ofString "place", Str.ofString "sign", Str.ofString "seen"] [] [] (fun _ => true) (fun i => toldF (M.getD i (0, [], [])).1 (M.getD i (0, [], [])).2.1 (M.getD i (0, [], [])).2.2) hf rfl l7
      (Itb_list (ds := M.map mkD) (Ev_fn 54 2 hG hf (EvL_cons (Ev_itemL (i := ((j : Nat) : Int)) (by walk_at "m_go") (by walk_at "m_go") (by omega) (by omega) hrow) EvL_nil) (by rw [← hMd]; exact cl_made hG _ (by omega) (fun p hp => ⟨p3 p hp, (p2 p hp).2.2⟩)) (by decide))) (by simp; omega) ?_ ?_ (sw_list (by rfl))
    · intro Fc hc i hi
      have hi' : i < M.length := by simpa using hi
      have hfc := hc.fit
      have hdc := hc.dbg
      have k0 : Fc.locs[0]? = some (Str.ofString "place") := by rw [hc.locs]; rfl
      have k1 : Fc.locs[1]? = some (Str.ofString "sign") := by rw [hc.locs]; rfl
      have k2 : Fc.locs[2]? = some (Str.ofString "seen") := by rw [hc.locs]; rfl
      rw [getD_mapD mkD M (0, [], []) i hi']
      have hm := getD_mem' M (0, [], []) i hi'
      obtain ⟨g1, g2, g3⟩ := hM1 _ hm
      have g4 := hM3 _ hm
      clear hm
      generalize M.getD i (0, [], []) = m at g1 g2 g3 g4 ⊢
      refine ⟨_, Asg_tuple (ds := [pI m.1, pS m.2.1, .list (m.2.2.map pS)]) (AsgL_cons (Asg_name 0 hfc k0) (AsgL_cons (Asg_name 1 hfc k1) (AsgL_cons (Asg_name 2 hfc k2) AsgL_nil))), Tests_nil, fun _ => ?_⟩
      dsimp only [List.replicate, List.length, List.set]
      exact Ev_fn 55 2 hG hfc (EvL_cons (by walk_at "m_go") (EvL_cons (by walk_at "m_go") (EvL_cons (by walk_at "m_go") EvL_nil))) (cl_told hG m.1 m.2.1 m.2.2 g1 (by omega) g4) (by decide) (hx := by rw [hc.sc]; rfl)
    rw [outs_all, List.length_map]
    have e4 : (List.range M.length).map (fun i => toldF (M.getD i (0, [], [])).1 (M.getD i (0, [], [])).2.1 (M.getD i (0, [], [])).2.2) = M.map fun m => .tuple [rowM m, .list ((tAll m.2.2).names.map pS)] := by
      rw [← outs_all (f := fun i => toldF (M.getD i (0, [], [])).1 (M.getD i (0, [], [])).2.1 (M.getD i (0, [], [])).2.2)]
      exact outs_list (f := fun m => toldF m.1 m.2.1 m.2.2) M
    rw [e4]
    dsimp only [List.set]
    refine Ex_assignT (ds := [.list (M.map rowM), .list ((placesF (piecesF x)).map pI)]) ((Ev_fn 56 4 hG hf (EvL_cons (Ev_itemL (i := ((j : Nat) : Int)) (by walk_at "m_go") (by walk_at "m_go") (by omega) (by omega) hlin) EvL_nil) (cl_read hG x (by omega) (by omega) hesc hpop) (by decide)).eq (by rw [eM, eP])) (AsgL_cons (Asg_name 8 hf l8) (AsgL_cons (Asg_name 9 hf l9) AsgL_nil)) ?_
    dsimp only [List.set]
    have lay2 : (PyData.list ((placesF (piecesF x)).map pI)).canLay0 = true := by
      rw [PyData.canLay0]; exact layAll_map _ _ fun _ _ => rfl
    refine Ex_if (c := false) ((Tr_cmp (by walk_at "m_go") (Ev_fn 53 1 hG hf (EvL_cons (Ev_itemL (i := ((j : Nat) : Int)) (by walk_at "m_go") (by walk_at "m_go") (by omega) (by omega) hrow) EvL_nil) (cl_places hG _ (by omega) p3) (by decide)) (op_neD lay2 lay2 ?_)).eq ?_) (fun h => by cases h) fun _ => ?_
    · have := depthAll_map pI 0 (placesF (piecesF x)) (fun x _ => Nat.le_refl 0)
      rw [PyData.depth]; omega
    · rw [SeqAt.eqv_refl _ lay2]; rfl
    dsimp only [List.append, List.cons_append, List.nil_append]
    have hrl : ∀ m ∈ M, (rowM m).canLay0 = true ∧ (rowM m).depth ≤ 1 := fun m hm => row_lay m fun p hp => (hM3 m hm p hp).2.2
    have lay3 : (PyData.list (M.map rowM)).canLay0 = true := by
      rw [PyData.canLay0]; exact layAll_map _ _ fun m hm => (hrl m hm).1
    generalize dL (X.map pS) = K0
    generalize dL (X.map fun x => .list ((piecesF x).map pS)) = K1
    generalize AV.dat (.list ((placesF (piecesF x)).map pI)) = K9
    have hDl : (M.map fun m => PyData.tuple [rowM m, .list ((tAll m.2.2).names.map pS)]).length = M.length := by simp
    refine Ex_if (c := false) ((Tr_cmp (a := dL (M.map rowM)) (b := dL (M.map rowM)) (by walk_at "m_go") ((Ev_compM [Str.ofString "row", Str.ofString "names"] [] [] (fun _ => true) (fun i => rowM (M.getD i (0, [], []))) hf (Itb_list (ds := M.map fun m => .tuple [rowM m, .list ((tAll m.2.2).names.map pS)]) (by walk_at "m_go")) (by omega) ?_).eq ?_) (op_neD lay3 lay3 ?_)).eq ?_) (fun h => by cases h) fun _ => ?_
    · intro Fc hc i hi
      have hi' : i < M.length := by omega
      have hfc := hc.fit
      have hdc := hc.dbg
      have k0 : Fc.locs[0]? = some (Str.ofString "row") := by rw [hc.locs]; rfl
      have k1 : Fc.locs[1]? = some (Str.ofString "names") := by rw [hc.locs]; rfl
      rw [getD_mapD (fun m => PyData.tuple [rowM m, .list ((tAll m.2.2).names.map pS)]) M (0, [], []) i hi']
      generalize M.getD i (0, [], []) = m
      refine ⟨_, Asg_tuple (ds := [rowM m, .list ((tAll m.2.2).names.map pS)]) (AsgL_cons (Asg_name 0 hfc k0) (AsgL_cons (Asg_name 1 hfc k1) AsgL_nil)), Tests_nil, fun _ => ?_⟩
      dsimp only [List.replicate, List.length, List.set]
      walk_at "m_go"
    · rw [hDl]; exact congrArg dL (outs_list (f := rowM) M)
    · have := depthAll_map rowM 1 M (fun m hm => (hrl m hm).2)
      rw [PyData.depth]; omega
    · rw [SeqAt.eqv_refl _ lay3]; rfl
    dsimp only [List.append, List.cons_append, List.nil_append]
    have hFn : ∀ l ∈ foldersF M, (∀ m ∈ l, okName m) ∧ l.length ≤ 33 ∧ ∀ m ∈ l, okS m = true := by
      intro l hl'
      obtain ⟨m, hm, rfl⟩ := List.mem_map.mp hl'
      have hm' := (List.mem_filter.mp hm).1
      refine ⟨(tinv_all m.2.2).names, ?_, tAll_okS m.2.2 fun p hp => (hM3 m hm' p hp).2.2⟩
      have := told_names_len m.2.2
      have := (hM1 m hm').2.1
      omega
    have hPn : ∀ q ∈ pathsF M, q.head? = some 47 ∧ q.length ≤ 1000 := by
      intro q hq
      obtain ⟨m, hm, rfl⟩ := List.mem_map.mp hq
      have hm' := (List.mem_filter.mp hm).1
      refine ⟨told_head m.2.2, ?_⟩
      have := told_len m.2.2
      have := (hM1 m hm').2.1
      omega
    have hFl : (foldersF M).length ≤ 32 := by
      unfold foldersF; rw [List.length_map]
      have := List.length_filter_le isDirM M
      omega
    have hPl : (pathsF M).length = (foldersF M).length := by simp [pathsF, foldersF]
    refine Ex_assignCs 2 hf rfl c2 (av := dL ((foldersF M).map fun l => .list (l.map pS))) ((Ev_compM [Str.ofString "row", Str.ofString "names"] [] [] (fun i => isDirM (M.getD i (0, [], []))) (fun i => .list ((tAll (M.getD i (0, [], [])).2.2).names.map pS)) hf (Itb_list (ds := M.map fun m => .tuple [rowM m, .list ((tAll m.2.2).names.map pS)]) (by walk_at "m_go")) (by omega) ?_).eq ?_) ?_ (sw_cel (by rfl))
    · intro Fc hc i hi
      have hi' : i < M.length := by omega
      have hfc := hc.fit
      have hdc := hc.dbg
      have k0 : Fc.locs[0]? = some (Str.ofString "row") := by rw [hc.locs]; rfl
      have k1 : Fc.locs[1]? = some (Str.ofString "names") := by rw [hc.locs]; rfl
      rw [getD_mapD (fun m => PyData.tuple [rowM m, .list ((tAll m.2.2).names.map pS)]) M (0, [], []) i hi']
      generalize M.getD i (0, [], []) = m
      refine ⟨_, Asg_tuple (ds := [rowM m, .list ((tAll m.2.2).names.map pS)]) (AsgL_cons (Asg_name 0 hfc k0) (AsgL_cons (Asg_name 1 hfc k1) AsgL_nil)), Tests_one ?_, fun _ => ?_⟩
      · dsimp only [List.replicate, List.length, List.set]
        exact Tr_val (a := dB (isDirM m)) (Ev_itemT (l := [pI m.1, pS (toldPath (tAll m.2.2)), pS (rowF (kindF m.2.1) (rightsT m.2.1 (offF (tAll m.2.2).figs).toNat)), .bool (kindF m.2.1 == [100])]) (i := 3) (j := 3) (by walk_at "m_go") (by walk_at "m_go") (by decide) (by decide) (by rfl) (by rfl)) OpT_bool
      · dsimp only [List.replicate, List.length, List.set]
        walk_at "m_go"
    · rw [hDl]
      have := outs_filter (f := fun m : Int × List Nat × List (List Nat) => PyData.list ((tAll m.2.2).names.map pS)) (p := isDirM) (d := (0, [], [])) M
      rw [this]
      unfold foldersF
      rw [List.map_map]; rfl
    dsimp only [List.set]
    have hFg : ∀ l ∈ foldersF M, (PyData.list (l.map pS)).canLay0 = true := fun l hl' => lay_strs l (hFn l hl').2.2
    have lay4 : (PyData.list ((foldersF M).map fun l => .list (l.map pS))).canLay0 = true := by
      rw [PyData.canLay0]; exact layAll_map _ _ hFg
    refine Ex_if (c := PyData.eqv (.list ((foldersF M).map fun l => .list (l.map pS))) (.list [])) (Tr_cmp (a := dL ((foldersF M).map fun l => .list (l.map pS))) (by walk_at "m_go") (Ev_list (ds := []) EvL_nil (by decide)) (op_eqD lay4 (by decide) ?_)) ?_ ?_
    · rw [PyData.depth, PyData.depth, PyData.depthAll]; omega
    · intro _
      dsimp only [List.append, List.cons_append, List.nil_append]
      exact Ex_ret (by walk_at "m_go") (.inl rfl)
    intro hnil
    dsimp only [List.append, List.cons_append, List.nil_append]
    have hFne : foldersF M ≠ [] := by
      intro h; rw [h] at hnil; cases hnil
    obtain ⟨n, hn⟩ := minLen_ex _ hFne
    have hn33 : n ≤ 33 := by
      obtain ⟨y, hy, rfl⟩ := hn.1
      exact (hFn y hy).2.1
    have hcl := common_law M hFne n hn
    have hlc := lawC_eq (foldersF M) hFne n hn
    have hcm := (cp_mem hFne).1
    refine Ex_assign 10 hf l10 (av := dL (([] : List (List Nat)).map pS)) (Ev_list (ds := []) EvL_nil (by decide)) ?_
    dsimp only [List.set]
    have hF0 : (foldersF M)[0]? = some ((foldersF M).headD []) := by
      cases h : foldersF M with
      | nil => exact absurd h hFne
      | cons a r => rfl
    have hhd : (foldersF M).headD [] ∈ foldersF M := List.mem_of_getElem? hF0
    have hPne : pathsF M ≠ [] := by
      intro h; rw [h] at hPl; exact hFne (List.length_eq_zero_iff.mp hPl.symm)
    have hPe : (M.filter isDirM).map (fun m => pS (toldPath (tAll m.2.2))) = (pathsF M).map pS := by unfold pathsF; rw [List.map_map]; rfl
    generalize dL (M.map fun m => .tuple [rowM m, .list ((tAll m.2.2).names.map pS)]) = K7
    clear lay4 hFg hnil
    generalize foldersF M = FL at hFn hFl hPl hFne hn hcl hlc hcm hF0 hhd ⊢
    generalize pathsF M = PL at hPn hPl hcl hPne hPe
    have hmin1 : (n : Int) ∈ FL.map fun l => (l.length : Int) := by
      obtain ⟨y, hy, rfl⟩ := hn.1
      exact List.mem_map.mpr ⟨y, hy, rfl⟩
    have hmin2 : ∀ a ∈ FL.map (fun l => (l.length : Int)), (n : Int) ≤ a := by
      intro a ha
      obtain ⟨y, hy, rfl⟩ := List.mem_map.mp ha
      have := hn.2 y hy
      omega
    have hFDl : (FL.map fun l => PyData.list (l.map pS)).length = FL.length := by simp
    refine Ex_forF (List.range n) (fun (k : Nat) => dI k) (lawStep FL) [] (fun c vs cs => (c.length ≤ 33) ∧ (∃ a, cs = [some (dL (ns.map pI)), a, some (dL (FL.map fun l => .list (l.map pS)))]) ∧ vs = [some K0, some K1, some K2, a0, b0, some K5, some (dI (j : Nat)), some K7, some (.dat (.list (M.map rowM))), some K9, some (dL (c.map pS))])
      rfl (Itb_range1 (m := n) (by walk_at "m_go") (Ev_callB (by walk_at "m_go") (EvL_cons ((Ev_compM [Str.ofString "names"] [] [] (fun _ => true) (fun i => pI ((FL.getD i []).length : Int)) hf (Itb_list (ds := FL.map fun l => .list (l.map pS)) (by walk_at "m_go")) (by omega) ?_).eq ?_) EvL_nil) (op_minL hmin1 hmin2)) (by omega)) (by simp) ?_ ⟨by simp, ⟨_, rfl⟩, rfl⟩ ?_ ?_
    · intro Fc hc i hi
      have hi' : i < FL.length := by omega
      have hfc := hc.fit
      have hdc := hc.dbg
      have k0 : Fc.locs[0]? = some (Str.ofString "names") := by rw [hc.locs]; rfl
      rw [getD_mapD (fun l => PyData.list (l.map pS)) FL [] i hi']
      have hl33 := (hFn _ (getD_mem' FL [] i hi')).2.1
      generalize FL.getD i [] = l at hl33 ⊢
      refine ⟨_, Asg_name 0 hfc k0, Tests_nil, fun _ => ?_⟩
      dsimp only [List.replicate, List.length, List.set]
      refine (Ev_callB (Ev_bin2 hG hfc bb_len bm_len bn_len (by rw [hc.sc]; rfl)) (EvL_cons (by walk_at "m_go") EvL_nil) (op_lenL (l := l.map pS) (by simp; omega))).eq ?_
      rw [List.length_map]
    · rw [hFDl, List.map_map]
      exact congrArg dL (outs_list (f := fun l : List (List Nat) => pI (l.length : Int)) FL)
    · intro i y hy
      have : y = i := by
        have h := (List.getElem?_eq_some_iff.mp hy)
        obtain ⟨h1, h2⟩ := h
        simpa using h2.symm
      rw [this]
    · rintro i k vs cs hq ⟨hcl0, ⟨a1, rfl⟩, rfl⟩
      have hk : k < n := by
        have := List.mem_of_getElem? hq
        simpa using this
      generalize ((List.range n).take i).foldl (lawStep FL) [] = c at hcl0
      refine ⟨_, _, Asg_nameC 1 hf rfl c1, ?_⟩
      dsimp only [List.set]
      have hh := hFn _ hhd
      have hitem : (FL.map fun l => PyData.list (l.map pS))[((0 : Nat) : Int).toNat]? = some (.list ((FL.headD []).map pS)) := by
        show (FL.map fun l => PyData.list (l.map pS))[0]? = _
        rw [List.getElem?_map, hF0]; rfl
      have htk : ∀ l : List (List Nat), (∀ m ∈ l, okS m = true) → (PyData.list ((l.map pS).take (k + 1))).canLay0 = true := fun l hl => by
        rw [← List.map_take]; exact lay_strs _ fun m hm => hl m (List.mem_of_mem_take hm)
      refine Ex_if (c := ((FL.filter fun z => !(z.take (k + 1) == (FL.headD []).take (k + 1))).length : Int) == 0) (Tr_cmp (Ev_callB (by walk_at "m_go") (EvL_cons ((Ev_compM [Str.ofString "names"] [Str.ofString "k", Str.ofString "folders"] [some (dI k), some (dL (FL.map fun l => .list (l.map pS)))] (fun i => !((FL.getD i []).take (k + 1) == (FL.headD []).take (k + 1))) (fun i => .list ((FL.getD i []).map pS)) hf (Itb_list (ds := FL.map fun l => .list (l.map pS)) (by walk_at "m_go")) (by omega) ?_ (hcs := ?_)).eq ?_) EvL_nil) ((op_lenL (l := (FL.filter fun z => !(z.take (k + 1) == (FL.headD []).take (k + 1))).map fun l => PyData.list (l.map pS)) ?_))) (by walk_at "m_go") ?_) ?_ ?_
      · intro Fc hc i' hi
        have hi' : i' < FL.length := by omega
        have hfc := hc.fit
        have hdc := hc.dbg
        have k0 : Fc.locs[0]? = some (Str.ofString "names") := by rw [hc.locs]; rfl
        have k1 : Fc.cels[0]? = some (Str.ofString "k") := by rw [hc.cels]; rfl
        have k2 : Fc.cels[1]? = some (Str.ofString "folders") := by rw [hc.cels]; rfl
        rw [getD_mapD (fun l => PyData.list (l.map pS)) FL [] i' hi']
        obtain ⟨f1, f2, f3⟩ := hFn _ (getD_mem' FL [] i' hi')
        generalize FL.getD i' [] = l at f1 f2 f3 ⊢
        refine ⟨_, Asg_name 0 hfc k0, Tests_one ?_, fun _ => ?_⟩
        · dsimp only [List.replicate, List.length, List.set]
          refine (Tr_cmp (Ev_toL (l := l.map pS) (k + 1) (by walk_at "m_go") (Ev_BinOp (by walk_at "m_go") (by walk_at "m_go") op_add) (by rw [List.length_map]; omega)) (Ev_toL (l := (FL.headD []).map pS) (k + 1) (Ev_itemL (l := FL.map fun l => .list (l.map pS)) (i := ((0 : Nat) : Int)) (by walk_at "m_go") (by walk_at "m_go") (by decide) (by decide) hitem) (Ev_BinOp (by walk_at "m_go") (by walk_at "m_go") op_add) (by rw [List.length_map]; omega)) (op_neD (htk l f3) (htk _ hh.2.2) ?_)).eq ?_
          · have := depth_strs (l.take (k + 1))
            rw [List.map_take] at this
            omega
          · rw [← List.map_take, ← List.map_take, eqv_strL]
        · dsimp only [List.replicate, List.length, List.set]
          walk_at "m_go"
      · intro q x' av h1 h2
        match q with
        | 0 => cases h1; cases h2; exact ⟨1, c1, rfl⟩
        | 1 => cases h1; cases h2; exact ⟨2, c2, rfl⟩
        | q + 2 => cases h1
      · rw [hFDl]
        exact congrArg dL (outs_filter (f := fun l : List (List Nat) => PyData.list (l.map pS)) (p := fun z => !(z.take (k + 1) == (FL.headD []).take (k + 1))) (d := []) FL)
      · rw [List.length_map]
        have := List.length_filter_le (fun z => !(z.take (k + 1) == (FL.headD []).take (k + 1))) FL
        omega
      · rw [List.length_map]; exact op_eq
      · intro ht0
        have e0 : lawStep FL c k = (FL.headD []).take (k + 1) := by
          unfold lawStep; rw [if_pos (by simpa using ht0)]
        rw [e0]
        refine Ex_assign 10 hf l10 (Ev_toL (l := (FL.headD []).map pS) (k + 1) (Ev_itemL (l := FL.map fun l => .list (l.map pS)) (i := ((0 : Nat) : Int)) (by walk_at "m_go") (by walk_at "m_go") (by decide) (by decide) hitem) (Ev_BinOp (by walk_at "m_go") (by walk_at "m_go") op_add) (by rw [List.length_map]; omega)) ?_
        dsimp only [List.set]
        refine Ex_nil ⟨?_, ⟨_, rfl⟩, ?_⟩
        · rw [List.length_take]; omega
        · rw [List.map_take]
      · intro ht0
        have e0 : lawStep FL c k = c := by
          unfold lawStep; rw [if_neg (by simpa using ht0)]
        rw [e0]
        exact Ex_nil ⟨hcl0, ⟨_, rfl⟩, rfl⟩
    · rintro vs cs ⟨hc33, ⟨a1, rfl⟩, rfl⟩
      change (lawC FL n).length ≤ 33 at hc33
      show Ex _ _ _ _ _ [_, _, _, _, _, _, _, _, _, _, some (dL ((lawC FL n).map pS))] _ _ _
      have hw1 := wgt_lcp (cpM FL) (cpX FL)
      rw [← hlc, wgt_ok _ (hFn _ hcm).1] at hw1
      have hw2 := (hFn _ hcm).2.1
      have hj1 := jn_len (lawC FL n)
      have hk : wgt (lawC FL n) ≤ 16777216 := by omega
      refine Ex_ret ((Ev_cmp (Ev_fn 22 8 hG hf (EvL_cons ((Ev_compM [Str.ofString "row"] [] [] (fun i => isDirM (M.getD i (0, [], []))) (fun i => pS (toldPath (tAll (M.getD i (0, [], [])).2.2))) hf (Itb_list (ds := M.map rowM) (by walk_at "m_go")) (by simp; omega) ?_).eq ?_) EvL_nil) (cl_common hG PL hPne (by omega) hPn) (by decide)) (Ev_BinOp (a := dS [47]) (b := dS (jn [47] (lawC FL n))) (Ev_strS _ (by rfl)) (Ev_methS (x := [47]) (Ev_strS _ (by rfl)) PySem.F.slot_str_join PySem.F.type_str_join (EvL_cons (by walk_at "m_go") EvL_nil) (op_join (ts := lawC FL n) ?_)) (op_cat ?_)) op_eqS).eq ?_) (.inl rfl)
      · intro Fc hc i hi
        have hi' : i < M.length := by simpa using hi
        have hfc := hc.fit
        have hdc := hc.dbg
        have k0 : Fc.locs[0]? = some (Str.ofString "row") := by rw [hc.locs]; rfl
        rw [getD_mapD rowM M (0, [], []) i hi']
        generalize M.getD i (0, [], []) = m
        refine ⟨_, Asg_name 0 hfc k0, Tests_one ?_, fun _ => ?_⟩
        · dsimp only [List.replicate, List.length, List.set]
          exact Tr_val (a := dB (isDirM m)) (Ev_itemT (l := [pI m.1, pS (toldPath (tAll m.2.2)), pS (rowF (kindF m.2.1) (rightsT m.2.1 (offF (tAll m.2.2).figs).toNat)), .bool (kindF m.2.1 == [100])]) (i := 3) (j := 3) (by walk_at "m_go") (by walk_at "m_go") (by decide) (by decide) (by rfl) (by rfl)) OpT_bool
        · dsimp only [List.replicate, List.length, List.set]
          exact Ev_itemT (l := [pI m.1, pS (toldPath (tAll m.2.2)), pS (rowF (kindF m.2.1) (rightsT m.2.1 (offF (tAll m.2.2).figs).toNat)), .bool (kindF m.2.1 == [100])]) (i := 1) (j := 1) (by walk_at "m_go") (by walk_at "m_go") (by decide) (by decide) (by rfl) (by rfl)
      · rw [List.length_map, ← hPe]
        exact congrArg dL (outs_filter (f := fun m : Int × List Nat × List (List Nat) => pS (toldPath (tAll m.2.2))) (p := isDirM) (d := (0, [], [])) M)
      · exact Nat.le_trans (Nat.le_of_eq (congrArg (fun z => ((lawC FL n).map (·.length)).sum + z) (Nat.mul_one _))) hk
      · simp; omega
      · rw [hcl]; simp
end
end Mine
end
set_option Elab.async false
set_option linter.unusedVariables false
set_option maxRecDepth 100000
set_option maxHeartbeats 8000000
namespace Mine
noncomputable def recIdx : List Nat := [2, 3, 4, 5, 14, 18, 19, 20, 21, 22, 24, 25, 33, 47, 49, 50, 51, 52, 53, 54, 55, 56, 57]
theorem recs_eq : recsOf qv = recIdx.map recAt := by kernel_rfl
theorem free_all : ∀ x ∈ biNames, x ∉ startupNames ∧ x ∉ looseW qv looseL ∧ x ∉ (recsOf qv).map (·.name) ∧ x ∉ (litsOf qv).map (·.1) ∧ x ∉ (clssOf qv (looseW qv looseL)).map (·.name) := by
  decide +kernel
theorem dir_val : valOf qv (Str.ofString "S_IFDIR") = some (.int 16384) := by kernel_rfl
theorem rep_of_reads {h : Heap} {v : Value} {d : PyData} {as : List Addr} (r : Reads h v d as) : as = [] → Rep h.get? v d :=
  Reads.rec (motive_1 := fun v d as _ => as = [] → Rep h.get? v d) (motive_2 := fun vs ds as _ => as = [] → RepAll h.get? vs ds) (fun _ => .none) (fun b _ => .bool b) (fun i t _ => .int i t) (fun x t _ => .str x t)
    (fun _ _ _ _ _ e => nomatch e) (fun h1 h2 h3 _ ih e => .tuple h1 h2 h3 (ih e)) (fun _ _ _ _ _ _ _ e => nomatch e) (fun _ => .nil) (fun _ _ i1 i2 e => .cons (i1 (List.append_eq_nil_iff.mp e).1) (i2 (List.append_eq_nil_iff.mp e).2)) r
theorem tab_eq : tabW = ofPy tabD := by rfl
theorem ints_items (R : WRecords) : ∀ xs : List WData, WShape.hasItems R xs .int = true → ∃ ns : List Int, xs = ns.map WData.int
  | [], _ => ⟨[], rfl⟩
  | x :: xs, h => by
    rw [WShape.hasItems, Bool.and_eq_true] at h
    obtain ⟨ns, rfl⟩ := ints_items R xs h.2
    have h1 := h.1
    cases x with
    | int i => exact ⟨i :: ns, rfl⟩
    | _ => exact absurd (show false = true from h1) (by decide)
theorem rep_ints {R : WRecords} {cl : Str → Option Addr} {h : Heap} (ns : List Int) : ∀ {vs : List Value} {as : List Addr}, ReadsAllW R cl h vs (ns.map WData.int) as → RepAll h.get? vs (ns.map pI) := by
  induction ns with
  | nil => intro vs as r; rw [(readsAllW_nil_inv r).1]; exact .nil
  | cons n ns ih =>
    intro vs as r
    obtain ⟨v, vs, a1, a2, rfl, _, r1, r2⟩ := readsAllW_cons_inv r
    obtain ⟨t, rfl, _⟩ := readsW_int_inv r1
    exact .cons (.int _ _) (ih r2)
theorem script_rep {R : WRecords} {cl : Str → Option Addr} {h : Heap} {P : Params} {vals : List Value} {as : List Addr} {ns : List Int} (r : ReadsAllW R cl h vals [.list (ns.map WData.int)] as) (w : WellAll P h vals [.list (ns.map WData.int)]) :
    ∃ v, vals = [v] ∧ Rep h.get? v (.list (ns.map pI)) := by
  obtain ⟨v, vs, a1, a2, rfl, _, r1, r2⟩ := readsAllW_cons_inv r
  rw [(readsAllW_nil_inv r2).1] at w ⊢
  obtain ⟨a, items, as', rfl, hl, ri, _⟩ := readsW_list_inv r1
  have w1 := (wellAll_head w).1
  refine ⟨_, rfl, ?_⟩
  obtain ⟨o, ho, hc, n, hd⟩ := hl
  refine Rep.list ho hc hd ?_ (rep_ints ns ri)
  cases w1 with
  | list hobj _ => rw [hobj] at ho; cases ho; rfl
theorem script_of {args : List WData} (hpre : rowL.toRowW.claim.pre args = true) : ∃ ns : List Int, args = [.list (ns.map WData.int)] ∧ ns.length ≤ 63 := by
  have h1 : (WShape.hasAll [] args [.list .int] && WTm.holds [] rowL.toRowW.pre { args := args }) = true := hpre
  rw [Bool.and_eq_true] at h1
  obtain ⟨h1, h2⟩ := h1
  match args, h1, h2 with
  | [], h1, _ => cases h1
  | [d], h1, h2 =>
    rw [WShape.hasAll, Bool.and_eq_true] at h1
    have h3 := h1.1
    cases d with
    | list xs =>
      have h4 : WShape.hasItems [] xs .int = true := by
        have h5 : (WShape.hasItems [] xs .int || false) = true := h3
        rwa [Bool.or_false] at h5
      obtain ⟨ns, rfl⟩ := ints_items [] xs h4
      refine ⟨ns, rfl, ?_⟩
      have h5 : rowL.toRowW.pre = .and (.not (.lt (.lit (.int 63)) (.len (.arg 0)))) (.lit (.bool true)) := rfl
      rw [h5] at h2
      have h6 := (holds_andW h2).1
      have h7 := condW_of h6 (by wtm_val)
      simp at h7
      omega
    | _ => exact absurd (show false = true from h3) (by decide)
  | a :: b :: r, h1, _ =>
    rw [WShape.hasAll, WShape.hasAll] at h1
    simp at h1
noncomputable abbrev laidG (s : Shared) (mg mb : Str → Option Value) : Glo := { h := s.heap, os := s.os, mg := mg, mb := mb, gd := s.heap.get? }
theorem fn_of {w : World} {s₀ s₁ : Shared} {mg mb : Str → Option Value} (G : Ground qv looseL rowL.toRowW.records (XL qv lvL) w s₀ mg mb s₁.heap) (k : Nat) (hk : k ∈ recIdx) : ∃ a, FnK (laidG s₁ mg mb) k a := by
  have hm : recAt k ∈ recsOf qv := by
    rw [recs_eq]; exact List.mem_map_of_mem hk
  obtain ⟨a, o, pm, cd, doc, h1, h2, h3, h4⟩ := G.T.fn _ hm
  exact ⟨a, h1, o, pm, cd, doc, h2, h3, h4⟩
theorem gd_of {w : World} {s₀ s₁ : Shared} {mg mb : Str → Option Value} (G : Ground qv looseL rowL.toRowW.records (XL qv lvL) w s₀ mg mb s₁.heap) : Gd (laidG s₁ mg mb) where
  ok := ⟨G.T.g, G.T.b, G.T.builtins, G.T.nolimit⟩
  fn := fun k hk => fn_of G k ((by decide : fnIdx ⊆ recIdx) hk)
  free := fun x hx => G.T.free x (free_all x hx).1 (free_all x hx).2.1 (free_all x hx).2.2.1 (free_all x hx).2.2.2.1 (free_all x hx).2.2.2.2
  dir := by
    obtain ⟨v, h1, h2⟩ := G.T.const _ _ dir_val
    cases h2 s₁.heap
    exact ⟨_, h1⟩
  tab := by
    obtain ⟨v, h1, h2⟩ := G.X.2.val (Str.ofString "_filemode_table", tabW) (by unfold lvL; simp)
    have h2 : ReadsW _ _ _ v tabW [] := h2
    rw [tab_eq] at h2
    exact ⟨v, h1, rep_of_reads (reads_of_readsW tabD h2) rfl⟩
theorem law_good {s₁ s' : Shared} {v : Value} {ns : List Int} {cl : Str → Option Addr} {mean : ExcName → Option Value} (hg : s₁.gens = #[]) (h : Got s₁ s₁.heap.get? (dB true) v s') :
    GoodWG rowL.toRowW.claim cl mean [.list (ns.map WData.int)] s₁ (.ok (.ret v)) s' := by
  obtain ⟨g, G', x, hok⟩ := h
  obtain rfl := Rep.inv_bool hok
  refine ⟨.inl ⟨.bool true, .bool true, [], rfl, fun _ => rfl, .bool true, ?_, fun _ => ⟨.nil, fun _ h => by cases h⟩⟩, .of_keep g.keep, g.os, g.bare (by rw [hg]; exact .of_eq rfl)⟩
  have hp1 : rowL.toRowW.returns = .bool := rfl
  have hp2 : rowL.toRowW.post = .eq .res (.lit (.bool true)) := rfl
  exact postW_of (r := rowL.toRowW) (by rw [hp1]; wrow_shape) (by rw [hp2]; wtm_val) (by w_fin)
theorem law_walk : WalkO qv looseL (XL qv lvL) (fun _ _ => True) rowL.toRowW (recAt 57) [] fun f vs => PySem.call f vs := by
  intro w s₀ s₁ mg mb G Y fa o pm cd doc dV kV ho hd hcd hD hmg hg args vals as hpre hlay hrd hwl hlo
  clear Y ho hd hcd hD hlay hlo
  obtain ⟨ns, rfl, hns⟩ := script_of hpre
  obtain ⟨v, rfl, hv⟩ := script_rep hrd hwl
  obtain ⟨a', hfn⟩ := fn_of G 57 (by decide)
  obtain rfl : fa = a' := by have e : mg (recAt 57).name = some (.ref a') := hfn.glob; rw [e] at hmg; cases hmg; rfl
  exact wpAny_mono (cl_law (w := w) (gd_of G) ns hns fa hfn callerA s₁.heap.get? s₁ (fun _ _ => False) [v] ⟨rfl, by decide, by decide⟩ ⟨fun _ _ e => e, rfl, by rw [hg]; exact .of_eq rfl, fun _ _ e => e, .refl _⟩
    (.cons hv .nil)) (fun v s' h => law_good hg h) fun _ _ x => x.elim
end Mine
set_option maxRecDepth 100000 in
set_option maxHeartbeats 8000000 in
theorem PySem.Challenge.cw_qw0066_01_holds : PySem.Challenge.rw_qw0066_01.Holds :=
  Mine.holds_of Mine.law_walk
