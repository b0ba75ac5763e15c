import PyProof.Rows.All
import Wide.All
import OpenK.AllK
import Wide.FinOn
import KE.KPairTest
import Lean
import PySem.Challenge.RW_ki0082_01
set_option Elab.async false
set_option maxRecDepth 100000
section partM1
open PySem PySem.W PyProof.Rows PySem.Calls
set_option Elab.async false
set_option maxRecDepth 100000
namespace Mine

abbrev pw : Program := PySem.Challenge.pw_ki0082_01

def isDef : Stmt → Bool
  | .FunctionDef .. => true
  | _ => false
/-- the text's defs alone -/
def qv : Program := { pw with main := { pw.main with body := pw.main.body.filter isDef } }
def rec' (i : Nat) : DefRec := (recsOf qv).getD i ⟨"", ⟨[], [], none, [], [], none, []⟩, [], ⟨.module, [], false, false, []⟩, default⟩

theorem recs_len : (recsOf qv).length = 11 := by decide +kernel
theorem rec_mem (i : Nat) (h : i < 11) : rec' i ∈ recsOf qv := by
  have h' : i < (recsOf qv).length := by rw [recs_len]; exact h
  have : rec' i = (recsOf qv)[i] := by
    unfold rec'
    rw [List.getD_eq_getElem?_getD, List.getElem?_eq_getElem h']
    rfl
  rw [this]
  exact List.getElem_mem h'

/-- the heap grows: all that stood stands -/
def Keeps (h h' : Heap) : Prop := ∀ b o, h.get? b = some o → h'.get? b = some o
theorem Keeps.refl (h : Heap) : Keeps h h := fun _ _ e => e
theorem Keeps.trans {h h' h'' : Heap} (a : Keeps h h') (b : Keeps h' h'') : Keeps h h'' := fun x o e => b x o (a x o e)

def inPairs (ps : List (Int × Int)) (n : Int) : Bool := ps.any fun p => decide (p.1 ≤ n) && decide (n ≤ p.2)

def planes (n : Nat) : List (Int × Int) := (List.range n).map fun (p : Nat) => (65536 * (p : Int) + 65534, 65536 * (p : Int) + 65535)
def tab0 : List (Int × Int) := [(173, 173), (847, 847), (6150, 6150), (6155, 6157), (8203, 8205), (8288, 8288), (65024, 65039), (65279, 65279)]
def tab1 : List (Int × Int) := [(32, 32)]
def tab2 : List (Int × Int) := [(64976, 65007)] ++ planes 17
def tab3 : List (Int × Int) := [(65529, 65533)]
def tab4 : List (Int × Int) := [(12272, 12283)]
def tab5 : List (Int × Int) := [(832, 833), (8206, 8207), (8234, 8238), (8298, 8303)]
def tab6 : List (Int × Int) := [(917505, 917505), (917536, 917631)]
def theTabs : List (List (Int × Int)) := [tab0, tab1, tab2, tab3, tab4, tab5, tab6]
def theSets : List (Str × (Int → Bool)) := [("b1_set", inPairs tab0), ("c6_set", inPairs tab3), ("c7_set", inPairs tab4), ("c8_set", inPairs tab5), ("c9_set", inPairs tab6)]

/-- what the walk knows of the module's top -/
structure Gd (w : World) (mg mb : Str → Option Value) (h : Heap) : Prop where
  g : h.Ns mainGlobals mg
  b : h.Ns builtinsNs mb
  nolimit : h.NoLimit
  fn : ∀ d ∈ recsOf qv, ∃ a o pm code doc, mg d.name = some (.ref a) ∧ h.get? a = some o ∧ o.data = .func (docDef d.name d.params d.body d.scope pm code doc) ∧ h.CodeRec code d.name
  blt : ∀ x : Str, x ≠ "__name__" → mb x = bootBuiltins x
  free : ∀ x ∈ (["ord", "chr", "len", "range", "isinstance", "bool"] : List Str), mg x = none
  set : ∀ x S, (x, S) ∈ theSets → ∃ a n, mg x = some (.ref a) ∧ h.SetOf (intKind pw w) a S n
theorem Gd.keeps {w : World} {mg mb : Str → Option Value} {h h' : Heap} (G : Gd w mg mb h) (k : Keeps h h') : Gd w mg mb h' where
  g := G.g.keeps k
  b := G.b.keeps k
  nolimit := G.nolimit.keeps k
  fn := fun d hd => let ⟨a, o, pm, code, doc, h1, h2, h3, h4⟩ := G.fn d hd; ⟨a, o, pm, code, doc, h1, k _ _ h2, h3, h4.keeps k⟩
  blt := G.blt
  free := G.free
  set := fun x S hx => let ⟨a, n, h1, o, es, ep, t, h2, r⟩ := G.set x S hx; ⟨a, n, h1, o, es, ep, t, k _ _ h2, r⟩

section
variable {w : World} {mg mb : Str → Option Value} {A : Around} {E : Value → Shared → Prop} {s : Shared} {Q : Value → Shared → Prop} {env : Env}

theorem ev_glob {x : Str} {pos : Pos} {v : Value} (G : Gd w mg mb s.heap) (hv : mg x = some v) (h : Q v s) (hg : env.globals = mainGlobals := by rfl)
    (hk : env.scope.kind = .function := by rfl) (hx : env.kindOf x = some .globalImplicit := by rfl) (hd : (x == ("__debug__" : Str)) = false := by decide) :
    wpAny (model pw w) A (eval (.Name x pos) env) Q E s :=
  Name_function_global hk hx (loadGlobal_global (by rw [hg]; exact G.g) hv h) hd
theorem ev_blt {x : Str} {pos : Pos} {v : Value} (G : Gd w mg mb s.heap) (hf : x ∈ (["ord", "chr", "len", "range", "isinstance", "bool"] : List Str)) (hv : bootBuiltins x = some v) (h : Q v s)
    (hg : env.globals = mainGlobals := by rfl) (hb : env.builtins = builtinsNs := by rfl)
    (hk : env.scope.kind = .function := by rfl) (hx : env.kindOf x = some .globalImplicit := by rfl) (hd : (x == ("__debug__" : Str)) = false := by decide) (hn : x ≠ "__name__" := by decide) :
    wpAny (model pw w) A (eval (.Name x pos) env) Q E s :=
  Name_function_global hk hx (loadGlobal_builtin (by rw [hg]; exact G.g) (G.free x hf) (by rw [hb]; exact G.b) ((G.blt x hn).trans hv) h) hd

theorem b_ord : bootBuiltins "ord" = some (.builtin "ord") := by decide +kernel
theorem b_chr : bootBuiltins "chr" = some (.builtin "chr") := by decide +kernel


theorem call_def {d : DefRec} {a : Addr} {vals : List Value} {binds : List (Str × Value)} (G : Gd w mg mb s.heap) (hm : d ∈ recsOf qv) (hA : A.depth < recursionLimit) (ha : mg d.name = some (.ref a))
    (hbind : ∀ pm code doc, bindArgs (docDef d.name d.params d.body d.scope pm code doc) ⟨vals, []⟩ = pure binds)
    (h : ∀ cd h₁, Fr s.heap s.heap.objs.size h₁ (fun x => binds.reverse.lookup x) → Gd w mg mb h₁ →
      wpAny (model pw w) (A.deeper (envOf d.name d.scope s.heap.objs.size a cd)) (execs d.body (envOf d.name d.scope s.heap.objs.size a cd))
        (fun f s' => Q (match f with | .ret v => v | _ => .none) s') (fun _ _ => False) { s with heap := h₁, toks := s.toks + binds.length })
    (hloc : (binds.all fun x => decide (d.scope.names.lookup x.1 = some .local)) = true := by kernel_rfl)
    (hco : d.scope.isCoroutine = false := by rfl) (hgen : d.scope.isGenerator = false := by rfl) (hk : d.scope.kind = .function := by rfl)
    (hcell : ∀ x ∈ d.scope.names, x.2 ≠ .cell := by decide +kernel) : wpAny (model pw w) A (call (.ref a) vals) Q E s := by
  obtain ⟨a', o, pm, code, doc, h1, h2, h3, h4⟩ := G.fn d hm
  obtain rfl : a' = a := by rw [h1] at ha; injection ha with e; injection e
  exact wpAny_call (call_plain_ret hA h2 h3 G.nolimit h4 (hbind pm code doc) (locs hloc) (fun h₁ F => h code h₁ F (G.keeps F.keep)) hco hgen hk hcell)

/-- a def that hands back whether its letter's number lies in a set of the top's -/
theorem in_set {d : DefRec} {a sa : Addr} {sn : Str} {S : Int → Bool} {n k : Nat} {t : Tok} {p1 p2 p3 p4 p5 p6 : Pos} (G : Gd w mg mb s.heap) (hm : d ∈ recsOf qv) (hA : A.depth < recursionLimit) (ha : mg d.name = some (.ref a))
    (hs : mg sn = some (.ref sa)) (hS : s.heap.SetOf (intKind pw w) sa S n)
    (hb : d.body = [.Return (some (.Compare (.Call (.Name "ord" p1) [.Name "code" p2] [] p3) [.In] [.Name sn p4] p5)) p6])
    (hbind : ∀ pm code doc v, bindArgs (docDef d.name d.params d.body d.scope pm code doc) ⟨[v], []⟩ = pure [(("code" : Str), v)])
    (hsc : (decide (d.scope.kind = .function) && decide (d.scope.names.lookup ("code" : Str) = some .local) && decide (d.scope.names.lookup ("ord" : Str) = some .globalImplicit) && decide (d.scope.names.lookup sn = some .globalImplicit)
      && decide (d.scope.isCoroutine = false) && decide (d.scope.isGenerator = false) && d.scope.names.all fun x => decide (x.2 ≠ .cell)) = true)
    (hdb : (sn == ("__debug__" : Str)) = false)
    (h : ∀ h' tk, Keeps s.heap h' → Q (.bool (S k)) { s with heap := h', toks := tk }) : wpAny (model pw w) A (call (.ref a) [.str ⟨#[k]⟩ t]) Q E s := by
  simp only [Bool.and_eq_true, decide_eq_true_eq, List.all_eq_true] at hsc
  obtain ⟨⟨⟨⟨⟨⟨c1, c2⟩, c3⟩, c4⟩, c5⟩, c6⟩, c7⟩ := hsc
  refine call_def G hm hA ha (fun pm code doc => hbind pm code doc _) (fun cd h₁ F G₁ => ?_) (by simp [c2]) c5 c6 c1 c7
  rw [hb]
  refine wpAny_execs_cons (wpAny_Return_some (wpAny_Compare1 (Call_ (ev_blt G₁ (by decide) b_ord ?_ rfl rfl c1 (by exact c3)))))
  refine PyProof.Rows.callWith_builtin1 (wpAny_items_cons (ld F (by rfl) ?_ c1 (by exact c2)))
  refine wpAny_items_nil (P.ord_of_char ?_)
  refine ev_glob (G₁.keeps (Keeps.refl _)) hs ?_ rfl c1 (by exact c4) hdb
  have hS₁ : h₁.SetOf (intKind pw w) sa S n := by
    obtain ⟨o, es, ep, tb, ho, rest⟩ := hS
    exact ⟨o, es, ep, tb, F.keep _ _ ho, rest⟩
  refine wpAny_inSet_of (intKind_is pw w k _) rfl hS₁ ?_
  exact h _ _ F.keep

end
end Mine

end partM1

section partM2
open PySem PySem.W PyProof.Rows PySem.Calls
set_option Elab.async false
set_option maxRecDepth 100000
namespace Mine
section
variable {w : World} {mg mb : Str → Option Value} {A : Around} {E : Value → Shared → Prop} {s : Shared} {Q : Value → Shared → Prop} {env : Env}

theorem sp_eq (k : Nat) : ((⟨#[k]⟩ : Str) == ("\u0020" : Str)) = decide (k = 32) := by
  have e : ("\u0020" : Str) = ⟨#[32]⟩ := by decide +kernel
  rw [e, Bool.eq_iff_iff, beq_iff_eq, decide_eq_true_eq]
  constructor
  · intro h; injection h with h; simpa using h
  · rintro rfl; rfl

theorem in_c11 {a : Addr} {k : Nat} {t : Tok} (G : Gd w mg mb s.heap) (hA : A.depth < recursionLimit) (ha : mg "in_table_c11" = some (.ref a))
    (h : ∀ h' tk, Keeps s.heap h' → Q (.bool (decide (k = 32))) { s with heap := h', toks := tk }) : wpAny (model pw w) A (call (.ref a) [.str ⟨#[k]⟩ t]) Q E s := by
  refine call_def (d := rec' 1) (binds := [(("code" : Str), .str ⟨#[k]⟩ t)]) G (rec_mem 1 (by decide)) hA ha (fun pm code doc => by rfl) (fun cd h₁ F G₁ => ?_)
  refine wpAny_execs_cons (wpAny_Return_some (wpAny_Compare1 (ld F (by rfl) ?_)))
  refine Constant_str (PyProof.Rows.eq_str ?_)
  rw [show ((⟨#[k]⟩ : Str) == _) = _ from sp_eq k]
  exact h _ _ F.keep

/-- the fourth table's word, of a number from 0 on -/
def c4 (k : Nat) : Bool := if k < 64976 then false else if k < 65008 then true else decide (k % 65536 = 65534) || decide (k % 65536 = 65535)

def isInt (n : Int) (y : Value) : Bool := match y with | .int i _ => i == n | _ => false
theorem c4_end (k : Nat) (t u : Tok) (hk : 65008 ≤ k) : ([Value.int 65534 t, .int 65535 u].toArray.any (isInt (Builtin.bitAnd k 65535))) = c4 k := by
  have hb : Builtin.bitAnd (k : Int) 65535 = ((k % 65536 : Nat) : Int) := by
    rw [bitAnd_pp (by omega) (by decide)]
    rw [show ((65535 : Int).toNat) = 2 ^ 16 - 1 from rfl, Int.toNat_natCast, Nat.and_two_pow_sub_one_eq_mod]
  rw [hb]
  unfold c4
  rw [if_neg (by omega), if_neg (by omega)]
  simp only [List.any_toArray, List.any_cons, List.any_nil, Bool.or_false, isInt]
  rw [Bool.eq_iff_iff]
  simp only [Bool.or_eq_true, beq_iff_eq, decide_eq_true_eq]
  omega

theorem in_c4 {a : Addr} {k : Nat} {t : Tok} (G : Gd w mg mb s.heap) (hA : A.depth < recursionLimit) (ha : mg "in_table_c4" = some (.ref a))
    (h : ∀ h' tk, Keeps s.heap h' → Q (.bool (c4 k)) { s with heap := h', toks := tk }) : wpAny (model pw w) A (call (.ref a) [.str ⟨#[k]⟩ t]) Q E s := by
  refine call_def (d := rec' 2) (binds := [(("code" : Str), .str ⟨#[k]⟩ t)]) G (rec_mem 2 (by decide)) hA ha (fun pm code doc => by rfl) (fun cd h₁ F G₁ => ?_)
  refine wpAny_execs_cons (wpAny_Assign_Name (Call_ (ev_blt G₁ (by decide) b_ord ?_)))
  refine PyProof.Rows.callWith_builtin1 (wpAny_items_cons (ld F (by rfl) ?_))
  refine wpAny_items_nil (P.ord_of_char ?_)
  refine st F fun h₂ F₂ => ?_
  refine wpAny_execs_cons (wpAny_If (wpAny_isTrue_Compare1 (ld F₂ (by rfl) ?_)))
  refine wpAny_Constant_int (PyProof.Rows.lt_int (wpAny_truthy_bool ?_))
  have hQ : ∀ (b : Bool) (f : Flow) (s' : Shared), b = c4 k → f = .ret (.bool b) → (∃ h' tk, s' = { s with heap := h', toks := tk } ∧ Keeps s.heap h') → Q (match f with | .ret v => v | _ => .none) s' := by
    rintro b f s' rfl rfl ⟨h', tk, rfl, hk⟩
    exact h h' tk hk
  cases c1 : decide ((k : Int) < 64976) with
  | true =>
    refine wpAny_execs_cons (wpAny_Return_some (wpAny_Constant_bool ?_))
    have c1 := of_decide_eq_true c1
    exact hQ false _ _ (by unfold c4; rw [if_pos (by omega)]) rfl ⟨_, _, rfl, F₂.keep⟩
  | false =>
  have c1 := of_decide_eq_false c1
  refine wpAny_execs_nil ?_
  refine wpAny_execs_cons (wpAny_If (wpAny_isTrue_Compare1 (ld F₂ (by rfl) ?_)))
  refine wpAny_Constant_int (PyProof.Rows.lt_int (wpAny_truthy_bool ?_))
  cases c2 : decide ((k : Int) < 65008) with
  | true =>
    refine wpAny_execs_cons (wpAny_Return_some (wpAny_Constant_bool ?_))
    have c2 := of_decide_eq_true c2
    exact hQ true _ _ (by unfold c4; rw [if_neg (by omega), if_pos (by omega)]) rfl ⟨_, _, rfl, F₂.keep⟩
  | false =>
  have c2 := of_decide_eq_false c2
  refine wpAny_execs_nil ?_
  refine wpAny_execs_cons (wpAny_Return_some (wpAny_Compare1 (wpAny_BinOp (Call_ (ev_blt (G.keeps F₂.keep) (by decide) b_ord ?_)))))
  refine PyProof.Rows.callWith_builtin1 (wpAny_items_cons (ld F₂ (by rfl) ?_))
  refine wpAny_items_nil (P.ord_of_char ?_)
  refine wpAny_Constant_int (and_int ?_)
  refine wpAny_Tuple (wpAny_items_cons (wpAny_Constant_int (wpAny_items_cons (wpAny_Constant_int (wpAny_items_nil ⟨show (2 : Nat) ≤ sizeLine by decide, ?_⟩)))))
  refine SeqRoads2.in_tuple (n := 0) (isInt (Builtin.bitAnd k 65535)) (fun y hy => ?_) (Heap.get?_push_size _ rfl) ?_
  · simp only [List.mem_toArray, List.mem_cons, List.not_mem_nil, or_false] at hy
    rcases hy with rfl | rfl <;> exact MeetsSeq.EqGives.int _ _ _ _
  exact hQ _ _ _ (c4_end k _ _ (by omega)) rfl ⟨_, _, rfl, fun b o e => Heap.get?_push_of_some _ (F₂.keep b o e)⟩
end
end Mine

end partM2

section partM3
open PySem PySem.W PyProof.Rows PySem.Calls
set_option Elab.async false
set_option maxRecDepth 100000
namespace Mine
section
variable {w : World} {mg mb : Str → Option Value} {A : Around} {E : Value → Shared → Prop} {s : Shared} {Q : Value → Shared → Prop} {env : Env}

/-- the frame of a def that keeps names in cells -/
def envC (d : DefRec) (L a : Addr) (cd : Value) : Env :=
  newEnv d.scope L mainGlobals (cellsFrom (L + 1) d.scope.names []) (d.name ++ ".<locals>.") (some a) cd none builtinsNs

theorem call_defC {d : DefRec} {a : Addr} {vals : List Value} {binds : List (Str × Value)} (G : Gd w mg mb s.heap) (hm : d ∈ recsOf qv) (hA : A.depth < recursionLimit) (ha : mg d.name = some (.ref a))
    (hbind : ∀ pm code doc, bindArgs (docDef d.name d.params d.body d.scope pm code doc) ⟨vals, []⟩ = pure binds)
    (hkind : ∀ x ∈ binds, d.scope.names.lookup x.1 = some .local ∨ (d.scope.names.lookup x.1 = some .cell ∧ ((cellsFrom (s.heap.objs.size + 1) d.scope.names []).lookup x.1).isSome = true))
    (h : ∀ cd s₁, InCallC s s.heap.objs.size (bindL (envC d s.heap.objs.size a cd).kindOf binds fun _ => none) (envC d s.heap.objs.size a cd).cells (bindC (envC d s.heap.objs.size a cd).kindOf binds fun _ => none) s₁ → Gd w mg mb s₁.heap →
      wpAny (model pw w) (A.deeper (envC d s.heap.objs.size a cd)) (execs d.body (envC d s.heap.objs.size a cd))
        (fun f s' => Q (match f with | .ret v => v | _ => .none) s') (fun _ _ => False) s₁)
    (hco : d.scope.isCoroutine = false := by rfl) (hgen : d.scope.isGenerator = false := by rfl) (hk : d.scope.kind = .function := by rfl) : wpAny (model pw w) A (call (.ref a) vals) Q E s := by
  obtain ⟨a', o, pm, code, doc, h1, h2, h3, h4⟩ := G.fn d hm
  obtain rfl : a' = a := by rw [h1] at ha; injection ha with e; injection e
  refine wpAny_call (codeAny_call_function hA h2 h3 hco hgen rfl h4 ?_)
  rw [hbind pm code doc]
  refine wpAny_pure (wpAny_newFunctionEnv_cells hk hkind fun env he s₁ x => ?_)
  subst he
  refine ⟨G.nolimit.keeps x.toInCall.keep, codeAny_func ?_⟩
  exact wpAny_mono (h code s₁ x (G.keeps x.toInCall.keep)) (fun _ _ y => y) fun _ _ y => y.elim

/-- a pair of ints, as a tuple on the heap -/
def PairAt (h : Heap) (v : Value) (p : Int × Int) : Prop := ∃ a t u, v = .ref a ∧ h.IsTuple a #[.int p.1 t, .int p.2 u]
theorem PairAt.keeps {h h' : Heap} {v : Value} {p : Int × Int} (x : PairAt h v p) (k : Keeps h h') : PairAt h' v p := by
  obtain ⟨a, t, u, e, o, ho, r⟩ := x
  exact ⟨a, t, u, e, o, k _ _ ho, r⟩
/-- a list of such pairs -/
def TabAt (h : Heap) (v : Value) (ps : List (Int × Int)) : Prop := ∃ (a : Addr) (vs : List Value), v = .ref a ∧ h.PlainList a (List.toArray vs) ∧ vs.length = ps.length ∧ ∀ (i : Nat) (v : Value) (p : Int × Int), vs[i]? = some v → ps[i]? = some p → PairAt h v p
theorem TabAt.keeps {h h' : Heap} {v : Value} {ps : List (Int × Int)} (x : TabAt h v ps) (k : Keeps h h') : TabAt h' v ps := by
  obtain ⟨a, vs, e, ⟨n, ho⟩, hl, hp⟩ := x
  exact ⟨a, vs, e, ⟨n, k _ _ ho⟩, hl, fun i v p h1 h2 => (hp i v p h1 h2).keeps k⟩

theorem inPairs_succ {ps : List (Int × Int)} {i : Nat} (lt : i < ps.length) (n : Int) : inPairs (ps.take (i + 1)) n = (inPairs (ps.take i) n || (decide ((ps[i]'lt).1 ≤ n) && decide (n ≤ (ps[i]'lt).2))) := by
  unfold inPairs
  rw [List.take_add_one, List.any_append, List.getElem?_eq_getElem lt]
  simp

/-- what stands where a comprehension's turns begin -/
structure CompAt (h₁ : Heap) (I D C : Addr) (h₃ : Heap) : Prop where
  keep : Keeps h₁ h₃
  newI : h₁.get? I = none
  newD : h₁.get? D = none
  newC : h₁.get? C = none
  neID : I ≠ D
  neIC : I ≠ C
  neDC : D ≠ C
theorem no_at {h : Heap} {a : Addr} (e : h.objs.size ≤ a) : h.get? a = none := by
  cases q : h.get? a with
  | none => rfl
  | some o => exact absurd (Heap.lt_size q) (Nat.not_lt.mpr e)
theorem compAt_of {h₁ h₃ : Heap} {o1 o2 o3 : Obj} (f1 : o1.isFreed = false) (f2 : o2.isFreed = false) (hs : Heap.SameBut ((h₁.push o1).push o2).objs.size (((h₁.push o1).push o2).push o3) h₃) :
    CompAt h₁ h₁.objs.size (h₁.push o1).objs.size ((h₁.push o1).push o2).objs.size h₃ ∧ h₃.get? h₁.objs.size = some o1 ∧ h₃.get? (h₁.push o1).objs.size = some o2 := by
  have e1 : (h₁.push o1).objs.size = h₁.objs.size + 1 := Heap.size_push ..
  have e2 : ((h₁.push o1).push o2).objs.size = h₁.objs.size + 1 + 1 := by rw [Heap.size_push, e1]
  have k : Keeps ((h₁.push o1).push o2) h₃ := fun b o e => (hs.2 b (Nat.ne_of_lt (Heap.lt_size e))).trans (Heap.get?_push_of_some _ e)
  refine ⟨⟨fun b o e => k b o (Heap.get?_push_of_some _ (Heap.get?_push_of_some _ e)), no_at (Nat.le_refl _), no_at (by omega), no_at (by omega), Nat.ne_of_lt (by omega), Nat.ne_of_lt (by omega), Nat.ne_of_lt (by omega)⟩, ?_, ?_⟩
  · exact k _ _ (Heap.get?_push_of_some _ (Heap.get?_push_size _ f1))
  · exact k _ _ (Heap.get?_push_size _ f2)

theorem within {a : Addr} {n : Int} {t : Tok} {tv : Value} {ps : List (Int × Int)} (G : Gd w mg mb s.heap) (hA : A.depth < recursionLimit) (hU : A.units + 80 < cLine) (hh : A.handled = none) (ha : mg "_law_within" = some (.ref a))
    (hT : TabAt s.heap tv ps) (hsz : ps.length ≤ 1000)
    (h : ∀ h' tk, Keeps s.heap h' → Q (.bool (inPairs ps n)) { s with heap := h', toks := tk }) : wpAny (model pw w) A (call (.ref a) [.int n t, tv]) Q E s := by
  refine call_defC (d := rec' 8) (binds := [(("code" : Str), .int n t), (("table" : Str), tv)]) G (rec_mem 8 (by decide)) hA ha (fun pm code doc => by rfl) (fun x hx => ?_) (fun cd s₁ X G₁ => ?_)
  · simp only [List.mem_cons, List.not_mem_nil, or_false] at hx
    rcases hx with rfl | rfl
    · right; exact ⟨by kernel_rfl, by kernel_rfl⟩
    · left; kernel_rfl
  obtain ⟨h₁, tk₁, rfl, hk₁⟩ := X.done
  refine wpAny_execs_cons (wpAny_Return_some (wpAny_Compare1 ?_))
  rw [eval_ListComp]
  refine wpAny_comprehension_free (use := none) (cl := [(("code" : Str), s.heap.objs.size + 1)]) rfl (fun _ => rfl) (by rfl) (by rfl) (by decide +kernel) ?_
  refine wpAny_Name (wpAny_loadName_local (m := bindL (envC (rec' 8) s.heap.objs.size a cd).kindOf [(("code" : Str), .int n t), (("table" : Str), tv)] fun _ => none) (v := tv) rfl (by rfl) X.toInCall.ns (by rfl) ?_)
  obtain ⟨tb, vs, rfl, hL0, hlen, hps⟩ := hT.keeps hk₁
  have hL := hL0.isList
  refine wpAny_pyIter_list hL ?_
  dsimp only
  refine wpAny_newObj_type (wpAny_newFunctionEnv (by decide +kernel) (by intro y hy; simp at hy) (fun h₃ hns hsb => ?_) (by rfl))
  obtain ⟨K3, gI, gD⟩ := compAt_of rfl rfl hsb
  dsimp only at hns ⊢
  revert hns K3 gI gD
  generalize h₁.objs.size = I
  generalize Array.size _ = C
  generalize Array.size _ = D
  intro hns K3 gI gD
  have hit0 : h₃.IsListIter I tb 0 := ⟨_, gI, rfl, rfl⟩
  have step : ∀ {x h' h'' : _}, Heap.SameBut x h' h'' → ∀ b o, b ≠ x → h'.get? b = some o → h''.get? b = some o := fun hs b o hb e => (hs.2 b hb).trans e
  have grow : ∀ {h' h'' : Heap}, Heap.ExtBut h'.objs.size h' h'' → Keeps h' h'' := fun he b o e => he b o (Nat.ne_of_lt (Heap.lt_size e)) e
  have off : ∀ {x : Addr}, h₁.get? x = none → ∀ b o, h₁.get? b = some o → b ≠ x := fun hx b o e q => by rw [q, hx] at e; cases e
  refine codeAny_compStart_list ?l (wpAny_pyIter_listiter hit0 ?l)
  refine kct_loop (fun k s' => ∃ h' tk m' us ns i, s' = { s with heap := h', toks := tk } ∧ i ≤ ps.length ∧ k = ps.length - i ∧ h'.IsListIter I tb i ∧ h'.IsList D (List.toArray us) ∧ IntsAre us ns ∧ us.length ≤ i ∧
    decide (ns = []) = !inPairs (ps.take i) n ∧ h'.Ns C m' ∧ Keeps h₁ h') ?_ ps.length ⟨h₃, _, _, [], [], 0, rfl, Nat.zero_le _, rfl, hit0, ⟨_, gD, rfl, _, rfl⟩, .nil, Nat.le_refl _, rfl, hns, K3.keep⟩
  rintro k s' ⟨h', tk, m', us, ns, i, rfl, hi, rfl, hit, hD, hus, hul, hpr, hC, hkp⟩
  obtain ⟨oL, goL, rL⟩ := hL
  rcases Nat.lt_or_ge i ps.length with lt | ge
  · have hv : vs[i]? = some (vs[i]'(by omega)) := List.getElem?_eq_getElem _
    have hp : ps[i]? = some (ps[i]'lt) := List.getElem?_eq_getElem _
    obtain ⟨T, t1, t2, hvT, oT, goT, rT⟩ := hps i _ _ hv hp
    rw [hvT] at hv
    refine wpAny_pyNext_list_item hit ⟨oL, hkp _ _ goL, rL⟩ (x := .ref T) (by simpa using hv) fun h4 hit4 hs4 => ?_
    have k4 : Keeps h₁ h4 := fun b o e => step hs4 b o (off K3.newI b o e) (hkp b o e)
    refine wpAny_letOwnedTupleGo_listiter hit4 ?_
    refine wpAny_assign_Tuple hh ⟨oT, k4 _ _ goT, rT⟩ rfl rfl fun h5 he5 => ?_
    have g5 := grow he5
    have n5 : h5.Ns C m' := (hC.sameBut hs4 (Ne.symm K3.neIC)).keeps g5
    refine wpAny_assignInOrder_more (wpAny_bind (wpAny_standAt (wpAny_bindName (wpAny_storeName_local (m := m') (by rfl) n5 (fun h6 n6 s6 => ?_) (by rfl)))))
    refine wpAny_assignInOrder_more (wpAny_bind (wpAny_standAt (wpAny_bindName (wpAny_storeName_local (by rfl) n6 (fun h7 n7 s7 => ?_) (by rfl)))))
    refine wpAny_assignInOrder_none ?_
    have k7 : ∀ b o, b ≠ C → h4.get? b = some o → h7.get? b = some o := fun b o hb e => step s7 b o hb (step s6 b o hb (g5 b o e))
    have k7' : Keeps h₁ h7 := fun b o e => k7 b o (off K3.newC b o e) (k4 b o e)
    have hit7 : h7.IsListIter I tb (i + 1) := let ⟨o, e, r⟩ := hit4; ⟨o, k7 _ _ K3.neIC e, r⟩
    have hD7 : h7.IsList D us.toArray := let ⟨o, e, r⟩ := hD; ⟨o, k7 _ _ K3.neDC (step hs4 _ _ (Ne.symm K3.neID) e), r⟩
    have hcell : h7.IsCell (s.heap.objs.size + 1) (some (.int n t)) := by
      obtain ⟨o, e, r⟩ := X.cell "code" (s.heap.objs.size + 1) (by rfl)
      exact ⟨o, k7' _ _ e, r⟩
    refine isTrue_chain (wpAny_Name (wpAny_loadName_local (v := .int (ps[i]'lt).1 t1) (by rfl) (by rfl) n7 (by rfl) ?_))
    refine test_link (wpAny_Name (wpAny_loadName_cell (c := s.heap.objs.size + 1) (by rfl) (by rfl) (by rfl) hcell ?_))
    refine PyProof.Rows.le_int (wpAny_truthy_bool ?_)
    have hsucc := inPairs_succ lt n
    have no : (decide ((ps[i]'lt).1 ≤ n) && decide (n ≤ (ps[i]'lt).2)) = false → ∀ tk', ∃ m, m < ps.length - i ∧ ∃ h'' tk'' m'' us' ns' i', ({ s with heap := h7, toks := tk' } : Shared) = { s with heap := h'', toks := tk'' } ∧ i' ≤ ps.length ∧ m = ps.length - i' ∧ h''.IsListIter I tb i' ∧ h''.IsList D (List.toArray us') ∧ IntsAre us' ns' ∧ us'.length ≤ i' ∧
        decide (ns' = []) = !inPairs (ps.take i') n ∧ h''.Ns C m'' ∧ Keeps h₁ h'' := fun e tk' =>
      ⟨ps.length - (i + 1), by omega, h7, tk', _, us, ns, i + 1, rfl, lt, rfl, hit7, hD7, hus, Nat.le_succ_of_le hul, by rw [hsucc, e, Bool.or_false]; exact hpr, n7, k7'⟩
    cases c1 : decide ((ps[i]'lt).1 ≤ n) with
    | false => exact no (by rw [c1]; rfl) _
    | true =>
    refine test_last (wpAny_Name (wpAny_loadName_local (v := .int (ps[i]'lt).2 t2) (by rfl) (by rfl) n7 (by rfl) ?_))
    refine PyProof.Rows.le_int (wpAny_truthy_bool ?_)
    cases c2 : decide (n ≤ (ps[i]'lt).2) with
    | false => exact no (by rw [c2, Bool.and_false]) _
    | true =>
    refine wpAny_Name (wpAny_loadName_local (v := .int (ps[i]'lt).1 t1) (by rfl) (by rfl) n7 (by rfl) ?_)
    refine wpAny_list_append hD7 (fun h8 hD8 hs8 => ?_) (by rw [List.size_toArray, sizeLine_eq]; omega)
    exact ⟨ps.length - (i + 1), by omega, h8, _, _, us ++ [.int (ps[i]'lt).1 t1], ns ++ [(ps[i]'lt).1], i + 1, rfl, lt, rfl, (let ⟨o, e, r⟩ := hit7; ⟨o, step hs8 _ _ K3.neID e, r⟩), by simpa using hD8,
      hus.append (.cons _ _ .nil), by simp; omega, by rw [hsucc, c1, c2]; simp, n7.sameBut hs8 (Ne.symm K3.neDC), fun b o e => step hs8 b o (off K3.newD b o e) (k7' b o e)⟩
  · obtain rfl : i = ps.length := Nat.le_antisymm hi ge
    refine wpAny_pyNext_list_end hh hit ⟨oL, hkp _ _ goL, rL⟩ (by simp [hlen]) fun h4 he4 => ?_
    refine ⟨m', hC.at' fun o e => he4 C o (Ne.symm K3.neIC) e, fun h5 hs5 => ?_⟩
    refine wpAny_List (wpAny_items_nil ⟨Nat.zero_le _, ?_⟩)
    have hD5 : h5.IsList D us.toArray := let ⟨o, e, r⟩ := hD; ⟨o, step hs5 _ _ K3.neDC (he4 _ _ (Ne.symm K3.neID) e), r⟩
    refine ne_intsK (let ⟨o, e, r⟩ := hD5; ⟨o, Heap.get?_push_of_some _ e, r⟩) hus ⟨_, Heap.get?_push_size _ rfl, rfl, _, rfl⟩ .nil ?_ ?_
    · show A.units + 3 + 64 < cLine
      omega
    rw [hpr, Bool.not_not, List.take_length]
    refine h _ _ fun b o e => Heap.get?_push_of_some _ (step hs5 b o (off K3.newC b o (hk₁ b o e)) (he4 b o (off K3.newI b o (hk₁ b o e)) (hkp b o (hk₁ b o e))))
end
end Mine

end partM3

section partM4
open PySem PySem.W PyProof.Rows PySem.Calls
set_option Elab.async false
set_option maxRecDepth 100000
namespace Mine

def PairsAt (h : Heap) (vs : List Value) (ps : List (Int × Int)) : Prop := vs.length = ps.length ∧ ∀ (i : Nat) (v : Value) (p : Int × Int), vs[i]? = some v → ps[i]? = some p → PairAt h v p
theorem PairsAt.keeps {h h' : Heap} {vs : List Value} {ps : List (Int × Int)} (x : PairsAt h vs ps) (k : Keeps h h') : PairsAt h' vs ps :=
  ⟨x.1, fun i v p h1 h2 => (x.2 i v p h1 h2).keeps k⟩
theorem PairsAt.cons {h : Heap} {v : Value} {p : Int × Int} {vs : List Value} {ps : List (Int × Int)} (a : PairAt h v p) (x : PairsAt h vs ps) : PairsAt h (v :: vs) (p :: ps) :=
  ⟨by simp [x.1], fun i v' p' h1 h2 => by
    cases i with
    | zero => simp at h1 h2; subst h1 h2; exact a
    | succ i => exact x.2 i v' p' (by simpa using h1) (by simpa using h2)⟩
theorem PairsAt.append {h : Heap} {vs us : List Value} {ps qs : List (Int × Int)} (x : PairsAt h vs ps) (y : PairsAt h us qs) : PairsAt h (vs ++ us) (ps ++ qs) :=
  ⟨by simp [x.1, y.1], fun i v p h1 h2 => by
    rw [List.getElem?_append] at h1 h2
    rw [x.1] at h1
    split at h1
    · rename_i q
      rw [if_pos q] at h2
      exact x.2 i v p h1 h2
    · rename_i q
      rw [if_neg q] at h2
      exact y.2 _ v p h1 h2⟩

/-- a list of lists of pairs -/
def TabsAt (h : Heap) (v : Value) (ts : List (List (Int × Int))) : Prop := ∃ (a : Addr) (vs : List Value), v = .ref a ∧ h.IsList a (List.toArray vs) ∧ vs.length = ts.length ∧ ∀ (i : Nat) (v : Value) (t : List (Int × Int)), vs[i]? = some v → ts[i]? = some t → TabAt h v t
theorem TabsAt.keeps {h h' : Heap} {v : Value} {ts : List (List (Int × Int))} (x : TabsAt h v ts) (k : Keeps h h') : TabsAt h' v ts := by
  obtain ⟨a, vs, e, ⟨o, ho, r⟩, hl, hp⟩ := x
  exact ⟨a, vs, e, ⟨o, k _ _ ho, r⟩, hl, fun i v p h1 h2 => (hp i v p h1 h2).keeps k⟩

inductive PairExprs : List Expr → List (Int × Int) → Prop
  | nil : PairExprs [] []
  | cons {a b : Int} {k1 k2 k : Nat} {q1 q2 q : Pos} {es : List Expr} {ps : List (Int × Int)} : PairExprs es ps → PairExprs (.Tuple [.Constant (.int a) k1 q1, .Constant (.int b) k2 q2] k q :: es) ((a, b) :: ps)

def pairOf : Expr → Option (Int × Int)
  | .Tuple [.Constant (.int a) _ _, .Constant (.int b) _ _] _ _ => some (a, b)
  | _ => none
def pairsOf : List Expr → Option (List (Int × Int))
  | [] => some []
  | e :: es => match pairOf e, pairsOf es with
    | some p, some ps => some (p :: ps)
    | _, _ => none
theorem pairExprs_of : ∀ {es : List Expr} {ps : List (Int × Int)}, pairsOf es = some ps → PairExprs es ps
  | [], ps, h => by cases h; exact .nil
  | e :: es, ps, h => by
    unfold pairsOf at h
    split at h
    · rename_i p qs h1 h2
      cases h
      unfold pairOf at h1
      split at h1
      · cases h1; exact .cons (pairExprs_of h2)
      · cases h1
    · cases h

section
variable {w : World} {mg mb : Str → Option Value} {A : Around} {E : Value → Shared → Prop} {env : Env}

theorem ev_pairs {es : List Expr} {ps : List (Int × Int)} {pos : Pos} (x : PairExprs es ps) : ∀ {s : Shared} {Q : List Value → Shared → Prop},
    (∀ vs h' tk, Keeps s.heap h' → PairsAt h' vs ps → Q vs { s with heap := h', toks := tk }) → wpAny (model pw w) A (spliced (backTo pos (starEach es env))) Q E s := by
  induction x with
  | nil => intro s Q h; exact wpAny_items_nil (h [] s.heap s.toks (Keeps.refl _) ⟨rfl, fun i v p h1 => by simp at h1⟩)
  | cons x ih =>
    intro s Q h
    refine wpAny_items_cons (wpAny_Tuple (wpAny_items_cons (wpAny_Constant_int (wpAny_items_cons (wpAny_Constant_int (wpAny_items_nil ⟨show (2 : Nat) ≤ sizeLine by decide, ?_⟩))))))
    refine ih fun vs h' tk k r => ?_
    refine h _ h' tk (fun b o e => k b o (Heap.get?_push_of_some _ e)) (.cons ⟨_, _, _, rfl, _, k _ _ (Heap.get?_push_size _ rfl), rfl, _, rfl⟩ r)

theorem PairExprs.length {es : List Expr} {ps : List (Int × Int)} (x : PairExprs es ps) : es.length = ps.length := by
  induction x with
  | nil => rfl
  | cons _ ih => simp [ih]

theorem ev_tab {es : List Expr} {ps : List (Int × Int)} {pos : Pos} {s : Shared} {Q : Value → Shared → Prop} (x' : pairsOf es = some ps) (hsz : ps.length ≤ 1000)
    (h : ∀ v h' tk, Keeps s.heap h' → TabAt h' v ps → Q v { s with heap := h', toks := tk }) : wpAny (model pw w) A (eval (.List es pos) env) Q E s := by
  have x := pairExprs_of x'
  refine wpAny_List (ev_pairs x fun vs h' tk k r => ⟨by rw [sizeLine_eq, r.1]; omega, ?_⟩)
  have r' := r.keeps (h' := h'.push { cls := .type "list", data := .seq vs.toArray }) fun b o e => Heap.get?_push_of_some _ e
  exact h _ _ _ (fun b o e => Heap.get?_push_of_some _ (k b o e)) ⟨_, vs, rfl, ⟨_, Heap.get?_push_size _ rfl⟩, r'.1, r'.2⟩
end

theorem b_range : bootBuiltins "range" = some (.type "range") := boot_range

section
variable {w : World} {mg mb : Str → Option Value} {A : Around} {E : Value → Shared → Prop} {s : Shared} {Q : Value → Shared → Prop} {env : Env}
theorem tables {a : Addr} (G : Gd w mg mb s.heap) (hA : A.depth < recursionLimit) (hU : A.units + 80 < cLine) (hh : A.handled = none) (ha : mg "_law_tables" = some (.ref a))
    (h : ∀ v h' tk, Keeps s.heap h' → TabsAt h' v theTabs → Q v { s with heap := h', toks := tk }) : wpAny (model pw w) A (call (.ref a) []) Q E s := by
  refine call_def (d := rec' 7) (binds := []) G (rec_mem 7 (by decide)) hA ha (fun pm code doc => by rfl) (fun cd h₁ F G₁ => ?_)
  refine wpAny_execs_cons ?_
  refine wpAny_Return_some ?_
  refine wpAny_List ?_
  refine wpAny_items_cons ?_
  refine ev_tab (ps := tab0) ?hx ?hz ?_
  case hz => decide
  case hx => kernel_rfl
  intro v0 H0 tk0 K0 T0
  refine wpAny_items_cons ?_
  refine ev_tab (ps := tab1) ?hx ?hz ?_
  case hz => decide
  case hx => kernel_rfl
  intro v1 H1 tk1 K1 T1
  refine wpAny_items_cons ?_
  refine wpAny_BinOp ?_
  refine ev_tab (ps := [(64976, 65007)]) ?hx ?hz ?_
  case hz => decide
  case hx => kernel_rfl
  intro v2a H2a tk2a K2a T2a
  have k2a : Keeps h₁ H2a := (K0.trans K1).trans K2a
  have F2a := F.after k2a
  refine wpAny_ListComp (by decide +kernel) (by rfl) (by decide +kernel) ?_
  refine Call_ ?_
  refine ev_blt (G₁.keeps k2a) (by decide) b_range ?_
  refine PyProof.Rows.callWith_type1 ?_
  refine wpAny_items_cons (wpAny_Constant_int (wpAny_items_nil ?_))
  refine range1_rows F2a News.nil ?_
  intro hR tkR t1 t2 t3 iR FR NR kR
  refine wpAny_pyIter_range iR (by decide +kernel) ?_
  refine wpAny_newObj_type (wpAny_newFunctionEnv (by decide +kernel) (by intro y hy; simp at hy) (fun h₃ hns hsb => ?_) (by rfl))
  obtain ⟨K3, gI, gD⟩ := compAt_of rfl rfl hsb
  dsimp only at hns ⊢
  revert hns K3 gI gD
  generalize hR.objs.size = I
  generalize Array.size _ = C
  generalize Array.size _ = D
  intro hns K3 gI gD
  rw [show Builtin.Range.rangeSize 0 17 1 = 17 by decide +kernel] at gI
  have gI' : IsRangeIter h₃ I (0 + ((0 : Nat) : Int) * 1) (17 - ((0 : Nat) : Int)) 1 := by simpa using gI
  have step : ∀ {x h' h'' : _}, Heap.SameBut x h' h'' → ∀ b o, b ≠ x → h'.get? b = some o → h''.get? b = some o := fun hs b o hb e => (hs.2 b hb).trans e
  have off : ∀ {x : Addr}, hR.get? x = none → ∀ b o, hR.get? b = some o → b ≠ x := fun hx b o e q => by rw [q, hx] at e; cases e
  have W : Walks pw w (A.deeper (envOf (rec' 7).name (rec' 7).scope s.heap.objs.size a cd)) I [I] [I] 17 _ _ := Walks.range (A := A.deeper _) hh I 0 1 17
  refine codeAny_compStart_list ?l (W.self 0 _ _ _ gI' ?l)
  refine codeAny_compLoop_list (fun k s' => ∃ h' tk m' us i, s' = { s with heap := h', toks := tk } ∧ i ≤ 17 ∧ k = 17 - i ∧ IsRangeIter h' I (0 + i * 1) (17 - i) 1 ∧ h'.PlainList D (List.toArray us) ∧ PairsAt h' us (planes i) ∧ h'.Ns C m' ∧ Keeps hR h') ?_ 17
    ⟨h₃, _, _, [], 0, rfl, by omega, rfl, gI', ⟨_, gD⟩, ⟨rfl, fun i v p h1 => by simp at h1⟩, hns, K3.keep⟩
  rintro k s' ⟨h', tk, m', us, i, rfl, hi, rfl, hit, hD, hus, hC, hkp⟩
  rcases Nat.lt_or_ge i 17 with lt | ge
  · refine wpAny_pyNext_range_item hit (by omega) fun h4 hit4 hs4 => ?_
    have k4 : Keeps hR h4 := fun b o e => step hs4 b o (off K3.newI b o e) (hkp b o e)
    have n4 : h4.Ns C m' := hC.sameBut hs4 (Ne.symm K3.neIC)
    refine wpAny_bind (wpAny_standAt (wpAny_bindName (wpAny_storeName_local (m := m') (by rfl) n4 (fun h5 n5 s5 => ?_) (by rfl))))
    have k5 : Keeps hR h5 := fun b o e => step s5 b o (off K3.newC b o e) (k4 b o e)
    refine wpAny_Tuple ?_
    refine wpAny_items_cons (wpAny_BinOp (wpAny_BinOp (wpAny_Constant_int ?_)))
    refine wpAny_Name (wpAny_loadName_local (by rfl) (by rfl) n5 (by rfl) ?_)
    refine PyProof.Rows.mul_int ?_ (IntMulOk.of_left (by decide))
    refine wpAny_Constant_int (PyProof.Rows.add_int ?_)
    refine wpAny_items_cons (wpAny_BinOp (wpAny_BinOp (wpAny_Constant_int ?_)))
    refine wpAny_Name (wpAny_loadName_local (by rfl) (by rfl) n5 (by rfl) ?_)
    refine PyProof.Rows.mul_int ?_ (IntMulOk.of_left (by decide))
    refine wpAny_Constant_int (PyProof.Rows.add_int ?_)
    refine wpAny_items_nil ⟨show (2 : Nat) ≤ sizeLine by decide, ?_⟩
    dsimp only
    have hD5 : h5.PlainList D us.toArray := let ⟨o, e⟩ := hD; ⟨o, step s5 _ _ K3.neDC (step hs4 _ _ (Ne.symm K3.neID) e)⟩
    have hus5 : PairsAt h5 us (planes i) := ⟨hus.1, fun j v p h1 h2 => by
      obtain ⟨x, t1, t2, e, o, ho, r⟩ := hus.2 j v p h1 h2
      refine ⟨x, t1, t2, e, o, step s5 _ _ (fun q => ?_) (step hs4 _ _ (fun q => ?_) ho), r⟩
      · subst q
        obtain ⟨o', _, _, ho', hd', _⟩ := hC
        rw [ho] at ho'
        cases ho'
        obtain ⟨_, n, hd⟩ := r
        rw [hd] at hd'
        cases hd'
      · subst q
        rw [hit] at ho
        cases ho
        obtain ⟨hc, _⟩ := r
        injection hc with hc
        exact absurd hc (by decide)⟩
    refine wpAny_list_append_plain (let ⟨o, e⟩ := hD5; ⟨o, Heap.get?_push_of_some _ e⟩) (fun h6 hD6 hs6 => ?_) (by rw [List.size_toArray, sizeLine_eq, hus.1]; simp [planes]; omega)
    have hpl : planes (i + 1) = planes i ++ [(65536 * (i : Int) + 65534, 65536 * (i : Int) + 65535)] := by simp [planes, List.range_succ]
    have nD : ∀ b o, h5.get? b = some o → (∃ its n, o.cls = .type "tuple" ∧ o.data = .seq its n) → b ≠ D := by
      rintro b o e ⟨its, n, hc, _⟩ rfl
      obtain ⟨o', e', hc', _⟩ := hD5.isList
      rw [e] at e'
      cases e'
      rw [hc] at hc'
      injection hc' with hc'
      exact absurd hc' (by decide)
    have hnew : h5.objs.size ≠ D := fun q => by
      obtain ⟨o', e', _⟩ := hD5.isList
      exact absurd (Heap.lt_size e') (by rw [q]; exact Nat.lt_irrefl _)
    have hus6 : PairsAt h6 us (planes i) := ⟨hus5.1, fun j v p h1 h2 => by
      obtain ⟨x, t1, t2, e, o, ho, r⟩ := hus5.2 j v p h1 h2
      obtain ⟨r1, nn, r2⟩ := r
      exact ⟨x, t1, t2, e, o, step hs6 _ _ (nD x o ho ⟨_, nn, r1, r2⟩) (Heap.get?_push_of_some _ ho), r1, nn, r2⟩⟩
    refine ⟨17 - (i + 1), by omega, h6, _, _, us ++ [.ref h5.objs.size], i + 1, rfl, lt, rfl, ?_, by simpa using hD6, ?_, (n5.keeps fun b o e => Heap.get?_push_of_some _ e).sameBut hs6 (Ne.symm K3.neDC), fun b o e => step hs6 b o (off K3.newD b o e) (Heap.get?_push_of_some _ (k5 b o e))⟩
    · have := step hs6 I _ K3.neID (Heap.get?_push_of_some _ (step s5 _ _ K3.neIC hit4))
      rw [show (0 + ((i : Nat) : Int) * 1 + 1) = 0 + ((i + 1 : Nat) : Int) * 1 by omega, show (17 - ((i : Nat) : Int) - 1) = 17 - ((i + 1 : Nat) : Int) by omega] at this
      exact this
    · have pr : PairAt h6 (.ref h5.objs.size) (65536 * (0 + ((i : Nat) : Int) * 1) + 65534, 65536 * (0 + ((i : Nat) : Int) * 1) + 65535) :=
        ⟨_, _, _, rfl, _, step hs6 _ _ hnew (Heap.get?_push_size _ rfl), rfl, _, rfl⟩
      rw [show (0 + ((i : Nat) : Int) * 1) = (i : Int) by omega] at pr
      rw [hpl]
      exact hus6.append (.cons pr ⟨rfl, fun j v p h1 => by simp at h1⟩)
  · obtain rfl : i = 17 := Nat.le_antisymm hi ge
    refine wpAny_pyNext_range_end hh hit (by omega) fun h4 he4 => ?_
    refine ⟨m', hC.at' fun o e => he4 C o (Ne.symm K3.neIC) e, fun h5 hs5 => ?_⟩
    have k5 : Keeps hR h5 := fun b o e => step hs5 b o (off K3.newC b o e) (he4 b o (off K3.newI b o e) (hkp b o e))
    have kk : Keeps H2a h5 := Keeps.trans kR k5
    obtain ⟨n5, hD5⟩ : h5.PlainList D us.toArray := let ⟨o, e⟩ := hD; ⟨o, step hs5 _ _ K3.neDC (he4 _ _ (Ne.symm K3.neID) e)⟩
    have hus5 : PairsAt h5 us (planes 17) := ⟨hus.1, fun j v p h1 h2 => by
      obtain ⟨x, t1, t2, e, o, ho, r⟩ := hus.2 j v p h1 h2
      refine ⟨x, t1, t2, e, o, step hs5 _ _ (fun q => ?_) (he4 _ _ (fun q => ?_) ho), r⟩
      · subst q
        obtain ⟨o', _, _, ho', hd', _⟩ := hC
        rw [ho] at ho'
        cases ho'
        obtain ⟨_, n, hd⟩ := r
        rw [hd] at hd'
        cases hd'
      · subst q
        rw [hit] at ho
        cases ho
        obtain ⟨hc, _⟩ := r
        injection hc with hc
        exact absurd hc (by decide)⟩
    obtain ⟨a2, vs2, rfl, ⟨n2, hL2⟩, hl2, hp2⟩ := T2a.keeps kk
    refine P.add_list hL2 hD5 ?_ (by simp only [List.size_toArray]; rw [hl2, hus5.1, sizeLine_eq]; simp [planes])
    have T2 : TabAt (h5.push { cls := .type "list", data := .seq (vs2.toArray ++ us.toArray) }) (.ref h5.objs.size) tab2 := by
      have r : PairsAt h5 (vs2 ++ us) tab2 := PairsAt.append (ps := [(64976, 65007)]) ⟨hl2, hp2⟩ hus5
      have r' := r.keeps (h' := h5.push { cls := .type "list", data := .seq (vs2.toArray ++ us.toArray) }) fun b o e => Heap.get?_push_of_some _ e
      exact ⟨_, vs2 ++ us, rfl, ⟨0, by rw [show (vs2 ++ us).toArray = vs2.toArray ++ us.toArray by simp]; exact Heap.get?_push_size _ rfl⟩, r'.1, r'.2⟩
    have k6 : Keeps H2a (h5.push { cls := .type "list", data := .seq (vs2.toArray ++ us.toArray) }) := kk.trans fun b o e => Heap.get?_push_of_some _ e
    revert T2 k6
    generalize h5.push _ = h6
    generalize Value.ref h5.objs.size = v2
    intro T2 k6
    dsimp only
    refine wpAny_items_cons ?_
    refine ev_tab (ps := tab3) ?hx ?hz ?_
    case hz => decide
    case hx => kernel_rfl
    intro v3 H3 tk3 K3 T3
    refine wpAny_items_cons ?_
    refine ev_tab (ps := tab4) ?hx ?hz ?_
    case hz => decide
    case hx => kernel_rfl
    intro v4 H4 tk4 K4 T4
    refine wpAny_items_cons ?_
    refine ev_tab (ps := tab5) ?hx ?hz ?_
    case hz => decide
    case hx => kernel_rfl
    intro v5 H5 tk5 K5 T5
    refine wpAny_items_cons ?_
    refine ev_tab (ps := tab6) ?hx ?hz ?_
    case hz => decide
    case hx => kernel_rfl
    intro v6 H6 tk6 K6 T6
    refine wpAny_items_nil ⟨show (7 : Nat) ≤ sizeLine by decide, ?_⟩
    dsimp only
    have kp : Keeps H6 (H6.push { cls := .type "list", data := .seq [v0, v1, v2, v3, v4, v5, v6].toArray }) := fun b o e => Heap.get?_push_of_some _ e
    have e6 := kp
    have e5 := Keeps.trans K6 e6
    have e4 := Keeps.trans K5 e5
    have e3 := Keeps.trans K4 e4
    have e2 := Keeps.trans K3 e3
    have e2a := Keeps.trans k6 e2
    have e1 := Keeps.trans K2a e2a
    have e0 := Keeps.trans K1 e1
    have t0 := T0.keeps e0
    have t1 := T1.keeps e1
    have t2 := T2.keeps e2
    have t3 := T3.keeps e3
    have t4 := T4.keeps e4
    have t5 := T5.keeps e5
    have t6 := T6.keeps e6
    refine h _ _ _ (Keeps.trans F.keep (Keeps.trans K0 e0)) ⟨_, [v0, v1, v2, v3, v4, v5, v6], rfl, ⟨_, Heap.get?_push_size _ rfl, rfl, _, rfl⟩, rfl, fun i v t h1 h2 => ?_⟩
    clear e0 e1 e2 e2a e3 e4 e5 e6 kp
    match i, h1, h2 with
    | 0, h1, h2 => cases h1; cases h2; exact t0
    | 1, h1, h2 => cases h1; cases h2; exact t1
    | 2, h1, h2 => cases h1; cases h2; exact t2
    | 3, h1, h2 => cases h1; cases h2; exact t3
    | 4, h1, h2 => cases h1; cases h2; exact t4
    | 5, h1, h2 => cases h1; cases h2; exact t5
    | 6, h1, h2 => cases h1; cases h2; exact t6
    | n + 7, h1, h2 => simp at h1
end
end Mine

end partM4

section partM5
open PySem PySem.W PyProof.Rows PySem.Calls
set_option Elab.async false
set_option maxRecDepth 100000
namespace Mine

def innerFor : Stmt := match (rec' 9).body with
  | _ :: .For _ _ (st :: _) _ _ :: _ => st
  | _ => .Pass default
abbrev envK (L a : Addr) (cd : Value) : Env := envOf (rec' 9).name (rec' 9).scope L a cd

/-- all but two objects stand -/
def KeepsBut (L D : Addr) (h h' : Heap) : Prop := ∀ b o, b ≠ L → b ≠ D → h.get? b = some o → h'.get? b = some o

section
variable {w : World} {mg mb : Str → Option Value} {A : Around} {E : Value → Shared → Prop} {s : Shared} {base : Heap} {L D a : Addr} {cd : Value} {m : Str → Option Value}

theorem inner {Q : Flow → Shared → Prop} {ps : List (Int × Int)} {tv : Value} {us : List Value} {es : List Int} (hh : A.handled = none) (hT : TabAt base tv ps) (hk : Keeps base s.heap) (nL : base.get? L = none) (nD : base.get? D = none) (hLD : L ≠ D)
    (hns : s.heap.Ns L m) (ht : m "table" = some tv) (he : m "edges" = some (.ref D)) (hD : s.heap.PlainList D us.toArray) (hus : IntsAre us es) (hsz : es.length + 2 * ps.length ≤ 100000)
    (h : ∀ h' tk m' us' es', Keeps base h' → KeepsBut L D s.heap h' → h'.Ns L m' → (∀ y : Str, y ≠ "low" → y ≠ "high" → m' y = m y) → h'.PlainList D (List.toArray us') → IntsAre us' es' → es'.length = es.length + 2 * ps.length →
      Q .next { s with heap := h', toks := tk }) : wpAny (model pw w) A (exec innerFor (envK L a cd)) Q E s := by
  obtain ⟨tb, vs, rfl, ⟨nt, hL⟩, hlen, hps⟩ := hT
  refine wpAny_For ?_
  refine wpAny_Name (wpAny_loadName_local (v := .ref tb) (by rfl) (by rfl) hns ht ?_)
  refine wpAny_pyIter_list ⟨_, hk _ _ hL, rfl, _, rfl⟩ ?_
  have newI : ∀ b o, s.heap.get? b = some o → b ≠ s.heap.objs.size := fun b o e => Nat.ne_of_lt (Heap.lt_size e)
  obtain ⟨oL, _, _, gL, _⟩ := id hns
  obtain ⟨nD', gD⟩ := id hD
  have hLI := newI _ _ gL
  have hDI := newI _ _ gD
  have step : ∀ {x h' h'' : _}, Heap.SameBut x h' h'' → ∀ b o, b ≠ x → h'.get? b = some o → h''.get? b = some o := fun hs b o hb e => (hs.2 b hb).trans e
  have grow : ∀ {h' h'' : Heap}, Heap.ExtBut h'.objs.size h' h'' → Keeps h' h'' := fun he b o e => he b o (Nat.ne_of_lt (Heap.lt_size e)) e
  have off : ∀ {x : Addr}, base.get? x = none → ∀ b o, base.get? b = some o → b ≠ x := fun hx b o e q => by rw [q, hx] at e; cases e
  have nI : base.get? s.heap.objs.size = none := by
    cases q : base.get? s.heap.objs.size with
    | none => rfl
    | some o => exact absurd rfl (newI _ _ (hk _ _ q))
  have hit0 : (s.heap.push { cls := .type "list_iterator", data := .fields #[.ref tb, .int 0 0] }).IsListIter s.heap.objs.size tb 0 := ⟨_, Heap.get?_push_size _ rfl, rfl, rfl⟩
  have kp : Keeps s.heap (s.heap.push { cls := .type "list_iterator", data := .fields #[.ref tb, .int 0 0] }) := fun b o e => Heap.get?_push_of_some _ e
  revert hit0 kp hLI hDI nI
  generalize s.heap.push _ = H0
  generalize hI : s.heap.objs.size = I
  rw [hI] at newI
  intro hLI hDI nI hit0 kp
  refine codeAny_forLoop_any (fun k s' => ∃ h' tk m' us' es' i, s' = { s with heap := h', toks := tk } ∧ i ≤ ps.length ∧ k = ps.length - i ∧ h'.IsListIter I tb i ∧ h'.PlainList D (List.toArray us') ∧ IntsAre us' es' ∧ es'.length = es.length + 2 * i ∧ h'.Ns L m' ∧
    (∀ y : Str, y ≠ "low" → y ≠ "high" → m' y = m y) ∧ Keeps base h' ∧ KeepsBut L D s.heap h') ?_ ps.length
    ⟨H0, _, m, us, es, 0, rfl, Nat.zero_le _, rfl, hit0, ⟨_, kp _ _ gD⟩, hus, rfl, hns.keeps kp, fun _ _ _ => rfl, hk.trans kp, fun b o _ _ e => kp b o e⟩
  rintro k s' ⟨h', tk, m', us', es', i, rfl, hi, rfl, hit, hD', hus', hel, hns', hm', hkp, hkb⟩
  rcases Nat.lt_or_ge i ps.length with lt | ge
  · have hv : vs[i]? = some (vs[i]'(by omega)) := List.getElem?_eq_getElem _
    have hp : ps[i]? = some (ps[i]'lt) := List.getElem?_eq_getElem _
    obtain ⟨T, t1, t2, hvT, oT, goT, rT⟩ := hps i _ _ hv hp
    rw [hvT] at hv
    refine wpAny_pyNext_list_item hit ⟨_, hkp _ _ hL, rfl, _, rfl⟩ (x := .ref T) (by simpa using hv) fun h4 hit4 hs4 => ?_
    have k4 : Keeps base h4 := fun b o e => step hs4 b o (off nI b o e) (hkp b o e)
    refine wpAny_letOwnedTupleGo_listiter hit4 ?_
    refine wpAny_assign_Tuple hh ⟨oT, k4 _ _ goT, rT⟩ rfl rfl fun h5 he5 => ?_
    have g5 := grow he5
    have n5 : h5.Ns L m' := (hns'.sameBut hs4 hLI).keeps g5
    refine wpAny_assignInOrder_more (wpAny_bind (wpAny_standAt (wpAny_bindName (wpAny_storeName_local (m := m') (by rfl) n5 (fun h6 n6 s6 => ?_) (by rfl)))))
    refine wpAny_assignInOrder_more (wpAny_bind (wpAny_standAt (wpAny_bindName (wpAny_storeName_local (by rfl) n6 (fun h7 n7 s7 => ?_) (by rfl)))))
    refine wpAny_assignInOrder_none ?_
    have k7 : ∀ b o, b ≠ L → h4.get? b = some o → h7.get? b = some o := fun b o hb e => step s7 b o hb (step s6 b o hb (g5 b o e))
    have k7' : Keeps base h7 := fun b o e => k7 b o (off nL b o e) (k4 b o e)
    have hit7 : h7.IsListIter I tb (i + 1) := let ⟨o, e, r⟩ := hit4; ⟨o, k7 _ _ (Ne.symm hLI) e, r⟩
    obtain ⟨n7', hD7⟩ : h7.PlainList D us'.toArray := let ⟨o, e⟩ := hD'; ⟨o, k7 _ _ (Ne.symm hLD) (step hs4 _ _ hDI e)⟩
    have kb7 : KeepsBut L D s.heap h7 := fun b o h1 h2 e => k7 b o h1 (step hs4 b o (newI b o e) (hkb b o h1 h2 e))
    refine wpAny_execs_cons (wpAny_Expr ?_)
    refine MethodCall_ ?_
    refine wpAny_Name (wpAny_loadName_local (v := .ref D) (by rfl) (by rfl) n7 (by show m' "edges" = _; rw [hm' _ (by decide) (by decide)]; exact he) ?_)
    refine getMethod_list_of F.slot_list_extend F.type_list_extend ⟨_, hD7, rfl, _, rfl⟩ ⟨_, hD7, rfl⟩ ?_
    refine P.extend_list (x := eval _ _) ?_
    refine wpAny_List (wpAny_items_cons (wpAny_Name (wpAny_loadName_local (v := .int (ps[i]'lt).1 t1) (by rfl) (by rfl) n7 (by rfl) ?_)))
    refine wpAny_items_cons (wpAny_Name (wpAny_loadName_local (v := .int (ps[i]'lt).2 t2) (by rfl) (by rfl) n7 (by rfl) ?_))
    refine wpAny_items_nil ⟨show (2 : Nat) ≤ sizeLine by decide, ?_⟩
    dsimp only
    have ul : us'.length = es'.length := hus'.length
    have gD8 := Heap.get?_push_of_some { cls := .type "list", data := .seq [Value.int (ps[i]'lt).1 t1, .int (ps[i]'lt).2 t2].toArray } hD7
    refine ⟨_, us'.toArray, _, n7', 0, ?_, ?_, ?_, rfl, gD8, Heap.get?_push_size _ rfl, ?_⟩
    · rw [List.size_toArray, sizeLine_eq]; omega
    · simp only [List.size_toArray, List.length_cons, List.length_nil]; rw [sizeLine_eq]; omega
    · have : Builtin.List.listTooLong (us'.toArray.size + [Value.int (ps[i]'lt).1 t1, .int (ps[i]'lt).2 t2].toArray.size) = false := by
        unfold Builtin.List.listTooLong
        rw [decide_eq_false_iff_not]
        simp only [List.size_toArray, List.length_cons, List.length_nil]; rw [sizeLine_eq]; omega
      rw [this, Bool.and_false]
      exact Bool.false_ne_true
    have u8 := IsL.update gD8 (fun xs => xs ++ [Value.int (ps[i]'lt).1 t1, .int (ps[i]'lt).2 t2].toArray)
    have s8 : Heap.SameBut D (h7.push { cls := .type "list", data := .seq [Value.int (ps[i]'lt).1 t1, .int (ps[i]'lt).2 t2].toArray }) _ := Heap.SameBut.update (f := Obj.mapSeq fun xs => xs ++ [Value.int (ps[i]'lt).1 t1, .int (ps[i]'lt).2 t2].toArray) ..
    have k8 : ∀ b o, b ≠ D → h7.get? b = some o → _ := fun b o hb e => step s8 b o hb (Heap.get?_push_of_some _ e)
    refine wpAny_execs_nil ?_
    refine ⟨ps.length - (i + 1), by omega, _, _, _, us' ++ [.int (ps[i]'lt).1 t1, .int (ps[i]'lt).2 t2], es' ++ [(ps[i]'lt).1, (ps[i]'lt).2], i + 1, rfl, lt, rfl, (let ⟨o, e, r⟩ := hit7; ⟨o, k8 _ _ (Ne.symm hDI) e, r⟩), ⟨_, by simpa using u8⟩, hus'.append (.cons _ _ (.cons _ _ .nil)), ?_,
      (n7.keeps fun b o e => Heap.get?_push_of_some _ e).sameBut s8 hLD, fun y h1 h2 => ?_, fun b o e => k8 b o (off nD b o e) (k7' b o e), fun b o h1 h2 e => k8 b o h2 (kb7 b o h1 h2 e)⟩
    · simp; omega
    · rw [if_neg h2, if_neg h1]; exact hm' y h1 h2
  · obtain rfl : i = ps.length := Nat.le_antisymm hi ge
    refine wpAny_pyNext_list_end hh hit ⟨_, hkp _ _ hL, rfl, _, rfl⟩ (by simp [hlen]) fun h4 he4 => wpAny_execs_nil ?_
    exact h h4 tk m' us' es' (fun b o e => he4 b o (off nI b o e) (hkp b o e)) (fun b o h1 h2 e => he4 b o (newI b o e) (hkb b o h1 h2 e)) (hns'.extBut he4 hLI) hm' (let ⟨n, e⟩ := hD'; ⟨n, he4 _ _ hDI e⟩) hus' hel
end
end Mine

end partM5

section partM6
open PySem PySem.W PyProof.Rows PySem.Calls
set_option Elab.async false
set_option maxRecDepth 100000
namespace Mine

section
variable {w : World} {A : Around} {E : Value → Shared → Prop} {Q : Value → Shared → Prop} {hp : Heap} {gs : Array GenState} {dr : Drawn} {tk : Nat} {os : OsState} {env : Env}
theorem k_int {i : Int} {k : Nat} {pos : Pos} (h : ∀ t tk', Q (.int i t) ⟨hp, gs, dr, tk', os⟩) : wpAny (model pw w) A (eval (.Constant (.int i) k pos) env) Q E ⟨hp, gs, dr, tk, os⟩ := wpAny_Constant_int (h _ _)
theorem k_mod {a b : Int} {t u : Tok} (hb : b ≠ 0) (h : ∀ t tk', Q (.int (a.fmod b) t) ⟨hp, gs, dr, tk', os⟩) : wpAny (model pw w) A (binaryOp .Mod (.int a t) (.int b u)) Q E ⟨hp, gs, dr, tk, os⟩ := PyProof.Rows.mod_int' hb (h _ _)
theorem k_div {a b : Int} {t u : Tok} (hb : b ≠ 0) (hs : b.natAbs < 1073741824) (h : ∀ t tk', Q (.int (a.fdiv b) t) ⟨hp, gs, dr, tk', os⟩) : wpAny (model pw w) A (binaryOp .FloorDiv (.int a t) (.int b u)) Q E ⟨hp, gs, dr, tk, os⟩ :=
  PyProof.Rows.floordiv_int hb (h _ _) (Or.inl (PyProof.noPylong_small hs))
theorem k_add {a b : Int} {t u : Tok} (h : ∀ t tk', Q (.int (a + b) t) ⟨hp, gs, dr, tk', os⟩) : wpAny (model pw w) A (binaryOp .Add (.int a t) (.int b u)) Q E ⟨hp, gs, dr, tk, os⟩ := PyProof.Rows.add_int (h _ _)
theorem k_sub {a b : Int} {t u : Tok} (h : ∀ t tk', Q (.int (a - b) t) ⟨hp, gs, dr, tk', os⟩) : wpAny (model pw w) A (binaryOp .Sub (.int a t) (.int b u)) Q E ⟨hp, gs, dr, tk, os⟩ := PyProof.Rows.sub_int (h _ _)
theorem k_local {x : Str} {pos : Pos} {m : Str → Option Value} {v : Value} (hk : env.scope.kind = .function) (hl : env.kindOf x = some .local) (hns : hp.Ns env.locals m) (hv : m x = some v) (h : Q v ⟨hp, gs, dr, tk, os⟩)
    (hd : (x == ("__debug__" : Str)) = false := by decide) : wpAny (model pw w) A (eval (.Name x pos) env) Q E ⟨hp, gs, dr, tk, os⟩ := wpAny_Name (wpAny_loadName_local hk hl hns hv h) hd
theorem k_len {D : Addr} {vs : List Value} {n : Nat} (hl : hp.IsList D (List.toArray vs)) (hn : vs.length = n) (hb : n ≤ 1000000) (h : ∀ t tk', Q (.int n t) ⟨hp, gs, dr, tk', os⟩) :
    wpAny (model pw w) A (call (.builtin "len") [.ref D]) Q E ⟨hp, gs, dr, tk, os⟩ := by
  subst hn
  refine call_len_list hl (by rw [List.size_toArray]; omega) ?_
  rw [List.size_toArray]
  exact h _ _
theorem k_item {D : Addr} {vs : List Value} {ns : List Int} {k : Int} {u : Tok} {value slice : Expr} (hl : hp.IsList D (List.toArray vs)) (hi : IntsAre vs ns) (h0 : 0 ≤ k) (h1 : k < ns.length) (hb : ns.length ≤ 1000000)
    (h : ∀ e t, Q (.int e t) ⟨hp, gs, dr, tk, os⟩) (hs : subscripted slice false (.ref D) (.int k u) = operate [.ref D, .int k u] (getItem (.ref D) (.int k u)) := by with_unfolding_all rfl) :
    wpAny (model pw w) A (subscriptTail value slice (.ref D) (.int k u)) Q E ⟨hp, gs, dr, tk, os⟩ := by
  have hel : vs.length = ns.length := hi.length
  obtain ⟨te, hve⟩ := hi.int_at k.toNat (vs[k.toNat]'(by omega)) (List.getElem?_eq_getElem _)
  have hv' : vs[k.toNat]? = some (.int (ns.getD k.toNat 0) te) := by rw [List.getElem?_eq_getElem (by omega), hve]
  exact tail_any hl.typeIs slot_list_getitem.lookup (wpAny_getItem_list hl h0 (by omega) (x := .int (ns.getD k.toNat 0) te) (by simpa using hv') (h _ _)) hs
end

section
variable {w : World} {mg mb : Str → Option Value} {A : Around} {E : Value → Shared → Prop} {s : Shared} {base : Heap} {L D D2 a : Addr} {cd : Value} {m : Str → Option Value}

theorem b_len : bootBuiltins "len" = some (.builtin "len") := by decide +kernel
def numTarget : Expr := match (rec' 9).body with
  | _ :: _ :: _ :: .For t _ _ _ _ :: _ => t
  | _ => .List [] default
def numBody : List Stmt := match (rec' 9).body with
  | _ :: _ :: _ :: .For _ _ b _ _ :: _ => b
  | _ => []

def InRange (c : Int) : Prop := 0 ≤ c ∧ c < 1114112
theorem fmod_range {x n : Int} (hn : 0 < n) : 0 ≤ x.fmod n ∧ x.fmod n < n := ⟨Int.fmod_nonneg_of_pos x hn, Int.fmod_lt_of_pos x hn⟩

set_option maxHeartbeats 4000000 in
theorem numLoop {R : Result → Shared → Prop} {I src : Addr} {xs us : List Value} {nums : List Int} {edg : List Value} {es : List Int} (G : Gd w mg mb base) (hkb : Keeps base s.heap) (nL : base.get? L = none) (nD2 : base.get? D2 = none) (nI : base.get? I = none) (hh : A.handled = none)
    (hit : s.heap.IsListIter I src 0) (hsrc : s.heap.IsList src xs.toArray) (hxs : IntsAre xs nums) (hlen : nums.length ≤ 40)
    (hns : s.heap.Ns L m) (hme : m "edges" = some (.ref D)) (hmc : m "codes" = some (.ref D2)) (hD : s.heap.PlainList D edg.toArray) (hedg : IntsAre edg es) (hes : 0 < es.length ∧ es.length ≤ 100000)
    (hD2 : s.heap.PlainList D2 #[]) (hd : L ≠ D2 ∧ L ≠ D ∧ D ≠ D2 ∧ I ≠ L ∧ I ≠ D ∧ I ≠ D2 ∧ I ≠ src ∧ src ≠ L ∧ src ≠ D2)
    (hR : ∀ h' tk us' cs m', h'.PlainList D2 (List.toArray us') → IntsAre us' cs → (∀ c ∈ cs, InRange c) → cs.length ≤ 40 → h'.Ns L m' → m' "codes" = some (.ref D2) →
      (∀ b o, b ≠ L → b ≠ D2 → b ≠ I → s.heap.get? b = some o → h'.get? b = some o) → R (.ok .next) { s with heap := h', toks := tk }) :
    codeAny (model pw w) A (.forLoop numTarget (.ref I) numBody [] (envK L a cd)) R s := by
  obtain ⟨dL2, dLD, dD2, dIL, dID, dI2, dIs, dsL, ds2⟩ := hd
  have step : ∀ {x h' h'' : _}, Heap.SameBut x h' h'' → ∀ b o, b ≠ x → h'.get? b = some o → h''.get? b = some o := fun hs b o hb e => (hs.2 b hb).trans e
  refine codeAny_forLoop (target := numTarget) (fun k s' => ∃ h' tk m' us' cs i, s' = { s with heap := h', toks := tk } ∧ i ≤ nums.length ∧ k = nums.length - i ∧ h'.IsListIter I src i ∧ h'.PlainList D2 (List.toArray us') ∧ IntsAre us' cs ∧ (∀ c ∈ cs, InRange c) ∧ cs.length = i ∧ h'.Ns L m' ∧
    (∀ y : Str, y ≠ "number" → y ≠ "half" → m' y = m y) ∧ ∀ b o, b ≠ L → b ≠ D2 → b ≠ I → s.heap.get? b = some o → h'.get? b = some o) ?_ nums.length
    ⟨s.heap, s.toks, m, [], [], 0, rfl, Nat.zero_le _, rfl, hit, hD2, .nil, (by intro c hc; simp at hc), rfl, hns, fun _ _ _ => rfl, fun _ _ _ _ _ e => e⟩
  rintro k s' ⟨h', tk, m', us', cs, i, rfl, hi, rfl, hit', hD2', hus', hcs, hcl, hns', hm', hk⟩
  have hsrc' : h'.IsList src xs.toArray := let ⟨o, e, r⟩ := hsrc; ⟨o, hk _ _ dsL ds2 (Ne.symm dIs) e, r⟩
  have off : ∀ {x : Addr}, base.get? x = none → ∀ b o, base.get? b = some o → b ≠ x := fun hx b o e q => by rw [q, hx] at e; cases e
  have kb' : Keeps base h' := fun b o e => hk b o (off nL b o e) (off nD2 b o e) (off nI b o e) (hkb b o e)
  rcases Nat.lt_or_ge i nums.length with lt | ge
  · have hx : xs.length = nums.length := hxs.length
    obtain ⟨tx, hvx⟩ := hxs.int_at i (xs[i]'(by omega)) (List.getElem?_eq_getElem _)
    have hv : xs[i]? = some (.int (nums.getD i 0) tx) := by rw [List.getElem?_eq_getElem (by omega), hvx]
    generalize nums.getD i 0 = n at hv
    refine wpAny_pyNext_list_item hit' hsrc' (x := .int n tx) (by simpa using hv) fun h4 hit4 hs4 => ?_
    have n4 : h4.Ns L m' := hns'.sameBut hs4 (Ne.symm dIL)
    refine wpAny_bind (wpAny_standAt (wpAny_bindName (wpAny_storeName_local (m := m') (by rfl) n4 (fun h5 n5 s5 => ?_) (by rfl))))
    refine wpAny_execs_cons (wpAny_Assign_Name (wpAny_BinOp (wpAny_BinOp ?_)))
    refine k_local (v := .int n tx) (by rfl) (by rfl) n5 (by rfl) ?_
    refine k_int ?_; intro u1 k1
    refine k_div (by decide) (by decide) ?_; intro u2 k2
    refine k_int ?_; intro u3 k3
    refine k_mod (by decide) ?_; intro u4 k4
    have rhf : 0 ≤ (n.fdiv 2).fmod 2228224 ∧ (n.fdiv 2).fmod 2228224 < 2228224 := fmod_range (by decide)
    generalize (n.fdiv 2).fmod 2228224 = hf at rhf
    refine wpAny_storeName_local (by rfl) n5 (fun h6 n6 s6 => ?_) (by rfl)
    have k6 : ∀ b o, b ≠ L → b ≠ I → h'.get? b = some o → h6.get? b = some o := fun b o h1 h2 e => step s6 b o h1 (step s5 b o h1 (step hs4 b o h2 e))
    dsimp only
    refine wpAny_execs_cons (wpAny_If (wpAny_isTrue_Compare1 (wpAny_BinOp ?_)))
    refine k_local (v := .int n tx) (by rfl) (by rfl) n6 (by rfl) ?_
    refine k_int ?_; intro u5 k5
    refine k_mod (by decide) ?_; intro u6 k7
    refine k_int ?_; intro u7 k8
    refine PyProof.Rows.eq_int (wpAny_truthy_bool ?_)
    obtain ⟨n2, g2⟩ : h6.PlainList D2 us'.toArray := let ⟨o, e⟩ := hD2'; ⟨o, k6 _ _ (Ne.symm dL2) (Ne.symm dI2) e⟩
    have ul : us'.length = cs.length := hus'.length
    have fin : ∀ r tr tk', InRange r → ∃ m_1, m_1 < nums.length - i ∧ ∃ h'' tk'' m'' us'' cs'' i'', ({ s with heap := h6.update D2 (Obj.mapSeq fun xs => xs.push (.int r tr)), toks := tk' } : Shared) = { s with heap := h'', toks := tk'' } ∧ i'' ≤ nums.length ∧ m_1 = nums.length - i'' ∧
        h''.IsListIter I src i'' ∧ h''.PlainList D2 (List.toArray us'') ∧ IntsAre us'' cs'' ∧ (∀ c ∈ cs'', InRange c) ∧ cs''.length = i'' ∧ h''.Ns L m'' ∧
        (∀ y : Str, y ≠ "number" → y ≠ "half" → m'' y = m y) ∧ ∀ b o, b ≠ L → b ≠ D2 → b ≠ I → s.heap.get? b = some o → h''.get? b = some o := fun r tr tk' hr => by
      have u8 := IsL.update g2 (fun xs => xs.push (.int r tr))
      have s8 : Heap.SameBut D2 h6 (h6.update D2 (Obj.mapSeq fun xs => xs.push (.int r tr))) := Heap.SameBut.update ..
      have hit6 : h6.IsListIter I src (i + 1) := let ⟨o, e, q⟩ := hit4; ⟨o, step s6 _ _ dIL (step s5 _ _ dIL e), q⟩
      refine ⟨nums.length - (i + 1), by omega, _, tk', _, us' ++ [.int r tr], cs ++ [r], i + 1, rfl, lt, rfl, (let ⟨o, e, q⟩ := hit6; ⟨o, step s8 _ _ dI2 e, q⟩), ⟨_, by simpa using u8⟩, hus'.append (.cons _ _ .nil), ?_, by simp [hcl], n6.sameBut s8 dL2, ?_, ?_⟩
      · intro c hc
        rcases List.mem_append.mp hc with hc | hc
        · exact hcs c hc
        · rw [List.mem_singleton.mp hc]; exact hr
      · intro y h1 h2
        show (if y = "half" then _ else if y = "number" then _ else m' y) = m y
        rw [if_neg h2, if_neg h1]; exact hm' y h1 h2
      · exact fun b o h1 h2 h3 e => step s8 b o h2 (k6 b o h1 h3 (hk b o h1 h2 h3 e))
    cases c1 : (n.fmod 2 == 1) with
    | true =>
      refine wpAny_execs_cons (wpAny_Expr (MethodCall_ ?_))
      refine wpAny_Name (wpAny_loadName_local (v := .ref D2) (by rfl) (by rfl) n6 (by show m' "codes" = _; rw [hm' _ (by decide) (by decide)]; exact hmc) ?_)
      refine getMethod_list_append g2 rfl rfl ?_
      refine P.append_list (x := eval _ _) ?_
      refine wpAny_BinOp ?_
      refine k_local (v := .int hf u4) (by rfl) (by rfl) n6 (by rfl) ?_
      refine k_int ?_; intro u9 k9
      refine k_mod (by decide) ?_; intro u10 k10
      refine ⟨us'.toArray, n2, by rw [List.size_toArray, sizeLine_eq]; omega, g2, wpAny_execs_nil (wpAny_execs_nil (fin _ _ _ (fmod_range (by decide))))⟩
    | false =>
      refine wpAny_execs_cons (wpAny_Expr (MethodCall_ ?_))
      refine wpAny_Name (wpAny_loadName_local (v := .ref D2) (by rfl) (by rfl) n6 (by show m' "codes" = _; rw [hm' _ (by decide) (by decide)]; exact hmc) ?_)
      refine getMethod_list_append g2 rfl rfl ?_
      refine P.append_list (x := eval _ _) ?_
      have me6 : m' "edges" = some (.ref D) := by rw [hm' _ (by decide) (by decide)]; exact hme
      have hD6 : h6.IsList D edg.toArray := let ⟨o, e⟩ := hD; ⟨_, k6 _ _ (Ne.symm dLD) (Ne.symm dID) (hk _ _ (Ne.symm dLD) dD2 (Ne.symm dID) e), rfl, _, rfl⟩
      have G6 : Gd w mg mb h6 := G.keeps fun b o e => k6 b o (off nL b o e) (off nI b o e) (kb' b o e)
      have hel : edg.length = es.length := hedg.length
      have rk : 0 ≤ hf.fmod (es.length : Int) ∧ hf.fmod (es.length : Int) < (es.length : Int) := fmod_range (by omega)
      refine wpAny_BinOp (wpAny_BinOp (wpAny_BinOp ?_))
      refine Subscript_ ?_
      refine k_local (v := .ref D) (by rfl) (by rfl) n6 me6 ?_
      refine wpAny_BinOp ?_
      refine k_local (v := .int hf u4) (by rfl) (by rfl) n6 (by rfl) ?_
      refine Call_ (ev_blt G6 (by decide) b_len ?_)
      refine PyProof.Rows.callWith_builtin1 (wpAny_items_cons ?_)
      refine k_local (v := .ref D) (by rfl) (by rfl) n6 me6 ?_
      refine wpAny_items_nil ?_
      refine k_len hD6 hel (by omega) ?_; intro u9 k9
      refine k_mod (by omega) ?_; intro u10 k10
      refine k_item hD6 hedg rk.1 rk.2 (by omega) ?_; intro ev te
      refine wpAny_BinOp (wpAny_BinOp ?_)
      refine k_local (v := .int hf u4) (by rfl) (by rfl) n6 (by rfl) ?_
      refine Call_ (ev_blt G6 (by decide) b_len ?_)
      refine PyProof.Rows.callWith_builtin1 (wpAny_items_cons ?_)
      refine k_local (v := .ref D) (by rfl) (by rfl) n6 me6 ?_
      refine wpAny_items_nil ?_
      refine k_len hD6 hel (by omega) ?_; intro u11 k11
      refine k_div (by omega) (by omega) ?_; intro u12 k12
      refine k_int ?_; intro u13 k13
      refine k_mod (by decide) ?_; intro u14 k14
      refine k_add ?_; intro u15 k15
      refine k_int ?_; intro u16 k16
      refine k_sub ?_; intro u17 k17
      refine k_int ?_; intro u18 k18
      refine k_mod (by decide) ?_; intro u19 k19
      refine ⟨us'.toArray, n2, by rw [List.size_toArray, sizeLine_eq]; omega, g2, wpAny_execs_nil (wpAny_execs_nil (fin _ _ _ (fmod_range (by decide))))⟩
  · obtain rfl : i = nums.length := Nat.le_antisymm hi ge
    refine wpAny_pyNext_list_end hh hit' hsrc' (by simp [hxs.length]) fun h4 he4 => wpAny_execs_nil ?_
    refine hR h4 tk us' cs m' (let ⟨n, e⟩ := hD2'; ⟨n, he4 _ _ (Ne.symm dI2) e⟩) hus' hcs (by omega) (hns'.extBut he4 (Ne.symm dIL)) ((hm' _ (by decide) (by decide)).trans hmc) fun b o h1 h2 h3 e => he4 b o h3 (hk b o h1 h2 h3 e)
end
end Mine

end partM6

section partM7
open PySem PySem.W PyProof.Rows PySem.Calls
set_option Elab.async false
set_option maxRecDepth 100000
namespace Mine

def total (ts : List (List (Int × Int))) : Nat := (ts.map List.length).sum
theorem total_succ {ts : List (List (Int × Int))} {i : Nat} (lt : i < ts.length) : total (ts.take (i + 1)) = total (ts.take i) + (ts[i]'lt).length := by
  unfold total
  rw [List.take_add_one, List.getElem?_eq_getElem lt, List.map_append, List.sum_append]
  simp only [Option.toList_some, List.map_cons, List.map_nil, List.sum_cons, List.sum_nil, Nat.add_zero]
theorem total_le : ∀ (ts : List (List (Int × Int))) (i : Nat), total (ts.take i) ≤ total ts
  | [], i => by simp
  | t :: ts, 0 => by simp [total]
  | t :: ts, i + 1 => by
    have := total_le ts i
    unfold total at *
    simp only [List.take_succ_cons, List.map_cons, List.sum_cons]
    omega
theorem new_at {h h' : Heap} (k : Keeps h h') : h.get? h'.objs.size = none := by
  cases q : h.get? h'.objs.size with
  | none => rfl
  | some o => exact absurd (Heap.lt_size (k _ _ q)) (Nat.lt_irrefl _)
theorem ne_new {h : Heap} {b : Addr} {o : Obj} (e : h.get? b = some o) : b ≠ h.objs.size := Nat.ne_of_lt (Heap.lt_size e)

theorem IntsAre.take' : ∀ {vs : List Value} {ns : List Int}, IntsAre vs ns → ∀ k, IntsAre (vs.take k) (ns.take k)
  | _, _, .nil, k => by simpa using IntsAre.nil
  | _, _, .cons n t r, 0 => by simpa using IntsAre.nil
  | _, _, .cons n t r, k + 1 => by simpa using IntsAre.cons n t (IntsAre.take' r k)

section
variable {w : World} {mg mb : Str → Option Value} {A : Around} {E : Value → Shared → Prop} {s : Shared} {Q : Value → Shared → Prop}

set_option maxHeartbeats 4000000 in
theorem codes {a sc : Addr} {svs : List Value} {ns : List Int} {tv : Value} (G : Gd w mg mb s.heap) (hA : A.depth < recursionLimit) (hh : A.handled = none) (ha : mg "_law_codes" = some (.ref a))
    (hS : s.heap.IsList sc (List.toArray svs)) (hI : IntsAre svs ns) (hlen : ns.length ≤ 63) (hT : TabsAt s.heap tv theTabs)
    (h : ∀ ca cvs cs h' tk, Keeps s.heap h' → h'.IsList ca (List.toArray cvs) → IntsAre cvs cs → (∀ c ∈ cs, InRange c) → cs.length ≤ 40 → s.heap.get? ca = none → Q (.ref ca) { s with heap := h', toks := tk }) :
    wpAny (model pw w) A (call (.ref a) [.ref sc, tv]) Q E s := by
  refine call_def (d := rec' 9) (binds := [(("script" : Str), .ref sc), (("tables" : Str), tv)]) G (rec_mem 9 (by decide)) hA ha (fun pm code doc => by rfl) (fun cd h₁ F G₁ => ?_)
  have nL : s.heap.get? s.heap.objs.size = none := no_at (Nat.le_refl _)
  revert nL F
  generalize s.heap.objs.size = L
  intro F nL
  have step : ∀ {x h' h'' : _}, Heap.SameBut x h' h'' → ∀ b o, b ≠ x → h'.get? b = some o → h''.get? b = some o := fun hs b o hb e => (hs.2 b hb).trans e
  have off : ∀ {x : Addr}, s.heap.get? x = none → ∀ b o, s.heap.get? b = some o → b ≠ x := fun hx b o e q => by rw [q, hx] at e; cases e
  obtain ⟨oL, _, _, gL, _⟩ := id F.ns
  -- edges = []
  refine wpAny_execs_cons (wpAny_Assign_Name (wpAny_List (wpAny_items_nil ⟨Nat.zero_le _, ?_⟩)))
  have nD := new_at F.keep
  have hLD := ne_new gL
  refine wpAny_storeName_local (m := fun x => List.lookup x [(("script" : Str), Value.ref sc), (("tables" : Str), tv)].reverse) (by rfl) (F.ns.keeps fun b o e => Heap.get?_push_of_some _ e) (fun h2 n2 s2 => ?_) (by rfl)
  have gD : h2.get? h₁.objs.size = some { cls := .type "list", data := .seq [].toArray } := step s2 _ _ (Ne.symm hLD) (Heap.get?_push_size _ rfl)
  have k2 : Keeps s.heap h2 := fun b o e => step s2 b o (off nL b o e) (Heap.get?_push_of_some _ (F.keep b o e))
  dsimp only at n2 ⊢
  revert nD hLD gD
  generalize h₁.objs.size = D at n2 ⊢
  intro nD hLD gD
  -- the edges
  refine wpAny_execs_cons (wpAny_For ?_)
  obtain ⟨tbs, tvs, rfl, ⟨oT, goT, rT⟩, htl, htp⟩ := hT
  refine k_local (v := .ref tbs) (by rfl) (by rfl) n2 (by rfl) ?_
  refine wpAny_pyIter_list ⟨oT, k2 _ _ goT, rT⟩ ?_
  dsimp only
  obtain ⟨oL2, _, _, gL2, _⟩ := id n2
  have hLI := ne_new gL2
  have hDI := ne_new gD
  have nI := new_at k2
  have hit0 : (h2.push { cls := .type "list_iterator", data := .fields #[.ref tbs, .int 0 0] }).IsListIter h2.objs.size tbs 0 := ⟨_, Heap.get?_push_size _ rfl, rfl, rfl⟩
  have kp : Keeps h2 (h2.push { cls := .type "list_iterator", data := .fields #[.ref tbs, .int 0 0] }) := fun b o e => Heap.get?_push_of_some _ e
  revert hit0 kp hLI hDI nI
  generalize h2.push _ = H0
  generalize h2.objs.size = I
  intro hLI hDI nI hit0 kp
  refine codeAny_forLoop (fun k s' => ∃ h' tk m' us es i, s' = { s with heap := h', toks := tk } ∧ i ≤ theTabs.length ∧ k = theTabs.length - i ∧ h'.IsListIter I tbs i ∧ h'.PlainList D (List.toArray us) ∧ IntsAre us es ∧ es.length = 2 * total (theTabs.take i) ∧ h'.Ns L m' ∧
    m' "edges" = some (.ref D) ∧ m' "script" = some (.ref sc) ∧ Keeps s.heap h') ?_ theTabs.length
    ⟨H0, _, _, [], [], 0, rfl, Nat.zero_le _, rfl, hit0, ⟨_, kp _ _ gD⟩, .nil, rfl, n2.keeps kp, by rfl, by rfl, k2.trans kp⟩
  rintro k s' ⟨h', tk, m', us, es, i, rfl, hi, rfl, hit, hD', hus, hel, hns', hme, hms, hkp⟩
  rcases Nat.lt_or_ge i theTabs.length with lt | ge
  · have hv : tvs[i]? = some (tvs[i]'(by omega)) := List.getElem?_eq_getElem _
    have hp : theTabs[i]? = some (theTabs[i]'lt) := List.getElem?_eq_getElem _
    have hTi := htp i _ _ hv hp
    generalize (tvs[i]'(by omega)) = vi at hv hTi
    refine wpAny_pyNext_list_item hit ⟨oT, hkp _ _ goT, rT⟩ (x := vi) (by simpa using hv) fun h4 hit4 hs4 => ?_
    have k4 : Keeps s.heap h4 := fun b o e => step hs4 b o (off nI b o e) (hkp b o e)
    refine wpAny_bind (wpAny_standAt (wpAny_bindName (wpAny_storeName_local (m := m') (by rfl) (hns'.sameBut hs4 hLI) (fun h5 n5 s5 => ?_) (by rfl))))
    have k5 : Keeps s.heap h5 := fun b o e => step s5 b o (off nL b o e) (k4 b o e)
    have hD5 : h5.PlainList D us.toArray := let ⟨o, e⟩ := hD'; ⟨o, step s5 _ _ (Ne.symm hLD) (step hs4 _ _ hDI e)⟩
    have ht := total_succ lt
    have hle := total_le theTabs (i + 1)
    rw [show total theTabs = 35 by decide] at hle
    refine wpAny_execs_cons ?_
    show wpAny _ _ (exec innerFor (envK L a cd)) _ _ _
    refine inner (base := s.heap) (ps := theTabs[i]'lt) (tv := vi) (us := us) (es := es) hh hTi k5 nL nD hLD n5 (by rfl) (by exact hme) hD5 hus (by omega) ?_
    intro h6 tk6 m6 us6 es6 k6 kb6 n6 hm6 hD6 hus6 hel6
    refine wpAny_execs_nil ⟨theTabs.length - (i + 1), by omega, h6, tk6, m6, us6, es6, i + 1, rfl, lt, rfl, ?_, hD6, hus6, by omega, n6, ?_, ?_, k6⟩
    · obtain ⟨o, e, r⟩ := hit4
      exact ⟨o, kb6 I o (Ne.symm hLI) (Ne.symm hDI) (step s5 _ _ (Ne.symm hLI) e), r⟩
    · rw [hm6 _ (by decide) (by decide)]; exact hme
    · rw [hm6 _ (by decide) (by decide)]; exact hms
  · obtain rfl : i = theTabs.length := Nat.le_antisymm hi ge
    refine wpAny_pyNext_list_end hh hit ⟨oT, hkp _ _ goT, rT⟩ (by simp [htl]) fun h4 he4 => wpAny_execs_nil ?_
    have k4 : Keeps s.heap h4 := fun b o e => he4 b o (off nI b o e) (hkp b o e)
    have n4 : h4.Ns L m' := hns'.extBut he4 hLI
    obtain ⟨nD4, gD4⟩ : h4.PlainList D us.toArray := let ⟨o, e⟩ := hD'; ⟨o, he4 _ _ hDI e⟩
    rw [List.take_length, show total theTabs = 35 by decide] at hel
    clear hit he4 hD' hkp hns' hit0 kp
    -- codes = []
    dsimp only
    refine wpAny_execs_cons (wpAny_Assign_Name (wpAny_List (wpAny_items_nil ⟨Nat.zero_le _, ?_⟩)))
    obtain ⟨oL4, _, _, gL4, _⟩ := id n4
    have nD2 := new_at k4
    have hLD2 := ne_new gL4
    have hDD2 := ne_new gD4
    refine wpAny_storeName_local (m := m') (by rfl) (n4.keeps fun b o e => Heap.get?_push_of_some _ e) (fun h5 n5 s5 => ?_) (by rfl)
    have g2 : h5.get? h4.objs.size = some { cls := .type "list", data := .seq [].toArray } := step s5 _ _ (Ne.symm hLD2) (Heap.get?_push_size _ rfl)
    have gD5 : h5.get? D = some _ := step s5 _ _ (Ne.symm hLD) (Heap.get?_push_of_some _ gD4)
    have k5 : Keeps s.heap h5 := fun b o e => step s5 b o (off nL b o e) (Heap.get?_push_of_some _ (k4 b o e))
    dsimp only at n5 ⊢
    revert nD2 hLD2 hDD2 g2
    generalize h4.objs.size = D2 at n5 ⊢
    intro nD2 hLD2 hDD2 g2
    -- the numbers
    refine wpAny_execs_cons (wpAny_For ?_)
    refine wpAny_Or2 (wpAny_Subscript_list_slice ?_)
    have go : ∀ (R : Result → Shared → Prop) (E' : Value → Shared → Prop) (H : Heap) (src : Addr) (xs : List Value) (nums : List Int) (tk' : Nat), Keeps h5 H → H.IsList src (List.toArray xs) → IntsAre xs nums → nums.length ≤ 40 → h5.get? src = none →
        (∀ h' tk us' cs m', h'.PlainList D2 (List.toArray us') → IntsAre us' cs → (∀ c ∈ cs, InRange c) → cs.length ≤ 40 → h'.Ns L m' → m' "codes" = some (.ref D2) → Keeps s.heap h' → R (.ok .next) { s with heap := h', toks := tk }) →
        wpAny (model pw w) (A.deeper (envK L a cd)) (pyIter (.ref src)) (fun it s₂ => codeAny (model pw w) (A.deeper (envK L a cd)) (.forLoop numTarget it numBody [] (envK L a cd)) R s₂) E' ⟨H, s.gens, s.drawn, tk', s.os⟩ := by
      intro R E' H src xs nums tk' kH hsrc hxs hnl nsrc fin
      refine wpAny_pyIter_list hsrc ?_
      dsimp only
      have kH' : Keeps s.heap H := k5.trans kH
      obtain ⟨oL5, _, _, gL5, _⟩ := id n5
      obtain ⟨osrc, gsrc, _⟩ := id hsrc
      have offs : ∀ b o, h5.get? b = some o → src ≠ b := fun b o e q => by rw [← q, nsrc] at e; cases e
      have dI : ∀ b o, H.get? b = some o → H.objs.size ≠ b := fun b o e => Ne.symm (ne_new e)
      have pk : Keeps H (H.push { cls := .type "list_iterator", data := .fields #[.ref src, .int 0 0] }) := fun b o e => Heap.get?_push_of_some _ e
      refine numLoop (s := ⟨H.push { cls := .type "list_iterator", data := .fields #[.ref src, .int 0 0] }, s.gens, s.drawn, tk', s.os⟩) (base := s.heap) (L := L) (D := D) (D2 := D2) (us := us) (m := fun x => if x = "codes" then some (Value.ref D2) else m' x) G (kH'.trans pk) nL nD2 (new_at kH') hh ⟨_, Heap.get?_push_size _ rfl, rfl, rfl⟩
        (let ⟨o, e, r⟩ := hsrc; ⟨o, pk _ _ e, r⟩) hxs hnl (n5.keeps (kH.trans pk)) (by exact hme) (by rfl) ⟨_, pk _ _ (kH _ _ gD5)⟩ hus (by omega) ⟨_, pk _ _ (kH _ _ g2)⟩
        ⟨hLD2, hLD, hDD2, dI _ _ (kH _ _ gL5), dI _ _ (kH _ _ gD5), dI _ _ (kH _ _ g2), dI _ _ gsrc, offs _ _ gL5, offs _ _ g2⟩ ?_
      intro h' tk us' cs m6 p1 p2 p3 p4 p5 p6 p7
      exact fin h' tk us' cs m6 p1 p2 p3 p4 p5 p6 fun b o e => p7 b o (off nL b o e) (off nD2 b o e) (off (new_at kH') b o e) (pk _ _ (kH' b o e))
    have hS5 : h5.IsList sc svs.toArray := let ⟨o, e, r⟩ := hS; ⟨o, k5 _ _ e, r⟩
    have hsl : svs.length = ns.length := hI.length
    refine k_local (v := .ref sc) (by rfl) (by rfl) n5 (by exact hms) ?_
    refine wpAny_of_eq (evalPart_none _) ?_
    rw [evalPart_some]
    refine k_int ?_; intro u1 k1
    refine ⟨sc, svs.toArray, none, some 40, rfl, hS5, by rw [List.size_toArray, sizeLine_eq]; omega, .none, .int _ _, ?_⟩
    rw [show slicePick svs.toArray none (some 40) none = (svs.take 40).toArray from by simpa using slicePick_upto' svs.toArray 40]
    have kH : Keeps h5 ((h5.push { cls := .type "slice", data := .fields #[.none, .int 40 u1, .none] }).push { cls := .type "list", data := .seq (svs.take 40).toArray }) := fun b o e => Heap.get?_push_of_some _ (Heap.get?_push_of_some _ e)
    have gH : ((h5.push { cls := .type "slice", data := .fields #[.none, .int 40 u1, .none] }).push { cls := .type "list", data := .seq (svs.take 40).toArray }).IsList (h5.objs.size + 1) (svs.take 40).toArray :=
      ⟨{ cls := .type "list", data := .seq (svs.take 40).toArray }, by rw [← Heap.size_push h5 { cls := .type "slice", data := .fields #[.none, .int 40 u1, .none] }]; exact Heap.get?_push_size _ rfl, rfl, _, rfl⟩
    dsimp only
    revert kH gH
    generalize (h5.push _).push _ = H
    intro kH gH
    have nsrc : h5.get? (h5.objs.size + 1) = none := no_at (Nat.le_succ _)
    refine wpAny_truthy_list gH (by rw [List.size_toArray, List.length_take]; omega) ?_
    have closing : ∀ h' tk us' cs m', h'.PlainList D2 (List.toArray us') → IntsAre us' cs → (∀ c ∈ cs, InRange c) → cs.length ≤ 40 → h'.Ns L m' → m' "codes" = some (.ref D2) → Keeps s.heap h' → Q (.ref D2) { s with heap := h', toks := tk } :=
      fun h' tk us' cs m' p1 p2 p3 p4 _ _ p7 => h D2 us' cs h' tk p7 p1.isList p2 p3 p4 nD2
    cases hb : (svs.take 40).toArray.isEmpty with
    | false =>
      refine go _ _ H (h5.objs.size + 1) (svs.take 40) (ns.take 40) _ kH gH (IntsAre.take' hI 40) (by rw [List.length_take]; omega) nsrc ?_
      intro h' tk us' cs m6 p1 p2 p3 p4 p5 p6 p7
      refine wpAny_execs_cons (wpAny_Return_some ?_)
      refine k_local (v := .ref D2) (by rfl) (by rfl) p5 p6 ?_
      exact closing h' tk us' cs m6 p1 p2 p3 p4 p5 p6 p7
    | true =>
      refine wpAny_List (wpAny_items_cons ?_)
      refine k_int ?_; intro u2 k2'
      refine wpAny_items_nil ⟨show (1 : Nat) ≤ sizeLine by decide, ?_⟩
      refine go _ _ _ H.objs.size [.int 0 u2] [0] _ (kH.trans fun b o e => Heap.get?_push_of_some _ e) ⟨_, Heap.get?_push_size _ rfl, rfl, _, rfl⟩ (.cons _ _ .nil) (by decide) (new_at kH) ?_
      intro h' tk us' cs m6 p1 p2 p3 p4 p5 p6 p7
      refine wpAny_execs_cons (wpAny_Return_some ?_)
      refine k_local (v := .ref D2) (by rfl) (by rfl) p5 p6 ?_
      exact closing h' tk us' cs m6 p1 p2 p3 p4 p5 p6 p7
end
end Mine

end partM7

section partM8
open PySem PySem.W PyProof.Rows PySem.Calls
set_option Elab.async false
set_option maxRecDepth 100000
namespace Mine

/-- the first comprehension of the law's turn, and the second -/
def cmpOne : Expr := match (rec' 10).body with
  | _ :: .For _ _ (_ :: _ :: .If (.Compare e _ _ _) _ _ _ :: _) _ _ :: _ => e
  | _ => .List [] default
def cmpIn : Expr := match (rec' 10).body with
  | _ :: .For _ _ (_ :: _ :: _ :: .If (.Compare _ _ [e] _) _ _ _ :: _) _ _ :: _ => e
  | _ => .List [] default
theorem b_isi : bootBuiltins "isinstance" = some (.builtin "isinstance") := by decide +kernel
theorem b_bool : bootBuiltins "bool" = some (.type "bool") := by decide +kernel
theorem t_bool : typeOf (.type "bool") = pure (.type "type") := by kernel_rfl
theorem s_bool : isSubtype (.type "bool") (.type "bool") = pure true := by rw [isSubtype_type]; kernel_rfl
abbrev envL (L a : Addr) (cd : Value) : Env := envC (rec' 10) L a cd

section
variable {w : World} {mg mb : Str → Option Value} {A : Around} {E : Value → Shared → Prop} {Q : Value → Shared → Prop} {hp : Heap} {gs : Array GenState} {dr : Drawn} {tk : Nat} {os : OsState} {L a : Addr} {cd : Value} {m : Str → Option Value}

theorem ev_one {T : Addr} {bs : List Bool} (G : Gd w mg mb hp) (hh : A.handled = none) (hns : hp.Ns L m) (ht : m "told" = some (.ref T)) (hT : hp.IsList T (bs.map Value.bool).toArray)
    (h : ∀ D h' tk', Keeps hp h' → h'.IsList D #[] → Q (.ref D) ⟨h', gs, dr, tk', os⟩) : wpAny (model pw w) A (eval cmpOne (envL L a cd)) Q E ⟨hp, gs, dr, tk, os⟩ := by
  refine wpAny_ListComp (by decide +kernel) (by rfl) (by decide +kernel) ?_
  refine k_local (v := .ref T) (by rfl) (by rfl) hns ht ?_
  refine wpAny_pyIter_list hT ?_
  dsimp only
  refine wpAny_newObj_type (wpAny_newFunctionEnv (by decide +kernel) (by intro y hy; simp at hy) (fun h₃ hn3 hsb => ?_) (by rfl))
  obtain ⟨K3, gI, gD⟩ := compAt_of rfl rfl hsb
  dsimp only at hn3 ⊢
  revert hn3 K3 gI gD
  generalize hp.objs.size = I
  generalize Array.size _ = C
  generalize Array.size _ = D
  intro hn3 K3 gI gD
  have hit0 : h₃.IsListIter I T 0 := ⟨_, gI, rfl, rfl⟩
  have step : ∀ {x h' h'' : _}, Heap.SameBut x h' h'' → ∀ b o, b ≠ x → h'.get? b = some o → h''.get? b = some o := fun hs b o hb e => (hs.2 b hb).trans e
  have off : ∀ {x : Addr}, hp.get? x = none → ∀ b o, hp.get? b = some o → b ≠ x := fun hx b o e q => by rw [q, hx] at e; cases e
  refine codeAny_compStart_list ?l (wpAny_pyIter_listiter hit0 ?l)
  refine kct_loop (fun k s' => ∃ h' tk' m' i, s' = ⟨h', gs, dr, tk', os⟩ ∧ i ≤ bs.length ∧ k = bs.length - i ∧ h'.IsListIter I T i ∧ h'.IsList D #[] ∧ h'.Ns C m' ∧ Keeps hp h') ?_ bs.length
    ⟨h₃, _, _, 0, rfl, Nat.zero_le _, rfl, hit0, ⟨_, gD, rfl, _, rfl⟩, hn3, K3.keep⟩
  rintro k s' ⟨h', tk', m', i, rfl, hi, rfl, hit, hD, hC, hkp⟩
  obtain ⟨oT, goT, rT⟩ := hT
  rcases Nat.lt_or_ge i bs.length with lt | ge
  · refine wpAny_pyNext_list_item hit ⟨oT, hkp _ _ goT, rT⟩ (x := .bool (bs[i]'lt)) (by simp [lt]) fun h4 hit4 hs4 => ?_
    have k4 : Keeps hp h4 := fun b o e => step hs4 b o (off K3.newI b o e) (hkp b o e)
    refine wpAny_of_eq (a := ()) (by rfl) ?_
    refine wpAny_bind (wpAny_standAt (wpAny_bindName (wpAny_storeName_local (m := m') (by rfl) (hC.sameBut hs4 (Ne.symm K3.neIC)) (fun h5 n5 s5 => ?_) (by rfl))))
    have k5 : Keeps hp h5 := fun b o e => step s5 b o (off K3.newC b o e) (k4 b o e)
    refine wpAny_isTrue_Not (wpAny_isTrue_value ?_)
    refine Call_ (ev_blt (G.keeps k5) (by decide) b_isi ?_)
    refine PyProof.Rows.callWith_builtin1 (wpAny_items_cons ?_)
    refine k_local (v := .bool (bs[i]'lt)) (by rfl) (by rfl) n5 (by rfl) ?_
    refine wpAny_items_cons (ev_blt (G.keeps k5) (by decide) b_bool ?_)
    refine wpAny_items_nil (call_isinstance_yes (Tx := "bool") rfl t_bool s_bool (wpAny_truthy_bool ?_))
    refine ⟨bs.length - (i + 1), by omega, h5, _, _, i + 1, rfl, lt, rfl, ?_, ?_, n5, k5⟩
    · exact let ⟨o, e, r⟩ := hit4; ⟨o, step s5 _ _ K3.neIC e, r⟩
    · exact let ⟨o, e, r⟩ := hD; ⟨o, step s5 _ _ K3.neDC (step hs4 _ _ (Ne.symm K3.neID) e), r⟩
  · obtain rfl : i = bs.length := Nat.le_antisymm hi ge
    refine wpAny_pyNext_list_end hh hit ⟨oT, hkp _ _ goT, rT⟩ (by simp) fun h4 he4 => ?_
    refine ⟨m', hC.at' fun o e => he4 C o (Ne.symm K3.neIC) e, fun h5 hs5 => ?_⟩
    exact h D h5 tk' (fun b o e => step hs5 b o (off K3.newC b o e) (he4 b o (off K3.newI b o e) (hkp b o e))) (let ⟨o, e, r⟩ := hD; ⟨o, step hs5 _ _ K3.neDC (he4 _ _ (Ne.symm K3.neID) e), r⟩)

theorem ev_in {c : Int} {t : Tok} {tv : Value} (G : Gd w mg mb hp) (hA : A.depth < recursionLimit) (hU : A.units + 80 < cLine) (hh : A.handled = none) (hns : hp.Ns L m) (ht : m "ranges" = some tv) (hT : TabsAt hp tv theTabs) (hc : hp.IsCell (L + 1) (some (.int c t)))
    (h : ∀ D h' tk', Keeps hp h' → h'.IsList D ((theTabs.map fun ps => Value.bool (inPairs ps c)).toArray) → Q (.ref D) ⟨h', gs, dr, tk', os⟩) : wpAny (model pw w) A (eval cmpIn (envL L a cd)) Q E ⟨hp, gs, dr, tk, os⟩ := by
  show wpAny _ _ (comprehension cmpIn _ _ _ _ _ _) _ _ _
  refine wpAny_comprehension_free (use := none) (cl := [(("point" : Str), L + 1)]) rfl (fun _ => rfl) (by rfl) (by rfl) (by decide +kernel) ?_
  refine k_local (v := tv) (by rfl) (by rfl) hns ht ?_
  obtain ⟨tb, vs, rfl, hT0, hlen, hps⟩ := hT
  obtain ⟨aw, ow, pmw, cdw, docw, hw1, hw2, hw3, hw4⟩ := G.fn (rec' 8) (rec_mem 8 (by decide))
  refine wpAny_pyIter_list hT0 ?_
  dsimp only
  refine wpAny_newObj_type (wpAny_newFunctionEnv (by decide +kernel) (by intro y hy; simp at hy) (fun h₃ hn3 hsb => ?_) (by rfl))
  obtain ⟨K3, gI, gD⟩ := compAt_of rfl rfl hsb
  dsimp only at hn3 ⊢
  revert hn3 K3 gI gD
  generalize hp.objs.size = I
  generalize Array.size _ = C
  generalize Array.size _ = D
  intro hn3 K3 gI gD
  have hit0 : h₃.IsListIter I tb 0 := ⟨_, gI, rfl, rfl⟩
  have step : ∀ {x h' h'' : _}, Heap.SameBut x h' h'' → ∀ b o, b ≠ x → h'.get? b = some o → h''.get? b = some o := fun hs b o hb e => (hs.2 b hb).trans e
  have off : ∀ {x : Addr}, hp.get? x = none → ∀ b o, hp.get? b = some o → b ≠ x := fun hx b o e q => by rw [q, hx] at e; cases e
  refine codeAny_compStart_list ?l (wpAny_pyIter_listiter hit0 ?l)
  refine codeAny_compLoop_list (fun k s' => ∃ h' tk' m' i, s' = ⟨h', gs, dr, tk', os⟩ ∧ i ≤ theTabs.length ∧ k = theTabs.length - i ∧ h'.IsListIter I tb i ∧ h'.IsList D (((theTabs.take i).map fun ps => Value.bool (inPairs ps c)).toArray) ∧ h'.Ns C m' ∧ Keeps hp h') ?_ theTabs.length
    ⟨h₃, _, _, 0, rfl, Nat.zero_le _, rfl, hit0, ⟨_, gD, rfl, _, rfl⟩, hn3, K3.keep⟩
  rintro k s' ⟨h', tk', m', i, rfl, hi, rfl, hit, hD, hC, hkp⟩
  obtain ⟨oT, goT, rT⟩ := hT0
  rcases Nat.lt_or_ge i theTabs.length with lt | ge
  · have hv : vs[i]? = some (vs[i]'(by omega)) := List.getElem?_eq_getElem _
    have hpp : theTabs[i]? = some (theTabs[i]'lt) := List.getElem?_eq_getElem _
    have hTi := hps i _ _ hv hpp
    have hle : (theTabs[i]'lt).length ≤ 1000 := by
      have h1 := total_succ lt
      have h2 := total_le theTabs (i + 1)
      rw [show total theTabs = 35 by decide] at h2
      omega
    generalize (vs[i]'(by omega)) = vi at hv hTi
    refine wpAny_pyNext_list_item hit ⟨oT, hkp _ _ goT, rT⟩ (x := vi) (by simpa using hv) fun h4 hit4 hs4 => ?_
    have k4 : Keeps hp h4 := fun b o e => step hs4 b o (off K3.newI b o e) (hkp b o e)
    refine wpAny_bind (wpAny_standAt (wpAny_bindName (wpAny_storeName_local (m := m') (by rfl) (hC.sameBut hs4 (Ne.symm K3.neIC)) (fun h5 n5 s5 => ?_) (by rfl))))
    have k5 : Keeps hp h5 := fun b o e => step s5 b o (off K3.newC b o e) (k4 b o e)
    have hit5 : h5.IsListIter I tb (i + 1) := let ⟨o, e, r⟩ := hit4; ⟨o, step s5 _ _ K3.neIC e, r⟩
    have hD5 : h5.IsList D _ := let ⟨o, e, r⟩ := hD; ⟨o, step s5 _ _ K3.neDC (step hs4 _ _ (Ne.symm K3.neID) e), r⟩
    dsimp only at n5 ⊢
    refine Call_ (ev_glob (v := .ref aw) (G.keeps k5) (by exact hw1) ?_)
    refine callWith_def_at hw2 hw3 (wpAny_items_cons ?_)
    refine wpAny_Name (wpAny_loadName_cell (c := L + 1) (by rfl) (by rfl) (by rfl) (let ⟨o, e, r⟩ := hc; ⟨o, k5 _ _ e, r⟩) ?_)
    refine wpAny_items_cons ?_
    refine k_local (v := vi) (by rfl) (by rfl) n5 (by rfl) ?_
    refine wpAny_items_nil ⟨k5 _ _ hw2, ?_⟩
    refine within (ps := theTabs[i]'lt) (G.keeps k5) hA hU hh (by exact hw1) (hTi.keeps k5) hle ?_
    intro h6 tk6 k6
    refine wpAny_list_append (let ⟨o, e, r⟩ := hD5; ⟨o, k6 _ _ e, r⟩) (fun h7 hD7 hs7 => ?_) (by rw [List.size_toArray, List.length_map, List.length_take, sizeLine_eq]; have : theTabs.length = 7 := rfl; omega)
    refine ⟨theTabs.length - (i + 1), by omega, h7, _, _, i + 1, rfl, lt, rfl, ?_, ?_, (n5.keeps k6).sameBut hs7 (Ne.symm K3.neDC), fun b o e => step hs7 b o (off K3.newD b o e) (k6 b o (k5 b o e))⟩
    · exact let ⟨o, e, r⟩ := hit5; ⟨o, step hs7 _ _ K3.neID (k6 _ _ e), r⟩
    · rw [List.take_add_one, List.getElem?_eq_getElem lt, List.map_append]
      rw [List.push_toArray] at hD7
      exact hD7
  · obtain rfl : i = theTabs.length := Nat.le_antisymm hi ge
    refine wpAny_pyNext_list_end hh hit ⟨oT, hkp _ _ goT, rT⟩ (by simp [hlen]) fun h4 he4 => ?_
    refine ⟨m', hC.at' fun o e => he4 C o (Ne.symm K3.neIC) e, fun h5 hs5 => ?_⟩
    rw [List.take_length] at hD
    exact h D h5 tk' (fun b o e => step hs5 b o (off K3.newC b o e) (he4 b o (off K3.newI b o e) (hkp b o e))) (let ⟨o, e, r⟩ := hD; ⟨o, step hs5 _ _ K3.neDC (he4 _ _ (Ne.symm K3.neID) e), r⟩)
end
end Mine

end partM8

section partM9
open PySem PySem.W PyProof.Rows PySem.Calls
set_option Elab.async false
set_option maxRecDepth 100000
namespace Mine

/-- the sequences of the heap stand -/
def KSeq (h h' : Heap) : Prop := ∀ b o, (∃ xs n, o.data = .seq xs n) → h.get? b = some o → h'.get? b = some o
theorem KSeq.trans {h h' h'' : Heap} (x : KSeq h h') (y : KSeq h' h'') : KSeq h h'' := fun b o q e => y b o q (x b o q e)
theorem Keeps.kseq {h h' : Heap} (k : Keeps h h') : KSeq h h' := fun b o _ e => k b o e
theorem kseq_same {h h' : Heap} {x : Addr} {o : Obj} (hs : Heap.SameBut x h h') (hx : h.get? x = some o) (hd : ∀ xs n, o.data ≠ .seq xs n) : KSeq h h' := fun b o' ⟨xs, n, q⟩ e => by
  refine (hs.2 b fun z => ?_).trans e
  subst z
  rw [e] at hx
  cases hx
  exact hd _ _ q
theorem PairAt.kseq {h h' : Heap} {v : Value} {p : Int × Int} (x : PairAt h v p) (k : KSeq h h') : PairAt h' v p := by
  obtain ⟨a, t, u, e, o, ho, hc, n, hd⟩ := x
  exact ⟨a, t, u, e, o, k _ _ ⟨_, _, hd⟩ ho, hc, n, hd⟩
theorem TabAt.kseq {h h' : Heap} {v : Value} {ps : List (Int × Int)} (x : TabAt h v ps) (k : KSeq h h') : TabAt h' v ps := by
  obtain ⟨a, vs, e, ⟨n, ho⟩, hl, hp⟩ := x
  exact ⟨a, vs, e, ⟨n, k _ _ ⟨_, _, rfl⟩ ho⟩, hl, fun i v p h1 h2 => (hp i v p h1 h2).kseq k⟩
theorem TabsAt.kseq {h h' : Heap} {v : Value} {ts : List (List (Int × Int))} (x : TabsAt h v ts) (k : KSeq h h') : TabsAt h' v ts := by
  obtain ⟨a, vs, e, ⟨o, ho, hc, n, hd⟩, hl, hp⟩ := x
  exact ⟨a, vs, e, ⟨o, k _ _ ⟨_, _, hd⟩ ho, hc, n, hd⟩, hl, fun i v p h1 h2 => (hp i v p h1 h2).kseq k⟩
theorem isList_kseq {h h' : Heap} {a : Addr} {xs : Array Value} (x : h.IsList a xs) (k : KSeq h h') : h'.IsList a xs := by
  obtain ⟨o, ho, hc, n, hd⟩ := x
  exact ⟨o, k _ _ ⟨_, _, hd⟩ ho, hc, n, hd⟩

/-- where the law stands in its loop -/
structure St (hB base : Heap) (L C I ca : Addr) (i : Nat) (h : Heap) (m : Str → Option Value) (v : Option Value) : Prop where
  ns : h.Ns L m
  cell : h.IsCell C v
  it : h.IsListIter I ca i
  keep : Keeps base h
  kseq : KSeq hB h
structure Apart (base : Heap) (L C I : Addr) : Prop where
  nL : base.get? L = none
  nC : base.get? C = none
  nI : base.get? I = none
  dLC : L ≠ C
  dLI : L ≠ I
  dCI : C ≠ I
section
variable {hB base : Heap} {L C I ca : Addr} {i : Nat} {h h' : Heap} {m m' : Str → Option Value} {v v' : Option Value}
theorem off' {x : Addr} (hx : base.get? x = none) : ∀ b o, base.get? b = some o → b ≠ x := fun b o e q => by rw [q, hx] at e; cases e
theorem step' {x : Addr} (hs : Heap.SameBut x h h') : ∀ b o, b ≠ x → h.get? b = some o → h'.get? b = some o := fun b o hb e => (hs.2 b hb).trans e
theorem St.keeps (x : St hB base L C I ca i h m v) (k : Keeps h h') : St hB base L C I ca i h' m v :=
  ⟨x.ns.keeps k, let ⟨o, e, r⟩ := x.cell; ⟨o, k _ _ e, r⟩, let ⟨o, e, r⟩ := x.it; ⟨o, k _ _ e, r⟩, x.keep.trans k, x.kseq.trans k.kseq⟩
theorem St.store (x : St hB base L C I ca i h m v) (a : Apart base L C I) (hs : Heap.SameBut L h h') (n : h'.Ns L m') : St hB base L C I ca i h' m' v :=
  ⟨n, let ⟨o, e, r⟩ := x.cell; ⟨o, step' hs _ _ (Ne.symm a.dLC) e, r⟩, let ⟨o, e, r⟩ := x.it; ⟨o, step' hs _ _ (Ne.symm a.dLI) e, r⟩, fun b o e => step' hs b o (off' a.nL b o e) (x.keep b o e),
    let ⟨_, _, _, e, d, _⟩ := x.ns; x.kseq.trans (kseq_same hs e fun xs n q => by rw [d] at q; cases q)⟩
theorem St.point (x : St hB base L C I ca i h m v) (a : Apart base L C I) (hs : Heap.SameBut C h h') (n : h'.IsCell C v') : St hB base L C I ca i h' m v' :=
  ⟨x.ns.sameBut hs a.dLC, n, let ⟨o, e, r⟩ := x.it; ⟨o, step' hs _ _ (Ne.symm a.dCI) e, r⟩, fun b o e => step' hs b o (off' a.nC b o e) (x.keep b o e),
    let ⟨_, e, d⟩ := x.cell; x.kseq.trans (kseq_same hs e fun xs n q => by rw [d] at q; cases q)⟩
theorem St.next {j : Nat} (x : St hB base L C I ca i h m v) (a : Apart base L C I) (hs : Heap.SameBut I h h') (n : h'.IsListIter I ca j) : St hB base L C I ca j h' m v :=
  ⟨x.ns.sameBut hs a.dLI, let ⟨o, e, r⟩ := x.cell; ⟨o, step' hs _ _ a.dCI e, r⟩, n, fun b o e => step' hs b o (off' a.nI b o e) (x.keep b o e),
    let ⟨_, e, _, d⟩ := x.it; x.kseq.trans (kseq_same hs e fun xs n q => by rw [d] at q; cases q)⟩
end

theorem c11_is {c : Int} (hc : InRange c) : decide (c.toNat = 32) = inPairs tab1 c := by
  obtain ⟨h0, h1⟩ := hc
  simp only [inPairs, tab1, List.any_cons, List.any_nil, Bool.or_false]
  rw [Bool.eq_iff_iff]
  simp only [Bool.and_eq_true, decide_eq_true_eq]
  omega
theorem c4_is {c : Int} (hc : InRange c) : c4 c.toNat = inPairs tab2 c := by
  obtain ⟨h0, h1⟩ := hc
  rw [Bool.eq_iff_iff]
  unfold c4 inPairs tab2 planes
  simp only [List.any_append, List.any_cons, List.any_nil, Bool.or_false, Bool.or_eq_true, Bool.and_eq_true, decide_eq_true_eq, List.any_eq_true, List.mem_map, List.mem_range]
  constructor
  · intro h
    split at h
    · cases h
    · split at h
      · left; omega
      · right
        simp only [Bool.or_eq_true, decide_eq_true_eq] at h
        refine ⟨_, ⟨c.toNat / 65536, by omega, rfl⟩, ?_⟩
        simp only
        omega
  · rintro (h | ⟨p, ⟨q, hq, rfl⟩, h⟩)
    · rw [if_neg (by omega), if_pos (by omega)]
    · simp only at h
      rw [if_neg (by omega), if_neg (by omega)]
      simp only [Bool.or_eq_true, decide_eq_true_eq]
      omega
theorem set_is {c : Int} (hc : InRange c) (S : Int → Bool) : S (c.toNat : Int) = S c := by rw [Int.toNat_of_nonneg hc.1]
end Mine

end partM9

section partM10
open PySem PySem.W PyProof.Rows PySem.Calls PySem.SeqAt
set_option Elab.async false
set_option maxRecDepth 100000
namespace Mine

def toldE : Expr := match (rec' 10).body with
  | _ :: .For _ _ (_ :: .Assign _ e _ :: _) _ _ :: _ => e
  | _ => .List [] default
def toldOf (k : Nat) : List Bool := [inPairs tab0 k, decide (k = 32), c4 k, inPairs tab3 k, inPairs tab4 k, inPairs tab5 k, inPairs tab6 k]

theorem readsAll_bools {h : Heap} : ∀ bs : List Bool, ReadsAll h (bs.map Value.bool) (bs.map PyData.bool) []
  | [] => by simpa using ReadsAll.nil
  | b :: r => by simpa using ReadsAll.cons (Reads.bool b) (readsAll_bools r)
theorem canLay_bools : ∀ bs : List Bool, PyData.canLayAll0 (bs.map PyData.bool) = true
  | [] => by simp [PyData.canLayAll0]
  | n :: r => by simp [PyData.canLayAll0, PyData.canLay0, canLay_bools r]
theorem depth_bools : ∀ bs : List Bool, PyData.depthAll (bs.map PyData.bool) ≤ 1
  | [] => by simp [PyData.depthAll]
  | n :: r => by have := depth_bools r; simp only [List.map_cons, PyData.depthAll, PyData.depth]; omega
theorem shaped_bools (bs : List Bool) : shaped (.list (bs.map PyData.bool)) = true := by
  have h1 := depth_bools bs
  have h2 : PyData.depth (.list (bs.map PyData.bool)) ≤ 64 := by simp only [PyData.depth]; omega
  show (PyData.canLay0 _ && decide (PyData.depth _ ≤ 64)) = true
  rw [Bool.and_eq_true]
  exact ⟨by simp only [PyData.canLay0]; exact canLay_bools bs, decide_eq_true h2⟩
theorem noMix_bools : ∀ bs cs : List Bool, noMixAll (bs.map PyData.bool) (cs.map PyData.bool) = true
  | [], [] => by simp [noMixAll]
  | [], _ :: _ => by simp [noMixAll]
  | _ :: _, [] => by simp [noMixAll]
  | _ :: r, _ :: q => by simp [noMixAll, noMix, noMix_bools r q]
theorem same_bools : ∀ bs : List Bool, PySem.Spec.sameAll (bs.map PyData.bool) (bs.map PyData.bool) = true
  | [] => by simp [PySem.Spec.sameAll]
  | n :: r => by simp [PySem.Spec.sameAll, PySem.Spec.same, same_bools r]
theorem told_is {c : Int} (hc : InRange c) : toldOf c.toNat = theTabs.map fun ps => inPairs ps c := by
  unfold toldOf
  rw [c11_is hc, c4_is hc, set_is hc (inPairs tab0), set_is hc (inPairs tab3), set_is hc (inPairs tab4), set_is hc (inPairs tab5), set_is hc (inPairs tab6)]
  rfl

section
variable {w : World} {mg mb : Str → Option Value} {A : Around} {E : Value → Shared → Prop} {Q : Value → Shared → Prop} {hp : Heap} {gs : Array GenState} {dr : Drawn} {tk : Nat} {os : OsState} {L a : Addr} {cd : Value} {m : Str → Option Value}

theorem ne_bools {x y : Addr} {bs : List Bool} (hx : hp.IsList x (bs.map Value.bool).toArray) (hy : hp.IsList y (bs.map Value.bool).toArray) (hu : A.units + 64 < cLine) (h : Q (.bool false) ⟨hp, gs, dr, tk, os⟩) :
    wpAny (model pw w) A (compareOp .NotEq (.ref x) (.ref y)) Q E ⟨hp, gs, dr, tk, os⟩ := by
  obtain ⟨o, ho, hc, n, hd⟩ := hx
  obtain ⟨o', ho', hc', n', hd'⟩ := hy
  refine ne_dataH_same (Reads.list ho hc hd (by simpa using readsAll_bools bs)) (Reads.list ho' hc' hd' (by simpa using readsAll_bools bs)) (shaped_bools bs) (shaped_bools bs) hu (by simp only [noMix]; exact noMix_bools bs bs) ?_
  simp only [PySem.Spec.same]
  rw [same_bools]
  exact h

theorem told_set {d : DefRec} {sn : Str} {S : Int → Bool} {k : Nat} {t : Tok} {q1 q2 q3 p1 p2 p3 p4 p5 p6 : Pos} {R : Value → Shared → Prop} (G : Gd w mg mb hp) (hA : A.depth < recursionLimit) (hns : hp.Ns L m) (hmk : m "mark" = some (.str ⟨#[k]⟩ t))
    (hm : d ∈ recsOf qv) (hS : (sn, S) ∈ theSets)
    (hb : d.body = [.Return (some (.Compare (.Call (.Name "ord" p1) [.Name "code" p2] [] p3) [.In] [.Name sn p4] p5)) p6])
    (hbind : ∀ pm code doc v, bindArgs (docDef d.name d.params d.body d.scope pm code doc) ⟨[v], []⟩ = pure [(("code" : Str), v)])
    (hsc : (decide (d.scope.kind = .function) && decide (d.scope.names.lookup ("code" : Str) = some .local) && decide (d.scope.names.lookup ("ord" : Str) = some .globalImplicit) && decide (d.scope.names.lookup sn = some .globalImplicit)
      && decide (d.scope.isCoroutine = false) && decide (d.scope.isGenerator = false) && d.scope.names.all fun x => decide (x.2 ≠ .cell)) = true)
    (hdb : (sn == ("__debug__" : Str)) = false) (hx : (envL L a cd).kindOf d.name = some .globalImplicit) (hdn : (d.name == ("__debug__" : Str)) = false)
    (h : ∀ h' tk', Keeps hp h' → R (.bool (S k)) ⟨h', gs, dr, tk', os⟩) :
    wpAny (model pw w) A (eval (.Call (.Name d.name q1) [.Name "mark" q2] [] q3) (envL L a cd)) R E ⟨hp, gs, dr, tk, os⟩ := by
  obtain ⟨fa, o, pm, code, doc, h1, h2, h3, h4⟩ := G.fn d hm
  obtain ⟨sa, n, s1, s2⟩ := G.set sn S hS
  refine Call_ (ev_glob (v := .ref fa) G h1 ?_ rfl rfl hx hdn)
  refine callWith_def_at h2 h3 (wpAny_items_cons ?_)
  refine k_local (v := .str ⟨#[k]⟩ t) (by rfl) (by rfl) hns hmk ?_
  refine wpAny_items_nil ⟨h2, ?_⟩
  exact in_set G hm hA h1 s1 s2 hb hbind hsc hdb h
end
end Mine

end partM10

section partM11
open PySem PySem.W PyProof.Rows PySem.Calls PySem.SeqAt
set_option Elab.async false
set_option maxRecDepth 100000
namespace Mine
section
variable {w : World} {mg mb : Str → Option Value} {A : Around} {E : Value → Shared → Prop} {Q : Value → Shared → Prop} {hp : Heap} {gs : Array GenState} {dr : Drawn} {tk : Nat} {os : OsState} {L a : Addr} {cd : Value} {m : Str → Option Value}

set_option maxHeartbeats 4000000 in
theorem ev_told {k : Nat} {t : Tok} (G : Gd w mg mb hp) (hA : A.depth < recursionLimit) (hns : hp.Ns L m) (hmk : m "mark" = some (.str ⟨#[k]⟩ t))
    (h : ∀ T h' tk', Keeps hp h' → h'.IsList T ((toldOf k).map Value.bool).toArray → Q (.ref T) ⟨h', gs, dr, tk', os⟩) : wpAny (model pw w) A (eval toldE (envL L a cd)) Q E ⟨hp, gs, dr, tk, os⟩ := by
  refine wpAny_List (wpAny_items_cons ?_)
  refine told_set (d := rec' 0) G hA hns hmk (rec_mem 0 (by decide)) (sn := "b1_set") (S := inPairs tab0) (by simp [theSets]) (by rfl) (fun _ _ _ _ => by rfl) (by decide +kernel) (by decide) (by rfl) (by decide +kernel) ?_
  intro h1 tk1 k1
  refine wpAny_items_cons ?_
  obtain ⟨fa, o, pm, code, doc, f1, f2, f3, f4⟩ := G.fn (rec' 1) (rec_mem 1 (by decide))
  refine Call_ (ev_glob (v := .ref fa) (G.keeps k1) (by exact f1) ?_)
  refine callWith_def_at f2 f3 (wpAny_items_cons ?_)
  refine k_local (v := .str ⟨#[k]⟩ t) (by rfl) (by rfl) (hns.keeps k1) hmk ?_
  refine wpAny_items_nil ⟨k1 _ _ f2, ?_⟩
  refine in_c11 (G.keeps k1) hA (by exact f1) ?_
  intro h2 tk2 k2'
  have k2 := k1.trans k2'
  refine wpAny_items_cons ?_
  obtain ⟨fb, o', pm', code', doc', g1, g2, g3, g4⟩ := G.fn (rec' 2) (rec_mem 2 (by decide))
  refine Call_ (ev_glob (v := .ref fb) (G.keeps k2) (by exact g1) ?_)
  refine callWith_def_at g2 g3 (wpAny_items_cons ?_)
  refine k_local (v := .str ⟨#[k]⟩ t) (by rfl) (by rfl) (hns.keeps k2) hmk ?_
  refine wpAny_items_nil ⟨k2 _ _ g2, ?_⟩
  refine in_c4 (G.keeps k2) hA (by exact g1) ?_
  intro h3 tk3 k3'
  have k3 := k2.trans k3'
  refine wpAny_items_cons ?_
  refine told_set (d := rec' 3) (G.keeps k3) hA (hns.keeps k3) hmk (rec_mem 3 (by decide)) (sn := "c6_set") (S := inPairs tab3) (by simp [theSets]) (by rfl) (fun _ _ _ _ => by rfl) (by decide +kernel) (by decide) (by rfl) (by decide +kernel) ?_
  intro h4 tk4 k4'
  have k4 := k3.trans k4'
  refine wpAny_items_cons ?_
  refine told_set (d := rec' 4) (G.keeps k4) hA (hns.keeps k4) hmk (rec_mem 4 (by decide)) (sn := "c7_set") (S := inPairs tab4) (by simp [theSets]) (by rfl) (fun _ _ _ _ => by rfl) (by decide +kernel) (by decide) (by rfl) (by decide +kernel) ?_
  intro h5 tk5 k5'
  have k5 := k4.trans k5'
  refine wpAny_items_cons ?_
  refine told_set (d := rec' 5) (G.keeps k5) hA (hns.keeps k5) hmk (rec_mem 5 (by decide)) (sn := "c8_set") (S := inPairs tab5) (by simp [theSets]) (by rfl) (fun _ _ _ _ => by rfl) (by decide +kernel) (by decide) (by rfl) (by decide +kernel) ?_
  intro h6 tk6 k6'
  have k6 := k5.trans k6'
  refine wpAny_items_cons ?_
  refine told_set (d := rec' 6) (G.keeps k6) hA (hns.keeps k6) hmk (rec_mem 6 (by decide)) (sn := "c9_set") (S := inPairs tab6) (by simp [theSets]) (by rfl) (fun _ _ _ _ => by rfl) (by decide +kernel) (by decide) (by rfl) (by decide +kernel) ?_
  intro h7 tk7 k7'
  have k7 := k6.trans k7'
  refine wpAny_items_nil ⟨show (7 : Nat) ≤ sizeLine by decide, ?_⟩
  exact h _ _ _ (fun b o e => Heap.get?_push_of_some _ (k7 b o e)) ⟨_, Heap.get?_push_size _ rfl, rfl, _, rfl⟩
end
end Mine

end partM11

section partM12
open PySem PySem.W PyProof.Rows PySem.Calls PySem.SeqAt
set_option Elab.async false
set_option maxRecDepth 100000
namespace Mine
section
variable {w : World} {mg mb : Str → Option Value} {A : Around} {E : Value → Shared → Prop} {Q : Value → Shared → Prop} {s : Shared}

set_option maxHeartbeats 4000000 in
theorem law_ok {a sc : Addr} {svs : List Value} {ns : List Int} (G : Gd w mg mb s.heap) (hA : A.depth + 1 < recursionLimit) (hU : A.units + 90 < cLine) (hh : A.handled = none) (ha : mg "law" = some (.ref a))
    (hS : s.heap.IsList sc (List.toArray svs)) (hI : IntsAre svs ns) (hlen : ns.length ≤ 63)
    (h : ∀ h' tk, Keeps s.heap h' → Q (.bool true) { s with heap := h', toks := tk }) : wpAny (model pw w) A (call (.ref a) [.ref sc]) Q E s := by
  have hA1 : A.depth < recursionLimit := Nat.lt_of_succ_lt hA
  refine call_defC (d := rec' 10) (binds := [(("script" : Str), .ref sc)]) G (rec_mem 10 (by decide)) hA1 ha (fun pm code doc => by rfl) (fun x hx => ?_) (fun cd s₁ X G₁ => ?_)
  · simp only [List.mem_cons, List.not_mem_nil, or_false] at hx
    subst hx
    left; kernel_rfl
  obtain ⟨h₁, tk₁, rfl, hk₁⟩ := X.done
  have hc0 := X.cell "point" (s.heap.objs.size + 1) (by rfl)
  have hn0 := X.toInCall.ns
  have nL : s.heap.get? s.heap.objs.size = none := no_at (Nat.le_refl _)
  have nC : s.heap.get? (s.heap.objs.size + 1) = none := no_at (Nat.le_succ _)
  clear X
  have hA' : (A.deeper (envL s.heap.objs.size a cd)).depth < recursionLimit := hA
  have hU' : (A.deeper (envL s.heap.objs.size a cd)).units + 80 < cLine := by show A.units + 3 + 80 < cLine; omega
  have hh' : (A.deeper (envL s.heap.objs.size a cd)).handled = none := hh
  show wpAny _ (A.deeper (envL s.heap.objs.size a cd)) (execs _ (envL s.heap.objs.size a cd)) _ _ _
  revert hn0 hc0 nL nC hA' hU' hh'
  generalize s.heap.objs.size = L
  intro hc0 hn0 nL nC hA' hU' hh'
  generalize A.deeper (envL L a cd) = A1 at hA' hU' hh' ⊢
  -- ranges
  refine wpAny_execs_cons (wpAny_Assign_Name ?_)
  obtain ⟨fa, o, pm, code, doc, f1, f2, f3, f4⟩ := G.fn (rec' 7) (rec_mem 7 (by decide))
  refine Call_ (ev_glob (v := .ref fa) G₁ (by exact f1) ?_)
  refine callWith_function (evalArgs_empty ⟨⟨hk₁ _ _ f2, f3⟩, ?_⟩)
  refine tables G₁ hA' hU' hh' (by exact f1) ?_
  intro tv h2 tk2 k2 hT
  refine wpAny_storeName_local (by rfl) (hn0.keeps k2) (fun h3 n3 s3 => ?_) (by rfl)
  dsimp only at n3 s3 ⊢
  have k3 : Keeps s.heap h3 := fun b o e => step' s3 b o (off' nL b o e) (k2 _ _ (hk₁ b o e))
  have q3 : KSeq h2 h3 := let ⟨_, _, _, e, d, _⟩ := hn0.keeps k2; kseq_same s3 e fun xs n q => by rw [d] at q; cases q
  have hT3 := hT.kseq q3
  have c3 : h3.IsCell (L + 1) none := let ⟨o, e, r⟩ := hc0; ⟨o, step' s3 _ _ (Nat.ne_of_gt (Nat.lt_succ_self L)) (k2 _ _ e), r⟩
  -- the loop
  refine wpAny_execs_cons (wpAny_For ?_)
  obtain ⟨fb, o', pm', code', doc', g1, g2, g3, g4⟩ := G.fn (rec' 9) (rec_mem 9 (by decide))
  refine Call_ (ev_glob (v := .ref fb) (G.keeps k3) (by exact g1) ?_)
  refine callWith_def_at g2 g3 (wpAny_items_cons ?_)
  refine k_local (v := .ref sc) (by rfl) (by rfl) n3 (by rfl) ?_
  refine wpAny_items_cons ?_
  refine k_local (v := tv) (by rfl) (by rfl) n3 (by rfl) ?_
  refine wpAny_items_nil ⟨k3 _ _ g2, ?_⟩
  refine codes (G.keeps k3) hA' hh' (by exact g1) (let ⟨o, e, r⟩ := hS; ⟨o, k3 _ _ e, r⟩) hI hlen hT3 ?_
  intro ca cvs cs h4 tk4 k4 hca hcv hcr hcl hcn
  refine wpAny_pyIter_list hca ?_
  dsimp only
  have n4 := n3.keeps k4
  have c4' : h4.IsCell (L + 1) none := let ⟨o, e, r⟩ := c3; ⟨o, k4 _ _ e, r⟩
  have K4 := k3.trans k4
  have T4 := hT3.keeps k4
  obtain ⟨_, _, _, gL, _⟩ := id n4
  obtain ⟨_, gC, _⟩ := id c4'
  have dLI := ne_new gL
  have dCI := ne_new gC
  have nI := new_at K4
  have hit0 : (h4.push { cls := .type "list_iterator", data := .fields #[.ref ca, .int 0 0] }).IsListIter h4.objs.size ca 0 := ⟨_, Heap.get?_push_size _ rfl, rfl, rfl⟩
  have kp : Keeps h4 (h4.push { cls := .type "list_iterator", data := .fields #[.ref ca, .int 0 0] }) := fun b o e => Heap.get?_push_of_some _ e
  revert hit0 kp dLI dCI nI
  generalize h4.push _ = H0
  generalize h4.objs.size = I
  intro dLI dCI nI hit0 kp
  have ap : Apart s.heap L (L + 1) I := ⟨nL, nC, nI, Nat.ne_of_lt (Nat.lt_succ_self L), dLI, dCI⟩
  have S0 : St H0 s.heap L (L + 1) I ca 0 H0 _ none := ⟨n4.keeps kp, let ⟨o, e, r⟩ := c4'; ⟨o, kp _ _ e, r⟩, hit0, K4.trans kp, fun _ _ _ e => e⟩
  have T0 := T4.keeps kp
  have ca0 : H0.IsList ca cvs.toArray := let ⟨o, e, r⟩ := hca; ⟨o, kp _ _ e, r⟩
  refine codeAny_forLoop (fun k s' => ∃ h' tk m' v0 i, s' = ⟨h', s.gens, s.drawn, tk, s.os⟩ ∧ i ≤ cs.length ∧ k = cs.length - i ∧ St H0 s.heap L (L + 1) I ca i h' m' v0 ∧ m' "ranges" = some tv) ?_ cs.length
    ⟨H0, _, _, none, 0, rfl, Nat.zero_le _, rfl, S0, by rfl⟩
  rintro k s' ⟨h', tk, m', v0, i, rfl, hi, rfl, S, hmr⟩
  have hcl' : cvs.length = cs.length := hcv.length
  rcases Nat.lt_or_ge i cs.length with lt | ge
  · obtain ⟨tx, hvx⟩ := hcv.int_at i (cvs[i]'(by omega)) (List.getElem?_eq_getElem _)
    have hv : cvs[i]? = some (.int (cs.getD i 0) tx) := by rw [List.getElem?_eq_getElem (by omega), hvx]
    have hr : InRange (cs.getD i 0) := hcr _ (by rw [List.getD_eq_getElem?_getD, List.getElem?_eq_getElem lt]; exact List.getElem_mem lt)
    generalize cs.getD i 0 = n at hv hr
    refine wpAny_pyNext_list_item S.it (isList_kseq ca0 S.kseq) (x := .int n tx) (by simpa using hv) fun h5 hit5 hs5 => ?_
    have S5 := S.next ap hs5 hit5
    refine wpAny_bind (wpAny_standAt (wpAny_bindName (wpAny_storeName_cell (c := L + 1) (v₀ := v0) (by rfl) (by rfl) (by rfl) S5.cell fun h6 c6 s6 => ?_)))
    have S6 := S5.point ap s6 c6
    dsimp only
    -- mark
    refine wpAny_execs_cons (wpAny_Assign_Name ?_)
    refine Call_ (ev_blt (G.keeps S6.keep) (by decide) b_chr ?_)
    refine PyProof.Rows.callWith_builtin1 (wpAny_items_cons ?_)
    refine wpAny_Name (wpAny_loadName_cell (c := L + 1) (v := .int n tx) (by rfl) (by rfl) (by rfl) S6.cell ?_)
    refine wpAny_items_nil (chr_of_range hr.1 (by have := hr.2; omega) ?_)
    refine wpAny_storeName_local (m := m') (by rfl) S6.ns (fun h7 n7 s7 => ?_) (by rfl)
    have S7 := S6.store ap s7 n7
    dsimp only at n7 S7 ⊢
    -- told
    refine wpAny_execs_cons (wpAny_Assign_Name ?_)
    show wpAny _ _ (eval toldE (envL L a cd)) _ _ _
    refine ev_told (k := n.toNat) (G.keeps S7.keep) hA' n7 (by rfl) ?_
    intro T h8 tk8 k8 hTl
    have S8 := S7.keeps k8
    obtain ⟨oT, gT, rT⟩ := hTl
    have hTL : T ≠ L := fun q => by
      obtain ⟨_, _, _, e, d, _⟩ := S8.ns
      rw [← q, gT] at e
      cases e
      obtain ⟨_, _, r⟩ := rT
      rw [d] at r
      cases r
    refine wpAny_storeName_local (by rfl) S8.ns (fun h9 n9 s9 => ?_) (by rfl)
    have S9 := S8.store ap s9 n9
    have gT9 := step' s9 _ _ hTL gT
    dsimp only at n9 S9 ⊢
    -- the first test
    refine wpAny_execs_cons (wpAny_If (wpAny_isTrue_Compare1 ?_))
    show wpAny _ _ (eval cmpOne (envL L a cd)) _ _ _
    refine ev_one (bs := toldOf n.toNat) (G.keeps S9.keep) hh' n9 (by rfl) ⟨oT, gT9, rT⟩ ?_
    intro D h10 tk10 k10 hD
    refine wpAny_List (wpAny_items_nil ⟨Nat.zero_le _, ?_⟩)
    have k11 : Keeps h9 (h10.push { cls := .type "list", data := .seq [].toArray }) := fun b o e => Heap.get?_push_of_some _ (k10 b o e)
    refine ne_intsK (vs := []) (us := []) (let ⟨o, e, r⟩ := hD; ⟨o, Heap.get?_push_of_some _ e, r⟩) .nil ⟨_, Heap.get?_push_size _ rfl, rfl, _, rfl⟩ .nil (by omega) ?_
    have S11 := S9.keeps k11
    have gT11 := k11 _ _ gT9
    dsimp only at S11 gT11 k11 ⊢
    revert S11 gT11
    generalize h10.push _ = h11
    intro S11 gT11
    refine wpAny_truthy_bool ?_
    refine wpAny_execs_nil ?_
    -- the second test
    dsimp only
    refine wpAny_execs_cons (wpAny_If (wpAny_isTrue_Compare1 ?_))
    refine k_local (v := .ref T) (by rfl) (by rfl) S11.ns (by rfl) ?_
    show wpAny _ _ (eval cmpIn (envL L a cd)) _ _ _
    refine ev_in (c := n) (t := tx) (tv := tv) (G.keeps S11.keep) hA' hU' hh' S11.ns (by exact hmr) (T0.kseq S11.kseq) S11.cell ?_
    intro D2 h12 tk12 k12 hD2
    have S12 := S11.keeps k12
    refine ne_bools (bs := toldOf n.toNat) ⟨oT, k12 _ _ gT11, rT⟩ ?hd (by omega) ?_
    case hd =>
      rw [told_is hr, List.map_map]
      exact hD2
    refine wpAny_truthy_bool ?_
    refine wpAny_execs_nil ?_
    refine wpAny_execs_nil ?_
    exact ⟨cs.length - (i + 1), by omega, h12, _, _, _, i + 1, rfl, lt, rfl, S12, by exact hmr⟩
  · obtain rfl : i = cs.length := Nat.le_antisymm hi ge
    refine wpAny_pyNext_list_end hh' S.it (isList_kseq ca0 S.kseq) (by simp [hcl']) fun h5 he5 => wpAny_execs_nil ?_
    dsimp only
    refine wpAny_execs_cons (wpAny_Return_some (wpAny_Constant_bool ?_))
    exact h h5 tk fun b o e => he5 b o (off' nI b o e) (S.keep b o e)
end
end Mine

end partM12

noncomputable section partHA
open PySem PySem.W PyProof.Rows PySem.Calls
set_option Elab.async false
set_option maxRecDepth 100000
set_option linter.unusedVariables false
namespace Mine
abbrev N (o : Obj) (l r : BT) : BT := .node o l r
abbrev N1 (o : Obj) : BT := .node o .nil .nil
abbrev X : BT := .nil
def D (P : Params) (k : Str) (t : Tok) (v : Value) : DictEntry := ⟨PyData.keyHash P k, .str k t, v⟩
def E (n : Int) (t : Tok) : Int × Value := (n, .int n t)
def led (P : Params) : Bool := !P.followText "set-order"
def tabOf (b : Bool) (mask : Nat) (place : Array Nat) (finger moves : Nat) : SetTable := { mask := mask, place := place, dummies := #[], finger := finger, led := b, moves := moves, plain := true }
def life0 : Life := {}
def drawn0 : Drawn := {}
def q0 : Pos := ⟨0, 0, 0, 0⟩
def ann0 : Option Value := some (.ref 6)
def env0 : Env := { scope := pw.main.scope, locals := mainNs, globals := mainNs, cells := [], code := .ref 13, frame := some 14 }
def code0 : Code := .body (behindTheImports pw) env0
def stAt (i : Nat) : Stmt := pw.main.body.getD i (.Pass q0)
def st (i : Nat) : List Stmt := [stAt i]
def fdOf (i : Nat) (g : Addr) (pm code : Value) : FuncData := match stAt i with
  | .FunctionDef n a b _ _ _ sc _ _ _ => { docDef n a b sc pm code .none with globals := g }
  | _ => default
def bo (f : Params → Obj) (_ : Bool) (P : Params) : Obj := f P
def W00 (w : World) : World := (w.withFollow "set-order" false).withFollow "special-get-raises" false
def W01 (w : World) : World := (w.withFollow "set-order" false).withFollow "special-get-raises" true
def W10 (w : World) : World := (w.withFollow "set-order" true).withFollow "special-get-raises" false
def W11 (w : World) : World := (w.withFollow "set-order" true).withFollow "special-get-raises" true
theorem led00 (w : World) : led (W00 w).params = true := by kernel_rfl
theorem led01 (w : World) : led (W01 w).params = true := by kernel_rfl
theorem led10 (w : World) : led (W10 w).params = false := by kernel_rfl
theorem led11 (w : World) : led (W11 w).params = false := by kernel_rfl
theorem byFour {P : Bool → World → Prop} (a : ∀ w, P true (W00 w)) (b : ∀ w, P true (W01 w)) (c : ∀ w, P false (W10 w)) (d : ∀ w, P false (W11 w)) (w : World) : P (led w.params) w := by
  have e1 := World.withFollow_self w "set-order"
  have e2 := World.withFollow_self w "special-get-raises"
  generalize w.params.followText "set-order" = x at e1
  generalize w.params.followText "special-get-raises" = y at e2
  cases x <;> cases y
  · have e : W00 w = w := by unfold W00; rw [e1, e2]
    have := a w; rw [← led00 w] at this; rw [e] at this; exact this
  · have e : W01 w = w := by unfold W01; rw [e1, e2]
    have := b w; rw [← led01 w] at this; rw [e] at this; exact this
  · have e : W10 w = w := by unfold W10; rw [e1, e2]
    have := c w; rw [← led10 w] at this; rw [e] at this; exact this
  · have e : W11 w = w := by unfold W11; rw [e1, e2]
    have := d w; rw [← led11 w] at this; rw [e] at this; exact this
def stackOf : Option (SharedT × Thread) → List Frame
  | some (_, t) => t.stack
  | none => []
def frAt (l : List Frame) (i : Nat) : Frame := l.getD i (.gen 0 (fun _ => .unsupported "") [] code0 q0)
def rK (l : List Frame) : Result → Sem Fin := match frAt l 0 with | .ret k _ _ _ _ _ _ => k | _ => fun _ => .unsupported ""
def rH (l : List Frame) : Option Value := match frAt l 0 with | .ret _ h _ _ _ _ _ => h | _ => none
def rG (l : List Frame) : Bool := match frAt l 0 with | .ret _ _ g _ _ _ _ => g | _ => false
def rL (l : List Frame) : List Value := match frAt l 0 with | .ret _ _ _ l _ _ _ => l | _ => []
def rC (l : List Frame) : Code := match frAt l 0 with | .ret _ _ _ _ c _ _ => c | _ => code0
def rP (l : List Frame) : Pos := match frAt l 0 with | .ret _ _ _ _ _ p _ => p | _ => q0
def rT (l : List Frame) : List Value := match frAt l 0 with | .ret _ _ _ _ _ _ k => k | _ => []
def o11v0 (b : Bool) (P : Params) : Obj := ⟨(.type "tuple"), none, (.seq ⟨[]⟩ 0), ⟨[]⟩⟩
def o12v0 (b : Bool) (P : Params) : Obj := ⟨.none, none, (.fields ⟨[]⟩), ⟨[]⟩⟩
def o13v0 (b : Bool) (P : Params) : Obj := ⟨(.type "code"), none, (.fields ⟨[(.str "<module>" 182), (.str "<module>" 183), (.str "/claim/cut.py" 184), (.int 1 0), (.int 0 0), (.int 0 0), (.int 0 0), (.int 0 0), (.ref 11), (.bool false), (.int 181 0), (.ref 12), .none, .none, .none, .none, (.int 185 0), (.int 1 0), (.str "/claim/cut.py" 186)]⟩), ⟨[]⟩⟩
def o14v0 (b : Bool) (P : Params) : Obj := ⟨(.type "frame"), none, .plain, ⟨[(some (.ref 13)), (some (.ref 3)), (some (.ref 3)), none, (some (.str "__main__" 164)), none, (some (.ref 0))]⟩⟩
def T0 (b : Bool) (P : Params) : BT := (N (bo boot_o_0 b P) (N (bo boot_o_1 b P) (N (bo boot_o_3 b P) (N1 (bo boot_o_7 b P)) (N1 (o11v0 b P))) (N (bo boot_o_5 b P) (N1 (bo boot_o_9 b P)) (N1 (o13v0 b P)))) (N (bo boot_o_2 b P) (N (bo boot_o_4 b P) (N1 (bo boot_o_8 b P)) (N1 (o12v0 b P))) (N (bo boot_o_6 b P) (N1 (bo boot_o_10 b P)) (N1 (o14v0 b P)))))
def S0 (b : Bool) (v : World) (os : OsState) : SharedT := ⟨T0 b v.params, 15, life0, ⟨[]⟩, drawn0, 187, os⟩
-- statement 0: 9 steps, 0 heads, cuts []
def o3v0 (b : Bool) (P : Params) : Obj := ⟨(.type "dict"), none, (.dict ⟨[D P "__name__" 165 (.str "cpy313.stringprep" 187), D P "__doc__" 166 .none, D P "__package__" 167 .none, D P "__loader__" 168 (.builtin "__main__.__loader__#opaque"), D P "__spec__" 169 .none, D P "__annotations__" 170 (.ref 6), D P "__builtins__" 171 (.ref 4), D P "__file__" 173 (.str "/claim/cut.py" 172), D P "__cached__" 174 .none]⟩ 9), ⟨[]⟩⟩
def T1 (b : Bool) (P : Params) : BT := (N (bo boot_o_0 b P) (N (bo boot_o_1 b P) (N (o3v0 b P) (N1 (bo boot_o_7 b P)) (N1 (o11v0 b P))) (N (bo boot_o_5 b P) (N1 (bo boot_o_9 b P)) (N1 (o13v0 b P)))) (N (bo boot_o_2 b P) (N (bo boot_o_4 b P) (N1 (bo boot_o_8 b P)) (N1 (o12v0 b P))) (N (bo boot_o_6 b P) (N1 (bo boot_o_10 b P)) (N1 (o14v0 b P)))))
def S1 (b : Bool) (v : World) (os : OsState) : SharedT := ⟨T1 b v.params, 15, life0, ⟨[]⟩, drawn0, 189, os⟩
def th0 (pos : Pos) : Thread := piecesOf (st 0) env0 code0 pos [topFrame q0]
def g0x0L (b : Bool) (v : World) (os : OsState) := segRunT treeTable pw v 11 ann0 1 10 (S0 b v os) (th0 ⟨0, 0, 0, 0⟩)
def g0x0R (b : Bool) (v : World) (os : OsState) : Option (Flow × SharedT × Code × Pos) := some (.next, S1 b v os, code0, ⟨1, 0, 1, 8⟩)
def g0x0Lff (w : World) := g0x0L true (W00 w)
def g0x0Rff (w : World) := g0x0R true (W00 w)
theorem g0x0ff_a : (fun (_ : Unit → Unit) => true) (fun _ => let _ := @g0x0Lff; let _ := @g0x0Rff; ()) = true := by k_qdec
theorem g0x0ff : @g0x0Lff = @g0x0Rff := PySem.W.Fast.te15152481250249192447.trans (Eq.trans (show @PySem.W.Fast.tw15152481250249192447 = @PySem.W.Fast.tw6202325621571162086 by kernel_rfl) PySem.W.Fast.te6202325621571162086.symm)
def g0x0Lft (w : World) := g0x0L true (W01 w)
def g0x0Rft (w : World) := g0x0R true (W01 w)
theorem g0x0ft_a : (fun (_ : Unit → Unit) => true) (fun _ => let _ := @g0x0Lft; let _ := @g0x0Rft; ()) = true := by k_qdec
theorem g0x0ft : @g0x0Lft = @g0x0Rft := PySem.W.Fast.te9649586622524394797.trans (Eq.trans (show @PySem.W.Fast.tw9649586622524394797 = @PySem.W.Fast.tw14565979221326080973 by kernel_rfl) PySem.W.Fast.te14565979221326080973.symm)
def g0x0Ltf (w : World) := g0x0L false (W10 w)
def g0x0Rtf (w : World) := g0x0R false (W10 w)
theorem g0x0tf_a : (fun (_ : Unit → Unit) => true) (fun _ => let _ := @g0x0Ltf; let _ := @g0x0Rtf; ()) = true := by k_qdec
theorem g0x0tf : @g0x0Ltf = @g0x0Rtf := PySem.W.Fast.te7709125964890856261.trans (Eq.trans (show @PySem.W.Fast.tw7709125964890856261 = @PySem.W.Fast.tw2168687631076244261 by kernel_rfl) PySem.W.Fast.te2168687631076244261.symm)
def g0x0Ltt (w : World) := g0x0L false (W11 w)
def g0x0Rtt (w : World) := g0x0R false (W11 w)
theorem g0x0tt_a : (fun (_ : Unit → Unit) => true) (fun _ => let _ := @g0x0Ltt; let _ := @g0x0Rtt; ()) = true := by k_qdec
theorem g0x0tt : @g0x0Ltt = @g0x0Rtt := PySem.W.Fast.te4648797601913002847.trans (Eq.trans (show @PySem.W.Fast.tw4648797601913002847 = @PySem.W.Fast.tw841243617892552598 by kernel_rfl) PySem.W.Fast.te841243617892552598.symm)
theorem g0x0 (w : World) : g0x0L (led w.params) w = g0x0R (led w.params) w := byFour (P := fun b w => g0x0L b w = g0x0R b w) (fun w => congrFun g0x0ff w) (fun w => congrFun g0x0ft w) (fun w => congrFun g0x0tf w) (fun w => congrFun g0x0tt w) w
theorem piece0 (w : World) (os : OsState) : segRun treeTable pw w 11 ann0 1 10 (S0 (led w.params) w os).abs (th0 ⟨0, 0, 0, 0⟩) = some (.next, (S1 (led w.params) w os).abs, code0, ⟨1, 0, 1, 8⟩) :=
  (segRun_of (congrFun (g0x0 w) os))
-- statement 1: 998 steps, 45 heads, cuts [(97, 1), (267, 1), (428, 2), (610, 2), (790, 2)]
def o3v1 (b : Bool) (P : Params) : Obj := ⟨(.type "dict"), none, (.dict ⟨[D P "__name__" 165 (.str "cpy313.stringprep" 187), D P "__doc__" 166 .none, D P "__package__" 167 .none, D P "__loader__" 168 (.builtin "__main__.__loader__#opaque"), D P "__spec__" 169 .none, D P "__annotations__" 170 (.ref 6), D P "__builtins__" 171 (.ref 4), D P "__file__" 173 (.str "/claim/cut.py" 172), D P "__cached__" 174 .none, D P "b1_set" 248 (.ref 22)]⟩ 10), ⟨[]⟩⟩
def o15v0 (b : Bool) (P : Params) : Obj := ⟨(.type "list"), none, (.seq ⟨[(.int 173 189), (.int 847 190), (.int 6150 191), (.int 6155 192), (.int 6156 193), (.int 6157 194), (.int 8203 195), (.int 8204 196), (.int 8205 197), (.int 8288 198), (.int 65279 199)]⟩ 0), ⟨[]⟩⟩
def o16v0 (b : Bool) (P : Params) : Obj := ⟨(.type "range"), none, (.fields ⟨[(.int 65024 200), (.int 65040 201), (.int 1 202)]⟩), ⟨[]⟩⟩
def o17v0 (b : Bool) (P : Params) : Obj := ⟨(.type "list"), none, (.seq ⟨[(.int 65024 205), (.int 65025 206), (.int 65026 207), (.int 65027 208), (.int 65028 209), (.int 65029 210), (.int 65030 211), (.int 65031 212), (.int 65032 213), (.int 65033 214), (.int 65034 215), (.int 65035 216), (.int 65036 217), (.int 65037 218), (.int 65038 219), (.int 65039 220)]⟩ 18), ⟨[]⟩⟩
def o18v0 (b : Bool) (P : Params) : Obj := ⟨(.type "range_iterator"), none, (.fields ⟨[(.int 65040 0), (.int 0 0), (.int 1 0)]⟩), ⟨[]⟩⟩
def o19v0 (b : Bool) (P : Params) : Obj := ⟨(.type "tuple"), none, (.seq ⟨[]⟩ 0), ⟨[]⟩⟩
def o20v0 (b : Bool) (P : Params) : Obj := ⟨(.type "StopIteration"), none, (.fields ⟨[(.ref 19), .none, .none, .none, (.bool false), .none]⟩), ⟨[]⟩⟩
def o21v0 (b : Bool) (P : Params) : Obj := ⟨(.type "list"), none, (.seq ⟨[(.int 173 189), (.int 847 190), (.int 6150 191), (.int 6155 192), (.int 6156 193), (.int 6157 194), (.int 8203 195), (.int 8204 196), (.int 8205 197), (.int 8288 198), (.int 65279 199), (.int 65024 205), (.int 65025 206), (.int 65026 207), (.int 65027 208), (.int 65028 209), (.int 65029 210), (.int 65030 211), (.int 65031 212), (.int 65032 213), (.int 65033 214), (.int 65034 215), (.int 65035 216), (.int 65036 217), (.int 65037 218), (.int 65038 219), (.int 65039 220)]⟩ 0), ⟨[]⟩⟩
def o22v0 (b : Bool) (P : Params) : Obj := ⟨(.type "set"), none, (.set ⟨[E 65024 205, E 65025 206, E 65026 207, E 65027 208, E 65028 209, E 65029 210, E 6150 191, E 65030 211, E 65031 212, E 65032 213, E 65033 214, E 6155 192, E 6156 193, E 6157 194, E 8203 195, E 8204 196, E 8205 197, E 65034 215, E 65035 216, E 65036 217, E 65037 218, E 65038 219, E 65039 220, E 173 189, E 847 190, E 8288 198, E 65279 199]⟩ 29 (tabOf b 127 ⟨[0, 1, 2, 3, 4, 5, 6, 7, 8, 9, 10, 11, 12, 13, 14, 15, 16, 17, 18, 19, 20, 21, 22, 45, 79, 96, 127]⟩ 0 2)), ⟨[]⟩⟩
def o23v0 (b : Bool) (P : Params) : Obj := ⟨(.type "list_iterator"), none, (.fields ⟨[.none, (.int 27 0)]⟩), ⟨[]⟩⟩
def o24v0 (b : Bool) (P : Params) : Obj := ⟨(.type "tuple"), none, (.seq ⟨[]⟩ 0), ⟨[]⟩⟩
def o25v0 (b : Bool) (P : Params) : Obj := ⟨(.type "StopIteration"), none, (.fields ⟨[(.ref 24), .none, .none, .none, (.bool false), .none]⟩), ⟨[]⟩⟩
def T2 (b : Bool) (P : Params) : BT := (N (bo boot_o_0 b P) (N (bo boot_o_1 b P) (N (o3v1 b P) (N (bo boot_o_7 b P) (N1 (o15v0 b P)) (N1 (o23v0 b P))) (N (o11v0 b P) (N1 (o19v0 b P)) X)) (N (bo boot_o_5 b P) (N (bo boot_o_9 b P) (N1 (o17v0 b P)) (N1 (o25v0 b P))) (N (o13v0 b P) (N1 (o21v0 b P)) X))) (N (bo boot_o_2 b P) (N (bo boot_o_4 b P) (N (bo boot_o_8 b P) (N1 (o16v0 b P)) (N1 (o24v0 b P))) (N (o12v0 b P) (N1 (o20v0 b P)) X)) (N (bo boot_o_6 b P) (N (bo boot_o_10 b P) (N1 (o18v0 b P)) X) (N (o14v0 b P) (N1 (o22v0 b P)) X))))
def S2 (b : Bool) (v : World) (os : OsState) : SharedT := ⟨T2 b v.params, 26, life0, ⟨[]⟩, drawn0, 249, os⟩
def th1 (pos : Pos) : Thread := piecesOf (st 1) env0 code0 pos [topFrame q0]
def o17v1 (b : Bool) (P : Params) : Obj := ⟨(.type "list"), none, (.seq ⟨[]⟩ 2), ⟨[]⟩⟩
def o18v1 (b : Bool) (P : Params) : Obj := ⟨(.type "range_iterator"), none, (.fields ⟨[(.int 65024 0), (.int 16 0), (.int 1 0)]⟩), ⟨[]⟩⟩
def TH1r1 (b : Bool) (P : Params) (x0 x1 : Obj) : BT := (N (bo boot_o_0 b P) (N (bo boot_o_1 b P) (N (o3v0 b P) (N (bo boot_o_7 b P) (N1 (o15v0 b P)) X) (N1 (o11v0 b P))) (N (bo boot_o_5 b P) (N (bo boot_o_9 b P) (N1 x0) X) (N1 (o13v0 b P)))) (N (bo boot_o_2 b P) (N (bo boot_o_4 b P) (N (bo boot_o_8 b P) (N1 (o16v0 b P)) X) (N1 (o12v0 b P))) (N (bo boot_o_6 b P) (N (bo boot_o_10 b P) (N1 x1) X) (N1 (o14v0 b P)))))
def S3 (b : Bool) (v : World) (os : OsState) : SharedT := ⟨TH1r1 b v.params (o17v1 b v.params) (o18v1 b v.params), 19, life0, ⟨[]⟩, drawn0, 205, os⟩
def g1x0raw (b : Bool) (v : World) (os : OsState) : List Frame := stackOf (segGoT treeTable pw v 11 ann0 1 97 (S1 b v os) (th1 ⟨1, 0, 1, 8⟩))
def g1x0th (b : Bool) (v : World) (os : OsState) : Thread := ⟨denote treeTable (.builtin "list.extend.loop" ⟨[(.ref 17), (.ref 18), .none], []⟩), (.builtin "list.extend.loop" ⟨[(.ref 17), (.ref 18), .none], []⟩), ⟨2, 81, 2, 106⟩, [.ret (rK (g1x0raw b v os)) (rH (g1x0raw b v os)) (rG (g1x0raw b v os)) (rL (g1x0raw b v os)) (rC (g1x0raw b v os)) (rP (g1x0raw b v os)) (rT (g1x0raw b v os)), (frAt (g1x0raw b v os) 1), (frAt (g1x0raw b v os) 2)]⟩
def g1x0L (b : Bool) (v : World) (os : OsState) := segGoT treeTable pw v 11 ann0 1 97 (S1 b v os) (th1 ⟨1, 0, 1, 8⟩)
def g1x0R (b : Bool) (v : World) (os : OsState) : Option (SharedT × Thread) := some (S3 b v os, (g1x0th b v os))
def g1x0Lff (w : World) := g1x0L true (W00 w)
def g1x0Rff (w : World) := g1x0R true (W00 w)
theorem g1x0ff_a : (fun (_ : Unit → Unit) => true) (fun _ => let _ := @g1x0Lff; let _ := @g1x0Rff; ()) = true := by k_qdec
theorem g1x0ff : @g1x0Lff = @g1x0Rff := PySem.W.Fast.te12130840167983062933.trans (Eq.trans (show @PySem.W.Fast.tw12130840167983062933 = @PySem.W.Fast.tw13040014396537205917 by kernel_rfl) PySem.W.Fast.te13040014396537205917.symm)
def g1x0Lft (w : World) := g1x0L true (W01 w)
def g1x0Rft (w : World) := g1x0R true (W01 w)
theorem g1x0ft_a : (fun (_ : Unit → Unit) => true) (fun _ => let _ := @g1x0Lft; let _ := @g1x0Rft; ()) = true := by k_qdec
theorem g1x0ft : @g1x0Lft = @g1x0Rft := PySem.W.Fast.te752584309223616404.trans (Eq.trans (show @PySem.W.Fast.tw752584309223616404 = @PySem.W.Fast.tw13515302197286625838 by kernel_rfl) PySem.W.Fast.te13515302197286625838.symm)
def g1x0Ltf (w : World) := g1x0L false (W10 w)
def g1x0Rtf (w : World) := g1x0R false (W10 w)
theorem g1x0tf_a : (fun (_ : Unit → Unit) => true) (fun _ => let _ := @g1x0Ltf; let _ := @g1x0Rtf; ()) = true := by k_qdec
theorem g1x0tf : @g1x0Ltf = @g1x0Rtf := PySem.W.Fast.te16877852195128821808.trans (Eq.trans (show @PySem.W.Fast.tw16877852195128821808 = @PySem.W.Fast.tw6983266849231524527 by kernel_rfl) PySem.W.Fast.te6983266849231524527.symm)
def g1x0Ltt (w : World) := g1x0L false (W11 w)
def g1x0Rtt (w : World) := g1x0R false (W11 w)
theorem g1x0tt_a : (fun (_ : Unit → Unit) => true) (fun _ => let _ := @g1x0Ltt; let _ := @g1x0Rtt; ()) = true := by k_qdec
theorem g1x0tt : @g1x0Ltt = @g1x0Rtt := PySem.W.Fast.te9637607861454305838.trans (Eq.trans (show @PySem.W.Fast.tw9637607861454305838 = @PySem.W.Fast.tw4270026427989553928 by kernel_rfl) PySem.W.Fast.te4270026427989553928.symm)
theorem g1x0 (w : World) : g1x0L (led w.params) w = g1x0R (led w.params) w := byFour (P := fun b w => g1x0L b w = g1x0R b w) (fun w => congrFun g1x0ff w) (fun w => congrFun g1x0ft w) (fun w => congrFun g1x0tf w) (fun w => congrFun g1x0tt w) w
theorem g1x0s (w : World) (os : OsState) : segGo treeTable pw w 11 ann0 1 97 (S1 (led w.params) w os).abs (th1 ⟨1, 0, 1, 8⟩) = some ((S3 (led w.params) w os).abs, (g1x0th (led w.params) w os)) := segGo_of (congrFun (g1x0 w) os)
def o17v2 (b : Bool) (P : Params) : Obj := ⟨(.type "list"), none, (.seq ⟨[(.int 65024 205), (.int 65025 206), (.int 65026 207), (.int 65027 208), (.int 65028 209), (.int 65029 210), (.int 65030 211), (.int 65031 212), (.int 65032 213), (.int 65033 214)]⟩ 12), ⟨[]⟩⟩
def o18v2 (b : Bool) (P : Params) : Obj := ⟨(.type "range_iterator"), none, (.fields ⟨[(.int 65034 0), (.int 6 0), (.int 1 0)]⟩), ⟨[]⟩⟩
def S4 (b : Bool) (v : World) (os : OsState) : SharedT := ⟨TH1r1 b v.params (o17v2 b v.params) (o18v2 b v.params), 19, life0, ⟨[]⟩, drawn0, 215, os⟩
def g1x1L (b : Bool) (v : World) (os : OsState) (k : Result → Sem Fin) (h : Option Value) (g : Bool) (l : List Value) (cd : Code) (p₀ : Pos) (kept : List Value) (f1 f2 : Frame) := segGoT treeTable pw v 11 ann0 1 170 (S3 b v os) ⟨denote treeTable (.builtin "list.extend.loop" ⟨[(.ref 17), (.ref 18), .none], []⟩), (.builtin "list.extend.loop" ⟨[(.ref 17), (.ref 18), .none], []⟩), ⟨2, 81, 2, 106⟩, [.ret k h g l cd p₀ kept, f1, f2]⟩
def g1x1R (b : Bool) (v : World) (os : OsState) (k : Result → Sem Fin) (h : Option Value) (g : Bool) (l : List Value) (cd : Code) (p₀ : Pos) (kept : List Value) (f1 f2 : Frame) : Option (SharedT × Thread) := some (S4 b v os, ⟨denote treeTable (.builtin "list.extend.loop" ⟨[(.ref 17), (.ref 18), .none], []⟩), (.builtin "list.extend.loop" ⟨[(.ref 17), (.ref 18), .none], []⟩), ⟨2, 81, 2, 106⟩, [.ret k h g l cd p₀ kept, f1, f2]⟩)
theorem g1x1e_a : (fun (_ : Unit → Unit) => true) (fun _ => let _ := @g1x1L; let _ := @g1x1R; ()) = true := by k_qdec
theorem g1x1e : @g1x1L = @g1x1R := PySem.W.Fast.te13100157442359112451.trans (Eq.trans (show @PySem.W.Fast.tw13100157442359112451 = @PySem.W.Fast.tw13452030559129336567 by kernel_rfl) PySem.W.Fast.te13452030559129336567.symm)
theorem g1x1 (w : World) : g1x1L (led w.params) w = g1x1R (led w.params) w := congrFun (congrFun g1x1e _) w
theorem g1x1s (w : World) (os : OsState) : segGo treeTable pw w 11 ann0 1 170 (S3 (led w.params) w os).abs (g1x0th (led w.params) w os) = some ((S4 (led w.params) w os).abs, (g1x0th (led w.params) w os)) := segGo_of (show g1x1L (led w.params) w os (rK (g1x0raw (led w.params) w os)) (rH (g1x0raw (led w.params) w os)) (rG (g1x0raw (led w.params) w os)) (rL (g1x0raw (led w.params) w os)) (rC (g1x0raw (led w.params) w os)) (rP (g1x0raw (led w.params) w os)) (rT (g1x0raw (led w.params) w os)) (frAt (g1x0raw (led w.params) w os) 1) (frAt (g1x0raw (led w.params) w os) 2) = g1x1R (led w.params) w os (rK (g1x0raw (led w.params) w os)) (rH (g1x0raw (led w.params) w os)) (rG (g1x0raw (led w.params) w os)) (rL (g1x0raw (led w.params) w os)) (rC (g1x0raw (led w.params) w os)) (rP (g1x0raw (led w.params) w os)) (rT (g1x0raw (led w.params) w os)) (frAt (g1x0raw (led w.params) w os) 1) (frAt (g1x0raw (led w.params) w os) 2) by rw [g1x1])
def o22v1 (b : Bool) (P : Params) : Obj := ⟨(.type "set"), none, (.set ⟨[]⟩ 0 (tabOf b 7 ⟨[]⟩ 0 0)), ⟨[]⟩⟩
def o23v1 (b : Bool) (P : Params) : Obj := ⟨(.type "list_iterator"), none, (.fields ⟨[(.ref 21), (.int 0 0)]⟩), ⟨[]⟩⟩
def TH1r2 (b : Bool) (P : Params) (x0 x1 : Obj) : BT := (N (bo boot_o_0 b P) (N (bo boot_o_1 b P) (N (o3v0 b P) (N (bo boot_o_7 b P) (N1 (o15v0 b P)) (N1 x1)) (N (o11v0 b P) (N1 (o19v0 b P)) X)) (N (bo boot_o_5 b P) (N (bo boot_o_9 b P) (N1 (o17v0 b P)) X) (N (o13v0 b P) (N1 (o21v0 b P)) X))) (N (bo boot_o_2 b P) (N (bo boot_o_4 b P) (N (bo boot_o_8 b P) (N1 (o16v0 b P)) X) (N (o12v0 b P) (N1 (o20v0 b P)) X)) (N (bo boot_o_6 b P) (N (bo boot_o_10 b P) (N1 (o18v0 b P)) X) (N (o14v0 b P) (N1 x0) X))))
def S5 (b : Bool) (v : World) (os : OsState) : SharedT := ⟨TH1r2 b v.params (o22v1 b v.params) (o23v1 b v.params), 24, life0, ⟨[]⟩, drawn0, 221, os⟩
def g1x2raw (b : Bool) (v : World) (os : OsState) : List Frame := stackOf (segGoT treeTable pw v 11 ann0 1 161 (S4 b v os) (g1x0th b v os))
def g1x2th (b : Bool) (v : World) (os : OsState) : Thread := ⟨denote treeTable (.builtin "set.update.loop" ⟨[(.ref 22), (.ref 23)], []⟩), (.builtin "set.update.loop" ⟨[(.ref 22), (.ref 23)], []⟩), ⟨2, 9, 2, 107⟩, [.ret (rK (g1x2raw b v os)) (rH (g1x2raw b v os)) (rG (g1x2raw b v os)) (rL (g1x2raw b v os)) (rC (g1x2raw b v os)) (rP (g1x2raw b v os)) (rT (g1x2raw b v os)), (frAt (g1x2raw b v os) 1), (frAt (g1x2raw b v os) 2), (frAt (g1x2raw b v os) 3)]⟩
def g1x2L (b : Bool) (v : World) (os : OsState) := segGoT treeTable pw v 11 ann0 1 161 (S4 b v os) (g1x0th b v os)
def g1x2R (b : Bool) (v : World) (os : OsState) : Option (SharedT × Thread) := some (S5 b v os, (g1x2th b v os))
def g1x2Lff (w : World) := g1x2L true (W00 w)
def g1x2Rff (w : World) := g1x2R true (W00 w)
theorem g1x2ff_a : (fun (_ : Unit → Unit) => true) (fun _ => let _ := @g1x2Lff; let _ := @g1x2Rff; ()) = true := by k_qdec
theorem g1x2ff : @g1x2Lff = @g1x2Rff := PySem.W.Fast.te3358582641552139772.trans (Eq.trans (show @PySem.W.Fast.tw3358582641552139772 = @PySem.W.Fast.tw16256443472171290383 by kernel_rfl) PySem.W.Fast.te16256443472171290383.symm)
def g1x2Lft (w : World) := g1x2L true (W01 w)
def g1x2Rft (w : World) := g1x2R true (W01 w)
theorem g1x2ft_a : (fun (_ : Unit → Unit) => true) (fun _ => let _ := @g1x2Lft; let _ := @g1x2Rft; ()) = true := by k_qdec
theorem g1x2ft : @g1x2Lft = @g1x2Rft := PySem.W.Fast.te1224594283315237230.trans (Eq.trans (show @PySem.W.Fast.tw1224594283315237230 = @PySem.W.Fast.tw8326433676202233394 by kernel_rfl) PySem.W.Fast.te8326433676202233394.symm)
def g1x2Ltf (w : World) := g1x2L false (W10 w)
def g1x2Rtf (w : World) := g1x2R false (W10 w)
theorem g1x2tf_a : (fun (_ : Unit → Unit) => true) (fun _ => let _ := @g1x2Ltf; let _ := @g1x2Rtf; ()) = true := by k_qdec
theorem g1x2tf : @g1x2Ltf = @g1x2Rtf := PySem.W.Fast.te14032825850950398019.trans (Eq.trans (show @PySem.W.Fast.tw14032825850950398019 = @PySem.W.Fast.tw7977444622471350091 by kernel_rfl) PySem.W.Fast.te7977444622471350091.symm)
def g1x2Ltt (w : World) := g1x2L false (W11 w)
def g1x2Rtt (w : World) := g1x2R false (W11 w)
theorem g1x2tt_a : (fun (_ : Unit → Unit) => true) (fun _ => let _ := @g1x2Ltt; let _ := @g1x2Rtt; ()) = true := by k_qdec
theorem g1x2tt : @g1x2Ltt = @g1x2Rtt := PySem.W.Fast.te7725986545621223079.trans (Eq.trans (show @PySem.W.Fast.tw7725986545621223079 = @PySem.W.Fast.tw11467281989197172943 by kernel_rfl) PySem.W.Fast.te11467281989197172943.symm)
theorem g1x2 (w : World) : g1x2L (led w.params) w = g1x2R (led w.params) w := byFour (P := fun b w => g1x2L b w = g1x2R b w) (fun w => congrFun g1x2ff w) (fun w => congrFun g1x2ft w) (fun w => congrFun g1x2tf w) (fun w => congrFun g1x2tt w) w
theorem g1x2s (w : World) (os : OsState) : segGo treeTable pw w 11 ann0 1 161 (S4 (led w.params) w os).abs (g1x0th (led w.params) w os) = some ((S5 (led w.params) w os).abs, (g1x2th (led w.params) w os)) := segGo_of (congrFun (g1x2 w) os)
def o22v2 (b : Bool) (P : Params) : Obj := ⟨(.type "set"), none, (.set ⟨[E 6150 191, E 6155 192, E 6156 193, E 173 189, E 6157 194, E 847 190, E 8203 195, E 8204 196, E 8205 197]⟩ 10 (tabOf b 31 ⟨[6, 11, 12, 13, 14, 15, 16, 17, 18]⟩ 0 1)), ⟨[]⟩⟩
def o23v2 (b : Bool) (P : Params) : Obj := ⟨(.type "list_iterator"), none, (.fields ⟨[(.ref 21), (.int 9 0)]⟩), ⟨[]⟩⟩
def S6 (b : Bool) (v : World) (os : OsState) : SharedT := ⟨TH1r2 b v.params (o22v2 b v.params) (o23v2 b v.params), 24, life0, ⟨[]⟩, drawn0, 230, os⟩
def g1x3L (b : Bool) (v : World) (os : OsState) (k : Result → Sem Fin) (h : Option Value) (g : Bool) (l : List Value) (cd : Code) (p₀ : Pos) (kept : List Value) (f1 f2 f3 : Frame) := segGoT treeTable pw v 11 ann0 1 182 (S5 b v os) ⟨denote treeTable (.builtin "set.update.loop" ⟨[(.ref 22), (.ref 23)], []⟩), (.builtin "set.update.loop" ⟨[(.ref 22), (.ref 23)], []⟩), ⟨2, 9, 2, 107⟩, [.ret k h g l cd p₀ kept, f1, f2, f3]⟩
def g1x3R (b : Bool) (v : World) (os : OsState) (k : Result → Sem Fin) (h : Option Value) (g : Bool) (l : List Value) (cd : Code) (p₀ : Pos) (kept : List Value) (f1 f2 f3 : Frame) : Option (SharedT × Thread) := some (S6 b v os, ⟨denote treeTable (.builtin "set.update.loop" ⟨[(.ref 22), (.ref 23)], []⟩), (.builtin "set.update.loop" ⟨[(.ref 22), (.ref 23)], []⟩), ⟨2, 9, 2, 107⟩, [.ret k h g l cd p₀ kept, f1, f2, f3]⟩)
def g1x3Lff (w : World) := g1x3L true (W00 w)
def g1x3Rff (w : World) := g1x3R true (W00 w)
theorem g1x3ff_a : (fun (_ : Unit → Unit) => true) (fun _ => let _ := @g1x3Lff; let _ := @g1x3Rff; ()) = true := by k_qdec
theorem g1x3ff : @g1x3Lff = @g1x3Rff := PySem.W.Fast.te8200951107604384826.trans (Eq.trans (show @PySem.W.Fast.tw8200951107604384826 = @PySem.W.Fast.tw2912939487854407256 by kernel_rfl) PySem.W.Fast.te2912939487854407256.symm)
def g1x3Lft (w : World) := g1x3L true (W01 w)
def g1x3Rft (w : World) := g1x3R true (W01 w)
theorem g1x3ft_a : (fun (_ : Unit → Unit) => true) (fun _ => let _ := @g1x3Lft; let _ := @g1x3Rft; ()) = true := by k_qdec
theorem g1x3ft : @g1x3Lft = @g1x3Rft := PySem.W.Fast.te15240391717796746893.trans (Eq.trans (show @PySem.W.Fast.tw15240391717796746893 = @PySem.W.Fast.tw4321350441840067779 by kernel_rfl) PySem.W.Fast.te4321350441840067779.symm)
def g1x3Ltf (w : World) := g1x3L false (W10 w)
def g1x3Rtf (w : World) := g1x3R false (W10 w)
theorem g1x3tf_a : (fun (_ : Unit → Unit) => true) (fun _ => let _ := @g1x3Ltf; let _ := @g1x3Rtf; ()) = true := by k_qdec
theorem g1x3tf : @g1x3Ltf = @g1x3Rtf := PySem.W.Fast.te17263469642973043600.trans (Eq.trans (show @PySem.W.Fast.tw17263469642973043600 = @PySem.W.Fast.tw1055782617408732943 by kernel_rfl) PySem.W.Fast.te1055782617408732943.symm)
def g1x3Ltt (w : World) := g1x3L false (W11 w)
def g1x3Rtt (w : World) := g1x3R false (W11 w)
theorem g1x3tt_a : (fun (_ : Unit → Unit) => true) (fun _ => let _ := @g1x3Ltt; let _ := @g1x3Rtt; ()) = true := by k_qdec
theorem g1x3tt : @g1x3Ltt = @g1x3Rtt := PySem.W.Fast.te7533414363537430138.trans (Eq.trans (show @PySem.W.Fast.tw7533414363537430138 = @PySem.W.Fast.tw17811029890819281050 by kernel_rfl) PySem.W.Fast.te17811029890819281050.symm)
theorem g1x3 (w : World) : g1x3L (led w.params) w = g1x3R (led w.params) w := byFour (P := fun b w => g1x3L b w = g1x3R b w) (fun w => congrFun g1x3ff w) (fun w => congrFun g1x3ft w) (fun w => congrFun g1x3tf w) (fun w => congrFun g1x3tt w) w
theorem g1x3s (w : World) (os : OsState) : segGo treeTable pw w 11 ann0 1 182 (S5 (led w.params) w os).abs (g1x2th (led w.params) w os) = some ((S6 (led w.params) w os).abs, (g1x2th (led w.params) w os)) := segGo_of (show g1x3L (led w.params) w os (rK (g1x2raw (led w.params) w os)) (rH (g1x2raw (led w.params) w os)) (rG (g1x2raw (led w.params) w os)) (rL (g1x2raw (led w.params) w os)) (rC (g1x2raw (led w.params) w os)) (rP (g1x2raw (led w.params) w os)) (rT (g1x2raw (led w.params) w os)) (frAt (g1x2raw (led w.params) w os) 1) (frAt (g1x2raw (led w.params) w os) 2) (frAt (g1x2raw (led w.params) w os) 3) = g1x3R (led w.params) w os (rK (g1x2raw (led w.params) w os)) (rH (g1x2raw (led w.params) w os)) (rG (g1x2raw (led w.params) w os)) (rL (g1x2raw (led w.params) w os)) (rC (g1x2raw (led w.params) w os)) (rP (g1x2raw (led w.params) w os)) (rT (g1x2raw (led w.params) w os)) (frAt (g1x2raw (led w.params) w os) 1) (frAt (g1x2raw (led w.params) w os) 2) (frAt (g1x2raw (led w.params) w os) 3) by rw [g1x3])
def o22v3 (b : Bool) (P : Params) : Obj := ⟨(.type "set"), none, (.set ⟨[E 8288 198, E 65024 205, E 65025 206, E 65026 207, E 65027 208, E 65028 209, E 6150 191, E 65029 210, E 65030 211, E 6155 192, E 6156 193, E 173 189, E 6157 194, E 847 190, E 8203 195, E 8204 196, E 8205 197, E 65279 199]⟩ 19 (tabOf b 31 ⟨[0, 1, 2, 3, 4, 5, 6, 7, 8, 11, 12, 13, 14, 15, 16, 17, 18, 31]⟩ 0 1)), ⟨[]⟩⟩
def o23v3 (b : Bool) (P : Params) : Obj := ⟨(.type "list_iterator"), none, (.fields ⟨[(.ref 21), (.int 18 0)]⟩), ⟨[]⟩⟩
def S7 (b : Bool) (v : World) (os : OsState) : SharedT := ⟨TH1r2 b v.params (o22v3 b v.params) (o23v3 b v.params), 24, life0, ⟨[]⟩, drawn0, 239, os⟩
def g1x4L (b : Bool) (v : World) (os : OsState) (k : Result → Sem Fin) (h : Option Value) (g : Bool) (l : List Value) (cd : Code) (p₀ : Pos) (kept : List Value) (f1 f2 f3 : Frame) := segGoT treeTable pw v 11 ann0 1 180 (S6 b v os) ⟨denote treeTable (.builtin "set.update.loop" ⟨[(.ref 22), (.ref 23)], []⟩), (.builtin "set.update.loop" ⟨[(.ref 22), (.ref 23)], []⟩), ⟨2, 9, 2, 107⟩, [.ret k h g l cd p₀ kept, f1, f2, f3]⟩
def g1x4R (b : Bool) (v : World) (os : OsState) (k : Result → Sem Fin) (h : Option Value) (g : Bool) (l : List Value) (cd : Code) (p₀ : Pos) (kept : List Value) (f1 f2 f3 : Frame) : Option (SharedT × Thread) := some (S7 b v os, ⟨denote treeTable (.builtin "set.update.loop" ⟨[(.ref 22), (.ref 23)], []⟩), (.builtin "set.update.loop" ⟨[(.ref 22), (.ref 23)], []⟩), ⟨2, 9, 2, 107⟩, [.ret k h g l cd p₀ kept, f1, f2, f3]⟩)
def g1x4Lff (w : World) := g1x4L true (W00 w)
def g1x4Rff (w : World) := g1x4R true (W00 w)
theorem g1x4ff_a : (fun (_ : Unit → Unit) => true) (fun _ => let _ := @g1x4Lff; let _ := @g1x4Rff; ()) = true := by k_qdec
theorem g1x4ff : @g1x4Lff = @g1x4Rff := PySem.W.Fast.te11322920764517445623.trans (Eq.trans (show @PySem.W.Fast.tw11322920764517445623 = @PySem.W.Fast.tw5036236327271256262 by kernel_rfl) PySem.W.Fast.te5036236327271256262.symm)
def g1x4Lft (w : World) := g1x4L true (W01 w)
def g1x4Rft (w : World) := g1x4R true (W01 w)
theorem g1x4ft_a : (fun (_ : Unit → Unit) => true) (fun _ => let _ := @g1x4Lft; let _ := @g1x4Rft; ()) = true := by k_qdec
theorem g1x4ft : @g1x4Lft = @g1x4Rft := PySem.W.Fast.te15640176482170789933.trans (Eq.trans (show @PySem.W.Fast.tw15640176482170789933 = @PySem.W.Fast.tw16929489896800721844 by kernel_rfl) PySem.W.Fast.te16929489896800721844.symm)
def g1x4Ltf (w : World) := g1x4L false (W10 w)
def g1x4Rtf (w : World) := g1x4R false (W10 w)
theorem g1x4tf_a : (fun (_ : Unit → Unit) => true) (fun _ => let _ := @g1x4Ltf; let _ := @g1x4Rtf; ()) = true := by k_qdec
theorem g1x4tf : @g1x4Ltf = @g1x4Rtf := PySem.W.Fast.te10406092291796810391.trans (Eq.trans (show @PySem.W.Fast.tw10406092291796810391 = @PySem.W.Fast.tw16597373322663147221 by kernel_rfl) PySem.W.Fast.te16597373322663147221.symm)
def g1x4Ltt (w : World) := g1x4L false (W11 w)
def g1x4Rtt (w : World) := g1x4R false (W11 w)
theorem g1x4tt_a : (fun (_ : Unit → Unit) => true) (fun _ => let _ := @g1x4Ltt; let _ := @g1x4Rtt; ()) = true := by k_qdec
theorem g1x4tt : @g1x4Ltt = @g1x4Rtt := PySem.W.Fast.te13692837356479550043.trans (Eq.trans (show @PySem.W.Fast.tw13692837356479550043 = @PySem.W.Fast.tw15641149733690094639 by kernel_rfl) PySem.W.Fast.te15641149733690094639.symm)
theorem g1x4 (w : World) : g1x4L (led w.params) w = g1x4R (led w.params) w := byFour (P := fun b w => g1x4L b w = g1x4R b w) (fun w => congrFun g1x4ff w) (fun w => congrFun g1x4ft w) (fun w => congrFun g1x4tf w) (fun w => congrFun g1x4tt w) w
theorem g1x4s (w : World) (os : OsState) : segGo treeTable pw w 11 ann0 1 180 (S6 (led w.params) w os).abs (g1x2th (led w.params) w os) = some ((S7 (led w.params) w os).abs, (g1x2th (led w.params) w os)) := segGo_of (show g1x4L (led w.params) w os (rK (g1x2raw (led w.params) w os)) (rH (g1x2raw (led w.params) w os)) (rG (g1x2raw (led w.params) w os)) (rL (g1x2raw (led w.params) w os)) (rC (g1x2raw (led w.params) w os)) (rP (g1x2raw (led w.params) w os)) (rT (g1x2raw (led w.params) w os)) (frAt (g1x2raw (led w.params) w os) 1) (frAt (g1x2raw (led w.params) w os) 2) (frAt (g1x2raw (led w.params) w os) 3) = g1x4R (led w.params) w os (rK (g1x2raw (led w.params) w os)) (rH (g1x2raw (led w.params) w os)) (rG (g1x2raw (led w.params) w os)) (rL (g1x2raw (led w.params) w os)) (rC (g1x2raw (led w.params) w os)) (rP (g1x2raw (led w.params) w os)) (rT (g1x2raw (led w.params) w os)) (frAt (g1x2raw (led w.params) w os) 1) (frAt (g1x2raw (led w.params) w os) 2) (frAt (g1x2raw (led w.params) w os) 3) by rw [g1x4])
def g1x5L (b : Bool) (v : World) (os : OsState) := segRunT treeTable pw v 11 ann0 1 209 (S7 b v os) (g1x2th b v os)
def g1x5R (b : Bool) (v : World) (os : OsState) : Option (Flow × SharedT × Code × Pos) := some (.next, S2 b v os, code0, ⟨2, 0, 2, 6⟩)
def g1x5Lff (w : World) := g1x5L true (W00 w)
def g1x5Rff (w : World) := g1x5R true (W00 w)
theorem g1x5ff_a : (fun (_ : Unit → Unit) => true) (fun _ => let _ := @g1x5Lff; let _ := @g1x5Rff; ()) = true := by k_qdec
theorem g1x5ff : @g1x5Lff = @g1x5Rff := PySem.W.Fast.te13776888083780378097.trans (Eq.trans (show @PySem.W.Fast.tw13776888083780378097 = @PySem.W.Fast.tw10114750518341370970 by kernel_rfl) PySem.W.Fast.te10114750518341370970.symm)
def g1x5Lft (w : World) := g1x5L true (W01 w)
def g1x5Rft (w : World) := g1x5R true (W01 w)
theorem g1x5ft_a : (fun (_ : Unit → Unit) => true) (fun _ => let _ := @g1x5Lft; let _ := @g1x5Rft; ()) = true := by k_qdec
theorem g1x5ft : @g1x5Lft = @g1x5Rft := PySem.W.Fast.te17039281250603960029.trans (Eq.trans (show @PySem.W.Fast.tw17039281250603960029 = @PySem.W.Fast.tw12669460640450336621 by kernel_rfl) PySem.W.Fast.te12669460640450336621.symm)
def g1x5Ltf (w : World) := g1x5L false (W10 w)
def g1x5Rtf (w : World) := g1x5R false (W10 w)
theorem g1x5tf_a : (fun (_ : Unit → Unit) => true) (fun _ => let _ := @g1x5Ltf; let _ := @g1x5Rtf; ()) = true := by k_qdec
theorem g1x5tf : @g1x5Ltf = @g1x5Rtf := PySem.W.Fast.te6804652518868359430.trans (Eq.trans (show @PySem.W.Fast.tw6804652518868359430 = @PySem.W.Fast.tw15269619529856392839 by kernel_rfl) PySem.W.Fast.te15269619529856392839.symm)
def g1x5Ltt (w : World) := g1x5L false (W11 w)
def g1x5Rtt (w : World) := g1x5R false (W11 w)
theorem g1x5tt_a : (fun (_ : Unit → Unit) => true) (fun _ => let _ := @g1x5Ltt; let _ := @g1x5Rtt; ()) = true := by k_qdec
theorem g1x5tt : @g1x5Ltt = @g1x5Rtt := PySem.W.Fast.te10829666885230345485.trans (Eq.trans (show @PySem.W.Fast.tw10829666885230345485 = @PySem.W.Fast.tw16699921401247761246 by kernel_rfl) PySem.W.Fast.te16699921401247761246.symm)
theorem g1x5 (w : World) : g1x5L (led w.params) w = g1x5R (led w.params) w := byFour (P := fun b w => g1x5L b w = g1x5R b w) (fun w => congrFun g1x5ff w) (fun w => congrFun g1x5ft w) (fun w => congrFun g1x5tf w) (fun w => congrFun g1x5tt w) w
theorem piece1 (w : World) (os : OsState) : segRun treeTable pw w 11 ann0 1 (97 + (170 + (161 + (182 + (180 + 209))))) (S1 (led w.params) w os).abs (th1 ⟨1, 0, 1, 8⟩) = some (.next, (S2 (led w.params) w os).abs, code0, ⟨2, 0, 2, 6⟩) :=
  (seg_go (g1x0s w os) (seg_go (g1x1s w os) (seg_go (g1x2s w os) (seg_go (g1x3s w os) (seg_go (g1x4s w os) (segRun_of (congrFun (g1x5 w) os)))))))
-- statement 2: 29 steps, 0 heads, cuts []
def o3v2 (b : Bool) (P : Params) : Obj := ⟨(.type "dict"), none, (.dict ⟨[D P "__name__" 165 (.str "cpy313.stringprep" 187), D P "__doc__" 166 .none, D P "__package__" 167 .none, D P "__loader__" 168 (.builtin "__main__.__loader__#opaque"), D P "__spec__" 169 .none, D P "__annotations__" 170 (.ref 6), D P "__builtins__" 171 (.ref 4), D P "__file__" 173 (.str "/claim/cut.py" 172), D P "__cached__" 174 .none, D P "b1_set" 248 (.ref 22), D P "in_table_b1" 255 (.ref 32)]⟩ 11), ⟨[]⟩⟩
def o12v1 (b : Bool) (P : Params) : Obj := ⟨.none, none, (.fields ⟨[(.int 3 0), (.int 0 0), (.ref 31)]⟩), ⟨[]⟩⟩
def o26v0 (b : Bool) (P : Params) : Obj := ⟨(.type "tuple"), none, (.seq ⟨[]⟩ 0), ⟨[]⟩⟩
def o27v0 (b : Bool) (P : Params) : Obj := ⟨.none, none, (.fields ⟨[]⟩), ⟨[]⟩⟩
def o28v0 (b : Bool) (P : Params) : Obj := ⟨(.type "tuple"), none, (.seq ⟨[(.str "code" 252)]⟩ 0), ⟨[]⟩⟩
def o29v0 (b : Bool) (P : Params) : Obj := ⟨(.type "tuple"), none, (.seq ⟨[]⟩ 0), ⟨[]⟩⟩
def o30v0 (b : Bool) (P : Params) : Obj := ⟨.none, none, (.func (fdOf 2 0 .none .none)), ⟨[]⟩⟩
def o31v0 (b : Bool) (P : Params) : Obj := ⟨(.type "code"), none, (.fields ⟨[(.str "in_table_b1" 249), (.str "in_table_b1" 250), (.str "/claim/cut.py" 251), (.int 3 0), (.int 1 0), (.int 0 0), (.int 0 0), (.int 3 0), (.ref 26), (.bool true), (.int 181 0), (.ref 27), .none, (.ref 28), (.ref 29), (.ref 30), (.int 253 0), (.int 3 0), (.str "/claim/cut.py" 254)]⟩), ⟨[]⟩⟩
def o32v0 (b : Bool) (P : Params) : Obj := ⟨(.type "function"), none, (.func (fdOf 2 3 (.str "cpy313.stringprep" 187) (.ref 31))), ⟨[]⟩⟩
def T8 (b : Bool) (P : Params) : BT := (N (bo boot_o_0 b P) (N (bo boot_o_1 b P) (N (o3v2 b P) (N (bo boot_o_7 b P) (N (o15v0 b P) (N1 (o31v0 b P)) X) (N1 (o23v0 b P))) (N (o11v0 b P) (N1 (o19v0 b P)) (N1 (o27v0 b P)))) (N (bo boot_o_5 b P) (N (bo boot_o_9 b P) (N1 (o17v0 b P)) (N1 (o25v0 b P))) (N (o13v0 b P) (N1 (o21v0 b P)) (N1 (o29v0 b P))))) (N (bo boot_o_2 b P) (N (bo boot_o_4 b P) (N (bo boot_o_8 b P) (N (o16v0 b P) (N1 (o32v0 b P)) X) (N1 (o24v0 b P))) (N (o12v1 b P) (N1 (o20v0 b P)) (N1 (o28v0 b P)))) (N (bo boot_o_6 b P) (N (bo boot_o_10 b P) (N1 (o18v0 b P)) (N1 (o26v0 b P))) (N (o14v0 b P) (N1 (o22v0 b P)) (N1 (o30v0 b P))))))
def S8 (b : Bool) (v : World) (os : OsState) : SharedT := ⟨T8 b v.params, 33, life0, ⟨[]⟩, drawn0, 256, os⟩
def th2 (pos : Pos) : Thread := piecesOf (st 2) env0 code0 pos [topFrame q0]
def g2x0L (b : Bool) (v : World) (os : OsState) := segRunT treeTable pw v 11 ann0 1 30 (S2 b v os) (th2 ⟨2, 0, 2, 6⟩)
def g2x0R (b : Bool) (v : World) (os : OsState) : Option (Flow × SharedT × Code × Pos) := some (.next, S8 b v os, code0, ⟨3, 0, 4, 30⟩)
def g2x0Lff (w : World) := g2x0L true (W00 w)
def g2x0Rff (w : World) := g2x0R true (W00 w)
theorem g2x0ff_a : (fun (_ : Unit → Unit) => true) (fun _ => let _ := @g2x0Lff; let _ := @g2x0Rff; ()) = true := by k_qdec
theorem g2x0ff : @g2x0Lff = @g2x0Rff := PySem.W.Fast.te17094352725305222995.trans (Eq.trans (show @PySem.W.Fast.tw17094352725305222995 = @PySem.W.Fast.tw4377884112819478709 by kernel_rfl) PySem.W.Fast.te4377884112819478709.symm)
def g2x0Lft (w : World) := g2x0L true (W01 w)
def g2x0Rft (w : World) := g2x0R true (W01 w)
theorem g2x0ft_a : (fun (_ : Unit → Unit) => true) (fun _ => let _ := @g2x0Lft; let _ := @g2x0Rft; ()) = true := by k_qdec
theorem g2x0ft : @g2x0Lft = @g2x0Rft := PySem.W.Fast.te2622696541793097267.trans (Eq.trans (show @PySem.W.Fast.tw2622696541793097267 = @PySem.W.Fast.tw735421086725057028 by kernel_rfl) PySem.W.Fast.te735421086725057028.symm)
def g2x0Ltf (w : World) := g2x0L false (W10 w)
def g2x0Rtf (w : World) := g2x0R false (W10 w)
theorem g2x0tf_a : (fun (_ : Unit → Unit) => true) (fun _ => let _ := @g2x0Ltf; let _ := @g2x0Rtf; ()) = true := by k_qdec
theorem g2x0tf : @g2x0Ltf = @g2x0Rtf := PySem.W.Fast.te16685855831163909945.trans (Eq.trans (show @PySem.W.Fast.tw16685855831163909945 = @PySem.W.Fast.tw2371785273660199487 by kernel_rfl) PySem.W.Fast.te2371785273660199487.symm)
def g2x0Ltt (w : World) := g2x0L false (W11 w)
def g2x0Rtt (w : World) := g2x0R false (W11 w)
theorem g2x0tt_a : (fun (_ : Unit → Unit) => true) (fun _ => let _ := @g2x0Ltt; let _ := @g2x0Rtt; ()) = true := by k_qdec
theorem g2x0tt : @g2x0Ltt = @g2x0Rtt := PySem.W.Fast.te6542278086587603311.trans (Eq.trans (show @PySem.W.Fast.tw6542278086587603311 = @PySem.W.Fast.tw1692287901234537228 by kernel_rfl) PySem.W.Fast.te1692287901234537228.symm)
theorem g2x0 (w : World) : g2x0L (led w.params) w = g2x0R (led w.params) w := byFour (P := fun b w => g2x0L b w = g2x0R b w) (fun w => congrFun g2x0ff w) (fun w => congrFun g2x0ft w) (fun w => congrFun g2x0tf w) (fun w => congrFun g2x0tt w) w
theorem piece2 (w : World) (os : OsState) : segRun treeTable pw w 11 ann0 1 30 (S2 (led w.params) w os).abs (th2 ⟨2, 0, 2, 6⟩) = some (.next, (S8 (led w.params) w os).abs, code0, ⟨3, 0, 4, 30⟩) :=
  (segRun_of (congrFun (g2x0 w) os))
-- statement 3: 29 steps, 0 heads, cuts []
def o3v3 (b : Bool) (P : Params) : Obj := ⟨(.type "dict"), none, (.dict ⟨[D P "__name__" 165 (.str "cpy313.stringprep" 187), D P "__doc__" 166 .none, D P "__package__" 167 .none, D P "__loader__" 168 (.builtin "__main__.__loader__#opaque"), D P "__spec__" 169 .none, D P "__annotations__" 170 (.ref 6), D P "__builtins__" 171 (.ref 4), D P "__file__" 173 (.str "/claim/cut.py" 172), D P "__cached__" 174 .none, D P "b1_set" 248 (.ref 22), D P "in_table_b1" 255 (.ref 32), D P "in_table_c11" 262 (.ref 39)]⟩ 12), ⟨[]⟩⟩
def o12v2 (b : Bool) (P : Params) : Obj := ⟨.none, none, (.fields ⟨[(.int 3 0), (.int 0 0), (.ref 31), (.int 5 0), (.int 0 0), (.ref 38)]⟩), ⟨[]⟩⟩
def o33v0 (b : Bool) (P : Params) : Obj := ⟨(.type "tuple"), none, (.seq ⟨[]⟩ 0), ⟨[]⟩⟩
def o34v0 (b : Bool) (P : Params) : Obj := ⟨.none, none, (.fields ⟨[]⟩), ⟨[]⟩⟩
def o35v0 (b : Bool) (P : Params) : Obj := ⟨(.type "tuple"), none, (.seq ⟨[(.str "code" 259)]⟩ 0), ⟨[]⟩⟩
def o36v0 (b : Bool) (P : Params) : Obj := ⟨(.type "tuple"), none, (.seq ⟨[]⟩ 0), ⟨[]⟩⟩
def o37v0 (b : Bool) (P : Params) : Obj := ⟨.none, none, (.func (fdOf 3 0 .none .none)), ⟨[]⟩⟩
def o38v0 (b : Bool) (P : Params) : Obj := ⟨(.type "code"), none, (.fields ⟨[(.str "in_table_c11" 256), (.str "in_table_c11" 257), (.str "/claim/cut.py" 258), (.int 5 0), (.int 1 0), (.int 0 0), (.int 0 0), (.int 3 0), (.ref 33), (.bool true), (.int 181 0), (.ref 34), .none, (.ref 35), (.ref 36), (.ref 37), (.int 260 0), (.int 5 0), (.str "/claim/cut.py" 261)]⟩), ⟨[]⟩⟩
def o39v0 (b : Bool) (P : Params) : Obj := ⟨(.type "function"), none, (.func (fdOf 3 3 (.str "cpy313.stringprep" 187) (.ref 38))), ⟨[]⟩⟩
def T9 (b : Bool) (P : Params) : BT := (N (bo boot_o_0 b P) (N (bo boot_o_1 b P) (N (o3v3 b P) (N (bo boot_o_7 b P) (N (o15v0 b P) (N1 (o31v0 b P)) X) (N (o23v0 b P) (N1 (o39v0 b P)) X)) (N (o11v0 b P) (N (o19v0 b P) (N1 (o35v0 b P)) X) (N1 (o27v0 b P)))) (N (bo boot_o_5 b P) (N (bo boot_o_9 b P) (N (o17v0 b P) (N1 (o33v0 b P)) X) (N1 (o25v0 b P))) (N (o13v0 b P) (N (o21v0 b P) (N1 (o37v0 b P)) X) (N1 (o29v0 b P))))) (N (bo boot_o_2 b P) (N (bo boot_o_4 b P) (N (bo boot_o_8 b P) (N (o16v0 b P) (N1 (o32v0 b P)) X) (N1 (o24v0 b P))) (N (o12v2 b P) (N (o20v0 b P) (N1 (o36v0 b P)) X) (N1 (o28v0 b P)))) (N (bo boot_o_6 b P) (N (bo boot_o_10 b P) (N (o18v0 b P) (N1 (o34v0 b P)) X) (N1 (o26v0 b P))) (N (o14v0 b P) (N (o22v0 b P) (N1 (o38v0 b P)) X) (N1 (o30v0 b P))))))
def S9 (b : Bool) (v : World) (os : OsState) : SharedT := ⟨T9 b v.params, 40, life0, ⟨[]⟩, drawn0, 263, os⟩
def th3 (pos : Pos) : Thread := piecesOf (st 3) env0 code0 pos [topFrame q0]
def g3x0L (b : Bool) (v : World) (os : OsState) := segRunT treeTable pw v 11 ann0 1 30 (S8 b v os) (th3 ⟨3, 0, 4, 30⟩)
def g3x0R (b : Bool) (v : World) (os : OsState) : Option (Flow × SharedT × Code × Pos) := some (.next, S9 b v os, code0, ⟨5, 0, 6, 22⟩)
def g3x0Lff (w : World) := g3x0L true (W00 w)
def g3x0Rff (w : World) := g3x0R true (W00 w)
theorem g3x0ff_a : (fun (_ : Unit → Unit) => true) (fun _ => let _ := @g3x0Lff; let _ := @g3x0Rff; ()) = true := by k_qdec
theorem g3x0ff : @g3x0Lff = @g3x0Rff := PySem.W.Fast.te9801285268792584323.trans (Eq.trans (show @PySem.W.Fast.tw9801285268792584323 = @PySem.W.Fast.tw6610282024997924573 by kernel_rfl) PySem.W.Fast.te6610282024997924573.symm)
def g3x0Lft (w : World) := g3x0L true (W01 w)
def g3x0Rft (w : World) := g3x0R true (W01 w)
theorem g3x0ft_a : (fun (_ : Unit → Unit) => true) (fun _ => let _ := @g3x0Lft; let _ := @g3x0Rft; ()) = true := by k_qdec
theorem g3x0ft : @g3x0Lft = @g3x0Rft := PySem.W.Fast.te18131690234917779605.trans (Eq.trans (show @PySem.W.Fast.tw18131690234917779605 = @PySem.W.Fast.tw17374955636362796545 by kernel_rfl) PySem.W.Fast.te17374955636362796545.symm)
def g3x0Ltf (w : World) := g3x0L false (W10 w)
def g3x0Rtf (w : World) := g3x0R false (W10 w)
theorem g3x0tf_a : (fun (_ : Unit → Unit) => true) (fun _ => let _ := @g3x0Ltf; let _ := @g3x0Rtf; ()) = true := by k_qdec
theorem g3x0tf : @g3x0Ltf = @g3x0Rtf := PySem.W.Fast.te2514133855133721810.trans (Eq.trans (show @PySem.W.Fast.tw2514133855133721810 = @PySem.W.Fast.tw4641286727216554242 by kernel_rfl) PySem.W.Fast.te4641286727216554242.symm)
def g3x0Ltt (w : World) := g3x0L false (W11 w)
def g3x0Rtt (w : World) := g3x0R false (W11 w)
theorem g3x0tt_a : (fun (_ : Unit → Unit) => true) (fun _ => let _ := @g3x0Ltt; let _ := @g3x0Rtt; ()) = true := by k_qdec
theorem g3x0tt : @g3x0Ltt = @g3x0Rtt := PySem.W.Fast.te16751143251156693729.trans (Eq.trans (show @PySem.W.Fast.tw16751143251156693729 = @PySem.W.Fast.tw2203531971066256214 by kernel_rfl) PySem.W.Fast.te2203531971066256214.symm)
theorem g3x0 (w : World) : g3x0L (led w.params) w = g3x0R (led w.params) w := byFour (P := fun b w => g3x0L b w = g3x0R b w) (fun w => congrFun g3x0ff w) (fun w => congrFun g3x0ft w) (fun w => congrFun g3x0tf w) (fun w => congrFun g3x0tt w) w
theorem piece3 (w : World) (os : OsState) : segRun treeTable pw w 11 ann0 1 30 (S8 (led w.params) w os).abs (th3 ⟨3, 0, 4, 30⟩) = some (.next, (S9 (led w.params) w os).abs, code0, ⟨5, 0, 6, 22⟩) :=
  (segRun_of (congrFun (g3x0 w) os))
-- statement 4: 30 steps, 0 heads, cuts []
def o3v4 (b : Bool) (P : Params) : Obj := ⟨(.type "dict"), none, (.dict ⟨[D P "__name__" 165 (.str "cpy313.stringprep" 187), D P "__doc__" 166 .none, D P "__package__" 167 .none, D P "__loader__" 168 (.builtin "__main__.__loader__#opaque"), D P "__spec__" 169 .none, D P "__annotations__" 170 (.ref 6), D P "__builtins__" 171 (.ref 4), D P "__file__" 173 (.str "/claim/cut.py" 172), D P "__cached__" 174 .none, D P "b1_set" 248 (.ref 22), D P "in_table_b1" 255 (.ref 32), D P "in_table_c11" 262 (.ref 39), D P "in_table_c4" 270 (.ref 46)]⟩ 13), ⟨[]⟩⟩
def o12v3 (b : Bool) (P : Params) : Obj := ⟨.none, none, (.fields ⟨[(.int 3 0), (.int 0 0), (.ref 31), (.int 5 0), (.int 0 0), (.ref 38), (.int 7 0), (.int 0 0), (.ref 45)]⟩), ⟨[]⟩⟩
def o40v0 (b : Bool) (P : Params) : Obj := ⟨(.type "tuple"), none, (.seq ⟨[]⟩ 0), ⟨[]⟩⟩
def o41v0 (b : Bool) (P : Params) : Obj := ⟨.none, none, (.fields ⟨[]⟩), ⟨[]⟩⟩
def o42v0 (b : Bool) (P : Params) : Obj := ⟨(.type "tuple"), none, (.seq ⟨[(.str "code" 266), (.str "c" 267)]⟩ 0), ⟨[]⟩⟩
def o43v0 (b : Bool) (P : Params) : Obj := ⟨(.type "tuple"), none, (.seq ⟨[]⟩ 0), ⟨[]⟩⟩
def o44v0 (b : Bool) (P : Params) : Obj := ⟨.none, none, (.func (fdOf 4 0 .none .none)), ⟨[]⟩⟩
def o45v0 (b : Bool) (P : Params) : Obj := ⟨(.type "code"), none, (.fields ⟨[(.str "in_table_c4" 263), (.str "in_table_c4" 264), (.str "/claim/cut.py" 265), (.int 7 0), (.int 1 0), (.int 0 0), (.int 0 0), (.int 3 0), (.ref 40), (.bool true), (.int 181 0), (.ref 41), .none, (.ref 42), (.ref 43), (.ref 44), (.int 268 0), (.int 7 0), (.str "/claim/cut.py" 269)]⟩), ⟨[]⟩⟩
def o46v0 (b : Bool) (P : Params) : Obj := ⟨(.type "function"), none, (.func (fdOf 4 3 (.str "cpy313.stringprep" 187) (.ref 45))), ⟨[]⟩⟩
def T10 (b : Bool) (P : Params) : BT := (N (bo boot_o_0 b P) (N (bo boot_o_1 b P) (N (o3v4 b P) (N (bo boot_o_7 b P) (N (o15v0 b P) (N1 (o31v0 b P)) X) (N (o23v0 b P) (N1 (o39v0 b P)) X)) (N (o11v0 b P) (N (o19v0 b P) (N1 (o35v0 b P)) X) (N (o27v0 b P) (N1 (o43v0 b P)) X))) (N (bo boot_o_5 b P) (N (bo boot_o_9 b P) (N (o17v0 b P) (N1 (o33v0 b P)) X) (N (o25v0 b P) (N1 (o41v0 b P)) X)) (N (o13v0 b P) (N (o21v0 b P) (N1 (o37v0 b P)) X) (N (o29v0 b P) (N1 (o45v0 b P)) X)))) (N (bo boot_o_2 b P) (N (bo boot_o_4 b P) (N (bo boot_o_8 b P) (N (o16v0 b P) (N1 (o32v0 b P)) X) (N (o24v0 b P) (N1 (o40v0 b P)) X)) (N (o12v3 b P) (N (o20v0 b P) (N1 (o36v0 b P)) X) (N (o28v0 b P) (N1 (o44v0 b P)) X))) (N (bo boot_o_6 b P) (N (bo boot_o_10 b P) (N (o18v0 b P) (N1 (o34v0 b P)) X) (N (o26v0 b P) (N1 (o42v0 b P)) X)) (N (o14v0 b P) (N (o22v0 b P) (N1 (o38v0 b P)) X) (N (o30v0 b P) (N1 (o46v0 b P)) X)))))
def S10 (b : Bool) (v : World) (os : OsState) : SharedT := ⟨T10 b v.params, 47, life0, ⟨[]⟩, drawn0, 271, os⟩
def th4 (pos : Pos) : Thread := piecesOf (st 4) env0 code0 pos [topFrame q0]
def g4x0L (b : Bool) (v : World) (os : OsState) := segRunT treeTable pw v 11 ann0 1 31 (S9 b v os) (th4 ⟨5, 0, 6, 22⟩)
def g4x0R (b : Bool) (v : World) (os : OsState) : Option (Flow × SharedT × Code × Pos) := some (.next, S10 b v os, code0, ⟨7, 0, 13, 46⟩)
def g4x0Lff (w : World) := g4x0L true (W00 w)
def g4x0Rff (w : World) := g4x0R true (W00 w)
theorem g4x0ff_a : (fun (_ : Unit → Unit) => true) (fun _ => let _ := @g4x0Lff; let _ := @g4x0Rff; ()) = true := by k_qdec
theorem g4x0ff : @g4x0Lff = @g4x0Rff := PySem.W.Fast.te15099875456214366321.trans (Eq.trans (show @PySem.W.Fast.tw15099875456214366321 = @PySem.W.Fast.tw13430074607014978210 by kernel_rfl) PySem.W.Fast.te13430074607014978210.symm)
def g4x0Lft (w : World) := g4x0L true (W01 w)
def g4x0Rft (w : World) := g4x0R true (W01 w)
theorem g4x0ft_a : (fun (_ : Unit → Unit) => true) (fun _ => let _ := @g4x0Lft; let _ := @g4x0Rft; ()) = true := by k_qdec
theorem g4x0ft : @g4x0Lft = @g4x0Rft := PySem.W.Fast.te7923814068615846528.trans (Eq.trans (show @PySem.W.Fast.tw7923814068615846528 = @PySem.W.Fast.tw4743546725315791235 by kernel_rfl) PySem.W.Fast.te4743546725315791235.symm)
def g4x0Ltf (w : World) := g4x0L false (W10 w)
def g4x0Rtf (w : World) := g4x0R false (W10 w)
theorem g4x0tf_a : (fun (_ : Unit → Unit) => true) (fun _ => let _ := @g4x0Ltf; let _ := @g4x0Rtf; ()) = true := by k_qdec
theorem g4x0tf : @g4x0Ltf = @g4x0Rtf := PySem.W.Fast.te2610332355684968118.trans (Eq.trans (show @PySem.W.Fast.tw2610332355684968118 = @PySem.W.Fast.tw11908335164929842848 by kernel_rfl) PySem.W.Fast.te11908335164929842848.symm)
def g4x0Ltt (w : World) := g4x0L false (W11 w)
def g4x0Rtt (w : World) := g4x0R false (W11 w)
theorem g4x0tt_a : (fun (_ : Unit → Unit) => true) (fun _ => let _ := @g4x0Ltt; let _ := @g4x0Rtt; ()) = true := by k_qdec
theorem g4x0tt : @g4x0Ltt = @g4x0Rtt := PySem.W.Fast.te1828099112387511004.trans (Eq.trans (show @PySem.W.Fast.tw1828099112387511004 = @PySem.W.Fast.tw11880479501565659079 by kernel_rfl) PySem.W.Fast.te11880479501565659079.symm)
theorem g4x0 (w : World) : g4x0L (led w.params) w = g4x0R (led w.params) w := byFour (P := fun b w => g4x0L b w = g4x0R b w) (fun w => congrFun g4x0ff w) (fun w => congrFun g4x0ft w) (fun w => congrFun g4x0tf w) (fun w => congrFun g4x0tt w) w
theorem piece4 (w : World) (os : OsState) : segRun treeTable pw w 11 ann0 1 31 (S9 (led w.params) w os).abs (th4 ⟨5, 0, 6, 22⟩) = some (.next, (S10 (led w.params) w os).abs, code0, ⟨7, 0, 13, 46⟩) :=
  (segRun_of (congrFun (g4x0 w) os))
-- statement 5: 199 steps, 6 heads, cuts [(58, 1)]
def o3v5 (b : Bool) (P : Params) : Obj := ⟨(.type "dict"), none, (.dict ⟨[D P "__name__" 165 (.str "cpy313.stringprep" 187), D P "__doc__" 166 .none, D P "__package__" 167 .none, D P "__loader__" 168 (.builtin "__main__.__loader__#opaque"), D P "__spec__" 169 .none, D P "__annotations__" 170 (.ref 6), D P "__builtins__" 171 (.ref 4), D P "__file__" 173 (.str "/claim/cut.py" 172), D P "__cached__" 174 .none, D P "b1_set" 248 (.ref 22), D P "in_table_b1" 255 (.ref 32), D P "in_table_c11" 262 (.ref 39), D P "in_table_c4" 270 (.ref 46), D P "c6_set" 284 (.ref 48)]⟩ 14), ⟨[]⟩⟩
def o47v0 (b : Bool) (P : Params) : Obj := ⟨(.type "range"), none, (.fields ⟨[(.int 65529 271), (.int 65534 272), (.int 1 273)]⟩), ⟨[]⟩⟩
def o48v0 (b : Bool) (P : Params) : Obj := ⟨(.type "set"), none, (.set ⟨[E 65529 274, E 65530 276, E 65531 278, E 65532 280, E 65533 282]⟩ 6 (tabOf b 31 ⟨[25, 26, 27, 28, 29]⟩ 0 1)), ⟨[]⟩⟩
def o49v0 (b : Bool) (P : Params) : Obj := ⟨(.type "range_iterator"), none, (.fields ⟨[(.int 65534 0), (.int 0 0), (.int 1 0)]⟩), ⟨[]⟩⟩
def o50v0 (b : Bool) (P : Params) : Obj := ⟨(.type "tuple"), none, (.seq ⟨[]⟩ 0), ⟨[]⟩⟩
def o51v0 (b : Bool) (P : Params) : Obj := ⟨(.type "StopIteration"), none, (.fields ⟨[(.ref 50), .none, .none, .none, (.bool false), .none]⟩), ⟨[]⟩⟩
def T11 (b : Bool) (P : Params) : BT := (N (bo boot_o_0 b P) (N (bo boot_o_1 b P) (N (o3v5 b P) (N (bo boot_o_7 b P) (N (o15v0 b P) (N1 (o31v0 b P)) (N1 (o47v0 b P))) (N (o23v0 b P) (N1 (o39v0 b P)) X)) (N (o11v0 b P) (N (o19v0 b P) (N1 (o35v0 b P)) (N1 (o51v0 b P))) (N (o27v0 b P) (N1 (o43v0 b P)) X))) (N (bo boot_o_5 b P) (N (bo boot_o_9 b P) (N (o17v0 b P) (N1 (o33v0 b P)) (N1 (o49v0 b P))) (N (o25v0 b P) (N1 (o41v0 b P)) X)) (N (o13v0 b P) (N (o21v0 b P) (N1 (o37v0 b P)) X) (N (o29v0 b P) (N1 (o45v0 b P)) X)))) (N (bo boot_o_2 b P) (N (bo boot_o_4 b P) (N (bo boot_o_8 b P) (N (o16v0 b P) (N1 (o32v0 b P)) (N1 (o48v0 b P))) (N (o24v0 b P) (N1 (o40v0 b P)) X)) (N (o12v3 b P) (N (o20v0 b P) (N1 (o36v0 b P)) X) (N (o28v0 b P) (N1 (o44v0 b P)) X))) (N (bo boot_o_6 b P) (N (bo boot_o_10 b P) (N (o18v0 b P) (N1 (o34v0 b P)) (N1 (o50v0 b P))) (N (o26v0 b P) (N1 (o42v0 b P)) X)) (N (o14v0 b P) (N (o22v0 b P) (N1 (o38v0 b P)) X) (N (o30v0 b P) (N1 (o46v0 b P)) X)))))
def S11 (b : Bool) (v : World) (os : OsState) : SharedT := ⟨T11 b v.params, 52, life0, ⟨[]⟩, drawn0, 285, os⟩
def th5 (pos : Pos) : Thread := piecesOf (st 5) env0 code0 pos [topFrame q0]
def o48v1 (b : Bool) (P : Params) : Obj := ⟨(.type "set"), none, (.set ⟨[]⟩ 0 (tabOf b 7 ⟨[]⟩ 0 0)), ⟨[]⟩⟩
def o49v1 (b : Bool) (P : Params) : Obj := ⟨(.type "range_iterator"), none, (.fields ⟨[(.int 65529 0), (.int 5 0), (.int 1 0)]⟩), ⟨[]⟩⟩
def T12 (b : Bool) (P : Params) : BT := (N (bo boot_o_0 b P) (N (bo boot_o_1 b P) (N (o3v4 b P) (N (bo boot_o_7 b P) (N (o15v0 b P) (N1 (o31v0 b P)) (N1 (o47v0 b P))) (N (o23v0 b P) (N1 (o39v0 b P)) X)) (N (o11v0 b P) (N (o19v0 b P) (N1 (o35v0 b P)) X) (N (o27v0 b P) (N1 (o43v0 b P)) X))) (N (bo boot_o_5 b P) (N (bo boot_o_9 b P) (N (o17v0 b P) (N1 (o33v0 b P)) (N1 (o49v1 b P))) (N (o25v0 b P) (N1 (o41v0 b P)) X)) (N (o13v0 b P) (N (o21v0 b P) (N1 (o37v0 b P)) X) (N (o29v0 b P) (N1 (o45v0 b P)) X)))) (N (bo boot_o_2 b P) (N (bo boot_o_4 b P) (N (bo boot_o_8 b P) (N (o16v0 b P) (N1 (o32v0 b P)) (N1 (o48v1 b P))) (N (o24v0 b P) (N1 (o40v0 b P)) X)) (N (o12v3 b P) (N (o20v0 b P) (N1 (o36v0 b P)) X) (N (o28v0 b P) (N1 (o44v0 b P)) X))) (N (bo boot_o_6 b P) (N (bo boot_o_10 b P) (N (o18v0 b P) (N1 (o34v0 b P)) X) (N (o26v0 b P) (N1 (o42v0 b P)) X)) (N (o14v0 b P) (N (o22v0 b P) (N1 (o38v0 b P)) X) (N (o30v0 b P) (N1 (o46v0 b P)) X)))))
def S12 (b : Bool) (v : World) (os : OsState) : SharedT := ⟨T12 b v.params, 50, life0, ⟨[]⟩, drawn0, 274, os⟩
def g5x0raw (b : Bool) (v : World) (os : OsState) : List Frame := stackOf (segGoT treeTable pw v 11 ann0 1 58 (S10 b v os) (th5 ⟨7, 0, 13, 46⟩))
def g5x0th (b : Bool) (v : World) (os : OsState) : Thread := ⟨denote treeTable (.builtin "set.update.loop" ⟨[(.ref 48), (.ref 49)], []⟩), (.builtin "set.update.loop" ⟨[(.ref 48), (.ref 49)], []⟩), ⟨14, 9, 14, 33⟩, [.ret (rK (g5x0raw b v os)) (rH (g5x0raw b v os)) (rG (g5x0raw b v os)) (rL (g5x0raw b v os)) (rC (g5x0raw b v os)) (rP (g5x0raw b v os)) (rT (g5x0raw b v os)), (frAt (g5x0raw b v os) 1), (frAt (g5x0raw b v os) 2), (frAt (g5x0raw b v os) 3)]⟩
def g5x0L (b : Bool) (v : World) (os : OsState) := segGoT treeTable pw v 11 ann0 1 58 (S10 b v os) (th5 ⟨7, 0, 13, 46⟩)
def g5x0R (b : Bool) (v : World) (os : OsState) : Option (SharedT × Thread) := some (S12 b v os, (g5x0th b v os))
def g5x0Lff (w : World) := g5x0L true (W00 w)
def g5x0Rff (w : World) := g5x0R true (W00 w)
theorem g5x0ff_a : (fun (_ : Unit → Unit) => true) (fun _ => let _ := @g5x0Lff; let _ := @g5x0Rff; ()) = true := by k_qdec
theorem g5x0ff : @g5x0Lff = @g5x0Rff := PySem.W.Fast.te17644259304796495226.trans (Eq.trans (show @PySem.W.Fast.tw17644259304796495226 = @PySem.W.Fast.tw1084576939058082415 by kernel_rfl) PySem.W.Fast.te1084576939058082415.symm)
def g5x0Lft (w : World) := g5x0L true (W01 w)
def g5x0Rft (w : World) := g5x0R true (W01 w)
theorem g5x0ft_a : (fun (_ : Unit → Unit) => true) (fun _ => let _ := @g5x0Lft; let _ := @g5x0Rft; ()) = true := by k_qdec
theorem g5x0ft : @g5x0Lft = @g5x0Rft := PySem.W.Fast.te15740225275406549122.trans (Eq.trans (show @PySem.W.Fast.tw15740225275406549122 = @PySem.W.Fast.tw17374134589436010490 by kernel_rfl) PySem.W.Fast.te17374134589436010490.symm)
def g5x0Ltf (w : World) := g5x0L false (W10 w)
def g5x0Rtf (w : World) := g5x0R false (W10 w)
theorem g5x0tf_a : (fun (_ : Unit → Unit) => true) (fun _ => let _ := @g5x0Ltf; let _ := @g5x0Rtf; ()) = true := by k_qdec
theorem g5x0tf : @g5x0Ltf = @g5x0Rtf := PySem.W.Fast.te12299859711684648306.trans (Eq.trans (show @PySem.W.Fast.tw12299859711684648306 = @PySem.W.Fast.tw3372941019848464061 by kernel_rfl) PySem.W.Fast.te3372941019848464061.symm)
def g5x0Ltt (w : World) := g5x0L false (W11 w)
def g5x0Rtt (w : World) := g5x0R false (W11 w)
theorem g5x0tt_a : (fun (_ : Unit → Unit) => true) (fun _ => let _ := @g5x0Ltt; let _ := @g5x0Rtt; ()) = true := by k_qdec
theorem g5x0tt : @g5x0Ltt = @g5x0Rtt := PySem.W.Fast.te341428000956979020.trans (Eq.trans (show @PySem.W.Fast.tw341428000956979020 = @PySem.W.Fast.tw14252275554343384850 by kernel_rfl) PySem.W.Fast.te14252275554343384850.symm)
theorem g5x0 (w : World) : g5x0L (led w.params) w = g5x0R (led w.params) w := byFour (P := fun b w => g5x0L b w = g5x0R b w) (fun w => congrFun g5x0ff w) (fun w => congrFun g5x0ft w) (fun w => congrFun g5x0tf w) (fun w => congrFun g5x0tt w) w
theorem g5x0s (w : World) (os : OsState) : segGo treeTable pw w 11 ann0 1 58 (S10 (led w.params) w os).abs (th5 ⟨7, 0, 13, 46⟩) = some ((S12 (led w.params) w os).abs, (g5x0th (led w.params) w os)) := segGo_of (congrFun (g5x0 w) os)
def g5x1L (b : Bool) (v : World) (os : OsState) := segRunT treeTable pw v 11 ann0 1 142 (S12 b v os) (g5x0th b v os)
def g5x1R (b : Bool) (v : World) (os : OsState) : Option (Flow × SharedT × Code × Pos) := some (.next, S11 b v os, code0, ⟨14, 0, 14, 6⟩)
def g5x1Lff (w : World) := g5x1L true (W00 w)
def g5x1Rff (w : World) := g5x1R true (W00 w)
theorem g5x1ff_a : (fun (_ : Unit → Unit) => true) (fun _ => let _ := @g5x1Lff; let _ := @g5x1Rff; ()) = true := by k_qdec
theorem g5x1ff : @g5x1Lff = @g5x1Rff := PySem.W.Fast.te6205779170947869085.trans (Eq.trans (show @PySem.W.Fast.tw6205779170947869085 = @PySem.W.Fast.tw11326625393012137979 by kernel_rfl) PySem.W.Fast.te11326625393012137979.symm)
def g5x1Lft (w : World) := g5x1L true (W01 w)
def g5x1Rft (w : World) := g5x1R true (W01 w)
theorem g5x1ft_a : (fun (_ : Unit → Unit) => true) (fun _ => let _ := @g5x1Lft; let _ := @g5x1Rft; ()) = true := by k_qdec
theorem g5x1ft : @g5x1Lft = @g5x1Rft := PySem.W.Fast.te12828043837435833003.trans (Eq.trans (show @PySem.W.Fast.tw12828043837435833003 = @PySem.W.Fast.tw1054384230611642917 by kernel_rfl) PySem.W.Fast.te1054384230611642917.symm)
def g5x1Ltf (w : World) := g5x1L false (W10 w)
def g5x1Rtf (w : World) := g5x1R false (W10 w)
theorem g5x1tf_a : (fun (_ : Unit → Unit) => true) (fun _ => let _ := @g5x1Ltf; let _ := @g5x1Rtf; ()) = true := by k_qdec
theorem g5x1tf : @g5x1Ltf = @g5x1Rtf := PySem.W.Fast.te17472465588505131263.trans (Eq.trans (show @PySem.W.Fast.tw17472465588505131263 = @PySem.W.Fast.tw1824573586077765843 by kernel_rfl) PySem.W.Fast.te1824573586077765843.symm)
def g5x1Ltt (w : World) := g5x1L false (W11 w)
def g5x1Rtt (w : World) := g5x1R false (W11 w)
theorem g5x1tt_a : (fun (_ : Unit → Unit) => true) (fun _ => let _ := @g5x1Ltt; let _ := @g5x1Rtt; ()) = true := by k_qdec
theorem g5x1tt : @g5x1Ltt = @g5x1Rtt := PySem.W.Fast.te5848109204135346012.trans (Eq.trans (show @PySem.W.Fast.tw5848109204135346012 = @PySem.W.Fast.tw1015553475891123490 by kernel_rfl) PySem.W.Fast.te1015553475891123490.symm)
theorem g5x1 (w : World) : g5x1L (led w.params) w = g5x1R (led w.params) w := byFour (P := fun b w => g5x1L b w = g5x1R b w) (fun w => congrFun g5x1ff w) (fun w => congrFun g5x1ft w) (fun w => congrFun g5x1tf w) (fun w => congrFun g5x1tt w) w
theorem piece5 (w : World) (os : OsState) : segRun treeTable pw w 11 ann0 1 (58 + 142) (S10 (led w.params) w os).abs (th5 ⟨7, 0, 13, 46⟩) = some (.next, (S11 (led w.params) w os).abs, code0, ⟨14, 0, 14, 6⟩) :=
  (seg_go (g5x0s w os) (segRun_of (congrFun (g5x1 w) os)))
-- statement 6: 29 steps, 0 heads, cuts []
def o3v6 (b : Bool) (P : Params) : Obj := ⟨(.type "dict"), none, (.dict ⟨[D P "__name__" 165 (.str "cpy313.stringprep" 187), D P "__doc__" 166 .none, D P "__package__" 167 .none, D P "__loader__" 168 (.builtin "__main__.__loader__#opaque"), D P "__spec__" 169 .none, D P "__annotations__" 170 (.ref 6), D P "__builtins__" 171 (.ref 4), D P "__file__" 173 (.str "/claim/cut.py" 172), D P "__cached__" 174 .none, D P "b1_set" 248 (.ref 22), D P "in_table_b1" 255 (.ref 32), D P "in_table_c11" 262 (.ref 39), D P "in_table_c4" 270 (.ref 46), D P "c6_set" 284 (.ref 48), D P "in_table_c6" 291 (.ref 58)]⟩ 15), ⟨[]⟩⟩
def o12v4 (b : Bool) (P : Params) : Obj := ⟨.none, none, (.fields ⟨[(.int 3 0), (.int 0 0), (.ref 31), (.int 5 0), (.int 0 0), (.ref 38), (.int 7 0), (.int 0 0), (.ref 45), (.int 15 0), (.int 0 0), (.ref 57)]⟩), ⟨[]⟩⟩
def o52v0 (b : Bool) (P : Params) : Obj := ⟨(.type "tuple"), none, (.seq ⟨[]⟩ 0), ⟨[]⟩⟩
def o53v0 (b : Bool) (P : Params) : Obj := ⟨.none, none, (.fields ⟨[]⟩), ⟨[]⟩⟩
def o54v0 (b : Bool) (P : Params) : Obj := ⟨(.type "tuple"), none, (.seq ⟨[(.str "code" 288)]⟩ 0), ⟨[]⟩⟩
def o55v0 (b : Bool) (P : Params) : Obj := ⟨(.type "tuple"), none, (.seq ⟨[]⟩ 0), ⟨[]⟩⟩
def o56v0 (b : Bool) (P : Params) : Obj := ⟨.none, none, (.func (fdOf 6 0 .none .none)), ⟨[]⟩⟩
def o57v0 (b : Bool) (P : Params) : Obj := ⟨(.type "code"), none, (.fields ⟨[(.str "in_table_c6" 285), (.str "in_table_c6" 286), (.str "/claim/cut.py" 287), (.int 15 0), (.int 1 0), (.int 0 0), (.int 0 0), (.int 3 0), (.ref 52), (.bool true), (.int 181 0), (.ref 53), .none, (.ref 54), (.ref 55), (.ref 56), (.int 289 0), (.int 15 0), (.str "/claim/cut.py" 290)]⟩), ⟨[]⟩⟩
def o58v0 (b : Bool) (P : Params) : Obj := ⟨(.type "function"), none, (.func (fdOf 6 3 (.str "cpy313.stringprep" 187) (.ref 57))), ⟨[]⟩⟩
def T13 (b : Bool) (P : Params) : BT := (N (bo boot_o_0 b P) (N (bo boot_o_1 b P) (N (o3v6 b P) (N (bo boot_o_7 b P) (N (o15v0 b P) (N1 (o31v0 b P)) (N1 (o47v0 b P))) (N (o23v0 b P) (N1 (o39v0 b P)) (N1 (o55v0 b P)))) (N (o11v0 b P) (N (o19v0 b P) (N1 (o35v0 b P)) (N1 (o51v0 b P))) (N (o27v0 b P) (N1 (o43v0 b P)) X))) (N (bo boot_o_5 b P) (N (bo boot_o_9 b P) (N (o17v0 b P) (N1 (o33v0 b P)) (N1 (o49v0 b P))) (N (o25v0 b P) (N1 (o41v0 b P)) (N1 (o57v0 b P)))) (N (o13v0 b P) (N (o21v0 b P) (N1 (o37v0 b P)) (N1 (o53v0 b P))) (N (o29v0 b P) (N1 (o45v0 b P)) X)))) (N (bo boot_o_2 b P) (N (bo boot_o_4 b P) (N (bo boot_o_8 b P) (N (o16v0 b P) (N1 (o32v0 b P)) (N1 (o48v0 b P))) (N (o24v0 b P) (N1 (o40v0 b P)) (N1 (o56v0 b P)))) (N (o12v4 b P) (N (o20v0 b P) (N1 (o36v0 b P)) (N1 (o52v0 b P))) (N (o28v0 b P) (N1 (o44v0 b P)) X))) (N (bo boot_o_6 b P) (N (bo boot_o_10 b P) (N (o18v0 b P) (N1 (o34v0 b P)) (N1 (o50v0 b P))) (N (o26v0 b P) (N1 (o42v0 b P)) (N1 (o58v0 b P)))) (N (o14v0 b P) (N (o22v0 b P) (N1 (o38v0 b P)) (N1 (o54v0 b P))) (N (o30v0 b P) (N1 (o46v0 b P)) X)))))
def S13 (b : Bool) (v : World) (os : OsState) : SharedT := ⟨T13 b v.params, 59, life0, ⟨[]⟩, drawn0, 292, os⟩
def th6 (pos : Pos) : Thread := piecesOf (st 6) env0 code0 pos [topFrame q0]
def g6x0L (b : Bool) (v : World) (os : OsState) := segRunT treeTable pw v 11 ann0 1 30 (S11 b v os) (th6 ⟨14, 0, 14, 6⟩)
def g6x0R (b : Bool) (v : World) (os : OsState) : Option (Flow × SharedT × Code × Pos) := some (.next, S13 b v os, code0, ⟨15, 0, 16, 30⟩)
def g6x0Lff (w : World) := g6x0L true (W00 w)
def g6x0Rff (w : World) := g6x0R true (W00 w)
theorem g6x0ff_a : (fun (_ : Unit → Unit) => true) (fun _ => let _ := @g6x0Lff; let _ := @g6x0Rff; ()) = true := by k_qdec
theorem g6x0ff : @g6x0Lff = @g6x0Rff := PySem.W.Fast.te9296885251313242301.trans (Eq.trans (show @PySem.W.Fast.tw9296885251313242301 = @PySem.W.Fast.tw7572383589349532841 by kernel_rfl) PySem.W.Fast.te7572383589349532841.symm)
def g6x0Lft (w : World) := g6x0L true (W01 w)
def g6x0Rft (w : World) := g6x0R true (W01 w)
theorem g6x0ft_a : (fun (_ : Unit → Unit) => true) (fun _ => let _ := @g6x0Lft; let _ := @g6x0Rft; ()) = true := by k_qdec
theorem g6x0ft : @g6x0Lft = @g6x0Rft := PySem.W.Fast.te4421094094092985673.trans (Eq.trans (show @PySem.W.Fast.tw4421094094092985673 = @PySem.W.Fast.tw10019327744350133653 by kernel_rfl) PySem.W.Fast.te10019327744350133653.symm)
def g6x0Ltf (w : World) := g6x0L false (W10 w)
def g6x0Rtf (w : World) := g6x0R false (W10 w)
theorem g6x0tf_a : (fun (_ : Unit → Unit) => true) (fun _ => let _ := @g6x0Ltf; let _ := @g6x0Rtf; ()) = true := by k_qdec
theorem g6x0tf : @g6x0Ltf = @g6x0Rtf := PySem.W.Fast.te17163272640072281573.trans (Eq.trans (show @PySem.W.Fast.tw17163272640072281573 = @PySem.W.Fast.tw15125461457732674373 by kernel_rfl) PySem.W.Fast.te15125461457732674373.symm)
def g6x0Ltt (w : World) := g6x0L false (W11 w)
def g6x0Rtt (w : World) := g6x0R false (W11 w)
theorem g6x0tt_a : (fun (_ : Unit → Unit) => true) (fun _ => let _ := @g6x0Ltt; let _ := @g6x0Rtt; ()) = true := by k_qdec
theorem g6x0tt : @g6x0Ltt = @g6x0Rtt := PySem.W.Fast.te13736331572432438594.trans (Eq.trans (show @PySem.W.Fast.tw13736331572432438594 = @PySem.W.Fast.tw17321822254094182812 by kernel_rfl) PySem.W.Fast.te17321822254094182812.symm)
theorem g6x0 (w : World) : g6x0L (led w.params) w = g6x0R (led w.params) w := byFour (P := fun b w => g6x0L b w = g6x0R b w) (fun w => congrFun g6x0ff w) (fun w => congrFun g6x0ft w) (fun w => congrFun g6x0tf w) (fun w => congrFun g6x0tt w) w
theorem piece6 (w : World) (os : OsState) : segRun treeTable pw w 11 ann0 1 30 (S11 (led w.params) w os).abs (th6 ⟨14, 0, 14, 6⟩) = some (.next, (S13 (led w.params) w os).abs, code0, ⟨15, 0, 16, 30⟩) :=
  (segRun_of (congrFun (g6x0 w) os))
-- statement 7: 360 steps, 13 heads, cuts [(58, 1), (244, 1)]
def o3v7 (b : Bool) (P : Params) : Obj := ⟨(.type "dict"), none, (.dict ⟨[D P "__name__" 165 (.str "cpy313.stringprep" 187), D P "__doc__" 166 .none, D P "__package__" 167 .none, D P "__loader__" 168 (.builtin "__main__.__loader__#opaque"), D P "__spec__" 169 .none, D P "__annotations__" 170 (.ref 6), D P "__builtins__" 171 (.ref 4), D P "__file__" 173 (.str "/claim/cut.py" 172), D P "__cached__" 174 .none, D P "b1_set" 248 (.ref 22), D P "in_table_b1" 255 (.ref 32), D P "in_table_c11" 262 (.ref 39), D P "in_table_c4" 270 (.ref 46), D P "c6_set" 284 (.ref 48), D P "in_table_c6" 291 (.ref 58), D P "c7_set" 319 (.ref 60)]⟩ 16), ⟨[]⟩⟩
def o59v0 (b : Bool) (P : Params) : Obj := ⟨(.type "range"), none, (.fields ⟨[(.int 12272 292), (.int 12284 293), (.int 1 294)]⟩), ⟨[]⟩⟩
def o60v0 (b : Bool) (P : Params) : Obj := ⟨(.type "set"), none, (.set ⟨[E 12272 295, E 12273 297, E 12274 299, E 12275 301, E 12276 303, E 12277 305, E 12278 307, E 12279 309, E 12280 311, E 12281 313, E 12282 315, E 12283 317]⟩ 13 (tabOf b 31 ⟨[16, 17, 18, 19, 20, 21, 22, 23, 24, 25, 26, 27]⟩ 0 1)), ⟨[]⟩⟩
def o61v0 (b : Bool) (P : Params) : Obj := ⟨(.type "range_iterator"), none, (.fields ⟨[(.int 12284 0), (.int 0 0), (.int 1 0)]⟩), ⟨[]⟩⟩
def o62v0 (b : Bool) (P : Params) : Obj := ⟨(.type "tuple"), none, (.seq ⟨[]⟩ 0), ⟨[]⟩⟩
def o63v0 (b : Bool) (P : Params) : Obj := ⟨(.type "StopIteration"), none, (.fields ⟨[(.ref 62), .none, .none, .none, (.bool false), .none]⟩), ⟨[]⟩⟩
def T14 (b : Bool) (P : Params) : BT := (N (bo boot_o_0 b P) (N (bo boot_o_1 b P) (N (o3v7 b P) (N (bo boot_o_7 b P) (N (o15v0 b P) (N (o31v0 b P) (N1 (o63v0 b P)) X) (N1 (o47v0 b P))) (N (o23v0 b P) (N1 (o39v0 b P)) (N1 (o55v0 b P)))) (N (o11v0 b P) (N (o19v0 b P) (N1 (o35v0 b P)) (N1 (o51v0 b P))) (N (o27v0 b P) (N1 (o43v0 b P)) (N1 (o59v0 b P))))) (N (bo boot_o_5 b P) (N (bo boot_o_9 b P) (N (o17v0 b P) (N1 (o33v0 b P)) (N1 (o49v0 b P))) (N (o25v0 b P) (N1 (o41v0 b P)) (N1 (o57v0 b P)))) (N (o13v0 b P) (N (o21v0 b P) (N1 (o37v0 b P)) (N1 (o53v0 b P))) (N (o29v0 b P) (N1 (o45v0 b P)) (N1 (o61v0 b P)))))) (N (bo boot_o_2 b P) (N (bo boot_o_4 b P) (N (bo boot_o_8 b P) (N (o16v0 b P) (N1 (o32v0 b P)) (N1 (o48v0 b P))) (N (o24v0 b P) (N1 (o40v0 b P)) (N1 (o56v0 b P)))) (N (o12v4 b P) (N (o20v0 b P) (N1 (o36v0 b P)) (N1 (o52v0 b P))) (N (o28v0 b P) (N1 (o44v0 b P)) (N1 (o60v0 b P))))) (N (bo boot_o_6 b P) (N (bo boot_o_10 b P) (N (o18v0 b P) (N1 (o34v0 b P)) (N1 (o50v0 b P))) (N (o26v0 b P) (N1 (o42v0 b P)) (N1 (o58v0 b P)))) (N (o14v0 b P) (N (o22v0 b P) (N1 (o38v0 b P)) (N1 (o54v0 b P))) (N (o30v0 b P) (N1 (o46v0 b P)) (N1 (o62v0 b P)))))))
def S14 (b : Bool) (v : World) (os : OsState) : SharedT := ⟨T14 b v.params, 64, life0, ⟨[]⟩, drawn0, 320, os⟩
def th7 (pos : Pos) : Thread := piecesOf (st 7) env0 code0 pos [topFrame q0]
def o60v1 (b : Bool) (P : Params) : Obj := ⟨(.type "set"), none, (.set ⟨[]⟩ 0 (tabOf b 7 ⟨[]⟩ 0 0)), ⟨[]⟩⟩
def o61v1 (b : Bool) (P : Params) : Obj := ⟨(.type "range_iterator"), none, (.fields ⟨[(.int 12272 0), (.int 12 0), (.int 1 0)]⟩), ⟨[]⟩⟩
def TH7r1 (b : Bool) (P : Params) (x0 x1 : Obj) : BT := (N (bo boot_o_0 b P) (N (bo boot_o_1 b P) (N (o3v6 b P) (N (bo boot_o_7 b P) (N (o15v0 b P) (N1 (o31v0 b P)) (N1 (o47v0 b P))) (N (o23v0 b P) (N1 (o39v0 b P)) (N1 (o55v0 b P)))) (N (o11v0 b P) (N (o19v0 b P) (N1 (o35v0 b P)) (N1 (o51v0 b P))) (N (o27v0 b P) (N1 (o43v0 b P)) (N1 (o59v0 b P))))) (N (bo boot_o_5 b P) (N (bo boot_o_9 b P) (N (o17v0 b P) (N1 (o33v0 b P)) (N1 (o49v0 b P))) (N (o25v0 b P) (N1 (o41v0 b P)) (N1 (o57v0 b P)))) (N (o13v0 b P) (N (o21v0 b P) (N1 (o37v0 b P)) (N1 (o53v0 b P))) (N (o29v0 b P) (N1 (o45v0 b P)) (N1 x1))))) (N (bo boot_o_2 b P) (N (bo boot_o_4 b P) (N (bo boot_o_8 b P) (N (o16v0 b P) (N1 (o32v0 b P)) (N1 (o48v0 b P))) (N (o24v0 b P) (N1 (o40v0 b P)) (N1 (o56v0 b P)))) (N (o12v4 b P) (N (o20v0 b P) (N1 (o36v0 b P)) (N1 (o52v0 b P))) (N (o28v0 b P) (N1 (o44v0 b P)) (N1 x0)))) (N (bo boot_o_6 b P) (N (bo boot_o_10 b P) (N (o18v0 b P) (N1 (o34v0 b P)) (N1 (o50v0 b P))) (N (o26v0 b P) (N1 (o42v0 b P)) (N1 (o58v0 b P)))) (N (o14v0 b P) (N (o22v0 b P) (N1 (o38v0 b P)) (N1 (o54v0 b P))) (N (o30v0 b P) (N1 (o46v0 b P)) X)))))
def S15 (b : Bool) (v : World) (os : OsState) : SharedT := ⟨TH7r1 b v.params (o60v1 b v.params) (o61v1 b v.params), 62, life0, ⟨[]⟩, drawn0, 295, os⟩
def g7x0raw (b : Bool) (v : World) (os : OsState) : List Frame := stackOf (segGoT treeTable pw v 11 ann0 1 58 (S13 b v os) (th7 ⟨15, 0, 16, 30⟩))
def g7x0th (b : Bool) (v : World) (os : OsState) : Thread := ⟨denote treeTable (.builtin "set.update.loop" ⟨[(.ref 60), (.ref 61)], []⟩), (.builtin "set.update.loop" ⟨[(.ref 60), (.ref 61)], []⟩), ⟨17, 9, 17, 33⟩, [.ret (rK (g7x0raw b v os)) (rH (g7x0raw b v os)) (rG (g7x0raw b v os)) (rL (g7x0raw b v os)) (rC (g7x0raw b v os)) (rP (g7x0raw b v os)) (rT (g7x0raw b v os)), (frAt (g7x0raw b v os) 1), (frAt (g7x0raw b v os) 2), (frAt (g7x0raw b v os) 3)]⟩
def g7x0L (b : Bool) (v : World) (os : OsState) := segGoT treeTable pw v 11 ann0 1 58 (S13 b v os) (th7 ⟨15, 0, 16, 30⟩)
def g7x0R (b : Bool) (v : World) (os : OsState) : Option (SharedT × Thread) := some (S15 b v os, (g7x0th b v os))
def g7x0Lff (w : World) := g7x0L true (W00 w)
def g7x0Rff (w : World) := g7x0R true (W00 w)
theorem g7x0ff_a : (fun (_ : Unit → Unit) => true) (fun _ => let _ := @g7x0Lff; let _ := @g7x0Rff; ()) = true := by k_qdec
theorem g7x0ff : @g7x0Lff = @g7x0Rff := PySem.W.Fast.te6214324034308721276.trans (Eq.trans (show @PySem.W.Fast.tw6214324034308721276 = @PySem.W.Fast.tw2110749756099336702 by kernel_rfl) PySem.W.Fast.te2110749756099336702.symm)
def g7x0Lft (w : World) := g7x0L true (W01 w)
def g7x0Rft (w : World) := g7x0R true (W01 w)
theorem g7x0ft_a : (fun (_ : Unit → Unit) => true) (fun _ => let _ := @g7x0Lft; let _ := @g7x0Rft; ()) = true := by k_qdec
theorem g7x0ft : @g7x0Lft = @g7x0Rft := PySem.W.Fast.te3261797369176679927.trans (Eq.trans (show @PySem.W.Fast.tw3261797369176679927 = @PySem.W.Fast.tw15420582440631102986 by kernel_rfl) PySem.W.Fast.te15420582440631102986.symm)
def g7x0Ltf (w : World) := g7x0L false (W10 w)
def g7x0Rtf (w : World) := g7x0R false (W10 w)
theorem g7x0tf_a : (fun (_ : Unit → Unit) => true) (fun _ => let _ := @g7x0Ltf; let _ := @g7x0Rtf; ()) = true := by k_qdec
theorem g7x0tf : @g7x0Ltf = @g7x0Rtf := PySem.W.Fast.te11140107252542351976.trans (Eq.trans (show @PySem.W.Fast.tw11140107252542351976 = @PySem.W.Fast.tw9197991852301813306 by kernel_rfl) PySem.W.Fast.te9197991852301813306.symm)
def g7x0Ltt (w : World) := g7x0L false (W11 w)
def g7x0Rtt (w : World) := g7x0R false (W11 w)
theorem g7x0tt_a : (fun (_ : Unit → Unit) => true) (fun _ => let _ := @g7x0Ltt; let _ := @g7x0Rtt; ()) = true := by k_qdec
theorem g7x0tt : @g7x0Ltt = @g7x0Rtt := PySem.W.Fast.te7594130692577321842.trans (Eq.trans (show @PySem.W.Fast.tw7594130692577321842 = @PySem.W.Fast.tw893005382905721728 by kernel_rfl) PySem.W.Fast.te893005382905721728.symm)
theorem g7x0 (w : World) : g7x0L (led w.params) w = g7x0R (led w.params) w := byFour (P := fun b w => g7x0L b w = g7x0R b w) (fun w => congrFun g7x0ff w) (fun w => congrFun g7x0ft w) (fun w => congrFun g7x0tf w) (fun w => congrFun g7x0tt w) w
theorem g7x0s (w : World) (os : OsState) : segGo treeTable pw w 11 ann0 1 58 (S13 (led w.params) w os).abs (th7 ⟨15, 0, 16, 30⟩) = some ((S15 (led w.params) w os).abs, (g7x0th (led w.params) w os)) := segGo_of (congrFun (g7x0 w) os)
def o60v2 (b : Bool) (P : Params) : Obj := ⟨(.type "set"), none, (.set ⟨[E 12272 295, E 12273 297, E 12274 299, E 12275 301, E 12276 303, E 12277 305, E 12278 307, E 12279 309]⟩ 9 (tabOf b 31 ⟨[16, 17, 18, 19, 20, 21, 22, 23]⟩ 0 1)), ⟨[]⟩⟩
def o61v2 (b : Bool) (P : Params) : Obj := ⟨(.type "range_iterator"), none, (.fields ⟨[(.int 12280 0), (.int 4 0), (.int 1 0)]⟩), ⟨[]⟩⟩
def S16 (b : Bool) (v : World) (os : OsState) : SharedT := ⟨TH7r1 b v.params (o60v2 b v.params) (o61v2 b v.params), 62, life0, ⟨[]⟩, drawn0, 311, os⟩
def g7x1L (b : Bool) (v : World) (os : OsState) (k : Result → Sem Fin) (h : Option Value) (g : Bool) (l : List Value) (cd : Code) (p₀ : Pos) (kept : List Value) (f1 f2 f3 : Frame) := segGoT treeTable pw v 11 ann0 1 186 (S15 b v os) ⟨denote treeTable (.builtin "set.update.loop" ⟨[(.ref 60), (.ref 61)], []⟩), (.builtin "set.update.loop" ⟨[(.ref 60), (.ref 61)], []⟩), ⟨17, 9, 17, 33⟩, [.ret k h g l cd p₀ kept, f1, f2, f3]⟩
def g7x1R (b : Bool) (v : World) (os : OsState) (k : Result → Sem Fin) (h : Option Value) (g : Bool) (l : List Value) (cd : Code) (p₀ : Pos) (kept : List Value) (f1 f2 f3 : Frame) : Option (SharedT × Thread) := some (S16 b v os, ⟨denote treeTable (.builtin "set.update.loop" ⟨[(.ref 60), (.ref 61)], []⟩), (.builtin "set.update.loop" ⟨[(.ref 60), (.ref 61)], []⟩), ⟨17, 9, 17, 33⟩, [.ret k h g l cd p₀ kept, f1, f2, f3]⟩)
def g7x1Lff (w : World) := g7x1L true (W00 w)
def g7x1Rff (w : World) := g7x1R true (W00 w)
theorem g7x1ff_a : (fun (_ : Unit → Unit) => true) (fun _ => let _ := @g7x1Lff; let _ := @g7x1Rff; ()) = true := by k_qdec
theorem g7x1ff : @g7x1Lff = @g7x1Rff := PySem.W.Fast.te17263823978596298208.trans (Eq.trans (show @PySem.W.Fast.tw17263823978596298208 = @PySem.W.Fast.tw11294213407492362691 by kernel_rfl) PySem.W.Fast.te11294213407492362691.symm)
def g7x1Lft (w : World) := g7x1L true (W01 w)
def g7x1Rft (w : World) := g7x1R true (W01 w)
theorem g7x1ft_a : (fun (_ : Unit → Unit) => true) (fun _ => let _ := @g7x1Lft; let _ := @g7x1Rft; ()) = true := by k_qdec
theorem g7x1ft : @g7x1Lft = @g7x1Rft := PySem.W.Fast.te13669322607278153092.trans (Eq.trans (show @PySem.W.Fast.tw13669322607278153092 = @PySem.W.Fast.tw8807739433873264404 by kernel_rfl) PySem.W.Fast.te8807739433873264404.symm)
def g7x1Ltf (w : World) := g7x1L false (W10 w)
def g7x1Rtf (w : World) := g7x1R false (W10 w)
theorem g7x1tf_a : (fun (_ : Unit → Unit) => true) (fun _ => let _ := @g7x1Ltf; let _ := @g7x1Rtf; ()) = true := by k_qdec
theorem g7x1tf : @g7x1Ltf = @g7x1Rtf := PySem.W.Fast.te306324365339259753.trans (Eq.trans (show @PySem.W.Fast.tw306324365339259753 = @PySem.W.Fast.tw7063869887832529992 by kernel_rfl) PySem.W.Fast.te7063869887832529992.symm)
def g7x1Ltt (w : World) := g7x1L false (W11 w)
def g7x1Rtt (w : World) := g7x1R false (W11 w)
theorem g7x1tt_a : (fun (_ : Unit → Unit) => true) (fun _ => let _ := @g7x1Ltt; let _ := @g7x1Rtt; ()) = true := by k_qdec
theorem g7x1tt : @g7x1Ltt = @g7x1Rtt := PySem.W.Fast.te10134257614088399321.trans (Eq.trans (show @PySem.W.Fast.tw10134257614088399321 = @PySem.W.Fast.tw6378456590838297412 by kernel_rfl) PySem.W.Fast.te6378456590838297412.symm)
theorem g7x1 (w : World) : g7x1L (led w.params) w = g7x1R (led w.params) w := byFour (P := fun b w => g7x1L b w = g7x1R b w) (fun w => congrFun g7x1ff w) (fun w => congrFun g7x1ft w) (fun w => congrFun g7x1tf w) (fun w => congrFun g7x1tt w) w
theorem g7x1s (w : World) (os : OsState) : segGo treeTable pw w 11 ann0 1 186 (S15 (led w.params) w os).abs (g7x0th (led w.params) w os) = some ((S16 (led w.params) w os).abs, (g7x0th (led w.params) w os)) := segGo_of (show g7x1L (led w.params) w os (rK (g7x0raw (led w.params) w os)) (rH (g7x0raw (led w.params) w os)) (rG (g7x0raw (led w.params) w os)) (rL (g7x0raw (led w.params) w os)) (rC (g7x0raw (led w.params) w os)) (rP (g7x0raw (led w.params) w os)) (rT (g7x0raw (led w.params) w os)) (frAt (g7x0raw (led w.params) w os) 1) (frAt (g7x0raw (led w.params) w os) 2) (frAt (g7x0raw (led w.params) w os) 3) = g7x1R (led w.params) w os (rK (g7x0raw (led w.params) w os)) (rH (g7x0raw (led w.params) w os)) (rG (g7x0raw (led w.params) w os)) (rL (g7x0raw (led w.params) w os)) (rC (g7x0raw (led w.params) w os)) (rP (g7x0raw (led w.params) w os)) (rT (g7x0raw (led w.params) w os)) (frAt (g7x0raw (led w.params) w os) 1) (frAt (g7x0raw (led w.params) w os) 2) (frAt (g7x0raw (led w.params) w os) 3) by rw [g7x1])
def g7x2L (b : Bool) (v : World) (os : OsState) := segRunT treeTable pw v 11 ann0 1 117 (S16 b v os) (g7x0th b v os)
def g7x2R (b : Bool) (v : World) (os : OsState) : Option (Flow × SharedT × Code × Pos) := some (.next, S14 b v os, code0, ⟨17, 0, 17, 6⟩)
def g7x2Lff (w : World) := g7x2L true (W00 w)
def g7x2Rff (w : World) := g7x2R true (W00 w)
theorem g7x2ff_a : (fun (_ : Unit → Unit) => true) (fun _ => let _ := @g7x2Lff; let _ := @g7x2Rff; ()) = true := by k_qdec
theorem g7x2ff : @g7x2Lff = @g7x2Rff := PySem.W.Fast.te7383597880214374900.trans (Eq.trans (show @PySem.W.Fast.tw7383597880214374900 = @PySem.W.Fast.tw13669321935753735564 by kernel_rfl) PySem.W.Fast.te13669321935753735564.symm)
def g7x2Lft (w : World) := g7x2L true (W01 w)
def g7x2Rft (w : World) := g7x2R true (W01 w)
theorem g7x2ft_a : (fun (_ : Unit → Unit) => true) (fun _ => let _ := @g7x2Lft; let _ := @g7x2Rft; ()) = true := by k_qdec
theorem g7x2ft : @g7x2Lft = @g7x2Rft := PySem.W.Fast.te11643783290781461962.trans (Eq.trans (show @PySem.W.Fast.tw11643783290781461962 = @PySem.W.Fast.tw13787402250032405279 by kernel_rfl) PySem.W.Fast.te13787402250032405279.symm)
def g7x2Ltf (w : World) := g7x2L false (W10 w)
def g7x2Rtf (w : World) := g7x2R false (W10 w)
theorem g7x2tf_a : (fun (_ : Unit → Unit) => true) (fun _ => let _ := @g7x2Ltf; let _ := @g7x2Rtf; ()) = true := by k_qdec
theorem g7x2tf : @g7x2Ltf = @g7x2Rtf := PySem.W.Fast.te3089911544696534875.trans (Eq.trans (show @PySem.W.Fast.tw3089911544696534875 = @PySem.W.Fast.tw3553324256776225128 by kernel_rfl) PySem.W.Fast.te3553324256776225128.symm)
def g7x2Ltt (w : World) := g7x2L false (W11 w)
def g7x2Rtt (w : World) := g7x2R false (W11 w)
theorem g7x2tt_a : (fun (_ : Unit → Unit) => true) (fun _ => let _ := @g7x2Ltt; let _ := @g7x2Rtt; ()) = true := by k_qdec
theorem g7x2tt : @g7x2Ltt = @g7x2Rtt := PySem.W.Fast.te3367817831913904584.trans (Eq.trans (show @PySem.W.Fast.tw3367817831913904584 = @PySem.W.Fast.tw1869542815507515216 by kernel_rfl) PySem.W.Fast.te1869542815507515216.symm)
theorem g7x2 (w : World) : g7x2L (led w.params) w = g7x2R (led w.params) w := byFour (P := fun b w => g7x2L b w = g7x2R b w) (fun w => congrFun g7x2ff w) (fun w => congrFun g7x2ft w) (fun w => congrFun g7x2tf w) (fun w => congrFun g7x2tt w) w
theorem piece7 (w : World) (os : OsState) : segRun treeTable pw w 11 ann0 1 (58 + (186 + 117)) (S13 (led w.params) w os).abs (th7 ⟨15, 0, 16, 30⟩) = some (.next, (S14 (led w.params) w os).abs, code0, ⟨17, 0, 17, 6⟩) :=
  (seg_go (g7x0s w os) (seg_go (g7x1s w os) (segRun_of (congrFun (g7x2 w) os))))
-- statement 8: 29 steps, 0 heads, cuts []
def o3v8 (b : Bool) (P : Params) : Obj := ⟨(.type "dict"), none, (.dict ⟨[D P "__name__" 165 (.str "cpy313.stringprep" 187), D P "__doc__" 166 .none, D P "__package__" 167 .none, D P "__loader__" 168 (.builtin "__main__.__loader__#opaque"), D P "__spec__" 169 .none, D P "__annotations__" 170 (.ref 6), D P "__builtins__" 171 (.ref 4), D P "__file__" 173 (.str "/claim/cut.py" 172), D P "__cached__" 174 .none, D P "b1_set" 248 (.ref 22), D P "in_table_b1" 255 (.ref 32), D P "in_table_c11" 262 (.ref 39), D P "in_table_c4" 270 (.ref 46), D P "c6_set" 284 (.ref 48), D P "in_table_c6" 291 (.ref 58), D P "c7_set" 319 (.ref 60), D P "in_table_c7" 326 (.ref 70)]⟩ 17), ⟨[]⟩⟩
def o12v5 (b : Bool) (P : Params) : Obj := ⟨.none, none, (.fields ⟨[(.int 3 0), (.int 0 0), (.ref 31), (.int 5 0), (.int 0 0), (.ref 38), (.int 7 0), (.int 0 0), (.ref 45), (.int 15 0), (.int 0 0), (.ref 57), (.int 18 0), (.int 0 0), (.ref 69)]⟩), ⟨[]⟩⟩
def o64v0 (b : Bool) (P : Params) : Obj := ⟨(.type "tuple"), none, (.seq ⟨[]⟩ 0), ⟨[]⟩⟩
def o65v0 (b : Bool) (P : Params) : Obj := ⟨.none, none, (.fields ⟨[]⟩), ⟨[]⟩⟩
def o66v0 (b : Bool) (P : Params) : Obj := ⟨(.type "tuple"), none, (.seq ⟨[(.str "code" 323)]⟩ 0), ⟨[]⟩⟩
def o67v0 (b : Bool) (P : Params) : Obj := ⟨(.type "tuple"), none, (.seq ⟨[]⟩ 0), ⟨[]⟩⟩
def o68v0 (b : Bool) (P : Params) : Obj := ⟨.none, none, (.func (fdOf 8 0 .none .none)), ⟨[]⟩⟩
def o69v0 (b : Bool) (P : Params) : Obj := ⟨(.type "code"), none, (.fields ⟨[(.str "in_table_c7" 320), (.str "in_table_c7" 321), (.str "/claim/cut.py" 322), (.int 18 0), (.int 1 0), (.int 0 0), (.int 0 0), (.int 3 0), (.ref 64), (.bool true), (.int 181 0), (.ref 65), .none, (.ref 66), (.ref 67), (.ref 68), (.int 324 0), (.int 18 0), (.str "/claim/cut.py" 325)]⟩), ⟨[]⟩⟩
def o70v0 (b : Bool) (P : Params) : Obj := ⟨(.type "function"), none, (.func (fdOf 8 3 (.str "cpy313.stringprep" 187) (.ref 69))), ⟨[]⟩⟩
def T17 (b : Bool) (P : Params) : BT := (N (bo boot_o_0 b P) (N (bo boot_o_1 b P) (N (o3v8 b P) (N (bo boot_o_7 b P) (N (o15v0 b P) (N (o31v0 b P) (N1 (o63v0 b P)) X) (N1 (o47v0 b P))) (N (o23v0 b P) (N1 (o39v0 b P)) (N1 (o55v0 b P)))) (N (o11v0 b P) (N (o19v0 b P) (N (o35v0 b P) (N1 (o67v0 b P)) X) (N1 (o51v0 b P))) (N (o27v0 b P) (N1 (o43v0 b P)) (N1 (o59v0 b P))))) (N (bo boot_o_5 b P) (N (bo boot_o_9 b P) (N (o17v0 b P) (N (o33v0 b P) (N1 (o65v0 b P)) X) (N1 (o49v0 b P))) (N (o25v0 b P) (N1 (o41v0 b P)) (N1 (o57v0 b P)))) (N (o13v0 b P) (N (o21v0 b P) (N (o37v0 b P) (N1 (o69v0 b P)) X) (N1 (o53v0 b P))) (N (o29v0 b P) (N1 (o45v0 b P)) (N1 (o61v0 b P)))))) (N (bo boot_o_2 b P) (N (bo boot_o_4 b P) (N (bo boot_o_8 b P) (N (o16v0 b P) (N (o32v0 b P) (N1 (o64v0 b P)) X) (N1 (o48v0 b P))) (N (o24v0 b P) (N1 (o40v0 b P)) (N1 (o56v0 b P)))) (N (o12v5 b P) (N (o20v0 b P) (N (o36v0 b P) (N1 (o68v0 b P)) X) (N1 (o52v0 b P))) (N (o28v0 b P) (N1 (o44v0 b P)) (N1 (o60v0 b P))))) (N (bo boot_o_6 b P) (N (bo boot_o_10 b P) (N (o18v0 b P) (N (o34v0 b P) (N1 (o66v0 b P)) X) (N1 (o50v0 b P))) (N (o26v0 b P) (N1 (o42v0 b P)) (N1 (o58v0 b P)))) (N (o14v0 b P) (N (o22v0 b P) (N (o38v0 b P) (N1 (o70v0 b P)) X) (N1 (o54v0 b P))) (N (o30v0 b P) (N1 (o46v0 b P)) (N1 (o62v0 b P)))))))
def S17 (b : Bool) (v : World) (os : OsState) : SharedT := ⟨T17 b v.params, 71, life0, ⟨[]⟩, drawn0, 327, os⟩
def th8 (pos : Pos) : Thread := piecesOf (st 8) env0 code0 pos [topFrame q0]
def g8x0L (b : Bool) (v : World) (os : OsState) := segRunT treeTable pw v 11 ann0 1 30 (S14 b v os) (th8 ⟨17, 0, 17, 6⟩)
def g8x0R (b : Bool) (v : World) (os : OsState) : Option (Flow × SharedT × Code × Pos) := some (.next, S17 b v os, code0, ⟨18, 0, 19, 30⟩)
def g8x0Lff (w : World) := g8x0L true (W00 w)
def g8x0Rff (w : World) := g8x0R true (W00 w)
theorem g8x0ff_a : (fun (_ : Unit → Unit) => true) (fun _ => let _ := @g8x0Lff; let _ := @g8x0Rff; ()) = true := by k_qdec
theorem g8x0ff : @g8x0Lff = @g8x0Rff := PySem.W.Fast.te4301988157437345973.trans (Eq.trans (show @PySem.W.Fast.tw4301988157437345973 = @PySem.W.Fast.tw18111774129782715913 by kernel_rfl) PySem.W.Fast.te18111774129782715913.symm)
def g8x0Lft (w : World) := g8x0L true (W01 w)
def g8x0Rft (w : World) := g8x0R true (W01 w)
theorem g8x0ft_a : (fun (_ : Unit → Unit) => true) (fun _ => let _ := @g8x0Lft; let _ := @g8x0Rft; ()) = true := by k_qdec
theorem g8x0ft : @g8x0Lft = @g8x0Rft := PySem.W.Fast.te9147713974028860737.trans (Eq.trans (show @PySem.W.Fast.tw9147713974028860737 = @PySem.W.Fast.tw17165079322535106603 by kernel_rfl) PySem.W.Fast.te17165079322535106603.symm)
def g8x0Ltf (w : World) := g8x0L false (W10 w)
def g8x0Rtf (w : World) := g8x0R false (W10 w)
theorem g8x0tf_a : (fun (_ : Unit → Unit) => true) (fun _ => let _ := @g8x0Ltf; let _ := @g8x0Rtf; ()) = true := by k_qdec
theorem g8x0tf : @g8x0Ltf = @g8x0Rtf := PySem.W.Fast.te12509934444448029813.trans (Eq.trans (show @PySem.W.Fast.tw12509934444448029813 = @PySem.W.Fast.tw8424628158199394412 by kernel_rfl) PySem.W.Fast.te8424628158199394412.symm)
def g8x0Ltt (w : World) := g8x0L false (W11 w)
def g8x0Rtt (w : World) := g8x0R false (W11 w)
theorem g8x0tt_a : (fun (_ : Unit → Unit) => true) (fun _ => let _ := @g8x0Ltt; let _ := @g8x0Rtt; ()) = true := by k_qdec
theorem g8x0tt : @g8x0Ltt = @g8x0Rtt := PySem.W.Fast.te8214422672770003048.trans (Eq.trans (show @PySem.W.Fast.tw8214422672770003048 = @PySem.W.Fast.tw15500127029608064906 by kernel_rfl) PySem.W.Fast.te15500127029608064906.symm)
theorem g8x0 (w : World) : g8x0L (led w.params) w = g8x0R (led w.params) w := byFour (P := fun b w => g8x0L b w = g8x0R b w) (fun w => congrFun g8x0ff w) (fun w => congrFun g8x0ft w) (fun w => congrFun g8x0tf w) (fun w => congrFun g8x0tt w) w
theorem piece8 (w : World) (os : OsState) : segRun treeTable pw w 11 ann0 1 30 (S14 (led w.params) w os).abs (th8 ⟨17, 0, 17, 6⟩) = some (.next, (S17 (led w.params) w os).abs, code0, ⟨18, 0, 19, 30⟩) :=
  (segRun_of (congrFun (g8x0 w) os))
-- statement 9: 774 steps, 29 heads, cuts [(90, 1), (285, 2), (446, 3), (628, 3)]
def o3v9 (b : Bool) (P : Params) : Obj := ⟨(.type "dict"), none, (.dict ⟨[D P "__name__" 165 (.str "cpy313.stringprep" 187), D P "__doc__" 166 .none, D P "__package__" 167 .none, D P "__loader__" 168 (.builtin "__main__.__loader__#opaque"), D P "__spec__" 169 .none, D P "__annotations__" 170 (.ref 6), D P "__builtins__" 171 (.ref 4), D P "__file__" 173 (.str "/claim/cut.py" 172), D P "__cached__" 174 .none, D P "b1_set" 248 (.ref 22), D P "in_table_b1" 255 (.ref 32), D P "in_table_c11" 262 (.ref 39), D P "in_table_c4" 270 (.ref 46), D P "c6_set" 284 (.ref 48), D P "in_table_c6" 291 (.ref 58), D P "c7_set" 319 (.ref 60), D P "in_table_c7" 326 (.ref 70), D P "c8_set" 367 (.ref 84)]⟩ 18), ⟨[]⟩⟩
def o71v0 (b : Bool) (P : Params) : Obj := ⟨(.type "list"), none, (.seq ⟨[(.int 832 327), (.int 833 328), (.int 8206 329), (.int 8207 330)]⟩ 0), ⟨[]⟩⟩
def o72v0 (b : Bool) (P : Params) : Obj := ⟨(.type "range"), none, (.fields ⟨[(.int 8234 331), (.int 8239 332), (.int 1 333)]⟩), ⟨[]⟩⟩
def o73v0 (b : Bool) (P : Params) : Obj := ⟨(.type "list"), none, (.seq ⟨[(.int 8234 336), (.int 8235 337), (.int 8236 338), (.int 8237 339), (.int 8238 340)]⟩ 7), ⟨[]⟩⟩
def o74v0 (b : Bool) (P : Params) : Obj := ⟨(.type "range_iterator"), none, (.fields ⟨[(.int 8239 0), (.int 0 0), (.int 1 0)]⟩), ⟨[]⟩⟩
def o75v0 (b : Bool) (P : Params) : Obj := ⟨(.type "tuple"), none, (.seq ⟨[]⟩ 0), ⟨[]⟩⟩
def o76v0 (b : Bool) (P : Params) : Obj := ⟨(.type "StopIteration"), none, (.fields ⟨[(.ref 75), .none, .none, .none, (.bool false), .none]⟩), ⟨[]⟩⟩
def o77v0 (b : Bool) (P : Params) : Obj := ⟨(.type "list"), none, (.seq ⟨[(.int 832 327), (.int 833 328), (.int 8206 329), (.int 8207 330), (.int 8234 336), (.int 8235 337), (.int 8236 338), (.int 8237 339), (.int 8238 340)]⟩ 0), ⟨[]⟩⟩
def o78v0 (b : Bool) (P : Params) : Obj := ⟨(.type "range"), none, (.fields ⟨[(.int 8298 341), (.int 8304 342), (.int 1 343)]⟩), ⟨[]⟩⟩
def o79v0 (b : Bool) (P : Params) : Obj := ⟨(.type "list"), none, (.seq ⟨[(.int 8298 346), (.int 8299 347), (.int 8300 348), (.int 8301 349), (.int 8302 350), (.int 8303 351)]⟩ 8), ⟨[]⟩⟩
def o80v0 (b : Bool) (P : Params) : Obj := ⟨(.type "range_iterator"), none, (.fields ⟨[(.int 8304 0), (.int 0 0), (.int 1 0)]⟩), ⟨[]⟩⟩
def o81v0 (b : Bool) (P : Params) : Obj := ⟨(.type "tuple"), none, (.seq ⟨[]⟩ 0), ⟨[]⟩⟩
def o82v0 (b : Bool) (P : Params) : Obj := ⟨(.type "StopIteration"), none, (.fields ⟨[(.ref 81), .none, .none, .none, (.bool false), .none]⟩), ⟨[]⟩⟩
def o83v0 (b : Bool) (P : Params) : Obj := ⟨(.type "list"), none, (.seq ⟨[(.int 832 327), (.int 833 328), (.int 8206 329), (.int 8207 330), (.int 8234 336), (.int 8235 337), (.int 8236 338), (.int 8237 339), (.int 8238 340), (.int 8298 346), (.int 8299 347), (.int 8300 348), (.int 8301 349), (.int 8302 350), (.int 8303 351)]⟩ 0), ⟨[]⟩⟩
def o84v0 (b : Bool) (P : Params) : Obj := ⟨(.type "set"), none, (.set ⟨[E 832 327, E 833 328, E 8234 336, E 8235 337, E 8236 338, E 8237 339, E 8206 329, E 8207 330, E 8238 340, E 8298 346, E 8299 347, E 8300 348, E 8301 349, E 8302 350, E 8303 351]⟩ 16 (tabOf b 31 ⟨[0, 1, 10, 11, 12, 13, 14, 15, 16, 17, 18, 19, 20, 21, 22]⟩ 0 1)), ⟨[]⟩⟩
def o85v0 (b : Bool) (P : Params) : Obj := ⟨(.type "list_iterator"), none, (.fields ⟨[.none, (.int 15 0)]⟩), ⟨[]⟩⟩
def o86v0 (b : Bool) (P : Params) : Obj := ⟨(.type "tuple"), none, (.seq ⟨[]⟩ 0), ⟨[]⟩⟩
def o87v0 (b : Bool) (P : Params) : Obj := ⟨(.type "StopIteration"), none, (.fields ⟨[(.ref 86), .none, .none, .none, (.bool false), .none]⟩), ⟨[]⟩⟩
def T18 (b : Bool) (P : Params) : BT := (N (bo boot_o_0 b P) (N (bo boot_o_1 b P) (N (o3v9 b P) (N (bo boot_o_7 b P) (N (o15v0 b P) (N (o31v0 b P) (N1 (o63v0 b P)) X) (N (o47v0 b P) (N1 (o79v0 b P)) X)) (N (o23v0 b P) (N (o39v0 b P) (N1 (o71v0 b P)) X) (N (o55v0 b P) (N1 (o87v0 b P)) X))) (N (o11v0 b P) (N (o19v0 b P) (N (o35v0 b P) (N1 (o67v0 b P)) X) (N (o51v0 b P) (N1 (o83v0 b P)) X)) (N (o27v0 b P) (N (o43v0 b P) (N1 (o75v0 b P)) X) (N1 (o59v0 b P))))) (N (bo boot_o_5 b P) (N (bo boot_o_9 b P) (N (o17v0 b P) (N (o33v0 b P) (N1 (o65v0 b P)) X) (N (o49v0 b P) (N1 (o81v0 b P)) X)) (N (o25v0 b P) (N (o41v0 b P) (N1 (o73v0 b P)) X) (N1 (o57v0 b P)))) (N (o13v0 b P) (N (o21v0 b P) (N (o37v0 b P) (N1 (o69v0 b P)) X) (N (o53v0 b P) (N1 (o85v0 b P)) X)) (N (o29v0 b P) (N (o45v0 b P) (N1 (o77v0 b P)) X) (N1 (o61v0 b P)))))) (N (bo boot_o_2 b P) (N (bo boot_o_4 b P) (N (bo boot_o_8 b P) (N (o16v0 b P) (N (o32v0 b P) (N1 (o64v0 b P)) X) (N (o48v0 b P) (N1 (o80v0 b P)) X)) (N (o24v0 b P) (N (o40v0 b P) (N1 (o72v0 b P)) X) (N1 (o56v0 b P)))) (N (o12v5 b P) (N (o20v0 b P) (N (o36v0 b P) (N1 (o68v0 b P)) X) (N (o52v0 b P) (N1 (o84v0 b P)) X)) (N (o28v0 b P) (N (o44v0 b P) (N1 (o76v0 b P)) X) (N1 (o60v0 b P))))) (N (bo boot_o_6 b P) (N (bo boot_o_10 b P) (N (o18v0 b P) (N (o34v0 b P) (N1 (o66v0 b P)) X) (N (o50v0 b P) (N1 (o82v0 b P)) X)) (N (o26v0 b P) (N (o42v0 b P) (N1 (o74v0 b P)) X) (N1 (o58v0 b P)))) (N (o14v0 b P) (N (o22v0 b P) (N (o38v0 b P) (N1 (o70v0 b P)) X) (N (o54v0 b P) (N1 (o86v0 b P)) X)) (N (o30v0 b P) (N (o46v0 b P) (N1 (o78v0 b P)) X) (N1 (o62v0 b P)))))))
def S18 (b : Bool) (v : World) (os : OsState) : SharedT := ⟨T18 b v.params, 88, life0, ⟨[]⟩, drawn0, 368, os⟩
def th9 (pos : Pos) : Thread := piecesOf (st 9) env0 code0 pos [topFrame q0]
def o73v1 (b : Bool) (P : Params) : Obj := ⟨(.type "list"), none, (.seq ⟨[]⟩ 2), ⟨[]⟩⟩
def o74v1 (b : Bool) (P : Params) : Obj := ⟨(.type "range_iterator"), none, (.fields ⟨[(.int 8234 0), (.int 5 0), (.int 1 0)]⟩), ⟨[]⟩⟩
def T19 (b : Bool) (P : Params) : BT := (N (bo boot_o_0 b P) (N (bo boot_o_1 b P) (N (o3v8 b P) (N (bo boot_o_7 b P) (N (o15v0 b P) (N (o31v0 b P) (N1 (o63v0 b P)) X) (N1 (o47v0 b P))) (N (o23v0 b P) (N (o39v0 b P) (N1 (o71v0 b P)) X) (N1 (o55v0 b P)))) (N (o11v0 b P) (N (o19v0 b P) (N (o35v0 b P) (N1 (o67v0 b P)) X) (N1 (o51v0 b P))) (N (o27v0 b P) (N1 (o43v0 b P)) (N1 (o59v0 b P))))) (N (bo boot_o_5 b P) (N (bo boot_o_9 b P) (N (o17v0 b P) (N (o33v0 b P) (N1 (o65v0 b P)) X) (N1 (o49v0 b P))) (N (o25v0 b P) (N (o41v0 b P) (N1 (o73v1 b P)) X) (N1 (o57v0 b P)))) (N (o13v0 b P) (N (o21v0 b P) (N (o37v0 b P) (N1 (o69v0 b P)) X) (N1 (o53v0 b P))) (N (o29v0 b P) (N1 (o45v0 b P)) (N1 (o61v0 b P)))))) (N (bo boot_o_2 b P) (N (bo boot_o_4 b P) (N (bo boot_o_8 b P) (N (o16v0 b P) (N (o32v0 b P) (N1 (o64v0 b P)) X) (N1 (o48v0 b P))) (N (o24v0 b P) (N (o40v0 b P) (N1 (o72v0 b P)) X) (N1 (o56v0 b P)))) (N (o12v5 b P) (N (o20v0 b P) (N (o36v0 b P) (N1 (o68v0 b P)) X) (N1 (o52v0 b P))) (N (o28v0 b P) (N1 (o44v0 b P)) (N1 (o60v0 b P))))) (N (bo boot_o_6 b P) (N (bo boot_o_10 b P) (N (o18v0 b P) (N (o34v0 b P) (N1 (o66v0 b P)) X) (N1 (o50v0 b P))) (N (o26v0 b P) (N (o42v0 b P) (N1 (o74v1 b P)) X) (N1 (o58v0 b P)))) (N (o14v0 b P) (N (o22v0 b P) (N (o38v0 b P) (N1 (o70v0 b P)) X) (N1 (o54v0 b P))) (N (o30v0 b P) (N1 (o46v0 b P)) (N1 (o62v0 b P)))))))
def S19 (b : Bool) (v : World) (os : OsState) : SharedT := ⟨T19 b v.params, 75, life0, ⟨[]⟩, drawn0, 336, os⟩
def g9x0raw (b : Bool) (v : World) (os : OsState) : List Frame := stackOf (segGoT treeTable pw v 11 ann0 1 90 (S17 b v os) (th9 ⟨18, 0, 19, 30⟩))
def g9x0th (b : Bool) (v : World) (os : OsState) : Thread := ⟨denote treeTable (.builtin "list.extend.loop" ⟨[(.ref 73), (.ref 74), .none], []⟩), (.builtin "list.extend.loop" ⟨[(.ref 73), (.ref 74), .none], []⟩), ⟨20, 38, 20, 61⟩, [.ret (rK (g9x0raw b v os)) (rH (g9x0raw b v os)) (rG (g9x0raw b v os)) (rL (g9x0raw b v os)) (rC (g9x0raw b v os)) (rP (g9x0raw b v os)) (rT (g9x0raw b v os)), (frAt (g9x0raw b v os) 1), (frAt (g9x0raw b v os) 2)]⟩
def g9x0L (b : Bool) (v : World) (os : OsState) := segGoT treeTable pw v 11 ann0 1 90 (S17 b v os) (th9 ⟨18, 0, 19, 30⟩)
def g9x0R (b : Bool) (v : World) (os : OsState) : Option (SharedT × Thread) := some (S19 b v os, (g9x0th b v os))
def g9x0Lff (w : World) := g9x0L true (W00 w)
def g9x0Rff (w : World) := g9x0R true (W00 w)
theorem g9x0ff_a : (fun (_ : Unit → Unit) => true) (fun _ => let _ := @g9x0Lff; let _ := @g9x0Rff; ()) = true := by k_qdec
theorem g9x0ff : @g9x0Lff = @g9x0Rff := PySem.W.Fast.te1963470901901067090.trans (Eq.trans (show @PySem.W.Fast.tw1963470901901067090 = @PySem.W.Fast.tw17378181108573523380 by kernel_rfl) PySem.W.Fast.te17378181108573523380.symm)
def g9x0Lft (w : World) := g9x0L true (W01 w)
def g9x0Rft (w : World) := g9x0R true (W01 w)
theorem g9x0ft_a : (fun (_ : Unit → Unit) => true) (fun _ => let _ := @g9x0Lft; let _ := @g9x0Rft; ()) = true := by k_qdec
theorem g9x0ft : @g9x0Lft = @g9x0Rft := PySem.W.Fast.te8608793540457220665.trans (Eq.trans (show @PySem.W.Fast.tw8608793540457220665 = @PySem.W.Fast.tw18171144964635588052 by kernel_rfl) PySem.W.Fast.te18171144964635588052.symm)
def g9x0Ltf (w : World) := g9x0L false (W10 w)
def g9x0Rtf (w : World) := g9x0R false (W10 w)
theorem g9x0tf_a : (fun (_ : Unit → Unit) => true) (fun _ => let _ := @g9x0Ltf; let _ := @g9x0Rtf; ()) = true := by k_qdec
theorem g9x0tf : @g9x0Ltf = @g9x0Rtf := PySem.W.Fast.te16365753704526404110.trans (Eq.trans (show @PySem.W.Fast.tw16365753704526404110 = @PySem.W.Fast.tw14974647801407000216 by kernel_rfl) PySem.W.Fast.te14974647801407000216.symm)
def g9x0Ltt (w : World) := g9x0L false (W11 w)
def g9x0Rtt (w : World) := g9x0R false (W11 w)
theorem g9x0tt_a : (fun (_ : Unit → Unit) => true) (fun _ => let _ := @g9x0Ltt; let _ := @g9x0Rtt; ()) = true := by k_qdec
theorem g9x0tt : @g9x0Ltt = @g9x0Rtt := PySem.W.Fast.te6924217569820113559.trans (Eq.trans (show @PySem.W.Fast.tw6924217569820113559 = @PySem.W.Fast.tw16178523910145731403 by kernel_rfl) PySem.W.Fast.te16178523910145731403.symm)
theorem g9x0 (w : World) : g9x0L (led w.params) w = g9x0R (led w.params) w := byFour (P := fun b w => g9x0L b w = g9x0R b w) (fun w => congrFun g9x0ff w) (fun w => congrFun g9x0ft w) (fun w => congrFun g9x0tf w) (fun w => congrFun g9x0tt w) w
theorem g9x0s (w : World) (os : OsState) : segGo treeTable pw w 11 ann0 1 90 (S17 (led w.params) w os).abs (th9 ⟨18, 0, 19, 30⟩) = some ((S19 (led w.params) w os).abs, (g9x0th (led w.params) w os)) := segGo_of (congrFun (g9x0 w) os)
def o79v1 (b : Bool) (P : Params) : Obj := ⟨(.type "list"), none, (.seq ⟨[]⟩ 2), ⟨[]⟩⟩
def o80v1 (b : Bool) (P : Params) : Obj := ⟨(.type "range_iterator"), none, (.fields ⟨[(.int 8298 0), (.int 6 0), (.int 1 0)]⟩), ⟨[]⟩⟩
def T20 (b : Bool) (P : Params) : BT := (N (bo boot_o_0 b P) (N (bo boot_o_1 b P) (N (o3v8 b P) (N (bo boot_o_7 b P) (N (o15v0 b P) (N (o31v0 b P) (N1 (o63v0 b P)) X) (N (o47v0 b P) (N1 (o79v1 b P)) X)) (N (o23v0 b P) (N (o39v0 b P) (N1 (o71v0 b P)) X) (N1 (o55v0 b P)))) (N (o11v0 b P) (N (o19v0 b P) (N (o35v0 b P) (N1 (o67v0 b P)) X) (N1 (o51v0 b P))) (N (o27v0 b P) (N (o43v0 b P) (N1 (o75v0 b P)) X) (N1 (o59v0 b P))))) (N (bo boot_o_5 b P) (N (bo boot_o_9 b P) (N (o17v0 b P) (N (o33v0 b P) (N1 (o65v0 b P)) X) (N1 (o49v0 b P))) (N (o25v0 b P) (N (o41v0 b P) (N1 (o73v0 b P)) X) (N1 (o57v0 b P)))) (N (o13v0 b P) (N (o21v0 b P) (N (o37v0 b P) (N1 (o69v0 b P)) X) (N1 (o53v0 b P))) (N (o29v0 b P) (N (o45v0 b P) (N1 (o77v0 b P)) X) (N1 (o61v0 b P)))))) (N (bo boot_o_2 b P) (N (bo boot_o_4 b P) (N (bo boot_o_8 b P) (N (o16v0 b P) (N (o32v0 b P) (N1 (o64v0 b P)) X) (N (o48v0 b P) (N1 (o80v1 b P)) X)) (N (o24v0 b P) (N (o40v0 b P) (N1 (o72v0 b P)) X) (N1 (o56v0 b P)))) (N (o12v5 b P) (N (o20v0 b P) (N (o36v0 b P) (N1 (o68v0 b P)) X) (N1 (o52v0 b P))) (N (o28v0 b P) (N (o44v0 b P) (N1 (o76v0 b P)) X) (N1 (o60v0 b P))))) (N (bo boot_o_6 b P) (N (bo boot_o_10 b P) (N (o18v0 b P) (N (o34v0 b P) (N1 (o66v0 b P)) X) (N1 (o50v0 b P))) (N (o26v0 b P) (N (o42v0 b P) (N1 (o74v0 b P)) X) (N1 (o58v0 b P)))) (N (o14v0 b P) (N (o22v0 b P) (N (o38v0 b P) (N1 (o70v0 b P)) X) (N1 (o54v0 b P))) (N (o30v0 b P) (N (o46v0 b P) (N1 (o78v0 b P)) X) (N1 (o62v0 b P)))))))
def S20 (b : Bool) (v : World) (os : OsState) : SharedT := ⟨T20 b v.params, 81, life0, ⟨[]⟩, drawn0, 346, os⟩
def g9x1raw (b : Bool) (v : World) (os : OsState) : List Frame := stackOf (segGoT treeTable pw v 11 ann0 1 195 (S19 b v os) (g9x0th b v os))
def g9x1th (b : Bool) (v : World) (os : OsState) : Thread := ⟨denote treeTable (.builtin "list.extend.loop" ⟨[(.ref 79), (.ref 80), .none], []⟩), (.builtin "list.extend.loop" ⟨[(.ref 79), (.ref 80), .none], []⟩), ⟨20, 64, 20, 87⟩, [.ret (rK (g9x1raw b v os)) (rH (g9x1raw b v os)) (rG (g9x1raw b v os)) (rL (g9x1raw b v os)) (rC (g9x1raw b v os)) (rP (g9x1raw b v os)) (rT (g9x1raw b v os)), (frAt (g9x1raw b v os) 1), (frAt (g9x1raw b v os) 2)]⟩
def g9x1L (b : Bool) (v : World) (os : OsState) := segGoT treeTable pw v 11 ann0 1 195 (S19 b v os) (g9x0th b v os)
def g9x1R (b : Bool) (v : World) (os : OsState) : Option (SharedT × Thread) := some (S20 b v os, (g9x1th b v os))
def g9x1Lff (w : World) := g9x1L true (W00 w)
def g9x1Rff (w : World) := g9x1R true (W00 w)
theorem g9x1ff_a : (fun (_ : Unit → Unit) => true) (fun _ => let _ := @g9x1Lff; let _ := @g9x1Rff; ()) = true := by k_qdec
theorem g9x1ff : @g9x1Lff = @g9x1Rff := PySem.W.Fast.te12043360012195491602.trans (Eq.trans (show @PySem.W.Fast.tw12043360012195491602 = @PySem.W.Fast.tw10107972576112519266 by kernel_rfl) PySem.W.Fast.te10107972576112519266.symm)
def g9x1Lft (w : World) := g9x1L true (W01 w)
def g9x1Rft (w : World) := g9x1R true (W01 w)
theorem g9x1ft_a : (fun (_ : Unit → Unit) => true) (fun _ => let _ := @g9x1Lft; let _ := @g9x1Rft; ()) = true := by k_qdec
theorem g9x1ft : @g9x1Lft = @g9x1Rft := PySem.W.Fast.te4260883388768772551.trans (Eq.trans (show @PySem.W.Fast.tw4260883388768772551 = @PySem.W.Fast.tw15408465286729118576 by kernel_rfl) PySem.W.Fast.te15408465286729118576.symm)
def g9x1Ltf (w : World) := g9x1L false (W10 w)
def g9x1Rtf (w : World) := g9x1R false (W10 w)
theorem g9x1tf_a : (fun (_ : Unit → Unit) => true) (fun _ => let _ := @g9x1Ltf; let _ := @g9x1Rtf; ()) = true := by k_qdec
theorem g9x1tf : @g9x1Ltf = @g9x1Rtf := PySem.W.Fast.te7685671619968341015.trans (Eq.trans (show @PySem.W.Fast.tw7685671619968341015 = @PySem.W.Fast.tw7394321751272131241 by kernel_rfl) PySem.W.Fast.te7394321751272131241.symm)
def g9x1Ltt (w : World) := g9x1L false (W11 w)
def g9x1Rtt (w : World) := g9x1R false (W11 w)
theorem g9x1tt_a : (fun (_ : Unit → Unit) => true) (fun _ => let _ := @g9x1Ltt; let _ := @g9x1Rtt; ()) = true := by k_qdec
theorem g9x1tt : @g9x1Ltt = @g9x1Rtt := PySem.W.Fast.te10712315267184602983.trans (Eq.trans (show @PySem.W.Fast.tw10712315267184602983 = @PySem.W.Fast.tw11582261675355719868 by kernel_rfl) PySem.W.Fast.te11582261675355719868.symm)
theorem g9x1 (w : World) : g9x1L (led w.params) w = g9x1R (led w.params) w := byFour (P := fun b w => g9x1L b w = g9x1R b w) (fun w => congrFun g9x1ff w) (fun w => congrFun g9x1ft w) (fun w => congrFun g9x1tf w) (fun w => congrFun g9x1tt w) w
theorem g9x1s (w : World) (os : OsState) : segGo treeTable pw w 11 ann0 1 195 (S19 (led w.params) w os).abs (g9x0th (led w.params) w os) = some ((S20 (led w.params) w os).abs, (g9x1th (led w.params) w os)) := segGo_of (congrFun (g9x1 w) os)
def o84v1 (b : Bool) (P : Params) : Obj := ⟨(.type "set"), none, (.set ⟨[]⟩ 0 (tabOf b 7 ⟨[]⟩ 0 0)), ⟨[]⟩⟩
def o85v1 (b : Bool) (P : Params) : Obj := ⟨(.type "list_iterator"), none, (.fields ⟨[(.ref 83), (.int 0 0)]⟩), ⟨[]⟩⟩
def TH9r3 (b : Bool) (P : Params) (x0 x1 : Obj) : BT := (N (bo boot_o_0 b P) (N (bo boot_o_1 b P) (N (o3v8 b P) (N (bo boot_o_7 b P) (N (o15v0 b P) (N (o31v0 b P) (N1 (o63v0 b P)) X) (N (o47v0 b P) (N1 (o79v0 b P)) X)) (N (o23v0 b P) (N (o39v0 b P) (N1 (o71v0 b P)) X) (N1 (o55v0 b P)))) (N (o11v0 b P) (N (o19v0 b P) (N (o35v0 b P) (N1 (o67v0 b P)) X) (N (o51v0 b P) (N1 (o83v0 b P)) X)) (N (o27v0 b P) (N (o43v0 b P) (N1 (o75v0 b P)) X) (N1 (o59v0 b P))))) (N (bo boot_o_5 b P) (N (bo boot_o_9 b P) (N (o17v0 b P) (N (o33v0 b P) (N1 (o65v0 b P)) X) (N (o49v0 b P) (N1 (o81v0 b P)) X)) (N (o25v0 b P) (N (o41v0 b P) (N1 (o73v0 b P)) X) (N1 (o57v0 b P)))) (N (o13v0 b P) (N (o21v0 b P) (N (o37v0 b P) (N1 (o69v0 b P)) X) (N (o53v0 b P) (N1 x1) X)) (N (o29v0 b P) (N (o45v0 b P) (N1 (o77v0 b P)) X) (N1 (o61v0 b P)))))) (N (bo boot_o_2 b P) (N (bo boot_o_4 b P) (N (bo boot_o_8 b P) (N (o16v0 b P) (N (o32v0 b P) (N1 (o64v0 b P)) X) (N (o48v0 b P) (N1 (o80v0 b P)) X)) (N (o24v0 b P) (N (o40v0 b P) (N1 (o72v0 b P)) X) (N1 (o56v0 b P)))) (N (o12v5 b P) (N (o20v0 b P) (N (o36v0 b P) (N1 (o68v0 b P)) X) (N (o52v0 b P) (N1 x0) X)) (N (o28v0 b P) (N (o44v0 b P) (N1 (o76v0 b P)) X) (N1 (o60v0 b P))))) (N (bo boot_o_6 b P) (N (bo boot_o_10 b P) (N (o18v0 b P) (N (o34v0 b P) (N1 (o66v0 b P)) X) (N (o50v0 b P) (N1 (o82v0 b P)) X)) (N (o26v0 b P) (N (o42v0 b P) (N1 (o74v0 b P)) X) (N1 (o58v0 b P)))) (N (o14v0 b P) (N (o22v0 b P) (N (o38v0 b P) (N1 (o70v0 b P)) X) (N1 (o54v0 b P))) (N (o30v0 b P) (N (o46v0 b P) (N1 (o78v0 b P)) X) (N1 (o62v0 b P)))))))
def S21 (b : Bool) (v : World) (os : OsState) : SharedT := ⟨TH9r3 b v.params (o84v1 b v.params) (o85v1 b v.params), 86, life0, ⟨[]⟩, drawn0, 352, os⟩
def g9x2raw (b : Bool) (v : World) (os : OsState) : List Frame := stackOf (segGoT treeTable pw v 11 ann0 1 161 (S20 b v os) (g9x1th b v os))
def g9x2th (b : Bool) (v : World) (os : OsState) : Thread := ⟨denote treeTable (.builtin "set.update.loop" ⟨[(.ref 84), (.ref 85)], []⟩), (.builtin "set.update.loop" ⟨[(.ref 84), (.ref 85)], []⟩), ⟨20, 9, 20, 88⟩, [.ret (rK (g9x2raw b v os)) (rH (g9x2raw b v os)) (rG (g9x2raw b v os)) (rL (g9x2raw b v os)) (rC (g9x2raw b v os)) (rP (g9x2raw b v os)) (rT (g9x2raw b v os)), (frAt (g9x2raw b v os) 1), (frAt (g9x2raw b v os) 2), (frAt (g9x2raw b v os) 3)]⟩
def g9x2L (b : Bool) (v : World) (os : OsState) := segGoT treeTable pw v 11 ann0 1 161 (S20 b v os) (g9x1th b v os)
def g9x2R (b : Bool) (v : World) (os : OsState) : Option (SharedT × Thread) := some (S21 b v os, (g9x2th b v os))
def g9x2Lff (w : World) := g9x2L true (W00 w)
def g9x2Rff (w : World) := g9x2R true (W00 w)
theorem g9x2ff_a : (fun (_ : Unit → Unit) => true) (fun _ => let _ := @g9x2Lff; let _ := @g9x2Rff; ()) = true := by k_qdec
theorem g9x2ff : @g9x2Lff = @g9x2Rff := PySem.W.Fast.te12893653616547517657.trans (Eq.trans (show @PySem.W.Fast.tw12893653616547517657 = @PySem.W.Fast.tw8803092019726831350 by kernel_rfl) PySem.W.Fast.te8803092019726831350.symm)
def g9x2Lft (w : World) := g9x2L true (W01 w)
def g9x2Rft (w : World) := g9x2R true (W01 w)
theorem g9x2ft_a : (fun (_ : Unit → Unit) => true) (fun _ => let _ := @g9x2Lft; let _ := @g9x2Rft; ()) = true := by k_qdec
theorem g9x2ft : @g9x2Lft = @g9x2Rft := PySem.W.Fast.te13559667620584914219.trans (Eq.trans (show @PySem.W.Fast.tw13559667620584914219 = @PySem.W.Fast.tw8283586367416963125 by kernel_rfl) PySem.W.Fast.te8283586367416963125.symm)
def g9x2Ltf (w : World) := g9x2L false (W10 w)
def g9x2Rtf (w : World) := g9x2R false (W10 w)
theorem g9x2tf_a : (fun (_ : Unit → Unit) => true) (fun _ => let _ := @g9x2Ltf; let _ := @g9x2Rtf; ()) = true := by k_qdec
theorem g9x2tf : @g9x2Ltf = @g9x2Rtf := PySem.W.Fast.te11211647535604750268.trans (Eq.trans (show @PySem.W.Fast.tw11211647535604750268 = @PySem.W.Fast.tw9641540338404128513 by kernel_rfl) PySem.W.Fast.te9641540338404128513.symm)
def g9x2Ltt (w : World) := g9x2L false (W11 w)
def g9x2Rtt (w : World) := g9x2R false (W11 w)
theorem g9x2tt_a : (fun (_ : Unit → Unit) => true) (fun _ => let _ := @g9x2Ltt; let _ := @g9x2Rtt; ()) = true := by k_qdec
theorem g9x2tt : @g9x2Ltt = @g9x2Rtt := PySem.W.Fast.te6303663402747792876.trans (Eq.trans (show @PySem.W.Fast.tw6303663402747792876 = @PySem.W.Fast.tw11312294839427915597 by kernel_rfl) PySem.W.Fast.te11312294839427915597.symm)
theorem g9x2 (w : World) : g9x2L (led w.params) w = g9x2R (led w.params) w := byFour (P := fun b w => g9x2L b w = g9x2R b w) (fun w => congrFun g9x2ff w) (fun w => congrFun g9x2ft w) (fun w => congrFun g9x2tf w) (fun w => congrFun g9x2tt w) w
theorem g9x2s (w : World) (os : OsState) : segGo treeTable pw w 11 ann0 1 161 (S20 (led w.params) w os).abs (g9x1th (led w.params) w os) = some ((S21 (led w.params) w os).abs, (g9x2th (led w.params) w os)) := segGo_of (congrFun (g9x2 w) os)
def o84v2 (b : Bool) (P : Params) : Obj := ⟨(.type "set"), none, (.set ⟨[E 832 327, E 833 328, E 8234 336, E 8235 337, E 8236 338, E 8237 339, E 8206 329, E 8207 330, E 8238 340]⟩ 10 (tabOf b 31 ⟨[0, 1, 10, 11, 12, 13, 14, 15, 16]⟩ 0 1)), ⟨[]⟩⟩
def o85v2 (b : Bool) (P : Params) : Obj := ⟨(.type "list_iterator"), none, (.fields ⟨[(.ref 83), (.int 9 0)]⟩), ⟨[]⟩⟩
def S22 (b : Bool) (v : World) (os : OsState) : SharedT := ⟨TH9r3 b v.params (o84v2 b v.params) (o85v2 b v.params), 86, life0, ⟨[]⟩, drawn0, 361, os⟩
def g9x3L (b : Bool) (v : World) (os : OsState) (k : Result → Sem Fin) (h : Option Value) (g : Bool) (l : List Value) (cd : Code) (p₀ : Pos) (kept : List Value) (f1 f2 f3 : Frame) := segGoT treeTable pw v 11 ann0 1 182 (S21 b v os) ⟨denote treeTable (.builtin "set.update.loop" ⟨[(.ref 84), (.ref 85)], []⟩), (.builtin "set.update.loop" ⟨[(.ref 84), (.ref 85)], []⟩), ⟨20, 9, 20, 88⟩, [.ret k h g l cd p₀ kept, f1, f2, f3]⟩
def g9x3R (b : Bool) (v : World) (os : OsState) (k : Result → Sem Fin) (h : Option Value) (g : Bool) (l : List Value) (cd : Code) (p₀ : Pos) (kept : List Value) (f1 f2 f3 : Frame) : Option (SharedT × Thread) := some (S22 b v os, ⟨denote treeTable (.builtin "set.update.loop" ⟨[(.ref 84), (.ref 85)], []⟩), (.builtin "set.update.loop" ⟨[(.ref 84), (.ref 85)], []⟩), ⟨20, 9, 20, 88⟩, [.ret k h g l cd p₀ kept, f1, f2, f3]⟩)
def g9x3Lff (w : World) := g9x3L true (W00 w)
def g9x3Rff (w : World) := g9x3R true (W00 w)
theorem g9x3ff_a : (fun (_ : Unit → Unit) => true) (fun _ => let _ := @g9x3Lff; let _ := @g9x3Rff; ()) = true := by k_qdec
theorem g9x3ff : @g9x3Lff = @g9x3Rff := PySem.W.Fast.te3808971669449032254.trans (Eq.trans (show @PySem.W.Fast.tw3808971669449032254 = @PySem.W.Fast.tw13724297467841367328 by kernel_rfl) PySem.W.Fast.te13724297467841367328.symm)
def g9x3Lft (w : World) := g9x3L true (W01 w)
def g9x3Rft (w : World) := g9x3R true (W01 w)
theorem g9x3ft_a : (fun (_ : Unit → Unit) => true) (fun _ => let _ := @g9x3Lft; let _ := @g9x3Rft; ()) = true := by k_qdec
theorem g9x3ft : @g9x3Lft = @g9x3Rft := PySem.W.Fast.te2550501289280745220.trans (Eq.trans (show @PySem.W.Fast.tw2550501289280745220 = @PySem.W.Fast.tw1496337389641544247 by kernel_rfl) PySem.W.Fast.te1496337389641544247.symm)
def g9x3Ltf (w : World) := g9x3L false (W10 w)
def g9x3Rtf (w : World) := g9x3R false (W10 w)
theorem g9x3tf_a : (fun (_ : Unit → Unit) => true) (fun _ => let _ := @g9x3Ltf; let _ := @g9x3Rtf; ()) = true := by k_qdec
theorem g9x3tf : @g9x3Ltf = @g9x3Rtf := PySem.W.Fast.te16836766461360549752.trans (Eq.trans (show @PySem.W.Fast.tw16836766461360549752 = @PySem.W.Fast.tw14338525933678776108 by kernel_rfl) PySem.W.Fast.te14338525933678776108.symm)
def g9x3Ltt (w : World) := g9x3L false (W11 w)
def g9x3Rtt (w : World) := g9x3R false (W11 w)
theorem g9x3tt_a : (fun (_ : Unit → Unit) => true) (fun _ => let _ := @g9x3Ltt; let _ := @g9x3Rtt; ()) = true := by k_qdec
theorem g9x3tt : @g9x3Ltt = @g9x3Rtt := PySem.W.Fast.te4950382870215290827.trans (Eq.trans (show @PySem.W.Fast.tw4950382870215290827 = @PySem.W.Fast.tw2876187519384897649 by kernel_rfl) PySem.W.Fast.te2876187519384897649.symm)
theorem g9x3 (w : World) : g9x3L (led w.params) w = g9x3R (led w.params) w := byFour (P := fun b w => g9x3L b w = g9x3R b w) (fun w => congrFun g9x3ff w) (fun w => congrFun g9x3ft w) (fun w => congrFun g9x3tf w) (fun w => congrFun g9x3tt w) w
theorem g9x3s (w : World) (os : OsState) : segGo treeTable pw w 11 ann0 1 182 (S21 (led w.params) w os).abs (g9x2th (led w.params) w os) = some ((S22 (led w.params) w os).abs, (g9x2th (led w.params) w os)) := segGo_of (show g9x3L (led w.params) w os (rK (g9x2raw (led w.params) w os)) (rH (g9x2raw (led w.params) w os)) (rG (g9x2raw (led w.params) w os)) (rL (g9x2raw (led w.params) w os)) (rC (g9x2raw (led w.params) w os)) (rP (g9x2raw (led w.params) w os)) (rT (g9x2raw (led w.params) w os)) (frAt (g9x2raw (led w.params) w os) 1) (frAt (g9x2raw (led w.params) w os) 2) (frAt (g9x2raw (led w.params) w os) 3) = g9x3R (led w.params) w os (rK (g9x2raw (led w.params) w os)) (rH (g9x2raw (led w.params) w os)) (rG (g9x2raw (led w.params) w os)) (rL (g9x2raw (led w.params) w os)) (rC (g9x2raw (led w.params) w os)) (rP (g9x2raw (led w.params) w os)) (rT (g9x2raw (led w.params) w os)) (frAt (g9x2raw (led w.params) w os) 1) (frAt (g9x2raw (led w.params) w os) 2) (frAt (g9x2raw (led w.params) w os) 3) by rw [g9x3])
def g9x4L (b : Bool) (v : World) (os : OsState) := segRunT treeTable pw v 11 ann0 1 147 (S22 b v os) (g9x2th b v os)
def g9x4R (b : Bool) (v : World) (os : OsState) : Option (Flow × SharedT × Code × Pos) := some (.next, S18 b v os, code0, ⟨20, 0, 20, 6⟩)
def g9x4Lff (w : World) := g9x4L true (W00 w)
def g9x4Rff (w : World) := g9x4R true (W00 w)
theorem g9x4ff_a : (fun (_ : Unit → Unit) => true) (fun _ => let _ := @g9x4Lff; let _ := @g9x4Rff; ()) = true := by k_qdec
theorem g9x4ff : @g9x4Lff = @g9x4Rff := PySem.W.Fast.te12520772772284018567.trans (Eq.trans (show @PySem.W.Fast.tw12520772772284018567 = @PySem.W.Fast.tw9146297483177860073 by kernel_rfl) PySem.W.Fast.te9146297483177860073.symm)
def g9x4Lft (w : World) := g9x4L true (W01 w)
def g9x4Rft (w : World) := g9x4R true (W01 w)
theorem g9x4ft_a : (fun (_ : Unit → Unit) => true) (fun _ => let _ := @g9x4Lft; let _ := @g9x4Rft; ()) = true := by k_qdec
theorem g9x4ft : @g9x4Lft = @g9x4Rft := PySem.W.Fast.te8504880537557861510.trans (Eq.trans (show @PySem.W.Fast.tw8504880537557861510 = @PySem.W.Fast.tw11843452419017253673 by kernel_rfl) PySem.W.Fast.te11843452419017253673.symm)
def g9x4Ltf (w : World) := g9x4L false (W10 w)
def g9x4Rtf (w : World) := g9x4R false (W10 w)
theorem g9x4tf_a : (fun (_ : Unit → Unit) => true) (fun _ => let _ := @g9x4Ltf; let _ := @g9x4Rtf; ()) = true := by k_qdec
theorem g9x4tf : @g9x4Ltf = @g9x4Rtf := PySem.W.Fast.te7281110551803853533.trans (Eq.trans (show @PySem.W.Fast.tw7281110551803853533 = @PySem.W.Fast.tw6417140042294332544 by kernel_rfl) PySem.W.Fast.te6417140042294332544.symm)
def g9x4Ltt (w : World) := g9x4L false (W11 w)
def g9x4Rtt (w : World) := g9x4R false (W11 w)
theorem g9x4tt_a : (fun (_ : Unit → Unit) => true) (fun _ => let _ := @g9x4Ltt; let _ := @g9x4Rtt; ()) = true := by k_qdec
theorem g9x4tt : @g9x4Ltt = @g9x4Rtt := PySem.W.Fast.te156393357271835223.trans (Eq.trans (show @PySem.W.Fast.tw156393357271835223 = @PySem.W.Fast.tw2243785084959139379 by kernel_rfl) PySem.W.Fast.te2243785084959139379.symm)
theorem g9x4 (w : World) : g9x4L (led w.params) w = g9x4R (led w.params) w := byFour (P := fun b w => g9x4L b w = g9x4R b w) (fun w => congrFun g9x4ff w) (fun w => congrFun g9x4ft w) (fun w => congrFun g9x4tf w) (fun w => congrFun g9x4tt w) w
theorem piece9 (w : World) (os : OsState) : segRun treeTable pw w 11 ann0 1 (90 + (195 + (161 + (182 + 147)))) (S17 (led w.params) w os).abs (th9 ⟨18, 0, 19, 30⟩) = some (.next, (S18 (led w.params) w os).abs, code0, ⟨20, 0, 20, 6⟩) :=
  (seg_go (g9x0s w os) (seg_go (g9x1s w os) (seg_go (g9x2s w os) (seg_go (g9x3s w os) (segRun_of (congrFun (g9x4 w) os))))))
-- statement 10: 29 steps, 0 heads, cuts []
def o3v10 (b : Bool) (P : Params) : Obj := ⟨(.type "dict"), none, (.dict ⟨[D P "__name__" 165 (.str "cpy313.stringprep" 187), D P "__doc__" 166 .none, D P "__package__" 167 .none, D P "__loader__" 168 (.builtin "__main__.__loader__#opaque"), D P "__spec__" 169 .none, D P "__annotations__" 170 (.ref 6), D P "__builtins__" 171 (.ref 4), D P "__file__" 173 (.str "/claim/cut.py" 172), D P "__cached__" 174 .none, D P "b1_set" 248 (.ref 22), D P "in_table_b1" 255 (.ref 32), D P "in_table_c11" 262 (.ref 39), D P "in_table_c4" 270 (.ref 46), D P "c6_set" 284 (.ref 48), D P "in_table_c6" 291 (.ref 58), D P "c7_set" 319 (.ref 60), D P "in_table_c7" 326 (.ref 70), D P "c8_set" 367 (.ref 84), D P "in_table_c8" 374 (.ref 94)]⟩ 19), ⟨[]⟩⟩
def o12v6 (b : Bool) (P : Params) : Obj := ⟨.none, none, (.fields ⟨[(.int 3 0), (.int 0 0), (.ref 31), (.int 5 0), (.int 0 0), (.ref 38), (.int 7 0), (.int 0 0), (.ref 45), (.int 15 0), (.int 0 0), (.ref 57), (.int 18 0), (.int 0 0), (.ref 69), (.int 21 0), (.int 0 0), (.ref 93)]⟩), ⟨[]⟩⟩
def o88v0 (b : Bool) (P : Params) : Obj := ⟨(.type "tuple"), none, (.seq ⟨[]⟩ 0), ⟨[]⟩⟩
def o89v0 (b : Bool) (P : Params) : Obj := ⟨.none, none, (.fields ⟨[]⟩), ⟨[]⟩⟩
def o90v0 (b : Bool) (P : Params) : Obj := ⟨(.type "tuple"), none, (.seq ⟨[(.str "code" 371)]⟩ 0), ⟨[]⟩⟩
def o91v0 (b : Bool) (P : Params) : Obj := ⟨(.type "tuple"), none, (.seq ⟨[]⟩ 0), ⟨[]⟩⟩
def o92v0 (b : Bool) (P : Params) : Obj := ⟨.none, none, (.func (fdOf 10 0 .none .none)), ⟨[]⟩⟩
def o93v0 (b : Bool) (P : Params) : Obj := ⟨(.type "code"), none, (.fields ⟨[(.str "in_table_c8" 368), (.str "in_table_c8" 369), (.str "/claim/cut.py" 370), (.int 21 0), (.int 1 0), (.int 0 0), (.int 0 0), (.int 3 0), (.ref 88), (.bool true), (.int 181 0), (.ref 89), .none, (.ref 90), (.ref 91), (.ref 92), (.int 372 0), (.int 21 0), (.str "/claim/cut.py" 373)]⟩), ⟨[]⟩⟩
def o94v0 (b : Bool) (P : Params) : Obj := ⟨(.type "function"), none, (.func (fdOf 10 3 (.str "cpy313.stringprep" 187) (.ref 93))), ⟨[]⟩⟩
def T23 (b : Bool) (P : Params) : BT := (N (bo boot_o_0 b P) (N (bo boot_o_1 b P) (N (o3v10 b P) (N (bo boot_o_7 b P) (N (o15v0 b P) (N (o31v0 b P) (N1 (o63v0 b P)) X) (N (o47v0 b P) (N1 (o79v0 b P)) X)) (N (o23v0 b P) (N (o39v0 b P) (N1 (o71v0 b P)) X) (N (o55v0 b P) (N1 (o87v0 b P)) X))) (N (o11v0 b P) (N (o19v0 b P) (N (o35v0 b P) (N1 (o67v0 b P)) X) (N (o51v0 b P) (N1 (o83v0 b P)) X)) (N (o27v0 b P) (N (o43v0 b P) (N1 (o75v0 b P)) X) (N (o59v0 b P) (N1 (o91v0 b P)) X)))) (N (bo boot_o_5 b P) (N (bo boot_o_9 b P) (N (o17v0 b P) (N (o33v0 b P) (N1 (o65v0 b P)) X) (N (o49v0 b P) (N1 (o81v0 b P)) X)) (N (o25v0 b P) (N (o41v0 b P) (N1 (o73v0 b P)) X) (N (o57v0 b P) (N1 (o89v0 b P)) X))) (N (o13v0 b P) (N (o21v0 b P) (N (o37v0 b P) (N1 (o69v0 b P)) X) (N (o53v0 b P) (N1 (o85v0 b P)) X)) (N (o29v0 b P) (N (o45v0 b P) (N1 (o77v0 b P)) X) (N (o61v0 b P) (N1 (o93v0 b P)) X))))) (N (bo boot_o_2 b P) (N (bo boot_o_4 b P) (N (bo boot_o_8 b P) (N (o16v0 b P) (N (o32v0 b P) (N1 (o64v0 b P)) X) (N (o48v0 b P) (N1 (o80v0 b P)) X)) (N (o24v0 b P) (N (o40v0 b P) (N1 (o72v0 b P)) X) (N (o56v0 b P) (N1 (o88v0 b P)) X))) (N (o12v6 b P) (N (o20v0 b P) (N (o36v0 b P) (N1 (o68v0 b P)) X) (N (o52v0 b P) (N1 (o84v0 b P)) X)) (N (o28v0 b P) (N (o44v0 b P) (N1 (o76v0 b P)) X) (N (o60v0 b P) (N1 (o92v0 b P)) X)))) (N (bo boot_o_6 b P) (N (bo boot_o_10 b P) (N (o18v0 b P) (N (o34v0 b P) (N1 (o66v0 b P)) X) (N (o50v0 b P) (N1 (o82v0 b P)) X)) (N (o26v0 b P) (N (o42v0 b P) (N1 (o74v0 b P)) X) (N (o58v0 b P) (N1 (o90v0 b P)) X))) (N (o14v0 b P) (N (o22v0 b P) (N (o38v0 b P) (N1 (o70v0 b P)) X) (N (o54v0 b P) (N1 (o86v0 b P)) X)) (N (o30v0 b P) (N (o46v0 b P) (N1 (o78v0 b P)) X) (N (o62v0 b P) (N1 (o94v0 b P)) X))))))
def S23 (b : Bool) (v : World) (os : OsState) : SharedT := ⟨T23 b v.params, 95, life0, ⟨[]⟩, drawn0, 375, os⟩
def th10 (pos : Pos) : Thread := piecesOf (st 10) env0 code0 pos [topFrame q0]
def g10x0L (b : Bool) (v : World) (os : OsState) := segRunT treeTable pw v 11 ann0 1 30 (S18 b v os) (th10 ⟨20, 0, 20, 6⟩)
def g10x0R (b : Bool) (v : World) (os : OsState) : Option (Flow × SharedT × Code × Pos) := some (.next, S23 b v os, code0, ⟨21, 0, 22, 30⟩)
def g10x0Lff (w : World) := g10x0L true (W00 w)
def g10x0Rff (w : World) := g10x0R true (W00 w)
theorem g10x0ff_a : (fun (_ : Unit → Unit) => true) (fun _ => let _ := @g10x0Lff; let _ := @g10x0Rff; ()) = true := by k_qdec
theorem g10x0ff : @g10x0Lff = @g10x0Rff := PySem.W.Fast.te6459261867061413865.trans (Eq.trans (show @PySem.W.Fast.tw6459261867061413865 = @PySem.W.Fast.tw6174374671256174803 by kernel_rfl) PySem.W.Fast.te6174374671256174803.symm)
def g10x0Lft (w : World) := g10x0L true (W01 w)
def g10x0Rft (w : World) := g10x0R true (W01 w)
theorem g10x0ft_a : (fun (_ : Unit → Unit) => true) (fun _ => let _ := @g10x0Lft; let _ := @g10x0Rft; ()) = true := by k_qdec
theorem g10x0ft : @g10x0Lft = @g10x0Rft := PySem.W.Fast.te4444965258485610042.trans (Eq.trans (show @PySem.W.Fast.tw4444965258485610042 = @PySem.W.Fast.tw12677498715745639359 by kernel_rfl) PySem.W.Fast.te12677498715745639359.symm)
def g10x0Ltf (w : World) := g10x0L false (W10 w)
def g10x0Rtf (w : World) := g10x0R false (W10 w)
theorem g10x0tf_a : (fun (_ : Unit → Unit) => true) (fun _ => let _ := @g10x0Ltf; let _ := @g10x0Rtf; ()) = true := by k_qdec
theorem g10x0tf : @g10x0Ltf = @g10x0Rtf := PySem.W.Fast.te18067044882547158347.trans (Eq.trans (show @PySem.W.Fast.tw18067044882547158347 = @PySem.W.Fast.tw16800116513800889105 by kernel_rfl) PySem.W.Fast.te16800116513800889105.symm)
def g10x0Ltt (w : World) := g10x0L false (W11 w)
def g10x0Rtt (w : World) := g10x0R false (W11 w)
theorem g10x0tt_a : (fun (_ : Unit → Unit) => true) (fun _ => let _ := @g10x0Ltt; let _ := @g10x0Rtt; ()) = true := by k_qdec
theorem g10x0tt : @g10x0Ltt = @g10x0Rtt := PySem.W.Fast.te14663661523072789246.trans (Eq.trans (show @PySem.W.Fast.tw14663661523072789246 = @PySem.W.Fast.tw16276982910302021822 by kernel_rfl) PySem.W.Fast.te16276982910302021822.symm)
theorem g10x0 (w : World) : g10x0L (led w.params) w = g10x0R (led w.params) w := byFour (P := fun b w => g10x0L b w = g10x0R b w) (fun w => congrFun g10x0ff w) (fun w => congrFun g10x0ft w) (fun w => congrFun g10x0tf w) (fun w => congrFun g10x0tt w) w
theorem piece10 (w : World) (os : OsState) : segRun treeTable pw w 11 ann0 1 30 (S18 (led w.params) w os).abs (th10 ⟨20, 0, 20, 6⟩) = some (.next, (S23 (led w.params) w os).abs, code0, ⟨21, 0, 22, 30⟩) :=
  (segRun_of (congrFun (g10x0 w) os))
-- statement 11: 3750 steps, 195 heads, cuts [(87, 1), (257, 1), (427, 1), (597, 1), (767, 1), (937, 1), (1107, 1), (1277, 1), (1447, 1), (1617, 1), (1778, 2), (1960, 2), (2140, 2), (2322, 2), (2502, 2), (2682, 2), (2862, 2), (3042, 2), (3222, 2), (3404, 2), (3584, 2)]
def o3v11 (b : Bool) (P : Params) : Obj := ⟨(.type "dict"), none, (.dict ⟨[D P "__name__" 165 (.str "cpy313.stringprep" 187), D P "__doc__" 166 .none, D P "__package__" 167 .none, D P "__loader__" 168 (.builtin "__main__.__loader__#opaque"), D P "__spec__" 169 .none, D P "__annotations__" 170 (.ref 6), D P "__builtins__" 171 (.ref 4), D P "__file__" 173 (.str "/claim/cut.py" 172), D P "__cached__" 174 .none, D P "b1_set" 248 (.ref 22), D P "in_table_b1" 255 (.ref 32), D P "in_table_c11" 262 (.ref 39), D P "in_table_c4" 270 (.ref 46), D P "c6_set" 284 (.ref 48), D P "in_table_c6" 291 (.ref 58), D P "c7_set" 319 (.ref 60), D P "in_table_c7" 326 (.ref 70), D P "c8_set" 367 (.ref 84), D P "in_table_c8" 374 (.ref 94), D P "c9_set" 574 (.ref 102)]⟩ 20), ⟨[]⟩⟩
def o95v0 (b : Bool) (P : Params) : Obj := ⟨(.type "list"), none, (.seq ⟨[(.int 917505 375)]⟩ 0), ⟨[]⟩⟩
def o96v0 (b : Bool) (P : Params) : Obj := ⟨(.type "range"), none, (.fields ⟨[(.int 917536 376), (.int 917632 377), (.int 1 378)]⟩), ⟨[]⟩⟩
def o97v0 (b : Bool) (P : Params) : Obj := ⟨(.type "list"), none, (.seq ⟨[(.int 917536 381), (.int 917537 382), (.int 917538 383), (.int 917539 384), (.int 917540 385), (.int 917541 386), (.int 917542 387), (.int 917543 388), (.int 917544 389), (.int 917545 390), (.int 917546 391), (.int 917547 392), (.int 917548 393), (.int 917549 394), (.int 917550 395), (.int 917551 396), (.int 917552 397), (.int 917553 398), (.int 917554 399), (.int 917555 400), (.int 917556 401), (.int 917557 402), (.int 917558 403), (.int 917559 404), (.int 917560 405), (.int 917561 406), (.int 917562 407), (.int 917563 408), (.int 917564 409), (.int 917565 410), (.int 917566 411), (.int 917567 412), (.int 917568 413), (.int 917569 414), (.int 917570 415), (.int 917571 416), (.int 917572 417), (.int 917573 418), (.int 917574 419), (.int 917575 420), (.int 917576 421), (.int 917577 422), (.int 917578 423), (.int 917579 424), (.int 917580 425), (.int 917581 426), (.int 917582 427), (.int 917583 428), (.int 917584 429), (.int 917585 430), (.int 917586 431), (.int 917587 432), (.int 917588 433), (.int 917589 434), (.int 917590 435), (.int 917591 436), (.int 917592 437), (.int 917593 438), (.int 917594 439), (.int 917595 440), (.int 917596 441), (.int 917597 442), (.int 917598 443), (.int 917599 444), (.int 917600 445), (.int 917601 446), (.int 917602 447), (.int 917603 448), (.int 917604 449), (.int 917605 450), (.int 917606 451), (.int 917607 452), (.int 917608 453), (.int 917609 454), (.int 917610 455), (.int 917611 456), (.int 917612 457), (.int 917613 458), (.int 917614 459), (.int 917615 460), (.int 917616 461), (.int 917617 462), (.int 917618 463), (.int 917619 464), (.int 917620 465), (.int 917621 466), (.int 917622 467), (.int 917623 468), (.int 917624 469), (.int 917625 470), (.int 917626 471), (.int 917627 472), (.int 917628 473), (.int 917629 474), (.int 917630 475), (.int 917631 476)]⟩ 98), ⟨[]⟩⟩
def o98v0 (b : Bool) (P : Params) : Obj := ⟨(.type "range_iterator"), none, (.fields ⟨[(.int 917632 0), (.int 0 0), (.int 1 0)]⟩), ⟨[]⟩⟩
def o99v0 (b : Bool) (P : Params) : Obj := ⟨(.type "tuple"), none, (.seq ⟨[]⟩ 0), ⟨[]⟩⟩
def o100v0 (b : Bool) (P : Params) : Obj := ⟨(.type "StopIteration"), none, (.fields ⟨[(.ref 99), .none, .none, .none, (.bool false), .none]⟩), ⟨[]⟩⟩
def o101v0 (b : Bool) (P : Params) : Obj := ⟨(.type "list"), none, (.seq ⟨[(.int 917505 375), (.int 917536 381), (.int 917537 382), (.int 917538 383), (.int 917539 384), (.int 917540 385), (.int 917541 386), (.int 917542 387), (.int 917543 388), (.int 917544 389), (.int 917545 390), (.int 917546 391), (.int 917547 392), (.int 917548 393), (.int 917549 394), (.int 917550 395), (.int 917551 396), (.int 917552 397), (.int 917553 398), (.int 917554 399), (.int 917555 400), (.int 917556 401), (.int 917557 402), (.int 917558 403), (.int 917559 404), (.int 917560 405), (.int 917561 406), (.int 917562 407), (.int 917563 408), (.int 917564 409), (.int 917565 410), (.int 917566 411), (.int 917567 412), (.int 917568 413), (.int 917569 414), (.int 917570 415), (.int 917571 416), (.int 917572 417), (.int 917573 418), (.int 917574 419), (.int 917575 420), (.int 917576 421), (.int 917577 422), (.int 917578 423), (.int 917579 424), (.int 917580 425), (.int 917581 426), (.int 917582 427), (.int 917583 428), (.int 917584 429), (.int 917585 430), (.int 917586 431), (.int 917587 432), (.int 917588 433), (.int 917589 434), (.int 917590 435), (.int 917591 436), (.int 917592 437), (.int 917593 438), (.int 917594 439), (.int 917595 440), (.int 917596 441), (.int 917597 442), (.int 917598 443), (.int 917599 444), (.int 917600 445), (.int 917601 446), (.int 917602 447), (.int 917603 448), (.int 917604 449), (.int 917605 450), (.int 917606 451), (.int 917607 452), (.int 917608 453), (.int 917609 454), (.int 917610 455), (.int 917611 456), (.int 917612 457), (.int 917613 458), (.int 917614 459), (.int 917615 460), (.int 917616 461), (.int 917617 462), (.int 917618 463), (.int 917619 464), (.int 917620 465), (.int 917621 466), (.int 917622 467), (.int 917623 468), (.int 917624 469), (.int 917625 470), (.int 917626 471), (.int 917627 472), (.int 917628 473), (.int 917629 474), (.int 917630 475), (.int 917631 476)]⟩ 0), ⟨[]⟩⟩
def o102v0 (b : Bool) (P : Params) : Obj := ⟨(.type "set"), none, (.set ⟨[E 917505 375, E 917536 381, E 917537 382, E 917538 383, E 917539 384, E 917540 385, E 917541 386, E 917542 387, E 917543 388, E 917544 389, E 917545 390, E 917546 391, E 917547 392, E 917548 393, E 917549 394, E 917550 395, E 917551 396, E 917552 397, E 917553 398, E 917554 399, E 917555 400, E 917556 401, E 917557 402, E 917558 403, E 917559 404, E 917560 405, E 917561 406, E 917562 407, E 917563 408, E 917564 409, E 917565 410, E 917566 411, E 917567 412, E 917568 413, E 917569 414, E 917570 415, E 917571 416, E 917572 417, E 917573 418, E 917574 419, E 917575 420, E 917576 421, E 917577 422, E 917578 423, E 917579 424, E 917580 425, E 917581 426, E 917582 427, E 917583 428, E 917584 429, E 917585 430, E 917586 431, E 917587 432, E 917588 433, E 917589 434, E 917590 435, E 917591 436, E 917592 437, E 917593 438, E 917594 439, E 917595 440, E 917596 441, E 917597 442, E 917598 443, E 917599 444, E 917600 445, E 917601 446, E 917602 447, E 917603 448, E 917604 449, E 917605 450, E 917606 451, E 917607 452, E 917608 453, E 917609 454, E 917610 455, E 917611 456, E 917612 457, E 917613 458, E 917614 459, E 917615 460, E 917616 461, E 917617 462, E 917618 463, E 917619 464, E 917620 465, E 917621 466, E 917622 467, E 917623 468, E 917624 469, E 917625 470, E 917626 471, E 917627 472, E 917628 473, E 917629 474, E 917630 475, E 917631 476]⟩ 100 (tabOf b 511 ⟨[1, 32, 33, 34, 35, 36, 37, 38, 39, 40, 41, 42, 43, 44, 45, 46, 47, 48, 49, 50, 51, 52, 53, 54, 55, 56, 57, 58, 59, 60, 61, 62, 63, 64, 65, 66, 67, 68, 69, 70, 71, 72, 73, 74, 75, 76, 77, 78, 79, 80, 81, 82, 83, 84, 85, 86, 87, 88, 89, 90, 91, 92, 93, 94, 95, 96, 97, 98, 99, 100, 101, 102, 103, 104, 105, 106, 107, 108, 109, 110, 111, 112, 113, 114, 115, 116, 117, 118, 119, 120, 121, 122, 123, 124, 125, 126, 127]⟩ 0 3)), ⟨[]⟩⟩
def o103v0 (b : Bool) (P : Params) : Obj := ⟨(.type "list_iterator"), none, (.fields ⟨[.none, (.int 97 0)]⟩), ⟨[]⟩⟩
def o104v0 (b : Bool) (P : Params) : Obj := ⟨(.type "tuple"), none, (.seq ⟨[]⟩ 0), ⟨[]⟩⟩
def o105v0 (b : Bool) (P : Params) : Obj := ⟨(.type "StopIteration"), none, (.fields ⟨[(.ref 104), .none, .none, .none, (.bool false), .none]⟩), ⟨[]⟩⟩
def T24 (b : Bool) (P : Params) : BT := (N (bo boot_o_0 b P) (N (bo boot_o_1 b P) (N (o3v11 b P) (N (bo boot_o_7 b P) (N (o15v0 b P) (N (o31v0 b P) (N1 (o63v0 b P)) (N1 (o95v0 b P))) (N (o47v0 b P) (N1 (o79v0 b P)) X)) (N (o23v0 b P) (N (o39v0 b P) (N1 (o71v0 b P)) (N1 (o103v0 b P))) (N (o55v0 b P) (N1 (o87v0 b P)) X))) (N (o11v0 b P) (N (o19v0 b P) (N (o35v0 b P) (N1 (o67v0 b P)) (N1 (o99v0 b P))) (N (o51v0 b P) (N1 (o83v0 b P)) X)) (N (o27v0 b P) (N (o43v0 b P) (N1 (o75v0 b P)) X) (N (o59v0 b P) (N1 (o91v0 b P)) X)))) (N (bo boot_o_5 b P) (N (bo boot_o_9 b P) (N (o17v0 b P) (N (o33v0 b P) (N1 (o65v0 b P)) (N1 (o97v0 b P))) (N (o49v0 b P) (N1 (o81v0 b P)) X)) (N (o25v0 b P) (N (o41v0 b P) (N1 (o73v0 b P)) (N1 (o105v0 b P))) (N (o57v0 b P) (N1 (o89v0 b P)) X))) (N (o13v0 b P) (N (o21v0 b P) (N (o37v0 b P) (N1 (o69v0 b P)) (N1 (o101v0 b P))) (N (o53v0 b P) (N1 (o85v0 b P)) X)) (N (o29v0 b P) (N (o45v0 b P) (N1 (o77v0 b P)) X) (N (o61v0 b P) (N1 (o93v0 b P)) X))))) (N (bo boot_o_2 b P) (N (bo boot_o_4 b P) (N (bo boot_o_8 b P) (N (o16v0 b P) (N (o32v0 b P) (N1 (o64v0 b P)) (N1 (o96v0 b P))) (N (o48v0 b P) (N1 (o80v0 b P)) X)) (N (o24v0 b P) (N (o40v0 b P) (N1 (o72v0 b P)) (N1 (o104v0 b P))) (N (o56v0 b P) (N1 (o88v0 b P)) X))) (N (o12v6 b P) (N (o20v0 b P) (N (o36v0 b P) (N1 (o68v0 b P)) (N1 (o100v0 b P))) (N (o52v0 b P) (N1 (o84v0 b P)) X)) (N (o28v0 b P) (N (o44v0 b P) (N1 (o76v0 b P)) X) (N (o60v0 b P) (N1 (o92v0 b P)) X)))) (N (bo boot_o_6 b P) (N (bo boot_o_10 b P) (N (o18v0 b P) (N (o34v0 b P) (N1 (o66v0 b P)) (N1 (o98v0 b P))) (N (o50v0 b P) (N1 (o82v0 b P)) X)) (N (o26v0 b P) (N (o42v0 b P) (N1 (o74v0 b P)) X) (N (o58v0 b P) (N1 (o90v0 b P)) X))) (N (o14v0 b P) (N (o22v0 b P) (N (o38v0 b P) (N1 (o70v0 b P)) (N1 (o102v0 b P))) (N (o54v0 b P) (N1 (o86v0 b P)) X)) (N (o30v0 b P) (N (o46v0 b P) (N1 (o78v0 b P)) X) (N (o62v0 b P) (N1 (o94v0 b P)) X))))))
def S24 (b : Bool) (v : World) (os : OsState) : SharedT := ⟨T24 b v.params, 106, life0, ⟨[]⟩, drawn0, 575, os⟩
def th11 (pos : Pos) : Thread := piecesOf (st 11) env0 code0 pos [topFrame q0]
def o97v1 (b : Bool) (P : Params) : Obj := ⟨(.type "list"), none, (.seq ⟨[]⟩ 2), ⟨[]⟩⟩
def o98v1 (b : Bool) (P : Params) : Obj := ⟨(.type "range_iterator"), none, (.fields ⟨[(.int 917536 0), (.int 96 0), (.int 1 0)]⟩), ⟨[]⟩⟩
def TH11r1 (b : Bool) (P : Params) (x0 x1 : Obj) : BT := (N (bo boot_o_0 b P) (N (bo boot_o_1 b P) (N (o3v10 b P) (N (bo boot_o_7 b P) (N (o15v0 b P) (N (o31v0 b P) (N1 (o63v0 b P)) (N1 (o95v0 b P))) (N (o47v0 b P) (N1 (o79v0 b P)) X)) (N (o23v0 b P) (N (o39v0 b P) (N1 (o71v0 b P)) X) (N (o55v0 b P) (N1 (o87v0 b P)) X))) (N (o11v0 b P) (N (o19v0 b P) (N (o35v0 b P) (N1 (o67v0 b P)) X) (N (o51v0 b P) (N1 (o83v0 b P)) X)) (N (o27v0 b P) (N (o43v0 b P) (N1 (o75v0 b P)) X) (N (o59v0 b P) (N1 (o91v0 b P)) X)))) (N (bo boot_o_5 b P) (N (bo boot_o_9 b P) (N (o17v0 b P) (N (o33v0 b P) (N1 (o65v0 b P)) (N1 x0)) (N (o49v0 b P) (N1 (o81v0 b P)) X)) (N (o25v0 b P) (N (o41v0 b P) (N1 (o73v0 b P)) X) (N (o57v0 b P) (N1 (o89v0 b P)) X))) (N (o13v0 b P) (N (o21v0 b P) (N (o37v0 b P) (N1 (o69v0 b P)) X) (N (o53v0 b P) (N1 (o85v0 b P)) X)) (N (o29v0 b P) (N (o45v0 b P) (N1 (o77v0 b P)) X) (N (o61v0 b P) (N1 (o93v0 b P)) X))))) (N (bo boot_o_2 b P) (N (bo boot_o_4 b P) (N (bo boot_o_8 b P) (N (o16v0 b P) (N (o32v0 b P) (N1 (o64v0 b P)) (N1 (o96v0 b P))) (N (o48v0 b P) (N1 (o80v0 b P)) X)) (N (o24v0 b P) (N (o40v0 b P) (N1 (o72v0 b P)) X) (N (o56v0 b P) (N1 (o88v0 b P)) X))) (N (o12v6 b P) (N (o20v0 b P) (N (o36v0 b P) (N1 (o68v0 b P)) X) (N (o52v0 b P) (N1 (o84v0 b P)) X)) (N (o28v0 b P) (N (o44v0 b P) (N1 (o76v0 b P)) X) (N (o60v0 b P) (N1 (o92v0 b P)) X)))) (N (bo boot_o_6 b P) (N (bo boot_o_10 b P) (N (o18v0 b P) (N (o34v0 b P) (N1 (o66v0 b P)) (N1 x1)) (N (o50v0 b P) (N1 (o82v0 b P)) X)) (N (o26v0 b P) (N (o42v0 b P) (N1 (o74v0 b P)) X) (N (o58v0 b P) (N1 (o90v0 b P)) X))) (N (o14v0 b P) (N (o22v0 b P) (N (o38v0 b P) (N1 (o70v0 b P)) X) (N (o54v0 b P) (N1 (o86v0 b P)) X)) (N (o30v0 b P) (N (o46v0 b P) (N1 (o78v0 b P)) X) (N (o62v0 b P) (N1 (o94v0 b P)) X))))))
def S25 (b : Bool) (v : World) (os : OsState) : SharedT := ⟨TH11r1 b v.params (o97v1 b v.params) (o98v1 b v.params), 99, life0, ⟨[]⟩, drawn0, 381, os⟩
def g11x0raw (b : Bool) (v : World) (os : OsState) : List Frame := stackOf (segGoT treeTable pw v 11 ann0 1 87 (S23 b v os) (th11 ⟨21, 0, 22, 30⟩))
def g11x0th (b : Bool) (v : World) (os : OsState) : Thread := ⟨denote treeTable (.builtin "list.extend.loop" ⟨[(.ref 97), (.ref 98), .none], []⟩), (.builtin "list.extend.loop" ⟨[(.ref 97), (.ref 98), .none], []⟩), ⟨23, 24, 23, 51⟩, [.ret (rK (g11x0raw b v os)) (rH (g11x0raw b v os)) (rG (g11x0raw b v os)) (rL (g11x0raw b v os)) (rC (g11x0raw b v os)) (rP (g11x0raw b v os)) (rT (g11x0raw b v os)), (frAt (g11x0raw b v os) 1), (frAt (g11x0raw b v os) 2)]⟩
def g11x0L (b : Bool) (v : World) (os : OsState) := segGoT treeTable pw v 11 ann0 1 87 (S23 b v os) (th11 ⟨21, 0, 22, 30⟩)
def g11x0R (b : Bool) (v : World) (os : OsState) : Option (SharedT × Thread) := some (S25 b v os, (g11x0th b v os))
def g11x0Lff (w : World) := g11x0L true (W00 w)
def g11x0Rff (w : World) := g11x0R true (W00 w)
theorem g11x0ff_a : (fun (_ : Unit → Unit) => true) (fun _ => let _ := @g11x0Lff; let _ := @g11x0Rff; ()) = true := by k_qdec
theorem g11x0ff : @g11x0Lff = @g11x0Rff := PySem.W.Fast.te11457108621595739564.trans (Eq.trans (show @PySem.W.Fast.tw11457108621595739564 = @PySem.W.Fast.tw10453268303354596816 by kernel_rfl) PySem.W.Fast.te10453268303354596816.symm)
def g11x0Lft (w : World) := g11x0L true (W01 w)
def g11x0Rft (w : World) := g11x0R true (W01 w)
theorem g11x0ft_a : (fun (_ : Unit → Unit) => true) (fun _ => let _ := @g11x0Lft; let _ := @g11x0Rft; ()) = true := by k_qdec
theorem g11x0ft : @g11x0Lft = @g11x0Rft := PySem.W.Fast.te11124833242461273441.trans (Eq.trans (show @PySem.W.Fast.tw11124833242461273441 = @PySem.W.Fast.tw541957740643093446 by kernel_rfl) PySem.W.Fast.te541957740643093446.symm)
def g11x0Ltf (w : World) := g11x0L false (W10 w)
def g11x0Rtf (w : World) := g11x0R false (W10 w)
theorem g11x0tf_a : (fun (_ : Unit → Unit) => true) (fun _ => let _ := @g11x0Ltf; let _ := @g11x0Rtf; ()) = true := by k_qdec
theorem g11x0tf : @g11x0Ltf = @g11x0Rtf := PySem.W.Fast.te14332815255922309651.trans (Eq.trans (show @PySem.W.Fast.tw14332815255922309651 = @PySem.W.Fast.tw18060553133190134932 by kernel_rfl) PySem.W.Fast.te18060553133190134932.symm)
def g11x0Ltt (w : World) := g11x0L false (W11 w)
def g11x0Rtt (w : World) := g11x0R false (W11 w)
theorem g11x0tt_a : (fun (_ : Unit → Unit) => true) (fun _ => let _ := @g11x0Ltt; let _ := @g11x0Rtt; ()) = true := by k_qdec
theorem g11x0tt : @g11x0Ltt = @g11x0Rtt := PySem.W.Fast.te16999196670593764103.trans (Eq.trans (show @PySem.W.Fast.tw16999196670593764103 = @PySem.W.Fast.tw13816853947714310307 by kernel_rfl) PySem.W.Fast.te13816853947714310307.symm)
theorem g11x0 (w : World) : g11x0L (led w.params) w = g11x0R (led w.params) w := byFour (P := fun b w => g11x0L b w = g11x0R b w) (fun w => congrFun g11x0ff w) (fun w => congrFun g11x0ft w) (fun w => congrFun g11x0tf w) (fun w => congrFun g11x0tt w) w
theorem g11x0s (w : World) (os : OsState) : segGo treeTable pw w 11 ann0 1 87 (S23 (led w.params) w os).abs (th11 ⟨21, 0, 22, 30⟩) = some ((S25 (led w.params) w os).abs, (g11x0th (led w.params) w os)) := segGo_of (congrFun (g11x0 w) os)
def o97v2 (b : Bool) (P : Params) : Obj := ⟨(.type "list"), none, (.seq ⟨[(.int 917536 381), (.int 917537 382), (.int 917538 383), (.int 917539 384), (.int 917540 385), (.int 917541 386), (.int 917542 387), (.int 917543 388), (.int 917544 389), (.int 917545 390)]⟩ 12), ⟨[]⟩⟩
def o98v2 (b : Bool) (P : Params) : Obj := ⟨(.type "range_iterator"), none, (.fields ⟨[(.int 917546 0), (.int 86 0), (.int 1 0)]⟩), ⟨[]⟩⟩
def S26 (b : Bool) (v : World) (os : OsState) : SharedT := ⟨TH11r1 b v.params (o97v2 b v.params) (o98v2 b v.params), 99, life0, ⟨[]⟩, drawn0, 391, os⟩
def g11x1L (b : Bool) (v : World) (os : OsState) (k : Result → Sem Fin) (h : Option Value) (g : Bool) (l : List Value) (cd : Code) (p₀ : Pos) (kept : List Value) (f1 f2 : Frame) := segGoT treeTable pw v 11 ann0 1 170 (S25 b v os) ⟨denote treeTable (.builtin "list.extend.loop" ⟨[(.ref 97), (.ref 98), .none], []⟩), (.builtin "list.extend.loop" ⟨[(.ref 97), (.ref 98), .none], []⟩), ⟨23, 24, 23, 51⟩, [.ret k h g l cd p₀ kept, f1, f2]⟩
def g11x1R (b : Bool) (v : World) (os : OsState) (k : Result → Sem Fin) (h : Option Value) (g : Bool) (l : List Value) (cd : Code) (p₀ : Pos) (kept : List Value) (f1 f2 : Frame) : Option (SharedT × Thread) := some (S26 b v os, ⟨denote treeTable (.builtin "list.extend.loop" ⟨[(.ref 97), (.ref 98), .none], []⟩), (.builtin "list.extend.loop" ⟨[(.ref 97), (.ref 98), .none], []⟩), ⟨23, 24, 23, 51⟩, [.ret k h g l cd p₀ kept, f1, f2]⟩)
theorem g11x1e_a : (fun (_ : Unit → Unit) => true) (fun _ => let _ := @g11x1L; let _ := @g11x1R; ()) = true := by k_qdec
theorem g11x1e : @g11x1L = @g11x1R := PySem.W.Fast.te12710078217533328609.trans (Eq.trans (show @PySem.W.Fast.tw12710078217533328609 = @PySem.W.Fast.tw13904235290208083257 by kernel_rfl) PySem.W.Fast.te13904235290208083257.symm)
theorem g11x1 (w : World) : g11x1L (led w.params) w = g11x1R (led w.params) w := congrFun (congrFun g11x1e _) w
theorem g11x1s (w : World) (os : OsState) : segGo treeTable pw w 11 ann0 1 170 (S25 (led w.params) w os).abs (g11x0th (led w.params) w os) = some ((S26 (led w.params) w os).abs, (g11x0th (led w.params) w os)) := segGo_of (show g11x1L (led w.params) w os (rK (g11x0raw (led w.params) w os)) (rH (g11x0raw (led w.params) w os)) (rG (g11x0raw (led w.params) w os)) (rL (g11x0raw (led w.params) w os)) (rC (g11x0raw (led w.params) w os)) (rP (g11x0raw (led w.params) w os)) (rT (g11x0raw (led w.params) w os)) (frAt (g11x0raw (led w.params) w os) 1) (frAt (g11x0raw (led w.params) w os) 2) = g11x1R (led w.params) w os (rK (g11x0raw (led w.params) w os)) (rH (g11x0raw (led w.params) w os)) (rG (g11x0raw (led w.params) w os)) (rL (g11x0raw (led w.params) w os)) (rC (g11x0raw (led w.params) w os)) (rP (g11x0raw (led w.params) w os)) (rT (g11x0raw (led w.params) w os)) (frAt (g11x0raw (led w.params) w os) 1) (frAt (g11x0raw (led w.params) w os) 2) by rw [g11x1])
def o97v3 (b : Bool) (P : Params) : Obj := ⟨(.type "list"), none, (.seq ⟨[(.int 917536 381), (.int 917537 382), (.int 917538 383), (.int 917539 384), (.int 917540 385), (.int 917541 386), (.int 917542 387), (.int 917543 388), (.int 917544 389), (.int 917545 390), (.int 917546 391), (.int 917547 392), (.int 917548 393), (.int 917549 394), (.int 917550 395), (.int 917551 396), (.int 917552 397), (.int 917553 398), (.int 917554 399), (.int 917555 400)]⟩ 22), ⟨[]⟩⟩
def o98v3 (b : Bool) (P : Params) : Obj := ⟨(.type "range_iterator"), none, (.fields ⟨[(.int 917556 0), (.int 76 0), (.int 1 0)]⟩), ⟨[]⟩⟩
def S27 (b : Bool) (v : World) (os : OsState) : SharedT := ⟨TH11r1 b v.params (o97v3 b v.params) (o98v3 b v.params), 99, life0, ⟨[]⟩, drawn0, 401, os⟩
def g11x2L (b : Bool) (v : World) (os : OsState) (k : Result → Sem Fin) (h : Option Value) (g : Bool) (l : List Value) (cd : Code) (p₀ : Pos) (kept : List Value) (f1 f2 : Frame) := segGoT treeTable pw v 11 ann0 1 170 (S26 b v os) ⟨denote treeTable (.builtin "list.extend.loop" ⟨[(.ref 97), (.ref 98), .none], []⟩), (.builtin "list.extend.loop" ⟨[(.ref 97), (.ref 98), .none], []⟩), ⟨23, 24, 23, 51⟩, [.ret k h g l cd p₀ kept, f1, f2]⟩
def g11x2R (b : Bool) (v : World) (os : OsState) (k : Result → Sem Fin) (h : Option Value) (g : Bool) (l : List Value) (cd : Code) (p₀ : Pos) (kept : List Value) (f1 f2 : Frame) : Option (SharedT × Thread) := some (S27 b v os, ⟨denote treeTable (.builtin "list.extend.loop" ⟨[(.ref 97), (.ref 98), .none], []⟩), (.builtin "list.extend.loop" ⟨[(.ref 97), (.ref 98), .none], []⟩), ⟨23, 24, 23, 51⟩, [.ret k h g l cd p₀ kept, f1, f2]⟩)
theorem g11x2e_a : (fun (_ : Unit → Unit) => true) (fun _ => let _ := @g11x2L; let _ := @g11x2R; ()) = true := by k_qdec
theorem g11x2e : @g11x2L = @g11x2R := PySem.W.Fast.te8026320161475468696.trans (Eq.trans (show @PySem.W.Fast.tw8026320161475468696 = @PySem.W.Fast.tw8241454998962814306 by kernel_rfl) PySem.W.Fast.te8241454998962814306.symm)
theorem g11x2 (w : World) : g11x2L (led w.params) w = g11x2R (led w.params) w := congrFun (congrFun g11x2e _) w
theorem g11x2s (w : World) (os : OsState) : segGo treeTable pw w 11 ann0 1 170 (S26 (led w.params) w os).abs (g11x0th (led w.params) w os) = some ((S27 (led w.params) w os).abs, (g11x0th (led w.params) w os)) := segGo_of (show g11x2L (led w.params) w os (rK (g11x0raw (led w.params) w os)) (rH (g11x0raw (led w.params) w os)) (rG (g11x0raw (led w.params) w os)) (rL (g11x0raw (led w.params) w os)) (rC (g11x0raw (led w.params) w os)) (rP (g11x0raw (led w.params) w os)) (rT (g11x0raw (led w.params) w os)) (frAt (g11x0raw (led w.params) w os) 1) (frAt (g11x0raw (led w.params) w os) 2) = g11x2R (led w.params) w os (rK (g11x0raw (led w.params) w os)) (rH (g11x0raw (led w.params) w os)) (rG (g11x0raw (led w.params) w os)) (rL (g11x0raw (led w.params) w os)) (rC (g11x0raw (led w.params) w os)) (rP (g11x0raw (led w.params) w os)) (rT (g11x0raw (led w.params) w os)) (frAt (g11x0raw (led w.params) w os) 1) (frAt (g11x0raw (led w.params) w os) 2) by rw [g11x2])
def o97v4 (b : Bool) (P : Params) : Obj := ⟨(.type "list"), none, (.seq ⟨[(.int 917536 381), (.int 917537 382), (.int 917538 383), (.int 917539 384), (.int 917540 385), (.int 917541 386), (.int 917542 387), (.int 917543 388), (.int 917544 389), (.int 917545 390), (.int 917546 391), (.int 917547 392), (.int 917548 393), (.int 917549 394), (.int 917550 395), (.int 917551 396), (.int 917552 397), (.int 917553 398), (.int 917554 399), (.int 917555 400), (.int 917556 401), (.int 917557 402), (.int 917558 403), (.int 917559 404), (.int 917560 405), (.int 917561 406), (.int 917562 407), (.int 917563 408), (.int 917564 409), (.int 917565 410)]⟩ 32), ⟨[]⟩⟩
def o98v4 (b : Bool) (P : Params) : Obj := ⟨(.type "range_iterator"), none, (.fields ⟨[(.int 917566 0), (.int 66 0), (.int 1 0)]⟩), ⟨[]⟩⟩
def S28 (b : Bool) (v : World) (os : OsState) : SharedT := ⟨TH11r1 b v.params (o97v4 b v.params) (o98v4 b v.params), 99, life0, ⟨[]⟩, drawn0, 411, os⟩
def g11x3L (b : Bool) (v : World) (os : OsState) (k : Result → Sem Fin) (h : Option Value) (g : Bool) (l : List Value) (cd : Code) (p₀ : Pos) (kept : List Value) (f1 f2 : Frame) := segGoT treeTable pw v 11 ann0 1 170 (S27 b v os) ⟨denote treeTable (.builtin "list.extend.loop" ⟨[(.ref 97), (.ref 98), .none], []⟩), (.builtin "list.extend.loop" ⟨[(.ref 97), (.ref 98), .none], []⟩), ⟨23, 24, 23, 51⟩, [.ret k h g l cd p₀ kept, f1, f2]⟩
def g11x3R (b : Bool) (v : World) (os : OsState) (k : Result → Sem Fin) (h : Option Value) (g : Bool) (l : List Value) (cd : Code) (p₀ : Pos) (kept : List Value) (f1 f2 : Frame) : Option (SharedT × Thread) := some (S28 b v os, ⟨denote treeTable (.builtin "list.extend.loop" ⟨[(.ref 97), (.ref 98), .none], []⟩), (.builtin "list.extend.loop" ⟨[(.ref 97), (.ref 98), .none], []⟩), ⟨23, 24, 23, 51⟩, [.ret k h g l cd p₀ kept, f1, f2]⟩)
theorem g11x3e_a : (fun (_ : Unit → Unit) => true) (fun _ => let _ := @g11x3L; let _ := @g11x3R; ()) = true := by k_qdec
theorem g11x3e : @g11x3L = @g11x3R := PySem.W.Fast.te2569769696580043923.trans (Eq.trans (show @PySem.W.Fast.tw2569769696580043923 = @PySem.W.Fast.tw3075562580620141533 by kernel_rfl) PySem.W.Fast.te3075562580620141533.symm)
theorem g11x3 (w : World) : g11x3L (led w.params) w = g11x3R (led w.params) w := congrFun (congrFun g11x3e _) w
theorem g11x3s (w : World) (os : OsState) : segGo treeTable pw w 11 ann0 1 170 (S27 (led w.params) w os).abs (g11x0th (led w.params) w os) = some ((S28 (led w.params) w os).abs, (g11x0th (led w.params) w os)) := segGo_of (show g11x3L (led w.params) w os (rK (g11x0raw (led w.params) w os)) (rH (g11x0raw (led w.params) w os)) (rG (g11x0raw (led w.params) w os)) (rL (g11x0raw (led w.params) w os)) (rC (g11x0raw (led w.params) w os)) (rP (g11x0raw (led w.params) w os)) (rT (g11x0raw (led w.params) w os)) (frAt (g11x0raw (led w.params) w os) 1) (frAt (g11x0raw (led w.params) w os) 2) = g11x3R (led w.params) w os (rK (g11x0raw (led w.params) w os)) (rH (g11x0raw (led w.params) w os)) (rG (g11x0raw (led w.params) w os)) (rL (g11x0raw (led w.params) w os)) (rC (g11x0raw (led w.params) w os)) (rP (g11x0raw (led w.params) w os)) (rT (g11x0raw (led w.params) w os)) (frAt (g11x0raw (led w.params) w os) 1) (frAt (g11x0raw (led w.params) w os) 2) by rw [g11x3])
def o97v5 (b : Bool) (P : Params) : Obj := ⟨(.type "list"), none, (.seq ⟨[(.int 917536 381), (.int 917537 382), (.int 917538 383), (.int 917539 384), (.int 917540 385), (.int 917541 386), (.int 917542 387), (.int 917543 388), (.int 917544 389), (.int 917545 390), (.int 917546 391), (.int 917547 392), (.int 917548 393), (.int 917549 394), (.int 917550 395), (.int 917551 396), (.int 917552 397), (.int 917553 398), (.int 917554 399), (.int 917555 400), (.int 917556 401), (.int 917557 402), (.int 917558 403), (.int 917559 404), (.int 917560 405), (.int 917561 406), (.int 917562 407), (.int 917563 408), (.int 917564 409), (.int 917565 410), (.int 917566 411), (.int 917567 412), (.int 917568 413), (.int 917569 414), (.int 917570 415), (.int 917571 416), (.int 917572 417), (.int 917573 418), (.int 917574 419), (.int 917575 420)]⟩ 42), ⟨[]⟩⟩
def o98v5 (b : Bool) (P : Params) : Obj := ⟨(.type "range_iterator"), none, (.fields ⟨[(.int 917576 0), (.int 56 0), (.int 1 0)]⟩), ⟨[]⟩⟩
def S29 (b : Bool) (v : World) (os : OsState) : SharedT := ⟨TH11r1 b v.params (o97v5 b v.params) (o98v5 b v.params), 99, life0, ⟨[]⟩, drawn0, 421, os⟩
def g11x4L (b : Bool) (v : World) (os : OsState) (k : Result → Sem Fin) (h : Option Value) (g : Bool) (l : List Value) (cd : Code) (p₀ : Pos) (kept : List Value) (f1 f2 : Frame) := segGoT treeTable pw v 11 ann0 1 170 (S28 b v os) ⟨denote treeTable (.builtin "list.extend.loop" ⟨[(.ref 97), (.ref 98), .none], []⟩), (.builtin "list.extend.loop" ⟨[(.ref 97), (.ref 98), .none], []⟩), ⟨23, 24, 23, 51⟩, [.ret k h g l cd p₀ kept, f1, f2]⟩
def g11x4R (b : Bool) (v : World) (os : OsState) (k : Result → Sem Fin) (h : Option Value) (g : Bool) (l : List Value) (cd : Code) (p₀ : Pos) (kept : List Value) (f1 f2 : Frame) : Option (SharedT × Thread) := some (S29 b v os, ⟨denote treeTable (.builtin "list.extend.loop" ⟨[(.ref 97), (.ref 98), .none], []⟩), (.builtin "list.extend.loop" ⟨[(.ref 97), (.ref 98), .none], []⟩), ⟨23, 24, 23, 51⟩, [.ret k h g l cd p₀ kept, f1, f2]⟩)
theorem g11x4e_a : (fun (_ : Unit → Unit) => true) (fun _ => let _ := @g11x4L; let _ := @g11x4R; ()) = true := by k_qdec
theorem g11x4e : @g11x4L = @g11x4R := PySem.W.Fast.te14055825670451107319.trans (Eq.trans (show @PySem.W.Fast.tw14055825670451107319 = @PySem.W.Fast.tw8842511495963039046 by kernel_rfl) PySem.W.Fast.te8842511495963039046.symm)
theorem g11x4 (w : World) : g11x4L (led w.params) w = g11x4R (led w.params) w := congrFun (congrFun g11x4e _) w
theorem g11x4s (w : World) (os : OsState) : segGo treeTable pw w 11 ann0 1 170 (S28 (led w.params) w os).abs (g11x0th (led w.params) w os) = some ((S29 (led w.params) w os).abs, (g11x0th (led w.params) w os)) := segGo_of (show g11x4L (led w.params) w os (rK (g11x0raw (led w.params) w os)) (rH (g11x0raw (led w.params) w os)) (rG (g11x0raw (led w.params) w os)) (rL (g11x0raw (led w.params) w os)) (rC (g11x0raw (led w.params) w os)) (rP (g11x0raw (led w.params) w os)) (rT (g11x0raw (led w.params) w os)) (frAt (g11x0raw (led w.params) w os) 1) (frAt (g11x0raw (led w.params) w os) 2) = g11x4R (led w.params) w os (rK (g11x0raw (led w.params) w os)) (rH (g11x0raw (led w.params) w os)) (rG (g11x0raw (led w.params) w os)) (rL (g11x0raw (led w.params) w os)) (rC (g11x0raw (led w.params) w os)) (rP (g11x0raw (led w.params) w os)) (rT (g11x0raw (led w.params) w os)) (frAt (g11x0raw (led w.params) w os) 1) (frAt (g11x0raw (led w.params) w os) 2) by rw [g11x4])
def o97v6 (b : Bool) (P : Params) : Obj := ⟨(.type "list"), none, (.seq ⟨[(.int 917536 381), (.int 917537 382), (.int 917538 383), (.int 917539 384), (.int 917540 385), (.int 917541 386), (.int 917542 387), (.int 917543 388), (.int 917544 389), (.int 917545 390), (.int 917546 391), (.int 917547 392), (.int 917548 393), (.int 917549 394), (.int 917550 395), (.int 917551 396), (.int 917552 397), (.int 917553 398), (.int 917554 399), (.int 917555 400), (.int 917556 401), (.int 917557 402), (.int 917558 403), (.int 917559 404), (.int 917560 405), (.int 917561 406), (.int 917562 407), (.int 917563 408), (.int 917564 409), (.int 917565 410), (.int 917566 411), (.int 917567 412), (.int 917568 413), (.int 917569 414), (.int 917570 415), (.int 917571 416), (.int 917572 417), (.int 917573 418), (.int 917574 419), (.int 917575 420), (.int 917576 421), (.int 917577 422), (.int 917578 423), (.int 917579 424), (.int 917580 425), (.int 917581 426), (.int 917582 427), (.int 917583 428), (.int 917584 429), (.int 917585 430)]⟩ 52), ⟨[]⟩⟩
def o98v6 (b : Bool) (P : Params) : Obj := ⟨(.type "range_iterator"), none, (.fields ⟨[(.int 917586 0), (.int 46 0), (.int 1 0)]⟩), ⟨[]⟩⟩
def S30 (b : Bool) (v : World) (os : OsState) : SharedT := ⟨TH11r1 b v.params (o97v6 b v.params) (o98v6 b v.params), 99, life0, ⟨[]⟩, drawn0, 431, os⟩
def g11x5L (b : Bool) (v : World) (os : OsState) (k : Result → Sem Fin) (h : Option Value) (g : Bool) (l : List Value) (cd : Code) (p₀ : Pos) (kept : List Value) (f1 f2 : Frame) := segGoT treeTable pw v 11 ann0 1 170 (S29 b v os) ⟨denote treeTable (.builtin "list.extend.loop" ⟨[(.ref 97), (.ref 98), .none], []⟩), (.builtin "list.extend.loop" ⟨[(.ref 97), (.ref 98), .none], []⟩), ⟨23, 24, 23, 51⟩, [.ret k h g l cd p₀ kept, f1, f2]⟩
def g11x5R (b : Bool) (v : World) (os : OsState) (k : Result → Sem Fin) (h : Option Value) (g : Bool) (l : List Value) (cd : Code) (p₀ : Pos) (kept : List Value) (f1 f2 : Frame) : Option (SharedT × Thread) := some (S30 b v os, ⟨denote treeTable (.builtin "list.extend.loop" ⟨[(.ref 97), (.ref 98), .none], []⟩), (.builtin "list.extend.loop" ⟨[(.ref 97), (.ref 98), .none], []⟩), ⟨23, 24, 23, 51⟩, [.ret k h g l cd p₀ kept, f1, f2]⟩)
theorem g11x5e_a : (fun (_ : Unit → Unit) => true) (fun _ => let _ := @g11x5L; let _ := @g11x5R; ()) = true := by k_qdec
theorem g11x5e : @g11x5L = @g11x5R := PySem.W.Fast.te16880131896274745822.trans (Eq.trans (show @PySem.W.Fast.tw16880131896274745822 = @PySem.W.Fast.tw10291914093953600622 by kernel_rfl) PySem.W.Fast.te10291914093953600622.symm)
theorem g11x5 (w : World) : g11x5L (led w.params) w = g11x5R (led w.params) w := congrFun (congrFun g11x5e _) w
theorem g11x5s (w : World) (os : OsState) : segGo treeTable pw w 11 ann0 1 170 (S29 (led w.params) w os).abs (g11x0th (led w.params) w os) = some ((S30 (led w.params) w os).abs, (g11x0th (led w.params) w os)) := segGo_of (show g11x5L (led w.params) w os (rK (g11x0raw (led w.params) w os)) (rH (g11x0raw (led w.params) w os)) (rG (g11x0raw (led w.params) w os)) (rL (g11x0raw (led w.params) w os)) (rC (g11x0raw (led w.params) w os)) (rP (g11x0raw (led w.params) w os)) (rT (g11x0raw (led w.params) w os)) (frAt (g11x0raw (led w.params) w os) 1) (frAt (g11x0raw (led w.params) w os) 2) = g11x5R (led w.params) w os (rK (g11x0raw (led w.params) w os)) (rH (g11x0raw (led w.params) w os)) (rG (g11x0raw (led w.params) w os)) (rL (g11x0raw (led w.params) w os)) (rC (g11x0raw (led w.params) w os)) (rP (g11x0raw (led w.params) w os)) (rT (g11x0raw (led w.params) w os)) (frAt (g11x0raw (led w.params) w os) 1) (frAt (g11x0raw (led w.params) w os) 2) by rw [g11x5])
def o97v7 (b : Bool) (P : Params) : Obj := ⟨(.type "list"), none, (.seq ⟨[(.int 917536 381), (.int 917537 382), (.int 917538 383), (.int 917539 384), (.int 917540 385), (.int 917541 386), (.int 917542 387), (.int 917543 388), (.int 917544 389), (.int 917545 390), (.int 917546 391), (.int 917547 392), (.int 917548 393), (.int 917549 394), (.int 917550 395), (.int 917551 396), (.int 917552 397), (.int 917553 398), (.int 917554 399), (.int 917555 400), (.int 917556 401), (.int 917557 402), (.int 917558 403), (.int 917559 404), (.int 917560 405), (.int 917561 406), (.int 917562 407), (.int 917563 408), (.int 917564 409), (.int 917565 410), (.int 917566 411), (.int 917567 412), (.int 917568 413), (.int 917569 414), (.int 917570 415), (.int 917571 416), (.int 917572 417), (.int 917573 418), (.int 917574 419), (.int 917575 420), (.int 917576 421), (.int 917577 422), (.int 917578 423), (.int 917579 424), (.int 917580 425), (.int 917581 426), (.int 917582 427), (.int 917583 428), (.int 917584 429), (.int 917585 430), (.int 917586 431), (.int 917587 432), (.int 917588 433), (.int 917589 434), (.int 917590 435), (.int 917591 436), (.int 917592 437), (.int 917593 438), (.int 917594 439), (.int 917595 440)]⟩ 62), ⟨[]⟩⟩
def o98v7 (b : Bool) (P : Params) : Obj := ⟨(.type "range_iterator"), none, (.fields ⟨[(.int 917596 0), (.int 36 0), (.int 1 0)]⟩), ⟨[]⟩⟩
def S31 (b : Bool) (v : World) (os : OsState) : SharedT := ⟨TH11r1 b v.params (o97v7 b v.params) (o98v7 b v.params), 99, life0, ⟨[]⟩, drawn0, 441, os⟩
def g11x6L (b : Bool) (v : World) (os : OsState) (k : Result → Sem Fin) (h : Option Value) (g : Bool) (l : List Value) (cd : Code) (p₀ : Pos) (kept : List Value) (f1 f2 : Frame) := segGoT treeTable pw v 11 ann0 1 170 (S30 b v os) ⟨denote treeTable (.builtin "list.extend.loop" ⟨[(.ref 97), (.ref 98), .none], []⟩), (.builtin "list.extend.loop" ⟨[(.ref 97), (.ref 98), .none], []⟩), ⟨23, 24, 23, 51⟩, [.ret k h g l cd p₀ kept, f1, f2]⟩
def g11x6R (b : Bool) (v : World) (os : OsState) (k : Result → Sem Fin) (h : Option Value) (g : Bool) (l : List Value) (cd : Code) (p₀ : Pos) (kept : List Value) (f1 f2 : Frame) : Option (SharedT × Thread) := some (S31 b v os, ⟨denote treeTable (.builtin "list.extend.loop" ⟨[(.ref 97), (.ref 98), .none], []⟩), (.builtin "list.extend.loop" ⟨[(.ref 97), (.ref 98), .none], []⟩), ⟨23, 24, 23, 51⟩, [.ret k h g l cd p₀ kept, f1, f2]⟩)
theorem g11x6e_a : (fun (_ : Unit → Unit) => true) (fun _ => let _ := @g11x6L; let _ := @g11x6R; ()) = true := by k_qdec
theorem g11x6e : @g11x6L = @g11x6R := PySem.W.Fast.te8855850001574226848.trans (Eq.trans (show @PySem.W.Fast.tw8855850001574226848 = @PySem.W.Fast.tw11128499914610314853 by kernel_rfl) PySem.W.Fast.te11128499914610314853.symm)
theorem g11x6 (w : World) : g11x6L (led w.params) w = g11x6R (led w.params) w := congrFun (congrFun g11x6e _) w
theorem g11x6s (w : World) (os : OsState) : segGo treeTable pw w 11 ann0 1 170 (S30 (led w.params) w os).abs (g11x0th (led w.params) w os) = some ((S31 (led w.params) w os).abs, (g11x0th (led w.params) w os)) := segGo_of (show g11x6L (led w.params) w os (rK (g11x0raw (led w.params) w os)) (rH (g11x0raw (led w.params) w os)) (rG (g11x0raw (led w.params) w os)) (rL (g11x0raw (led w.params) w os)) (rC (g11x0raw (led w.params) w os)) (rP (g11x0raw (led w.params) w os)) (rT (g11x0raw (led w.params) w os)) (frAt (g11x0raw (led w.params) w os) 1) (frAt (g11x0raw (led w.params) w os) 2) = g11x6R (led w.params) w os (rK (g11x0raw (led w.params) w os)) (rH (g11x0raw (led w.params) w os)) (rG (g11x0raw (led w.params) w os)) (rL (g11x0raw (led w.params) w os)) (rC (g11x0raw (led w.params) w os)) (rP (g11x0raw (led w.params) w os)) (rT (g11x0raw (led w.params) w os)) (frAt (g11x0raw (led w.params) w os) 1) (frAt (g11x0raw (led w.params) w os) 2) by rw [g11x6])
def o97v8 (b : Bool) (P : Params) : Obj := ⟨(.type "list"), none, (.seq ⟨[(.int 917536 381), (.int 917537 382), (.int 917538 383), (.int 917539 384), (.int 917540 385), (.int 917541 386), (.int 917542 387), (.int 917543 388), (.int 917544 389), (.int 917545 390), (.int 917546 391), (.int 917547 392), (.int 917548 393), (.int 917549 394), (.int 917550 395), (.int 917551 396), (.int 917552 397), (.int 917553 398), (.int 917554 399), (.int 917555 400), (.int 917556 401), (.int 917557 402), (.int 917558 403), (.int 917559 404), (.int 917560 405), (.int 917561 406), (.int 917562 407), (.int 917563 408), (.int 917564 409), (.int 917565 410), (.int 917566 411), (.int 917567 412), (.int 917568 413), (.int 917569 414), (.int 917570 415), (.int 917571 416), (.int 917572 417), (.int 917573 418), (.int 917574 419), (.int 917575 420), (.int 917576 421), (.int 917577 422), (.int 917578 423), (.int 917579 424), (.int 917580 425), (.int 917581 426), (.int 917582 427), (.int 917583 428), (.int 917584 429), (.int 917585 430), (.int 917586 431), (.int 917587 432), (.int 917588 433), (.int 917589 434), (.int 917590 435), (.int 917591 436), (.int 917592 437), (.int 917593 438), (.int 917594 439), (.int 917595 440), (.int 917596 441), (.int 917597 442), (.int 917598 443), (.int 917599 444), (.int 917600 445), (.int 917601 446), (.int 917602 447), (.int 917603 448), (.int 917604 449), (.int 917605 450)]⟩ 72), ⟨[]⟩⟩
def o98v8 (b : Bool) (P : Params) : Obj := ⟨(.type "range_iterator"), none, (.fields ⟨[(.int 917606 0), (.int 26 0), (.int 1 0)]⟩), ⟨[]⟩⟩
def S32 (b : Bool) (v : World) (os : OsState) : SharedT := ⟨TH11r1 b v.params (o97v8 b v.params) (o98v8 b v.params), 99, life0, ⟨[]⟩, drawn0, 451, os⟩
def g11x7L (b : Bool) (v : World) (os : OsState) (k : Result → Sem Fin) (h : Option Value) (g : Bool) (l : List Value) (cd : Code) (p₀ : Pos) (kept : List Value) (f1 f2 : Frame) := segGoT treeTable pw v 11 ann0 1 170 (S31 b v os) ⟨denote treeTable (.builtin "list.extend.loop" ⟨[(.ref 97), (.ref 98), .none], []⟩), (.builtin "list.extend.loop" ⟨[(.ref 97), (.ref 98), .none], []⟩), ⟨23, 24, 23, 51⟩, [.ret k h g l cd p₀ kept, f1, f2]⟩
def g11x7R (b : Bool) (v : World) (os : OsState) (k : Result → Sem Fin) (h : Option Value) (g : Bool) (l : List Value) (cd : Code) (p₀ : Pos) (kept : List Value) (f1 f2 : Frame) : Option (SharedT × Thread) := some (S32 b v os, ⟨denote treeTable (.builtin "list.extend.loop" ⟨[(.ref 97), (.ref 98), .none], []⟩), (.builtin "list.extend.loop" ⟨[(.ref 97), (.ref 98), .none], []⟩), ⟨23, 24, 23, 51⟩, [.ret k h g l cd p₀ kept, f1, f2]⟩)
theorem g11x7e_a : (fun (_ : Unit → Unit) => true) (fun _ => let _ := @g11x7L; let _ := @g11x7R; ()) = true := by k_qdec
theorem g11x7e : @g11x7L = @g11x7R := PySem.W.Fast.te17337286504084185430.trans (Eq.trans (show @PySem.W.Fast.tw17337286504084185430 = @PySem.W.Fast.tw14291598653107500289 by kernel_rfl) PySem.W.Fast.te14291598653107500289.symm)
theorem g11x7 (w : World) : g11x7L (led w.params) w = g11x7R (led w.params) w := congrFun (congrFun g11x7e _) w
theorem g11x7s (w : World) (os : OsState) : segGo treeTable pw w 11 ann0 1 170 (S31 (led w.params) w os).abs (g11x0th (led w.params) w os) = some ((S32 (led w.params) w os).abs, (g11x0th (led w.params) w os)) := segGo_of (show g11x7L (led w.params) w os (rK (g11x0raw (led w.params) w os)) (rH (g11x0raw (led w.params) w os)) (rG (g11x0raw (led w.params) w os)) (rL (g11x0raw (led w.params) w os)) (rC (g11x0raw (led w.params) w os)) (rP (g11x0raw (led w.params) w os)) (rT (g11x0raw (led w.params) w os)) (frAt (g11x0raw (led w.params) w os) 1) (frAt (g11x0raw (led w.params) w os) 2) = g11x7R (led w.params) w os (rK (g11x0raw (led w.params) w os)) (rH (g11x0raw (led w.params) w os)) (rG (g11x0raw (led w.params) w os)) (rL (g11x0raw (led w.params) w os)) (rC (g11x0raw (led w.params) w os)) (rP (g11x0raw (led w.params) w os)) (rT (g11x0raw (led w.params) w os)) (frAt (g11x0raw (led w.params) w os) 1) (frAt (g11x0raw (led w.params) w os) 2) by rw [g11x7])
def o97v9 (b : Bool) (P : Params) : Obj := ⟨(.type "list"), none, (.seq ⟨[(.int 917536 381), (.int 917537 382), (.int 917538 383), (.int 917539 384), (.int 917540 385), (.int 917541 386), (.int 917542 387), (.int 917543 388), (.int 917544 389), (.int 917545 390), (.int 917546 391), (.int 917547 392), (.int 917548 393), (.int 917549 394), (.int 917550 395), (.int 917551 396), (.int 917552 397), (.int 917553 398), (.int 917554 399), (.int 917555 400), (.int 917556 401), (.int 917557 402), (.int 917558 403), (.int 917559 404), (.int 917560 405), (.int 917561 406), (.int 917562 407), (.int 917563 408), (.int 917564 409), (.int 917565 410), (.int 917566 411), (.int 917567 412), (.int 917568 413), (.int 917569 414), (.int 917570 415), (.int 917571 416), (.int 917572 417), (.int 917573 418), (.int 917574 419), (.int 917575 420), (.int 917576 421), (.int 917577 422), (.int 917578 423), (.int 917579 424), (.int 917580 425), (.int 917581 426), (.int 917582 427), (.int 917583 428), (.int 917584 429), (.int 917585 430), (.int 917586 431), (.int 917587 432), (.int 917588 433), (.int 917589 434), (.int 917590 435), (.int 917591 436), (.int 917592 437), (.int 917593 438), (.int 917594 439), (.int 917595 440), (.int 917596 441), (.int 917597 442), (.int 917598 443), (.int 917599 444), (.int 917600 445), (.int 917601 446), (.int 917602 447), (.int 917603 448), (.int 917604 449), (.int 917605 450), (.int 917606 451), (.int 917607 452), (.int 917608 453), (.int 917609 454), (.int 917610 455), (.int 917611 456), (.int 917612 457), (.int 917613 458), (.int 917614 459), (.int 917615 460)]⟩ 82), ⟨[]⟩⟩
def o98v9 (b : Bool) (P : Params) : Obj := ⟨(.type "range_iterator"), none, (.fields ⟨[(.int 917616 0), (.int 16 0), (.int 1 0)]⟩), ⟨[]⟩⟩
def S33 (b : Bool) (v : World) (os : OsState) : SharedT := ⟨TH11r1 b v.params (o97v9 b v.params) (o98v9 b v.params), 99, life0, ⟨[]⟩, drawn0, 461, os⟩
def g11x8L (b : Bool) (v : World) (os : OsState) (k : Result → Sem Fin) (h : Option Value) (g : Bool) (l : List Value) (cd : Code) (p₀ : Pos) (kept : List Value) (f1 f2 : Frame) := segGoT treeTable pw v 11 ann0 1 170 (S32 b v os) ⟨denote treeTable (.builtin "list.extend.loop" ⟨[(.ref 97), (.ref 98), .none], []⟩), (.builtin "list.extend.loop" ⟨[(.ref 97), (.ref 98), .none], []⟩), ⟨23, 24, 23, 51⟩, [.ret k h g l cd p₀ kept, f1, f2]⟩
def g11x8R (b : Bool) (v : World) (os : OsState) (k : Result → Sem Fin) (h : Option Value) (g : Bool) (l : List Value) (cd : Code) (p₀ : Pos) (kept : List Value) (f1 f2 : Frame) : Option (SharedT × Thread) := some (S33 b v os, ⟨denote treeTable (.builtin "list.extend.loop" ⟨[(.ref 97), (.ref 98), .none], []⟩), (.builtin "list.extend.loop" ⟨[(.ref 97), (.ref 98), .none], []⟩), ⟨23, 24, 23, 51⟩, [.ret k h g l cd p₀ kept, f1, f2]⟩)
theorem g11x8e_a : (fun (_ : Unit → Unit) => true) (fun _ => let _ := @g11x8L; let _ := @g11x8R; ()) = true := by k_qdec
theorem g11x8e : @g11x8L = @g11x8R := PySem.W.Fast.te1096065671716727981.trans (Eq.trans (show @PySem.W.Fast.tw1096065671716727981 = @PySem.W.Fast.tw12324955013301670267 by kernel_rfl) PySem.W.Fast.te12324955013301670267.symm)
theorem g11x8 (w : World) : g11x8L (led w.params) w = g11x8R (led w.params) w := congrFun (congrFun g11x8e _) w
theorem g11x8s (w : World) (os : OsState) : segGo treeTable pw w 11 ann0 1 170 (S32 (led w.params) w os).abs (g11x0th (led w.params) w os) = some ((S33 (led w.params) w os).abs, (g11x0th (led w.params) w os)) := segGo_of (show g11x8L (led w.params) w os (rK (g11x0raw (led w.params) w os)) (rH (g11x0raw (led w.params) w os)) (rG (g11x0raw (led w.params) w os)) (rL (g11x0raw (led w.params) w os)) (rC (g11x0raw (led w.params) w os)) (rP (g11x0raw (led w.params) w os)) (rT (g11x0raw (led w.params) w os)) (frAt (g11x0raw (led w.params) w os) 1) (frAt (g11x0raw (led w.params) w os) 2) = g11x8R (led w.params) w os (rK (g11x0raw (led w.params) w os)) (rH (g11x0raw (led w.params) w os)) (rG (g11x0raw (led w.params) w os)) (rL (g11x0raw (led w.params) w os)) (rC (g11x0raw (led w.params) w os)) (rP (g11x0raw (led w.params) w os)) (rT (g11x0raw (led w.params) w os)) (frAt (g11x0raw (led w.params) w os) 1) (frAt (g11x0raw (led w.params) w os) 2) by rw [g11x8])
def o97v10 (b : Bool) (P : Params) : Obj := ⟨(.type "list"), none, (.seq ⟨[(.int 917536 381), (.int 917537 382), (.int 917538 383), (.int 917539 384), (.int 917540 385), (.int 917541 386), (.int 917542 387), (.int 917543 388), (.int 917544 389), (.int 917545 390), (.int 917546 391), (.int 917547 392), (.int 917548 393), (.int 917549 394), (.int 917550 395), (.int 917551 396), (.int 917552 397), (.int 917553 398), (.int 917554 399), (.int 917555 400), (.int 917556 401), (.int 917557 402), (.int 917558 403), (.int 917559 404), (.int 917560 405), (.int 917561 406), (.int 917562 407), (.int 917563 408), (.int 917564 409), (.int 917565 410), (.int 917566 411), (.int 917567 412), (.int 917568 413), (.int 917569 414), (.int 917570 415), (.int 917571 416), (.int 917572 417), (.int 917573 418), (.int 917574 419), (.int 917575 420), (.int 917576 421), (.int 917577 422), (.int 917578 423), (.int 917579 424), (.int 917580 425), (.int 917581 426), (.int 917582 427), (.int 917583 428), (.int 917584 429), (.int 917585 430), (.int 917586 431), (.int 917587 432), (.int 917588 433), (.int 917589 434), (.int 917590 435), (.int 917591 436), (.int 917592 437), (.int 917593 438), (.int 917594 439), (.int 917595 440), (.int 917596 441), (.int 917597 442), (.int 917598 443), (.int 917599 444), (.int 917600 445), (.int 917601 446), (.int 917602 447), (.int 917603 448), (.int 917604 449), (.int 917605 450), (.int 917606 451), (.int 917607 452), (.int 917608 453), (.int 917609 454), (.int 917610 455), (.int 917611 456), (.int 917612 457), (.int 917613 458), (.int 917614 459), (.int 917615 460), (.int 917616 461), (.int 917617 462), (.int 917618 463), (.int 917619 464), (.int 917620 465), (.int 917621 466), (.int 917622 467), (.int 917623 468), (.int 917624 469), (.int 917625 470)]⟩ 92), ⟨[]⟩⟩
def o98v10 (b : Bool) (P : Params) : Obj := ⟨(.type "range_iterator"), none, (.fields ⟨[(.int 917626 0), (.int 6 0), (.int 1 0)]⟩), ⟨[]⟩⟩
def S34 (b : Bool) (v : World) (os : OsState) : SharedT := ⟨TH11r1 b v.params (o97v10 b v.params) (o98v10 b v.params), 99, life0, ⟨[]⟩, drawn0, 471, os⟩
def g11x9L (b : Bool) (v : World) (os : OsState) (k : Result → Sem Fin) (h : Option Value) (g : Bool) (l : List Value) (cd : Code) (p₀ : Pos) (kept : List Value) (f1 f2 : Frame) := segGoT treeTable pw v 11 ann0 1 170 (S33 b v os) ⟨denote treeTable (.builtin "list.extend.loop" ⟨[(.ref 97), (.ref 98), .none], []⟩), (.builtin "list.extend.loop" ⟨[(.ref 97), (.ref 98), .none], []⟩), ⟨23, 24, 23, 51⟩, [.ret k h g l cd p₀ kept, f1, f2]⟩
def g11x9R (b : Bool) (v : World) (os : OsState) (k : Result → Sem Fin) (h : Option Value) (g : Bool) (l : List Value) (cd : Code) (p₀ : Pos) (kept : List Value) (f1 f2 : Frame) : Option (SharedT × Thread) := some (S34 b v os, ⟨denote treeTable (.builtin "list.extend.loop" ⟨[(.ref 97), (.ref 98), .none], []⟩), (.builtin "list.extend.loop" ⟨[(.ref 97), (.ref 98), .none], []⟩), ⟨23, 24, 23, 51⟩, [.ret k h g l cd p₀ kept, f1, f2]⟩)
theorem g11x9e_a : (fun (_ : Unit → Unit) => true) (fun _ => let _ := @g11x9L; let _ := @g11x9R; ()) = true := by k_qdec
theorem g11x9e : @g11x9L = @g11x9R := PySem.W.Fast.te1795992042165807692.trans (Eq.trans (show @PySem.W.Fast.tw1795992042165807692 = @PySem.W.Fast.tw16588550340119019513 by kernel_rfl) PySem.W.Fast.te16588550340119019513.symm)
theorem g11x9 (w : World) : g11x9L (led w.params) w = g11x9R (led w.params) w := congrFun (congrFun g11x9e _) w
theorem g11x9s (w : World) (os : OsState) : segGo treeTable pw w 11 ann0 1 170 (S33 (led w.params) w os).abs (g11x0th (led w.params) w os) = some ((S34 (led w.params) w os).abs, (g11x0th (led w.params) w os)) := segGo_of (show g11x9L (led w.params) w os (rK (g11x0raw (led w.params) w os)) (rH (g11x0raw (led w.params) w os)) (rG (g11x0raw (led w.params) w os)) (rL (g11x0raw (led w.params) w os)) (rC (g11x0raw (led w.params) w os)) (rP (g11x0raw (led w.params) w os)) (rT (g11x0raw (led w.params) w os)) (frAt (g11x0raw (led w.params) w os) 1) (frAt (g11x0raw (led w.params) w os) 2) = g11x9R (led w.params) w os (rK (g11x0raw (led w.params) w os)) (rH (g11x0raw (led w.params) w os)) (rG (g11x0raw (led w.params) w os)) (rL (g11x0raw (led w.params) w os)) (rC (g11x0raw (led w.params) w os)) (rP (g11x0raw (led w.params) w os)) (rT (g11x0raw (led w.params) w os)) (frAt (g11x0raw (led w.params) w os) 1) (frAt (g11x0raw (led w.params) w os) 2) by rw [g11x9])
def o102v1 (b : Bool) (P : Params) : Obj := ⟨(.type "set"), none, (.set ⟨[]⟩ 0 (tabOf b 7 ⟨[]⟩ 0 0)), ⟨[]⟩⟩
def o103v1 (b : Bool) (P : Params) : Obj := ⟨(.type "list_iterator"), none, (.fields ⟨[(.ref 101), (.int 0 0)]⟩), ⟨[]⟩⟩
def TH11r2 (b : Bool) (P : Params) (x0 x1 : Obj) : BT := (N (bo boot_o_0 b P) (N (bo boot_o_1 b P) (N (o3v10 b P) (N (bo boot_o_7 b P) (N (o15v0 b P) (N (o31v0 b P) (N1 (o63v0 b P)) (N1 (o95v0 b P))) (N (o47v0 b P) (N1 (o79v0 b P)) X)) (N (o23v0 b P) (N (o39v0 b P) (N1 (o71v0 b P)) (N1 x1)) (N (o55v0 b P) (N1 (o87v0 b P)) X))) (N (o11v0 b P) (N (o19v0 b P) (N (o35v0 b P) (N1 (o67v0 b P)) (N1 (o99v0 b P))) (N (o51v0 b P) (N1 (o83v0 b P)) X)) (N (o27v0 b P) (N (o43v0 b P) (N1 (o75v0 b P)) X) (N (o59v0 b P) (N1 (o91v0 b P)) X)))) (N (bo boot_o_5 b P) (N (bo boot_o_9 b P) (N (o17v0 b P) (N (o33v0 b P) (N1 (o65v0 b P)) (N1 (o97v0 b P))) (N (o49v0 b P) (N1 (o81v0 b P)) X)) (N (o25v0 b P) (N (o41v0 b P) (N1 (o73v0 b P)) X) (N (o57v0 b P) (N1 (o89v0 b P)) X))) (N (o13v0 b P) (N (o21v0 b P) (N (o37v0 b P) (N1 (o69v0 b P)) (N1 (o101v0 b P))) (N (o53v0 b P) (N1 (o85v0 b P)) X)) (N (o29v0 b P) (N (o45v0 b P) (N1 (o77v0 b P)) X) (N (o61v0 b P) (N1 (o93v0 b P)) X))))) (N (bo boot_o_2 b P) (N (bo boot_o_4 b P) (N (bo boot_o_8 b P) (N (o16v0 b P) (N (o32v0 b P) (N1 (o64v0 b P)) (N1 (o96v0 b P))) (N (o48v0 b P) (N1 (o80v0 b P)) X)) (N (o24v0 b P) (N (o40v0 b P) (N1 (o72v0 b P)) X) (N (o56v0 b P) (N1 (o88v0 b P)) X))) (N (o12v6 b P) (N (o20v0 b P) (N (o36v0 b P) (N1 (o68v0 b P)) (N1 (o100v0 b P))) (N (o52v0 b P) (N1 (o84v0 b P)) X)) (N (o28v0 b P) (N (o44v0 b P) (N1 (o76v0 b P)) X) (N (o60v0 b P) (N1 (o92v0 b P)) X)))) (N (bo boot_o_6 b P) (N (bo boot_o_10 b P) (N (o18v0 b P) (N (o34v0 b P) (N1 (o66v0 b P)) (N1 (o98v0 b P))) (N (o50v0 b P) (N1 (o82v0 b P)) X)) (N (o26v0 b P) (N (o42v0 b P) (N1 (o74v0 b P)) X) (N (o58v0 b P) (N1 (o90v0 b P)) X))) (N (o14v0 b P) (N (o22v0 b P) (N (o38v0 b P) (N1 (o70v0 b P)) (N1 x0)) (N (o54v0 b P) (N1 (o86v0 b P)) X)) (N (o30v0 b P) (N (o46v0 b P) (N1 (o78v0 b P)) X) (N (o62v0 b P) (N1 (o94v0 b P)) X))))))
def S35 (b : Bool) (v : World) (os : OsState) : SharedT := ⟨TH11r2 b v.params (o102v1 b v.params) (o103v1 b v.params), 104, life0, ⟨[]⟩, drawn0, 477, os⟩
def g11x10raw (b : Bool) (v : World) (os : OsState) : List Frame := stackOf (segGoT treeTable pw v 11 ann0 1 161 (S34 b v os) (g11x0th b v os))
def g11x10th (b : Bool) (v : World) (os : OsState) : Thread := ⟨denote treeTable (.builtin "set.update.loop" ⟨[(.ref 102), (.ref 103)], []⟩), (.builtin "set.update.loop" ⟨[(.ref 102), (.ref 103)], []⟩), ⟨23, 9, 23, 52⟩, [.ret (rK (g11x10raw b v os)) (rH (g11x10raw b v os)) (rG (g11x10raw b v os)) (rL (g11x10raw b v os)) (rC (g11x10raw b v os)) (rP (g11x10raw b v os)) (rT (g11x10raw b v os)), (frAt (g11x10raw b v os) 1), (frAt (g11x10raw b v os) 2), (frAt (g11x10raw b v os) 3)]⟩
def g11x10L (b : Bool) (v : World) (os : OsState) := segGoT treeTable pw v 11 ann0 1 161 (S34 b v os) (g11x0th b v os)
def g11x10R (b : Bool) (v : World) (os : OsState) : Option (SharedT × Thread) := some (S35 b v os, (g11x10th b v os))
def g11x10Lff (w : World) := g11x10L true (W00 w)
def g11x10Rff (w : World) := g11x10R true (W00 w)
theorem g11x10ff_a : (fun (_ : Unit → Unit) => true) (fun _ => let _ := @g11x10Lff; let _ := @g11x10Rff; ()) = true := by k_qdec
theorem g11x10ff : @g11x10Lff = @g11x10Rff := PySem.W.Fast.te8568851882750707934.trans (Eq.trans (show @PySem.W.Fast.tw8568851882750707934 = @PySem.W.Fast.tw13662216230989575847 by kernel_rfl) PySem.W.Fast.te13662216230989575847.symm)
def g11x10Lft (w : World) := g11x10L true (W01 w)
def g11x10Rft (w : World) := g11x10R true (W01 w)
theorem g11x10ft_a : (fun (_ : Unit → Unit) => true) (fun _ => let _ := @g11x10Lft; let _ := @g11x10Rft; ()) = true := by k_qdec
theorem g11x10ft : @g11x10Lft = @g11x10Rft := PySem.W.Fast.te12824671219264200868.trans (Eq.trans (show @PySem.W.Fast.tw12824671219264200868 = @PySem.W.Fast.tw9225273023783679001 by kernel_rfl) PySem.W.Fast.te9225273023783679001.symm)
def g11x10Ltf (w : World) := g11x10L false (W10 w)
def g11x10Rtf (w : World) := g11x10R false (W10 w)
theorem g11x10tf_a : (fun (_ : Unit → Unit) => true) (fun _ => let _ := @g11x10Ltf; let _ := @g11x10Rtf; ()) = true := by k_qdec
theorem g11x10tf : @g11x10Ltf = @g11x10Rtf := PySem.W.Fast.te6524180622373172246.trans (Eq.trans (show @PySem.W.Fast.tw6524180622373172246 = @PySem.W.Fast.tw10183887590035266685 by kernel_rfl) PySem.W.Fast.te10183887590035266685.symm)
def g11x10Ltt (w : World) := g11x10L false (W11 w)
def g11x10Rtt (w : World) := g11x10R false (W11 w)
theorem g11x10tt_a : (fun (_ : Unit → Unit) => true) (fun _ => let _ := @g11x10Ltt; let _ := @g11x10Rtt; ()) = true := by k_qdec
theorem g11x10tt : @g11x10Ltt = @g11x10Rtt := PySem.W.Fast.te1042455251421849724.trans (Eq.trans (show @PySem.W.Fast.tw1042455251421849724 = @PySem.W.Fast.tw5189742280089110629 by kernel_rfl) PySem.W.Fast.te5189742280089110629.symm)
theorem g11x10 (w : World) : g11x10L (led w.params) w = g11x10R (led w.params) w := byFour (P := fun b w => g11x10L b w = g11x10R b w) (fun w => congrFun g11x10ff w) (fun w => congrFun g11x10ft w) (fun w => congrFun g11x10tf w) (fun w => congrFun g11x10tt w) w
theorem g11x10s (w : World) (os : OsState) : segGo treeTable pw w 11 ann0 1 161 (S34 (led w.params) w os).abs (g11x0th (led w.params) w os) = some ((S35 (led w.params) w os).abs, (g11x10th (led w.params) w os)) := segGo_of (congrFun (g11x10 w) os)
def o102v2 (b : Bool) (P : Params) : Obj := ⟨(.type "set"), none, (.set ⟨[E 917536 381, E 917505 375, E 917538 383, E 917539 384, E 917537 382, E 917540 385, E 917541 386, E 917542 387, E 917543 388]⟩ 10 (tabOf b 31 ⟨[0, 1, 2, 3, 4, 5, 6, 7, 8]⟩ 0 1)), ⟨[]⟩⟩
def o103v2 (b : Bool) (P : Params) : Obj := ⟨(.type "list_iterator"), none, (.fields ⟨[(.ref 101), (.int 9 0)]⟩), ⟨[]⟩⟩
def S36 (b : Bool) (v : World) (os : OsState) : SharedT := ⟨TH11r2 b v.params (o102v2 b v.params) (o103v2 b v.params), 104, life0, ⟨[]⟩, drawn0, 486, os⟩
def g11x11L (b : Bool) (v : World) (os : OsState) (k : Result → Sem Fin) (h : Option Value) (g : Bool) (l : List Value) (cd : Code) (p₀ : Pos) (kept : List Value) (f1 f2 f3 : Frame) := segGoT treeTable pw v 11 ann0 1 182 (S35 b v os) ⟨denote treeTable (.builtin "set.update.loop" ⟨[(.ref 102), (.ref 103)], []⟩), (.builtin "set.update.loop" ⟨[(.ref 102), (.ref 103)], []⟩), ⟨23, 9, 23, 52⟩, [.ret k h g l cd p₀ kept, f1, f2, f3]⟩
def g11x11R (b : Bool) (v : World) (os : OsState) (k : Result → Sem Fin) (h : Option Value) (g : Bool) (l : List Value) (cd : Code) (p₀ : Pos) (kept : List Value) (f1 f2 f3 : Frame) : Option (SharedT × Thread) := some (S36 b v os, ⟨denote treeTable (.builtin "set.update.loop" ⟨[(.ref 102), (.ref 103)], []⟩), (.builtin "set.update.loop" ⟨[(.ref 102), (.ref 103)], []⟩), ⟨23, 9, 23, 52⟩, [.ret k h g l cd p₀ kept, f1, f2, f3]⟩)
def g11x11Lff (w : World) := g11x11L true (W00 w)
def g11x11Rff (w : World) := g11x11R true (W00 w)
theorem g11x11ff_a : (fun (_ : Unit → Unit) => true) (fun _ => let _ := @g11x11Lff; let _ := @g11x11Rff; ()) = true := by k_qdec
theorem g11x11ff : @g11x11Lff = @g11x11Rff := PySem.W.Fast.te8076487377912044757.trans (Eq.trans (show @PySem.W.Fast.tw8076487377912044757 = @PySem.W.Fast.tw257062948832807016 by kernel_rfl) PySem.W.Fast.te257062948832807016.symm)
def g11x11Lft (w : World) := g11x11L true (W01 w)
def g11x11Rft (w : World) := g11x11R true (W01 w)
theorem g11x11ft_a : (fun (_ : Unit → Unit) => true) (fun _ => let _ := @g11x11Lft; let _ := @g11x11Rft; ()) = true := by k_qdec
theorem g11x11ft : @g11x11Lft = @g11x11Rft := PySem.W.Fast.te702339674271421606.trans (Eq.trans (show @PySem.W.Fast.tw702339674271421606 = @PySem.W.Fast.tw17080230235738932088 by kernel_rfl) PySem.W.Fast.te17080230235738932088.symm)
def g11x11Ltf (w : World) := g11x11L false (W10 w)
def g11x11Rtf (w : World) := g11x11R false (W10 w)
theorem g11x11tf_a : (fun (_ : Unit → Unit) => true) (fun _ => let _ := @g11x11Ltf; let _ := @g11x11Rtf; ()) = true := by k_qdec
theorem g11x11tf : @g11x11Ltf = @g11x11Rtf := PySem.W.Fast.te14049253126079680433.trans (Eq.trans (show @PySem.W.Fast.tw14049253126079680433 = @PySem.W.Fast.tw9760646777665052543 by kernel_rfl) PySem.W.Fast.te9760646777665052543.symm)
def g11x11Ltt (w : World) := g11x11L false (W11 w)
def g11x11Rtt (w : World) := g11x11R false (W11 w)
theorem g11x11tt_a : (fun (_ : Unit → Unit) => true) (fun _ => let _ := @g11x11Ltt; let _ := @g11x11Rtt; ()) = true := by k_qdec
theorem g11x11tt : @g11x11Ltt = @g11x11Rtt := PySem.W.Fast.te12070637995337953114.trans (Eq.trans (show @PySem.W.Fast.tw12070637995337953114 = @PySem.W.Fast.tw9408673466440833844 by kernel_rfl) PySem.W.Fast.te9408673466440833844.symm)
theorem g11x11 (w : World) : g11x11L (led w.params) w = g11x11R (led w.params) w := byFour (P := fun b w => g11x11L b w = g11x11R b w) (fun w => congrFun g11x11ff w) (fun w => congrFun g11x11ft w) (fun w => congrFun g11x11tf w) (fun w => congrFun g11x11tt w) w
theorem g11x11s (w : World) (os : OsState) : segGo treeTable pw w 11 ann0 1 182 (S35 (led w.params) w os).abs (g11x10th (led w.params) w os) = some ((S36 (led w.params) w os).abs, (g11x10th (led w.params) w os)) := segGo_of (show g11x11L (led w.params) w os (rK (g11x10raw (led w.params) w os)) (rH (g11x10raw (led w.params) w os)) (rG (g11x10raw (led w.params) w os)) (rL (g11x10raw (led w.params) w os)) (rC (g11x10raw (led w.params) w os)) (rP (g11x10raw (led w.params) w os)) (rT (g11x10raw (led w.params) w os)) (frAt (g11x10raw (led w.params) w os) 1) (frAt (g11x10raw (led w.params) w os) 2) (frAt (g11x10raw (led w.params) w os) 3) = g11x11R (led w.params) w os (rK (g11x10raw (led w.params) w os)) (rH (g11x10raw (led w.params) w os)) (rG (g11x10raw (led w.params) w os)) (rL (g11x10raw (led w.params) w os)) (rC (g11x10raw (led w.params) w os)) (rP (g11x10raw (led w.params) w os)) (rT (g11x10raw (led w.params) w os)) (frAt (g11x10raw (led w.params) w os) 1) (frAt (g11x10raw (led w.params) w os) 2) (frAt (g11x10raw (led w.params) w os) 3) by rw [g11x11])
def o102v3 (b : Bool) (P : Params) : Obj := ⟨(.type "set"), none, (.set ⟨[E 917536 381, E 917505 375, E 917538 383, E 917539 384, E 917537 382, E 917540 385, E 917541 386, E 917542 387, E 917543 388, E 917544 389, E 917545 390, E 917546 391, E 917547 392, E 917548 393, E 917549 394, E 917550 395, E 917551 396, E 917552 397]⟩ 19 (tabOf b 31 ⟨[0, 1, 2, 3, 4, 5, 6, 7, 8, 9, 10, 11, 12, 13, 14, 15, 16, 17]⟩ 0 1)), ⟨[]⟩⟩
def o103v3 (b : Bool) (P : Params) : Obj := ⟨(.type "list_iterator"), none, (.fields ⟨[(.ref 101), (.int 18 0)]⟩), ⟨[]⟩⟩
def S37 (b : Bool) (v : World) (os : OsState) : SharedT := ⟨TH11r2 b v.params (o102v3 b v.params) (o103v3 b v.params), 104, life0, ⟨[]⟩, drawn0, 495, os⟩
def g11x12L (b : Bool) (v : World) (os : OsState) (k : Result → Sem Fin) (h : Option Value) (g : Bool) (l : List Value) (cd : Code) (p₀ : Pos) (kept : List Value) (f1 f2 f3 : Frame) := segGoT treeTable pw v 11 ann0 1 180 (S36 b v os) ⟨denote treeTable (.builtin "set.update.loop" ⟨[(.ref 102), (.ref 103)], []⟩), (.builtin "set.update.loop" ⟨[(.ref 102), (.ref 103)], []⟩), ⟨23, 9, 23, 52⟩, [.ret k h g l cd p₀ kept, f1, f2, f3]⟩
def g11x12R (b : Bool) (v : World) (os : OsState) (k : Result → Sem Fin) (h : Option Value) (g : Bool) (l : List Value) (cd : Code) (p₀ : Pos) (kept : List Value) (f1 f2 f3 : Frame) : Option (SharedT × Thread) := some (S37 b v os, ⟨denote treeTable (.builtin "set.update.loop" ⟨[(.ref 102), (.ref 103)], []⟩), (.builtin "set.update.loop" ⟨[(.ref 102), (.ref 103)], []⟩), ⟨23, 9, 23, 52⟩, [.ret k h g l cd p₀ kept, f1, f2, f3]⟩)
def g11x12Lff (w : World) := g11x12L true (W00 w)
def g11x12Rff (w : World) := g11x12R true (W00 w)
theorem g11x12ff_a : (fun (_ : Unit → Unit) => true) (fun _ => let _ := @g11x12Lff; let _ := @g11x12Rff; ()) = true := by k_qdec
theorem g11x12ff : @g11x12Lff = @g11x12Rff := PySem.W.Fast.te6475284051487524678.trans (Eq.trans (show @PySem.W.Fast.tw6475284051487524678 = @PySem.W.Fast.tw7295344677089974531 by kernel_rfl) PySem.W.Fast.te7295344677089974531.symm)
def g11x12Lft (w : World) := g11x12L true (W01 w)
def g11x12Rft (w : World) := g11x12R true (W01 w)
theorem g11x12ft_a : (fun (_ : Unit → Unit) => true) (fun _ => let _ := @g11x12Lft; let _ := @g11x12Rft; ()) = true := by k_qdec
theorem g11x12ft : @g11x12Lft = @g11x12Rft := PySem.W.Fast.te7014834642139628709.trans (Eq.trans (show @PySem.W.Fast.tw7014834642139628709 = @PySem.W.Fast.tw1461267373806742224 by kernel_rfl) PySem.W.Fast.te1461267373806742224.symm)
def g11x12Ltf (w : World) := g11x12L false (W10 w)
def g11x12Rtf (w : World) := g11x12R false (W10 w)
theorem g11x12tf_a : (fun (_ : Unit → Unit) => true) (fun _ => let _ := @g11x12Ltf; let _ := @g11x12Rtf; ()) = true := by k_qdec
theorem g11x12tf : @g11x12Ltf = @g11x12Rtf := PySem.W.Fast.te15813715270309567232.trans (Eq.trans (show @PySem.W.Fast.tw15813715270309567232 = @PySem.W.Fast.tw7023960351177516582 by kernel_rfl) PySem.W.Fast.te7023960351177516582.symm)
def g11x12Ltt (w : World) := g11x12L false (W11 w)
def g11x12Rtt (w : World) := g11x12R false (W11 w)
theorem g11x12tt_a : (fun (_ : Unit → Unit) => true) (fun _ => let _ := @g11x12Ltt; let _ := @g11x12Rtt; ()) = true := by k_qdec
theorem g11x12tt : @g11x12Ltt = @g11x12Rtt := PySem.W.Fast.te590811854752293377.trans (Eq.trans (show @PySem.W.Fast.tw590811854752293377 = @PySem.W.Fast.tw1371953312795094778 by kernel_rfl) PySem.W.Fast.te1371953312795094778.symm)
theorem g11x12 (w : World) : g11x12L (led w.params) w = g11x12R (led w.params) w := byFour (P := fun b w => g11x12L b w = g11x12R b w) (fun w => congrFun g11x12ff w) (fun w => congrFun g11x12ft w) (fun w => congrFun g11x12tf w) (fun w => congrFun g11x12tt w) w
theorem g11x12s (w : World) (os : OsState) : segGo treeTable pw w 11 ann0 1 180 (S36 (led w.params) w os).abs (g11x10th (led w.params) w os) = some ((S37 (led w.params) w os).abs, (g11x10th (led w.params) w os)) := segGo_of (show g11x12L (led w.params) w os (rK (g11x10raw (led w.params) w os)) (rH (g11x10raw (led w.params) w os)) (rG (g11x10raw (led w.params) w os)) (rL (g11x10raw (led w.params) w os)) (rC (g11x10raw (led w.params) w os)) (rP (g11x10raw (led w.params) w os)) (rT (g11x10raw (led w.params) w os)) (frAt (g11x10raw (led w.params) w os) 1) (frAt (g11x10raw (led w.params) w os) 2) (frAt (g11x10raw (led w.params) w os) 3) = g11x12R (led w.params) w os (rK (g11x10raw (led w.params) w os)) (rH (g11x10raw (led w.params) w os)) (rG (g11x10raw (led w.params) w os)) (rL (g11x10raw (led w.params) w os)) (rC (g11x10raw (led w.params) w os)) (rP (g11x10raw (led w.params) w os)) (rT (g11x10raw (led w.params) w os)) (frAt (g11x10raw (led w.params) w os) 1) (frAt (g11x10raw (led w.params) w os) 2) (frAt (g11x10raw (led w.params) w os) 3) by rw [g11x12])
def o102v4 (b : Bool) (P : Params) : Obj := ⟨(.type "set"), none, (.set ⟨[E 917505 375, E 917536 381, E 917537 382, E 917538 383, E 917539 384, E 917540 385, E 917541 386, E 917542 387, E 917543 388, E 917544 389, E 917545 390, E 917546 391, E 917547 392, E 917548 393, E 917549 394, E 917550 395, E 917551 396, E 917552 397, E 917553 398, E 917554 399, E 917555 400, E 917556 401, E 917557 402, E 917558 403, E 917559 404, E 917560 405, E 917561 406]⟩ 29 (tabOf b 127 ⟨[1, 32, 33, 34, 35, 36, 37, 38, 39, 40, 41, 42, 43, 44, 45, 46, 47, 48, 49, 50, 51, 52, 53, 54, 55, 56, 57]⟩ 0 2)), ⟨[]⟩⟩
def o103v4 (b : Bool) (P : Params) : Obj := ⟨(.type "list_iterator"), none, (.fields ⟨[(.ref 101), (.int 27 0)]⟩), ⟨[]⟩⟩
def S38 (b : Bool) (v : World) (os : OsState) : SharedT := ⟨TH11r2 b v.params (o102v4 b v.params) (o103v4 b v.params), 104, life0, ⟨[]⟩, drawn0, 504, os⟩
def g11x13L (b : Bool) (v : World) (os : OsState) (k : Result → Sem Fin) (h : Option Value) (g : Bool) (l : List Value) (cd : Code) (p₀ : Pos) (kept : List Value) (f1 f2 f3 : Frame) := segGoT treeTable pw v 11 ann0 1 182 (S37 b v os) ⟨denote treeTable (.builtin "set.update.loop" ⟨[(.ref 102), (.ref 103)], []⟩), (.builtin "set.update.loop" ⟨[(.ref 102), (.ref 103)], []⟩), ⟨23, 9, 23, 52⟩, [.ret k h g l cd p₀ kept, f1, f2, f3]⟩
def g11x13R (b : Bool) (v : World) (os : OsState) (k : Result → Sem Fin) (h : Option Value) (g : Bool) (l : List Value) (cd : Code) (p₀ : Pos) (kept : List Value) (f1 f2 f3 : Frame) : Option (SharedT × Thread) := some (S38 b v os, ⟨denote treeTable (.builtin "set.update.loop" ⟨[(.ref 102), (.ref 103)], []⟩), (.builtin "set.update.loop" ⟨[(.ref 102), (.ref 103)], []⟩), ⟨23, 9, 23, 52⟩, [.ret k h g l cd p₀ kept, f1, f2, f3]⟩)
def g11x13Lff (w : World) := g11x13L true (W00 w)
def g11x13Rff (w : World) := g11x13R true (W00 w)
theorem g11x13ff_a : (fun (_ : Unit → Unit) => true) (fun _ => let _ := @g11x13Lff; let _ := @g11x13Rff; ()) = true := by k_qdec
theorem g11x13ff : @g11x13Lff = @g11x13Rff := PySem.W.Fast.te12496231643527086765.trans (Eq.trans (show @PySem.W.Fast.tw12496231643527086765 = @PySem.W.Fast.tw2544431520448379341 by kernel_rfl) PySem.W.Fast.te2544431520448379341.symm)
def g11x13Lft (w : World) := g11x13L true (W01 w)
def g11x13Rft (w : World) := g11x13R true (W01 w)
theorem g11x13ft_a : (fun (_ : Unit → Unit) => true) (fun _ => let _ := @g11x13Lft; let _ := @g11x13Rft; ()) = true := by k_qdec
theorem g11x13ft : @g11x13Lft = @g11x13Rft := PySem.W.Fast.te17774768950547823309.trans (Eq.trans (show @PySem.W.Fast.tw17774768950547823309 = @PySem.W.Fast.tw2957465692202752781 by kernel_rfl) PySem.W.Fast.te2957465692202752781.symm)
def g11x13Ltf (w : World) := g11x13L false (W10 w)
def g11x13Rtf (w : World) := g11x13R false (W10 w)
theorem g11x13tf_a : (fun (_ : Unit → Unit) => true) (fun _ => let _ := @g11x13Ltf; let _ := @g11x13Rtf; ()) = true := by k_qdec
theorem g11x13tf : @g11x13Ltf = @g11x13Rtf := PySem.W.Fast.te11527067371608471737.trans (Eq.trans (show @PySem.W.Fast.tw11527067371608471737 = @PySem.W.Fast.tw15442678569489283244 by kernel_rfl) PySem.W.Fast.te15442678569489283244.symm)
def g11x13Ltt (w : World) := g11x13L false (W11 w)
def g11x13Rtt (w : World) := g11x13R false (W11 w)
theorem g11x13tt_a : (fun (_ : Unit → Unit) => true) (fun _ => let _ := @g11x13Ltt; let _ := @g11x13Rtt; ()) = true := by k_qdec
theorem g11x13tt : @g11x13Ltt = @g11x13Rtt := PySem.W.Fast.te10559996485284527227.trans (Eq.trans (show @PySem.W.Fast.tw10559996485284527227 = @PySem.W.Fast.tw1691375970768800616 by kernel_rfl) PySem.W.Fast.te1691375970768800616.symm)
theorem g11x13 (w : World) : g11x13L (led w.params) w = g11x13R (led w.params) w := byFour (P := fun b w => g11x13L b w = g11x13R b w) (fun w => congrFun g11x13ff w) (fun w => congrFun g11x13ft w) (fun w => congrFun g11x13tf w) (fun w => congrFun g11x13tt w) w
theorem g11x13s (w : World) (os : OsState) : segGo treeTable pw w 11 ann0 1 182 (S37 (led w.params) w os).abs (g11x10th (led w.params) w os) = some ((S38 (led w.params) w os).abs, (g11x10th (led w.params) w os)) := segGo_of (show g11x13L (led w.params) w os (rK (g11x10raw (led w.params) w os)) (rH (g11x10raw (led w.params) w os)) (rG (g11x10raw (led w.params) w os)) (rL (g11x10raw (led w.params) w os)) (rC (g11x10raw (led w.params) w os)) (rP (g11x10raw (led w.params) w os)) (rT (g11x10raw (led w.params) w os)) (frAt (g11x10raw (led w.params) w os) 1) (frAt (g11x10raw (led w.params) w os) 2) (frAt (g11x10raw (led w.params) w os) 3) = g11x13R (led w.params) w os (rK (g11x10raw (led w.params) w os)) (rH (g11x10raw (led w.params) w os)) (rG (g11x10raw (led w.params) w os)) (rL (g11x10raw (led w.params) w os)) (rC (g11x10raw (led w.params) w os)) (rP (g11x10raw (led w.params) w os)) (rT (g11x10raw (led w.params) w os)) (frAt (g11x10raw (led w.params) w os) 1) (frAt (g11x10raw (led w.params) w os) 2) (frAt (g11x10raw (led w.params) w os) 3) by rw [g11x13])
def o102v5 (b : Bool) (P : Params) : Obj := ⟨(.type "set"), none, (.set ⟨[E 917505 375, E 917536 381, E 917537 382, E 917538 383, E 917539 384, E 917540 385, E 917541 386, E 917542 387, E 917543 388, E 917544 389, E 917545 390, E 917546 391, E 917547 392, E 917548 393, E 917549 394, E 917550 395, E 917551 396, E 917552 397, E 917553 398, E 917554 399, E 917555 400, E 917556 401, E 917557 402, E 917558 403, E 917559 404, E 917560 405, E 917561 406, E 917562 407, E 917563 408, E 917564 409, E 917565 410, E 917566 411, E 917567 412, E 917568 413, E 917569 414, E 917570 415]⟩ 38 (tabOf b 127 ⟨[1, 32, 33, 34, 35, 36, 37, 38, 39, 40, 41, 42, 43, 44, 45, 46, 47, 48, 49, 50, 51, 52, 53, 54, 55, 56, 57, 58, 59, 60, 61, 62, 63, 64, 65, 66]⟩ 0 2)), ⟨[]⟩⟩
def o103v5 (b : Bool) (P : Params) : Obj := ⟨(.type "list_iterator"), none, (.fields ⟨[(.ref 101), (.int 36 0)]⟩), ⟨[]⟩⟩
def S39 (b : Bool) (v : World) (os : OsState) : SharedT := ⟨TH11r2 b v.params (o102v5 b v.params) (o103v5 b v.params), 104, life0, ⟨[]⟩, drawn0, 513, os⟩
def g11x14L (b : Bool) (v : World) (os : OsState) (k : Result → Sem Fin) (h : Option Value) (g : Bool) (l : List Value) (cd : Code) (p₀ : Pos) (kept : List Value) (f1 f2 f3 : Frame) := segGoT treeTable pw v 11 ann0 1 180 (S38 b v os) ⟨denote treeTable (.builtin "set.update.loop" ⟨[(.ref 102), (.ref 103)], []⟩), (.builtin "set.update.loop" ⟨[(.ref 102), (.ref 103)], []⟩), ⟨23, 9, 23, 52⟩, [.ret k h g l cd p₀ kept, f1, f2, f3]⟩
def g11x14R (b : Bool) (v : World) (os : OsState) (k : Result → Sem Fin) (h : Option Value) (g : Bool) (l : List Value) (cd : Code) (p₀ : Pos) (kept : List Value) (f1 f2 f3 : Frame) : Option (SharedT × Thread) := some (S39 b v os, ⟨denote treeTable (.builtin "set.update.loop" ⟨[(.ref 102), (.ref 103)], []⟩), (.builtin "set.update.loop" ⟨[(.ref 102), (.ref 103)], []⟩), ⟨23, 9, 23, 52⟩, [.ret k h g l cd p₀ kept, f1, f2, f3]⟩)
def g11x14Lff (w : World) := g11x14L true (W00 w)
def g11x14Rff (w : World) := g11x14R true (W00 w)
theorem g11x14ff_a : (fun (_ : Unit → Unit) => true) (fun _ => let _ := @g11x14Lff; let _ := @g11x14Rff; ()) = true := by k_qdec
theorem g11x14ff : @g11x14Lff = @g11x14Rff := PySem.W.Fast.te14642157017656228954.trans (Eq.trans (show @PySem.W.Fast.tw14642157017656228954 = @PySem.W.Fast.tw4431992514325384884 by kernel_rfl) PySem.W.Fast.te4431992514325384884.symm)
def g11x14Lft (w : World) := g11x14L true (W01 w)
def g11x14Rft (w : World) := g11x14R true (W01 w)
theorem g11x14ft_a : (fun (_ : Unit → Unit) => true) (fun _ => let _ := @g11x14Lft; let _ := @g11x14Rft; ()) = true := by k_qdec
theorem g11x14ft : @g11x14Lft = @g11x14Rft := PySem.W.Fast.te1925314411455965635.trans (Eq.trans (show @PySem.W.Fast.tw1925314411455965635 = @PySem.W.Fast.tw782240085568937637 by kernel_rfl) PySem.W.Fast.te782240085568937637.symm)
def g11x14Ltf (w : World) := g11x14L false (W10 w)
def g11x14Rtf (w : World) := g11x14R false (W10 w)
theorem g11x14tf_a : (fun (_ : Unit → Unit) => true) (fun _ => let _ := @g11x14Ltf; let _ := @g11x14Rtf; ()) = true := by k_qdec
theorem g11x14tf : @g11x14Ltf = @g11x14Rtf := PySem.W.Fast.te6066595404206324662.trans (Eq.trans (show @PySem.W.Fast.tw6066595404206324662 = @PySem.W.Fast.tw5180958407345926580 by kernel_rfl) PySem.W.Fast.te5180958407345926580.symm)
def g11x14Ltt (w : World) := g11x14L false (W11 w)
def g11x14Rtt (w : World) := g11x14R false (W11 w)
theorem g11x14tt_a : (fun (_ : Unit → Unit) => true) (fun _ => let _ := @g11x14Ltt; let _ := @g11x14Rtt; ()) = true := by k_qdec
theorem g11x14tt : @g11x14Ltt = @g11x14Rtt := PySem.W.Fast.te13032464213995991489.trans (Eq.trans (show @PySem.W.Fast.tw13032464213995991489 = @PySem.W.Fast.tw9801913469142594375 by kernel_rfl) PySem.W.Fast.te9801913469142594375.symm)
theorem g11x14 (w : World) : g11x14L (led w.params) w = g11x14R (led w.params) w := byFour (P := fun b w => g11x14L b w = g11x14R b w) (fun w => congrFun g11x14ff w) (fun w => congrFun g11x14ft w) (fun w => congrFun g11x14tf w) (fun w => congrFun g11x14tt w) w
theorem g11x14s (w : World) (os : OsState) : segGo treeTable pw w 11 ann0 1 180 (S38 (led w.params) w os).abs (g11x10th (led w.params) w os) = some ((S39 (led w.params) w os).abs, (g11x10th (led w.params) w os)) := segGo_of (show g11x14L (led w.params) w os (rK (g11x10raw (led w.params) w os)) (rH (g11x10raw (led w.params) w os)) (rG (g11x10raw (led w.params) w os)) (rL (g11x10raw (led w.params) w os)) (rC (g11x10raw (led w.params) w os)) (rP (g11x10raw (led w.params) w os)) (rT (g11x10raw (led w.params) w os)) (frAt (g11x10raw (led w.params) w os) 1) (frAt (g11x10raw (led w.params) w os) 2) (frAt (g11x10raw (led w.params) w os) 3) = g11x14R (led w.params) w os (rK (g11x10raw (led w.params) w os)) (rH (g11x10raw (led w.params) w os)) (rG (g11x10raw (led w.params) w os)) (rL (g11x10raw (led w.params) w os)) (rC (g11x10raw (led w.params) w os)) (rP (g11x10raw (led w.params) w os)) (rT (g11x10raw (led w.params) w os)) (frAt (g11x10raw (led w.params) w os) 1) (frAt (g11x10raw (led w.params) w os) 2) (frAt (g11x10raw (led w.params) w os) 3) by rw [g11x14])
def o102v6 (b : Bool) (P : Params) : Obj := ⟨(.type "set"), none, (.set ⟨[E 917505 375, E 917536 381, E 917537 382, E 917538 383, E 917539 384, E 917540 385, E 917541 386, E 917542 387, E 917543 388, E 917544 389, E 917545 390, E 917546 391, E 917547 392, E 917548 393, E 917549 394, E 917550 395, E 917551 396, E 917552 397, E 917553 398, E 917554 399, E 917555 400, E 917556 401, E 917557 402, E 917558 403, E 917559 404, E 917560 405, E 917561 406, E 917562 407, E 917563 408, E 917564 409, E 917565 410, E 917566 411, E 917567 412, E 917568 413, E 917569 414, E 917570 415, E 917571 416, E 917572 417, E 917573 418, E 917574 419, E 917575 420, E 917576 421, E 917577 422, E 917578 423, E 917579 424]⟩ 47 (tabOf b 127 ⟨[1, 32, 33, 34, 35, 36, 37, 38, 39, 40, 41, 42, 43, 44, 45, 46, 47, 48, 49, 50, 51, 52, 53, 54, 55, 56, 57, 58, 59, 60, 61, 62, 63, 64, 65, 66, 67, 68, 69, 70, 71, 72, 73, 74, 75]⟩ 0 2)), ⟨[]⟩⟩
def o103v6 (b : Bool) (P : Params) : Obj := ⟨(.type "list_iterator"), none, (.fields ⟨[(.ref 101), (.int 45 0)]⟩), ⟨[]⟩⟩
def S40 (b : Bool) (v : World) (os : OsState) : SharedT := ⟨TH11r2 b v.params (o102v6 b v.params) (o103v6 b v.params), 104, life0, ⟨[]⟩, drawn0, 522, os⟩
def g11x15L (b : Bool) (v : World) (os : OsState) (k : Result → Sem Fin) (h : Option Value) (g : Bool) (l : List Value) (cd : Code) (p₀ : Pos) (kept : List Value) (f1 f2 f3 : Frame) := segGoT treeTable pw v 11 ann0 1 180 (S39 b v os) ⟨denote treeTable (.builtin "set.update.loop" ⟨[(.ref 102), (.ref 103)], []⟩), (.builtin "set.update.loop" ⟨[(.ref 102), (.ref 103)], []⟩), ⟨23, 9, 23, 52⟩, [.ret k h g l cd p₀ kept, f1, f2, f3]⟩
def g11x15R (b : Bool) (v : World) (os : OsState) (k : Result → Sem Fin) (h : Option Value) (g : Bool) (l : List Value) (cd : Code) (p₀ : Pos) (kept : List Value) (f1 f2 f3 : Frame) : Option (SharedT × Thread) := some (S40 b v os, ⟨denote treeTable (.builtin "set.update.loop" ⟨[(.ref 102), (.ref 103)], []⟩), (.builtin "set.update.loop" ⟨[(.ref 102), (.ref 103)], []⟩), ⟨23, 9, 23, 52⟩, [.ret k h g l cd p₀ kept, f1, f2, f3]⟩)
def g11x15Lff (w : World) := g11x15L true (W00 w)
def g11x15Rff (w : World) := g11x15R true (W00 w)
theorem g11x15ff_a : (fun (_ : Unit → Unit) => true) (fun _ => let _ := @g11x15Lff; let _ := @g11x15Rff; ()) = true := by k_qdec
theorem g11x15ff : @g11x15Lff = @g11x15Rff := PySem.W.Fast.te1970292679783174579.trans (Eq.trans (show @PySem.W.Fast.tw1970292679783174579 = @PySem.W.Fast.tw14619159715381747564 by kernel_rfl) PySem.W.Fast.te14619159715381747564.symm)
def g11x15Lft (w : World) := g11x15L true (W01 w)
def g11x15Rft (w : World) := g11x15R true (W01 w)
theorem g11x15ft_a : (fun (_ : Unit → Unit) => true) (fun _ => let _ := @g11x15Lft; let _ := @g11x15Rft; ()) = true := by k_qdec
theorem g11x15ft : @g11x15Lft = @g11x15Rft := PySem.W.Fast.te11230765680404379169.trans (Eq.trans (show @PySem.W.Fast.tw11230765680404379169 = @PySem.W.Fast.tw6444150163123380823 by kernel_rfl) PySem.W.Fast.te6444150163123380823.symm)
def g11x15Ltf (w : World) := g11x15L false (W10 w)
def g11x15Rtf (w : World) := g11x15R false (W10 w)
theorem g11x15tf_a : (fun (_ : Unit → Unit) => true) (fun _ => let _ := @g11x15Ltf; let _ := @g11x15Rtf; ()) = true := by k_qdec
theorem g11x15tf : @g11x15Ltf = @g11x15Rtf := PySem.W.Fast.te10093244289323085133.trans (Eq.trans (show @PySem.W.Fast.tw10093244289323085133 = @PySem.W.Fast.tw6904965938225155203 by kernel_rfl) PySem.W.Fast.te6904965938225155203.symm)
def g11x15Ltt (w : World) := g11x15L false (W11 w)
def g11x15Rtt (w : World) := g11x15R false (W11 w)
theorem g11x15tt_a : (fun (_ : Unit → Unit) => true) (fun _ => let _ := @g11x15Ltt; let _ := @g11x15Rtt; ()) = true := by k_qdec
theorem g11x15tt : @g11x15Ltt = @g11x15Rtt := PySem.W.Fast.te11830957332208439397.trans (Eq.trans (show @PySem.W.Fast.tw11830957332208439397 = @PySem.W.Fast.tw2601191942112062792 by kernel_rfl) PySem.W.Fast.te2601191942112062792.symm)
theorem g11x15 (w : World) : g11x15L (led w.params) w = g11x15R (led w.params) w := byFour (P := fun b w => g11x15L b w = g11x15R b w) (fun w => congrFun g11x15ff w) (fun w => congrFun g11x15ft w) (fun w => congrFun g11x15tf w) (fun w => congrFun g11x15tt w) w
theorem g11x15s (w : World) (os : OsState) : segGo treeTable pw w 11 ann0 1 180 (S39 (led w.params) w os).abs (g11x10th (led w.params) w os) = some ((S40 (led w.params) w os).abs, (g11x10th (led w.params) w os)) := segGo_of (show g11x15L (led w.params) w os (rK (g11x10raw (led w.params) w os)) (rH (g11x10raw (led w.params) w os)) (rG (g11x10raw (led w.params) w os)) (rL (g11x10raw (led w.params) w os)) (rC (g11x10raw (led w.params) w os)) (rP (g11x10raw (led w.params) w os)) (rT (g11x10raw (led w.params) w os)) (frAt (g11x10raw (led w.params) w os) 1) (frAt (g11x10raw (led w.params) w os) 2) (frAt (g11x10raw (led w.params) w os) 3) = g11x15R (led w.params) w os (rK (g11x10raw (led w.params) w os)) (rH (g11x10raw (led w.params) w os)) (rG (g11x10raw (led w.params) w os)) (rL (g11x10raw (led w.params) w os)) (rC (g11x10raw (led w.params) w os)) (rP (g11x10raw (led w.params) w os)) (rT (g11x10raw (led w.params) w os)) (frAt (g11x10raw (led w.params) w os) 1) (frAt (g11x10raw (led w.params) w os) 2) (frAt (g11x10raw (led w.params) w os) 3) by rw [g11x15])
def o102v7 (b : Bool) (P : Params) : Obj := ⟨(.type "set"), none, (.set ⟨[E 917505 375, E 917536 381, E 917537 382, E 917538 383, E 917539 384, E 917540 385, E 917541 386, E 917542 387, E 917543 388, E 917544 389, E 917545 390, E 917546 391, E 917547 392, E 917548 393, E 917549 394, E 917550 395, E 917551 396, E 917552 397, E 917553 398, E 917554 399, E 917555 400, E 917556 401, E 917557 402, E 917558 403, E 917559 404, E 917560 405, E 917561 406, E 917562 407, E 917563 408, E 917564 409, E 917565 410, E 917566 411, E 917567 412, E 917568 413, E 917569 414, E 917570 415, E 917571 416, E 917572 417, E 917573 418, E 917574 419, E 917575 420, E 917576 421, E 917577 422, E 917578 423, E 917579 424, E 917580 425, E 917581 426, E 917582 427, E 917583 428, E 917584 429, E 917585 430, E 917586 431, E 917587 432, E 917588 433]⟩ 56 (tabOf b 127 ⟨[1, 32, 33, 34, 35, 36, 37, 38, 39, 40, 41, 42, 43, 44, 45, 46, 47, 48, 49, 50, 51, 52, 53, 54, 55, 56, 57, 58, 59, 60, 61, 62, 63, 64, 65, 66, 67, 68, 69, 70, 71, 72, 73, 74, 75, 76, 77, 78, 79, 80, 81, 82, 83, 84]⟩ 0 2)), ⟨[]⟩⟩
def o103v7 (b : Bool) (P : Params) : Obj := ⟨(.type "list_iterator"), none, (.fields ⟨[(.ref 101), (.int 54 0)]⟩), ⟨[]⟩⟩
def S41 (b : Bool) (v : World) (os : OsState) : SharedT := ⟨TH11r2 b v.params (o102v7 b v.params) (o103v7 b v.params), 104, life0, ⟨[]⟩, drawn0, 531, os⟩
def g11x16L (b : Bool) (v : World) (os : OsState) (k : Result → Sem Fin) (h : Option Value) (g : Bool) (l : List Value) (cd : Code) (p₀ : Pos) (kept : List Value) (f1 f2 f3 : Frame) := segGoT treeTable pw v 11 ann0 1 180 (S40 b v os) ⟨denote treeTable (.builtin "set.update.loop" ⟨[(.ref 102), (.ref 103)], []⟩), (.builtin "set.update.loop" ⟨[(.ref 102), (.ref 103)], []⟩), ⟨23, 9, 23, 52⟩, [.ret k h g l cd p₀ kept, f1, f2, f3]⟩
def g11x16R (b : Bool) (v : World) (os : OsState) (k : Result → Sem Fin) (h : Option Value) (g : Bool) (l : List Value) (cd : Code) (p₀ : Pos) (kept : List Value) (f1 f2 f3 : Frame) : Option (SharedT × Thread) := some (S41 b v os, ⟨denote treeTable (.builtin "set.update.loop" ⟨[(.ref 102), (.ref 103)], []⟩), (.builtin "set.update.loop" ⟨[(.ref 102), (.ref 103)], []⟩), ⟨23, 9, 23, 52⟩, [.ret k h g l cd p₀ kept, f1, f2, f3]⟩)
def g11x16Lff (w : World) := g11x16L true (W00 w)
def g11x16Rff (w : World) := g11x16R true (W00 w)
theorem g11x16ff_a : (fun (_ : Unit → Unit) => true) (fun _ => let _ := @g11x16Lff; let _ := @g11x16Rff; ()) = true := by k_qdec
theorem g11x16ff : @g11x16Lff = @g11x16Rff := PySem.W.Fast.te12103606145273096489.trans (Eq.trans (show @PySem.W.Fast.tw12103606145273096489 = @PySem.W.Fast.tw5557100942339251459 by kernel_rfl) PySem.W.Fast.te5557100942339251459.symm)
def g11x16Lft (w : World) := g11x16L true (W01 w)
def g11x16Rft (w : World) := g11x16R true (W01 w)
theorem g11x16ft_a : (fun (_ : Unit → Unit) => true) (fun _ => let _ := @g11x16Lft; let _ := @g11x16Rft; ()) = true := by k_qdec
theorem g11x16ft : @g11x16Lft = @g11x16Rft := PySem.W.Fast.te13418946314971466718.trans (Eq.trans (show @PySem.W.Fast.tw13418946314971466718 = @PySem.W.Fast.tw2067088553001699871 by kernel_rfl) PySem.W.Fast.te2067088553001699871.symm)
def g11x16Ltf (w : World) := g11x16L false (W10 w)
def g11x16Rtf (w : World) := g11x16R false (W10 w)
theorem g11x16tf_a : (fun (_ : Unit → Unit) => true) (fun _ => let _ := @g11x16Ltf; let _ := @g11x16Rtf; ()) = true := by k_qdec
theorem g11x16tf : @g11x16Ltf = @g11x16Rtf := PySem.W.Fast.te12134109710123882162.trans (Eq.trans (show @PySem.W.Fast.tw12134109710123882162 = @PySem.W.Fast.tw43691448910191607 by kernel_rfl) PySem.W.Fast.te43691448910191607.symm)
def g11x16Ltt (w : World) := g11x16L false (W11 w)
def g11x16Rtt (w : World) := g11x16R false (W11 w)
theorem g11x16tt_a : (fun (_ : Unit → Unit) => true) (fun _ => let _ := @g11x16Ltt; let _ := @g11x16Rtt; ()) = true := by k_qdec
theorem g11x16tt : @g11x16Ltt = @g11x16Rtt := PySem.W.Fast.te1569172260595696667.trans (Eq.trans (show @PySem.W.Fast.tw1569172260595696667 = @PySem.W.Fast.tw16390865169825397043 by kernel_rfl) PySem.W.Fast.te16390865169825397043.symm)
theorem g11x16 (w : World) : g11x16L (led w.params) w = g11x16R (led w.params) w := byFour (P := fun b w => g11x16L b w = g11x16R b w) (fun w => congrFun g11x16ff w) (fun w => congrFun g11x16ft w) (fun w => congrFun g11x16tf w) (fun w => congrFun g11x16tt w) w
theorem g11x16s (w : World) (os : OsState) : segGo treeTable pw w 11 ann0 1 180 (S40 (led w.params) w os).abs (g11x10th (led w.params) w os) = some ((S41 (led w.params) w os).abs, (g11x10th (led w.params) w os)) := segGo_of (show g11x16L (led w.params) w os (rK (g11x10raw (led w.params) w os)) (rH (g11x10raw (led w.params) w os)) (rG (g11x10raw (led w.params) w os)) (rL (g11x10raw (led w.params) w os)) (rC (g11x10raw (led w.params) w os)) (rP (g11x10raw (led w.params) w os)) (rT (g11x10raw (led w.params) w os)) (frAt (g11x10raw (led w.params) w os) 1) (frAt (g11x10raw (led w.params) w os) 2) (frAt (g11x10raw (led w.params) w os) 3) = g11x16R (led w.params) w os (rK (g11x10raw (led w.params) w os)) (rH (g11x10raw (led w.params) w os)) (rG (g11x10raw (led w.params) w os)) (rL (g11x10raw (led w.params) w os)) (rC (g11x10raw (led w.params) w os)) (rP (g11x10raw (led w.params) w os)) (rT (g11x10raw (led w.params) w os)) (frAt (g11x10raw (led w.params) w os) 1) (frAt (g11x10raw (led w.params) w os) 2) (frAt (g11x10raw (led w.params) w os) 3) by rw [g11x16])
def o102v8 (b : Bool) (P : Params) : Obj := ⟨(.type "set"), none, (.set ⟨[E 917505 375, E 917536 381, E 917537 382, E 917538 383, E 917539 384, E 917540 385, E 917541 386, E 917542 387, E 917543 388, E 917544 389, E 917545 390, E 917546 391, E 917547 392, E 917548 393, E 917549 394, E 917550 395, E 917551 396, E 917552 397, E 917553 398, E 917554 399, E 917555 400, E 917556 401, E 917557 402, E 917558 403, E 917559 404, E 917560 405, E 917561 406, E 917562 407, E 917563 408, E 917564 409, E 917565 410, E 917566 411, E 917567 412, E 917568 413, E 917569 414, E 917570 415, E 917571 416, E 917572 417, E 917573 418, E 917574 419, E 917575 420, E 917576 421, E 917577 422, E 917578 423, E 917579 424, E 917580 425, E 917581 426, E 917582 427, E 917583 428, E 917584 429, E 917585 430, E 917586 431, E 917587 432, E 917588 433, E 917589 434, E 917590 435, E 917591 436, E 917592 437, E 917593 438, E 917594 439, E 917595 440, E 917596 441, E 917597 442]⟩ 65 (tabOf b 127 ⟨[1, 32, 33, 34, 35, 36, 37, 38, 39, 40, 41, 42, 43, 44, 45, 46, 47, 48, 49, 50, 51, 52, 53, 54, 55, 56, 57, 58, 59, 60, 61, 62, 63, 64, 65, 66, 67, 68, 69, 70, 71, 72, 73, 74, 75, 76, 77, 78, 79, 80, 81, 82, 83, 84, 85, 86, 87, 88, 89, 90, 91, 92, 93]⟩ 0 2)), ⟨[]⟩⟩
def o103v8 (b : Bool) (P : Params) : Obj := ⟨(.type "list_iterator"), none, (.fields ⟨[(.ref 101), (.int 63 0)]⟩), ⟨[]⟩⟩
def S42 (b : Bool) (v : World) (os : OsState) : SharedT := ⟨TH11r2 b v.params (o102v8 b v.params) (o103v8 b v.params), 104, life0, ⟨[]⟩, drawn0, 540, os⟩
def g11x17L (b : Bool) (v : World) (os : OsState) (k : Result → Sem Fin) (h : Option Value) (g : Bool) (l : List Value) (cd : Code) (p₀ : Pos) (kept : List Value) (f1 f2 f3 : Frame) := segGoT treeTable pw v 11 ann0 1 180 (S41 b v os) ⟨denote treeTable (.builtin "set.update.loop" ⟨[(.ref 102), (.ref 103)], []⟩), (.builtin "set.update.loop" ⟨[(.ref 102), (.ref 103)], []⟩), ⟨23, 9, 23, 52⟩, [.ret k h g l cd p₀ kept, f1, f2, f3]⟩
def g11x17R (b : Bool) (v : World) (os : OsState) (k : Result → Sem Fin) (h : Option Value) (g : Bool) (l : List Value) (cd : Code) (p₀ : Pos) (kept : List Value) (f1 f2 f3 : Frame) : Option (SharedT × Thread) := some (S42 b v os, ⟨denote treeTable (.builtin "set.update.loop" ⟨[(.ref 102), (.ref 103)], []⟩), (.builtin "set.update.loop" ⟨[(.ref 102), (.ref 103)], []⟩), ⟨23, 9, 23, 52⟩, [.ret k h g l cd p₀ kept, f1, f2, f3]⟩)
def g11x17Lff (w : World) := g11x17L true (W00 w)
def g11x17Rff (w : World) := g11x17R true (W00 w)
theorem g11x17ff_a : (fun (_ : Unit → Unit) => true) (fun _ => let _ := @g11x17Lff; let _ := @g11x17Rff; ()) = true := by k_qdec
theorem g11x17ff : @g11x17Lff = @g11x17Rff := PySem.W.Fast.te4118618352396420641.trans (Eq.trans (show @PySem.W.Fast.tw4118618352396420641 = @PySem.W.Fast.tw4988900908162545482 by kernel_rfl) PySem.W.Fast.te4988900908162545482.symm)
def g11x17Lft (w : World) := g11x17L true (W01 w)
def g11x17Rft (w : World) := g11x17R true (W01 w)
theorem g11x17ft_a : (fun (_ : Unit → Unit) => true) (fun _ => let _ := @g11x17Lft; let _ := @g11x17Rft; ()) = true := by k_qdec
theorem g11x17ft : @g11x17Lft = @g11x17Rft := PySem.W.Fast.te8365674876703099552.trans (Eq.trans (show @PySem.W.Fast.tw8365674876703099552 = @PySem.W.Fast.tw12556810791776877621 by kernel_rfl) PySem.W.Fast.te12556810791776877621.symm)
def g11x17Ltf (w : World) := g11x17L false (W10 w)
def g11x17Rtf (w : World) := g11x17R false (W10 w)
theorem g11x17tf_a : (fun (_ : Unit → Unit) => true) (fun _ => let _ := @g11x17Ltf; let _ := @g11x17Rtf; ()) = true := by k_qdec
theorem g11x17tf : @g11x17Ltf = @g11x17Rtf := PySem.W.Fast.te275451217261854377.trans (Eq.trans (show @PySem.W.Fast.tw275451217261854377 = @PySem.W.Fast.tw3002936186402079380 by kernel_rfl) PySem.W.Fast.te3002936186402079380.symm)
def g11x17Ltt (w : World) := g11x17L false (W11 w)
def g11x17Rtt (w : World) := g11x17R false (W11 w)
theorem g11x17tt_a : (fun (_ : Unit → Unit) => true) (fun _ => let _ := @g11x17Ltt; let _ := @g11x17Rtt; ()) = true := by k_qdec
theorem g11x17tt : @g11x17Ltt = @g11x17Rtt := PySem.W.Fast.te10382453741262272330.trans (Eq.trans (show @PySem.W.Fast.tw10382453741262272330 = @PySem.W.Fast.tw7344382159429313645 by kernel_rfl) PySem.W.Fast.te7344382159429313645.symm)
theorem g11x17 (w : World) : g11x17L (led w.params) w = g11x17R (led w.params) w := byFour (P := fun b w => g11x17L b w = g11x17R b w) (fun w => congrFun g11x17ff w) (fun w => congrFun g11x17ft w) (fun w => congrFun g11x17tf w) (fun w => congrFun g11x17tt w) w
theorem g11x17s (w : World) (os : OsState) : segGo treeTable pw w 11 ann0 1 180 (S41 (led w.params) w os).abs (g11x10th (led w.params) w os) = some ((S42 (led w.params) w os).abs, (g11x10th (led w.params) w os)) := segGo_of (show g11x17L (led w.params) w os (rK (g11x10raw (led w.params) w os)) (rH (g11x10raw (led w.params) w os)) (rG (g11x10raw (led w.params) w os)) (rL (g11x10raw (led w.params) w os)) (rC (g11x10raw (led w.params) w os)) (rP (g11x10raw (led w.params) w os)) (rT (g11x10raw (led w.params) w os)) (frAt (g11x10raw (led w.params) w os) 1) (frAt (g11x10raw (led w.params) w os) 2) (frAt (g11x10raw (led w.params) w os) 3) = g11x17R (led w.params) w os (rK (g11x10raw (led w.params) w os)) (rH (g11x10raw (led w.params) w os)) (rG (g11x10raw (led w.params) w os)) (rL (g11x10raw (led w.params) w os)) (rC (g11x10raw (led w.params) w os)) (rP (g11x10raw (led w.params) w os)) (rT (g11x10raw (led w.params) w os)) (frAt (g11x10raw (led w.params) w os) 1) (frAt (g11x10raw (led w.params) w os) 2) (frAt (g11x10raw (led w.params) w os) 3) by rw [g11x17])
def o102v9 (b : Bool) (P : Params) : Obj := ⟨(.type "set"), none, (.set ⟨[E 917505 375, E 917536 381, E 917537 382, E 917538 383, E 917539 384, E 917540 385, E 917541 386, E 917542 387, E 917543 388, E 917544 389, E 917545 390, E 917546 391, E 917547 392, E 917548 393, E 917549 394, E 917550 395, E 917551 396, E 917552 397, E 917553 398, E 917554 399, E 917555 400, E 917556 401, E 917557 402, E 917558 403, E 917559 404, E 917560 405, E 917561 406, E 917562 407, E 917563 408, E 917564 409, E 917565 410, E 917566 411, E 917567 412, E 917568 413, E 917569 414, E 917570 415, E 917571 416, E 917572 417, E 917573 418, E 917574 419, E 917575 420, E 917576 421, E 917577 422, E 917578 423, E 917579 424, E 917580 425, E 917581 426, E 917582 427, E 917583 428, E 917584 429, E 917585 430, E 917586 431, E 917587 432, E 917588 433, E 917589 434, E 917590 435, E 917591 436, E 917592 437, E 917593 438, E 917594 439, E 917595 440, E 917596 441, E 917597 442, E 917598 443, E 917599 444, E 917600 445, E 917601 446, E 917602 447, E 917603 448, E 917604 449, E 917605 450, E 917606 451]⟩ 74 (tabOf b 127 ⟨[1, 32, 33, 34, 35, 36, 37, 38, 39, 40, 41, 42, 43, 44, 45, 46, 47, 48, 49, 50, 51, 52, 53, 54, 55, 56, 57, 58, 59, 60, 61, 62, 63, 64, 65, 66, 67, 68, 69, 70, 71, 72, 73, 74, 75, 76, 77, 78, 79, 80, 81, 82, 83, 84, 85, 86, 87, 88, 89, 90, 91, 92, 93, 94, 95, 96, 97, 98, 99, 100, 101, 102]⟩ 0 2)), ⟨[]⟩⟩
def o103v9 (b : Bool) (P : Params) : Obj := ⟨(.type "list_iterator"), none, (.fields ⟨[(.ref 101), (.int 72 0)]⟩), ⟨[]⟩⟩
def S43 (b : Bool) (v : World) (os : OsState) : SharedT := ⟨TH11r2 b v.params (o102v9 b v.params) (o103v9 b v.params), 104, life0, ⟨[]⟩, drawn0, 549, os⟩
def g11x18L (b : Bool) (v : World) (os : OsState) (k : Result → Sem Fin) (h : Option Value) (g : Bool) (l : List Value) (cd : Code) (p₀ : Pos) (kept : List Value) (f1 f2 f3 : Frame) := segGoT treeTable pw v 11 ann0 1 180 (S42 b v os) ⟨denote treeTable (.builtin "set.update.loop" ⟨[(.ref 102), (.ref 103)], []⟩), (.builtin "set.update.loop" ⟨[(.ref 102), (.ref 103)], []⟩), ⟨23, 9, 23, 52⟩, [.ret k h g l cd p₀ kept, f1, f2, f3]⟩
def g11x18R (b : Bool) (v : World) (os : OsState) (k : Result → Sem Fin) (h : Option Value) (g : Bool) (l : List Value) (cd : Code) (p₀ : Pos) (kept : List Value) (f1 f2 f3 : Frame) : Option (SharedT × Thread) := some (S43 b v os, ⟨denote treeTable (.builtin "set.update.loop" ⟨[(.ref 102), (.ref 103)], []⟩), (.builtin "set.update.loop" ⟨[(.ref 102), (.ref 103)], []⟩), ⟨23, 9, 23, 52⟩, [.ret k h g l cd p₀ kept, f1, f2, f3]⟩)
def g11x18Lff (w : World) := g11x18L true (W00 w)
def g11x18Rff (w : World) := g11x18R true (W00 w)
theorem g11x18ff_a : (fun (_ : Unit → Unit) => true) (fun _ => let _ := @g11x18Lff; let _ := @g11x18Rff; ()) = true := by k_qdec
theorem g11x18ff : @g11x18Lff = @g11x18Rff := PySem.W.Fast.te7698109331425844755.trans (Eq.trans (show @PySem.W.Fast.tw7698109331425844755 = @PySem.W.Fast.tw15125925299929617921 by kernel_rfl) PySem.W.Fast.te15125925299929617921.symm)
def g11x18Lft (w : World) := g11x18L true (W01 w)
def g11x18Rft (w : World) := g11x18R true (W01 w)
theorem g11x18ft_a : (fun (_ : Unit → Unit) => true) (fun _ => let _ := @g11x18Lft; let _ := @g11x18Rft; ()) = true := by k_qdec
theorem g11x18ft : @g11x18Lft = @g11x18Rft := PySem.W.Fast.te9915239781445639331.trans (Eq.trans (show @PySem.W.Fast.tw9915239781445639331 = @PySem.W.Fast.tw12815027933112969081 by kernel_rfl) PySem.W.Fast.te12815027933112969081.symm)
def g11x18Ltf (w : World) := g11x18L false (W10 w)
def g11x18Rtf (w : World) := g11x18R false (W10 w)
theorem g11x18tf_a : (fun (_ : Unit → Unit) => true) (fun _ => let _ := @g11x18Ltf; let _ := @g11x18Rtf; ()) = true := by k_qdec
theorem g11x18tf : @g11x18Ltf = @g11x18Rtf := PySem.W.Fast.te4602573460374748545.trans (Eq.trans (show @PySem.W.Fast.tw4602573460374748545 = @PySem.W.Fast.tw13476941669001707829 by kernel_rfl) PySem.W.Fast.te13476941669001707829.symm)
def g11x18Ltt (w : World) := g11x18L false (W11 w)
def g11x18Rtt (w : World) := g11x18R false (W11 w)
theorem g11x18tt_a : (fun (_ : Unit → Unit) => true) (fun _ => let _ := @g11x18Ltt; let _ := @g11x18Rtt; ()) = true := by k_qdec
theorem g11x18tt : @g11x18Ltt = @g11x18Rtt := PySem.W.Fast.te185288837058353618.trans (Eq.trans (show @PySem.W.Fast.tw185288837058353618 = @PySem.W.Fast.tw8828843996926507856 by kernel_rfl) PySem.W.Fast.te8828843996926507856.symm)
theorem g11x18 (w : World) : g11x18L (led w.params) w = g11x18R (led w.params) w := byFour (P := fun b w => g11x18L b w = g11x18R b w) (fun w => congrFun g11x18ff w) (fun w => congrFun g11x18ft w) (fun w => congrFun g11x18tf w) (fun w => congrFun g11x18tt w) w
theorem g11x18s (w : World) (os : OsState) : segGo treeTable pw w 11 ann0 1 180 (S42 (led w.params) w os).abs (g11x10th (led w.params) w os) = some ((S43 (led w.params) w os).abs, (g11x10th (led w.params) w os)) := segGo_of (show g11x18L (led w.params) w os (rK (g11x10raw (led w.params) w os)) (rH (g11x10raw (led w.params) w os)) (rG (g11x10raw (led w.params) w os)) (rL (g11x10raw (led w.params) w os)) (rC (g11x10raw (led w.params) w os)) (rP (g11x10raw (led w.params) w os)) (rT (g11x10raw (led w.params) w os)) (frAt (g11x10raw (led w.params) w os) 1) (frAt (g11x10raw (led w.params) w os) 2) (frAt (g11x10raw (led w.params) w os) 3) = g11x18R (led w.params) w os (rK (g11x10raw (led w.params) w os)) (rH (g11x10raw (led w.params) w os)) (rG (g11x10raw (led w.params) w os)) (rL (g11x10raw (led w.params) w os)) (rC (g11x10raw (led w.params) w os)) (rP (g11x10raw (led w.params) w os)) (rT (g11x10raw (led w.params) w os)) (frAt (g11x10raw (led w.params) w os) 1) (frAt (g11x10raw (led w.params) w os) 2) (frAt (g11x10raw (led w.params) w os) 3) by rw [g11x18])
def o102v10 (b : Bool) (P : Params) : Obj := ⟨(.type "set"), none, (.set ⟨[E 917505 375, E 917536 381, E 917537 382, E 917538 383, E 917539 384, E 917540 385, E 917541 386, E 917542 387, E 917543 388, E 917544 389, E 917545 390, E 917546 391, E 917547 392, E 917548 393, E 917549 394, E 917550 395, E 917551 396, E 917552 397, E 917553 398, E 917554 399, E 917555 400, E 917556 401, E 917557 402, E 917558 403, E 917559 404, E 917560 405, E 917561 406, E 917562 407, E 917563 408, E 917564 409, E 917565 410, E 917566 411, E 917567 412, E 917568 413, E 917569 414, E 917570 415, E 917571 416, E 917572 417, E 917573 418, E 917574 419, E 917575 420, E 917576 421, E 917577 422, E 917578 423, E 917579 424, E 917580 425, E 917581 426, E 917582 427, E 917583 428, E 917584 429, E 917585 430, E 917586 431, E 917587 432, E 917588 433, E 917589 434, E 917590 435, E 917591 436, E 917592 437, E 917593 438, E 917594 439, E 917595 440, E 917596 441, E 917597 442, E 917598 443, E 917599 444, E 917600 445, E 917601 446, E 917602 447, E 917603 448, E 917604 449, E 917605 450, E 917606 451, E 917607 452, E 917608 453, E 917609 454, E 917610 455, E 917611 456, E 917612 457, E 917613 458, E 917614 459, E 917615 460]⟩ 84 (tabOf b 511 ⟨[1, 32, 33, 34, 35, 36, 37, 38, 39, 40, 41, 42, 43, 44, 45, 46, 47, 48, 49, 50, 51, 52, 53, 54, 55, 56, 57, 58, 59, 60, 61, 62, 63, 64, 65, 66, 67, 68, 69, 70, 71, 72, 73, 74, 75, 76, 77, 78, 79, 80, 81, 82, 83, 84, 85, 86, 87, 88, 89, 90, 91, 92, 93, 94, 95, 96, 97, 98, 99, 100, 101, 102, 103, 104, 105, 106, 107, 108, 109, 110, 111]⟩ 0 3)), ⟨[]⟩⟩
def o103v10 (b : Bool) (P : Params) : Obj := ⟨(.type "list_iterator"), none, (.fields ⟨[(.ref 101), (.int 81 0)]⟩), ⟨[]⟩⟩
def S44 (b : Bool) (v : World) (os : OsState) : SharedT := ⟨TH11r2 b v.params (o102v10 b v.params) (o103v10 b v.params), 104, life0, ⟨[]⟩, drawn0, 558, os⟩
def g11x19L (b : Bool) (v : World) (os : OsState) (k : Result → Sem Fin) (h : Option Value) (g : Bool) (l : List Value) (cd : Code) (p₀ : Pos) (kept : List Value) (f1 f2 f3 : Frame) := segGoT treeTable pw v 11 ann0 1 182 (S43 b v os) ⟨denote treeTable (.builtin "set.update.loop" ⟨[(.ref 102), (.ref 103)], []⟩), (.builtin "set.update.loop" ⟨[(.ref 102), (.ref 103)], []⟩), ⟨23, 9, 23, 52⟩, [.ret k h g l cd p₀ kept, f1, f2, f3]⟩
def g11x19R (b : Bool) (v : World) (os : OsState) (k : Result → Sem Fin) (h : Option Value) (g : Bool) (l : List Value) (cd : Code) (p₀ : Pos) (kept : List Value) (f1 f2 f3 : Frame) : Option (SharedT × Thread) := some (S44 b v os, ⟨denote treeTable (.builtin "set.update.loop" ⟨[(.ref 102), (.ref 103)], []⟩), (.builtin "set.update.loop" ⟨[(.ref 102), (.ref 103)], []⟩), ⟨23, 9, 23, 52⟩, [.ret k h g l cd p₀ kept, f1, f2, f3]⟩)
def g11x19Lff (w : World) := g11x19L true (W00 w)
def g11x19Rff (w : World) := g11x19R true (W00 w)
theorem g11x19ff_a : (fun (_ : Unit → Unit) => true) (fun _ => let _ := @g11x19Lff; let _ := @g11x19Rff; ()) = true := by k_qdec
theorem g11x19ff : @g11x19Lff = @g11x19Rff := PySem.W.Fast.te13550081200686710837.trans (Eq.trans (show @PySem.W.Fast.tw13550081200686710837 = @PySem.W.Fast.tw1204807128533364520 by kernel_rfl) PySem.W.Fast.te1204807128533364520.symm)
def g11x19Lft (w : World) := g11x19L true (W01 w)
def g11x19Rft (w : World) := g11x19R true (W01 w)
theorem g11x19ft_a : (fun (_ : Unit → Unit) => true) (fun _ => let _ := @g11x19Lft; let _ := @g11x19Rft; ()) = true := by k_qdec
theorem g11x19ft : @g11x19Lft = @g11x19Rft := PySem.W.Fast.te2550022348389029759.trans (Eq.trans (show @PySem.W.Fast.tw2550022348389029759 = @PySem.W.Fast.tw18342041151723081480 by kernel_rfl) PySem.W.Fast.te18342041151723081480.symm)
def g11x19Ltf (w : World) := g11x19L false (W10 w)
def g11x19Rtf (w : World) := g11x19R false (W10 w)
theorem g11x19tf_a : (fun (_ : Unit → Unit) => true) (fun _ => let _ := @g11x19Ltf; let _ := @g11x19Rtf; ()) = true := by k_qdec
theorem g11x19tf : @g11x19Ltf = @g11x19Rtf := PySem.W.Fast.te8204627997740910438.trans (Eq.trans (show @PySem.W.Fast.tw8204627997740910438 = @PySem.W.Fast.tw15590102707850012885 by kernel_rfl) PySem.W.Fast.te15590102707850012885.symm)
def g11x19Ltt (w : World) := g11x19L false (W11 w)
def g11x19Rtt (w : World) := g11x19R false (W11 w)
theorem g11x19tt_a : (fun (_ : Unit → Unit) => true) (fun _ => let _ := @g11x19Ltt; let _ := @g11x19Rtt; ()) = true := by k_qdec
theorem g11x19tt : @g11x19Ltt = @g11x19Rtt := PySem.W.Fast.te17870823799258640662.trans (Eq.trans (show @PySem.W.Fast.tw17870823799258640662 = @PySem.W.Fast.tw16758334317825413961 by kernel_rfl) PySem.W.Fast.te16758334317825413961.symm)
theorem g11x19 (w : World) : g11x19L (led w.params) w = g11x19R (led w.params) w := byFour (P := fun b w => g11x19L b w = g11x19R b w) (fun w => congrFun g11x19ff w) (fun w => congrFun g11x19ft w) (fun w => congrFun g11x19tf w) (fun w => congrFun g11x19tt w) w
theorem g11x19s (w : World) (os : OsState) : segGo treeTable pw w 11 ann0 1 182 (S43 (led w.params) w os).abs (g11x10th (led w.params) w os) = some ((S44 (led w.params) w os).abs, (g11x10th (led w.params) w os)) := segGo_of (show g11x19L (led w.params) w os (rK (g11x10raw (led w.params) w os)) (rH (g11x10raw (led w.params) w os)) (rG (g11x10raw (led w.params) w os)) (rL (g11x10raw (led w.params) w os)) (rC (g11x10raw (led w.params) w os)) (rP (g11x10raw (led w.params) w os)) (rT (g11x10raw (led w.params) w os)) (frAt (g11x10raw (led w.params) w os) 1) (frAt (g11x10raw (led w.params) w os) 2) (frAt (g11x10raw (led w.params) w os) 3) = g11x19R (led w.params) w os (rK (g11x10raw (led w.params) w os)) (rH (g11x10raw (led w.params) w os)) (rG (g11x10raw (led w.params) w os)) (rL (g11x10raw (led w.params) w os)) (rC (g11x10raw (led w.params) w os)) (rP (g11x10raw (led w.params) w os)) (rT (g11x10raw (led w.params) w os)) (frAt (g11x10raw (led w.params) w os) 1) (frAt (g11x10raw (led w.params) w os) 2) (frAt (g11x10raw (led w.params) w os) 3) by rw [g11x19])
def o102v11 (b : Bool) (P : Params) : Obj := ⟨(.type "set"), none, (.set ⟨[E 917505 375, E 917536 381, E 917537 382, E 917538 383, E 917539 384, E 917540 385, E 917541 386, E 917542 387, E 917543 388, E 917544 389, E 917545 390, E 917546 391, E 917547 392, E 917548 393, E 917549 394, E 917550 395, E 917551 396, E 917552 397, E 917553 398, E 917554 399, E 917555 400, E 917556 401, E 917557 402, E 917558 403, E 917559 404, E 917560 405, E 917561 406, E 917562 407, E 917563 408, E 917564 409, E 917565 410, E 917566 411, E 917567 412, E 917568 413, E 917569 414, E 917570 415, E 917571 416, E 917572 417, E 917573 418, E 917574 419, E 917575 420, E 917576 421, E 917577 422, E 917578 423, E 917579 424, E 917580 425, E 917581 426, E 917582 427, E 917583 428, E 917584 429, E 917585 430, E 917586 431, E 917587 432, E 917588 433, E 917589 434, E 917590 435, E 917591 436, E 917592 437, E 917593 438, E 917594 439, E 917595 440, E 917596 441, E 917597 442, E 917598 443, E 917599 444, E 917600 445, E 917601 446, E 917602 447, E 917603 448, E 917604 449, E 917605 450, E 917606 451, E 917607 452, E 917608 453, E 917609 454, E 917610 455, E 917611 456, E 917612 457, E 917613 458, E 917614 459, E 917615 460, E 917616 461, E 917617 462, E 917618 463, E 917619 464, E 917620 465, E 917621 466, E 917622 467, E 917623 468, E 917624 469]⟩ 93 (tabOf b 511 ⟨[1, 32, 33, 34, 35, 36, 37, 38, 39, 40, 41, 42, 43, 44, 45, 46, 47, 48, 49, 50, 51, 52, 53, 54, 55, 56, 57, 58, 59, 60, 61, 62, 63, 64, 65, 66, 67, 68, 69, 70, 71, 72, 73, 74, 75, 76, 77, 78, 79, 80, 81, 82, 83, 84, 85, 86, 87, 88, 89, 90, 91, 92, 93, 94, 95, 96, 97, 98, 99, 100, 101, 102, 103, 104, 105, 106, 107, 108, 109, 110, 111, 112, 113, 114, 115, 116, 117, 118, 119, 120]⟩ 0 3)), ⟨[]⟩⟩
def o103v11 (b : Bool) (P : Params) : Obj := ⟨(.type "list_iterator"), none, (.fields ⟨[(.ref 101), (.int 90 0)]⟩), ⟨[]⟩⟩
def S45 (b : Bool) (v : World) (os : OsState) : SharedT := ⟨TH11r2 b v.params (o102v11 b v.params) (o103v11 b v.params), 104, life0, ⟨[]⟩, drawn0, 567, os⟩
def g11x20L (b : Bool) (v : World) (os : OsState) (k : Result → Sem Fin) (h : Option Value) (g : Bool) (l : List Value) (cd : Code) (p₀ : Pos) (kept : List Value) (f1 f2 f3 : Frame) := segGoT treeTable pw v 11 ann0 1 180 (S44 b v os) ⟨denote treeTable (.builtin "set.update.loop" ⟨[(.ref 102), (.ref 103)], []⟩), (.builtin "set.update.loop" ⟨[(.ref 102), (.ref 103)], []⟩), ⟨23, 9, 23, 52⟩, [.ret k h g l cd p₀ kept, f1, f2, f3]⟩
def g11x20R (b : Bool) (v : World) (os : OsState) (k : Result → Sem Fin) (h : Option Value) (g : Bool) (l : List Value) (cd : Code) (p₀ : Pos) (kept : List Value) (f1 f2 f3 : Frame) : Option (SharedT × Thread) := some (S45 b v os, ⟨denote treeTable (.builtin "set.update.loop" ⟨[(.ref 102), (.ref 103)], []⟩), (.builtin "set.update.loop" ⟨[(.ref 102), (.ref 103)], []⟩), ⟨23, 9, 23, 52⟩, [.ret k h g l cd p₀ kept, f1, f2, f3]⟩)
def g11x20Lff (w : World) := g11x20L true (W00 w)
def g11x20Rff (w : World) := g11x20R true (W00 w)
theorem g11x20ff_a : (fun (_ : Unit → Unit) => true) (fun _ => let _ := @g11x20Lff; let _ := @g11x20Rff; ()) = true := by k_qdec
theorem g11x20ff : @g11x20Lff = @g11x20Rff := PySem.W.Fast.te11488015626928580406.trans (Eq.trans (show @PySem.W.Fast.tw11488015626928580406 = @PySem.W.Fast.tw13946013575134540616 by kernel_rfl) PySem.W.Fast.te13946013575134540616.symm)
def g11x20Lft (w : World) := g11x20L true (W01 w)
def g11x20Rft (w : World) := g11x20R true (W01 w)
theorem g11x20ft_a : (fun (_ : Unit → Unit) => true) (fun _ => let _ := @g11x20Lft; let _ := @g11x20Rft; ()) = true := by k_qdec
theorem g11x20ft : @g11x20Lft = @g11x20Rft := PySem.W.Fast.te12435572221986583525.trans (Eq.trans (show @PySem.W.Fast.tw12435572221986583525 = @PySem.W.Fast.tw14037395927944768014 by kernel_rfl) PySem.W.Fast.te14037395927944768014.symm)
def g11x20Ltf (w : World) := g11x20L false (W10 w)
def g11x20Rtf (w : World) := g11x20R false (W10 w)
theorem g11x20tf_a : (fun (_ : Unit → Unit) => true) (fun _ => let _ := @g11x20Ltf; let _ := @g11x20Rtf; ()) = true := by k_qdec
theorem g11x20tf : @g11x20Ltf = @g11x20Rtf := PySem.W.Fast.te18175147163683545818.trans (Eq.trans (show @PySem.W.Fast.tw18175147163683545818 = @PySem.W.Fast.tw14147144855876441313 by kernel_rfl) PySem.W.Fast.te14147144855876441313.symm)
def g11x20Ltt (w : World) := g11x20L false (W11 w)
def g11x20Rtt (w : World) := g11x20R false (W11 w)
theorem g11x20tt_a : (fun (_ : Unit → Unit) => true) (fun _ => let _ := @g11x20Ltt; let _ := @g11x20Rtt; ()) = true := by k_qdec
theorem g11x20tt : @g11x20Ltt = @g11x20Rtt := PySem.W.Fast.te13028052430117504639.trans (Eq.trans (show @PySem.W.Fast.tw13028052430117504639 = @PySem.W.Fast.tw11410161739027755010 by kernel_rfl) PySem.W.Fast.te11410161739027755010.symm)
theorem g11x20 (w : World) : g11x20L (led w.params) w = g11x20R (led w.params) w := byFour (P := fun b w => g11x20L b w = g11x20R b w) (fun w => congrFun g11x20ff w) (fun w => congrFun g11x20ft w) (fun w => congrFun g11x20tf w) (fun w => congrFun g11x20tt w) w
theorem g11x20s (w : World) (os : OsState) : segGo treeTable pw w 11 ann0 1 180 (S44 (led w.params) w os).abs (g11x10th (led w.params) w os) = some ((S45 (led w.params) w os).abs, (g11x10th (led w.params) w os)) := segGo_of (show g11x20L (led w.params) w os (rK (g11x10raw (led w.params) w os)) (rH (g11x10raw (led w.params) w os)) (rG (g11x10raw (led w.params) w os)) (rL (g11x10raw (led w.params) w os)) (rC (g11x10raw (led w.params) w os)) (rP (g11x10raw (led w.params) w os)) (rT (g11x10raw (led w.params) w os)) (frAt (g11x10raw (led w.params) w os) 1) (frAt (g11x10raw (led w.params) w os) 2) (frAt (g11x10raw (led w.params) w os) 3) = g11x20R (led w.params) w os (rK (g11x10raw (led w.params) w os)) (rH (g11x10raw (led w.params) w os)) (rG (g11x10raw (led w.params) w os)) (rL (g11x10raw (led w.params) w os)) (rC (g11x10raw (led w.params) w os)) (rP (g11x10raw (led w.params) w os)) (rT (g11x10raw (led w.params) w os)) (frAt (g11x10raw (led w.params) w os) 1) (frAt (g11x10raw (led w.params) w os) 2) (frAt (g11x10raw (led w.params) w os) 3) by rw [g11x20])
def g11x21L (b : Bool) (v : World) (os : OsState) := segRunT treeTable pw v 11 ann0 1 167 (S45 b v os) (g11x10th b v os)
def g11x21R (b : Bool) (v : World) (os : OsState) : Option (Flow × SharedT × Code × Pos) := some (.next, S24 b v os, code0, ⟨23, 0, 23, 6⟩)
def g11x21Lff (w : World) := g11x21L true (W00 w)
def g11x21Rff (w : World) := g11x21R true (W00 w)
theorem g11x21ff_a : (fun (_ : Unit → Unit) => true) (fun _ => let _ := @g11x21Lff; let _ := @g11x21Rff; ()) = true := by k_qdec
theorem g11x21ff : @g11x21Lff = @g11x21Rff := PySem.W.Fast.te1929774315961062616.trans (Eq.trans (show @PySem.W.Fast.tw1929774315961062616 = @PySem.W.Fast.tw12145098526403900023 by kernel_rfl) PySem.W.Fast.te12145098526403900023.symm)
def g11x21Lft (w : World) := g11x21L true (W01 w)
def g11x21Rft (w : World) := g11x21R true (W01 w)
theorem g11x21ft_a : (fun (_ : Unit → Unit) => true) (fun _ => let _ := @g11x21Lft; let _ := @g11x21Rft; ()) = true := by k_qdec
theorem g11x21ft : @g11x21Lft = @g11x21Rft := PySem.W.Fast.te10848025114568256371.trans (Eq.trans (show @PySem.W.Fast.tw10848025114568256371 = @PySem.W.Fast.tw3065051121156836475 by kernel_rfl) PySem.W.Fast.te3065051121156836475.symm)
def g11x21Ltf (w : World) := g11x21L false (W10 w)
def g11x21Rtf (w : World) := g11x21R false (W10 w)
theorem g11x21tf_a : (fun (_ : Unit → Unit) => true) (fun _ => let _ := @g11x21Ltf; let _ := @g11x21Rtf; ()) = true := by k_qdec
theorem g11x21tf : @g11x21Ltf = @g11x21Rtf := PySem.W.Fast.te1516430463848270082.trans (Eq.trans (show @PySem.W.Fast.tw1516430463848270082 = @PySem.W.Fast.tw3111490503085557447 by kernel_rfl) PySem.W.Fast.te3111490503085557447.symm)
def g11x21Ltt (w : World) := g11x21L false (W11 w)
def g11x21Rtt (w : World) := g11x21R false (W11 w)
theorem g11x21tt_a : (fun (_ : Unit → Unit) => true) (fun _ => let _ := @g11x21Ltt; let _ := @g11x21Rtt; ()) = true := by k_qdec
theorem g11x21tt : @g11x21Ltt = @g11x21Rtt := PySem.W.Fast.te10563065867779280556.trans (Eq.trans (show @PySem.W.Fast.tw10563065867779280556 = @PySem.W.Fast.tw1812173047365821718 by kernel_rfl) PySem.W.Fast.te1812173047365821718.symm)
theorem g11x21 (w : World) : g11x21L (led w.params) w = g11x21R (led w.params) w := byFour (P := fun b w => g11x21L b w = g11x21R b w) (fun w => congrFun g11x21ff w) (fun w => congrFun g11x21ft w) (fun w => congrFun g11x21tf w) (fun w => congrFun g11x21tt w) w
theorem piece11 (w : World) (os : OsState) : segRun treeTable pw w 11 ann0 1 (87 + (170 + (170 + (170 + (170 + (170 + (170 + (170 + (170 + (170 + (161 + (182 + (180 + (182 + (180 + (180 + (180 + (180 + (180 + (182 + (180 + 167))))))))))))))))))))) (S23 (led w.params) w os).abs (th11 ⟨21, 0, 22, 30⟩) = some (.next, (S24 (led w.params) w os).abs, code0, ⟨23, 0, 23, 6⟩) :=
  (seg_go (g11x0s w os) (seg_go (g11x1s w os) (seg_go (g11x2s w os) (seg_go (g11x3s w os) (seg_go (g11x4s w os) (seg_go (g11x5s w os) (seg_go (g11x6s w os) (seg_go (g11x7s w os) (seg_go (g11x8s w os) (seg_go (g11x9s w os) (seg_go (g11x10s w os) (seg_go (g11x11s w os) (seg_go (g11x12s w os) (seg_go (g11x13s w os) (seg_go (g11x14s w os) (seg_go (g11x15s w os) (seg_go (g11x16s w os) (seg_go (g11x17s w os) (seg_go (g11x18s w os) (seg_go (g11x19s w os) (seg_go (g11x20s w os) (segRun_of (congrFun (g11x21 w) os)))))))))))))))))))))))
-- statement 12: 29 steps, 0 heads, cuts []
def o3v12 (b : Bool) (P : Params) : Obj := ⟨(.type "dict"), none, (.dict ⟨[D P "__name__" 165 (.str "cpy313.stringprep" 187), D P "__doc__" 166 .none, D P "__package__" 167 .none, D P "__loader__" 168 (.builtin "__main__.__loader__#opaque"), D P "__spec__" 169 .none, D P "__annotations__" 170 (.ref 6), D P "__builtins__" 171 (.ref 4), D P "__file__" 173 (.str "/claim/cut.py" 172), D P "__cached__" 174 .none, D P "b1_set" 248 (.ref 22), D P "in_table_b1" 255 (.ref 32), D P "in_table_c11" 262 (.ref 39), D P "in_table_c4" 270 (.ref 46), D P "c6_set" 284 (.ref 48), D P "in_table_c6" 291 (.ref 58), D P "c7_set" 319 (.ref 60), D P "in_table_c7" 326 (.ref 70), D P "c8_set" 367 (.ref 84), D P "in_table_c8" 374 (.ref 94), D P "c9_set" 574 (.ref 102), D P "in_table_c9" 581 (.ref 112)]⟩ 21), ⟨[]⟩⟩
def o12v7 (b : Bool) (P : Params) : Obj := ⟨.none, none, (.fields ⟨[(.int 3 0), (.int 0 0), (.ref 31), (.int 5 0), (.int 0 0), (.ref 38), (.int 7 0), (.int 0 0), (.ref 45), (.int 15 0), (.int 0 0), (.ref 57), (.int 18 0), (.int 0 0), (.ref 69), (.int 21 0), (.int 0 0), (.ref 93), (.int 24 0), (.int 0 0), (.ref 111)]⟩), ⟨[]⟩⟩
def o106v0 (b : Bool) (P : Params) : Obj := ⟨(.type "tuple"), none, (.seq ⟨[]⟩ 0), ⟨[]⟩⟩
def o107v0 (b : Bool) (P : Params) : Obj := ⟨.none, none, (.fields ⟨[]⟩), ⟨[]⟩⟩
def o108v0 (b : Bool) (P : Params) : Obj := ⟨(.type "tuple"), none, (.seq ⟨[(.str "code" 578)]⟩ 0), ⟨[]⟩⟩
def o109v0 (b : Bool) (P : Params) : Obj := ⟨(.type "tuple"), none, (.seq ⟨[]⟩ 0), ⟨[]⟩⟩
def o110v0 (b : Bool) (P : Params) : Obj := ⟨.none, none, (.func (fdOf 12 0 .none .none)), ⟨[]⟩⟩
def o111v0 (b : Bool) (P : Params) : Obj := ⟨(.type "code"), none, (.fields ⟨[(.str "in_table_c9" 575), (.str "in_table_c9" 576), (.str "/claim/cut.py" 577), (.int 24 0), (.int 1 0), (.int 0 0), (.int 0 0), (.int 3 0), (.ref 106), (.bool true), (.int 181 0), (.ref 107), .none, (.ref 108), (.ref 109), (.ref 110), (.int 579 0), (.int 24 0), (.str "/claim/cut.py" 580)]⟩), ⟨[]⟩⟩
def o112v0 (b : Bool) (P : Params) : Obj := ⟨(.type "function"), none, (.func (fdOf 12 3 (.str "cpy313.stringprep" 187) (.ref 111))), ⟨[]⟩⟩
def T46 (b : Bool) (P : Params) : BT := (N (bo boot_o_0 b P) (N (bo boot_o_1 b P) (N (o3v12 b P) (N (bo boot_o_7 b P) (N (o15v0 b P) (N (o31v0 b P) (N1 (o63v0 b P)) (N1 (o95v0 b P))) (N (o47v0 b P) (N1 (o79v0 b P)) (N1 (o111v0 b P)))) (N (o23v0 b P) (N (o39v0 b P) (N1 (o71v0 b P)) (N1 (o103v0 b P))) (N (o55v0 b P) (N1 (o87v0 b P)) X))) (N (o11v0 b P) (N (o19v0 b P) (N (o35v0 b P) (N1 (o67v0 b P)) (N1 (o99v0 b P))) (N (o51v0 b P) (N1 (o83v0 b P)) X)) (N (o27v0 b P) (N (o43v0 b P) (N1 (o75v0 b P)) (N1 (o107v0 b P))) (N (o59v0 b P) (N1 (o91v0 b P)) X)))) (N (bo boot_o_5 b P) (N (bo boot_o_9 b P) (N (o17v0 b P) (N (o33v0 b P) (N1 (o65v0 b P)) (N1 (o97v0 b P))) (N (o49v0 b P) (N1 (o81v0 b P)) X)) (N (o25v0 b P) (N (o41v0 b P) (N1 (o73v0 b P)) (N1 (o105v0 b P))) (N (o57v0 b P) (N1 (o89v0 b P)) X))) (N (o13v0 b P) (N (o21v0 b P) (N (o37v0 b P) (N1 (o69v0 b P)) (N1 (o101v0 b P))) (N (o53v0 b P) (N1 (o85v0 b P)) X)) (N (o29v0 b P) (N (o45v0 b P) (N1 (o77v0 b P)) (N1 (o109v0 b P))) (N (o61v0 b P) (N1 (o93v0 b P)) X))))) (N (bo boot_o_2 b P) (N (bo boot_o_4 b P) (N (bo boot_o_8 b P) (N (o16v0 b P) (N (o32v0 b P) (N1 (o64v0 b P)) (N1 (o96v0 b P))) (N (o48v0 b P) (N1 (o80v0 b P)) (N1 (o112v0 b P)))) (N (o24v0 b P) (N (o40v0 b P) (N1 (o72v0 b P)) (N1 (o104v0 b P))) (N (o56v0 b P) (N1 (o88v0 b P)) X))) (N (o12v7 b P) (N (o20v0 b P) (N (o36v0 b P) (N1 (o68v0 b P)) (N1 (o100v0 b P))) (N (o52v0 b P) (N1 (o84v0 b P)) X)) (N (o28v0 b P) (N (o44v0 b P) (N1 (o76v0 b P)) (N1 (o108v0 b P))) (N (o60v0 b P) (N1 (o92v0 b P)) X)))) (N (bo boot_o_6 b P) (N (bo boot_o_10 b P) (N (o18v0 b P) (N (o34v0 b P) (N1 (o66v0 b P)) (N1 (o98v0 b P))) (N (o50v0 b P) (N1 (o82v0 b P)) X)) (N (o26v0 b P) (N (o42v0 b P) (N1 (o74v0 b P)) (N1 (o106v0 b P))) (N (o58v0 b P) (N1 (o90v0 b P)) X))) (N (o14v0 b P) (N (o22v0 b P) (N (o38v0 b P) (N1 (o70v0 b P)) (N1 (o102v0 b P))) (N (o54v0 b P) (N1 (o86v0 b P)) X)) (N (o30v0 b P) (N (o46v0 b P) (N1 (o78v0 b P)) (N1 (o110v0 b P))) (N (o62v0 b P) (N1 (o94v0 b P)) X))))))
def S46 (b : Bool) (v : World) (os : OsState) : SharedT := ⟨T46 b v.params, 113, life0, ⟨[]⟩, drawn0, 582, os⟩
def th12 (pos : Pos) : Thread := piecesOf (st 12) env0 code0 pos [topFrame q0]
def g12x0L (b : Bool) (v : World) (os : OsState) := segRunT treeTable pw v 11 ann0 1 30 (S24 b v os) (th12 ⟨23, 0, 23, 6⟩)
def g12x0R (b : Bool) (v : World) (os : OsState) : Option (Flow × SharedT × Code × Pos) := some (.next, S46 b v os, code0, ⟨24, 0, 25, 30⟩)
def g12x0Lff (w : World) := g12x0L true (W00 w)
def g12x0Rff (w : World) := g12x0R true (W00 w)
theorem g12x0ff_a : (fun (_ : Unit → Unit) => true) (fun _ => let _ := @g12x0Lff; let _ := @g12x0Rff; ()) = true := by k_qdec
theorem g12x0ff : @g12x0Lff = @g12x0Rff := PySem.W.Fast.te8478022267776716685.trans (Eq.trans (show @PySem.W.Fast.tw8478022267776716685 = @PySem.W.Fast.tw3234853417851060979 by kernel_rfl) PySem.W.Fast.te3234853417851060979.symm)
def g12x0Lft (w : World) := g12x0L true (W01 w)
def g12x0Rft (w : World) := g12x0R true (W01 w)
theorem g12x0ft_a : (fun (_ : Unit → Unit) => true) (fun _ => let _ := @g12x0Lft; let _ := @g12x0Rft; ()) = true := by k_qdec
theorem g12x0ft : @g12x0Lft = @g12x0Rft := PySem.W.Fast.te664002267804329961.trans (Eq.trans (show @PySem.W.Fast.tw664002267804329961 = @PySem.W.Fast.tw4950344905784423088 by kernel_rfl) PySem.W.Fast.te4950344905784423088.symm)
def g12x0Ltf (w : World) := g12x0L false (W10 w)
def g12x0Rtf (w : World) := g12x0R false (W10 w)
theorem g12x0tf_a : (fun (_ : Unit → Unit) => true) (fun _ => let _ := @g12x0Ltf; let _ := @g12x0Rtf; ()) = true := by k_qdec
theorem g12x0tf : @g12x0Ltf = @g12x0Rtf := PySem.W.Fast.te4779127954823804125.trans (Eq.trans (show @PySem.W.Fast.tw4779127954823804125 = @PySem.W.Fast.tw17016639491040006778 by kernel_rfl) PySem.W.Fast.te17016639491040006778.symm)
def g12x0Ltt (w : World) := g12x0L false (W11 w)
def g12x0Rtt (w : World) := g12x0R false (W11 w)
theorem g12x0tt_a : (fun (_ : Unit → Unit) => true) (fun _ => let _ := @g12x0Ltt; let _ := @g12x0Rtt; ()) = true := by k_qdec
theorem g12x0tt : @g12x0Ltt = @g12x0Rtt := PySem.W.Fast.te17674044737044651936.trans (Eq.trans (show @PySem.W.Fast.tw17674044737044651936 = @PySem.W.Fast.tw14794617505427539684 by kernel_rfl) PySem.W.Fast.te14794617505427539684.symm)
theorem g12x0 (w : World) : g12x0L (led w.params) w = g12x0R (led w.params) w := byFour (P := fun b w => g12x0L b w = g12x0R b w) (fun w => congrFun g12x0ff w) (fun w => congrFun g12x0ft w) (fun w => congrFun g12x0tf w) (fun w => congrFun g12x0tt w) w
theorem piece12 (w : World) (os : OsState) : segRun treeTable pw w 11 ann0 1 30 (S24 (led w.params) w os).abs (th12 ⟨23, 0, 23, 6⟩) = some (.next, (S46 (led w.params) w os).abs, code0, ⟨24, 0, 25, 30⟩) :=
  (segRun_of (congrFun (g12x0 w) os))
-- statement 13: 9 steps, 0 heads, cuts []
def o3v13 (b : Bool) (P : Params) : Obj := ⟨(.type "dict"), none, (.dict ⟨[D P "__name__" 165 (.str "law_ki0082_01" 582), D P "__doc__" 166 .none, D P "__package__" 167 .none, D P "__loader__" 168 (.builtin "__main__.__loader__#opaque"), D P "__spec__" 169 .none, D P "__annotations__" 170 (.ref 6), D P "__builtins__" 171 (.ref 4), D P "__file__" 173 (.str "/claim/cut.py" 172), D P "__cached__" 174 .none, D P "b1_set" 248 (.ref 22), D P "in_table_b1" 255 (.ref 32), D P "in_table_c11" 262 (.ref 39), D P "in_table_c4" 270 (.ref 46), D P "c6_set" 284 (.ref 48), D P "in_table_c6" 291 (.ref 58), D P "c7_set" 319 (.ref 60), D P "in_table_c7" 326 (.ref 70), D P "c8_set" 367 (.ref 84), D P "in_table_c8" 374 (.ref 94), D P "c9_set" 574 (.ref 102), D P "in_table_c9" 581 (.ref 112)]⟩ 21), ⟨[]⟩⟩
def T47 (b : Bool) (P : Params) : BT := (N (bo boot_o_0 b P) (N (bo boot_o_1 b P) (N (o3v13 b P) (N (bo boot_o_7 b P) (N (o15v0 b P) (N (o31v0 b P) (N1 (o63v0 b P)) (N1 (o95v0 b P))) (N (o47v0 b P) (N1 (o79v0 b P)) (N1 (o111v0 b P)))) (N (o23v0 b P) (N (o39v0 b P) (N1 (o71v0 b P)) (N1 (o103v0 b P))) (N (o55v0 b P) (N1 (o87v0 b P)) X))) (N (o11v0 b P) (N (o19v0 b P) (N (o35v0 b P) (N1 (o67v0 b P)) (N1 (o99v0 b P))) (N (o51v0 b P) (N1 (o83v0 b P)) X)) (N (o27v0 b P) (N (o43v0 b P) (N1 (o75v0 b P)) (N1 (o107v0 b P))) (N (o59v0 b P) (N1 (o91v0 b P)) X)))) (N (bo boot_o_5 b P) (N (bo boot_o_9 b P) (N (o17v0 b P) (N (o33v0 b P) (N1 (o65v0 b P)) (N1 (o97v0 b P))) (N (o49v0 b P) (N1 (o81v0 b P)) X)) (N (o25v0 b P) (N (o41v0 b P) (N1 (o73v0 b P)) (N1 (o105v0 b P))) (N (o57v0 b P) (N1 (o89v0 b P)) X))) (N (o13v0 b P) (N (o21v0 b P) (N (o37v0 b P) (N1 (o69v0 b P)) (N1 (o101v0 b P))) (N (o53v0 b P) (N1 (o85v0 b P)) X)) (N (o29v0 b P) (N (o45v0 b P) (N1 (o77v0 b P)) (N1 (o109v0 b P))) (N (o61v0 b P) (N1 (o93v0 b P)) X))))) (N (bo boot_o_2 b P) (N (bo boot_o_4 b P) (N (bo boot_o_8 b P) (N (o16v0 b P) (N (o32v0 b P) (N1 (o64v0 b P)) (N1 (o96v0 b P))) (N (o48v0 b P) (N1 (o80v0 b P)) (N1 (o112v0 b P)))) (N (o24v0 b P) (N (o40v0 b P) (N1 (o72v0 b P)) (N1 (o104v0 b P))) (N (o56v0 b P) (N1 (o88v0 b P)) X))) (N (o12v7 b P) (N (o20v0 b P) (N (o36v0 b P) (N1 (o68v0 b P)) (N1 (o100v0 b P))) (N (o52v0 b P) (N1 (o84v0 b P)) X)) (N (o28v0 b P) (N (o44v0 b P) (N1 (o76v0 b P)) (N1 (o108v0 b P))) (N (o60v0 b P) (N1 (o92v0 b P)) X)))) (N (bo boot_o_6 b P) (N (bo boot_o_10 b P) (N (o18v0 b P) (N (o34v0 b P) (N1 (o66v0 b P)) (N1 (o98v0 b P))) (N (o50v0 b P) (N1 (o82v0 b P)) X)) (N (o26v0 b P) (N (o42v0 b P) (N1 (o74v0 b P)) (N1 (o106v0 b P))) (N (o58v0 b P) (N1 (o90v0 b P)) X))) (N (o14v0 b P) (N (o22v0 b P) (N (o38v0 b P) (N1 (o70v0 b P)) (N1 (o102v0 b P))) (N (o54v0 b P) (N1 (o86v0 b P)) X)) (N (o30v0 b P) (N (o46v0 b P) (N1 (o78v0 b P)) (N1 (o110v0 b P))) (N (o62v0 b P) (N1 (o94v0 b P)) X))))))
def S47 (b : Bool) (v : World) (os : OsState) : SharedT := ⟨T47 b v.params, 113, life0, ⟨[]⟩, drawn0, 584, os⟩
def th13 (pos : Pos) : Thread := piecesOf (st 13) env0 code0 pos [topFrame q0]
def g13x0L (b : Bool) (v : World) (os : OsState) := segRunT treeTable pw v 11 ann0 1 10 (S46 b v os) (th13 ⟨24, 0, 25, 30⟩)
def g13x0R (b : Bool) (v : World) (os : OsState) : Option (Flow × SharedT × Code × Pos) := some (.next, S47 b v os, code0, ⟨26, 0, 26, 8⟩)
def g13x0Lff (w : World) := g13x0L true (W00 w)
def g13x0Rff (w : World) := g13x0R true (W00 w)
theorem g13x0ff_a : (fun (_ : Unit → Unit) => true) (fun _ => let _ := @g13x0Lff; let _ := @g13x0Rff; ()) = true := by k_qdec
theorem g13x0ff : @g13x0Lff = @g13x0Rff := PySem.W.Fast.te9214969746482618117.trans (Eq.trans (show @PySem.W.Fast.tw9214969746482618117 = @PySem.W.Fast.tw14203920426781767702 by kernel_rfl) PySem.W.Fast.te14203920426781767702.symm)
def g13x0Lft (w : World) := g13x0L true (W01 w)
def g13x0Rft (w : World) := g13x0R true (W01 w)
theorem g13x0ft_a : (fun (_ : Unit → Unit) => true) (fun _ => let _ := @g13x0Lft; let _ := @g13x0Rft; ()) = true := by k_qdec
theorem g13x0ft : @g13x0Lft = @g13x0Rft := PySem.W.Fast.te575819116091908937.trans (Eq.trans (show @PySem.W.Fast.tw575819116091908937 = @PySem.W.Fast.tw9101300811190869424 by kernel_rfl) PySem.W.Fast.te9101300811190869424.symm)
def g13x0Ltf (w : World) := g13x0L false (W10 w)
def g13x0Rtf (w : World) := g13x0R false (W10 w)
theorem g13x0tf_a : (fun (_ : Unit → Unit) => true) (fun _ => let _ := @g13x0Ltf; let _ := @g13x0Rtf; ()) = true := by k_qdec
theorem g13x0tf : @g13x0Ltf = @g13x0Rtf := PySem.W.Fast.te12750672327030778879.trans (Eq.trans (show @PySem.W.Fast.tw12750672327030778879 = @PySem.W.Fast.tw5188679815803092654 by kernel_rfl) PySem.W.Fast.te5188679815803092654.symm)
def g13x0Ltt (w : World) := g13x0L false (W11 w)
def g13x0Rtt (w : World) := g13x0R false (W11 w)
theorem g13x0tt_a : (fun (_ : Unit → Unit) => true) (fun _ => let _ := @g13x0Ltt; let _ := @g13x0Rtt; ()) = true := by k_qdec
theorem g13x0tt : @g13x0Ltt = @g13x0Rtt := PySem.W.Fast.te12584288714015760274.trans (Eq.trans (show @PySem.W.Fast.tw12584288714015760274 = @PySem.W.Fast.tw4258988177859394391 by kernel_rfl) PySem.W.Fast.te4258988177859394391.symm)
theorem g13x0 (w : World) : g13x0L (led w.params) w = g13x0R (led w.params) w := byFour (P := fun b w => g13x0L b w = g13x0R b w) (fun w => congrFun g13x0ff w) (fun w => congrFun g13x0ft w) (fun w => congrFun g13x0tf w) (fun w => congrFun g13x0tt w) w
theorem piece13 (w : World) (os : OsState) : segRun treeTable pw w 11 ann0 1 10 (S46 (led w.params) w os).abs (th13 ⟨24, 0, 25, 30⟩) = some (.next, (S47 (led w.params) w os).abs, code0, ⟨26, 0, 26, 8⟩) :=
  (segRun_of (congrFun (g13x0 w) os))
-- statement 14: 26 steps, 0 heads, cuts []
def o3v14 (b : Bool) (P : Params) : Obj := ⟨(.type "dict"), none, (.dict ⟨[D P "__name__" 165 (.str "law_ki0082_01" 582), D P "__doc__" 166 .none, D P "__package__" 167 .none, D P "__loader__" 168 (.builtin "__main__.__loader__#opaque"), D P "__spec__" 169 .none, D P "__annotations__" 170 (.ref 6), D P "__builtins__" 171 (.ref 4), D P "__file__" 173 (.str "/claim/cut.py" 172), D P "__cached__" 174 .none, D P "b1_set" 248 (.ref 22), D P "in_table_b1" 255 (.ref 32), D P "in_table_c11" 262 (.ref 39), D P "in_table_c4" 270 (.ref 46), D P "c6_set" 284 (.ref 48), D P "in_table_c6" 291 (.ref 58), D P "c7_set" 319 (.ref 60), D P "in_table_c7" 326 (.ref 70), D P "c8_set" 367 (.ref 84), D P "in_table_c8" 374 (.ref 94), D P "c9_set" 574 (.ref 102), D P "in_table_c9" 581 (.ref 112), D P "_law_tables" 589 (.ref 117)]⟩ 22), ⟨[]⟩⟩
def o12v8 (b : Bool) (P : Params) : Obj := ⟨.none, none, (.fields ⟨[(.int 3 0), (.int 0 0), (.ref 31), (.int 5 0), (.int 0 0), (.ref 38), (.int 7 0), (.int 0 0), (.ref 45), (.int 15 0), (.int 0 0), (.ref 57), (.int 18 0), (.int 0 0), (.ref 69), (.int 21 0), (.int 0 0), (.ref 93), (.int 24 0), (.int 0 0), (.ref 111), (.int 27 0), (.int 0 0), (.ref 116)]⟩), ⟨[]⟩⟩
def o113v0 (b : Bool) (P : Params) : Obj := ⟨(.type "tuple"), none, (.seq ⟨[]⟩ 0), ⟨[]⟩⟩
def o114v0 (b : Bool) (P : Params) : Obj := ⟨.none, none, (.fields ⟨[]⟩), ⟨[]⟩⟩
def o115v0 (b : Bool) (P : Params) : Obj := ⟨.none, none, (.func (fdOf 14 0 .none .none)), ⟨[]⟩⟩
def o116v0 (b : Bool) (P : Params) : Obj := ⟨(.type "code"), none, (.fields ⟨[(.str "_law_tables" 584), (.str "_law_tables" 585), (.str "/claim/cut.py" 586), (.int 27 0), (.int 0 0), (.int 0 0), (.int 0 0), (.int 3 0), (.ref 113), (.bool true), (.int 181 0), (.ref 114), .none, .none, .none, (.ref 115), (.int 587 0), (.int 27 0), (.str "/claim/cut.py" 588)]⟩), ⟨[]⟩⟩
def o117v0 (b : Bool) (P : Params) : Obj := ⟨(.type "function"), none, (.func (fdOf 14 3 (.str "law_ki0082_01" 582) (.ref 116))), ⟨[]⟩⟩
def T48 (b : Bool) (P : Params) : BT := (N (bo boot_o_0 b P) (N (bo boot_o_1 b P) (N (o3v14 b P) (N (bo boot_o_7 b P) (N (o15v0 b P) (N (o31v0 b P) (N1 (o63v0 b P)) (N1 (o95v0 b P))) (N (o47v0 b P) (N1 (o79v0 b P)) (N1 (o111v0 b P)))) (N (o23v0 b P) (N (o39v0 b P) (N1 (o71v0 b P)) (N1 (o103v0 b P))) (N (o55v0 b P) (N1 (o87v0 b P)) X))) (N (o11v0 b P) (N (o19v0 b P) (N (o35v0 b P) (N1 (o67v0 b P)) (N1 (o99v0 b P))) (N (o51v0 b P) (N1 (o83v0 b P)) (N1 (o115v0 b P)))) (N (o27v0 b P) (N (o43v0 b P) (N1 (o75v0 b P)) (N1 (o107v0 b P))) (N (o59v0 b P) (N1 (o91v0 b P)) X)))) (N (bo boot_o_5 b P) (N (bo boot_o_9 b P) (N (o17v0 b P) (N (o33v0 b P) (N1 (o65v0 b P)) (N1 (o97v0 b P))) (N (o49v0 b P) (N1 (o81v0 b P)) (N1 (o113v0 b P)))) (N (o25v0 b P) (N (o41v0 b P) (N1 (o73v0 b P)) (N1 (o105v0 b P))) (N (o57v0 b P) (N1 (o89v0 b P)) X))) (N (o13v0 b P) (N (o21v0 b P) (N (o37v0 b P) (N1 (o69v0 b P)) (N1 (o101v0 b P))) (N (o53v0 b P) (N1 (o85v0 b P)) (N1 (o117v0 b P)))) (N (o29v0 b P) (N (o45v0 b P) (N1 (o77v0 b P)) (N1 (o109v0 b P))) (N (o61v0 b P) (N1 (o93v0 b P)) X))))) (N (bo boot_o_2 b P) (N (bo boot_o_4 b P) (N (bo boot_o_8 b P) (N (o16v0 b P) (N (o32v0 b P) (N1 (o64v0 b P)) (N1 (o96v0 b P))) (N (o48v0 b P) (N1 (o80v0 b P)) (N1 (o112v0 b P)))) (N (o24v0 b P) (N (o40v0 b P) (N1 (o72v0 b P)) (N1 (o104v0 b P))) (N (o56v0 b P) (N1 (o88v0 b P)) X))) (N (o12v8 b P) (N (o20v0 b P) (N (o36v0 b P) (N1 (o68v0 b P)) (N1 (o100v0 b P))) (N (o52v0 b P) (N1 (o84v0 b P)) (N1 (o116v0 b P)))) (N (o28v0 b P) (N (o44v0 b P) (N1 (o76v0 b P)) (N1 (o108v0 b P))) (N (o60v0 b P) (N1 (o92v0 b P)) X)))) (N (bo boot_o_6 b P) (N (bo boot_o_10 b P) (N (o18v0 b P) (N (o34v0 b P) (N1 (o66v0 b P)) (N1 (o98v0 b P))) (N (o50v0 b P) (N1 (o82v0 b P)) (N1 (o114v0 b P)))) (N (o26v0 b P) (N (o42v0 b P) (N1 (o74v0 b P)) (N1 (o106v0 b P))) (N (o58v0 b P) (N1 (o90v0 b P)) X))) (N (o14v0 b P) (N (o22v0 b P) (N (o38v0 b P) (N1 (o70v0 b P)) (N1 (o102v0 b P))) (N (o54v0 b P) (N1 (o86v0 b P)) X)) (N (o30v0 b P) (N (o46v0 b P) (N1 (o78v0 b P)) (N1 (o110v0 b P))) (N (o62v0 b P) (N1 (o94v0 b P)) X))))))
def S48 (b : Bool) (v : World) (os : OsState) : SharedT := ⟨T48 b v.params, 118, life0, ⟨[]⟩, drawn0, 590, os⟩
def th14 (pos : Pos) : Thread := piecesOf (st 14) env0 code0 pos [topFrame q0]
def g14x0L (b : Bool) (v : World) (os : OsState) := segRunT treeTable pw v 11 ann0 1 27 (S47 b v os) (th14 ⟨26, 0, 26, 8⟩)
def g14x0R (b : Bool) (v : World) (os : OsState) : Option (Flow × SharedT × Code × Pos) := some (.next, S48 b v os, code0, ⟨27, 0, 28, 359⟩)
def g14x0Lff (w : World) := g14x0L true (W00 w)
def g14x0Rff (w : World) := g14x0R true (W00 w)
theorem g14x0ff_a : (fun (_ : Unit → Unit) => true) (fun _ => let _ := @g14x0Lff; let _ := @g14x0Rff; ()) = true := by k_qdec
theorem g14x0ff : @g14x0Lff = @g14x0Rff := PySem.W.Fast.te12089329468110613652.trans (Eq.trans (show @PySem.W.Fast.tw12089329468110613652 = @PySem.W.Fast.tw12430156777965316710 by kernel_rfl) PySem.W.Fast.te12430156777965316710.symm)
def g14x0Lft (w : World) := g14x0L true (W01 w)
def g14x0Rft (w : World) := g14x0R true (W01 w)
theorem g14x0ft_a : (fun (_ : Unit → Unit) => true) (fun _ => let _ := @g14x0Lft; let _ := @g14x0Rft; ()) = true := by k_qdec
theorem g14x0ft : @g14x0Lft = @g14x0Rft := PySem.W.Fast.te15768629692320274575.trans (Eq.trans (show @PySem.W.Fast.tw15768629692320274575 = @PySem.W.Fast.tw7939194099325300582 by kernel_rfl) PySem.W.Fast.te7939194099325300582.symm)
def g14x0Ltf (w : World) := g14x0L false (W10 w)
def g14x0Rtf (w : World) := g14x0R false (W10 w)
theorem g14x0tf_a : (fun (_ : Unit → Unit) => true) (fun _ => let _ := @g14x0Ltf; let _ := @g14x0Rtf; ()) = true := by k_qdec
theorem g14x0tf : @g14x0Ltf = @g14x0Rtf := PySem.W.Fast.te10087323845053068701.trans (Eq.trans (show @PySem.W.Fast.tw10087323845053068701 = @PySem.W.Fast.tw5906571935727163051 by kernel_rfl) PySem.W.Fast.te5906571935727163051.symm)
def g14x0Ltt (w : World) := g14x0L false (W11 w)
def g14x0Rtt (w : World) := g14x0R false (W11 w)
theorem g14x0tt_a : (fun (_ : Unit → Unit) => true) (fun _ => let _ := @g14x0Ltt; let _ := @g14x0Rtt; ()) = true := by k_qdec
theorem g14x0tt : @g14x0Ltt = @g14x0Rtt := PySem.W.Fast.te12902504155340308998.trans (Eq.trans (show @PySem.W.Fast.tw12902504155340308998 = @PySem.W.Fast.tw6874069373436235946 by kernel_rfl) PySem.W.Fast.te6874069373436235946.symm)
theorem g14x0 (w : World) : g14x0L (led w.params) w = g14x0R (led w.params) w := byFour (P := fun b w => g14x0L b w = g14x0R b w) (fun w => congrFun g14x0ff w) (fun w => congrFun g14x0ft w) (fun w => congrFun g14x0tf w) (fun w => congrFun g14x0tt w) w
theorem piece14 (w : World) (os : OsState) : segRun treeTable pw w 11 ann0 1 27 (S47 (led w.params) w os).abs (th14 ⟨26, 0, 26, 8⟩) = some (.next, (S48 (led w.params) w os).abs, code0, ⟨27, 0, 28, 359⟩) :=
  (segRun_of (congrFun (g14x0 w) os))
-- statement 15: 26 steps, 0 heads, cuts []
def o3v15 (b : Bool) (P : Params) : Obj := ⟨(.type "dict"), none, (.dict ⟨[D P "__name__" 165 (.str "law_ki0082_01" 582), D P "__doc__" 166 .none, D P "__package__" 167 .none, D P "__loader__" 168 (.builtin "__main__.__loader__#opaque"), D P "__spec__" 169 .none, D P "__annotations__" 170 (.ref 6), D P "__builtins__" 171 (.ref 4), D P "__file__" 173 (.str "/claim/cut.py" 172), D P "__cached__" 174 .none, D P "b1_set" 248 (.ref 22), D P "in_table_b1" 255 (.ref 32), D P "in_table_c11" 262 (.ref 39), D P "in_table_c4" 270 (.ref 46), D P "c6_set" 284 (.ref 48), D P "in_table_c6" 291 (.ref 58), D P "c7_set" 319 (.ref 60), D P "in_table_c7" 326 (.ref 70), D P "c8_set" 367 (.ref 84), D P "in_table_c8" 374 (.ref 94), D P "c9_set" 574 (.ref 102), D P "in_table_c9" 581 (.ref 112), D P "_law_tables" 589 (.ref 117), D P "_law_within" 595 (.ref 122)]⟩ 23), ⟨[]⟩⟩
def o12v9 (b : Bool) (P : Params) : Obj := ⟨.none, none, (.fields ⟨[(.int 3 0), (.int 0 0), (.ref 31), (.int 5 0), (.int 0 0), (.ref 38), (.int 7 0), (.int 0 0), (.ref 45), (.int 15 0), (.int 0 0), (.ref 57), (.int 18 0), (.int 0 0), (.ref 69), (.int 21 0), (.int 0 0), (.ref 93), (.int 24 0), (.int 0 0), (.ref 111), (.int 27 0), (.int 0 0), (.ref 116), (.int 29 0), (.int 0 0), (.ref 121)]⟩), ⟨[]⟩⟩
def o118v0 (b : Bool) (P : Params) : Obj := ⟨(.type "tuple"), none, (.seq ⟨[]⟩ 0), ⟨[]⟩⟩
def o119v0 (b : Bool) (P : Params) : Obj := ⟨.none, none, (.fields ⟨[]⟩), ⟨[]⟩⟩
def o120v0 (b : Bool) (P : Params) : Obj := ⟨.none, none, (.func (fdOf 15 0 .none .none)), ⟨[]⟩⟩
def o121v0 (b : Bool) (P : Params) : Obj := ⟨(.type "code"), none, (.fields ⟨[(.str "_law_within" 590), (.str "_law_within" 591), (.str "/claim/cut.py" 592), (.int 29 0), (.int 2 0), (.int 0 0), (.int 0 0), (.int 3 0), (.ref 118), (.bool true), (.int 181 0), (.ref 119), .none, .none, .none, (.ref 120), (.int 593 0), (.int 29 0), (.str "/claim/cut.py" 594)]⟩), ⟨[]⟩⟩
def o122v0 (b : Bool) (P : Params) : Obj := ⟨(.type "function"), none, (.func (fdOf 15 3 (.str "law_ki0082_01" 582) (.ref 121))), ⟨[]⟩⟩
def T49 (b : Bool) (P : Params) : BT := (N (bo boot_o_0 b P) (N (bo boot_o_1 b P) (N (o3v15 b P) (N (bo boot_o_7 b P) (N (o15v0 b P) (N (o31v0 b P) (N1 (o63v0 b P)) (N1 (o95v0 b P))) (N (o47v0 b P) (N1 (o79v0 b P)) (N1 (o111v0 b P)))) (N (o23v0 b P) (N (o39v0 b P) (N1 (o71v0 b P)) (N1 (o103v0 b P))) (N (o55v0 b P) (N1 (o87v0 b P)) (N1 (o119v0 b P))))) (N (o11v0 b P) (N (o19v0 b P) (N (o35v0 b P) (N1 (o67v0 b P)) (N1 (o99v0 b P))) (N (o51v0 b P) (N1 (o83v0 b P)) (N1 (o115v0 b P)))) (N (o27v0 b P) (N (o43v0 b P) (N1 (o75v0 b P)) (N1 (o107v0 b P))) (N (o59v0 b P) (N1 (o91v0 b P)) X)))) (N (bo boot_o_5 b P) (N (bo boot_o_9 b P) (N (o17v0 b P) (N (o33v0 b P) (N1 (o65v0 b P)) (N1 (o97v0 b P))) (N (o49v0 b P) (N1 (o81v0 b P)) (N1 (o113v0 b P)))) (N (o25v0 b P) (N (o41v0 b P) (N1 (o73v0 b P)) (N1 (o105v0 b P))) (N (o57v0 b P) (N1 (o89v0 b P)) (N1 (o121v0 b P))))) (N (o13v0 b P) (N (o21v0 b P) (N (o37v0 b P) (N1 (o69v0 b P)) (N1 (o101v0 b P))) (N (o53v0 b P) (N1 (o85v0 b P)) (N1 (o117v0 b P)))) (N (o29v0 b P) (N (o45v0 b P) (N1 (o77v0 b P)) (N1 (o109v0 b P))) (N (o61v0 b P) (N1 (o93v0 b P)) X))))) (N (bo boot_o_2 b P) (N (bo boot_o_4 b P) (N (bo boot_o_8 b P) (N (o16v0 b P) (N (o32v0 b P) (N1 (o64v0 b P)) (N1 (o96v0 b P))) (N (o48v0 b P) (N1 (o80v0 b P)) (N1 (o112v0 b P)))) (N (o24v0 b P) (N (o40v0 b P) (N1 (o72v0 b P)) (N1 (o104v0 b P))) (N (o56v0 b P) (N1 (o88v0 b P)) (N1 (o120v0 b P))))) (N (o12v9 b P) (N (o20v0 b P) (N (o36v0 b P) (N1 (o68v0 b P)) (N1 (o100v0 b P))) (N (o52v0 b P) (N1 (o84v0 b P)) (N1 (o116v0 b P)))) (N (o28v0 b P) (N (o44v0 b P) (N1 (o76v0 b P)) (N1 (o108v0 b P))) (N (o60v0 b P) (N1 (o92v0 b P)) X)))) (N (bo boot_o_6 b P) (N (bo boot_o_10 b P) (N (o18v0 b P) (N (o34v0 b P) (N1 (o66v0 b P)) (N1 (o98v0 b P))) (N (o50v0 b P) (N1 (o82v0 b P)) (N1 (o114v0 b P)))) (N (o26v0 b P) (N (o42v0 b P) (N1 (o74v0 b P)) (N1 (o106v0 b P))) (N (o58v0 b P) (N1 (o90v0 b P)) (N1 (o122v0 b P))))) (N (o14v0 b P) (N (o22v0 b P) (N (o38v0 b P) (N1 (o70v0 b P)) (N1 (o102v0 b P))) (N (o54v0 b P) (N1 (o86v0 b P)) (N1 (o118v0 b P)))) (N (o30v0 b P) (N (o46v0 b P) (N1 (o78v0 b P)) (N1 (o110v0 b P))) (N (o62v0 b P) (N1 (o94v0 b P)) X))))))
def S49 (b : Bool) (v : World) (os : OsState) : SharedT := ⟨T49 b v.params, 123, life0, ⟨[]⟩, drawn0, 596, os⟩
def th15 (pos : Pos) : Thread := piecesOf (st 15) env0 code0 pos [topFrame q0]
def g15x0L (b : Bool) (v : World) (os : OsState) := segRunT treeTable pw v 11 ann0 1 27 (S48 b v os) (th15 ⟨27, 0, 28, 359⟩)
def g15x0R (b : Bool) (v : World) (os : OsState) : Option (Flow × SharedT × Code × Pos) := some (.next, S49 b v os, code0, ⟨29, 0, 30, 68⟩)
def g15x0Lff (w : World) := g15x0L true (W00 w)
def g15x0Rff (w : World) := g15x0R true (W00 w)
theorem g15x0ff_a : (fun (_ : Unit → Unit) => true) (fun _ => let _ := @g15x0Lff; let _ := @g15x0Rff; ()) = true := by k_qdec
theorem g15x0ff : @g15x0Lff = @g15x0Rff := PySem.W.Fast.te7444212874120375342.trans (Eq.trans (show @PySem.W.Fast.tw7444212874120375342 = @PySem.W.Fast.tw2479771743283722780 by kernel_rfl) PySem.W.Fast.te2479771743283722780.symm)
def g15x0Lft (w : World) := g15x0L true (W01 w)
def g15x0Rft (w : World) := g15x0R true (W01 w)
theorem g15x0ft_a : (fun (_ : Unit → Unit) => true) (fun _ => let _ := @g15x0Lft; let _ := @g15x0Rft; ()) = true := by k_qdec
theorem g15x0ft : @g15x0Lft = @g15x0Rft := PySem.W.Fast.te3437493800469978656.trans (Eq.trans (show @PySem.W.Fast.tw3437493800469978656 = @PySem.W.Fast.tw1094997295859313035 by kernel_rfl) PySem.W.Fast.te1094997295859313035.symm)
def g15x0Ltf (w : World) := g15x0L false (W10 w)
def g15x0Rtf (w : World) := g15x0R false (W10 w)
theorem g15x0tf_a : (fun (_ : Unit → Unit) => true) (fun _ => let _ := @g15x0Ltf; let _ := @g15x0Rtf; ()) = true := by k_qdec
theorem g15x0tf : @g15x0Ltf = @g15x0Rtf := PySem.W.Fast.te8884800705539859085.trans (Eq.trans (show @PySem.W.Fast.tw8884800705539859085 = @PySem.W.Fast.tw4533637323389161228 by kernel_rfl) PySem.W.Fast.te4533637323389161228.symm)
def g15x0Ltt (w : World) := g15x0L false (W11 w)
def g15x0Rtt (w : World) := g15x0R false (W11 w)
theorem g15x0tt_a : (fun (_ : Unit → Unit) => true) (fun _ => let _ := @g15x0Ltt; let _ := @g15x0Rtt; ()) = true := by k_qdec
theorem g15x0tt : @g15x0Ltt = @g15x0Rtt := PySem.W.Fast.te9634913177742980366.trans (Eq.trans (show @PySem.W.Fast.tw9634913177742980366 = @PySem.W.Fast.tw5131877437333942592 by kernel_rfl) PySem.W.Fast.te5131877437333942592.symm)
theorem g15x0 (w : World) : g15x0L (led w.params) w = g15x0R (led w.params) w := byFour (P := fun b w => g15x0L b w = g15x0R b w) (fun w => congrFun g15x0ff w) (fun w => congrFun g15x0ft w) (fun w => congrFun g15x0tf w) (fun w => congrFun g15x0tt w) w
theorem piece15 (w : World) (os : OsState) : segRun treeTable pw w 11 ann0 1 27 (S48 (led w.params) w os).abs (th15 ⟨27, 0, 28, 359⟩) = some (.next, (S49 (led w.params) w os).abs, code0, ⟨29, 0, 30, 68⟩) :=
  (segRun_of (congrFun (g15x0 w) os))
-- statement 16: 37 steps, 0 heads, cuts []
def o3v16 (b : Bool) (P : Params) : Obj := ⟨(.type "dict"), none, (.dict ⟨[D P "__name__" 165 (.str "law_ki0082_01" 582), D P "__doc__" 166 .none, D P "__package__" 167 .none, D P "__loader__" 168 (.builtin "__main__.__loader__#opaque"), D P "__spec__" 169 .none, D P "__annotations__" 170 (.ref 6), D P "__builtins__" 171 (.ref 4), D P "__file__" 173 (.str "/claim/cut.py" 172), D P "__cached__" 174 .none, D P "b1_set" 248 (.ref 22), D P "in_table_b1" 255 (.ref 32), D P "in_table_c11" 262 (.ref 39), D P "in_table_c4" 270 (.ref 46), D P "c6_set" 284 (.ref 48), D P "in_table_c6" 291 (.ref 58), D P "c7_set" 319 (.ref 60), D P "in_table_c7" 326 (.ref 70), D P "c8_set" 367 (.ref 84), D P "in_table_c8" 374 (.ref 94), D P "c9_set" 574 (.ref 102), D P "in_table_c9" 581 (.ref 112), D P "_law_tables" 589 (.ref 117), D P "_law_within" 595 (.ref 122), D P "_law_codes" 610 (.ref 129)]⟩ 24), ⟨[]⟩⟩
def o12v10 (b : Bool) (P : Params) : Obj := ⟨.none, none, (.fields ⟨[(.int 3 0), (.int 0 0), (.ref 31), (.int 5 0), (.int 0 0), (.ref 38), (.int 7 0), (.int 0 0), (.ref 45), (.int 15 0), (.int 0 0), (.ref 57), (.int 18 0), (.int 0 0), (.ref 69), (.int 21 0), (.int 0 0), (.ref 93), (.int 24 0), (.int 0 0), (.ref 111), (.int 27 0), (.int 0 0), (.ref 116), (.int 29 0), (.int 0 0), (.ref 121), (.int 31 0), (.int 0 0), (.ref 128)]⟩), ⟨[]⟩⟩
def o123v0 (b : Bool) (P : Params) : Obj := ⟨(.type "tuple"), none, (.seq ⟨[]⟩ 0), ⟨[]⟩⟩
def o124v0 (b : Bool) (P : Params) : Obj := ⟨.none, none, (.fields ⟨[]⟩), ⟨[]⟩⟩
def o125v0 (b : Bool) (P : Params) : Obj := ⟨(.type "tuple"), none, (.seq ⟨[(.str "script" 599), (.str "tables" 600), (.str "edges" 601), (.str "table" 602), (.str "low" 603), (.str "high" 604), (.str "codes" 605), (.str "number" 606), (.str "half" 607)]⟩ 0), ⟨[]⟩⟩
def o126v0 (b : Bool) (P : Params) : Obj := ⟨(.type "tuple"), none, (.seq ⟨[]⟩ 0), ⟨[]⟩⟩
def o127v0 (b : Bool) (P : Params) : Obj := ⟨.none, none, (.func (fdOf 16 0 .none .none)), ⟨[]⟩⟩
def o128v0 (b : Bool) (P : Params) : Obj := ⟨(.type "code"), none, (.fields ⟨[(.str "_law_codes" 596), (.str "_law_codes" 597), (.str "/claim/cut.py" 598), (.int 31 0), (.int 2 0), (.int 0 0), (.int 0 0), (.int 3 0), (.ref 123), (.bool true), (.int 181 0), (.ref 124), .none, (.ref 125), (.ref 126), (.ref 127), (.int 608 0), (.int 31 0), (.str "/claim/cut.py" 609)]⟩), ⟨[]⟩⟩
def o129v0 (b : Bool) (P : Params) : Obj := ⟨(.type "function"), none, (.func (fdOf 16 3 (.str "law_ki0082_01" 582) (.ref 128))), ⟨[]⟩⟩
def T50 (b : Bool) (P : Params) : BT := (N (bo boot_o_0 b P) (N (bo boot_o_1 b P) (N (o3v16 b P) (N (bo boot_o_7 b P) (N (o15v0 b P) (N (o31v0 b P) (N (o63v0 b P) (N1 (o127v0 b P)) X) (N1 (o95v0 b P))) (N (o47v0 b P) (N1 (o79v0 b P)) (N1 (o111v0 b P)))) (N (o23v0 b P) (N (o39v0 b P) (N1 (o71v0 b P)) (N1 (o103v0 b P))) (N (o55v0 b P) (N1 (o87v0 b P)) (N1 (o119v0 b P))))) (N (o11v0 b P) (N (o19v0 b P) (N (o35v0 b P) (N1 (o67v0 b P)) (N1 (o99v0 b P))) (N (o51v0 b P) (N1 (o83v0 b P)) (N1 (o115v0 b P)))) (N (o27v0 b P) (N (o43v0 b P) (N1 (o75v0 b P)) (N1 (o107v0 b P))) (N (o59v0 b P) (N1 (o91v0 b P)) (N1 (o123v0 b P)))))) (N (bo boot_o_5 b P) (N (bo boot_o_9 b P) (N (o17v0 b P) (N (o33v0 b P) (N (o65v0 b P) (N1 (o129v0 b P)) X) (N1 (o97v0 b P))) (N (o49v0 b P) (N1 (o81v0 b P)) (N1 (o113v0 b P)))) (N (o25v0 b P) (N (o41v0 b P) (N1 (o73v0 b P)) (N1 (o105v0 b P))) (N (o57v0 b P) (N1 (o89v0 b P)) (N1 (o121v0 b P))))) (N (o13v0 b P) (N (o21v0 b P) (N (o37v0 b P) (N1 (o69v0 b P)) (N1 (o101v0 b P))) (N (o53v0 b P) (N1 (o85v0 b P)) (N1 (o117v0 b P)))) (N (o29v0 b P) (N (o45v0 b P) (N1 (o77v0 b P)) (N1 (o109v0 b P))) (N (o61v0 b P) (N1 (o93v0 b P)) (N1 (o125v0 b P))))))) (N (bo boot_o_2 b P) (N (bo boot_o_4 b P) (N (bo boot_o_8 b P) (N (o16v0 b P) (N (o32v0 b P) (N (o64v0 b P) (N1 (o128v0 b P)) X) (N1 (o96v0 b P))) (N (o48v0 b P) (N1 (o80v0 b P)) (N1 (o112v0 b P)))) (N (o24v0 b P) (N (o40v0 b P) (N1 (o72v0 b P)) (N1 (o104v0 b P))) (N (o56v0 b P) (N1 (o88v0 b P)) (N1 (o120v0 b P))))) (N (o12v10 b P) (N (o20v0 b P) (N (o36v0 b P) (N1 (o68v0 b P)) (N1 (o100v0 b P))) (N (o52v0 b P) (N1 (o84v0 b P)) (N1 (o116v0 b P)))) (N (o28v0 b P) (N (o44v0 b P) (N1 (o76v0 b P)) (N1 (o108v0 b P))) (N (o60v0 b P) (N1 (o92v0 b P)) (N1 (o124v0 b P)))))) (N (bo boot_o_6 b P) (N (bo boot_o_10 b P) (N (o18v0 b P) (N (o34v0 b P) (N1 (o66v0 b P)) (N1 (o98v0 b P))) (N (o50v0 b P) (N1 (o82v0 b P)) (N1 (o114v0 b P)))) (N (o26v0 b P) (N (o42v0 b P) (N1 (o74v0 b P)) (N1 (o106v0 b P))) (N (o58v0 b P) (N1 (o90v0 b P)) (N1 (o122v0 b P))))) (N (o14v0 b P) (N (o22v0 b P) (N (o38v0 b P) (N1 (o70v0 b P)) (N1 (o102v0 b P))) (N (o54v0 b P) (N1 (o86v0 b P)) (N1 (o118v0 b P)))) (N (o30v0 b P) (N (o46v0 b P) (N1 (o78v0 b P)) (N1 (o110v0 b P))) (N (o62v0 b P) (N1 (o94v0 b P)) (N1 (o126v0 b P))))))))
def S50 (b : Bool) (v : World) (os : OsState) : SharedT := ⟨T50 b v.params, 130, life0, ⟨[]⟩, drawn0, 611, os⟩
def th16 (pos : Pos) : Thread := piecesOf (st 16) env0 code0 pos [topFrame q0]
def g16x0L (b : Bool) (v : World) (os : OsState) := segRunT treeTable pw v 11 ann0 1 38 (S49 b v os) (th16 ⟨29, 0, 30, 68⟩)
def g16x0R (b : Bool) (v : World) (os : OsState) : Option (Flow × SharedT × Code × Pos) := some (.next, S50 b v os, code0, ⟨31, 0, 43, 16⟩)
def g16x0Lff (w : World) := g16x0L true (W00 w)
def g16x0Rff (w : World) := g16x0R true (W00 w)
theorem g16x0ff_a : (fun (_ : Unit → Unit) => true) (fun _ => let _ := @g16x0Lff; let _ := @g16x0Rff; ()) = true := by k_qdec
theorem g16x0ff : @g16x0Lff = @g16x0Rff := PySem.W.Fast.te9299586050028272409.trans (Eq.trans (show @PySem.W.Fast.tw9299586050028272409 = @PySem.W.Fast.tw456993990106064654 by kernel_rfl) PySem.W.Fast.te456993990106064654.symm)
def g16x0Lft (w : World) := g16x0L true (W01 w)
def g16x0Rft (w : World) := g16x0R true (W01 w)
theorem g16x0ft_a : (fun (_ : Unit → Unit) => true) (fun _ => let _ := @g16x0Lft; let _ := @g16x0Rft; ()) = true := by k_qdec
theorem g16x0ft : @g16x0Lft = @g16x0Rft := PySem.W.Fast.te18330408553866247188.trans (Eq.trans (show @PySem.W.Fast.tw18330408553866247188 = @PySem.W.Fast.tw8669060468366129870 by kernel_rfl) PySem.W.Fast.te8669060468366129870.symm)
def g16x0Ltf (w : World) := g16x0L false (W10 w)
def g16x0Rtf (w : World) := g16x0R false (W10 w)
theorem g16x0tf_a : (fun (_ : Unit → Unit) => true) (fun _ => let _ := @g16x0Ltf; let _ := @g16x0Rtf; ()) = true := by k_qdec
theorem g16x0tf : @g16x0Ltf = @g16x0Rtf := PySem.W.Fast.te1320566883419943390.trans (Eq.trans (show @PySem.W.Fast.tw1320566883419943390 = @PySem.W.Fast.tw9159012637196530994 by kernel_rfl) PySem.W.Fast.te9159012637196530994.symm)
def g16x0Ltt (w : World) := g16x0L false (W11 w)
def g16x0Rtt (w : World) := g16x0R false (W11 w)
theorem g16x0tt_a : (fun (_ : Unit → Unit) => true) (fun _ => let _ := @g16x0Ltt; let _ := @g16x0Rtt; ()) = true := by k_qdec
theorem g16x0tt : @g16x0Ltt = @g16x0Rtt := PySem.W.Fast.te6169822519113368804.trans (Eq.trans (show @PySem.W.Fast.tw6169822519113368804 = @PySem.W.Fast.tw7137317266812609723 by kernel_rfl) PySem.W.Fast.te7137317266812609723.symm)
theorem g16x0 (w : World) : g16x0L (led w.params) w = g16x0R (led w.params) w := byFour (P := fun b w => g16x0L b w = g16x0R b w) (fun w => congrFun g16x0ff w) (fun w => congrFun g16x0ft w) (fun w => congrFun g16x0tf w) (fun w => congrFun g16x0tt w) w
theorem piece16 (w : World) (os : OsState) : segRun treeTable pw w 11 ann0 1 38 (S49 (led w.params) w os).abs (th16 ⟨29, 0, 30, 68⟩) = some (.next, (S50 (led w.params) w os).abs, code0, ⟨31, 0, 43, 16⟩) :=
  (segRun_of (congrFun (g16x0 w) os))
-- statement 17: 26 steps, 0 heads, cuts []
def o3v17 (b : Bool) (P : Params) : Obj := ⟨(.type "dict"), none, (.dict ⟨[D P "__name__" 165 (.str "law_ki0082_01" 582), D P "__doc__" 166 .none, D P "__package__" 167 .none, D P "__loader__" 168 (.builtin "__main__.__loader__#opaque"), D P "__spec__" 169 .none, D P "__annotations__" 170 (.ref 6), D P "__builtins__" 171 (.ref 4), D P "__file__" 173 (.str "/claim/cut.py" 172), D P "__cached__" 174 .none, D P "b1_set" 248 (.ref 22), D P "in_table_b1" 255 (.ref 32), D P "in_table_c11" 262 (.ref 39), D P "in_table_c4" 270 (.ref 46), D P "c6_set" 284 (.ref 48), D P "in_table_c6" 291 (.ref 58), D P "c7_set" 319 (.ref 60), D P "in_table_c7" 326 (.ref 70), D P "c8_set" 367 (.ref 84), D P "in_table_c8" 374 (.ref 94), D P "c9_set" 574 (.ref 102), D P "in_table_c9" 581 (.ref 112), D P "_law_tables" 589 (.ref 117), D P "_law_within" 595 (.ref 122), D P "_law_codes" 610 (.ref 129), D P "law" 616 (.ref 134)]⟩ 25), ⟨[]⟩⟩
def o12v11 (b : Bool) (P : Params) : Obj := ⟨.none, none, (.fields ⟨[(.int 3 0), (.int 0 0), (.ref 31), (.int 5 0), (.int 0 0), (.ref 38), (.int 7 0), (.int 0 0), (.ref 45), (.int 15 0), (.int 0 0), (.ref 57), (.int 18 0), (.int 0 0), (.ref 69), (.int 21 0), (.int 0 0), (.ref 93), (.int 24 0), (.int 0 0), (.ref 111), (.int 27 0), (.int 0 0), (.ref 116), (.int 29 0), (.int 0 0), (.ref 121), (.int 31 0), (.int 0 0), (.ref 128), (.int 44 0), (.int 0 0), (.ref 133)]⟩), ⟨[]⟩⟩
def o130v0 (b : Bool) (P : Params) : Obj := ⟨(.type "tuple"), none, (.seq ⟨[]⟩ 0), ⟨[]⟩⟩
def o131v0 (b : Bool) (P : Params) : Obj := ⟨.none, none, (.fields ⟨[]⟩), ⟨[]⟩⟩
def o132v0 (b : Bool) (P : Params) : Obj := ⟨.none, none, (.func (fdOf 17 0 .none .none)), ⟨[]⟩⟩
def o133v0 (b : Bool) (P : Params) : Obj := ⟨(.type "code"), none, (.fields ⟨[(.str "law" 611), (.str "law" 612), (.str "/claim/cut.py" 613), (.int 44 0), (.int 1 0), (.int 0 0), (.int 0 0), (.int 3 0), (.ref 130), (.bool true), (.int 181 0), (.ref 131), .none, .none, .none, (.ref 132), (.int 614 0), (.int 44 0), (.str "/claim/cut.py" 615)]⟩), ⟨[]⟩⟩
def o134v0 (b : Bool) (P : Params) : Obj := ⟨(.type "function"), none, (.func (fdOf 17 3 (.str "law_ki0082_01" 582) (.ref 133))), ⟨[]⟩⟩
def T51 (b : Bool) (P : Params) : BT := (N (bo boot_o_0 b P) (N (bo boot_o_1 b P) (N (o3v17 b P) (N (bo boot_o_7 b P) (N (o15v0 b P) (N (o31v0 b P) (N (o63v0 b P) (N1 (o127v0 b P)) X) (N1 (o95v0 b P))) (N (o47v0 b P) (N1 (o79v0 b P)) (N1 (o111v0 b P)))) (N (o23v0 b P) (N (o39v0 b P) (N1 (o71v0 b P)) (N1 (o103v0 b P))) (N (o55v0 b P) (N1 (o87v0 b P)) (N1 (o119v0 b P))))) (N (o11v0 b P) (N (o19v0 b P) (N (o35v0 b P) (N (o67v0 b P) (N1 (o131v0 b P)) X) (N1 (o99v0 b P))) (N (o51v0 b P) (N1 (o83v0 b P)) (N1 (o115v0 b P)))) (N (o27v0 b P) (N (o43v0 b P) (N1 (o75v0 b P)) (N1 (o107v0 b P))) (N (o59v0 b P) (N1 (o91v0 b P)) (N1 (o123v0 b P)))))) (N (bo boot_o_5 b P) (N (bo boot_o_9 b P) (N (o17v0 b P) (N (o33v0 b P) (N (o65v0 b P) (N1 (o129v0 b P)) X) (N1 (o97v0 b P))) (N (o49v0 b P) (N1 (o81v0 b P)) (N1 (o113v0 b P)))) (N (o25v0 b P) (N (o41v0 b P) (N1 (o73v0 b P)) (N1 (o105v0 b P))) (N (o57v0 b P) (N1 (o89v0 b P)) (N1 (o121v0 b P))))) (N (o13v0 b P) (N (o21v0 b P) (N (o37v0 b P) (N (o69v0 b P) (N1 (o133v0 b P)) X) (N1 (o101v0 b P))) (N (o53v0 b P) (N1 (o85v0 b P)) (N1 (o117v0 b P)))) (N (o29v0 b P) (N (o45v0 b P) (N1 (o77v0 b P)) (N1 (o109v0 b P))) (N (o61v0 b P) (N1 (o93v0 b P)) (N1 (o125v0 b P))))))) (N (bo boot_o_2 b P) (N (bo boot_o_4 b P) (N (bo boot_o_8 b P) (N (o16v0 b P) (N (o32v0 b P) (N (o64v0 b P) (N1 (o128v0 b P)) X) (N1 (o96v0 b P))) (N (o48v0 b P) (N1 (o80v0 b P)) (N1 (o112v0 b P)))) (N (o24v0 b P) (N (o40v0 b P) (N1 (o72v0 b P)) (N1 (o104v0 b P))) (N (o56v0 b P) (N1 (o88v0 b P)) (N1 (o120v0 b P))))) (N (o12v11 b P) (N (o20v0 b P) (N (o36v0 b P) (N (o68v0 b P) (N1 (o132v0 b P)) X) (N1 (o100v0 b P))) (N (o52v0 b P) (N1 (o84v0 b P)) (N1 (o116v0 b P)))) (N (o28v0 b P) (N (o44v0 b P) (N1 (o76v0 b P)) (N1 (o108v0 b P))) (N (o60v0 b P) (N1 (o92v0 b P)) (N1 (o124v0 b P)))))) (N (bo boot_o_6 b P) (N (bo boot_o_10 b P) (N (o18v0 b P) (N (o34v0 b P) (N (o66v0 b P) (N1 (o130v0 b P)) X) (N1 (o98v0 b P))) (N (o50v0 b P) (N1 (o82v0 b P)) (N1 (o114v0 b P)))) (N (o26v0 b P) (N (o42v0 b P) (N1 (o74v0 b P)) (N1 (o106v0 b P))) (N (o58v0 b P) (N1 (o90v0 b P)) (N1 (o122v0 b P))))) (N (o14v0 b P) (N (o22v0 b P) (N (o38v0 b P) (N (o70v0 b P) (N1 (o134v0 b P)) X) (N1 (o102v0 b P))) (N (o54v0 b P) (N1 (o86v0 b P)) (N1 (o118v0 b P)))) (N (o30v0 b P) (N (o46v0 b P) (N1 (o78v0 b P)) (N1 (o110v0 b P))) (N (o62v0 b P) (N1 (o94v0 b P)) (N1 (o126v0 b P))))))))
def S51 (b : Bool) (v : World) (os : OsState) : SharedT := ⟨T51 b v.params, 135, life0, ⟨[]⟩, drawn0, 617, os⟩
def th17 (pos : Pos) : Thread := piecesOf (st 17) env0 code0 pos [topFrame q0]
def g17x0L (b : Bool) (v : World) (os : OsState) := segRunT treeTable pw v 11 ann0 1 27 (S50 b v os) (th17 ⟨31, 0, 43, 16⟩)
def g17x0R (b : Bool) (v : World) (os : OsState) : Option (Flow × SharedT × Code × Pos) := some (.next, S51 b v os, code0, ⟨44, 0, 53, 15⟩)
def g17x0Lff (w : World) := g17x0L true (W00 w)
def g17x0Rff (w : World) := g17x0R true (W00 w)
theorem g17x0ff_a : (fun (_ : Unit → Unit) => true) (fun _ => let _ := @g17x0Lff; let _ := @g17x0Rff; ()) = true := by k_qdec
theorem g17x0ff : @g17x0Lff = @g17x0Rff := PySem.W.Fast.te3351909271275226620.trans (Eq.trans (show @PySem.W.Fast.tw3351909271275226620 = @PySem.W.Fast.tw12904161629670085003 by kernel_rfl) PySem.W.Fast.te12904161629670085003.symm)
def g17x0Lft (w : World) := g17x0L true (W01 w)
def g17x0Rft (w : World) := g17x0R true (W01 w)
theorem g17x0ft_a : (fun (_ : Unit → Unit) => true) (fun _ => let _ := @g17x0Lft; let _ := @g17x0Rft; ()) = true := by k_qdec
theorem g17x0ft : @g17x0Lft = @g17x0Rft := PySem.W.Fast.te10032442523967161389.trans (Eq.trans (show @PySem.W.Fast.tw10032442523967161389 = @PySem.W.Fast.tw4920746728165592379 by kernel_rfl) PySem.W.Fast.te4920746728165592379.symm)
def g17x0Ltf (w : World) := g17x0L false (W10 w)
def g17x0Rtf (w : World) := g17x0R false (W10 w)
theorem g17x0tf_a : (fun (_ : Unit → Unit) => true) (fun _ => let _ := @g17x0Ltf; let _ := @g17x0Rtf; ()) = true := by k_qdec
theorem g17x0tf : @g17x0Ltf = @g17x0Rtf := PySem.W.Fast.te4649942002480293628.trans (Eq.trans (show @PySem.W.Fast.tw4649942002480293628 = @PySem.W.Fast.tw11455512718891499433 by kernel_rfl) PySem.W.Fast.te11455512718891499433.symm)
def g17x0Ltt (w : World) := g17x0L false (W11 w)
def g17x0Rtt (w : World) := g17x0R false (W11 w)
theorem g17x0tt_a : (fun (_ : Unit → Unit) => true) (fun _ => let _ := @g17x0Ltt; let _ := @g17x0Rtt; ()) = true := by k_qdec
theorem g17x0tt : @g17x0Ltt = @g17x0Rtt := PySem.W.Fast.te3683878454727335289.trans (Eq.trans (show @PySem.W.Fast.tw3683878454727335289 = @PySem.W.Fast.tw16523445404171507302 by kernel_rfl) PySem.W.Fast.te16523445404171507302.symm)
theorem g17x0 (w : World) : g17x0L (led w.params) w = g17x0R (led w.params) w := byFour (P := fun b w => g17x0L b w = g17x0R b w) (fun w => congrFun g17x0ff w) (fun w => congrFun g17x0ft w) (fun w => congrFun g17x0tf w) (fun w => congrFun g17x0tt w) w
theorem piece17 (w : World) (os : OsState) : segRun treeTable pw w 11 ann0 1 27 (S50 (led w.params) w os).abs (th17 ⟨31, 0, 43, 16⟩) = some (.next, (S51 (led w.params) w os).abs, code0, ⟨44, 0, 53, 15⟩) :=
  (segRun_of (congrFun (g17x0 w) os))
end Mine

end partHA

noncomputable section partHB
open PySem PySem.W PyProof.Rows PySem.Calls
set_option Elab.async false
set_option maxRecDepth 100000
set_option linter.unusedVariables false
namespace Mine
def preL (w : World) (os : OsState) := topGo treeTable pw w 11 ann0 12 ⟨boot_heap w.params, ⟨[]⟩, boot_drawn, boot_toks, os⟩ (topStub pw)
def preR (w : World) (os : OsState) : Option (Shared × Thread) := some ((S0 (led w.params) w os).abs, ⟨denote treeTable code0, code0, q0, [topFrame q0]⟩)
def blkL (w : World) (os : OsState) := segRun treeTable pw w 11 ann0 1 1 (S0 (led w.params) w os).abs (blockOf (behindTheImports pw) env0 code0 q0 [topFrame q0])
def blkR (w : World) (os : OsState) : Option (Flow × Shared × Code × Pos) := some (.next, (S0 (led w.params) w os).abs, code0, q0)
def finL (w : World) (os : OsState) := topRun treeTable pw w 11 ann0 2 (S51 (led w.params) w os).abs ⟨doneF .next, code0, ⟨44, 0, 53, 15⟩, [topFrame q0]⟩
def finR (w : World) (os : OsState) : Option Shared := some (S51 (led w.params) w os).abs
theorem pre_a : (fun (_ : Unit → Unit) => true) (fun _ => let _ := @preL; let _ := @preR; ()) = true := by k_qdec
theorem blk_a : (fun (_ : Unit → Unit) => true) (fun _ => let _ := @blkL; let _ := @blkR; ()) = true := by k_qdec
theorem fin_a : (fun (_ : Unit → Unit) => true) (fun _ => let _ := @finL; let _ := @finR; ()) = true := by k_qdec
theorem pre_e : @preL = @preR := PySem.W.Fast.te1435067368052203930.trans (Eq.trans (show @PySem.W.Fast.tw1435067368052203930 = @PySem.W.Fast.tw17653279219239862775 by kernel_rfl) PySem.W.Fast.te17653279219239862775.symm)
theorem blk_e : @blkL = @blkR := PySem.W.Fast.te17163393078156831584.trans (Eq.trans (show @PySem.W.Fast.tw17163393078156831584 = @PySem.W.Fast.tw8616536883710013034 by kernel_rfl) PySem.W.Fast.te8616536883710013034.symm)
theorem fin_e : @finL = @finR := PySem.W.Fast.te8888714992180598707.trans (Eq.trans (show @PySem.W.Fast.tw8888714992180598707 = @PySem.W.Fast.tw10272301045346404311 by kernel_rfl) PySem.W.Fast.te10272301045346404311.symm)
theorem body_is : behindTheImports pw = st 0 ++ (st 1 ++ (st 2 ++ (st 3 ++ (st 4 ++ (st 5 ++ (st 6 ++ (st 7 ++ (st 8 ++ (st 9 ++ (st 10 ++ (st 11 ++ (st 12 ++ (st 13 ++ (st 14 ++ (st 15 ++ (st 16 ++ (st 17 ++ []))))))))))))))))) := by kernel_rfl
theorem rest_all (w : World) (os : OsState) : topRun treeTable pw w 11 ann0 (10 + ((97 + (170 + (161 + (182 + (180 + 209))))) + (30 + (30 + (31 + ((58 + 142) + (30 + ((58 + (186 + 117)) + (30 + ((90 + (195 + (161 + (182 + 147)))) + (30 + ((87 + (170 + (170 + (170 + (170 + (170 + (170 + (170 + (170 + (170 + (161 + (182 + (180 + (182 + (180 + (180 + (180 + (180 + (180 + (182 + (180 + 167))))))))))))))))))))) + (30 + (10 + (27 + (27 + (38 + (27 + 2)))))))))))))))))) (S0 (led w.params) w os).abs (restOf (st 0 ++ (st 1 ++ (st 2 ++ (st 3 ++ (st 4 ++ (st 5 ++ (st 6 ++ (st 7 ++ (st 8 ++ (st 9 ++ (st 10 ++ (st 11 ++ (st 12 ++ (st 13 ++ (st 14 ++ (st 15 ++ (st 16 ++ (st 17 ++ [])))))))))))))))))) env0 code0 q0 [topFrame q0]) = some (S51 (led w.params) w os).abs :=
  (piece_app (piece0 w os) (piece_app (piece1 w os) (piece_app (piece2 w os) (piece_app (piece3 w os) (piece_app (piece4 w os) (piece_app (piece5 w os) (piece_app (piece6 w os) (piece_app (piece7 w os) (piece_app (piece8 w os) (piece_app (piece9 w os) (piece_app (piece10 w os) (piece_app (piece11 w os) (piece_app (piece12 w os) (piece_app (piece13 w os) (piece_app (piece14 w os) (piece_app (piece15 w os) (piece_app (piece16 w os) (piece_app (piece17 w os) (piece_nil (congrFun (congrFun fin_e w) os))))))))))))))))))))
theorem run_all (w : World) (os : OsState) : topRun treeTable pw w 11 ann0 (12 + (1 + (10 + ((97 + (170 + (161 + (182 + (180 + 209))))) + (30 + (30 + (31 + ((58 + 142) + (30 + ((58 + (186 + 117)) + (30 + ((90 + (195 + (161 + (182 + 147)))) + (30 + ((87 + (170 + (170 + (170 + (170 + (170 + (170 + (170 + (170 + (170 + (161 + (182 + (180 + (182 + (180 + (180 + (180 + (180 + (180 + (182 + (180 + 167))))))))))))))))))))) + (30 + (10 + (27 + (27 + (38 + (27 + 2)))))))))))))))))))) ⟨boot_heap w.params, ⟨[]⟩, boot_drawn, boot_toks, os⟩ (topStub pw) = some (S51 (led w.params) w os).abs := by
  refine go_top (congrFun (congrFun pre_e w) os) (piece_block (congrFun (congrFun blk_e w) os) ?_)
  have h := rest_all w os
  rw [← body_is] at h
  exact h
end Mine

end partHB

noncomputable section partHC
open PySem PySem.W PyProof.Rows PySem.Calls
set_option Elab.async false
set_option maxRecDepth 100000
set_option linter.unusedVariables false
namespace Mine
def intOf : Value → Option Int
  | .int i _ => some i
  | _ => none
def elemOk (e : Int × Value) : Bool := match e.2 with
  | .int i t => decide (e.1 = hashInt i) && (Value.int i t).scannable
  | _ => false
def allIn (es : List (Int × Value)) (tab : List (Int × Int)) : Bool := es.all fun e => match e.2 with
  | .int i _ => inPairs tab i
  | _ => false
def filled (es : List (Int × Value)) (tab : List (Int × Int)) : Bool := tab.all fun p => (List.range (p.2 - p.1 + 1).toNat).all fun i => es.any fun e => Value.isInt (p.1 + (i : Int)) e.2
theorem set_obj {o : Obj} {es : List (Int × Value)} {ep n : Nat} {t : SetTable} {tab : List (Int × Int)} (hx : o.ExactSet) (hd : o.data = .set ⟨es⟩ ep t) (h1 : es.all elemOk = true) (h2 : allIn es tab = true) (h3 : filled es tab = true)
    (hn : es.length = n) (hf : t.fits n = true) (prog : Program) (w : World) : o.SetObjOf (intKind prog w) (inPairs tab) n := by
  refine ⟨hx, ⟨es⟩, ep, t, hd, fun e he => ?_, fun k => ⟨fun hk => ?_, fun ⟨e, he, hi⟩ => ?_⟩, hn, by rw [show (Array.mk es).size = n from hn]; exact hf⟩
  · have := List.all_eq_true.mp h1 e he
    obtain ⟨a, v⟩ := e
    cases v <;> simp only [elemOk, Bool.and_eq_true, decide_eq_true_eq] at this <;> first | exact absurd this Bool.false_ne_true | skip
    rename_i i tk
    exact ⟨⟨i, by simp [intKind, Value.isInt], this.1⟩, this.2⟩
  · unfold inPairs at hk
    obtain ⟨p, hp, hk⟩ := List.any_eq_true.mp hk
    simp only [Bool.and_eq_true, decide_eq_true_eq] at hk
    have := List.all_eq_true.mp (List.all_eq_true.mp h3 p hp) (k - p.1).toNat (by rw [List.mem_range]; omega)
    obtain ⟨e, he, hi⟩ := List.any_eq_true.mp this
    refine ⟨e, he, ?_⟩
    rw [show p.1 + (((k - p.1).toNat : Nat) : Int) = k by omega] at hi
    exact hi
  · have := List.all_eq_true.mp h2 e he
    obtain ⟨a, v⟩ := e
    obtain ⟨tk, hv⟩ := Value.isInt_shape hi
    simp only at hv
    subst hv
    exact this
theorem s22 (b : Bool) (P : Params) (prog : Program) (w : World) : (o22v0 b P).SetObjOf (intKind prog w) (inPairs tab0) 27 :=
  set_obj ⟨rfl, rfl, rfl⟩ rfl (by decide +kernel) (by decide +kernel) (by decide +kernel) (by decide +kernel) (by cases b <;> decide +kernel) prog w
theorem s48 (b : Bool) (P : Params) (prog : Program) (w : World) : (o48v0 b P).SetObjOf (intKind prog w) (inPairs tab3) 5 :=
  set_obj ⟨rfl, rfl, rfl⟩ rfl (by decide +kernel) (by decide +kernel) (by decide +kernel) (by decide +kernel) (by cases b <;> decide +kernel) prog w
theorem s60 (b : Bool) (P : Params) (prog : Program) (w : World) : (o60v0 b P).SetObjOf (intKind prog w) (inPairs tab4) 12 :=
  set_obj ⟨rfl, rfl, rfl⟩ rfl (by decide +kernel) (by decide +kernel) (by decide +kernel) (by decide +kernel) (by cases b <;> decide +kernel) prog w
theorem s84 (b : Bool) (P : Params) (prog : Program) (w : World) : (o84v0 b P).SetObjOf (intKind prog w) (inPairs tab5) 15 :=
  set_obj ⟨rfl, rfl, rfl⟩ rfl (by decide +kernel) (by decide +kernel) (by decide +kernel) (by decide +kernel) (by cases b <;> decide +kernel) prog w
theorem s102 (b : Bool) (P : Params) (prog : Program) (w : World) : (o102v0 b P).SetObjOf (intKind prog w) (inPairs tab6) 97 :=
  set_obj ⟨rfl, rfl, rfl⟩ rfl (by decide +kernel) (by decide +kernel) (by decide +kernel) (by decide +kernel) (by cases b <;> decide +kernel) prog w
end Mine

end partHC

noncomputable section partHD
open PySem PySem.W PyProof.Rows PySem.Calls
set_option Elab.async false
set_option maxRecDepth 100000
set_option linter.unusedVariables false
namespace Mine
def setNames : List Str := ["b1_set", "c6_set", "c7_set", "c8_set", "c9_set"]
def Yf (s : Shared) : List (Option Obj) × List (Option Value) × Bool := ([s.heap.get? 22, s.heap.get? 48, s.heap.get? 60, s.heap.get? 84, s.heap.get? 102], setNames.map (s.heap.nsMap mainGlobals), s.heap.isNs mainGlobals)
def Ya (w : World) : List (Option Obj) × List (Option Value) × Bool :=
  ([some (o22v0 (led w.params) w.params), some (o48v0 (led w.params) w.params), some (o60v0 (led w.params) w.params), some (o84v0 (led w.params) w.params), some (o102v0 (led w.params) w.params)],
   [some (.ref 22), some (.ref 48), some (.ref 60), some (.ref 84), some (.ref 102)], true)
def Xt : Shared → Bool := fun _ => true
def H1 (P : Params) : Heap := absHeap (T51 (led P) P) 135 life0
def szL (w : World) := ((boot_heap w.params).isNs mainGlobals && (Array.mk ([] : List GenState)).size == 0, (boot_heap w.params).objs.size, (boot_heap w.params).nsMap mainGlobals "__annotations__")
def szR (w : World) : Bool × Nat × Option Value := (true, 11, ann0)
def end1 (w : World) (os : OsState) : Shared := ⟨H1 w.params, ⟨[]⟩, drawn0, 617, os⟩
def okL (w : World) (os : OsState) : Bool := staticsOk (importedModules pw.main.body) (boot_heap w.params) (H1 w.params) && namesBound pw (H1 w.params) && gensDone (end1 w os) && laidKept (boot_heap w.params) (H1 w.params)
def okR (w : World) (os : OsState) : Bool := true
def seL (w : World) (os : OsState) := openSeen qv setNames (importedModules pw.main.body) Xt true (end1 w os)
def seR (w : World) (os : OsState) := openGood qv setNames
def yL (w : World) (os : OsState) := Yf (end1 w os)
def yR (w : World) (os : OsState) := Ya w
theorem sz_a : (fun (_ : Unit → Unit) => true) (fun _ => let _ := @szL; let _ := @szR; ()) = true := by k_qdec
theorem ok_a : (fun (_ : Unit → Unit) => true) (fun _ => let _ := @okL; ()) = true := by k_qdec
theorem se_a : (fun (_ : Unit → Unit) => true) (fun _ => let _ := @seL; let _ := @seR; ()) = true := by k_qdec
theorem y_a : (fun (_ : Unit → Unit) => true) (fun _ => let _ := @yL; let _ := @yR; ()) = true := by k_qdec
theorem sz_e : @szL = @szR := PySem.W.Fast.te8678296325885592993.trans (show @PySem.W.Fast.tw8678296325885592993 = @szR by kernel_rfl)
theorem ok_e : @okL = @okR := PySem.W.Fast.te13136963140214699177.trans (show @PySem.W.Fast.tw13136963140214699177 = @okR by kernel_rfl)
theorem y_e : @yL = @yR := PySem.W.Fast.te4293288526378257216.trans (Eq.trans (show @PySem.W.Fast.tw4293288526378257216 = @PySem.W.Fast.tw15496635841890004487 by kernel_rfl) PySem.W.Fast.te15496635841890004487.symm)
theorem se_e : @seL = @seR := PySem.W.Fast.te17008795330456461336.trans (Eq.trans (show @PySem.W.Fast.tw17008795330456461336 = @PySem.W.Fast.tw4263264396533835802 by kernel_rfl) PySem.W.Fast.te4263264396533835802.symm)

theorem open_is : opening pw = plainProg pw.main.scope.names := by kernel_rfl
theorem left_ok : LeftO pw qv setNames Xt Yf Ya 20000 true :=
  LeftO.of_pieces (H₀ := boot_heap) (H₁ := H1) (gs₀ := ⟨[]⟩) (gs₁ := ⟨[]⟩) (d₀ := boot_drawn) (d₁ := drawn0) (k₀ := boot_toks) (k₁ := 617) (m₀ := 11) (ann := ann0) (M := (12 + (1 + (10 + ((97 + (170 + (161 + (182 + (180 + 209))))) + (30 + (30 + (31 + ((58 + 142) + (30 + ((58 + (186 + 117)) + (30 + ((90 + (195 + (161 + (182 + 147)))) + (30 + ((87 + (170 + (170 + (170 + (170 + (170 + (170 + (170 + (170 + (170 + (161 + (182 + (180 + (182 + (180 + (180 + (180 + (180 + (180 + (182 + (180 + 167))))))))))))))))))))) + (30 + (10 + (27 + (27 + (38 + (27 + 2)))))))))))))))))))))
    (boot_open open_is (by decide +kernel) (fun s => by kernel_rfl)) (fun w => congrFun sz_e w) (fun w os => run_all w os) (by decide +kernel)
    (fun w => funext fun os => looks_pair (congrFun (congrFun ok_e w) os) (looks_pair (congrFun (congrFun se_e w) os) (congrFun (congrFun y_e w) os)))
end Mine

end partHD

section partHE
open PySem PySem.W PyProof.Rows PySem.Calls
set_option Elab.async false
set_option maxRecDepth 100000
set_option linter.unusedVariables false
namespace Mine
def YP (w : World) (h : Heap) : Prop := ∃ m, h.Ns mainGlobals m ∧ ∀ x S, (x, S) ∈ theSets → ∃ a n, m x = some (.ref a) ∧ h.SetOf (intKind pw w) a S n
theorem hY (w : World) (s : Shared) (e : Yf s = Ya w) : YP w s.heap := by
  simp only [Yf, Ya, setNames, List.map_cons, List.map_nil, Prod.mk.injEq, List.cons.injEq, and_true] at e
  obtain ⟨⟨g1, g2, g3, g4, g5⟩, ⟨n1, n2, n3, n4, n5⟩, hns⟩ := e
  refine ⟨_, .of_isNs hns, fun x S hx => ?_⟩
  simp only [theSets, List.mem_cons, List.not_mem_nil, or_false, Prod.mk.injEq] at hx
  rcases hx with ⟨rfl, rfl⟩ | ⟨rfl, rfl⟩ | ⟨rfl, rfl⟩ | ⟨rfl, rfl⟩ | ⟨rfl, rfl⟩
  · exact ⟨22, 27, n1, (s22 _ _ pw w).setOf g1 (by decide)⟩
  · exact ⟨48, 5, n2, (s48 _ _ pw w).setOf g2 (by decide)⟩
  · exact ⟨60, 12, n3, (s60 _ _ pw w).setOf g3 (by decide)⟩
  · exact ⟨84, 15, n4, (s84 _ _ pw w).setOf g4 (by decide)⟩
  · exact ⟨102, 97, n5, (s102 _ _ pw w).setOf g5 (by decide)⟩
theorem hYk (w : World) (h h' : Heap) (y : YP w h) (k : ∀ b o, h.get? b = some o → h'.get? b = some o) : YP w h' := by
  obtain ⟨m, hm, hs⟩ := y
  refine ⟨m, hm.keeps k, fun x S hx => ?_⟩
  obtain ⟨a, n, h1, o, es, ep, t, h2, r⟩ := hs x S hx
  exact ⟨a, n, h1, o, es, ep, t, k _ _ h2, r⟩
theorem free_of {mean : ExcName → Option Value} {mg mb : Str → Option Value} {h : Heap} (T : Top qv (looseW qv setNames) mean mg mb h) :
    ∀ x ∈ (["ord", "chr", "len", "range", "isinstance", "bool"] : List Str), mg x = none := by
  have key : (["ord", "chr", "len", "range", "isinstance", "bool"] : List Str).all (fun x => decide (x ∉ startupNames) && decide (x ∉ looseW qv setNames) && decide (x ∉ (recsOf qv).map (·.name)) && decide (x ∉ (litsOf qv).map (·.1)) && decide (x ∉ (clssOf qv (looseW qv setNames)).map (·.name))) = true := by decide +kernel
  intro x hx
  have k := List.all_eq_true.mp key x hx
  simp only [Bool.and_eq_true, decide_eq_true_eq] at k
  exact T.free x k.1.1.1.1 k.1.1.1.2 k.1.1.2 k.1.2 k.2
theorem gd_of {w : World} {mean : ExcName → Option Value} {mg mb : Str → Option Value} {h : Heap} (T : Top qv (looseW qv setNames) mean mg mb h) (Y : YP w h) : Gd w mg mb h where
  g := T.g
  b := T.b
  nolimit := T.nolimit
  fn := T.fn
  blt := T.builtins
  free := free_of T
  set := fun x S hx => by
    obtain ⟨m, hm, hs⟩ := Y
    obtain ⟨a, n, h1, h2⟩ := hs x S hx
    exact ⟨a, n, (T.g.agree hm x).trans h1, h2⟩
theorem walk_end {w : World} {mg mb : Str → Option Value} {s : Shared} {fa sc : Addr} {svs : List Value} {ns : List Int} {cl : Str → Option Addr} {mean : ExcName → Option Value} (G : Gd w mg mb s.heap) (hg : s.gens = #[]) (hm : mg "law" = some (.ref fa))
    (hL : s.heap.IsList sc svs.toArray) (hI : IntsAre svs ns) (hlen : ns.length ≤ 63) :
    wpAny (model pw w) callerA (call (.ref fa) [.ref sc]) (fun v s' => GoodWG PySem.Challenge.rw_ki0082_01.row.claim cl mean [ofPy (PyData.list (ns.map PyData.int))] s (.ok (.ret v)) s') (fun e s' => GoodWG PySem.Challenge.rw_ki0082_01.row.claim cl mean [ofPy (PyData.list (ns.map PyData.int))] s (.error e) s') s := by
  refine law_ok G (by decide +kernel) (by decide +kernel) rfl hm hL hI hlen fun h' tk k => ?_
  refine GoodW.toG ⟨.inl ⟨_, _, [], rfl, ?_, .bool true, ?_, ?_⟩, k, rfl, hg⟩
  · intro cls; rfl
  · first | rfl | kernel_rfl | (simp; done)
  · exact unshared_nil
set_option maxHeartbeats 4000000 in
theorem law_holds : PySem.Challenge.rw_ki0082_01.Holds := by
  w_on; o_law
  refine holds_open (q := qv) (loose := setNames) (Xt := Xt) (XP := fun _ _ => True) (Yf := Yf) (Ya := Ya) (YP := YP) (N := 20000) left_ok hY hYk (fun _ _ => trivial) (fun _ _ _ _ _ => trivial) (by rfl) (by rfl) (by rfl) (fun s e => recFacts_of (by rfl)) (by rfl) (by first | assumption | decide +kernel) (by decide +kernel) ⟨rfl, rfl, rfl, rfl, rfl, by decide +kernel⟩ ?hw ?hc
  case hw => w_witness2
  case hc =>
    intro w s₀ s₁ mg mb G Y fa o pm cd doc dV kV ho hd hcd hD hmg hg args vals as hpre hlay hrd hwl hlo
    wrow_args hpre hlay hrd hwl hlo
    refine walk_end (svs := ?sv) (gd_of G.T Y) hg hmg ?hLa ?hIa ?hle
    case hLa => assumption
    case hIa => assumption
    case hle => omega
end Mine

end partHE

set_option maxRecDepth 100000 in
theorem PySem.Challenge.cw_ki0082_01_holds : PySem.Challenge.rw_ki0082_01.Holds :=
  Mine.law_holds
