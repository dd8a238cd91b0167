import PyProof.Rows.All
import Wide.All
import OpenK.AllK
import Wide.FinOn
import Lean
import PySem.Challenge.RW_pk0082_01
open PySem PySem.W PySem.W.X PyProof.Rows
set_option Elab.async false
set_option maxRecDepth 100000
set_option maxHeartbeats 8000000
namespace Mine
open_top hd for PySem.Challenge.rw_pk0082_01
end Mine

set_option Elab.async false
set_option maxRecDepth 100000
set_option maxHeartbeats 4000000
namespace Mine
open PySem PySem.W PySem.W.X PyProof.Rows PySem.Calls PySem.Spec

noncomputable abbrev KF (w : World) : Frag := hd.heap_39 w.params

structure Gr (w : World) (mg mb : Str → Option Value) (h : Heap) : Prop where
  X : (KF w).In h
  g : h.Ns mainGlobals mg
  b : h.Ns builtinsNs mb
  nolimit : h.NoLimit
  builtins : ∀ x : Str, x ≠ "__name__" → mb x = bootBuiltins x
  bmain : ∃ bm ob, mg "__builtins__" = some (.ref bm) ∧ bm ≠ builtinsNs ∧ h.get? bm = some ob ∧ ob.cls = .type "module" ∧ ob.dict = some builtinsNs ∧ ob.data = .plain

theorem Gr.keeps {w : World} {mg mb : Str → Option Value} {h h' : Heap} (G : Gr w mg mb h) (k : ∀ b o, h.get? b = some o → h'.get? b = some o) : Gr w mg mb h' :=
  ⟨G.X.keeps k, G.g.keeps k, G.b.keeps k, G.nolimit.keeps k, G.builtins, let ⟨bm, ob, a, b, c, d⟩ := G.bmain; ⟨bm, ob, a, b, k _ _ c, d⟩⟩

section
variable {prog : Program} {w : World} {A : Around} {E : Value → Shared → Prop} {s : Shared} {mg mb : Str → Option Value} {env : Env} {x : Str} {pos : Pos} {v : Value} {Q : Value → Shared → Prop} {m : Str → Option Value} {c : Addr}

theorem nmL (hn : s.heap.Ns env.locals m) (hv : m x = some v) (h : Q v s) (hk : env.scope.kind = .function := by rfl) (hx : env.kindOf x = some .local := by rfl)
    (hd : (x == ("__debug__" : Str)) = false := by decide) : wpAny (model prog w) A (eval (.Name x pos) env) Q E s :=
  wpAny_Name (wpAny_loadName_local hk hx hn hv h) hd
theorem nmG (G : Gr w mg mb s.heap) (e : nsIn (KF w) mainGlobals x = some (some v)) (h : Q v s) (hg : env.globals = mainGlobals := by rfl) (hk : env.scope.kind = .function := by rfl) (hx : env.kindOf x = some .globalImplicit := by rfl)
    (hd : (x == ("__debug__" : Str)) = false := by decide) : wpAny (model prog w) A (eval (.Name x pos) env) Q E s :=
  Name_function_global hk hx (loadGlobal_global (env := env) (by rw [hg]; exact G.g) (mg_of G.X G.g e) h) hd
theorem nmB (G : Gr w mg mb s.heap) (e : nsIn (KF w) mainGlobals x = some none) (hv : bootBuiltins x = some v) (hn : x ≠ "__name__") (h : Q v s) (hg : env.globals = mainGlobals := by rfl) (hb : env.builtins = builtinsNs := by rfl)
    (hk : env.scope.kind = .function := by rfl) (hx : env.kindOf x = some .globalImplicit := by rfl) (hd : (x == ("__debug__" : Str)) = false := by decide) : wpAny (model prog w) A (eval (.Name x pos) env) Q E s :=
  Name_function_global hk hx (loadGlobal_builtin (env := env) (by rw [hg]; exact G.g) (mg_none_of G.X G.g e) (by rw [hb]; exact G.b) ((G.builtins x hn).trans hv) h) hd
theorem nmC (hc : env.cells.lookup x = some c) (hv : s.heap.IsCell c (some v)) (h : Q v s) (hk : env.scope.kind = .function := by rfl) (hx : env.kindOf x = some .cell := by rfl)
    (hd : (x == ("__debug__" : Str)) = false := by decide) : wpAny (model prog w) A (eval (.Name x pos) env) Q E s :=
  wpAny_Name (wpAny_loadName_cell hk hx hc hv h) hd
theorem nmF (hc : env.cells.lookup x = some c) (hv : s.heap.IsCell c (some v)) (h : Q v s) (hk : env.scope.kind = .function := by rfl) (hx : env.kindOf x = some .free := by rfl)
    (hd : (x == ("__debug__" : Str)) = false := by decide) (hn : (x == ("__classdict__" : Str)) = false := by decide) : wpAny (model prog w) A (eval (.Name x pos) env) Q E s :=
  wpAny_Name (wpAny_loadName_free hk hx hc hv h hn) hd

theorem enter {f : Addr} {name qual : Str} {params : Arguments} {body : List Stmt} {scope : Scope} {dV kV doc pm cdv ct oc : Value} {an od : Option Addr} {osl : Array (Option Value)} {pv : List Value} {kw : List (Str × Value)} {binds : List (Str × Value)}
    (G : Gr w mg mb s.heap) (ho : (KF w).lookup f = some ⟨oc, od, .func (fnOf name qual params body scope dV kV doc pm an cdv ct), osl⟩) (hcd : codeIn (KF w) cdv qual = true) (hroom : A.depth < recursionLimit)
    (hbind : BindsTo s (fnOf name qual params body scope dV kV doc pm an cdv ct) ⟨pv, kw⟩ binds) (hloc : ∀ y ∈ binds, scope.names.lookup y.1 = some .local)
    (hco : scope.isCoroutine = false) (hgen : scope.isGenerator = false) (hk : scope.kind = .function) (hcell : ∀ x ∈ scope.names, x.2 ≠ .cell)
    (h : ∀ h₁, Fr s.heap s.heap.objs.size h₁ (fun y => binds.reverse.lookup y) →
      wpAny (model prog w) (A.deeper (envOf qual scope s.heap.objs.size f cdv)) (execs body (envOf qual scope s.heap.objs.size f cdv)) (fun fl s' => Q (match fl with | .ret v => v | _ => .none) s') (fun _ _ => False)
        { s with heap := h₁, toks := s.toks + binds.length }) :
    wpAny (model prog w) A (call (.ref f) pv kw) Q E s := by
  refine wpAny_call (codeAny_call_def (fd := fnOf name qual params body scope dV kV doc pm an cdv ct) (body := body) (binds := binds) hroom (G.X _ _ ho) rfl G.nolimit (codeRec_of G.X hcd) rfl hbind hcell hloc (fun h₁ hns hk₁ => ?_) hco hgen hk)
  exact wpAny_mono (h h₁ ⟨hns, hk₁, Nat.le_refl _⟩) (fun _ _ q => q) fun _ _ f => f.elim
end

section
variable {prog : Program} {w : World} {A : Around} {E : Value → Shared → Prop} {s : Shared}

/-- str.replace with the tokens kept in sight -/
theorem replaceT {x y z : Str} {t u v : Tok} {Q : Value → Shared → Prop} (hu : u ≠ 0) (hv : v ≠ 0) (huv : u ≠ v) (hyz : (y == z) = false) (hb : x.length + (x.length + 1) * z.length ≤ 16777216) (htk : 1 ≤ s.toks)
    (hq : ∀ t' k, 1 ≤ k → Q (.str (Txt.replace x y z) t') { s with toks := k }) : wpAny (model prog w) A (call (.builtin "str.replace") [.str x t, .str y u, .str z v]) Q E s :=
  wpAny_with_toks htk (SC.replace hu hv huv hyz hb fun t' k hk => hq t' k hk)
end
end Mine

set_option Elab.async false
set_option maxRecDepth 100000
set_option maxHeartbeats 4000000
namespace Mine
open PySem PySem.W PySem.W.X PyProof.Rows PySem.Calls PySem.Spec

/-! ### the plain side of str.replace by one sign -/
def sub1 (c : Nat) (z : List Nat) (k : Nat) : List Nat := if k = c then z else [k]

theorem sub1_free (c : Nat) (z : List Nat) : ∀ l : List Nat, c ∉ l → l.flatMap (sub1 c z) = l
  | [], _ => rfl
  | k :: r, h => by
    have h1 : ¬ k = c := fun e => h (e ▸ List.mem_cons_self ..)
    have h2 : c ∉ r := fun m => h (List.mem_cons_of_mem _ m)
    rw [List.flatMap_cons, sub1_free c z r h2]
    simp [sub1, h1]

theorem sub1_join (c : Nat) (z : Str) : ∀ parts : List Str, (∀ p ∈ parts, c ∉ p.cps.toList) → (Str.join ⟨#[c]⟩ parts).cps.toList.flatMap (sub1 c z.cps.toList) = (Str.join z parts).cps.toList
  | [], _ => rfl
  | [p], h => sub1_free c _ _ (h p (List.mem_singleton.mpr rfl))
  | p :: q :: r, h => by
    have ih := sub1_join c z (q :: r) fun a ha => h a (List.mem_cons_of_mem _ ha)
    show (p ++ ⟨#[c]⟩ ++ Str.join ⟨#[c]⟩ (q :: r)).cps.toList.flatMap _ = (p ++ z ++ Str.join z (q :: r)).cps.toList
    simp only [Str.cps_append, Array.toList_append, List.flatMap_append]
    rw [ih, sub1_free c _ _ (h p (List.mem_cons_self ..))]
    simp [sub1]

theorem replace_flat (x z : Str) (c : Nat) : (Txt.replace x ⟨#[c]⟩ z).cps.toList = x.cps.toList.flatMap (sub1 c z.cps.toList) := by
  rw [StrLaws.replace_one, ← sub1_join c z _ (StrLaws.split_free x c), StrLaws.join_split]


theorem occ_none {x : Str} {c : Nat} (h : (Builtin.Str.occurrences x ⟨#[c]⟩ 0 x.length 1).isEmpty = true) (r : Str) : Txt.replace x ⟨#[c]⟩ r = x := by
  have h1 := StrLaws.found_one x c
  rw [h] at h1
  have h2 : c ∉ x.cps.toList := of_decide_eq_false h1.symm
  exact ext_toList ((replace_flat x r c).trans (sub1_free c _ _ h2))

theorem upd_same {m : Str → Option Value} {k : Str} {v : Value} (h : m k = some v) : (fun y => if y = k then some v else m y) = m := by
  funext y
  by_cases e : y = k
  · rw [if_pos e, e, h]
  · rw [if_neg e]

section
variable {prog : Program} {w : World} {A : Around} {E : Value → Shared → Prop} {s : Shared} {env : Env} {h₀ : Heap} {L : Addr} {m : Str → Option Value}

theorem ifRep {pl : Sem Bool} {x c r : Str} {k : Nat} {t : Tok} {p1 p2 p3 p4 p5 p6 p7 p8 p9 p10 p11 : Pos} {Q : Flow → Shared → Prop}
    (F : Fr h₀ L s.heap m) (hm : m "text" = some (.str x t)) (hb : x.length + (x.length + 1) * r.length ≤ 16777216) (htk : 1 ≤ s.toks)
    (h : ∀ h' t' tk', 1 ≤ tk' → Fr h₀ L h' (fun y => if y = ("text" : Str) then some (.str (Txt.replace x ⟨#[k]⟩ r) t') else m y) → Q .next { s with heap := h', toks := tk' })
    (hc : c = ⟨#[k]⟩ := by decide +kernel) (hcr : (c == r) = false := by decide +kernel) (hL : env.locals = L := by rfl) (hk : env.scope.kind = .function := by rfl) (hl : env.kindOf "text" = some .local := by rfl)
    (he : ∀ ov, calleeOf (methodCallForm 2 (backTo p9 (starEach [.Constant (.str c) 0 p7, .Constant (.str r) 0 p8] env)) (backToKw p9 (keywordEach [] env))) (.Name "text" p5) env ov "replace" = getMethod ov "replace" pl := by intro _; rfl)
    (hpos : methodCallPos (methodCallForm 2 (backTo p9 (starEach [.Constant (.str c) 0 p7, .Constant (.str r) 0 p8] env)) (backToKw p9 (keywordEach [] env))) (.Name "text" p5) env p6 p9 = pure p9 := by rfl) (hsw : swapsWith (.Call (.Attribute (.Name "text" p5) "replace" p6) [.Constant (.str c) 0 p7, .Constant (.str r) 0 p8] [] p9) (some (.Name "text" p4)) p10.line env = pure false := by rfl) :
    wpAny (model prog w) A (exec (.If (.Compare (.Constant (.str c) 0 p1) [.In] [.Name "text" p2] p3) [.Assign [.Name "text" p4] (.Call (.Attribute (.Name "text" p5) "replace" p6) [.Constant (.str c) 0 p7, .Constant (.str r) 0 p8] [] p9) p10] [] p11) env) Q E s := by
  subst hL
  subst hc
  refine wpAny_If (wpAny_isTrue_Compare1 ?_)
  refine Constant_str ?_
  refine nmL F.ns hm ?_ hk hl
  refine PyProof.Rows.in_str ?_
  refine wpAny_truthy_bool ?_
  cases ho : (Builtin.Str.occurrences x ⟨#[k]⟩ 0 x.length 1).isEmpty
  · simp only [Bool.not_false, if_true]
    refine wpAny_execs_cons (wpAny_Assign_Name ?_ hsw)
    refine MethodCall_ (pl := pl) ?_ ?_
    · refine nmL F.ns hm ?_ hk hl
      refine GM.replace ?_
      refine callWith_method1 ?_
      refine spliced_more (Constant_str ?_)
      refine spliced_more (Constant_str ?_)
      refine spliced_none ?_
      refine replaceT (by simp) (by simp) (by simp) hcr hb (by simp) ?_
      intro t' k' hk'
      refine wpAny_storeName_local hl F.ns (fun h' hn hs => ?_) (by rw [hk]; rfl)
      exact wpAny_execs_nil (h _ _ _ (Nat.le_succ_of_le hk') (F.set hn hs))
    · show (do let ov ← eval (.Name "text" p5) env; standAt p6.atName; methodCall (.Name "text" p5) "replace" p6 p9 env ov _ _ _) = _
      unfold methodCall
      simp only [List.length_cons, List.length_nil, Nat.reduceAdd, he, hpos]
      rfl
  · simp only [Bool.not_true, Bool.false_eq_true, if_false]
    refine wpAny_execs_nil ?_
    have h1 := h s.heap t (s.toks + 1) (by omega)
    rw [occ_none ho r, upd_same hm] at h1
    exact h1 F
end
end Mine
namespace Mine
open PySem PySem.W PySem.W.X PyProof.Rows PySem.Calls PySem.Spec
section
variable {prog : Program} {w : World} {A : Around} {E : Value → Shared → Prop} {s : Shared} {mg mb : Str → Option Value}

theorem rep_len {x z : Str} {c : Nat} (hz : z.length ≤ 6) : (Txt.replace x ⟨#[c]⟩ z).length ≤ 6 * x.length := by
  have e : (Txt.replace x ⟨#[c]⟩ z).length = (x.cps.toList.flatMap (sub1 c z.cps.toList)).length := by rw [← replace_flat]; simp [Str.length]
  have e2 : x.length = x.cps.toList.length := by simp [Str.length]
  have hz' : z.cps.toList.length ≤ 6 := by simpa [Str.length] using hz
  rw [e, e2]
  generalize x.cps.toList = l
  induction l with
  | nil => simp
  | cons k r ih =>
    rw [List.flatMap_cons, List.length_append, List.length_cons]
    have : (sub1 c z.cps.toList k).length ≤ 6 := by
      unfold sub1
      split
      · exact hz'
      · simp
    omega

/-- the replacements that each hand makes, in its order -/
def reps : Nat → List (Nat × Str)
  | 0 => [(38, "&amp;"), (60, "&lt;"), (62, "&gt;")]
  | 1 => [(38, "&amp;"), (60, "&lt;"), (62, "&gt;"), (34, "&quot;"), (13, "&#13;"), (10, "&#10;"), (9, "&#09;")]
  | 2 => [(38, "&amp;"), (62, "&gt;"), (34, "&quot;")]
  | 3 => [(38, "&amp;"), (60, "&lt;"), (62, "&gt;"), (13, "&#xD;")]
  | 4 => [(38, "&amp;"), (60, "&lt;"), (34, "&quot;"), (9, "&#x9;"), (10, "&#xA;"), (13, "&#xD;")]
  | _ => []
def escS (l : List (Nat × Str)) (x : Str) : Str := l.foldl (fun x p => Txt.replace x ⟨#[p.1]⟩ p.2) x

theorem esc0 {x : Str} {t : Tok} {Q : Value → Shared → Prop} (G : Gr w mg mb s.heap) (hroom : A.depth < recursionLimit) (htk : 1 ≤ s.toks) (hx : x.length ≤ 8)
    (h : ∀ h' t' tk', 1 ≤ tk' → s.heap.StaysIn h' → Q (.str (escS (reps 0) x) t') { s with heap := h', toks := tk' }) :
    wpAny (model prog w) A (call (.ref 46) [.str x t]) Q E s := by
  refine enter (binds := [("text", .str x t)]) G (by rfl) (by rfl) hroom (BindsTo.of_eq (by rfl)) (locs (by rfl)) (by rfl) (by rfl) (by rfl) (by decide) ?_
  intro h₁ F₀
  have hn0 := hx
  refine wpAny_execs_cons (wpAny_Try_except ?_)
  refine wpAny_execs_cons (ifRep (k := 38) F₀ (by rfl) (by have e : Str.length "&amp;" = 5 := (by decide +kernel); rw [e]; omega) (by first | assumption | (show 1 ≤ s.toks + _; omega)) ?_)
  intro h1 t1 tk1 ht1 F1
  have hn1 := Nat.le_trans (rep_len (x := x) (z := "&amp;") (c := 38) (by decide +kernel)) (Nat.mul_le_mul_left 6 hn0)
  refine wpAny_execs_cons (ifRep (k := 60) F1 (by rfl) (by have e : Str.length "&lt;" = 4 := (by decide +kernel); rw [e]; omega) (by first | assumption | (show 1 ≤ s.toks + _; omega)) ?_)
  intro h2 t2 tk2 ht2 F2
  have hn2 := Nat.le_trans (rep_len (x := (Txt.replace x ⟨#[38]⟩ "&amp;")) (z := "&lt;") (c := 60) (by decide +kernel)) (Nat.mul_le_mul_left 6 hn1)
  refine wpAny_execs_cons (ifRep (k := 62) F2 (by rfl) (by have e : Str.length "&gt;" = 4 := (by decide +kernel); rw [e]; omega) (by first | assumption | (show 1 ≤ s.toks + _; omega)) ?_)
  intro h3 t3 tk3 ht3 F3
  refine wpAny_execs_cons (wpAny_Return_some (nmL F3.ns (by rfl) ?_))
  exact h _ _ _ ht3 F3.keep

theorem esc1 {x : Str} {t : Tok} {Q : Value → Shared → Prop} (G : Gr w mg mb s.heap) (hroom : A.depth < recursionLimit) (htk : 1 ≤ s.toks) (hx : x.length ≤ 8)
    (h : ∀ h' t' tk', 1 ≤ tk' → s.heap.StaysIn h' → Q (.str (escS (reps 1) x) t') { s with heap := h', toks := tk' }) :
    wpAny (model prog w) A (call (.ref 53) [.str x t]) Q E s := by
  refine enter (binds := [("text", .str x t)]) G (by rfl) (by rfl) hroom (BindsTo.of_eq (by rfl)) (locs (by rfl)) (by rfl) (by rfl) (by rfl) (by decide) ?_
  intro h₁ F₀
  have hn0 := hx
  refine wpAny_execs_cons (wpAny_Try_except ?_)
  refine wpAny_execs_cons (ifRep (k := 38) F₀ (by rfl) (by have e : Str.length "&amp;" = 5 := (by decide +kernel); rw [e]; omega) (by first | assumption | (show 1 ≤ s.toks + _; omega)) ?_)
  intro h1 t1 tk1 ht1 F1
  have hn1 := Nat.le_trans (rep_len (x := x) (z := "&amp;") (c := 38) (by decide +kernel)) (Nat.mul_le_mul_left 6 hn0)
  refine wpAny_execs_cons (ifRep (k := 60) F1 (by rfl) (by have e : Str.length "&lt;" = 4 := (by decide +kernel); rw [e]; omega) (by first | assumption | (show 1 ≤ s.toks + _; omega)) ?_)
  intro h2 t2 tk2 ht2 F2
  have hn2 := Nat.le_trans (rep_len (x := (Txt.replace x ⟨#[38]⟩ "&amp;")) (z := "&lt;") (c := 60) (by decide +kernel)) (Nat.mul_le_mul_left 6 hn1)
  refine wpAny_execs_cons (ifRep (k := 62) F2 (by rfl) (by have e : Str.length "&gt;" = 4 := (by decide +kernel); rw [e]; omega) (by first | assumption | (show 1 ≤ s.toks + _; omega)) ?_)
  intro h3 t3 tk3 ht3 F3
  have hn3 := Nat.le_trans (rep_len (x := (Txt.replace (Txt.replace x ⟨#[38]⟩ "&amp;") ⟨#[60]⟩ "&lt;")) (z := "&gt;") (c := 62) (by decide +kernel)) (Nat.mul_le_mul_left 6 hn2)
  refine wpAny_execs_cons (ifRep (k := 34) F3 (by rfl) (by have e : Str.length "&quot;" = 6 := (by decide +kernel); rw [e]; omega) (by first | assumption | (show 1 ≤ s.toks + _; omega)) ?_)
  intro h4 t4 tk4 ht4 F4
  have hn4 := Nat.le_trans (rep_len (x := (Txt.replace (Txt.replace (Txt.replace x ⟨#[38]⟩ "&amp;") ⟨#[60]⟩ "&lt;") ⟨#[62]⟩ "&gt;")) (z := "&quot;") (c := 34) (by decide +kernel)) (Nat.mul_le_mul_left 6 hn3)
  refine wpAny_execs_cons (ifRep (k := 13) F4 (by rfl) (by have e : Str.length "&#13;" = 5 := (by decide +kernel); rw [e]; omega) (by first | assumption | (show 1 ≤ s.toks + _; omega)) ?_)
  intro h5 t5 tk5 ht5 F5
  have hn5 := Nat.le_trans (rep_len (x := (Txt.replace (Txt.replace (Txt.replace (Txt.replace x ⟨#[38]⟩ "&amp;") ⟨#[60]⟩ "&lt;") ⟨#[62]⟩ "&gt;") ⟨#[34]⟩ "&quot;")) (z := "&#13;") (c := 13) (by decide +kernel)) (Nat.mul_le_mul_left 6 hn4)
  refine wpAny_execs_cons (ifRep (k := 10) F5 (by rfl) (by have e : Str.length "&#10;" = 5 := (by decide +kernel); rw [e]; omega) (by first | assumption | (show 1 ≤ s.toks + _; omega)) ?_)
  intro h6 t6 tk6 ht6 F6
  have hn6 := Nat.le_trans (rep_len (x := (Txt.replace (Txt.replace (Txt.replace (Txt.replace (Txt.replace x ⟨#[38]⟩ "&amp;") ⟨#[60]⟩ "&lt;") ⟨#[62]⟩ "&gt;") ⟨#[34]⟩ "&quot;") ⟨#[13]⟩ "&#13;")) (z := "&#10;") (c := 10) (by decide +kernel)) (Nat.mul_le_mul_left 6 hn5)
  refine wpAny_execs_cons (ifRep (k := 9) F6 (by rfl) (by have e : Str.length "&#09;" = 5 := (by decide +kernel); rw [e]; omega) (by first | assumption | (show 1 ≤ s.toks + _; omega)) ?_)
  intro h7 t7 tk7 ht7 F7
  refine wpAny_execs_cons (wpAny_Return_some (nmL F7.ns (by rfl) ?_))
  exact h _ _ _ ht7 F7.keep

theorem esc2 {x : Str} {t : Tok} {Q : Value → Shared → Prop} (G : Gr w mg mb s.heap) (hroom : A.depth < recursionLimit) (htk : 1 ≤ s.toks) (hx : x.length ≤ 8)
    (h : ∀ h' t' tk', 1 ≤ tk' → s.heap.StaysIn h' → Q (.str (escS (reps 2) x) t') { s with heap := h', toks := tk' }) :
    wpAny (model prog w) A (call (.ref 60) [.str x t]) Q E s := by
  refine enter (binds := [("text", .str x t)]) G (by rfl) (by rfl) hroom (BindsTo.of_eq (by rfl)) (locs (by rfl)) (by rfl) (by rfl) (by rfl) (by decide) ?_
  intro h₁ F₀
  have hn0 := hx
  refine wpAny_execs_cons (wpAny_Try_except ?_)
  refine wpAny_execs_cons (ifRep (k := 38) F₀ (by rfl) (by have e : Str.length "&amp;" = 5 := (by decide +kernel); rw [e]; omega) (by first | assumption | (show 1 ≤ s.toks + _; omega)) ?_)
  intro h1 t1 tk1 ht1 F1
  have hn1 := Nat.le_trans (rep_len (x := x) (z := "&amp;") (c := 38) (by decide +kernel)) (Nat.mul_le_mul_left 6 hn0)
  refine wpAny_execs_cons (ifRep (k := 62) F1 (by rfl) (by have e : Str.length "&gt;" = 4 := (by decide +kernel); rw [e]; omega) (by first | assumption | (show 1 ≤ s.toks + _; omega)) ?_)
  intro h2 t2 tk2 ht2 F2
  have hn2 := Nat.le_trans (rep_len (x := (Txt.replace x ⟨#[38]⟩ "&amp;")) (z := "&gt;") (c := 62) (by decide +kernel)) (Nat.mul_le_mul_left 6 hn1)
  refine wpAny_execs_cons (ifRep (k := 34) F2 (by rfl) (by have e : Str.length "&quot;" = 6 := (by decide +kernel); rw [e]; omega) (by first | assumption | (show 1 ≤ s.toks + _; omega)) ?_)
  intro h3 t3 tk3 ht3 F3
  refine wpAny_execs_cons (wpAny_Return_some (nmL F3.ns (by rfl) ?_))
  exact h _ _ _ ht3 F3.keep

theorem esc3 {x : Str} {t : Tok} {Q : Value → Shared → Prop} (G : Gr w mg mb s.heap) (hroom : A.depth < recursionLimit) (htk : 1 ≤ s.toks) (hx : x.length ≤ 8)
    (h : ∀ h' t' tk', 1 ≤ tk' → s.heap.StaysIn h' → Q (.str (escS (reps 3) x) t') { s with heap := h', toks := tk' }) :
    wpAny (model prog w) A (call (.ref 67) [.str x t]) Q E s := by
  refine enter (binds := [("text", .str x t)]) G (by rfl) (by rfl) hroom (BindsTo.of_eq (by rfl)) (locs (by rfl)) (by rfl) (by rfl) (by rfl) (by decide) ?_
  intro h₁ F₀
  have hn0 := hx
  refine wpAny_execs_cons (wpAny_Try_except ?_)
  refine wpAny_execs_cons (ifRep (k := 38) F₀ (by rfl) (by have e : Str.length "&amp;" = 5 := (by decide +kernel); rw [e]; omega) (by first | assumption | (show 1 ≤ s.toks + _; omega)) ?_)
  intro h1 t1 tk1 ht1 F1
  have hn1 := Nat.le_trans (rep_len (x := x) (z := "&amp;") (c := 38) (by decide +kernel)) (Nat.mul_le_mul_left 6 hn0)
  refine wpAny_execs_cons (ifRep (k := 60) F1 (by rfl) (by have e : Str.length "&lt;" = 4 := (by decide +kernel); rw [e]; omega) (by first | assumption | (show 1 ≤ s.toks + _; omega)) ?_)
  intro h2 t2 tk2 ht2 F2
  have hn2 := Nat.le_trans (rep_len (x := (Txt.replace x ⟨#[38]⟩ "&amp;")) (z := "&lt;") (c := 60) (by decide +kernel)) (Nat.mul_le_mul_left 6 hn1)
  refine wpAny_execs_cons (ifRep (k := 62) F2 (by rfl) (by have e : Str.length "&gt;" = 4 := (by decide +kernel); rw [e]; omega) (by first | assumption | (show 1 ≤ s.toks + _; omega)) ?_)
  intro h3 t3 tk3 ht3 F3
  have hn3 := Nat.le_trans (rep_len (x := (Txt.replace (Txt.replace x ⟨#[38]⟩ "&amp;") ⟨#[60]⟩ "&lt;")) (z := "&gt;") (c := 62) (by decide +kernel)) (Nat.mul_le_mul_left 6 hn2)
  refine wpAny_execs_cons (ifRep (k := 13) F3 (by rfl) (by have e : Str.length "&#xD;" = 5 := (by decide +kernel); rw [e]; omega) (by first | assumption | (show 1 ≤ s.toks + _; omega)) ?_)
  intro h4 t4 tk4 ht4 F4
  refine wpAny_execs_cons (wpAny_Return_some (nmL F4.ns (by rfl) ?_))
  exact h _ _ _ ht4 F4.keep

theorem esc4 {x : Str} {t : Tok} {Q : Value → Shared → Prop} (G : Gr w mg mb s.heap) (hroom : A.depth < recursionLimit) (htk : 1 ≤ s.toks) (hx : x.length ≤ 8)
    (h : ∀ h' t' tk', 1 ≤ tk' → s.heap.StaysIn h' → Q (.str (escS (reps 4) x) t') { s with heap := h', toks := tk' }) :
    wpAny (model prog w) A (call (.ref 74) [.str x t]) Q E s := by
  refine enter (binds := [("text", .str x t)]) G (by rfl) (by rfl) hroom (BindsTo.of_eq (by rfl)) (locs (by rfl)) (by rfl) (by rfl) (by rfl) (by decide) ?_
  intro h₁ F₀
  have hn0 := hx
  refine wpAny_execs_cons (wpAny_Try_except ?_)
  refine wpAny_execs_cons (ifRep (k := 38) F₀ (by rfl) (by have e : Str.length "&amp;" = 5 := (by decide +kernel); rw [e]; omega) (by first | assumption | (show 1 ≤ s.toks + _; omega)) ?_)
  intro h1 t1 tk1 ht1 F1
  have hn1 := Nat.le_trans (rep_len (x := x) (z := "&amp;") (c := 38) (by decide +kernel)) (Nat.mul_le_mul_left 6 hn0)
  refine wpAny_execs_cons (ifRep (k := 60) F1 (by rfl) (by have e : Str.length "&lt;" = 4 := (by decide +kernel); rw [e]; omega) (by first | assumption | (show 1 ≤ s.toks + _; omega)) ?_)
  intro h2 t2 tk2 ht2 F2
  have hn2 := Nat.le_trans (rep_len (x := (Txt.replace x ⟨#[38]⟩ "&amp;")) (z := "&lt;") (c := 60) (by decide +kernel)) (Nat.mul_le_mul_left 6 hn1)
  refine wpAny_execs_cons (ifRep (k := 34) F2 (by rfl) (by have e : Str.length "&quot;" = 6 := (by decide +kernel); rw [e]; omega) (by first | assumption | (show 1 ≤ s.toks + _; omega)) ?_)
  intro h3 t3 tk3 ht3 F3
  have hn3 := Nat.le_trans (rep_len (x := (Txt.replace (Txt.replace x ⟨#[38]⟩ "&amp;") ⟨#[60]⟩ "&lt;")) (z := "&quot;") (c := 34) (by decide +kernel)) (Nat.mul_le_mul_left 6 hn2)
  refine wpAny_execs_cons (ifRep (k := 9) F3 (by rfl) (by have e : Str.length "&#x9;" = 5 := (by decide +kernel); rw [e]; omega) (by first | assumption | (show 1 ≤ s.toks + _; omega)) ?_)
  intro h4 t4 tk4 ht4 F4
  have hn4 := Nat.le_trans (rep_len (x := (Txt.replace (Txt.replace (Txt.replace x ⟨#[38]⟩ "&amp;") ⟨#[60]⟩ "&lt;") ⟨#[34]⟩ "&quot;")) (z := "&#x9;") (c := 9) (by decide +kernel)) (Nat.mul_le_mul_left 6 hn3)
  refine wpAny_execs_cons (ifRep (k := 10) F4 (by rfl) (by have e : Str.length "&#xA;" = 5 := (by decide +kernel); rw [e]; omega) (by first | assumption | (show 1 ≤ s.toks + _; omega)) ?_)
  intro h5 t5 tk5 ht5 F5
  have hn5 := Nat.le_trans (rep_len (x := (Txt.replace (Txt.replace (Txt.replace (Txt.replace x ⟨#[38]⟩ "&amp;") ⟨#[60]⟩ "&lt;") ⟨#[34]⟩ "&quot;") ⟨#[9]⟩ "&#x9;")) (z := "&#xA;") (c := 10) (by decide +kernel)) (Nat.mul_le_mul_left 6 hn4)
  refine wpAny_execs_cons (ifRep (k := 13) F5 (by rfl) (by have e : Str.length "&#xD;" = 5 := (by decide +kernel); rw [e]; omega) (by first | assumption | (show 1 ≤ s.toks + _; omega)) ?_)
  intro h6 t6 tk6 ht6 F6
  refine wpAny_execs_cons (wpAny_Return_some (nmL F6.ns (by rfl) ?_))
  exact h _ _ _ ht6 F6.keep

end
end Mine

set_option Elab.async false
set_option maxRecDepth 100000
set_option maxHeartbeats 4000000
namespace Mine
open PySem PySem.W PySem.W.X PyProof.Rows PySem.Calls PySem.Spec

/-! ### the plain side of the five hands -/
def tbl : Nat → List (Nat × Str)
  | 0 => [(38, "&amp;"), (60, "&lt;"), (62, "&gt;")]
  | 1 => [(38, "&amp;"), (60, "&lt;"), (62, "&gt;"), (34, "&quot;"), (13, "&#13;"), (10, "&#10;"), (9, "&#09;")]
  | 2 => [(38, "&amp;"), (62, "&gt;"), (34, "&quot;")]
  | 3 => [(38, "&amp;"), (60, "&lt;"), (62, "&gt;"), (13, "&#xD;")]
  | 4 => [(38, "&amp;"), (60, "&lt;"), (34, "&quot;"), (13, "&#xD;"), (10, "&#xA;"), (9, "&#x9;")]
  | _ => []
/-- what hand i writes of the sign k -/
def refS (i k : Nat) : Str := ((tbl i).lookup k).getD ⟨#[k]⟩
def ref (i k : Nat) : List Nat := (refS i k).cps.toList
/-- what hand i writes of the text x -/
def escT (i : Nat) (x : Str) : Str := ⟨(x.cps.toList.flatMap (ref i)).toArray⟩

theorem escT_list (i : Nat) (x : Str) : (escT i x).cps.toList = x.cps.toList.flatMap (ref i) := by simp [escT]

theorem flat2 (l : List Nat) (f g : Nat → List Nat) : (l.flatMap f).flatMap g = l.flatMap fun k => (f k).flatMap g := by
  induction l with
  | nil => rfl
  | cons a r ih => simp [List.flatMap_cons, List.flatMap_append, ih]

theorem flat_congr {l : List Nat} {f g : Nat → List Nat} (h : ∀ k, f k = g k) : l.flatMap f = l.flatMap g := by
  have : f = g := funext h
  rw [this]

def chain : Nat → Nat → List Nat
  | 0, k => ((sub1 38 (Str.cps "&amp;").toList k).flatMap (sub1 60 (Str.cps "&lt;").toList)).flatMap (sub1 62 (Str.cps "&gt;").toList)
  | 1, k => ((((((sub1 38 (Str.cps "&amp;").toList k).flatMap (sub1 60 (Str.cps "&lt;").toList)).flatMap (sub1 62 (Str.cps "&gt;").toList)).flatMap (sub1 34 (Str.cps "&quot;").toList)).flatMap (sub1 13 (Str.cps "&#13;").toList)).flatMap (sub1 10 (Str.cps "&#10;").toList)).flatMap (sub1 9 (Str.cps "&#09;").toList)
  | 2, k => ((sub1 38 (Str.cps "&amp;").toList k).flatMap (sub1 62 (Str.cps "&gt;").toList)).flatMap (sub1 34 (Str.cps "&quot;").toList)
  | 3, k => (((sub1 38 (Str.cps "&amp;").toList k).flatMap (sub1 60 (Str.cps "&lt;").toList)).flatMap (sub1 62 (Str.cps "&gt;").toList)).flatMap (sub1 13 (Str.cps "&#xD;").toList)
  | 4, k => (((((sub1 38 (Str.cps "&amp;").toList k).flatMap (sub1 60 (Str.cps "&lt;").toList)).flatMap (sub1 34 (Str.cps "&quot;").toList)).flatMap (sub1 9 (Str.cps "&#x9;").toList)).flatMap (sub1 10 (Str.cps "&#xA;").toList)).flatMap (sub1 13 (Str.cps "&#xD;").toList)
  | _, k => [k]

theorem chain_signs : ∀ i, i < 5 → ∀ k ∈ [38, 60, 62, 34, 13, 10, 9], chain i k = ref i k := by decide +kernel
theorem chain_ref (i : Nat) (hi : i < 5) (k : Nat) : chain i k = ref i k := by
  by_cases hk : k ∈ [38, 60, 62, 34, 13, 10, 9]
  · exact chain_signs i hi k hk
  · simp only [List.mem_cons, List.not_mem_nil, or_false, not_or] at hk
    obtain ⟨h38, h60, h62, h34, h13, h10, h9⟩ := hk
    have e38 : (k == 38) = false := beq_eq_false_iff_ne.mpr h38
    have e60 : (k == 60) = false := beq_eq_false_iff_ne.mpr h60
    have e62 : (k == 62) = false := beq_eq_false_iff_ne.mpr h62
    have e34 : (k == 34) = false := beq_eq_false_iff_ne.mpr h34
    have e13 : (k == 13) = false := beq_eq_false_iff_ne.mpr h13
    have e10 : (k == 10) = false := beq_eq_false_iff_ne.mpr h10
    have e9 : (k == 9) = false := beq_eq_false_iff_ne.mpr h9
    match i, hi with
    | 0, _ | 1, _ | 2, _ | 3, _ | 4, _ => simp [chain, sub1, h38, h60, h62, h34, h13, h10, h9, ref, refS, tbl, List.lookup_cons, e38, e60, e62, e34, e13, e10, e9]

theorem esc_flat (i : Nat) (hi : i < 5) (x : Str) : escS (reps i) x = escT i x := by
  refine ext_toList ?_
  rw [escT_list, ← flat_congr (chain_ref i hi)]
  match i, hi with
  | 0, _ =>
    show (Txt.replace (Txt.replace (Txt.replace x _ _) _ _) _ _).cps.toList = _
    rw [replace_flat, replace_flat, replace_flat, flat2, flat2]; exact flat_congr fun k => by simp only [chain, flat2]
  | 1, _ =>
    show (Txt.replace (Txt.replace (Txt.replace (Txt.replace (Txt.replace (Txt.replace (Txt.replace x _ _) _ _) _ _) _ _) _ _) _ _) _ _).cps.toList = _
    rw [replace_flat, replace_flat, replace_flat, replace_flat, replace_flat, replace_flat, replace_flat, flat2, flat2, flat2, flat2, flat2, flat2]; exact flat_congr fun k => by simp only [chain, flat2]
  | 2, _ =>
    show (Txt.replace (Txt.replace (Txt.replace x _ _) _ _) _ _).cps.toList = _
    rw [replace_flat, replace_flat, replace_flat, flat2, flat2]; exact flat_congr fun k => by simp only [chain, flat2]
  | 3, _ =>
    show (Txt.replace (Txt.replace (Txt.replace (Txt.replace x _ _) _ _) _ _) _ _).cps.toList = _
    rw [replace_flat, replace_flat, replace_flat, replace_flat, flat2, flat2, flat2]; exact flat_congr fun k => by simp only [chain, flat2]
  | 4, _ =>
    show (Txt.replace (Txt.replace (Txt.replace (Txt.replace (Txt.replace (Txt.replace x _ _) _ _) _ _) _ _) _ _) _ _).cps.toList = _
    rw [replace_flat, replace_flat, replace_flat, replace_flat, replace_flat, replace_flat, flat2, flat2, flat2, flat2, flat2]; exact flat_congr fun k => by simp only [chain, flat2]

/-- the def that hand i is -/
def handA : Nat → Addr
  | 0 => 46
  | 1 => 53
  | 2 => 60
  | 3 => 67
  | _ => 74

theorem esc_call {prog : Program} {w : World} {A : Around} {E : Value → Shared → Prop} {s : Shared} {mg mb : Str → Option Value} {i : Nat} {x : Str} {t : Tok} {Q : Value → Shared → Prop} (hi : i < 5) (G : Gr w mg mb s.heap) (hroom : A.depth < recursionLimit) (htk : 1 ≤ s.toks)
    (hx : x.length ≤ 8) (h : ∀ h' t' tk', 1 ≤ tk' → s.heap.StaysIn h' → Q (.str (escT i x) t') { s with heap := h', toks := tk' }) : wpAny (model prog w) A (call (.ref (handA i)) [.str x t]) Q E s := by
  have h' : ∀ h' t' tk', 1 ≤ tk' → s.heap.StaysIn h' → Q (.str (escS (reps i) x) t') { s with heap := h', toks := tk' } := by rw [esc_flat i hi]; exact h
  match i, hi with
  | 0, _ => exact esc0 G hroom htk hx h'
  | 1, _ => exact esc1 G hroom htk hx h'
  | 2, _ => exact esc2 G hroom htk hx h'
  | 3, _ => exact esc3 G hroom htk hx h'
  | 4, _ => exact esc4 G hroom htk hx h'
end Mine

set_option Elab.async false
set_option maxRecDepth 100000
set_option maxHeartbeats 4000000
namespace Mine
open PySem PySem.W PySem.W.X PyProof.Rows PySem.Calls PySem.Spec

theorem Gr.big {w : World} {mg mb : Str → Option Value} {h : Heap} (G : Gr w mg mb h) : 120 < h.objs.size := Heap.lt_size (G.X 120 _ (by rfl))

theorem stays_refl (h : Heap) : h.StaysIn h := fun _ _ e => e
theorem stays_trans {a b c : Heap} (x : a.StaysIn b) (y : b.StaysIn c) : a.StaysIn c := fun q o e => y q o (x q o e)
theorem stays_push (h : Heap) (o : Obj) : h.StaysIn (h.push o) := fun _ _ e => Heap.get?_push_of_some _ e

theorem pick5 {i : Nat} (hi : i < 5) {a0 a1 a2 a3 a4 : Addr} (P : Nat → Addr → Prop) (p0 : P 0 a0) (p1 : P 1 a1) (p2 : P 2 a2) (p3 : P 3 a3) (p4 : P 4 a4) :
    ∃ a, [Value.ref a0, Value.ref a1, Value.ref a2, Value.ref a3, Value.ref a4][((i : Nat) : Int).toNat]? = some (Value.ref a) ∧ P i a := by
  match i, hi with
  | 0, _ => exact ⟨_, rfl, p0⟩
  | 1, _ => exact ⟨_, rfl, p1⟩
  | 2, _ => exact ⟨_, rfl, p2⟩
  | 3, _ => exact ⟨_, rfl, p3⟩
  | 4, _ => exact ⟨_, rfl, p4⟩

section
variable {prog : Program} {w : World} {A : Around} {E : Value → Shared → Prop} {s : Shared} {mg mb : Str → Option Value} {env : Env}


theorem newListL {vs : List Value} {Q : Value → Shared → Prop} (h : ∀ l h', s.heap.StaysIn h' → h'.IsList l vs.toArray → s.heap.get? l = none → h'.get? l = some { cls := .type "list", data := .seq vs.toArray } → Q (.ref l) { s with heap := h' }) (hsz : vs.length ≤ sizeLine := by size_fits) :
    wpAny (model prog w) A (newList vs) Q E s := by
  refine wpAny_newList (h _ _ (stays_push _ _) ⟨_, Heap.get?_push_size _ rfl, rfl, 0, rfl⟩ ?_ (Heap.get?_push_size _ rfl)) hsz
  exact (stays_refl s.heap).fresh

theorem hand_call {i : Nat} {t : Tok} {Q : Value → Shared → Prop} (hi : i < 5) (G : Gr w mg mb s.heap) (hroom : A.depth < recursionLimit)
    (h : ∀ h' tk', s.heap.StaysIn h' → Q (.ref (handA i)) { s with heap := h', toks := tk' }) : wpAny (model prog w) A (call (.ref 81) [.int i t]) Q E s := by
  refine enter (binds := [("way", .int i t)]) G (by rfl) (by kernel_rfl!) hroom (BindsTo.of_eq (by rfl)) (locs (by rfl)) (by rfl) (by rfl) (by rfl) (by decide) ?_
  intro h₁ F
  have G₁ := G.keeps F.keep
  refine wpAny_execs_cons ?_
  refine wpAny_Return_some ?_
  refine Subscript_ ?_
  refine List_ ?_
  refine spliced_more (nmG (v := .ref 46) G₁ (by kernel_rfl!) ?_)
  refine spliced_more (nmG (v := .ref 53) G₁ (by kernel_rfl!) ?_)
  refine spliced_more (nmG (v := .ref 60) G₁ (by kernel_rfl!) ?_)
  refine spliced_more (nmG (v := .ref 67) G₁ (by kernel_rfl!) ?_)
  refine spliced_more (nmG (v := .ref 74) G₁ (by kernel_rfl!) ?_)
  refine spliced_none (newListL ?_)
  intro l h₂ k₂ hl _ _
  refine nmL (F.keeps k₂).ns (by rfl) ?_
  obtain ⟨a, e, p⟩ := pick5 (a0 := 46) (a1 := 53) (a2 := 60) (a3 := 67) (a4 := 74) hi (fun i a => a = handA i) rfl rfl rfl rfl rfl
  subst p
  exact item_litK hl (by omega) (by omega) e (h _ _ (stays_trans F.keep k₂))

def dOf (i : Nat) : List (PyData × PyData) := (tbl i).map fun p => (.str ⟨#[p.1]⟩, .str p.2)

theorem dict_ev {i : Nat} {keys : List (Option Expr)} {values : List Expr} {pos : Pos} {Q : Value → Shared → Prop} (hb : 120 < s.heap.objs.size) (hD : litPairs keys values = some (dOf i)) (hs : strKeyed (dOf i) = true) (hn : (strKeysOf (dOf i)).Nodup)
    (hall : keys.all (·.isSome) = true) (hl : keys.length = values.length) (h0 : keys ≠ []) (hlen : keys.length ≤ 15)
    (h : ∀ a h₁ tk, s.heap.StaysIn h₁ → s.heap.get? a = none → StrTab prog w h₁ a (dOf i) → Q (.ref a) { s with heap := h₁, toks := tk }) :
    wpAny (model prog w) A (eval (.Dict keys values pos) env) Q E s := by
  refine Dict_lits_str hD hs hn hall hl h0 hlen fun a o h₁ tk ha ho hT hk => h a h₁ tk hk ?_ ?_
  · cases q : s.heap.get? a with
    | none => rfl
    | some o => exact absurd (Heap.lt_size q) (Nat.not_lt.mpr ha)
  · obtain ⟨kvs, hd, hf⟩ := hT
    refine TabAt.ofObj (beq_eq_false_iff_ne.mpr ?_) ho hd hf
    show a ≠ sysModules
    have : sysModules < 120 := by decide
    exact fun e => by rw [e] at ha; exact absurd (Nat.lt_of_lt_of_le hb ha) (Nat.not_lt.mpr (Nat.le_of_lt this))

theorem refs_call {i : Nat} {t : Tok} {Q : Value → Shared → Prop} (hi : i < 5) (G : Gr w mg mb s.heap) (hroom : A.depth < recursionLimit)
    (h : ∀ d h' tk', s.heap.StaysIn h' → s.heap.get? d = none → StrTab prog w h' d (dOf i) → Q (.ref d) { s with heap := h', toks := tk' }) : wpAny (model prog w) A (call (.ref 88) [.int i t]) Q E s := by
  refine enter (binds := [("way", .int i t)]) G (by rfl) (by kernel_rfl!) hroom (BindsTo.of_eq (by rfl)) (locs (by rfl)) (by rfl) (by rfl) (by rfl) (by decide) ?_
  intro h₁ F
  have G₁ := G.keeps F.keep
  refine wpAny_execs_cons ?_
  refine wpAny_Return_some ?_
  refine Subscript_ ?_
  refine List_ ?_
  refine spliced_more ?_
  with_reducible refine dict_ev (i := 0) (by exact G₁.big) (by kernel_rfl!) (by kernel_rfl!) (by decide +kernel) (by kernel_rfl!) (by kernel_rfl!) (List.cons_ne_nil _ _) (by decide) ?_
  intro a0 g0 tk0 k0 n0 T0
  have G₂ := G₁.keeps k0
  refine spliced_more ?_
  with_reducible refine dict_ev (i := 1) (by exact G₂.big) (by kernel_rfl!) (by kernel_rfl!) (by decide +kernel) (by kernel_rfl!) (by kernel_rfl!) (List.cons_ne_nil _ _) (by decide) ?_
  intro a1 g1 tk1 k1 n1 T1
  have G₃ := G₂.keeps k1
  refine spliced_more ?_
  with_reducible refine dict_ev (i := 2) (by exact G₃.big) (by kernel_rfl!) (by kernel_rfl!) (by decide +kernel) (by kernel_rfl!) (by kernel_rfl!) (List.cons_ne_nil _ _) (by decide) ?_
  intro a2 g2 tk2 k2 n2 T2
  have G₄ := G₃.keeps k2
  refine spliced_more ?_
  with_reducible refine dict_ev (i := 3) (by exact G₄.big) (by kernel_rfl!) (by kernel_rfl!) (by decide +kernel) (by kernel_rfl!) (by kernel_rfl!) (List.cons_ne_nil _ _) (by decide) ?_
  intro a3 g3 tk3 k3 n3 T3
  have G₅ := G₄.keeps k3
  refine spliced_more ?_
  with_reducible refine dict_ev (i := 4) (by exact G₅.big) (by kernel_rfl!) (by kernel_rfl!) (by decide +kernel) (by kernel_rfl!) (by kernel_rfl!) (List.cons_ne_nil _ _) (by decide) ?_
  intro a4 g4 tk4 k4 n4 T4
  refine spliced_none (newListL ?_)
  intro l h₂ k₂ hl _ _
  have K : h₁.StaysIn h₂ := stays_trans k0 (stays_trans k1 (stays_trans k2 (stays_trans k3 (stays_trans k4 k₂))))
  refine nmL (F.keeps K).ns (by rfl) ?_
  have nw : ∀ (a : Addr) (g : Heap), h₁.StaysIn g → g.get? a = none → s.heap.get? a = none := fun a g kg hn => by
    cases q : s.heap.get? a with
    | none => rfl
    | some o => rw [kg _ _ (F.keep _ _ q)] at hn; cases hn
  obtain ⟨a, e, pn, pT⟩ := pick5 hi (fun i a => s.heap.get? a = none ∧ StrTab prog w h₂ a (dOf i)) ⟨nw _ _ (stays_refl _) n0, T0.keep (stays_trans k1 (stays_trans k2 (stays_trans k3 (stays_trans k4 k₂))))⟩
    ⟨nw _ _ k0 n1, T1.keep (stays_trans k2 (stays_trans k3 (stays_trans k4 k₂)))⟩ ⟨nw _ _ (stays_trans k0 k1) n2, T2.keep (stays_trans k3 (stays_trans k4 k₂))⟩
    ⟨nw _ _ (stays_trans k0 (stays_trans k1 k2)) n3, T3.keep (stays_trans k4 k₂)⟩ ⟨nw _ _ (stays_trans k0 (stays_trans k1 (stays_trans k2 k3))) n4, T4.keep k₂⟩
  exact item_litK hl (by omega) (by omega) e (h _ _ _ (stays_trans F.keep K) pn pT)
end
end Mine

set_option Elab.async false
set_option maxRecDepth 100000
set_option maxHeartbeats 4000000
namespace Mine
open PySem PySem.W PySem.W.X PyProof.Rows PySem.Calls PySem.Spec

theorem fdiv2 (a b : Nat) : ((a : Int) + (b : Int)).fdiv 2 = (((a + b) / 2 : Nat) : Int) := by
  rw [Int.fdiv_eq_ediv_of_nonneg _ (by omega)]
  omega

/-- the state of a search's frame -/
def BSt (h₀ : Heap) (L : Addr) (va vx vk : Value) (lo hi : Nat) (s₀ s' : Shared) : Prop :=
  ∃ h tk m tl th, s' = { s₀ with heap := h, toks := tk } ∧ 1 ≤ tk ∧ Fr h₀ L h m ∧ m "a" = some va ∧ m "x" = some vx ∧ m "key" = some vk ∧ m "lo" = some (.int lo tl) ∧ m "hi" = some (.int hi th)
def BMid (h₀ : Heap) (L : Addr) (va vx vk : Value) (lo hi mid : Nat) (s₀ s' : Shared) : Prop :=
  ∃ h tk m tl th tm, s' = { s₀ with heap := h, toks := tk } ∧ 1 ≤ tk ∧ Fr h₀ L h m ∧ m "a" = some va ∧ m "x" = some vx ∧ m "key" = some vk ∧ m "lo" = some (.int lo tl) ∧ m "hi" = some (.int hi th) ∧ m "mid" = some (.int mid tm)

section
variable {prog : Program} {w : World} {A : Around} {E : Value → Shared → Prop} {s : Shared} {env : Env} {h₀ : Heap} {L : Addr}

theorem stL {x : Str} {v : Value} {m : Str → Option Value} {Q : Unit → Shared → Prop} (F : Fr h₀ L s.heap m) (h : ∀ h', Fr h₀ L h' (fun y => if y = x then some v else m y) → Q () { s with heap := h', toks := s.toks + 1 })
    (hL : env.locals = L := by rfl) (hk : env.scope.kind = .function := by rfl) (hl : env.kindOf x = some .local := by rfl) : wpAny (model prog w) A (storeName env x v) Q E s := by
  subst hL
  exact wpAny_storeName_local hl F.ns (fun h' hn hs => h h' (F.set hn hs)) (by rw [hk]; rfl)

theorem bisLoop {va vx vk : Value} {n : Nat} {P : Nat → Prop} {ifs : Stmt} {p1 p2 p3 p4 p5 p6 p7 p8 p9 p10 p11 : Pos} {Q : Flow → Shared → Prop} {lo hi : Nat}
    (mono : ∀ i j, i ≤ j → j < n → P j → P i)
    (hif : ∀ lo hi mid s' (Q' : Flow → Shared → Prop) (E' : Value → Shared → Prop), mid < n → BMid h₀ L va vx vk lo hi mid s s' → (P mid → ∀ s'', BSt h₀ L va vx vk (mid + 1) hi s s'' → Q' .next s'') → (¬ P mid → ∀ s'', BSt h₀ L va vx vk lo mid s s'' → Q' .next s'') →
      wpAny (model prog w) A (exec ifs env) Q' E' s')
    (hst : BSt h₀ L va vx vk lo hi s s) (hle : lo ≤ hi) (hhi : hi ≤ n) (hlo : ∀ j, j < lo → P j) (hup : ∀ j, hi ≤ j → j < n → ¬ P j)
    (h : ∀ r s', r ≤ n → (∀ j, j < r → P j) → (∀ j, r ≤ j → j < n → ¬ P j) → BSt h₀ L va vx vk r r s s' → Q .next s')
    (hL : env.locals = L := by rfl) (hk : env.scope.kind = .function := by rfl) (hl1 : env.kindOf "lo" = some .local := by rfl) (hl2 : env.kindOf "hi" = some .local := by rfl) (hl3 : env.kindOf "mid" = some .local := by rfl)
    (hsw : swapsWith (.BinOp (.BinOp (.Name "lo" p6) .Add (.Name "hi" p7) p8) .FloorDiv (.Constant (.int 2) 0 p9) p10) (some (.Name "mid" p5)) p11.line env = pure false := by rfl) :
    wpAny (model prog w) A (exec (.While (.Compare (.Name "lo" p1) [.Lt] [.Name "hi" p2] p3) [.Assign [.Name "mid" p5] (.BinOp (.BinOp (.Name "lo" p6) .Add (.Name "hi" p7) p8) .FloorDiv (.Constant (.int 2) 0 p9) p10) p11, ifs] [] p4) env) Q E s := by
  subst hL
  refine wpAny_While ?_
  refine codeAny_whileLoop (fun k s' => ∃ lo hi, k = hi - lo ∧ lo ≤ hi ∧ hi ≤ n ∧ (∀ j, j < lo → P j) ∧ (∀ j, hi ≤ j → j < n → ¬ P j) ∧ BSt h₀ env.locals va vx vk lo hi s s') ?_ (hi - lo) ⟨lo, hi, rfl, hle, hhi, hlo, hup, hst⟩
  rintro k s' ⟨lo, hi, rfl, hle, hhi, hlo, hup, hst⟩
  have hst' := hst
  obtain ⟨h', tk, m, tl, th, rfl, htk, F, ma, mx, mk, ml, mh⟩ := hst'
  with_reducible refine wpAny_isTrue_Compare1 ?_
  refine nmL F.ns ml ?_ hk hl1
  refine nmL F.ns mh ?_ hk hl2
  refine PyProof.Rows.lt_int ?_
  refine wpAny_truthy_bool ?_
  by_cases hc : lo < hi
  · have e : decide ((lo : Int) < (hi : Int)) = true := decide_eq_true (by omega)
    rw [e, if_pos rfl]
    with_reducible refine wpAny_execs_cons ?_
    refine wpAny_Assign_Name ?_ hsw
    with_reducible refine wpAny_BinOp ?_
    with_reducible refine wpAny_BinOp ?_
    refine nmL F.ns ml ?_ hk hl1
    refine nmL F.ns mh ?_ hk hl2
    refine PyProof.Rows.add_int ?_
    refine wpAny_Constant_int ?_
    refine floordiv_int (by decide) ?_
    rw [fdiv2]
    refine stL F ?_ rfl hk hl3
    intro h₂ F₂
    with_reducible refine wpAny_execs_cons ?_
    have hm : (lo + hi) / 2 < n := by omega
    refine hif lo hi ((lo + hi) / 2) _ _ _ hm ⟨h₂, _, _, _, _, _, rfl, by omega, F₂, ma, mx, mk, ml, mh, rfl⟩ ?_ ?_
    · intro hp s'' hs''
      refine wpAny_execs_nil ⟨hi - ((lo + hi) / 2 + 1), by omega, (lo + hi) / 2 + 1, hi, rfl, by omega, hhi, ?_, hup, hs''⟩
      intro j hj
      exact mono j _ (by omega) hm hp
    · intro hp s'' hs''
      refine wpAny_execs_nil ⟨(lo + hi) / 2 - lo, by omega, lo, (lo + hi) / 2, rfl, by omega, by omega, hlo, ?_, hs''⟩
      intro j hj hjn hpj
      exact hp (mono _ j hj hjn hpj)
  · have e : decide ((lo : Int) < (hi : Int)) = false := decide_eq_false (by omega)
    rw [e]
    simp only [Bool.false_eq_true, if_false]
    have : lo = hi := by omega
    subst this
    exact wpAny_execs_nil (h lo _ hhi hlo hup hst)
end
end Mine

set_option Elab.async false
set_option maxRecDepth 100000
set_option maxHeartbeats 4000000
namespace Mine
open PySem PySem.W PySem.W.X PyProof.Rows PySem.Calls PySem.Spec

/-- what a key's call does: the j-th item gives f j, the heap only grows -/
def KeyC (prog : Program) (w : World) (h₀ : Heap) (kf : Addr) (vs : List Value) (f : Nat → Int) : Prop :=
  (∃ o fd, h₀.get? kf = some o ∧ o.data = .func fd) ∧
  ∀ (A : Around) (E : Value → Shared → Prop) (s : Shared) (Q : Value → Shared → Prop) (j : Nat) (v : Value), h₀.StaysIn s.heap → 1 ≤ s.toks → A.depth < 800 → vs[j]? = some v →
    (∀ t h' tk', 1 ≤ tk' → s.heap.StaysIn h' → Q (.int (f j) t) { s with heap := h', toks := tk' }) → wpAny (model prog w) A (call (.ref kf) [v]) Q E s

/-- an expression of the search's frame that gives f mid -/
def ValC (prog : Program) (w : World) (A : Around) (env : Env) (h₀ : Heap) (L : Addr) (va vx vk : Value) (n : Nat) (f : Nat → Int) (e : Expr) (s : Shared) : Prop :=
  ∀ lo hi mid s' (Q : Value → Shared → Prop) (E : Value → Shared → Prop), mid < n → BMid h₀ L va vx vk lo hi mid s s' → (∀ t s'', BMid h₀ L va vx vk lo hi mid s s'' → Q (.int (f mid) t) s'') → wpAny (model prog w) A (eval e env) Q E s'

section
variable {prog : Program} {w : World} {A : Around} {E : Value → Shared → Prop} {s : Shared} {env : Env} {h₀ : Heap} {L : Addr} {va vx vk : Value} {n : Nat} {f : Nat → Int} {x : Int} {tx : Tok}

theorem valU {l : Addr} {vs : List Value} {p1 p2 p3 : Pos} (hl : h₀.IsList l vs.toArray) (hv : ∀ j, j < n → ∃ t, vs[j]? = some (.int (f j) t)) (hn : n < 2 ^ 62) (ha : va = .ref l)
    (hL : env.locals = L := by rfl) (hk : env.scope.kind = .function := by rfl) (hl1 : env.kindOf "a" = some .local := by rfl) (hl3 : env.kindOf "mid" = some .local := by rfl) :
    ValC prog w A env h₀ L va vx vk n f (.Subscript (.Name "a" p1) (.Name "mid" p2) p3) s := by
  subst hL ha
  intro lo hi mid s' Q E hmid hst h
  have hst' := hst
  obtain ⟨h', tk, m, tl, th, tm, rfl, htk, F, ma, mx, mk, ml, mh, mm⟩ := hst'
  with_reducible refine Subscript_ ?_
  refine nmL F.ns ma ?_ hk hl1
  refine nmL F.ns mm ?_ hk hl3
  obtain ⟨t, ht⟩ := hv mid hmid
  exact item_litK (stays_list F.keep hl) (by omega) (by omega) ht (h t _ hst)

theorem valK {l kf : Addr} {vs : List Value} {p1 p2 p3 p4 p5 : Pos} (hl : h₀.IsList l vs.toArray) (hkey : KeyC prog w h₀ kf vs f) (hd : A.depth < 800) (hn : n < 2 ^ 62) (hvs : n ≤ vs.length) (ha : va = .ref l) (hkv : vk = .ref kf)
    (hL : env.locals = L := by rfl) (hk : env.scope.kind = .function := by rfl) (hl1 : env.kindOf "a" = some .local := by rfl) (hl3 : env.kindOf "mid" = some .local := by rfl) (hl4 : env.kindOf "key" = some .local := by rfl) :
    ValC prog w A env h₀ L va vx vk n f (.Call (.Name "key" p4) [.Subscript (.Name "a" p1) (.Name "mid" p2) p3] [] p5) s := by
  subst hL ha hkv
  intro lo hi mid s' Q E hmid hst h
  have hst' := hst
  obtain ⟨h', tk, m, tl, th, tm, rfl, htk, F, ma, mx, mk, ml, mh, mm⟩ := hst'
  obtain ⟨⟨o, fd, ho, hfd⟩, hcall⟩ := hkey
  refine Call_ ?_
  refine nmL F.ns mk ?_ hk hl4
  refine callWith_def hfd ?_
  refine spliced_more ?_
  with_reducible refine Subscript_ ?_
  refine nmL F.ns ma ?_ hk hl1
  refine nmL F.ns mm ?_ hk hl3
  have hx : vs[((mid : Nat) : Int).toNat]? = some (vs[mid]'(by omega)) := by simp
  refine item_litK (stays_list F.keep hl) (by omega) (by omega) hx ?_
  refine spliced_none ⟨F.keep _ _ ho, ?_⟩
  refine hcall A E _ Q mid _ F.keep htk hd (by simpa using hx) ?_
  intro t h₂ tk₂ htk₂ k₂
  exact h t _ ⟨h₂, tk₂, m, tl, th, tm, rfl, htk₂, F.keeps k₂, ma, mx, mk, ml, mh, mm⟩

theorem ifR {e : Expr} {p1 p2 p3 p4 p5 p6 p7 p8 p9 p10 p11 : Pos} (hx : vx = .int x tx) (hv : ValC prog w A env h₀ L va vx vk n f e s)
    {lo hi mid : Nat} {s' : Shared} {Q' : Flow → Shared → Prop} {E' : Value → Shared → Prop} (hmid : mid < n) (hst : BMid h₀ L va vx vk lo hi mid s s')
    (h1 : f mid ≤ x → ∀ s'', BSt h₀ L va vx vk (mid + 1) hi s s'' → Q' .next s'') (h2 : ¬ f mid ≤ x → ∀ s'', BSt h₀ L va vx vk lo mid s s'' → Q' .next s'')
    (hL : env.locals = L := by rfl) (hk : env.scope.kind = .function := by rfl) (hl0 : env.kindOf "x" = some .local := by rfl) (hl1 : env.kindOf "lo" = some .local := by rfl) (hl2 : env.kindOf "hi" = some .local := by rfl) (hl3 : env.kindOf "mid" = some .local := by rfl)
    (hb : behindInMarks .Lt e = false := by with_unfolding_all rfl)
    (hsw1 : swapsWith (.Name "mid" p3) (some (.Name "hi" p4)) p5.line env = pure false := by rfl) (hsw2 : swapsWith (.BinOp (.Name "mid" p6) .Add (.Constant (.int 1) 0 p7) p8) (some (.Name "lo" p9)) p10.line env = pure false := by rfl) :
    wpAny (model prog w) A (exec (.If (.Compare (.Name "x" p1) [.Lt] [e] p2) [.Assign [.Name "hi" p4] (.Name "mid" p3) p5] [.Assign [.Name "lo" p9] (.BinOp (.Name "mid" p6) .Add (.Constant (.int 1) 0 p7) p8) p10] p11) env) Q' E' s' := by
  subst hL hx
  have hst' := hst
  obtain ⟨h', tk, m, tl, th, tm, rfl, htk, F, ma, mx, mk, ml, mh, mm⟩ := hst'
  with_reducible refine wpAny_If ?_
  refine wpAny_isTrue_Compare1 ?_ hb
  refine nmL F.ns mx ?_ hk hl0
  refine hv lo hi mid _ _ _ hmid hst ?_
  intro t s₂ hst₂
  refine PyProof.Rows.lt_int ?_
  refine wpAny_truthy_bool ?_
  obtain ⟨h₂, tk₂, m₂, tl₂, th₂, tm₂, rfl, htk₂, F₂, ma₂, mx₂, mk₂, ml₂, mh₂, mm₂⟩ := hst₂
  by_cases hc : x < f mid
  · rw [decide_eq_true hc, if_pos rfl]
    with_reducible refine wpAny_execs_cons ?_
    refine wpAny_Assign_Name ?_ hsw1
    refine nmL F₂.ns mm₂ ?_ hk hl3
    refine stL F₂ ?_ rfl hk hl2
    intro h₃ F₃
    exact wpAny_execs_nil (h2 (by omega) _ ⟨h₃, _, _, _, _, rfl, by omega, F₃, ma₂, mx₂, mk₂, ml₂, rfl⟩)
  · rw [decide_eq_false hc]
    simp only [Bool.false_eq_true, if_false]
    with_reducible refine wpAny_execs_cons ?_
    refine wpAny_Assign_Name ?_ hsw2
    with_reducible refine wpAny_BinOp ?_
    refine nmL F₂.ns mm₂ ?_ hk hl3
    refine wpAny_Constant_int ?_
    refine PyProof.Rows.add_int ?_
    refine stL F₂ ?_ rfl hk hl1
    intro h₃ F₃
    exact wpAny_execs_nil (h1 (by omega) _ ⟨h₃, _, _, _, _, rfl, by omega, F₃, ma₂, mx₂, mk₂, rfl, mh₂⟩)

theorem ifL {e : Expr} {p1 p2 p3 p4 p5 p6 p7 p8 p9 p10 p11 : Pos} (hx : vx = .int x tx) (hv : ValC prog w A env h₀ L va vx vk n f e s)
    {lo hi mid : Nat} {s' : Shared} {Q' : Flow → Shared → Prop} {E' : Value → Shared → Prop} (hmid : mid < n) (hst : BMid h₀ L va vx vk lo hi mid s s')
    (h1 : f mid < x → ∀ s'', BSt h₀ L va vx vk (mid + 1) hi s s'' → Q' .next s'') (h2 : ¬ f mid < x → ∀ s'', BSt h₀ L va vx vk lo mid s s'' → Q' .next s'')
    (hL : env.locals = L := by rfl) (hk : env.scope.kind = .function := by rfl) (hl0 : env.kindOf "x" = some .local := by rfl) (hl1 : env.kindOf "lo" = some .local := by rfl) (hl2 : env.kindOf "hi" = some .local := by rfl) (hl3 : env.kindOf "mid" = some .local := by rfl)
    (hb : behindInMarks .Lt (.Name "x" p1) = false := by with_unfolding_all rfl)
    (hsw1 : swapsWith (.Name "mid" p3) (some (.Name "hi" p4)) p5.line env = pure false := by rfl) (hsw2 : swapsWith (.BinOp (.Name "mid" p6) .Add (.Constant (.int 1) 0 p7) p8) (some (.Name "lo" p9)) p10.line env = pure false := by rfl) :
    wpAny (model prog w) A (exec (.If (.Compare e [.Lt] [.Name "x" p1] p2) [.Assign [.Name "lo" p9] (.BinOp (.Name "mid" p6) .Add (.Constant (.int 1) 0 p7) p8) p10] [.Assign [.Name "hi" p4] (.Name "mid" p3) p5] p11) env) Q' E' s' := by
  subst hL hx
  with_reducible refine wpAny_If ?_
  refine wpAny_isTrue_Compare1 ?_ hb
  refine hv lo hi mid _ _ _ hmid hst ?_
  intro t s₂ hst₂
  obtain ⟨h₂, tk₂, m₂, tl₂, th₂, tm₂, rfl, htk₂, F₂, ma₂, mx₂, mk₂, ml₂, mh₂, mm₂⟩ := hst₂
  refine nmL F₂.ns mx₂ ?_ hk hl0
  refine PyProof.Rows.lt_int ?_
  refine wpAny_truthy_bool ?_
  by_cases hc : f mid < x
  · rw [decide_eq_true hc, if_pos rfl]
    with_reducible refine wpAny_execs_cons ?_
    refine wpAny_Assign_Name ?_ hsw2
    with_reducible refine wpAny_BinOp ?_
    refine nmL F₂.ns mm₂ ?_ hk hl3
    refine wpAny_Constant_int ?_
    refine PyProof.Rows.add_int ?_
    refine stL F₂ ?_ rfl hk hl1
    intro h₃ F₃
    exact wpAny_execs_nil (h1 hc _ ⟨h₃, _, _, _, _, rfl, by omega, F₃, ma₂, mx₂, mk₂, rfl, mh₂⟩)
  · rw [decide_eq_false hc]
    simp only [Bool.false_eq_true, if_false]
    with_reducible refine wpAny_execs_cons ?_
    refine wpAny_Assign_Name ?_ hsw1
    refine nmL F₂.ns mm₂ ?_ hk hl3
    refine stL F₂ ?_ rfl hk hl2
    intro h₃ F₃
    exact wpAny_execs_nil (h2 hc _ ⟨h₃, _, _, _, _, rfl, by omega, F₃, ma₂, mx₂, mk₂, ml₂, rfl⟩)
end
end Mine

set_option Elab.async false
set_option maxRecDepth 100000
set_option maxHeartbeats 4000000
namespace Mine
open PySem PySem.W PySem.W.X PyProof.Rows PySem.Calls PySem.Spec

theorem constN {M : Model} {A : Around} {E : Value → Shared → Prop} {s : Shared} {env : Env} {k : Nat} {pos : Pos} {Q : Value → Shared → Prop} (h : Q .none s) : wpAny M A (eval (.Constant .none k pos) env) Q E s := fun _ _ _ => h
theorem constB {M : Model} {A : Around} {E : Value → Shared → Prop} {s : Shared} {env : Env} {k : Nat} {pos : Pos} {b : Bool} {Q : Value → Shared → Prop} (h : Q (.bool b) s) : wpAny M A (eval (.Constant (.bool b) k pos) env) Q E s := fun _ _ _ => h

theorem binds_both {s : Shared} {fd : FuncData} {args : Args} {binds : List (Str × Value)} {T D : Addr} {o : Obj} {oD : Obj} {items : Array Value} {n : Nat}
    {k : Option (Array Value) → Sem (List (Str × Value))} (hd : fd.defaults = .ref T) (ho : s.heap.get? T = some o) (hs : o.data = .seq items n)
    (h₁ : bindArgs fd args = seqItems? fd.defaults >>= k) (hD : s.heap.get? D = some oD)
    (h₂ : ∀ (M : Model) (Γ : PySem.Ctx) (p : Pos) (Q : List (Str × Value) → Pos → Shared → Prop) (E : Value → Pos → Shared → Prop), s.heap.get? D = some oD → Q binds p s → Sem.wp M Γ (k (some items)) Q E p s) : BindsTo s fd args binds :=
  fun _ _ _ _ hq => by
    rw [h₁, hd]
    refine wpAny_bind (wpAny_seqItems ho hs ?_)
    intro Γ p _
    exact h₂ _ Γ p _ _ hD hq

section
variable {prog : Program} {w : World} {A : Around} {E : Value → Shared → Prop} {s : Shared} {mg mb : Str → Option Value}

theorem bisRk {l kf : Addr} {vs : List Value} {f : Nat → Int} {x : Int} {tx : Tok} {Q : Value → Shared → Prop} (G : Gr w mg mb s.heap) (hroom : A.depth < 700) (htk : 1 ≤ s.toks)
    (hl : s.heap.IsList l vs.toArray) (hn : vs.length < 2 ^ 60) (hkey : KeyC prog w s.heap kf vs f) (mono : ∀ i j, i ≤ j → j < vs.length → f i ≤ f j)
    (h : ∀ r t h' tk', 1 ≤ tk' → s.heap.StaysIn h' → r ≤ vs.length → (∀ j, j < r → f j ≤ x) → (∀ j, r ≤ j → j < vs.length → ¬ f j ≤ x) → Q (.int ((r : Nat) : Int) t) { s with heap := h', toks := tk' }) :
    wpAny (model prog w) A (call (.ref 23) [.ref l, .int x tx] [("key", .ref kf)]) Q E s := by
  refine enter (binds := [("a", .ref l), ("x", .int x tx), ("lo", .int 0 189), ("hi", .none), ("key", .ref kf)]) G (by rfl) (by kernel_rfl!) (Nat.lt_trans hroom (by decide)) ?_ (locs (by rfl)) (by rfl) (by rfl) (by rfl) (by decide) ?_
  · exact BindsTo.of_defaults (T := 15) (by rfl) (G.X 15 _ (by rfl)) (by rfl) (by rfl) (by rfl)
  intro h₁ F
  have G₁ := G.keeps F.keep
  with_reducible refine wpAny_execs_cons ?_
  with_reducible refine wpAny_If ?_
  refine wpAny_isTrue_Compare1 ?_
  refine nmL F.ns (by rfl) ?_
  refine wpAny_Constant_int ?_
  refine PyProof.Rows.lt_int ?_
  refine wpAny_truthy_bool ?_
  rw [show decide ((0 : Int) < 0) = false from rfl]
  simp only [Bool.false_eq_true, if_false]
  with_reducible refine wpAny_execs_nil ?_
  with_reducible refine wpAny_execs_cons ?_
  with_reducible refine wpAny_If ?_
  refine wpAny_isTrue_Compare1 ?_
  refine nmL F.ns (by rfl) ?_
  refine constN ?_
  refine PyProof.Rows.is_none_none ?_
  refine wpAny_truthy_bool ?_
  rw [if_pos rfl]
  with_reducible refine wpAny_execs_cons ?_
  refine wpAny_Assign_Name ?_
  refine Call_ ?_
  refine nmB (v := .builtin "len") G₁ (by kernel_rfl!) (by kernel_rfl!) (by decide) ?_
  refine PyProof.Rows.callWith_builtin1 ?_
  refine spliced_more ?_
  refine nmL F.ns (by rfl) ?_
  refine spliced_none ?_
  refine PyProof.Rows.len_list (stays_list F.keep hl) (by simp only [List.size_toArray]; omega) ?_
  refine stL F ?_
  intro h₂ F₂
  with_reducible refine wpAny_execs_nil ?_
  with_reducible refine wpAny_execs_cons ?_
  with_reducible refine wpAny_If ?_
  refine wpAny_isTrue_Compare1 ?_
  refine nmL F₂.ns (by rfl) ?_
  refine constN ?_
  refine PyProof.Rows.is_ref_none ?_
  refine wpAny_truthy_bool ?_
  simp only [Bool.false_eq_true, if_false]
  with_reducible refine wpAny_execs_cons ?_
  refine bisLoop (h₀ := s.heap) (L := s.heap.objs.size) (va := .ref l) (vx := .int x tx) (vk := .ref kf) (n := vs.length) (P := fun j => f j ≤ x) (lo := 0) (hi := vs.length) (fun i j hij hj (hp : f j ≤ x) => Int.le_trans (mono i j hij hj) hp) ?_ ⟨h₂, _, _, 189, _, rfl, by omega, F₂, rfl, rfl, rfl, rfl, rfl⟩ (Nat.zero_le _) (Nat.le_refl _) (fun j hj => absurd hj (Nat.not_lt_zero _)) (fun j hj hj' => absurd hj' (Nat.not_lt.mpr hj)) ?_
  · intro lo hi mid s' Q' E' hmid hst h1 h2
    exact ifR (f := f) rfl (valK hl hkey (by show A.depth + 1 < 800; omega) (by omega) (Nat.le_refl _) rfl rfl) hmid hst h1 h2
  · rintro r s' hr hlo hup ⟨h₃, tk₃, m₃, tl₃, th₃, rfl, htk₃, F₃, _, _, _, ml, _⟩
    with_reducible refine wpAny_execs_nil ?_
    with_reducible refine wpAny_execs_cons ?_
    with_reducible refine wpAny_Return_some ?_
    refine nmL F₃.ns ml ?_
    exact h r tl₃ h₃ tk₃ htk₃ F₃.keep hr hlo hup

theorem bisR {l : Addr} {vs : List Value} {f : Nat → Int} {x : Int} {tx : Tok} {Q : Value → Shared → Prop} (G : Gr w mg mb s.heap) (hroom : A.depth < 700) (htk : 1 ≤ s.toks)
    (hl : s.heap.IsList l vs.toArray) (hn : vs.length < 2 ^ 60) (hv : ∀ j, j < vs.length → ∃ t, vs[j]? = some (.int (f j) t)) (mono : ∀ i j, i ≤ j → j < vs.length → f i ≤ f j)
    (h : ∀ r t h' tk', 1 ≤ tk' → s.heap.StaysIn h' → r ≤ vs.length → (∀ j, j < r → f j ≤ x) → (∀ j, r ≤ j → j < vs.length → ¬ f j ≤ x) → Q (.int ((r : Nat) : Int) t) { s with heap := h', toks := tk' }) :
    wpAny (model prog w) A (call (.ref 23) [.ref l, .int x tx] []) Q E s := by
  refine enter (binds := [("a", .ref l), ("x", .int x tx), ("lo", .int 0 189), ("hi", .none), ("key", .none)]) G (by rfl) (by kernel_rfl!) (Nat.lt_trans hroom (by decide)) ?_ (locs (by rfl)) (by rfl) (by rfl) (by rfl) (by decide) ?_
  · exact binds_both (T := 15) (D := 16) (by rfl) (G.X 15 _ (by rfl)) (by rfl) (by rfl) (G.X 16 _ (by rfl)) (by intro M Γ p Q' E' hD hq; exact ⟨_, hD, hq⟩)
  intro h₁ F
  have G₁ := G.keeps F.keep
  with_reducible refine wpAny_execs_cons ?_
  with_reducible refine wpAny_If ?_
  refine wpAny_isTrue_Compare1 ?_
  refine nmL F.ns (by rfl) ?_
  refine wpAny_Constant_int ?_
  refine PyProof.Rows.lt_int ?_
  refine wpAny_truthy_bool ?_
  rw [show decide ((0 : Int) < 0) = false from rfl]
  simp only [Bool.false_eq_true, if_false]
  with_reducible refine wpAny_execs_nil ?_
  with_reducible refine wpAny_execs_cons ?_
  with_reducible refine wpAny_If ?_
  refine wpAny_isTrue_Compare1 ?_
  refine nmL F.ns (by rfl) ?_
  refine constN ?_
  refine PyProof.Rows.is_none_none ?_
  refine wpAny_truthy_bool ?_
  rw [if_pos rfl]
  with_reducible refine wpAny_execs_cons ?_
  refine wpAny_Assign_Name ?_
  refine Call_ ?_
  refine nmB (v := .builtin "len") G₁ (by kernel_rfl!) (by kernel_rfl!) (by decide) ?_
  refine PyProof.Rows.callWith_builtin1 ?_
  refine spliced_more ?_
  refine nmL F.ns (by rfl) ?_
  refine spliced_none ?_
  refine PyProof.Rows.len_list (stays_list F.keep hl) (by simp only [List.size_toArray]; omega) ?_
  refine stL F ?_
  intro h₂ F₂
  with_reducible refine wpAny_execs_nil ?_
  with_reducible refine wpAny_execs_cons ?_
  with_reducible refine wpAny_If ?_
  refine wpAny_isTrue_Compare1 ?_
  refine nmL F₂.ns (by rfl) ?_
  refine constN ?_
  refine PyProof.Rows.is_none_none ?_
  refine wpAny_truthy_bool ?_
  rw [if_pos rfl]
  with_reducible refine wpAny_execs_cons ?_
  refine bisLoop (h₀ := s.heap) (L := s.heap.objs.size) (va := .ref l) (vx := .int x tx) (vk := .none) (n := vs.length) (P := fun j => f j ≤ x) (lo := 0) (hi := vs.length) (fun i j hij hj (hp : f j ≤ x) => Int.le_trans (mono i j hij hj) hp) ?_ ⟨h₂, _, _, 189, _, rfl, by omega, F₂, rfl, rfl, rfl, rfl, rfl⟩ (Nat.zero_le _) (Nat.le_refl _) (fun j hj => absurd hj (Nat.not_lt_zero _)) (fun j hj hj' => absurd hj' (Nat.not_lt.mpr hj)) ?_
  · intro lo hi mid s' Q' E' hmid hst h1 h2
    exact ifR (f := f) rfl (valU hl hv (by omega) rfl) hmid hst h1 h2
  · rintro r s' hr hlo hup ⟨h₃, tk₃, m₃, tl₃, th₃, rfl, htk₃, F₃, _, _, _, ml, _⟩
    with_reducible refine wpAny_execs_nil ?_
    with_reducible refine wpAny_execs_cons ?_
    with_reducible refine wpAny_Return_some ?_
    refine nmL F₃.ns ml ?_
    exact h r tl₃ h₃ tk₃ htk₃ F₃.keep hr hlo hup

theorem bisLk {l kf : Addr} {vs : List Value} {f : Nat → Int} {x : Int} {tx : Tok} {Q : Value → Shared → Prop} (G : Gr w mg mb s.heap) (hroom : A.depth < 700) (htk : 1 ≤ s.toks)
    (hl : s.heap.IsList l vs.toArray) (hn : vs.length < 2 ^ 60) (hkey : KeyC prog w s.heap kf vs f) (mono : ∀ i j, i ≤ j → j < vs.length → f i ≤ f j)
    (h : ∀ r t h' tk', 1 ≤ tk' → s.heap.StaysIn h' → r ≤ vs.length → (∀ j, j < r → f j < x) → (∀ j, r ≤ j → j < vs.length → ¬ f j < x) → Q (.int ((r : Nat) : Int) t) { s with heap := h', toks := tk' }) :
    wpAny (model prog w) A (call (.ref 32) [.ref l, .int x tx] [("key", .ref kf)]) Q E s := by
  refine enter (binds := [("a", .ref l), ("x", .int x tx), ("lo", .int 0 203), ("hi", .none), ("key", .ref kf)]) G (by rfl) (by kernel_rfl!) (Nat.lt_trans hroom (by decide)) ?_ (locs (by rfl)) (by rfl) (by rfl) (by rfl) (by decide) ?_
  · exact BindsTo.of_defaults (T := 24) (by rfl) (G.X 24 _ (by rfl)) (by rfl) (by rfl) (by rfl)
  intro h₁ F
  have G₁ := G.keeps F.keep
  with_reducible refine wpAny_execs_cons ?_
  with_reducible refine wpAny_If ?_
  refine wpAny_isTrue_Compare1 ?_
  refine nmL F.ns (by rfl) ?_
  refine wpAny_Constant_int ?_
  refine PyProof.Rows.lt_int ?_
  refine wpAny_truthy_bool ?_
  rw [show decide ((0 : Int) < 0) = false from rfl]
  simp only [Bool.false_eq_true, if_false]
  with_reducible refine wpAny_execs_nil ?_
  with_reducible refine wpAny_execs_cons ?_
  with_reducible refine wpAny_If ?_
  refine wpAny_isTrue_Compare1 ?_
  refine nmL F.ns (by rfl) ?_
  refine constN ?_
  refine PyProof.Rows.is_none_none ?_
  refine wpAny_truthy_bool ?_
  rw [if_pos rfl]
  with_reducible refine wpAny_execs_cons ?_
  refine wpAny_Assign_Name ?_
  refine Call_ ?_
  refine nmB (v := .builtin "len") G₁ (by kernel_rfl!) (by kernel_rfl!) (by decide) ?_
  refine PyProof.Rows.callWith_builtin1 ?_
  refine spliced_more ?_
  refine nmL F.ns (by rfl) ?_
  refine spliced_none ?_
  refine PyProof.Rows.len_list (stays_list F.keep hl) (by simp only [List.size_toArray]; omega) ?_
  refine stL F ?_
  intro h₂ F₂
  with_reducible refine wpAny_execs_nil ?_
  with_reducible refine wpAny_execs_cons ?_
  with_reducible refine wpAny_If ?_
  refine wpAny_isTrue_Compare1 ?_
  refine nmL F₂.ns (by rfl) ?_
  refine constN ?_
  refine PyProof.Rows.is_ref_none ?_
  refine wpAny_truthy_bool ?_
  simp only [Bool.false_eq_true, if_false]
  with_reducible refine wpAny_execs_cons ?_
  refine bisLoop (h₀ := s.heap) (L := s.heap.objs.size) (va := .ref l) (vx := .int x tx) (vk := .ref kf) (n := vs.length) (P := fun j => f j < x) (lo := 0) (hi := vs.length) (fun i j hij hj (hp : f j < x) => Int.lt_of_le_of_lt (mono i j hij hj) hp) ?_ ⟨h₂, _, _, 203, _, rfl, by omega, F₂, rfl, rfl, rfl, rfl, rfl⟩ (Nat.zero_le _) (Nat.le_refl _) (fun j hj => absurd hj (Nat.not_lt_zero _)) (fun j hj hj' => absurd hj' (Nat.not_lt.mpr hj)) ?_
  · intro lo hi mid s' Q' E' hmid hst h1 h2
    exact ifL (f := f) rfl (valK hl hkey (by show A.depth + 1 < 800; omega) (by omega) (Nat.le_refl _) rfl rfl) hmid hst h1 h2
  · rintro r s' hr hlo hup ⟨h₃, tk₃, m₃, tl₃, th₃, rfl, htk₃, F₃, _, _, _, ml, _⟩
    with_reducible refine wpAny_execs_nil ?_
    with_reducible refine wpAny_execs_cons ?_
    with_reducible refine wpAny_Return_some ?_
    refine nmL F₃.ns ml ?_
    exact h r tl₃ h₃ tk₃ htk₃ F₃.keep hr hlo hup

theorem bisL {l : Addr} {vs : List Value} {f : Nat → Int} {x : Int} {tx : Tok} {Q : Value → Shared → Prop} (G : Gr w mg mb s.heap) (hroom : A.depth < 700) (htk : 1 ≤ s.toks)
    (hl : s.heap.IsList l vs.toArray) (hn : vs.length < 2 ^ 60) (hv : ∀ j, j < vs.length → ∃ t, vs[j]? = some (.int (f j) t)) (mono : ∀ i j, i ≤ j → j < vs.length → f i ≤ f j)
    (h : ∀ r t h' tk', 1 ≤ tk' → s.heap.StaysIn h' → r ≤ vs.length → (∀ j, j < r → f j < x) → (∀ j, r ≤ j → j < vs.length → ¬ f j < x) → Q (.int ((r : Nat) : Int) t) { s with heap := h', toks := tk' }) :
    wpAny (model prog w) A (call (.ref 32) [.ref l, .int x tx] []) Q E s := by
  refine enter (binds := [("a", .ref l), ("x", .int x tx), ("lo", .int 0 203), ("hi", .none), ("key", .none)]) G (by rfl) (by kernel_rfl!) (Nat.lt_trans hroom (by decide)) ?_ (locs (by rfl)) (by rfl) (by rfl) (by rfl) (by decide) ?_
  · exact binds_both (T := 24) (D := 25) (by rfl) (G.X 24 _ (by rfl)) (by rfl) (by rfl) (G.X 25 _ (by rfl)) (by intro M Γ p Q' E' hD hq; exact ⟨_, hD, hq⟩)
  intro h₁ F
  have G₁ := G.keeps F.keep
  with_reducible refine wpAny_execs_cons ?_
  with_reducible refine wpAny_If ?_
  refine wpAny_isTrue_Compare1 ?_
  refine nmL F.ns (by rfl) ?_
  refine wpAny_Constant_int ?_
  refine PyProof.Rows.lt_int ?_
  refine wpAny_truthy_bool ?_
  rw [show decide ((0 : Int) < 0) = false from rfl]
  simp only [Bool.false_eq_true, if_false]
  with_reducible refine wpAny_execs_nil ?_
  with_reducible refine wpAny_execs_cons ?_
  with_reducible refine wpAny_If ?_
  refine wpAny_isTrue_Compare1 ?_
  refine nmL F.ns (by rfl) ?_
  refine constN ?_
  refine PyProof.Rows.is_none_none ?_
  refine wpAny_truthy_bool ?_
  rw [if_pos rfl]
  with_reducible refine wpAny_execs_cons ?_
  refine wpAny_Assign_Name ?_
  refine Call_ ?_
  refine nmB (v := .builtin "len") G₁ (by kernel_rfl!) (by kernel_rfl!) (by decide) ?_
  refine PyProof.Rows.callWith_builtin1 ?_
  refine spliced_more ?_
  refine nmL F.ns (by rfl) ?_
  refine spliced_none ?_
  refine PyProof.Rows.len_list (stays_list F.keep hl) (by simp only [List.size_toArray]; omega) ?_
  refine stL F ?_
  intro h₂ F₂
  with_reducible refine wpAny_execs_nil ?_
  with_reducible refine wpAny_execs_cons ?_
  with_reducible refine wpAny_If ?_
  refine wpAny_isTrue_Compare1 ?_
  refine nmL F₂.ns (by rfl) ?_
  refine constN ?_
  refine PyProof.Rows.is_none_none ?_
  refine wpAny_truthy_bool ?_
  rw [if_pos rfl]
  with_reducible refine wpAny_execs_cons ?_
  refine bisLoop (h₀ := s.heap) (L := s.heap.objs.size) (va := .ref l) (vx := .int x tx) (vk := .none) (n := vs.length) (P := fun j => f j < x) (lo := 0) (hi := vs.length) (fun i j hij hj (hp : f j < x) => Int.lt_of_le_of_lt (mono i j hij hj) hp) ?_ ⟨h₂, _, _, 203, _, rfl, by omega, F₂, rfl, rfl, rfl, rfl, rfl⟩ (Nat.zero_le _) (Nat.le_refl _) (fun j hj => absurd hj (Nat.not_lt_zero _)) (fun j hj hj' => absurd hj' (Nat.not_lt.mpr hj)) ?_
  · intro lo hi mid s' Q' E' hmid hst h1 h2
    exact ifL (f := f) rfl (valU hl hv (by omega) rfl) hmid hst h1 h2
  · rintro r s' hr hlo hup ⟨h₃, tk₃, m₃, tl₃, th₃, rfl, htk₃, F₃, _, _, _, ml, _⟩
    with_reducible refine wpAny_execs_nil ?_
    with_reducible refine wpAny_execs_cons ?_
    with_reducible refine wpAny_Return_some ?_
    refine nmL F₃.ns ml ?_
    exact h r tl₃ h₃ tk₃ htk₃ F₃.keep hr hlo hup
end
end Mine

set_option Elab.async false
set_option maxRecDepth 100000
set_option maxHeartbeats 4000000
namespace Mine
open PySem PySem.W PySem.W.X PyProof.Rows PySem.Calls PySem.Spec

section
variable {prog : Program} {w : World} {A : Around} {E : Value → Shared → Prop} {s : Shared} {env : Env} {g : Heap} {L : Addr} {m : Str → Option Value}

theorem forW {R : Result → Shared → Prop} {target : Expr} {body : List Stmt} {I : Addr} {fp : List Addr} {n : Nat} {P : Nat → Value → Prop} {St : Nat → Heap → Prop}
    (W : Walks prog w A I fp [I] n P St) (hfp : ∀ b ∈ fp, b = I ∨ ∃ o, g.get? b = some o) (hI : g.get? I = none) (hIL : L ≠ I) (Lv : Heap → Prop) (hlv : ∀ i h, St i h → Lv h)
    (J : Nat → Heap → (Str → Option Value) → Prop)
    (hJ : ∀ i h h' m, J i h m → (∀ b o, b ≠ I → b ≠ L → h.get? b = some o → h'.get? b = some o) → J i h' m)
    (hgo : ∀ i v h tk (Q' : Unit → Shared → Prop) (E' : Value → Shared → Prop), P i v → St (i + 1) h → Q' () { s with heap := h, toks := tk } → wpAny (model prog w) A (letOwnedTupleGo target (.ref I) v) Q' E' { s with heap := h, toks := tk })
    (step : ∀ i v h₁ tk₁ m₁ (Q' : Flow → Shared → Prop) (E' : Value → Shared → Prop), i < n → P i v → 1 ≤ tk₁ → Fr g L h₁ m₁ → J i h₁ m₁ → Lv h₁ →
      (∀ h₂ tk₂ m₂, 1 ≤ tk₂ → Fr g L h₂ m₂ → J (i + 1) h₂ m₂ → (∀ o, h₁.get? I = some o → h₂.get? I = some o) → Q' .next { s with heap := h₂, toks := tk₂ }) →
      wpAny (model prog w) A (assign target env v) (fun _ s₂ => wpAny (model prog w) A (execs body env) Q' E' s₂) E' { s with heap := h₁, toks := tk₁ })
    (hst : St 0 s.heap) (F : Fr g L s.heap m) (h0 : J 0 s.heap m) (htk : 1 ≤ s.toks)
    (hR : ∀ h' tk' m', 1 ≤ tk' → Fr g L h' m' → J n h' m' → R (.ok .next) { s with heap := h', toks := tk' }) :
    codeAny (model prog w) A (.forLoop target (.ref I) body [] env) R s := by
  refine codeAny_forLoop_any (fun k s' => ∃ h' tk m' i, s' = { s with heap := h', toks := tk } ∧ 1 ≤ tk ∧ i ≤ n ∧ k = n + 1 - i ∧ St i h' ∧ Fr g L h' m' ∧ J i h' m') ?_ (n + 1) ⟨s.heap, s.toks, m, 0, rfl, htk, Nat.zero_le _, rfl, hst, F, h0⟩
  rintro k s' ⟨h', tk, m', i, rfl, htk', hi, rfl, hst', F', hJ'⟩
  by_cases hlt : i < n
  · refine wpAny_with_toks (n := 1) htk' (W.item i _ _ _ hlt hst' fun v h₁ tk₁ hP hst₁ hk₁ htk₁ => ?_)
    refine hgo i v h₁ tk₁ _ _ hP hst₁ ?_
    have F₁ : Fr g L h₁ m' := LCg.fr_but F' hk₁ hIL hI
    have hJ₁ := hJ i _ _ _ hJ' fun b o hb _ e => hk₁ b o (by simpa using hb) e
    refine step i v h₁ tk₁ m' _ _ hlt hP htk₁ F₁ hJ₁ (hlv _ _ hst₁) ?_
    intro h₂ tk₂ m₂ htk₂ F₂ hJ₂ hkI
    refine ⟨n + 1 - (i + 1), by omega, h₂, tk₂, m₂, i + 1, rfl, htk₂, hlt, rfl, ?_, F₂, hJ₂⟩
    refine W.frame _ _ _ hst₁ fun b hb o e => ?_
    rcases hfp b hb with rfl | ⟨o', ho'⟩
    · exact hkI o e
    · have e1 := F₁.keep b o' ho'
      rw [e] at e1
      cases e1
      exact F₂.keep b o ho'
  · have hin : i = n := by omega
    subst hin
    refine wpAny_with_toks (n := 1) htk' (W.done _ _ _ hst' fun h₁ tk₁ hk₁ htk₁ => ?_)
    refine wpAny_execs_nil ?_
    exact hR h₁ tk₁ m' htk₁ (LCg.fr_but F' hk₁ hIL hI) (hJ i _ _ _ hJ' fun b o hb _ e => hk₁ b o (by simpa using hb) e)
end
end Mine

set_option Elab.async false
set_option maxRecDepth 100000
set_option maxHeartbeats 4000000
namespace Mine
open PySem PySem.W PySem.W.X PyProof.Rows PySem.Calls PySem.Spec

/-- the length of what hand i writes of the first k signs -/
def pre (i : Nat) (T : List Nat) (k : Nat) : Nat := ((T.take k).flatMap (ref i)).length

theorem pre_zero (i : Nat) (T : List Nat) : pre i T 0 = 0 := by simp [pre]
theorem pre_succ {i : Nat} {T : List Nat} {k c : Nat} (h : T[k]? = some c) : pre i T (k + 1) = pre i T k + (ref i c).length := by
  unfold pre
  rw [List.take_add_one, h]
  simp [List.flatMap_append]
theorem pre_mono (i : Nat) (T : List Nat) {a b : Nat} (h : a ≤ b) : pre i T a ≤ pre i T b := by
  induction b with
  | zero => have : a = 0 := by omega
            subst this; exact Nat.le_refl _
  | succ b ih =>
    by_cases e : a = b + 1
    · subst e; exact Nat.le_refl _
    · refine Nat.le_trans (ih (by omega)) ?_
      cases hc : T[b]? with
      | some c => rw [pre_succ hc]; omega
      | none =>
        unfold pre
        have : T.length ≤ b := List.getElem?_eq_none_iff.mp hc
        rw [List.take_of_length_le this, List.take_of_length_le (by omega)]
        exact Nat.le_refl _
theorem refS_len (i k : Nat) : (refS i k).length = (ref i k).length := by simp [ref, Str.length]
theorem refS_small {i : Nat} (hi : i < 5) (k : Nat) : (refS i k).length ≤ 6 := by
  rw [refS_len, ← chain_ref i hi k]
  by_cases hk : k ∈ [38, 60, 62, 34, 13, 10, 9]
  · have : ∀ i, i < 5 → ∀ k ∈ [38, 60, 62, 34, 13, 10, 9], (chain i k).length ≤ 6 := by decide +kernel
    exact this i hi k hk
  · simp only [List.mem_cons, List.not_mem_nil, or_false, not_or] at hk
    obtain ⟨h38, h60, h62, h34, h13, h10, h9⟩ := hk
    match i, hi with
    | 0, _ | 1, _ | 2, _ | 3, _ | 4, _ => simp [chain, sub1, h38, h60, h62, h34, h13, h10, h9]

theorem lookup_dOf (l : List (Nat × Str)) (k : Nat) : (Spec.lookup (.str ⟨#[k]⟩) (l.map fun p => ((.str ⟨#[p.1]⟩ : PyData), (.str p.2 : PyData)))) = (l.lookup k).map PyData.str := by
  induction l with
  | nil => rfl
  | cons p r ih =>
    rw [List.map_cons, Spec.lookup, ih, List.lookup_cons]
    by_cases h : k = p.1
    · subst h
      have : Spec.same (.str ⟨#[p.1]⟩) (.str ⟨#[p.1]⟩) = true := by rw [PyProof.V.same_str]; simp
      rw [if_pos this]; simp
    · have : Spec.same (.str ⟨#[p.1]⟩) (.str ⟨#[k]⟩) = false := by
        rw [PyProof.V.same_str]; simp only [decide_eq_false_iff_not]
        intro e; injection e with e; simp at e; exact h e.symm
      rw [this]
      have e : (k == p.1) = false := beq_eq_false_iff_ne.mpr h
      simp [e]

section
variable {prog : Program} {w : World} {A : Around} {E : Value → Shared → Prop} {s : Shared} {mg mb : Str → Option Value}

theorem tab_obj {h : Heap} {d : Addr} {D : List (PyData × PyData)} (T : StrTab prog w h d D) : ∃ o, h.get? d = some o ∧ ∀ h' : Heap, h'.get? d = some o → StrTab prog w h' d D := by
  obtain ⟨lo, kvs, hd, hf⟩ := T
  obtain ⟨o, ho, hp⟩ := Heap.dictOf_iff.mp hd
  exact ⟨o, ho, fun h' e => TabAt.ofObj lo e hp hf⟩

/-- references.get(sign, sign) -/
theorem get_ref {i k : Nat} {d : Addr} {t : Tok} {Q : Value → Shared → Prop} (T : StrTab prog w s.heap d (dOf i)) (h : ∀ t', Q (.str (refS i k) t') { s with toks := s.toks + 1 }) :
    wpAny (model prog w) A (call (.builtin "dict.get") [.ref d, .str ⟨#[k]⟩ t, .str ⟨#[k]⟩ t]) Q E s := by
  refine call_get2_strTab T (PyProof.V.Flat.str _ _) fun v hv => ?_
  have e : ((Spec.lookup (.str ⟨#[k]⟩) (dOf i)).getD (.str ⟨#[k]⟩)) = .str (refS i k) := by
    unfold dOf refS
    rw [lookup_dOf]
    cases (tbl i).lookup k <;> rfl
  rw [e] at hv
  obtain ⟨t', rfl⟩ := hv.str_inv
  exact h t'
end
end Mine

set_option Elab.async false
set_option maxRecDepth 100000
set_option maxHeartbeats 4000000
namespace Mine
open PySem PySem.W PySem.W.X PyProof.Rows PySem.Calls PySem.Spec

/-- the values vs are the ints f 0, .., f (n - 1) -/
def IntsOf (vs : List Value) (n : Nat) (f : Nat → Int) : Prop := vs.length = n ∧ ∀ k, k < n → ∃ t, vs[k]? = some (.int (f k) t)
theorem IntsOf.snoc {vs : List Value} {n : Nat} {f : Nat → Int} (h : IntsOf vs n f) {x : Int} {t : Tok} (e : f n = x) : IntsOf (vs ++ [.int x t]) (n + 1) f := by
  refine ⟨by simp [h.1], fun k hk => ?_⟩
  by_cases hk' : k < n
  · obtain ⟨t', ht'⟩ := h.2 k hk'
    exact ⟨t', by rw [List.getElem?_append_left (by rw [h.1]; exact hk')]; exact ht'⟩
  · have : k = n := by omega
    subst this
    refine ⟨t, ?_⟩
    rw [List.getElem?_append_right (by rw [h.1]; exact Nat.le_refl _), h.1, e]
    simp

section
variable {prog : Program} {w : World} {A : Around} {E : Value → Shared → Prop} {s : Shared} {mg mb : Str → Option Value} {env : Env}

theorem itemNeg {value slice : Expr} {l : Addr} {vs : List Value} {u : Tok} {v : Value} {Q : Value → Shared → Prop} (hl : s.heap.IsList l vs.toArray) (hx : vs.getLast? = some v) (h : Q v s)
    (hs : subscripted slice false (.ref l) (.int (-1) u) = operate [.ref l, .int (-1) u] (getItem (.ref l) (.int (-1) u)) := by with_unfolding_all rfl) : wpAny (model prog w) A (subscriptTail value slice (.ref l) (.int (-1) u)) Q E s := by
  have hne : vs ≠ [] := fun e => by rw [e] at hx; cases hx
  have hpos : 0 < vs.length := List.length_pos_iff.mpr hne
  refine tail_any hl.typeIs slot_list_getitem.lookup (wpAny_getItem_list_neg hl (by omega) (by simp only [List.size_toArray]; omega) (by decide) ?_ h) hs
  have e : ((-1 : Int) + (vs.toArray.size : Int)).toNat = vs.length - 1 := by simp only [List.size_toArray]; omega
  rw [e, List.getElem?_toArray, ← List.getLast?_eq_getElem?]
  exact hx

theorem stN' {g : Heap} {L : Addr} {m : Str → Option Value} {news : List (Addr × Obj)} {x : Str} {v : Value} {Q : Unit → Shared → Prop} (F : Fr g L s.heap m) (N : News g L s.heap news)
    (h : ∀ h', Fr g L h' (fun y => if y = x then some v else m y) → News g L h' news → Q () { s with heap := h', toks := s.toks + 1 })
    (hL : env.locals = L := by rfl) (hk : env.scope.kind = .function := by rfl) (hl : env.kindOf x = some .local := by rfl) : wpAny (model prog w) A (storeName env x v) Q E s := by
  subst hL
  exact wpAny_storeName_local hl F.ns (fun h' hn hs => h h' (F.set hn hs) (N.set hs)) (by rw [hk]; rfl)

theorem news_add {g h h' : Heap} {L d : Addr} {m : Str → Option Value} {o : Obj} {news : List (Addr × Obj)} (F : Fr g L h m) (N : News g L h news) (k : h.StaysIn h') (hd : h.get? d = none) (ho : h'.get? d = some o) : News g L h' ((d, o) :: news) := by
  intro p hp
  rcases List.mem_cons.mp hp with rfl | hp
  · refine ⟨ho, fun e => ?_, ?_⟩
    · obtain ⟨oL, _, _, hL, _⟩ := F.ns
      rw [← e] at hL; rw [hL] at hd; cases hd
    · cases q : g.get? d with
      | none => rfl
      | some o' => rw [F.keep _ _ q] at hd; cases hd
  · exact ⟨k _ _ (N p hp).1, (N p hp).2⟩

theorem news_ne {g h : Heap} {L d : Addr} {news : List (Addr × Obj)} (N : News g L h news) {p : Addr × Obj} (hp : p ∈ news) (hd : h.get? d = none) : p.1 ≠ d := fun e => by
  have := (N p hp).1; rw [e, hd] at this; cases this

theorem news_off {g h h' : Heap} {L I : Addr} {news : List (Addr × Obj)} (N : News g L h news) (hI : ∀ p ∈ news, p.1 ≠ I) (k : ∀ b o, b ≠ I → b ≠ L → h.get? b = some o → h'.get? b = some o) : News g L h' news :=
  fun p hp => ⟨k _ _ (hI p hp) (N p hp).2.1 (N p hp).1, (N p hp).2⟩

/-- the list D grown by one -/
theorem news_same {g h h' : Heap} {L D : Addr} {o o' : Obj} {news : List (Addr × Obj)} (N : News g L h ((D, o) :: news)) (hs : Heap.SameBut D h h') (hne : ∀ p ∈ news, p.1 ≠ D) (ho : h'.get? D = some o') : News g L h' ((D, o') :: news) := by
  intro p hp
  rcases List.mem_cons.mp hp with rfl | hp
  · exact ⟨ho, (N (D, o) List.mem_cons_self).2⟩
  · exact ⟨(hs.2 _ (hne p hp)).trans (N p (List.mem_cons_of_mem _ hp)).1, (N p (List.mem_cons_of_mem _ hp)).2⟩
theorem fr_same {g h h' : Heap} {L D : Addr} {o : Obj} {m : Str → Option Value} {news : List (Addr × Obj)} (F : Fr g L h m) (N : News g L h ((D, o) :: news)) (hs : Heap.SameBut D h h') : Fr g L h' m := by
  have hD := (N (D, o) List.mem_cons_self).2
  exact ⟨F.ns.sameBut hs (Ne.symm hD.1), fun b ob e => (hs.2 b (fun q => by have q' : b = D := q; subst q'; rw [hD.2] at e; cases e)).trans (F.keep b ob e), F.above⟩

theorem sizes_call {i : Nat} {x : Str} {t1 t2 : Tok} {Q : Value → Shared → Prop} (hi : i < 5) (G : Gr w mg mb s.heap) (hroom : A.depth < 900) (hh : A.handled = none) (htk : 1 ≤ s.toks) (hx : x.length ≤ 8)
    (h : ∀ D vs h' tk', 1 ≤ tk' → s.heap.StaysIn h' → s.heap.get? D = none → h'.IsList D vs.toArray → IntsOf vs (x.length + 1) (fun k => (pre i x.cps.toList k : Int)) → Q (.ref D) { s with heap := h', toks := tk' }) :
    wpAny (model prog w) A (call (.ref 105) [.int i t1, .str x t2]) Q E s := by
  refine enter (binds := [("way", .int i t1), ("text", .str x t2)]) G (by rfl) (by kernel_rfl!) (Nat.lt_trans hroom (by decide)) (BindsTo.of_eq (by rfl)) (locs (by rfl)) (by rfl) (by rfl) (by rfl) (by decide) ?_
  intro h₁ F
  have G₁ := G.keeps F.keep
  with_reducible refine wpAny_execs_cons ?_
  refine wpAny_Assign_Name ?_
  refine Call_ ?_
  refine nmG (v := .ref 88) G₁ (by kernel_rfl!) ?_
  refine callWith_K G₁.X (by kernel_rfl!) ?_
  refine spliced_more ?_
  refine nmL F.ns (by rfl) ?_
  refine spliced_none ⟨G₁.X, ?_⟩
  refine wpAny_with_toks (n := 1) (by show 1 ≤ s.toks + _; omega) ?_
  refine refs_call hi G₁ (Nat.lt_trans (Nat.add_lt_add_right hroom 1) (by decide)) ?_
  intro d h₂ tk₂ k₂ nd T₂ htk₂
  have F₂ := F.keeps k₂
  obtain ⟨od, hod, hTd⟩ := tab_obj T₂
  have N₂ := news_add F News.nil k₂ nd hod
  refine stN' F₂ N₂ ?_
  intro h₃ F₃ N₃
  with_reducible refine wpAny_execs_cons ?_
  refine wpAny_Assign_Name ?_
  refine List_ ?_
  refine spliced_more ?_
  refine wpAny_Constant_int ?_
  refine spliced_none ?_
  refine newListL ?_
  intro D h₄ k₄ lD nD hD
  have N₄ := news_add F₃ N₃ k₄ nD hD
  refine stN' (F₃.keeps k₄) N₄ ?_
  intro h₅ F₅ N₅
  have hdD : d ≠ D := news_ne N₃ (p := (d, od)) List.mem_cons_self nD
  with_reducible refine wpAny_execs_cons ?_
  refine wpAny_For ?_
  refine nmL F₅.ns (by rfl) ?_
  refine wpAny_pyIter_str ?_
  intro oI St W hSt
  have nI : h₅.get? h₅.objs.size = none := (stays_refl h₅).fresh
  have ltD : D < h₅.objs.size := Heap.lt_size (N₅ (D, _) List.mem_cons_self).1
  have ltd : d < h₅.objs.size := Heap.lt_size (N₅ (d, od) (List.mem_cons_of_mem _ List.mem_cons_self)).1
  have ltL : s.heap.objs.size < h₅.objs.size := F₅.ns.lt
  have fresh : s.heap.get? h₅.objs.size = none := by
    cases q : s.heap.get? h₅.objs.size with
    | none => rfl
    | some o => rw [F₅.keep _ _ q] at nI; cases nI
  refine forW (g := s.heap) (L := s.heap.objs.size) (W _ hh) (fun b hb => .inl (List.mem_singleton.mp hb)) fresh (Nat.ne_of_lt ltL) (fun _ => True) (fun _ _ _ => trivial)
    (fun k h m => m "text" = some (.str x t2) ∧ m "references" = some (.ref d) ∧ m "sizes" = some (.ref D) ∧ ∃ vs n0, IntsOf vs (k + 1) (fun k => (pre i x.cps.toList k : Int)) ∧ News s.heap s.heap.objs.size h [(D, { cls := .type "list", data := .seq vs.toArray n0 }), (d, od)])
    ?_ (fun _ _ _ _ _ _ _ _ hq => wpAny_of_eq (by rfl) hq) ?_ hSt (F₅.push _) ?_ (by dsimp only at htk₂ ⊢; omega) ?_
  · rintro k h h' m ⟨m1, m2, m3, vs, n0, hv, N⟩ hk
    refine ⟨m1, m2, m3, vs, n0, hv, news_off N ?_ hk⟩
    intro p hp
    simp only [List.mem_cons, List.not_mem_nil, or_false] at hp
    rcases hp with rfl | rfl
    · exact Nat.ne_of_lt ltD
    · exact Nat.ne_of_lt ltd
  · rintro k v h₁ tk₁ m₁ Q' E' hk ⟨c, u, hc, rfl⟩ htk₁ F₁ ⟨m1, m2, m3, vs, n0, hv, N⟩ _ hQ
    refine wpAny_assign_Name ?_
    refine wpAny_storeName_local (by rfl) F₁.ns (fun h₂ hn₂ hsL => ?_) (by rfl)
    have F₂ := F₁.set hn₂ hsL
    have N₂ := N.set hsL
    with_reducible refine wpAny_execs_cons ?_
    refine wpAny_Expr ?_
    refine MethodCall_ ?_
    refine nmL F₂.ns m3 ?_
    have ND := (N₂ (D, _) List.mem_cons_self).1
    have lD₂ : h₂.IsList D vs.toArray := ⟨_, ND, rfl, n0, rfl⟩
    refine getMethod_list_append ND rfl rfl ?_
    refine callWith_method1 ?_
    refine spliced_more ?_
    with_reducible refine wpAny_BinOp ?_
    with_reducible refine Subscript_ ?_
    refine nmL F₂.ns m3 ?_
    refine UnaryOp_ ?_
    refine wpAny_Constant_int ?_
    refine PyProof.Rows.neg_int ?_
    obtain ⟨tv, htv⟩ := hv.2 k (by omega)
    refine itemNeg lD₂ (v := .int (pre i x.cps.toList k) tv) ?_ ?_
    · rw [List.getLast?_eq_getElem?, hv.1]; exact htv
    refine Call_ ?_
    refine nmB (v := .builtin "len") (G.keeps F₂.keep) (by kernel_rfl!) (by kernel_rfl!) (by decide) ?_
    refine PyProof.Rows.callWith_builtin1 ?_
    refine spliced_more ?_
    refine MethodCall_ ?_
    refine nmL F₂.ns m2 ?_
    have Td := hTd h₂ (N₂ (d, od) (List.mem_cons_of_mem _ List.mem_cons_self)).1
    refine getMethod_tab PySem.F.slot_dict_get PySem.F.type_dict_get Td ?_
    refine callWith_method1 ?_
    refine spliced_more ?_
    refine nmL F₂.ns (by rfl) ?_
    refine spliced_more ?_
    refine nmL F₂.ns (by rfl) ?_
    refine spliced_none ?_
    refine get_ref Td ?_
    intro t'
    refine spliced_none ?_
    have hsm := refS_small hi c
    refine PyProof.Rows.len_str (by omega) ?_
    refine PyProof.Rows.add_int ?_
    refine spliced_none ?_
    refine wpAny_list_append_plain ⟨n0, ND⟩ ?_ ?_
    · intro h₃ hp hs
      obtain ⟨n1, hn1⟩ := hp
      rw [List.push_toArray] at hn1
      refine wpAny_execs_nil ?_
      refine hQ _ _ _ ?_ (fr_same F₂ N₂ hs) ⟨m1, m2, m3, _, n1, IntsOf.snoc hv ?_, news_same N₂ hs ?_ hn1⟩ ?_
      · dsimp only; omega
      · rw [pre_succ (c := c) (by simpa using hc), ← refS_len]; simp
      · intro p hp
        simp only [List.mem_cons, List.not_mem_nil, or_false] at hp
        subst hp; exact hdD
      · intro o e
        have hneI : h₅.objs.size ≠ D := Nat.ne_of_gt ltD
        have hneL : h₅.objs.size ≠ s.heap.objs.size := Nat.ne_of_gt ltL
        exact (hs.2 _ hneI).trans ((hsL.2 _ hneL).trans e)
    · simp only [List.size_toArray, hv.1]
      rw [sizeLine_eq]
      have : x.cps.size ≤ 8 := hx
      omega
  · refine ⟨by rfl, by rfl, by rfl, [.int 0 _], 0, ⟨by simp, ?_⟩, N₅.grown (stays_push _ _)⟩
    intro k hk
    have : k = 0 := by omega
    subst this
    exact ⟨_, by simp [pre_zero]; rfl⟩
  · rintro h₆ tk₆ m₆ htk₆ F₆ ⟨m1, m2, m3, vs, n0, hv, N⟩
    with_reducible refine wpAny_execs_cons ?_
    with_reducible refine wpAny_Return_some ?_
    refine nmL F₆.ns m3 ?_
    have ND := N (D, _) List.mem_cons_self
    exact h D vs h₆ tk₆ htk₆ F₆.keep ND.2.2 ⟨_, ND.1, rfl, n0, rfl⟩ hv
end
end Mine

set_option Elab.async false
set_option maxRecDepth 100000
set_option maxHeartbeats 4000000
namespace Mine
open PySem PySem.W PySem.W.X PyProof.Rows PySem.Calls PySem.Spec

/-! ### slices of a text -/
theorem slice_cut {x : Str} {b e : Nat} (he : e ≤ x.length) : (Txt.slice x (some (b : Int)) (some (e : Int))).cps.toList = (x.cps.toList.take e).drop b := by
  by_cases h : b ≤ e
  · have := slice_closesL (x := x) (i := b) (j := e) (by omega) (by omega) (by omega)
    have e1 := eq_of_beq this
    rw [e1]
    simp only [Int.toNat_natCast]
    rw [show (((e : Int) - (b : Int)).toNat) = e - b by omega, List.drop_take]
  · have hlen : (Builtin.Str.strSliceIndices (some (b : Int)) (some (e : Int)) 1 x.length) = [] := by
      unfold Builtin.Str.strSliceIndices sliceRange
      simp only [show (1 : Int) > 0 by decide, if_true]
      rw [if_neg (show ¬ ((e : Int) < 0) by omega), if_neg (show ¬ ((b : Int) < 0) by omega), if_neg (by omega)]
      rfl
    have e2 : (x.cps.toList.take e).drop b = [] := by
      apply List.drop_eq_nil_of_le
      rw [List.length_take]; omega
    rw [e2]
    unfold Txt.slice
    rw [hlen]
    split
    · rename_i hc
      have : x.length = 0 := by have h2 := hc; simp at h2; omega
      have : x.cps.toList.length = 0 := by simpa [Str.length] using this
      exact List.length_eq_zero_iff.mp this
    · rfl
theorem slice_upto {x : Str} {e : Nat} (he : e ≤ x.length) : (Txt.slice x none (some (e : Int))).cps.toList = x.cps.toList.take e := by
  have h0 : Txt.slice x none (some (e : Int)) = Txt.slice x (some ((0 : Nat) : Int)) (some (e : Int)) := by
    unfold Txt.slice Builtin.Str.strSliceIndices
    simp only [show (1 : Int) > 0 by decide, if_true]
    have : max 0 (min (if ((0 : Nat) : Int) < 0 then ((0 : Nat) : Int) + (x.length : Int) else ((0 : Nat) : Int)) (x.length : Int)) = 0 := by
      simp only [Int.natCast_zero, Int.lt_irrefl, if_false]; omega
    rw [this]
  rw [h0, slice_cut he, List.drop_zero]

section
variable {prog : Program} {w : World} {A : Around} {E : Value → Shared → Prop} {s : Shared} {mg mb : Str → Option Value} {env : Env}

theorem subSlice {value : Expr} {lower upper : Option Expr} {p pos : Pos} {Q : Value → Shared → Prop}
    (h : wpAny (model prog w) A (eval value env) (fun o s₁ => wpAny (model prog w) A (evalPart lower env) (fun vl s₂ => wpAny (model prog w) A (evalPart upper env) (fun vu s₃ =>
      ∃ x t l u, o = .str x t ∧ vl = partValue l ∧ vu = partValue u ∧ x.length ≤ 8 ∧ ∀ h' t' k, s₃.heap.StaysIn h' → Q (.str (Txt.slice x (l.map (·.1)) (u.map (·.1))) t') { s₃ with heap := h', toks := k }) E s₂) E s₁) E s)
    (ht : ∀ o r, letTemporaryGo value o r = pure () := by intro _ _; rfl) :
    wpAny (model prog w) A (eval (.Subscript value (.Slice lower upper none p) pos) env) Q E s := by
  refine wpAny_Subscript_str_slice (wpAny_mono h (fun o s₁ h₁ => wpAny_mono h₁ (fun vl s₂ h₂ => wpAny_mono h₂ (fun vu s₃ h₃ => ?_) fun _ _ e => e) fun _ _ e => e) fun _ _ e => e) ht
  obtain ⟨x, t, l, u, rfl, rfl, rfl, hx, hQ⟩ := h₃
  refine ⟨x, t, l, u, rfl, rfl, rfl, ?_⟩
  refine post_val_or_str ⟨?_, fun t' k => hQ _ t' k (stays_push _ _)⟩
  rw [sizeLine_eq]
  exact Nat.le_trans (Txt.slice_le x _ _) (Nat.le_trans hx (by decide))

theorem enterC {f : Addr} {name qual : Str} {params : Arguments} {body : List Stmt} {scope : Scope} {dV kV doc pm cdv ct oc : Value} {an od : Option Addr} {osl : Array (Option Value)} {Q : Value → Shared → Prop} {pv : List Value} {kw : List (Str × Value)} {binds : List (Str × Value)}
    (G : Gr w mg mb s.heap) (ho : (KF w).lookup f = some ⟨oc, od, .func (fnOf name qual params body scope dV kV doc pm an cdv ct), osl⟩) (hcd : codeIn (KF w) cdv qual = true) (hroom : A.depth < recursionLimit) (htk : 1 ≤ s.toks)
    (hbind : BindsTo s (fnOf name qual params body scope dV kV doc pm an cdv ct) ⟨pv, kw⟩ binds) (hkind : (binds.all fun y => scope.names.lookup y.1 == some .local || scope.names.lookup y.1 == some .cell) = true)
    (hco : scope.isCoroutine = false) (hgen : scope.isGenerator = false) (hk : scope.kind = .function)
    (h : ∀ h₁ tk₁, 1 ≤ tk₁ → Fr s.heap s.heap.objs.size h₁ (bindL (envOfC qual scope s.heap.objs.size f cdv).kindOf binds fun _ => none) →
      (∀ n c, (cellsFrom (s.heap.objs.size + 1) scope.names []).lookup n = some c → h₁.IsCell c (bindC (envOfC qual scope s.heap.objs.size f cdv).kindOf binds (fun _ => none) n)) →
      wpAny (model prog w) (A.deeper (envOfC qual scope s.heap.objs.size f cdv)) (execs body (envOfC qual scope s.heap.objs.size f cdv)) (fun fl s' => Q (match fl with | .ret v => v | _ => .none) s') (fun _ _ => False)
        { s with heap := h₁, toks := tk₁ }) :
    wpAny (model prog w) A (call (.ref f) pv kw) Q E s := by
  refine wpAny_call ?_
  refine codeAny_call_function (fd := fnOf name qual params body scope dV kV doc pm an cdv ct) (body := body) hroom (G.X _ _ ho) rfl hco hgen rfl (codeRec_of G.X hcd) (hbind _ _ _ _ ?_)
  refine wpAny_with_toks htk ?_
  refine wpAny_newFunctionEnv_cells hk (kindsX hkind _) fun env' he s' x => ?_
  subst he
  intro htk'
  obtain ⟨h₁, tk, rfl, hk₁⟩ := x.done
  refine ⟨G.nolimit.keeps hk₁, codeAny_func ?_⟩
  exact wpAny_mono (h h₁ tk htk' ⟨x.toInCall.ns, hk₁, Nat.le_refl _⟩ x.cell) (fun _ _ q => q) fun _ _ f => f.elim
end
end Mine

set_option Elab.async false
set_option maxRecDepth 100000
set_option maxHeartbeats 4000000
set_option linter.unusedVariables false
namespace Mine
open PySem PySem.W PySem.W.X PyProof.Rows PySem.Calls PySem.Spec

theorem paired_at {α β : Type} {F : α → β → Prop} : ∀ {l : List α} {r : List β}, Paired F l r → ∀ (j : Nat) (a : α), l[j]? = some a → ∃ b, r[j]? = some b ∧ F a b
  | _, _, .cons h _, 0, a, e => by simp at e; subst e; exact ⟨_, rfl, h⟩
  | _, _, .cons _ h, j + 1, a, e => by simpa using paired_at h j a (by simpa using e)

/-- the state of a def's table of code: empty, or with the one lambda's -/
def TabS (P : Addr) (qual : Str) (line col : Nat) (h : Heap) : Prop :=
  h.get? P = some (tabObj #[]) ∨ ∃ c', h.get? P = some (tabObj #[rawInt line, rawInt col, .ref c']) ∧ h.CodeRec (.ref c') qual

theorem TabS.keeps {P : Addr} {qual : Str} {line col : Nat} {h h' : Heap} (x : TabS P qual line col h) (k : h.StaysIn h') : TabS P qual line col h' := by
  rcases x with e | ⟨c', e, r⟩
  · exact .inl (k _ _ e)
  · exact .inr ⟨c', k _ _ e, r.keeps k⟩

theorem TabS.ne {P : Addr} {qual : Str} {line col : Nat} {h : Heap} (x : TabS P qual line col h) {b : Addr} {o : Obj} (e : h.get? b = some o) (hc : o.cls ≠ .none) : b ≠ P := fun q => by
  subst q
  rcases x with e' | ⟨c', e', _⟩
  · rw [e] at e'; cases e'; exact hc rfl
  · rw [e] at e'; cases e'; exact hc rfl
theorem TabS.ne' {P : Addr} {qual : Str} {line col : Nat} {h : Heap} (x : TabS P qual line col h) {b : Addr} {o : Obj} {es : Array DictEntry} {n : Nat} (e : h.get? b = some o) (hc : o.data = .dict es n) : b ≠ P := fun q => by
  subst q
  rcases x with e' | ⟨c', e', _⟩
  · rw [e] at e'; cases e'; cases hc
  · rw [e] at e'; cases e'; cases hc

theorem Gr.but {w : World} {mg mb : Str → Option Value} {h h' : Heap} {P : Addr} {qual : Str} {line col : Nat} (G : Gr w mg mb h) (x : TabS P qual line col h) (hP : (KF w).lookup P = none) (k : Heap.ExtBut P h h') : Gr w mg mb h' := by
  have ns : ∀ {a : Addr} {m : Str → Option Value}, h.Ns a m → h'.Ns a m := fun n => by
    obtain ⟨o, es, ep, e, hd, r⟩ := n
    exact ⟨o, es, ep, k _ _ (x.ne' e hd) e, hd, r⟩
  refine ⟨fun a o e => k a o (fun q => by subst q; rw [hP] at e; cases e) (G.X a o e), ns G.g, ns G.b, ?_, G.builtins, ?_⟩
  · obtain ⟨mc, a, r⟩ := G.nolimit
    exact ⟨mc, ns a, r⟩
  · obtain ⟨bm, ob, a, b, c, d, e⟩ := G.bmain
    exact ⟨bm, ob, a, b, k _ _ (x.ne c (by rw [d]; intro z; cases z)) c, d, e⟩

section
variable {prog : Program} {w : World} {A : Around} {E : Value → Shared → Prop} {s : Shared} {mg mb : Str → Option Value} {env : Env}

theorem iterRange {r : Addr} {a b : Int} {t u v : Tok} {n : Nat} {Q : Value → Shared → Prop} (hr : IsRange s.heap r a b 1 t u v) (hh : A.handled = none) (ha : 0 ≤ a) (hb : b < 2 ^ 62) (hn : b - a = n)
    (h : ∀ I St h', s.heap.StaysIn h' → s.heap.get? I = none → I < h'.objs.size → Walks prog w A I [I] [I] n (fun i v => ∃ t, v = .int (a + (i : Int) * 1) t) St → St 0 h' → Q (.ref I) { s with heap := h' }) :
    wpAny (model prog w) A (pyIter (.ref r)) Q E s := by
  refine wpAny_pyIter_range hr (small_one (by omega) (by omega) (by omega) hb) ?_
  refine h _ _ _ (stays_push _ _) ((stays_refl s.heap).fresh) (by rw [Heap.size_push]; exact Nat.lt_succ_self _) (Walks.range hh s.heap.objs.size a 1 n) ?_
  have e : Builtin.Range.rangeSize a b 1 = (n : Int) := by
    rw [rangeSize_one]
    split <;> omega
  rw [e]
  have := Heap.get?_push_size s.heap (o := { cls := .type "range_iterator", data := .fields #[rawInt a, rawInt (n : Int), rawInt 1] }) rfl
  simpa using this

theorem lamMake {params : Arguments} {body : Expr} {scope : Scope} {pos : Pos} {c P : Addr} {qual : Str} {clos : List (Str × Addr)} {Q : Value → Shared → Prop} (G : Gr w mg mb s.heap) (htk : 1 ≤ s.toks) (hT : TabS P qual pos.line pos.col s.heap) (C : CodeHd s.heap c P)
    (hcode : env.code = .ref c) (hge : env.globals = mainGlobals) (hdef : defaultsOf params env = ([], [])) (hq : env.qual ++ "<lambda>" = qual) (hcl : closureFor scope env = pure clos)
    (h : ∀ kf c' pm ctv h' tk', 1 ≤ tk' → Heap.ExtBut P s.heap h' → h'.get? kf = some (kla_obj "<lambda>" qual params body scope clos pm c' ctv) → h'.CodeRec (.ref c') qual → TabS P qual pos.line pos.col h' → s.heap.get? kf = none → Q (.ref kf) { s with heap := h', toks := tk' }) :
    wpAny (model prog w) A (eval (.Lambda params body scope pos) env) Q E s := by
  refine wpAny_with_toks htk ?_
  refine kla_eval hdef ?_
  rw [hq]
  obtain ⟨bm, ob, a, b, cc, d, e, e'⟩ := G.bmain
  have hbG : bm ≠ mainGlobals := fun q => by
    obtain ⟨o, es, ep, x, hd, _⟩ := G.g
    rw [q, x] at cc; cases cc; rw [hd] at e'; cases e'
  have hgP : mainGlobals ≠ P := by
    obtain ⟨o, es, ep, x, hd, _⟩ := G.g
    exact hT.ne' x hd
  have hbP : bm ≠ P := hT.ne cc (by rw [d]; intro z; cases z)
  have hT' := hT
  rcases hT' with hP | ⟨c', hP, hrec⟩
  · refine kla_makeFunction (mg := mg) hcl hge G.g hcode C hP trivial rfl hgP ⟨bm, ob, a, b, hbG, hbP, cc, d, e, e'⟩ fun c' ctv h' tk hx hge' hlt hrec htb htk' => ?_
    refine h _ c' _ ctv _ tk htk' (fun b o hb e => Heap.get?_push_of_some _ (hx b o hb e)) (Heap.get?_push_size _ rfl) (hrec.keeps (stays_push _ _)) (.inr ⟨c', Heap.get?_push_of_some _ htb, hrec.keeps (stays_push _ _)⟩) ?_
    cases q : s.heap.get? h'.objs.size with
    | none => rfl
    | some o => exact absurd (Heap.lt_size q) (Nat.not_lt.mpr (Nat.le_trans hge' (Nat.le_of_lt hlt)))
  · refine kla_makeFunctionHit (mg := mg) hcl hge G.g hcode C hP trivial (cv := .ref c') (by simp [codeAmong, rawInt]) ⟨bm, ob, a, b, hbG, hbP, cc, d, e, e'⟩ fun ctv h' tk hk hsz htk' => ?_
    refine h _ c' _ ctv _ tk htk' (fun b o hb e => Heap.get?_push_of_some _ (hk b o e)) (Heap.get?_push_size _ rfl) ((hrec.keeps hk).keeps (stays_push _ _)) (hT.keeps fun b o e => Heap.get?_push_of_some _ (hk b o e)) ?_
    cases q : s.heap.get? h'.objs.size with
    | none => rfl
    | some o => exact absurd (Heap.lt_size q) (Nat.not_lt.mpr hsz)

theorem lamCall {name qual : Str} {params : Arguments} {body : Expr} {scope : Scope} {cl : List (Str × Addr)} {pm ctv : Value} {c' kf : Addr} {pv : List Value} {binds : List (Str × Value)} {Q : Value → Shared → Prop}
    (ho : s.heap.get? kf = some (kla_obj name qual params body scope cl pm c' ctv)) (hcd : s.heap.CodeRec (.ref c') qual) (hlim : s.heap.NoLimit) (hroom : A.depth < recursionLimit)
    (hbind : bindArgs (kla_fn name qual params body scope cl pm (.ref c') ctv) ⟨pv, []⟩ = pure binds) (hloc : ∀ y ∈ binds, scope.names.lookup y.1 = some .local)
    (hco : scope.isCoroutine = false) (hgen : scope.isGenerator = false) (hk : scope.kind = .function) (hcell : ∀ x ∈ scope.names, x.2 ≠ .cell)
    (h : ∀ h₁, Fr s.heap s.heap.objs.size h₁ (fun y => binds.reverse.lookup y) →
      wpAny (model prog w) (A.deeper (envX qual scope s.heap.objs.size kf (.ref c') cl)) (eval body (envX qual scope s.heap.objs.size kf (.ref c') cl)) (fun v s' => Q v s') (fun _ _ => False) { s with heap := h₁, toks := s.toks + binds.length }) :
    wpAny (model prog w) A (call (.ref kf) pv) Q E s := by
  refine wpAny_call ?_
  refine kla_callFunE hroom ho rfl hco hgen rfl hcd ?_
  rw [hbind]
  refine wpAny_pure (wpAny_newFunctionEnv hcell hloc (fun h₁ hns hsb => ⟨hlim.fresh _ hsb, ?_⟩) hk)
  show codeAny _ _ (.expr body (envX qual scope s.heap.objs.size kf (.ref c') cl)) _ _
  have hk₁ : ∀ b o, s.heap.get? b = some o → h₁.get? b = some o := fun b o e => hsb.extBut b o (Nat.ne_of_lt (Heap.lt_size e)) (Heap.get?_push_of_some _ e)
  exact kla_codeExpr (wpAny_mono (h h₁ ⟨hns, hk₁, Nat.le_refl _⟩) (fun _ _ q => q) fun _ _ f => f.elim)
end
end Mine

set_option Elab.async false
set_option maxRecDepth 100000
set_option maxHeartbeats 4000000
set_option linter.unusedVariables false
namespace Mine
open PySem PySem.W PySem.W.X PyProof.Rows PySem.Calls PySem.Spec

/-- the length of what hand i writes of the text's part from b to e -/
def cut (i : Nat) (T : List Nat) (b e : Nat) : Nat := (((T.take e).drop b).flatMap (ref i)).length
theorem cut_len {i : Nat} {x : Str} {b e : Nat} (he : e ≤ x.length) : (escT i (Txt.slice x (some (b : Int)) (some (e : Int)))).length = cut i x.cps.toList b e := by
  have : (escT i (Txt.slice x (some (b : Int)) (some (e : Int)))).length = (escT i (Txt.slice x (some (b : Int)) (some (e : Int)))).cps.toList.length := by simp [Str.length]
  rw [this, escT_list, slice_cut he]; rfl
theorem escT_short {i : Nat} (hi : i < 5) {x : Str} (hx : x.length ≤ 8) : (escT i x).length ≤ 48 := by
  have e : (escT i x).length = (x.cps.toList.flatMap (ref i)).length := by rw [← escT_list]; simp [Str.length]
  have hl : x.cps.toList.length ≤ 8 := by simpa [Str.length] using hx
  rw [e]
  generalize x.cps.toList = l at hl
  have : (l.flatMap (ref i)).length ≤ 6 * l.length := by
    induction l with
    | nil => simp
    | cons k r ih =>
      rw [List.flatMap_cons, List.length_append, List.length_cons]
      have h1 := refS_small hi k
      rw [refS_len] at h1
      have h2 := ih (by simp at hl; omega)
      omega
  omega

section
variable {prog : Program} {w : World} {A : Around} {E : Value → Shared → Prop} {s : Shared} {mg mb : Str → Option Value} {env : Env}

theorem CallKw_ {func : Expr} {args : List Expr} {kws : List Keyword} {pos : Pos} {Q : Value → Shared → Prop}
    (h : wpAny (model prog w) A (eval func env) (fun f s₁ => wpAny (model prog w) A (callWith pos f [] (backTo pos (starEach args env)) (backToKw pos (keywordEach kws env))) Q E s₁) E s)
    (he : eval (.Call func args kws pos) env = (do callWith pos (← eval func env) [] (backTo pos (starEach args env)) (backToKw pos (keywordEach kws env))) := by rfl) :
    wpAny (model prog w) A (eval (.Call func args kws pos) env) Q E s := by
  rw [he]; exact wpAny_bind h

theorem keep_hand {i : Nat} (hi : i < 5) : keepIn (KF w) (.ref (handA i)) = true := by
  match i, hi with
  | 0, _ => kernel_rfl!
  | 1, _ => kernel_rfl!
  | 2, _ => kernel_rfl!
  | 3, _ => kernel_rfl!
  | 4, _ => kernel_rfl!

theorem callK_kw {f : Addr} {o : Obj} {fd : FuncData} {pos : Pos} {args : List (Bool × Sem Value)} {keywords : List (Option Str × Sem Value)} {Q : Value → Shared → Prop} (e : (KF w).lookup f = some o) (hd : o.data = .func fd)
    (h : wpAny (model prog w) A (evalArgs (.ref f) true args keywords) (fun x s₁ => Gr w mg mb s₁.heap ∧ wpAny (model prog w) A (call (.ref f) x.pos x.kw) Q E s₁) E s) : wpAny (model prog w) A (callWith pos (.ref f) [] args keywords) Q E s :=
  callWith_def_kw hd (wpAny_mono h (fun _ _ q => ⟨q.1.X _ _ e, q.2⟩) fun _ _ q => q)

theorem Gr.code92 {h : Heap} (G : Gr w mg mb h) : CodeHd h 92 90 :=
  ⟨_, _, _, _, _, _, _, _, _, G.X 92 _ (by rfl), rfl, rfl, rfl, rfl, rfl, rfl, rfl, rfl, by decide⟩
theorem Gr.code97 {h : Heap} (G : Gr w mg mb h) : CodeHd h 97 95 :=
  ⟨_, _, _, _, _, _, _, _, _, G.X 97 _ (by rfl), rfl, rfl, rfl, rfl, rfl, rfl, rfl, rfl, by decide⟩

theorem farthest_call {i room : Nat} {x : Str} {b : Nat} {t1 t2 t3 : Tok} {Q : Value → Shared → Prop} (hi : i < 5) (G : Gr w mg mb s.heap) (hroom : A.depth < 600) (hh : A.handled = none) (htk : 1 ≤ s.toks) (hx : x.length ≤ 8)
    (hT : TabS 90 "_law_farthest.<locals>.<lambda>" 123 42 s.heap)
    (mono : ∀ e e', e ≤ e' → e' < x.length → cut i x.cps.toList b (e + 1) ≤ cut i x.cps.toList b (e' + 1))
    (h : ∀ r t h' tk', 1 ≤ tk' → Heap.ExtBut 90 s.heap h' → TabS 90 "_law_farthest.<locals>.<lambda>" 123 42 h' → r ≤ x.length → (∀ j, j < r → (cut i x.cps.toList b (j + 1) : Int) ≤ room) → (∀ j, r ≤ j → j < x.length → ¬ (cut i x.cps.toList b (j + 1) : Int) ≤ room) →
      Q (.int ((r : Nat) : Int) t) { s with heap := h', toks := tk' }) :
    wpAny (model prog w) A (call (.ref 93) [.ref (handA i), .int room t1, .str x t2, .int b t3]) Q E s := by
  refine enterC (binds := [("hand", .ref (handA i)), ("room", .int room t1), ("text", .str x t2), ("begin", .int b t3)]) G (by rfl) (by kernel_rfl!) (Nat.lt_trans hroom (by decide)) htk (BindsTo.of_eq (by rfl)) (by rfl) (by rfl) (by rfl) (by rfl) ?_
  intro h₁ tk₁ htk₁ F C
  have cH := C "hand" (s.heap.objs.size + 1) (by rfl)
  have cT := C "text" (s.heap.objs.size + 1 + 1) (by rfl)
  have cB := C "begin" (s.heap.objs.size + 1 + 1 + 1) (by rfl)
  replace cH : h₁.IsCell (s.heap.objs.size + 1) (some (.ref (handA i))) := cH
  replace cT : h₁.IsCell (s.heap.objs.size + 1 + 1) (some (.str x t2)) := cT
  replace cB : h₁.IsCell (s.heap.objs.size + 1 + 1 + 1) (some (.int b t3)) := cB
  clear C
  have G₁ := G.keeps F.keep
  with_reducible refine wpAny_execs_cons ?_
  refine wpAny_with_toks (n := 1) htk₁ ?_
  refine wpAny_Assign_ListComp_free (fun _ => true) (fun v y => ∃ (e : Nat) (t t' : Tok), v = .int e t ∧ y = .str (Txt.slice x (some (b : Int)) (some (e : Int))) t') (by rfl) (by rfl) (by decide) (by rfl) (by decide) (by rfl) (by rfl) (by rfl) ?_
  refine Call_ ?_
  refine nmB (v := .type "range") G₁ (by kernel_rfl!) (by kernel_rfl!) (by decide) ?_
  refine PyProof.Rows.callWith_type1 ?_
  refine spliced_more ?_
  refine wpAny_Constant_int ?_
  refine spliced_more ?_
  with_reducible refine wpAny_BinOp ?_
  refine Call_ ?_
  refine nmB (v := .builtin "len") G₁ (by kernel_rfl!) (by kernel_rfl!) (by decide) ?_
  refine PyProof.Rows.callWith_builtin1 ?_
  refine spliced_more ?_
  refine nmC (c := s.heap.objs.size + 1 + 1) (by rfl) cT ?_
  refine spliced_none ?_
  refine PyProof.Rows.len_str (by omega) ?_
  refine wpAny_Constant_int ?_
  refine PyProof.Rows.add_int ?_
  refine spliced_none ?_
  refine call_range_2 ?_
  refine iterRange (n := x.length) (IsRange.new _ _ _ _ _ _ _) hh (by omega) (by omega) (by omega) ?_
  intro I St h₂ k₂ nI ltI W hSt
  have K₂ : h₁.StaysIn h₂ := stays_trans (stays_push h₁ _) k₂
  have F₂ := F.keeps K₂
  have neI : ∀ {a : Addr} {o : Obj}, h₁.get? a = some o → a ≠ I := fun e q => by subst q; rw [stays_push h₁ _ _ _ e] at nI; cases nI
  refine ⟨I, [I], [I], x.length, _, St, _, rfl, W, by rw [sizeLine_eq]; omega, hSt, fun b hb => by rw [List.mem_singleton.mp hb]; exact ltI, ?_, F₂.ns, ⟨?_, ?_⟩, ?_⟩
  · obtain ⟨o, _, _, e, _⟩ := F.ns
    exact fun q => neI e (List.mem_singleton.mp q)
  · intro C j v s₃ m₃ E' _ _ _ _ _ _
    exact wpAny_pure ⟨rfl, _, _, rfl, fun _ _ e => e⟩
  · rintro C j v s₃ m₃ E' hC ⟨t, rfl⟩ _ hns hm hk htk₃
    obtain ⟨oT, eT, dT⟩ := cT
    obtain ⟨oB, eB, dB⟩ := cB
    have kk : ∀ {a : Addr} {o : Obj}, h₁.get? a = some o → s₃.heap.get? a = some o := fun e => hk _ _ (fun q => neI e (List.mem_singleton.mp q)) (K₂ _ _ e)
    refine subSlice ?_
    refine nmC (c := s.heap.objs.size + 1 + 1) (by rfl) ⟨oT, kk eT, dT⟩ ?_
    refine nmC (c := s.heap.objs.size + 1 + 1 + 1) (by rfl) ⟨oB, kk eB, dB⟩ ?_
    refine nmL hns hm ?_
    refine ⟨x, t2, some ((b : Int), t3), some (1 + (j : Int) * 1, t), rfl, rfl, rfl, hx, ?_⟩
    intro h' t' k kh
    refine ⟨⟨j + 1, t, t', by congr 1; omega, ?_⟩, h', k, rfl, kh⟩
    show Value.str (Txt.slice x (some (b : Int)) (some (1 + (j : Int) * 1))) t' = _
    rw [show (1 + (j : Int) * 1) = ((j + 1 : Nat) : Int) by omega]
  · intro D h₃ tk₃ ys vs nD lD _ hvl hvP hpair hns₃ hk₃ htk₃
    replace htk₃ : 1 ≤ tk₃ := htk₃
    have neL : ∀ {b : Addr} {o : Obj}, s.heap.get? b = some o → b ≠ s.heap.objs.size := fun e => Nat.ne_of_lt (Heap.lt_size e)
    have F₃ : Fr s.heap s.heap.objs.size h₃ _ := ⟨hns₃, fun b o e => hk₃ b o (neL e) (fun q => neI (F.keep _ _ e) (List.mem_singleton.mp q)) (F₂.keep b o e), F.above⟩
    have G₃ := G.keeps F₃.keep
    have hT₃ := hT.keeps F₃.keep
    have cH₃ : h₃.IsCell (s.heap.objs.size + 1) (some (.ref (handA i))) := by
      obtain ⟨oH, eH, dH⟩ := cH
      exact ⟨oH, hk₃ _ _ (Nat.ne_of_gt (Nat.lt_succ_self _)) (fun q => neI eH (List.mem_singleton.mp q)) (K₂ _ _ eH), dH⟩
    have ef : vs.filter (fun _ => true) = vs := List.filter_eq_self.mpr (fun _ _ => rfl)
    rw [ef] at hpair
    have hyl : ys.toList.length = x.length := by rw [← Paired.length hpair]; exact hvl
    have hyj : ∀ j, j < x.length → ∃ t', ys.toList[j]? = some (.str (Txt.slice x (some (b : Int)) (some ((j + 1 : Nat) : Int))) t') := by
      intro j hj
      have hj' : j < vs.length := by omega
      have e1 : vs[j]? = some vs[j] := by simp [hj']
      obtain ⟨y, ey, e, t, t', ev, e2⟩ := paired_at hpair j _ e1
      obtain ⟨t4, ev'⟩ := hvP j vs[j] (by simp [hj'])
      rw [ev'] at ev
      injection ev with ev _
      have : e = j + 1 := by omega
      subst this
      exact ⟨t', by rw [ey, e2]⟩
    with_reducible refine wpAny_execs_cons ?_
    with_reducible refine wpAny_Return_some ?_
    refine CallKw_ ?_
    refine nmG (v := .ref 23) G₃ (by kernel_rfl!) ?_
    refine callK_kw (mg := mg) (mb := mb) (by rfl) (by rfl) ?_
    refine evalArgs_kw2 rfl ?_
    refine spliced_more ?_
    refine nmL F₃.ns (by rfl) ?_
    refine spliced_more ?_
    refine nmL F₃.ns (by rfl) ?_
    refine spliced_none ?_
    refine kwAll_cons ?_
    refine lamMake (P := 90) (c := 92) (qual := "_law_farthest.<locals>.<lambda>") G₃ htk₃ hT₃ G₃.code92 rfl rfl rfl (by kernel_rfl!) (by rfl) ?_
    intro kf c' pm ctv h₄ tk₄ htk₄ k₄ hkf hrec hT₄ nkf
    have G₄ := G₃.but hT₃ (by kernel_rfl!) k₄
    refine kwAll_nil ⟨G₄, ?_⟩
    have lD₄ : h₄.IsList D ys := by
      obtain ⟨o, e, hc, r⟩ := lD
      exact ⟨o, k₄ _ _ (hT₃.ne e (by rw [hc]; intro z; cases z)) e, hc, r⟩
    have cH₄ : h₄.IsCell (s.heap.objs.size + 1) (some (.ref (handA i))) := by
      obtain ⟨o, e, hd⟩ := cH₃
      refine ⟨o, k₄ _ _ (fun q => ?_) e, hd⟩
      rcases hT₃ with e' | ⟨c', e', _⟩
      · rw [q, e'] at e; cases e; cases hd
      · rw [q, e'] at e; cases e; cases hd
    refine bisRk (l := D) (kf := kf) (vs := ys.toList) (f := fun j => (cut i x.cps.toList b (j + 1) : Int)) G₄ (by show A.depth + 1 < 700; omega) ?_ (by simpa using lD₄) (by omega) ⟨⟨_, _, hkf, rfl⟩, ?_⟩ ?_ ?_
    · exact htk₄
    · intro A' E' s' Q' j v hs' htk' hd' hv hQ'
      have hj : j < x.length := by
        have := (List.getElem?_eq_some_iff.mp hv).1
        omega
      obtain ⟨t', ey⟩ := hyj j hj
      rw [ey] at hv
      cases hv
      refine lamCall (binds := [("piece", _)]) (hs' _ _ hkf) (hrec.keeps hs') (G₄.keeps hs').nolimit (Nat.lt_trans hd' (by decide)) (by rfl) (locs (by rfl)) (by rfl) (by rfl) (by rfl) (by decide) ?_
      intro h₅ F₅
      have G₅ := G₄.keeps (stays_trans hs' F₅.keep)
      refine Call_ ?_
      refine nmB (v := .builtin "len") G₅ (by kernel_rfl!) (by kernel_rfl!) (by decide) ?_
      refine PyProof.Rows.callWith_builtin1 ?_
      refine spliced_more ?_
      refine Call_ ?_
      obtain ⟨oH, eH, dH⟩ := cH₄
      refine nmF (c := s.heap.objs.size + 1) (by rfl) ⟨oH, F₅.keep _ _ (hs' _ _ eH), dH⟩ ?_
      refine callWith_K G₅.X (by exact keep_hand hi) ?_
      refine spliced_more ?_
      refine nmL F₅.ns (by rfl) ?_
      refine spliced_none ⟨G₅.X, ?_⟩
      refine esc_call hi G₅ (by show A'.depth + 1 < recursionLimit; exact Nat.lt_trans (Nat.add_lt_add_right hd' 1) (by decide)) (by show 1 ≤ s'.toks + _; omega) (Nat.le_trans (Txt.slice_le _ _ _) hx) ?_
      intro h₆ t₆ tk₆ htk₆ k₆
      refine spliced_none ?_
      have hsh := escT_short hi (x := Txt.slice x (some (b : Int)) (some ((j + 1 : Nat) : Int))) (Nat.le_trans (Txt.slice_le _ _ _) hx)
      refine PyProof.Rows.len_str (by omega) ?_
      rw [cut_len (by omega)]
      exact hQ' _ _ _ (by dsimp only; omega) (stays_trans F₅.keep k₆)
    · intro j j' hjj hj'
      have := mono j j' hjj (by omega)
      omega
    · intro r t h₅ tk₅ htk₅ k₅ hr h1 h2
      refine h r t h₅ tk₅ htk₅ (fun b o hb e => k₅ _ _ (k₄ b o hb (F₃.keep b o e))) (hT₄.keeps k₅) (by omega) h1 (fun j hj hj' => h2 j hj (by omega))
end
end Mine

set_option Elab.async false
set_option maxRecDepth 100000
set_option maxHeartbeats 4000000
set_option linter.unusedVariables false
namespace Mine
open PySem PySem.W PySem.W.X PyProof.Rows PySem.Calls PySem.Spec
section
variable {prog : Program} {w : World} {A : Around} {E : Value → Shared → Prop} {s : Shared} {mg mb : Str → Option Value} {env : Env}

theorem nearest_call {i room : Nat} {x : Str} {b : Nat} {t1 t2 t3 : Tok} {Q : Value → Shared → Prop} (hi : i < 5) (G : Gr w mg mb s.heap) (hroom : A.depth < 600) (hh : A.handled = none) (htk : 1 ≤ s.toks) (hx : x.length ≤ 8) (hb : b ≤ x.length)
    (hT : TabS 95 "_law_nearest.<locals>.<lambda>" 126 42 s.heap)
    (mono : ∀ e e', e ≤ e' → e' < x.length → cut i x.cps.toList e' b ≤ cut i x.cps.toList e b)
    (h : ∀ r t h' tk', 1 ≤ tk' → Heap.ExtBut 95 s.heap h' → TabS 95 "_law_nearest.<locals>.<lambda>" 126 42 h' → r ≤ x.length → (∀ j, j < r → ¬ (cut i x.cps.toList j b : Int) ≤ room) → (∀ j, r ≤ j → j < x.length → (cut i x.cps.toList j b : Int) ≤ room) →
      Q (.int ((r : Nat) : Int) t) { s with heap := h', toks := tk' }) :
    wpAny (model prog w) A (call (.ref 98) [.ref (handA i), .int room t1, .str x t2, .int b t3]) Q E s := by
  refine enterC (binds := [("hand", .ref (handA i)), ("room", .int room t1), ("text", .str x t2), ("end", .int b t3)]) G (by rfl) (by kernel_rfl!) (Nat.lt_trans hroom (by decide)) htk (BindsTo.of_eq (by rfl)) (by rfl) (by rfl) (by rfl) (by rfl) ?_
  intro h₁ tk₁ htk₁ F C
  have cH := C "hand" (s.heap.objs.size + 1) (by rfl)
  have cT := C "text" (s.heap.objs.size + 1 + 1) (by rfl)
  have cB := C "end" (s.heap.objs.size + 1 + 1 + 1) (by rfl)
  replace cH : h₁.IsCell (s.heap.objs.size + 1) (some (.ref (handA i))) := cH
  replace cT : h₁.IsCell (s.heap.objs.size + 1 + 1) (some (.str x t2)) := cT
  replace cB : h₁.IsCell (s.heap.objs.size + 1 + 1 + 1) (some (.int b t3)) := cB
  clear C
  have G₁ := G.keeps F.keep
  with_reducible refine wpAny_execs_cons ?_
  refine wpAny_with_toks (n := 1) htk₁ ?_
  refine wpAny_Assign_ListComp_free (fun _ => true) (fun v y => ∃ (e : Nat) (t t' : Tok), v = .int e t ∧ y = .str (Txt.slice x (some (e : Int)) (some (b : Int))) t') (by rfl) (by rfl) (by decide) (by rfl) (by decide) (by rfl) (by rfl) (by rfl) ?_
  refine Call_ ?_
  refine nmB (v := .type "range") G₁ (by kernel_rfl!) (by kernel_rfl!) (by decide) ?_
  refine PyProof.Rows.callWith_type1 ?_
  refine spliced_more ?_
  refine Call_ ?_
  refine nmB (v := .builtin "len") G₁ (by kernel_rfl!) (by kernel_rfl!) (by decide) ?_
  refine PyProof.Rows.callWith_builtin1 ?_
  refine spliced_more ?_
  refine nmC (c := s.heap.objs.size + 1 + 1) (by rfl) cT ?_
  refine spliced_none ?_
  refine PyProof.Rows.len_str (by omega) ?_
  refine spliced_none ?_
  refine call_range_1 ?_
  refine iterRange (n := x.length) (IsRange.new _ _ _ _ _ _ _) hh (by omega) (by omega) (by omega) ?_
  intro I St h₂ k₂ nI ltI W hSt
  have K₂ : h₁.StaysIn h₂ := stays_trans (stays_push h₁ _) k₂
  have F₂ := F.keeps K₂
  have neI : ∀ {a : Addr} {o : Obj}, h₁.get? a = some o → a ≠ I := fun e q => by subst q; rw [stays_push h₁ _ _ _ e] at nI; cases nI
  refine ⟨I, [I], [I], x.length, _, St, _, rfl, W, by rw [sizeLine_eq]; omega, hSt, fun b hb => by rw [List.mem_singleton.mp hb]; exact ltI, ?_, F₂.ns, ⟨?_, ?_⟩, ?_⟩
  · obtain ⟨o, _, _, e, _⟩ := F.ns
    exact fun q => neI e (List.mem_singleton.mp q)
  · intro C j v s₃ m₃ E' _ _ _ _ _ _
    exact wpAny_pure ⟨rfl, _, _, rfl, fun _ _ e => e⟩
  · rintro C j v s₃ m₃ E' hC ⟨t, rfl⟩ _ hns hm hk htk₃
    obtain ⟨oT, eT, dT⟩ := cT
    obtain ⟨oB, eB, dB⟩ := cB
    have kk : ∀ {a : Addr} {o : Obj}, h₁.get? a = some o → s₃.heap.get? a = some o := fun e => hk _ _ (fun q => neI e (List.mem_singleton.mp q)) (K₂ _ _ e)
    refine subSlice ?_
    refine nmC (c := s.heap.objs.size + 1 + 1) (by rfl) ⟨oT, kk eT, dT⟩ ?_
    refine nmL hns hm ?_
    refine nmC (c := s.heap.objs.size + 1 + 1 + 1) (by rfl) ⟨oB, kk eB, dB⟩ ?_
    refine ⟨x, t2, some (0 + (j : Int) * 1, t), some ((b : Int), t3), rfl, rfl, rfl, hx, ?_⟩
    intro h' t' k kh
    refine ⟨⟨j, t, t', by congr 1; omega, ?_⟩, h', k, rfl, kh⟩
    show Value.str (Txt.slice x (some (0 + (j : Int) * 1)) (some (b : Int))) t' = _
    rw [show (0 + (j : Int) * 1) = ((j : Nat) : Int) by omega]
  · intro D h₃ tk₃ ys vs nD lD _ hvl hvP hpair hns₃ hk₃ htk₃
    replace htk₃ : 1 ≤ tk₃ := htk₃
    have neL : ∀ {b : Addr} {o : Obj}, s.heap.get? b = some o → b ≠ s.heap.objs.size := fun e => Nat.ne_of_lt (Heap.lt_size e)
    have F₃ : Fr s.heap s.heap.objs.size h₃ _ := ⟨hns₃, fun b o e => hk₃ b o (neL e) (fun q => neI (F.keep _ _ e) (List.mem_singleton.mp q)) (F₂.keep b o e), F.above⟩
    have G₃ := G.keeps F₃.keep
    have hT₃ := hT.keeps F₃.keep
    have cH₃ : h₃.IsCell (s.heap.objs.size + 1) (some (.ref (handA i))) := by
      obtain ⟨oH, eH, dH⟩ := cH
      exact ⟨oH, hk₃ _ _ (Nat.ne_of_gt (Nat.lt_succ_self _)) (fun q => neI eH (List.mem_singleton.mp q)) (K₂ _ _ eH), dH⟩
    have ef : vs.filter (fun _ => true) = vs := List.filter_eq_self.mpr (fun _ _ => rfl)
    rw [ef] at hpair
    have hyl : ys.toList.length = x.length := by rw [← Paired.length hpair]; exact hvl
    have hyj : ∀ j, j < x.length → ∃ t', ys.toList[j]? = some (.str (Txt.slice x (some ((j : Nat) : Int)) (some (b : Int))) t') := by
      intro j hj
      have hj' : j < vs.length := by omega
      have e1 : vs[j]? = some vs[j] := by simp [hj']
      obtain ⟨y, ey, e, t, t', ev, e2⟩ := paired_at hpair j _ e1
      obtain ⟨t4, ev'⟩ := hvP j vs[j] (by simp [hj'])
      rw [ev'] at ev
      injection ev with ev _
      have : e = j := by omega
      subst this
      exact ⟨t', by rw [ey, e2]⟩
    with_reducible refine wpAny_execs_cons ?_
    with_reducible refine wpAny_Return_some ?_
    refine CallKw_ ?_
    refine nmG (v := .ref 32) G₃ (by kernel_rfl!) ?_
    refine callK_kw (mg := mg) (mb := mb) (by rfl) (by rfl) ?_
    refine evalArgs_kw2 rfl ?_
    refine spliced_more ?_
    refine nmL F₃.ns (by rfl) ?_
    refine spliced_more ?_
    refine UnaryOp_ ?_
    refine nmL F₃.ns (by rfl) ?_
    refine PyProof.Rows.neg_int ?_
    refine spliced_none ?_
    refine kwAll_cons ?_
    refine lamMake (P := 95) (c := 97) (qual := "_law_nearest.<locals>.<lambda>") G₃ (by dsimp only; omega) hT₃ G₃.code97 rfl rfl rfl (by kernel_rfl!) (by rfl) ?_
    intro kf c' pm ctv h₄ tk₄ htk₄ k₄ hkf hrec hT₄ nkf
    have G₄ := G₃.but hT₃ (by kernel_rfl!) k₄
    refine kwAll_nil ⟨G₄, ?_⟩
    have lD₄ : h₄.IsList D ys := by
      obtain ⟨o, e, hc, r⟩ := lD
      exact ⟨o, k₄ _ _ (hT₃.ne e (by rw [hc]; intro z; cases z)) e, hc, r⟩
    have cH₄ : h₄.IsCell (s.heap.objs.size + 1) (some (.ref (handA i))) := by
      obtain ⟨o, e, hd⟩ := cH₃
      refine ⟨o, k₄ _ _ (fun q => ?_) e, hd⟩
      rcases hT₃ with e' | ⟨c', e', _⟩
      · rw [q, e'] at e; cases e; cases hd
      · rw [q, e'] at e; cases e; cases hd
    refine bisLk (l := D) (kf := kf) (vs := ys.toList) (f := fun j => -(cut i x.cps.toList j b : Int)) G₄ (by show A.depth + 1 < 700; omega) ?_ (by simpa using lD₄) (by omega) ⟨⟨_, _, hkf, rfl⟩, ?_⟩ ?_ ?_
    · exact htk₄
    · intro A' E' s' Q' j v hs' htk' hd' hv hQ'
      have hj : j < x.length := by
        have := (List.getElem?_eq_some_iff.mp hv).1
        omega
      obtain ⟨t', ey⟩ := hyj j hj
      rw [ey] at hv
      cases hv
      refine lamCall (binds := [("piece", _)]) (hs' _ _ hkf) (hrec.keeps hs') (G₄.keeps hs').nolimit (Nat.lt_trans hd' (by decide)) (by rfl) (locs (by rfl)) (by rfl) (by rfl) (by rfl) (by decide) ?_
      intro h₅ F₅
      have G₅ := G₄.keeps (stays_trans hs' F₅.keep)
      refine UnaryOp_ ?_
      refine Call_ ?_
      refine nmB (v := .builtin "len") G₅ (by kernel_rfl!) (by kernel_rfl!) (by decide) ?_
      refine PyProof.Rows.callWith_builtin1 ?_
      refine spliced_more ?_
      refine Call_ ?_
      obtain ⟨oH, eH, dH⟩ := cH₄
      refine nmF (c := s.heap.objs.size + 1) (by rfl) ⟨oH, F₅.keep _ _ (hs' _ _ eH), dH⟩ ?_
      refine callWith_K G₅.X (by exact keep_hand hi) ?_
      refine spliced_more ?_
      refine nmL F₅.ns (by rfl) ?_
      refine spliced_none ⟨G₅.X, ?_⟩
      refine esc_call hi G₅ (by show A'.depth + 1 < recursionLimit; exact Nat.lt_trans (Nat.add_lt_add_right hd' 1) (by decide)) (by show 1 ≤ s'.toks + _; omega) (Nat.le_trans (Txt.slice_le _ _ _) hx) ?_
      intro h₆ t₆ tk₆ htk₆ k₆
      refine spliced_none ?_
      have hsh := escT_short hi (x := Txt.slice x (some ((j : Nat) : Int)) (some (b : Int))) (Nat.le_trans (Txt.slice_le _ _ _) hx)
      refine PyProof.Rows.len_str (by omega) ?_
      rw [cut_len (by omega)]
      refine PyProof.Rows.neg_int ?_
      exact hQ' _ _ _ (by dsimp only; omega) (stays_trans F₅.keep k₆)
    · intro j j' hjj hj'
      have := mono j j' hjj (by omega)
      omega
    · intro r t h₅ tk₅ htk₅ k₅ hr h1 h2
      refine h r t h₅ tk₅ htk₅ (fun b o hb e => k₅ _ _ (k₄ b o hb (F₃.keep b o e))) (hT₄.keeps k₅) (by omega) (fun j hj => by have := h1 j hj; omega) (fun j hj hj' => by have := h2 j hj (by omega); omega)
end
end Mine

set_option Elab.async false
set_option maxRecDepth 100000
set_option maxHeartbeats 4000000
set_option linter.unusedVariables false
namespace Mine
open PySem PySem.W PySem.W.X PyProof.Rows PySem.Calls PySem.Spec

section
variable {prog : Program} {w : World} {A : Around} {E : Value → Shared → Prop} {s : Shared} {mg mb : Str → Option Value} {env : Env}

theorem compLoopCell {R : Result → Shared → Prop} {elt iter : Expr} {x : Str} {px : Pos} {ifs : List Expr} {scope : Scope} {pos : Pos} {I D c : Addr} {fp : List Addr} {n : Nat} {P : Nat → Value → Prop} {St : Nat → Heap → Prop}
    {cenv : Env} {m : Str → Option Value} {v₀ : Option Value} (W : Walks prog w A I fp [I] n P St) (p : Value → Bool) (F : Value → Value → Prop)
    (hkf : cenv.scope.kind = .function) (hx : cenv.kindOf x = some .cell) (hc : cenv.cells.lookup x = some c)
    (hDc : D ≠ c) (hDf : D ∉ fp) (hcf : c ∉ fp) (hCc : cenv.locals ≠ c) (hCD : cenv.locals ≠ D) (hCI : cenv.locals ≠ I)
    (hst : St 0 s.heap) (hacc : s.heap.PlainList D #[]) (hcell : s.heap.IsCell c v₀) (hn : s.heap.Ns cenv.locals m)
    (htests : ∀ i v s₂ (E' : Value → Shared → Prop), P i v → s₂.heap.IsCell c (some v) → (∀ b o, b ≠ c → b ≠ I → b ≠ D → s.heap.get? b = some o → s₂.heap.get? b = some o) → s.toks ≤ s₂.toks →
      wpAny (model prog w) A (forIn ifs true fun c r => if r = true then do let ok ← isTrue c cenv (eval c cenv); pure (ForInStep.yield ok) else pure (ForInStep.yield r))
        (fun ok s₃ => ok = p v ∧ Keeps s₂ s₃) E' s₂)
    (helt : ∀ i v s₂ (E' : Value → Shared → Prop), P i v → p v = true → s₂.heap.IsCell c (some v) → (∀ b o, b ≠ c → b ≠ I → b ≠ D → s.heap.get? b = some o → s₂.heap.get? b = some o) → s.toks ≤ s₂.toks →
      wpAny (model prog w) A (eval elt cenv) (fun y s₃ => F v y ∧ Keeps s₂ s₃) E' s₂)
    (hR : ∀ h' tk ys (vs : List Value), h'.IsList D ys → vs.length = n → (∀ j v, vs[j]? = some v → P j v) → Paired F (vs.filter p) ys.toList → h'.Ns cenv.locals m →
      (∀ b o, b ≠ c → b ≠ I → b ≠ D → s.heap.get? b = some o → h'.get? b = some o) → R (.ok .next) { s with heap := h', toks := tk })
    (hsz : n ≤ sizeLine) :
    codeAny (model prog w) A (.compLoop (.ListComp elt [⟨.Name x px, iter, ifs, 0⟩] scope pos) 0 (.ref I) (.ref D) cenv) R s := by
  have hIf : I ∈ fp := W.sub I (List.mem_singleton.mpr rfl)
  have hDI : D ≠ I := fun e => hDf (e ▸ hIf)
  have hcI : c ≠ I := fun e => hcf (e ▸ hIf)
  refine codeAny_compLoop_tests
    (fun k s' => ∃ h' tk ys v', ∃ vs : List Value, s' = { s with heap := h', toks := tk } ∧ St vs.length h' ∧ h'.PlainList D ys ∧ h'.IsCell c v' ∧ h'.Ns cenv.locals m ∧ (∀ j v, vs[j]? = some v → P j v) ∧
      Paired F (vs.filter p) ys.toList ∧ vs.length ≤ n ∧ k = n + 1 - vs.length ∧
      (∀ b o, b ≠ c → b ≠ I → b ≠ D → s.heap.get? b = some o → h'.get? b = some o) ∧ s.toks ≤ tk) ?_ (n + 1)
    ⟨s.heap, s.toks, #[], v₀, [], rfl, hst, hacc, hcell, hn, by simp, by simpa using Paired.nil, Nat.zero_le _, rfl, fun _ _ _ _ _ e => e, Nat.le_refl _⟩
  rintro k s' ⟨H, tk, ys, v', vs, rfl, hst', hacc', hcell', hn', hP, hF, hi, rfl, hk, htk⟩
  by_cases hlt : vs.length < n
  · refine wpAny_with_toks (n := s.toks) htk (W.item vs.length _ _ _ hlt hst' fun v h₁ tk₁ hPv hst₁ hk₁ htk₁ => ?_)
    have hcell₁ : h₁.IsCell c v' := by
      obtain ⟨o, e, d⟩ := hcell'
      exact ⟨o, hk₁ c o (by simpa using hcI) e, d⟩
    refine wpAny_assign_Name (wpAny_storeName_cell hkf hx hc hcell₁ (fun h₂ hv₂ hs₂ => ?_))
    have up₂ : ∀ b o, b ≠ c → b ≠ I → H.get? b = some o → h₂.get? b = some o := fun b o hbc hbI e => hs₂.extBut b o hbc (hk₁ b o (by simpa using hbI) e)
    have hst₂ : St (vs.length + 1) h₂ := W.frame _ _ _ hst₁ fun b hb o e => hs₂.extBut b o (fun h => hcf (h ▸ hb)) e
    refine wpAny_mono (wpAny_toks_of (n := s.toks) htk₁ (htests vs.length v _ _ hPv hv₂ (fun b o hbc hbI hbD e => up₂ b o hbc hbI (hk b o hbc hbI hbD e)) htk₁)) (fun ok s₃ h₃ => ?_) fun _ _ e => e.2
    obtain ⟨htk₃, rfl, h₃, tk₃, rfl, hk₃⟩ := h₃
    have hst₃ : St (vs.length + 1) h₃ := W.frame _ _ _ hst₂ fun b _ o e => hk₃ b o e
    have hacc₃ : h₃.PlainList D ys := hacc'.at fun o e => hk₃ _ o (up₂ D o hDc hDI e)
    have hv₃ : h₃.IsCell c (some v) := by obtain ⟨o, e, d⟩ := hv₂; exact ⟨o, hk₃ _ _ e, d⟩
    have hn₃ : h₃.Ns cenv.locals m := hn'.at' fun o e => hk₃ _ o (up₂ _ o hCc hCI e)
    have hP' : ∀ j u, (vs ++ [v])[j]? = some u → P j u := fun j u hj => by
      rcases Nat.lt_trichotomy j vs.length with h | h | h
      · exact hP j u (by rwa [List.getElem?_append_left h] at hj)
      · subst h; simp at hj; subst hj; exact hPv
      · have hnone : (vs ++ [v])[j]? = none := List.getElem?_eq_none (by rw [List.length_append, List.length_singleton]; omega)
        rw [hnone] at hj; cases hj
    cases hpv : p v with
    | false =>
      simp only [Bool.false_eq_true, if_false]
      refine ⟨n + 1 - (vs.length + 1), by omega, h₃, tk₃, ys, some v, vs ++ [v], rfl, by simpa using hst₃, hacc₃, hv₃, hn₃, hP', ?_, (by rw [List.length_append, List.length_singleton]; exact hlt), (by rw [List.length_append, List.length_singleton]), fun b o hbc hbI hbD e => hk₃ b o (up₂ b o hbc hbI (hk b o hbc hbI hbD e)), htk₃⟩
      rw [List.filter_append]; simpa [hpv] using hF
    | true =>
      simp only [if_true]
      refine wpAny_mono (wpAny_toks_of (n := s.toks) htk₃ (helt vs.length v _ _ hPv hpv hv₃ (fun b o hbc hbI hbD e => hk₃ b o (up₂ b o hbc hbI (hk b o hbc hbI hbD e))) htk₃)) (fun y s₄ h₄ => ?_) fun _ _ e => e.2
      obtain ⟨htk₄, hFy, h₄, tk₄, rfl, hk₄⟩ := h₄
      have hys : ys.size ≤ sizeLine := by
        have e1 := Paired.length hF
        have e2 : (vs.filter p).length ≤ vs.length := List.length_filter_le _ _
        have e4 : ys.toList.length = ys.size := by simp
        omega
      refine wpAny_list_append_plain (hsz := hys) (hacc₃.at fun o e => hk₄ _ o e) fun h₅ hl₅ hs₅ => ?_
      refine ⟨n + 1 - (vs.length + 1), by omega, h₅, tk₄, ys.push y, some v, vs ++ [v], rfl, ?_, hl₅, ?_, ?_, hP', ?_, (by rw [List.length_append, List.length_singleton]; exact hlt), (by rw [List.length_append, List.length_singleton]),
        fun b o hbc hbI hbD e => hs₅.extBut b o hbD (hk₄ b o (hk₃ b o (up₂ b o hbc hbI (hk b o hbc hbI hbD e)))), htk₄⟩
      · have := W.frame _ _ h₅ hst₃ fun b hb o e => hs₅.extBut b o (fun h => hDf (h ▸ hb)) (hk₄ b o e)
        simpa using this
      · obtain ⟨o, e, d⟩ := hv₃; exact ⟨o, hs₅.extBut _ _ (Ne.symm hDc) (hk₄ _ _ e), d⟩
      · exact (hn₃.at' fun o e => hs₅.extBut _ _ hCD (hk₄ _ _ e))
      · rw [List.filter_append]; simpa [hpv] using Paired.snoc hF hFy
  · have hin : vs.length = n := by omega
    refine W.done _ _ _ (hin ▸ hst') fun h₁ tk₁ hk₁ => ?_
    exact hR h₁ tk₁ ys vs (hacc'.at fun o e => hk₁ _ o (by simpa using hDI) e).isList hin hP hF (hn'.at' fun o e => hk₁ _ o (by simpa using hCI) e) fun b o hbc hbI hbD e => hk₁ b o (by simpa using hbI) (hk b o hbc hbI hbD e)

structure QuietCell (prog : Program) (w : World) (A : Around) (env : Env) (scope : Scope) (cl : List (Str × Addr)) (x : Str) (ifs : List Expr) (elt : Expr) (I : Addr) (P : Nat → Value → Prop) (p : Value → Bool)
    (F : Value → Value → Prop) (s₂ : Shared) : Prop where
  tests : ∀ C c i v s₃ E', s₂.heap.objs.size ≤ c → P i v → s₃.heap.IsCell c (some v) → (∀ b o, b ≠ I → s₂.heap.get? b = some o → s₃.heap.get? b = some o) → s₂.toks ≤ s₃.toks →
    wpAny (model prog w) A (forIn ifs true fun cc r => if r = true then do let ok ← isTrue cc (compEnvC scope ((x, c) :: cl) C env) (eval cc (compEnvC scope ((x, c) :: cl) C env)); pure (ForInStep.yield ok) else pure (ForInStep.yield r))
      (fun ok s₄ => ok = p v ∧ Keeps s₃ s₄) E' s₃
  elt : ∀ C c i v s₃ E', s₂.heap.objs.size ≤ c → P i v → p v = true → s₃.heap.IsCell c (some v) → (∀ b o, b ≠ I → s₂.heap.get? b = some o → s₃.heap.get? b = some o) → s₂.toks ≤ s₃.toks →
    wpAny (model prog w) A (eval elt (compEnvC scope ((x, c) :: cl) C env)) (fun y s₄ => F v y ∧ Keeps s₃ s₄) E' s₃

theorem compCell {elt iter : Expr} {x : Str} {px : Pos} {ifs : List Expr} {scope : Scope} {cl : List (Str × Addr)} {pos : Pos} {Q : Value → Shared → Prop} (p : Value → Bool) (F : Value → Value → Prop)
    (hclos : closureFor scope env = pure cl) (hkind : scope.kind = .function) (hnames : ∀ y ∈ scope.names, y.2 = .local → scope.names.lookup y.1 = some .local)
    (hcf : ∀ n, cellsFrom n scope.names cl = (x, n) :: cl) (hpc : ∀ h : Heap, pushCells h scope.names = h.push { cls := .type "cell", data := .cell none }) (hx : (relabel scope env).names.lookup x = some .cell)
    (h : wpAny (model prog w) A (eval iter env) (fun xv s₁ => wpAny (model prog w) A (pyIter xv) (fun it s₂ => ∃ I fp n P St, it = .ref I ∧ Walks prog w A I fp [I] n P St ∧ n ≤ sizeLine ∧ St 0 s₂.heap ∧ (∀ b ∈ fp, b < s₂.heap.objs.size) ∧
      QuietCell prog w A env scope cl x ifs elt I P p F s₂ ∧
      (∀ D h' tk ys (vs : List Value), s₂.heap.get? D = none → h'.IsList D ys → vs.length = n → (∀ j v, vs[j]? = some v → P j v) → Paired F (vs.filter p) ys.toList →
        (∀ b o, b ≠ I → s₂.heap.get? b = some o → h'.get? b = some o) → Q (.ref D) { s₂ with heap := h', toks := tk })) E s₁) E s)
    (hs : ∀ x, foldedSetIterable iter env x = pure x := by intro _; rfl) :
    wpAny (model prog w) A (eval (.ListComp elt [⟨.Name x px, iter, ifs, 0⟩] scope pos) env) Q E s := by
  rw [eval_ListComp]
  refine wpAny_comprehension_free (use := none) rfl hs hclos hkind hnames (wpAny_mono h (fun xv s₁ h₁ => wpAny_mono h₁ (fun it s₂ h₂ => ?_) fun _ _ e => e) fun _ _ e => e)
  obtain ⟨I, fp, n, P, St, rfl, W, hsz, hst, hfp, hq, hQ⟩ := h₂
  refine wpAny_newObj_type ?_
  simp only [newFunctionEnv, Option.isSome_some, if_true]
  refine wpAny_bind (wpAny_alloc ?_)
  refine wpAny_bind (wpAny_layCells _ (fun name kind cells => by cases hkc : kind == NameKind.cell <;> simp [hkc]) _ _ _ _ ?_)
  rw [hcf, hpc]
  refine wpAny_bind (wpAny_pure (wpAny_pure ?_))
  dsimp only
  generalize hH1 : s₂.heap.push { cls := .type "list", dict := none, data := .seq ([] : List Value).toArray } = H1
  generalize hH2 : H1.push { cls := .type "dict", data := .dict #[] } = H2
  generalize hH3 : H2.push { cls := .type "cell", data := .cell none } = H3
  have s1 : H1.objs.size = s₂.heap.objs.size + 1 := by rw [← hH1, Heap.size_push]
  have s2 : H2.objs.size = s₂.heap.objs.size + 2 := by rw [← hH2, Heap.size_push, s1]
  have k23 : H2.StaysIn H3 := hH3 ▸ stays_push _ _
  have k12 : H1.StaysIn H2 := hH2 ▸ stays_push _ _
  have k01 : s₂.heap.StaysIn H1 := hH1 ▸ stays_push _ _
  have old : s₂.heap.StaysIn H3 := stays_trans k01 (stays_trans k12 k23)
  have hacc : H3.PlainList s₂.heap.objs.size #[] := ⟨0, k23 _ _ (k12 _ _ (hH1 ▸ Heap.get?_push_size _ rfl))⟩
  have hns : H3.Ns H1.objs.size (fun _ => none) := (hH2 ▸ Heap.Ns.new H1 (.type "dict")).keeps k23
  have hcell : H3.IsCell H2.objs.size none := ⟨_, hH3 ▸ Heap.get?_push_size _ rfl, rfl⟩
  have below : ∀ b, b < s₂.heap.objs.size → b ≠ s₂.heap.objs.size ∧ b ≠ H1.objs.size ∧ b ≠ H2.objs.size := fun b hb => ⟨by omega, by omega, by omega⟩
  have fresh : ∀ a, s₂.heap.objs.size ≤ a → s₂.heap.get? a = none := fun a ha => by
    cases e : s₂.heap.get? a with
    | none => rfl
    | some o' => exact absurd (Heap.lt_size e) (Nat.not_lt.mpr ha)
  have hIlt : I < s₂.heap.objs.size := hfp I (W.sub I (List.mem_singleton.mpr rfl))
  have hst₃ : St 0 H3 := W.frame _ _ _ hst fun b _ o e => old b o e
  have loop : codeAny (model prog w) A (.compLoop (.ListComp elt [⟨.Name x px, iter, ifs, 0⟩] scope pos) 0 (.ref I) (.ref s₂.heap.objs.size) (compEnvC scope ((x, H2.objs.size) :: cl) H1.objs.size env))
      (compPost (model prog w) A E none Q (.ref s₂.heap.objs.size) H1.objs.size) { s₂ with heap := H3 } := by
    refine compLoopCell (c := H2.objs.size) (D := s₂.heap.objs.size) (cenv := compEnvC scope ((x, H2.objs.size) :: cl) H1.objs.size env) W p F (by show (relabel scope env).kind = _; exact hkind) hx (by simp [compEnvC])
      (by show s₂.heap.objs.size ≠ H2.objs.size; omega) (fun hm => Nat.lt_irrefl _ (hfp _ hm)) (fun hm => absurd (show H2.objs.size < s₂.heap.objs.size from hfp _ hm) (by omega)) (by show H1.objs.size ≠ H2.objs.size; omega) (by show H1.objs.size ≠ s₂.heap.objs.size; omega) (Nat.ne_of_gt (Nat.lt_of_lt_of_le hIlt (show s₂.heap.objs.size ≤ H1.objs.size by omega))) hst₃ hacc hcell hns ?_ ?_ ?_ hsz
    · intro i v s₃ E' hPv hcv hk htk
      exact hq.tests _ _ i v s₃ E' (by omega) hPv hcv (fun b o hb e => hk b o (below b (Heap.lt_size e)).2.2 hb (below b (Heap.lt_size e)).1 (old b o e)) htk
    · intro i v s₃ E' hPv hpv hcv hk htk
      exact hq.elt _ _ i v s₃ E' (by omega) hPv hpv hcv (fun b o hb e => hk b o (below b (Heap.lt_size e)).2.2 hb (below b (Heap.lt_size e)).1 (old b o e)) htk
    · intro h' tk ys vs hl hlen hP hF hnC hk
      refine ⟨_, hnC, fun h'' hs'' => ?_⟩
      refine hQ _ h'' tk ys vs (fresh _ (Nat.le_refl _)) (hl.extBut hs''.extBut (by show s₂.heap.objs.size ≠ H1.objs.size; omega)) hlen hP hF fun b o hb e => ?_
      have bb := below b (Heap.lt_size e)
      exact hs''.extBut b o bb.2.1 (hk b o bb.2.2 hb bb.1 (old b o e))
  exact codeAny_compStart_list loop (W.self 0 _ _ _ hst₃ loop)
end
end Mine

set_option Elab.async false
set_option maxRecDepth 100000
set_option maxHeartbeats 4000000
set_option linter.unusedVariables false
namespace Mine
open PySem PySem.W PySem.W.X PyProof.Rows PySem.Calls PySem.Spec

/-! ### the plain side of ahead and behind -/
def stepA (i r : Nat) (T A : List Nat) : List Nat := (List.range (T.length + 1)).filter fun e => A.any fun b => decide (b ≤ e) && decide (pre i T e ≤ r + pre i T b)
def aN (T : List Nat) (bx : List (Nat × Nat)) : Nat → List Nat
  | 0 => [0]
  | k + 1 => match bx[k]? with
    | some (i, r) => stepA i r T (aN T bx k)
    | none => []
def stepB (i r : Nat) (T B : List Nat) : List Nat := (List.range (T.length + 1)).filter fun b => B.any fun e => decide (b ≤ e) && decide (pre i T e ≤ r + pre i T b)

def toI (l : List Nat) : List Int := l.map fun (n : Nat) => ((n : Nat) : Int)

def pOf (q : Int → Bool) : Value → Bool
  | .int b _ => q b
  | _ => false

theorem ints_filter (q : Int → Bool) : ∀ {vs : List Value} {l : List Int}, IntsAre vs l → IntsAre (vs.filter (pOf q)) (l.filter q)
  | _, _, .nil => .nil
  | _, _, .cons n t h => by
    by_cases e : q n = true
    · rw [List.filter_cons_of_pos (by exact e), List.filter_cons_of_pos e]
      exact .cons n t (ints_filter q h)
    · rw [List.filter_cons_of_neg (by exact e), List.filter_cons_of_neg e]
      exact ints_filter q h

theorem ints_at : ∀ {vs : List Value} {l : List Int}, IntsAre vs l → ∀ (j : Nat) (v : Value), vs[j]? = some v → ∃ (n : Int) (t : Tok), l[j]? = some n ∧ v = Value.int n t
  | _, _, .cons n t _, 0, v, e => by simp at e; subst e; exact ⟨n, t, rfl, rfl⟩
  | _, _, .cons _ _ h, j + 1, v, e => by simpa using ints_at h j v (by simpa using e)
theorem ints_at' : ∀ {vs : List Value} {l : List Int}, IntsAre vs l → ∀ (j : Nat) (n : Int), l[j]? = some n → ∃ t, vs[j]? = some (.int n t)
  | _, _, .cons n t _, 0, m, e => by simp at e; subst e; exact ⟨t, rfl⟩
  | _, _, .cons _ _ h, j + 1, v, e => by simpa using ints_at' h j v (by simpa using e)

theorem ints_of {f : Nat → Int} : ∀ {n : Nat} {vs : List Value}, vs.length = n → (∀ (j : Nat) (v : Value), vs[j]? = some v → ∃ t, v = Value.int (f j) t) → IntsAre vs ((List.range n).map f)
  | 0, [], _, _ => .nil
  | n + 1, v :: vs, hl, h => by
    obtain ⟨t, rfl⟩ := h 0 v rfl
    rw [List.range_succ_eq_map, List.map_cons, List.map_map]
    refine .cons _ t (ints_of (f := f ∘ Nat.succ) (by simpa using hl) fun j v hv => ?_)
    obtain ⟨t', e⟩ := h (j + 1) v (by simpa using hv)
    exact ⟨t', e⟩
theorem intsOf_are {vs : List Value} {n : Nat} {f : Nat → Int} (h : IntsOf vs n f) : IntsAre vs ((List.range n).map f) :=
  ints_of h.1 fun j v hv => by
    have hj : j < n := by rw [← h.1]; exact (List.getElem?_eq_some_iff.mp hv).1
    obtain ⟨t, e⟩ := h.2 j hj
    rw [e] at hv; cases hv; exact ⟨t, rfl⟩

theorem paired_eq {α : Type} : ∀ {l r : List α}, Paired (fun v y => y = v) l r → r = l
  | _, _, .nil => rfl
  | _, _, .cons e h => by rw [e, paired_eq h]

theorem list_same {α : Type} : ∀ {us vs : List α}, us.length = vs.length → (∀ (j : Nat) (v : α), us[j]? = some v → vs[j]? = some v) → us = vs
  | [], [], _, _ => rfl
  | u :: us, v :: vs, hl, h => by
    have e0 := h 0 u rfl
    have e1 : us = vs := list_same (by simpa using hl) fun j x hx => by simpa using h (j + 1) x (by simpa using hx)
    have e2 : v = u := by simpa using e0
    rw [e1, e2]

theorem any_ints (l : List Nat) (q : Nat → Bool) (q' : Int → Bool) (h : ∀ n : Nat, q' (n : Int) = q n) : (!decide ((toI l).filter q' = [])) = l.any q := by
  induction l with
  | nil => rfl
  | cons a r ih =>
    unfold toI at ih ⊢
    rw [List.map_cons, List.filter_cons, List.any_cons, h a]
    by_cases e : q a = true
    · rw [if_pos e, e]; simp
    · rw [if_neg e]
      have : q a = false := by simpa using e
      rw [this, Bool.false_or]; exact ih

theorem filter_ints (l : List Nat) (q : Nat → Bool) (q' : Int → Bool) (h : ∀ n ∈ l, q' (n : Int) = q n) : (toI l).filter q' = toI (l.filter q) := by
  induction l with
  | nil => rfl
  | cons a r ih =>
    unfold toI at ih ⊢
    rw [List.map_cons, List.filter_cons, List.filter_cons, h a List.mem_cons_self, ih fun n hn => h n (List.mem_cons_of_mem _ hn)]
    by_cases e : q a = true
    · rw [if_pos e, if_pos e]; rfl
    · rw [if_neg e, if_neg e]

/-! ### lists of lists in the heap -/
def Inner (h : Heap) (av : List Addr) (refs : List Value) (ls : List (List Int)) : Prop :=
  refs.length = ls.length ∧ ∀ (j : Nat) (l : List Int), ls[j]? = some l → ∃ (a : Addr) (vs : List Value), refs[j]? = some (Value.ref a) ∧ h.IsList a vs.toArray ∧ IntsAre vs l ∧ a ∉ av

theorem Inner.mono {h h' : Heap} {av : List Addr} {refs : List Value} {ls : List (List Int)} (x : Inner h av refs ls) (k : ∀ b o, b ∉ av → h.get? b = some o → h'.get? b = some o) : Inner h' av refs ls :=
  ⟨x.1, fun j l e => by
    obtain ⟨a, vs, h1, ⟨o, h2, h3⟩, h4, h5⟩ := x.2 j l e
    exact ⟨a, vs, h1, ⟨o, k _ _ h5 h2, h3⟩, h4, h5⟩⟩

theorem Inner.snoc {h : Heap} {av : List Addr} {refs : List Value} {ls : List (List Int)} (x : Inner h av refs ls) {a : Addr} {vs : List Value} {l : List Int} (hl : h.IsList a vs.toArray) (hi : IntsAre vs l) (ha : a ∉ av) : Inner h av (refs ++ [.ref a]) (ls ++ [l]) := by
  refine ⟨by simp [x.1], fun j l' e => ?_⟩
  by_cases hj : j < ls.length
  · rw [List.getElem?_append_left hj] at e
    obtain ⟨b, us, h1, h2⟩ := x.2 j l' e
    exact ⟨b, us, by rw [List.getElem?_append_left (by rw [x.1]; exact hj)]; exact h1, h2⟩
  · have hj' : j = ls.length := by
      have := (List.getElem?_eq_some_iff.mp e).1
      simp at this; omega
    subst hj'
    simp at e
    subst e
    exact ⟨a, vs, by rw [List.getElem?_append_right (by rw [x.1]; exact Nat.le_refl _), x.1]; simp, hl, hi, ha⟩

theorem Inner.front {h : Heap} {av : List Addr} {refs : List Value} {ls : List (List Int)} (x : Inner h av refs ls) {a : Addr} {vs : List Value} {l : List Int} (hl : h.IsList a vs.toArray) (hi : IntsAre vs l) (ha : a ∉ av) : Inner h av (.ref a :: refs) (l :: ls) := by
  refine ⟨by simp [x.1], fun j l' e => ?_⟩
  cases j with
  | zero => simp at e; subst e; exact ⟨a, vs, rfl, hl, hi, ha⟩
  | succ j => simpa using x.2 j l' (by simpa using e)

def dataLL (ls : List (List Int)) : List PyData := ls.map fun l => .list (l.map PyData.int)

theorem Inner.reads {h : Heap} {av : List Addr} : ∀ {refs : List Value} {ls : List (List Int)}, Inner h av refs ls → ∃ as, ReadsAll h refs (dataLL ls) as
  | [], [], _ => ⟨[], .nil⟩
  | [], _ :: _, x => by have := x.1; simp at this
  | _ :: _, [], x => by have := x.1; simp at this
  | r :: refs, l :: ls, x => by
    obtain ⟨a, vs, h1, h2, h3, _⟩ := x.2 0 l rfl
    simp at h1
    subst h1
    obtain ⟨as, ih⟩ := Inner.reads (h := h) (av := av) (refs := refs) (ls := ls) ⟨by simpa using x.1, fun j l' e => by simpa using x.2 (j + 1) l' (by simpa using e)⟩
    exact ⟨_, .cons (reads_of_ints h2 h3) ih⟩

theorem shaped_LL (ls : List (List Int)) : SeqAt.shaped (.list (dataLL ls)) = true := by
  have h1 : ∀ ls : List (List Int), PyData.canLayAll0 (dataLL ls) = true := by
    intro ls
    induction ls with
    | nil => simp [dataLL, PyData.canLayAll0]
    | cons l r ih => simp only [dataLL, List.map_cons, PyData.canLayAll0, PyData.canLay0, canLayAll0_ints, Bool.true_and] at ih ⊢; exact ih
  have h2 : ∀ ls : List (List Int), PyData.depthAll (dataLL ls) ≤ 2 := by
    intro ls
    induction ls with
    | nil => simp [dataLL, PyData.depthAll]
    | cons l r ih =>
      have := W.depthAll_ints l
      simp only [dataLL, List.map_cons, PyData.depthAll, PyData.depth] at ih ⊢
      omega
  have h3 := h2 ls
  have h4 : PyData.depth (.list (dataLL ls)) ≤ 64 := by simp only [PyData.depth]; omega
  show (PyData.canLay0 (.list (dataLL ls)) && decide (PyData.depth (.list (dataLL ls)) ≤ 64)) = true
  rw [Bool.and_eq_true]
  exact ⟨by simp only [PyData.canLay0]; exact h1 ls, decide_eq_true h4⟩

theorem eqv_LL (ls : List (List Int)) : PyData.eqv (.list (dataLL ls)) (.list (dataLL ls)) = true := by
  have : ∀ ls : List (List Int), PyData.eqvAll (dataLL ls) (dataLL ls) = true := by
    intro ls
    induction ls with
    | nil => simp [dataLL, PyData.eqvAll]
    | cons l r ih =>
      simp only [dataLL, List.map_cons, PyData.eqvAll, PyData.eqv, ked_eqvAll, decide_true, Bool.true_and] at ih ⊢
      exact ih
  simp only [PyData.eqv]
  exact this ls

section
variable {prog : Program} {w : World} {A : Around} {E : Value → Shared → Prop} {s : Shared} {mg mb : Str → Option Value} {env : Env}

theorem assignPair {a b : Str} {pa pb pos : Pos} {k : Nat} {l : Addr} {x y : Value} {Q : Unit → Shared → Prop} (hh : A.handled = none) (hl : s.heap.IsList l #[x, y])
    (h : ∀ h', s.heap.StaysIn h' → wpAny (model prog w) A (assign (.Name a pa) env x) (fun _ s₁ => wpAny (model prog w) A (assign (.Name b pb) env y) Q E s₁) E { s with heap := h' }) :
    wpAny (model prog w) A (assign (.Tuple [.Name a pa, .Name b pb] k pos) env (.ref l)) Q E s := by
  rw [arm_assign_Tuple]
  refine wpAny_bind (wpAny_standAt ?_)
  show wpAny _ _ (unpack (.ref l) [(false, assign (.Name a pa) env), (false, assign (.Name b pb) env)]) Q E s
  unfold unpack
  refine wpAny_bind (wpAny_holding ?_)
  show wpAny _ _ (unpackItems (.ref l) (#[x, y] : Array Value).size none) _ E s
  refine kun_itemsOf hh hl fun h' he => ?_
  show wpAny _ _ (do holding [y] (assign (.Name a pa) env x); holding [] (assign (.Name b pb) env y); pure ()) Q E _
  refine wpAny_bind (wpAny_holding (wpAny_mono (h h' fun b o e => he b o (Nat.ne_of_lt (Heap.lt_size e)) e) (fun _ s₁ h₁ => ?_) fun _ _ e => e))
  exact wpAny_bind (wpAny_holding (wpAny_mono h₁ (fun _ s₂ h₂ => wpAny_pure h₂) fun _ _ e => e))

theorem iterList {l : Addr} {vs : List Value} {Q : Value → Shared → Prop} (hl : s.heap.IsList l vs.toArray) (hh : A.handled = none)
    (h : ∀ I St h', s.heap.StaysIn h' → s.heap.get? I = none → I < h'.objs.size → l ≠ I → (∀ i h, St i h → h.IsListIter I l i) → Walks prog w A I [I, l] [I] vs.length (fun i v => vs[i]? = some v) St → St 0 h' → Q (.ref I) { s with heap := h' }) :
    wpAny (model prog w) A (pyIter (.ref l)) Q E s := by
  refine wpAny_pyIter_list hl ?_
  have hne : l ≠ s.heap.objs.size := by obtain ⟨o, ho, _⟩ := hl; exact Nat.ne_of_lt (Heap.lt_size ho)
  have W := Walks.list (prog := prog) (w := w) hh s.heap.objs.size l hne vs.toArray
  refine h s.heap.objs.size (fun i h => h.IsListIter s.heap.objs.size l i ∧ h.IsList l vs.toArray) _ (stays_push _ _) ((stays_refl s.heap).fresh) (by rw [Heap.size_push]; exact Nat.lt_succ_self _) hne (fun i h st => st.1) (by simpa using W) ⟨⟨_, Heap.get?_push_size _ rfl, rfl, rfl⟩, stays_list (stays_push _ _) hl⟩
end
end Mine

set_option Elab.async false
set_option maxRecDepth 100000
set_option maxHeartbeats 4000000
set_option linter.unusedVariables false
namespace Mine
open PySem PySem.W PySem.W.X PyProof.Rows PySem.Calls PySem.Spec

/-- the boxes as the heap holds them -/
def Boxes (h : Heap) (B : Addr) (bx : List (Nat × Nat)) : Prop :=
  ∃ items : List Value, h.IsList B items.toArray ∧ items.length = bx.length ∧ ∀ (k i r : Nat), bx[k]? = some (i, r) → ∃ (b : Addr) (tw tr : Tok), items[k]? = some (Value.ref b) ∧ h.IsList b #[Value.int i tw, Value.int r tr]

theorem aN_le (T : List Nat) (bx : List (Nat × Nat)) : ∀ (k : Nat), ∀ b ∈ aN T bx k, b ≤ T.length
  | 0, b, hb => by simp [aN] at hb; omega
  | k + 1, b, hb => by
    unfold aN at hb
    split at hb
    · unfold stepA at hb
      have := List.mem_range.mp (List.mem_filter.mp hb).1
      omega
    · cases hb
theorem aN_length (T : List Nat) (bx : List (Nat × Nat)) : ∀ (k : Nat), (aN T bx k).length ≤ T.length + 1
  | 0 => by simp [aN]
  | k + 1 => by
    unfold aN
    split
    · unfold stepA
      exact Nat.le_trans (List.length_filter_le _ _) (by simp)
    · simp
theorem stepA_ints (i r : Nat) (x : Str) (A : List Nat) : (toI (List.range (x.length + 1))).filter (fun e => A.any fun b => decide (b ≤ e.toNat) && decide (pre i x.cps.toList e.toNat ≤ r + pre i x.cps.toList b)) = toI (stepA i r x.cps.toList A) := by
  have h2 : x.cps.toList.length = x.length := by simp [Str.length]
  unfold stepA
  rw [h2]
  exact filter_ints _ _ _ fun n _ => by rw [Int.toNat_natCast]
theorem fitK {k n : Nat} (h : k < n) (hb : n ≤ 8) : k + 1 ≤ sizeLine := by
  rw [sizeLine_eq]; omega
theorem zidx (j : Nat) : (0 + (j : Int) * 1) = (j : Int) := by omega
theorem fitA {x : Str} (bx : List (Nat × Nat)) (k : Nat) (hx : x.length ≤ 8) : (toI (aN x.cps.toList bx k)).length ≤ sizeLine := by
  have h1 := aN_length x.cps.toList bx k
  have h2 : x.cps.toList.length = x.length := by simp [Str.length]
  rw [toI, List.length_map, sizeLine_eq]
  omega
theorem ltA {x : Str} (bx : List (Nat × Nat)) (k b : Nat) (hb : b ∈ aN x.cps.toList bx k) : b < x.length + 1 := by
  have h1 := aN_le x.cps.toList bx k b hb
  have h2 : x.cps.toList.length = x.length := by simp [Str.length]
  omega
theorem intFit {j n : Nat} (h : j < n + 1) (hx : n ≤ 8) : (j : Int) < 2 ^ 63 := by omega
theorem unitsFit {A : Around} {env : Env} (h : A.units < 5000) : (A.deeper env).units + 64 < cLine := by
  have : (A.deeper env).units ≤ A.units + 2000 := by
    show _ ≤ _
    simp [Around.deeper]
    try omega
  have : cLine = cLine := rfl
  unfold cLine
  omega
theorem condA (i r : Nat) (T : List Nat) (j n : Nat) : (decide ((n : Int) ≤ (j : Int)) && decide ((pre i T j : Int) - (pre i T (n : Int).toNat : Int) ≤ (r : Int))) = (decide (n ≤ (j : Int).toNat) && decide (pre i T (j : Int).toNat ≤ r + pre i T n)) := by
  rw [Int.toNat_natCast, Int.toNat_natCast]
  congr 1
  · exact decide_eq_decide.mpr (by omega)
  · exact decide_eq_decide.mpr (by omega)

section
variable {prog : Program} {w : World} {A : Around} {E : Value → Shared → Prop} {s : Shared} {mg mb : Str → Option Value} {env : Env}


theorem storeCell {name : Str} {c : Addr} {v₀ : Option Value} {v : Value} {Q : Unit → Shared → Prop} (hv : s.heap.IsCell c v₀) (h : ∀ h', h'.IsCell c (some v) → Heap.SameBut c s.heap h' → Q () { s with heap := h' })
    (hc : env.cells.lookup name = some c := by rfl) (hk : env.scope.kind = .function := by rfl) (hl : env.kindOf name = some .cell := by rfl) : wpAny (model prog w) A (storeName env name v) Q E s :=
  wpAny_storeName_cell hk hl hc hv h

theorem cell_keep {h h' : Heap} {c : Addr} {v : Option Value} (x : h.IsCell c v) (k : ∀ o, h.get? c = some o → h'.get? c = some o) : h'.IsCell c v := by
  obtain ⟨o, e, d⟩ := x; exact ⟨o, k o e, d⟩

theorem list_keep {h h' : Heap} {a : Addr} {its : Array Value} (x : h.IsList a its) (k : ∀ o, h.get? a = some o → h'.get? a = some o) : h'.IsList a its := by
  obtain ⟨o, e, d⟩ := x; exact ⟨o, k o e, d⟩

theorem ahead_call {x : Str} {bx : List (Nat × Nat)} {B : Addr} {t2 : Tok} {Q : Value → Shared → Prop} (hbx : ∀ (k i r : Nat), bx[k]? = some (i, r) → i < 5) (hbl : bx.length ≤ 8) (G : Gr w mg mb s.heap) (hroom : A.depth < 600) (hunits : A.units < 5000) (hh : A.handled = none) (htk : 1 ≤ s.toks) (hx : x.length ≤ 8)
    (hB : Boxes s.heap B bx)
    (h : ∀ R h' tk' as, 1 ≤ tk' → s.heap.StaysIn h' → Reads h' (.ref R) (.list (dataLL ((List.range (bx.length + 1)).map fun k => toI (aN x.cps.toList bx k)))) as → Q (.ref R) { s with heap := h', toks := tk' }) :
    wpAny (model prog w) A (call (.ref 110) [.str x t2, .ref B]) Q E s := by
  refine enterC (binds := [("text", .str x t2), ("boxes", .ref B)]) G (by rfl) (by kernel_rfl!) (Nat.lt_trans hroom (by decide)) htk (BindsTo.of_eq (by rfl)) (by rfl) (by rfl) (by rfl) (by rfl) ?_
  intro h₁ tk₁ htk₁ F C
  have cA := C "ahead" (s.heap.objs.size + 1) (by rfl)
  have cR := C "room" (s.heap.objs.size + 1 + 1) (by rfl)
  have cZ := C "sizes" (s.heap.objs.size + 1 + 1 + 1) (by rfl)
  replace cA : h₁.IsCell (s.heap.objs.size + 1) none := cA
  replace cR : h₁.IsCell (s.heap.objs.size + 1 + 1) none := cR
  replace cZ : h₁.IsCell (s.heap.objs.size + 1 + 1 + 1) none := cZ
  clear C
  have G₁ := G.keeps F.keep
  with_reducible refine wpAny_execs_cons ?_
  refine wpAny_Assign_Name ?_
  refine List_ ?_
  refine spliced_more ?_
  refine List_ ?_
  refine spliced_more ?_
  refine wpAny_Constant_int ?_
  refine spliced_none ?_
  refine newListL ?_
  intro a0 h₂ k₂ la0 na0 _
  refine spliced_none ?_
  refine newListL ?_
  intro R h₃ k₃ lR nR hR
  have k₁₃ : h₁.StaysIn h₃ := stays_trans k₂ k₃
  have cA₃ : h₃.IsCell (s.heap.objs.size + 1) none := by obtain ⟨o, e, d⟩ := cA; exact ⟨o, k₁₃ _ _ e, d⟩
  refine storeCell cA₃ ?_
  intro h₄ cA₄ hs₄
  have lt1 : s.heap.objs.size < s.heap.objs.size + 1 := Nat.lt_succ_self _
  have gnone : ∀ c, s.heap.objs.size ≤ c → s.heap.get? c = none := fun c hc => Heap.get?_none_of_le hc
  have F₄ : Fr s.heap s.heap.objs.size h₄ _ := (F.keeps k₁₃).change hs₄ (Nat.ne_of_gt lt1) (gnone _ (Nat.le_succ _))
  have neR : ∀ {c : Addr} {o : Obj}, h₁.get? c = some o → R ≠ c := fun e q => by subst q; rw [k₂ _ _ e] at nR; cases nR
  have nea0 : ∀ {c : Addr} {o : Obj}, h₁.get? c = some o → a0 ≠ c := fun e q => by subst q; rw [e] at na0; cases na0
  obtain ⟨oL, _, _, eL, _⟩ := F.ns
  obtain ⟨oA, eA, dA⟩ := cA
  obtain ⟨oR, eR, dR⟩ := cR
  obtain ⟨oZ, eZ, dZ⟩ := cZ
  have RL := neR eL
  have RA := neR eA
  have RR := neR eR
  have RZ := neR eZ
  have a0L := nea0 eL
  have a0A := nea0 eA
  have a0R := nea0 eR
  have a0Z := nea0 eZ
  have a0RR : a0 ≠ R := fun q => by obtain ⟨o, e, _⟩ := la0; rw [q, nR] at e; cases e
  have hR₄ := hs₄.extBut _ _ RA hR
  have la0₄ := list_keep la0 fun o e => hs₄.extBut _ _ a0A (k₃ _ _ e)
  have cR₄ : h₄.IsCell (s.heap.objs.size + 1 + 1) none := ⟨oR, hs₄.extBut _ _ (Nat.ne_of_gt (Nat.lt_succ_self _)) (k₁₃ _ _ eR), dR⟩
  have cZ₄ : h₄.IsCell (s.heap.objs.size + 1 + 1 + 1) none := ⟨oZ, hs₄.extBut _ _ (Nat.ne_of_gt (Nat.lt_trans (Nat.lt_succ_self _) (Nat.lt_succ_self _))) (k₁₃ _ _ eZ), dZ⟩
  have hB' := hB
  obtain ⟨items, lB, hil, hit⟩ := hB'
  with_reducible refine wpAny_execs_cons ?_
  refine wpAny_For ?_
  refine nmL F₄.ns (by rfl) ?_
  refine iterList (stays_list F₄.keep lB) hh ?_
  intro I St h₅ k₅ nI ltI hBI hSt W hSt0
  have neI : ∀ {c : Addr} {o : Obj}, h₄.get? c = some o → c ≠ I := fun e q => by subst q; rw [e] at nI; cases nI
  obtain ⟨oL4, _, _, eL4, _⟩ := F₄.ns
  have IL := neI eL4
  have IA : s.heap.objs.size + 1 ≠ I := by obtain ⟨o, e, _⟩ := cA₄; exact neI e
  have IRm : s.heap.objs.size + 1 + 1 ≠ I := by obtain ⟨o, e, _⟩ := cR₄; exact neI e
  have IZ : s.heap.objs.size + 1 + 1 + 1 ≠ I := by obtain ⟨o, e, _⟩ := cZ₄; exact neI e
  have IR : R ≠ I := neI hR₄
  have Ia0 : a0 ≠ I := by obtain ⟨o, e, _⟩ := la0₄; exact neI e
  have gI : s.heap.get? I = none := by
    cases q : s.heap.get? I with
    | none => rfl
    | some o => rw [F₄.keep _ _ q] at nI; cases nI
  obtain ⟨oB, eB, _⟩ := lB
  let L := s.heap.objs.size
  let av := [L, I, L + 1, L + 1 + 1, L + 1 + 1 + 1, R]
  refine forW (g := s.heap) (L := s.heap.objs.size) W (fun b hb => ?_) gI IL (fun h => ∃ o, h.get? I = some o) (fun i h st => by obtain ⟨o, e, _⟩ := hSt i h st; exact ⟨o, e⟩)
    (fun k h m => m "text" = some (.str x t2) ∧ h.IsCell (L + 1) (some (.ref R)) ∧ (∃ v, h.IsCell (L + 1 + 1) v) ∧ (∃ v, h.IsCell (L + 1 + 1 + 1) v) ∧
      ∃ refs n0, h.get? R = some { cls := .type "list", data := .seq (List.toArray refs) n0 } ∧ Inner h av refs ((List.range (k + 1)).map fun k => toI (aN x.cps.toList bx k)))
    ?_ (fun i v h tk Q' E' hP st hq => ?_) ?_ hSt0 (F₄.keeps k₅) ?_ (by dsimp only; omega) ?_
  · rcases List.mem_cons.mp hb with e | hb
    · exact .inl e
    · exact .inr ⟨oB, by rw [List.mem_singleton.mp hb]; exact eB⟩
  · rintro k h h' m ⟨m1, c1, ⟨v2, c2⟩, ⟨v3, c3⟩, refs, n0, hr, hin⟩ hk
    refine ⟨m1, cell_keep c1 fun o e => hk _ _ IA (Nat.ne_of_gt (by omega)) e, ⟨v2, cell_keep c2 fun o e => hk _ _ IRm (Nat.ne_of_gt (by omega)) e⟩, ⟨v3, cell_keep c3 fun o e => hk _ _ IZ (Nat.ne_of_gt (by omega)) e⟩, refs, n0, hk _ _ IR RL hr, hin.mono fun b o hb e => hk b o ?_ ?_ e⟩
    · exact fun q => hb (by simp [av, q])
    · exact fun q => hb (by simp [av, L, q])
  · have hlt : i < bx.length := by rw [← hil]; exact (List.getElem?_eq_some_iff.mp hP).1
    obtain ⟨b, tw, tr, e1, _⟩ := hit i bx[i].1 bx[i].2 (by simp [hlt])
    rw [e1] at hP
    cases hP
    exact wpAny_letOwnedTupleGo_listiter (hSt _ _ st) hq
  · rintro k v g₁ tq₁ m₁ Q' E' hk hP htq₁ F₁ ⟨m1, c1, ⟨v2, c2⟩, ⟨v3, c3⟩, refs, n0, hr, hin⟩ ⟨oI, eI⟩ hQ
    have hlt : k < bx.length := by rw [← hil]; exact hk
    obtain ⟨b, tw, tr, e1, lb⟩ := hit k bx[k].1 bx[k].2 (by simp [hlt])
    rw [e1] at hP
    cases hP
    have hi5 := hbx k bx[k].1 bx[k].2 (by simp [hlt])
    have haN : aN x.cps.toList bx (k + 1) = stepA bx[k].1 bx[k].2 x.cps.toList (aN x.cps.toList bx k) := by
      show (match bx[k]? with | some (i, r) => stepA i r x.cps.toList (aN x.cps.toList bx k) | none => []) = _
      rw [List.getElem?_eq_getElem hlt]
    generalize bx[k].1 = i at lb hi5 haN
    generalize bx[k].2 = r at lb haN
    refine assignPair hh (stays_list F₁.keep lb) ?_
    intro g₂ kg₂
    refine wpAny_assign_Name ?_
    refine wpAny_storeName_local (by rfl) (F₁.keeps kg₂).ns (fun g₃ hn₃ hs₃ => ?_) (by rfl)
    have F₃ := (F₁.keeps kg₂).set hn₃ hs₃
    refine wpAny_assign_Name ?_
    have neL2 : L + 1 + 1 ≠ L := Nat.ne_of_gt (by omega)
    have c2₃ := cell_keep c2 fun o e => hs₃.extBut _ _ neL2 (kg₂ _ _ e)
    refine storeCell c2₃ ?_
    intro g₄ c2₄ hs₄'
    have F₄' := F₃.change hs₄' neL2 (gnone _ (by omega))
    have off14 : ∀ b o, b ≠ L → b ≠ L + 1 + 1 → g₁.get? b = some o → g₄.get? b = some o := fun b o n1 n2 e => hs₄'.extBut _ _ n2 (hs₃.extBut _ _ n1 (kg₂ _ _ e))
    have G₄ := G.keeps F₄'.keep
    with_reducible refine wpAny_execs_cons ?_
    refine wpAny_Assign_Name ?_
    refine Call_ ?_
    refine nmG (v := .ref 105) G₄ (by kernel_rfl!) ?_
    refine callWith_K G₄.X (by kernel_rfl!) ?_
    refine spliced_more ?_
    refine nmL F₄'.ns (by rfl) ?_
    refine spliced_more ?_
    refine nmL F₄'.ns m1 ?_
    refine spliced_none ⟨G₄.X, ?_⟩
    refine sizes_call hi5 G₄ (by show A.depth + 1 < 900; omega) hh (by dsimp only; omega) hx ?_
    intro Z zs g₅ tq₅ htq₅ kg₅ nZ lZ hzs
    have neL3 : L + 1 + 1 + 1 ≠ L := Nat.ne_of_gt (by omega)
    have ne32 : L + 1 + 1 + 1 ≠ L + 1 + 1 := Nat.ne_of_gt (by omega)
    have c3₅ := cell_keep c3 fun o e => kg₅ _ _ (off14 _ _ neL3 ne32 e)
    refine storeCell c3₅ ?_
    intro g₆ c3₆ hs₆
    have F₆ := (F₄'.keeps kg₅).change hs₆ neL3 (gnone _ (by omega))
    have G₆ := G.keeps F₆.keep
    have Z3 : Z ≠ L + 1 + 1 + 1 := fun q => by obtain ⟨o, e, _⟩ := c3; rw [q, off14 _ _ neL3 ne32 e] at nZ; cases nZ
    have off46 : ∀ b o, b ≠ L + 1 + 1 + 1 → g₄.get? b = some o → g₆.get? b = some o := fun b o n3 e => hs₆.extBut _ _ n3 (kg₅ _ _ e)
    have off16 : ∀ b o, b ≠ L → b ≠ L + 1 + 1 → b ≠ L + 1 + 1 + 1 → g₁.get? b = some o → g₆.get? b = some o := fun b o n1 n2 n3 e => off46 _ _ n3 (off14 _ _ n1 n2 e)
    have lZ₆ := list_keep lZ fun o e => hs₆.extBut _ _ Z3 e
    have c1₆ := cell_keep c1 fun o e => off16 _ _ (Nat.ne_of_gt (by omega)) (Nat.ne_of_lt (by omega)) (Nat.ne_of_lt (by omega)) e
    have c2₆ := cell_keep c2₄ fun o e => off46 _ _ (Ne.symm ne32) e
    have hr₆ := off16 _ _ RL RR RZ hr
    have hin₆ := hin.mono (h' := g₆) fun b o hb e => by
      simp only [av, List.mem_cons, List.not_mem_nil, or_false, not_or] at hb
      exact off16 b o hb.1 hb.2.2.2.1 hb.2.2.2.2.1 e
    have eI₆ := off16 _ _ (Ne.symm IL) (Ne.symm IRm) (Ne.symm IZ) eI
    have lR₆ : g₆.IsList R (List.toArray refs) := ⟨_, hr₆, rfl, n0, rfl⟩
    obtain ⟨ak, us, ea, la, hus, _⟩ := hin₆.2 k (toI (aN x.cps.toList bx k)) (by simp)
    have hrl : refs.getLast? = some (.ref ak) := by
      rw [List.getLast?_eq_getElem?, hin₆.1]
      simpa using ea
    with_reducible refine wpAny_execs_cons ?_
    refine wpAny_Expr ?_
    refine MethodCall_ ?_
    refine nmC (c := s.heap.objs.size + 1) (by rfl) c1₆ ?_
    refine getMethod_list_append hr₆ rfl rfl ?_
    refine callWith_method1 ?_
    refine spliced_more ?_
    refine wpAny_with_toks (n := 1) (by dsimp only; omega) ?_
    refine compCell (pOf fun e => (aN x.cps.toList bx k).any fun b => decide (b ≤ e.toNat) && decide (pre i x.cps.toList e.toNat ≤ r + pre i x.cps.toList b)) (fun v y => y = v) (by rfl) (by rfl) (by decide) (by intro n; rfl) (by intro h; rfl) (by rfl) ?_
    refine Call_ ?_
    refine nmB (v := .type "range") G₆ (by kernel_rfl!) (by kernel_rfl!) (by decide) ?_
    refine PyProof.Rows.callWith_type1 ?_
    refine spliced_more ?_
    refine Call_ ?_
    refine nmB (v := .builtin "len") G₆ (by kernel_rfl!) (by kernel_rfl!) (by decide) ?_
    refine PyProof.Rows.callWith_builtin1 ?_
    refine spliced_more ?_
    refine nmC (c := s.heap.objs.size + 1 + 1 + 1) (by rfl) c3₆ ?_
    refine spliced_none ?_
    refine PyProof.Rows.len_list lZ₆ (by simp only [List.size_toArray, hzs.1]; omega) ?_
    refine spliced_none ?_
    refine call_range_1 ?_
    refine iterRange (n := x.length + 1) (IsRange.new _ _ _ _ _ _ _) hh (by omega) (by simp only [List.size_toArray, hzs.1]; omega) (by simp only [List.size_toArray, hzs.1]; omega) ?_
    intro I2 St2 g₇ kg₇ nI2 ltI2 W2 hSt2
    have K₆₇ : g₆.StaysIn g₇ := stays_trans (stays_push g₆ _) kg₇
    have neI2 : ∀ {a : Addr} {o : Obj}, g₆.get? a = some o → a ≠ I2 := fun e q => by subst q; rw [stays_push g₆ _ _ _ e] at nI2; cases nI2
    refine ⟨I2, [I2], x.length + 1, _, St2, rfl, Walks.bound W2, by rw [sizeLine_eq]; omega, hSt2, fun b hb => by rw [List.mem_singleton.mp hb]; exact ltI2, ⟨?_, ?_⟩, ?_⟩
    · rintro C c j v s₃ E3 hc ⟨hj, t, rfl⟩ hcell hkeep htk₃
      rw [zidx] at hcell ⊢
      have K₃ : ∀ b o, g₆.get? b = some o → s₃.heap.get? b = some o := fun b o e => hkeep b o (neI2 e) (K₆₇ _ _ e)
      have c1₃ := cell_keep c1₆ (K₃ _)
      have c2₃' := cell_keep c2₆ (K₃ _)
      have c3₃ := cell_keep c3₆ (K₃ _)
      have lR₃ := list_keep lR₆ (K₃ _)
      have lZ₃ := list_keep lZ₆ (K₃ _)
      have la₃ := list_keep la (K₃ _)
      refine wpAny_tests_one ?_
      refine wpAny_isTrue_Compare1 ?_
      refine wpAny_ListComp_free (pOf fun b => decide (b ≤ (j : Int)) && decide ((pre i x.cps.toList j : Int) - (pre i x.cps.toList b.toNat : Int) ≤ (r : Int))) (fun v y => y = v) (by rfl) (by decide) (by rfl) (by decide) (by rfl) ?_
      refine Subscript_ ?_
      refine nmC (c := s.heap.objs.size + 1) (by rfl) c1₃ ?_
      refine UnaryOp_ ?_
      refine wpAny_Constant_int ?_
      refine neg_int ?_
      refine itemNeg lR₃ hrl ?_
      refine iterList la₃ hh ?_
      intro I3 St3 q₁ kq₁ nI3 ltI3 hlI3 _ W3 hSt3
      have neI3 : ∀ {a : Addr} {o : Obj}, s₃.heap.get? a = some o → a ≠ I3 := fun e q => by subst q; rw [e] at nI3; cases nI3
      refine ⟨I3, _, [I3], us.length, _, St3, rfl, W3, ?_, hSt3, ?_, ⟨?_, ?_⟩, ?_⟩
      · have := IntsAre.length hus
        rw [this]
        exact fitA bx k hx
      · intro b hb
        rcases List.mem_cons.mp hb with e | hb
        · rw [e]; exact ltI3
        · rw [List.mem_singleton.mp hb]
          obtain ⟨o, e, _⟩ := la₃
          exact Heap.lt_size (kq₁ _ _ e)
      · rintro C4 j4 v4 s₄ m₄ E4 hC4 hP4 hn4 hm4 hk4 ht4
        have K₄ : ∀ b o, s₃.heap.get? b = some o → s₄.heap.get? b = some o := fun b o e => hk4 b o (by simpa using neI3 e) (kq₁ _ _ e)
        obtain ⟨nb, tb, el, rfl⟩ := ints_at hus _ _ hP4
        obtain ⟨b, hb, rfl⟩ : ∃ b ∈ aN x.cps.toList bx k, ((b : Nat) : Int) = nb := by
          simp only [toI] at el
          obtain ⟨b, h1, h2⟩ := List.mem_map.mp (List.mem_of_getElem? el)
          exact ⟨b, h1, h2⟩
        have hbl'' : b < x.length + 1 := ltA bx k b hb
        obtain ⟨tz1, ez1⟩ := hzs.2 j hj
        obtain ⟨tz2, ez2⟩ := hzs.2 b hbl''
        have c2₄' := cell_keep c2₃' (K₄ _)
        have c3₄ := cell_keep c3₃ (K₄ _)
        have ce₄ := cell_keep hcell (K₄ _)
        have lZ₄ := list_keep lZ₃ (K₄ _)
        refine wpAny_tests_one ?_
        refine isTrue_and ?_
        refine wpAny_isTrue_Compare1 ?_
        refine nmL hn4 hm4 ?_
        refine nmC (c := c) (by rfl) ce₄ ?_
        refine PyProof.Rows.le_int ?_
        refine wpAny_truthy_bool ?_
        by_cases h1 : ((b : Nat) : Int) ≤ (j : Int)
        · simp only [decide_eq_true h1, if_true]
          refine isTrue_and ?_
          refine wpAny_isTrue_Compare1 ?_
          with_reducible refine wpAny_BinOp ?_
          refine Subscript_ ?_
          refine nmC (c := s.heap.objs.size + 1 + 1 + 1) (by rfl) c3₄ ?_
          refine nmC (c := c) (by rfl) ce₄ ?_
          refine item_litK lZ₄ (Int.natCast_nonneg _) (intFit hj hx) (v := .int _ tz1) ez1 ?_
          refine Subscript_ ?_
          refine nmC (c := s.heap.objs.size + 1 + 1 + 1) (by rfl) c3₄ ?_
          refine nmL hn4 hm4 ?_
          refine item_litK lZ₄ (Int.natCast_nonneg _) (intFit hbl'' hx) (v := .int _ tz2) ez2 ?_
          refine PyProof.Rows.sub_int' ?_
          refine nmC (c := s.heap.objs.size + 1 + 1) (by rfl) c2₄' ?_
          refine PyProof.Rows.le_int ?_
          refine wpAny_truthy_bool ?_
          by_cases h2 : (pre i x.cps.toList j : Int) - (pre i x.cps.toList b : Int) ≤ (r : Int)
          · simp only [decide_eq_true h2, if_true]
            refine isTrue_and_nil ⟨?_, _, _, rfl, fun _ _ e => e⟩
            show true = (decide _ && decide _)
            rw [decide_eq_true h1, Bool.true_and]
            exact (decide_eq_true h2).symm
          · simp only [decide_eq_false h2, if_false, Bool.false_eq_true]
            refine ⟨?_, _, _, rfl, fun _ _ e => e⟩
            show false = (decide _ && decide _)
            rw [decide_eq_true h1, Bool.true_and]
            exact (decide_eq_false h2).symm
        · simp only [decide_eq_false h1, if_false, Bool.false_eq_true]
          refine ⟨?_, _, _, rfl, fun _ _ e => e⟩
          show false = (decide _ && decide _)
          rw [decide_eq_false h1, Bool.false_and]
      · rintro C4 j4 v4 s₄ m₄ E4 hC4 hP4 _ hn4 hm4 hk4 ht4
        refine nmL hn4 hm4 ?_
        exact ⟨rfl, _, _, rfl, fun _ _ e => e⟩
      · intro D4 q₂ tq₂ ys4 vs4 nD4 lD4 _ hvl4 hvP4 hpair4 hkeep4
        have e4 := paired_eq hpair4
        have e5 : vs4 = us := list_same hvl4 hvP4
        subst e5
        have i4 := ints_filter (fun b => decide (b ≤ (j : Int)) && decide ((pre i x.cps.toList j : Int) - (pre i x.cps.toList b.toNat : Int) ≤ (r : Int))) hus
        rw [← e4] at i4
        refine List_ ?_
        refine spliced_none ?_
        refine newListL (vs := []) ?_ (Nat.zero_le _)
        intro N q₃ kq₃ lN _ _
        refine ne_intsK (vs := ys4.toList) (list_keep (by simpa using lD4) (kq₃ _)) i4 lN .nil (unitsFit hunits) ?_
        refine wpAny_truthy_bool ⟨?_, _, _, rfl, fun b o e => kq₃ _ _ (hkeep4 b o (by simpa using neI3 e) (kq₁ _ _ e))⟩
        exact any_ints _ _ _ fun n => condA _ _ _ _ _
    · rintro C c j v s₃ E3 hc ⟨hj, t, rfl⟩ _ hcell hkeep htk₃
      refine nmC (c := c) (by rfl) hcell ?_
      exact ⟨rfl, _, _, rfl, fun _ _ e => e⟩
    · intro D g₈ tq₈ ys vs nD lD hvl hvP hpair hkeep htq₈
      have e4 := paired_eq hpair
      have iv : IntsAre vs (toI (List.range (x.length + 1))) := ints_of hvl fun j v hv => by
        obtain ⟨_, t, e⟩ := hvP j v hv
        rw [zidx] at e
        exact ⟨t, e⟩
      have i4 := ints_filter (fun e => (aN x.cps.toList bx k).any fun b => decide (b ≤ e.toNat) && decide (pre i x.cps.toList e.toNat ≤ r + pre i x.cps.toList b)) iv
      rw [← e4, stepA_ints, ← haN] at i4
      have K₈ : g₆.StaysIn g₈ := fun b o e => hkeep b o (neI2 e) (K₆₇ _ _ e)
      have neD : ∀ {a : Addr} {o : Obj}, g₆.get? a = some o → D ≠ a := fun e q => by subst q; rw [K₆₇ _ _ e] at nD; cases nD
      have gR : s.heap.get? R = none := by
        cases q : s.heap.get? R with
        | none => rfl
        | some o => rw [k₂ _ _ (F.keep _ _ q)] at nR; cases nR
      refine spliced_none ?_
      refine wpAny_list_append_plain ⟨n0, K₈ _ _ hr₆⟩ ?_ (by rw [List.size_toArray, hin.1, List.length_map, List.length_range]; exact fitK hlt hbl)
      rintro g₉ ⟨n1, pR⟩ hs₉
      refine wpAny_execs_nil ?_
      have DL : D ≠ L := by obtain ⟨o, _, _, e, _⟩ := F₆.ns; exact neD e
      have DI : D ≠ I := neD eI₆
      have DA : D ≠ L + 1 := by obtain ⟨o, e, _⟩ := c1₆; exact neD e
      have DRm : D ≠ L + 1 + 1 := by obtain ⟨o, e, _⟩ := c2₆; exact neD e
      have DZ : D ≠ L + 1 + 1 + 1 := by obtain ⟨o, e, _⟩ := c3₆; exact neD e
      have DR : D ≠ R := neD hr₆
      have off69 : ∀ b o, b ≠ R → g₆.get? b = some o → g₉.get? b = some o := fun b o nb e => hs₉.extBut _ _ nb (K₈ _ _ e)
      refine hQ _ _ _ htq₈ ((F₆.keeps K₈).change hs₉ RL gR) ⟨m1, cell_keep c1₆ fun o e => off69 _ _ (Ne.symm RA) e, ⟨_, cell_keep c2₆ fun o e => off69 _ _ (Ne.symm RR) e⟩, ⟨_, cell_keep c3₆ fun o e => off69 _ _ (Ne.symm RZ) e⟩, refs ++ [.ref D], n1, by simpa using pR, ?_⟩ ?_
      · rw [List.range_succ, List.map_append]
        refine Inner.snoc (hin₆.mono fun b o hb e => off69 b o (fun q => hb (by simp [av, q])) e) (vs := ys.toList) (list_keep (by simpa using lD) fun o e => hs₉.extBut _ _ DR e) i4 ?_
        simp only [av, List.mem_cons, List.not_mem_nil, or_false, not_or]
        exact ⟨DL, DI, DA, DRm, DZ, DR⟩
      · intro o e
        exact off69 _ _ (Ne.symm IR) (off16 _ _ (Ne.symm IL) (Ne.symm IRm) (Ne.symm IZ) e)
  · refine ⟨by rfl, cell_keep cA₄ fun o e => k₅ _ _ e, ⟨_, cell_keep cR₄ fun o e => k₅ _ _ e⟩, ⟨_, cell_keep cZ₄ fun o e => k₅ _ _ e⟩, _, _, k₅ _ _ hR₄, ⟨by simp, ?_⟩⟩
    intro j l e
    have : j = 0 := by
      have := (List.getElem?_eq_some_iff.mp e).1
      simp at this; omega
    subst this
    simp [aN, toI] at e
    subst e
    refine ⟨a0, _, rfl, list_keep la0₄ fun o e => k₅ _ _ e, .cons 0 _ .nil, ?_⟩
    simp only [av, L, List.mem_cons, List.not_mem_nil, or_false, not_or]
    exact ⟨a0L, Ia0, a0A, a0R, a0Z, a0RR⟩
  · rintro h₆ tk₆ m₆ htk₆ F₆ ⟨m1, c1, _, _, refs, n0, hr, hin⟩
    with_reducible refine wpAny_execs_cons ?_
    with_reducible refine wpAny_Return_some ?_
    refine nmC (c := s.heap.objs.size + 1) (by rfl) c1 ?_
    obtain ⟨as, hall⟩ := hin.reads
    have e : items.length = bx.length := hil
    rw [e] at hall
    exact h R h₆ tk₆ _ htk₆ F₆.keep (Reads.list hr rfl rfl (by simpa using hall))
end
end Mine

set_option Elab.async false
set_option maxRecDepth 100000
set_option maxHeartbeats 4000000
set_option linter.unusedVariables false
namespace Mine
open PySem PySem.W PySem.W.X PyProof.Rows PySem.Calls PySem.Spec

section
variable {prog : Program} {w : World} {A : Around} {E : Value → Shared → Prop} {s : Shared} {mg mb : Str → Option Value} {env : Env}

theorem sliceT {value slice : Expr} {l : Addr} {items : Array Value} {vl vu vk : Value} {lo hi st : Option Int} {ops : List Value} {Q : Value → Shared → Prop}
    (hl : s.heap.IsList l items) (pl : IsPart vl lo) (pu : IsPart vu hi) (pk : IsPart vk st) (h0 : st ≠ some 0) (hsz : items.size ≤ sizeLine)
    (h : ∀ D h', s.heap.StaysIn h' → s.heap.get? D = none → h'.get? D = some { cls := .type "list", data := .seq (slicePick items lo hi st) } → Q (.ref D) { s with heap := h' })
    (hs : subscripted slice false (.ref l) (.ref s.heap.objs.size) = operate ops (getItem (.ref l) (.ref s.heap.objs.size)) := by with_unfolding_all rfl) :
    wpAny (model prog w) A (subscriptTail value slice (.ref l) (.ref s.heap.objs.size)) Q E { s with heap := s.heap.push { cls := .type "slice", data := .fields #[vl, vu, vk] } } := by
  refine tail_any (Heap.IsList.typeIs (s := { s with heap := s.heap.push { cls := .type "slice", data := .fields #[vl, vu, vk] } }) (hl.push _)) list_getitem_lookup
    (wpAny_getItem_list_slice (hl.push _) (Heap.IsSliceOf.new ..) pl pu pk h0 ?_ hsz) hs
  refine h _ _ (stays_trans (stays_push _ _) (stays_push _ _)) ?_ (Heap.get?_push_size _ rfl)
  exact Heap.get?_none_of_le (by dsimp only; rw [Heap.size_push]; exact Nat.le_succ _)

theorem revL {value : Expr} {p1 p2 p3 pos : Pos} {Q : Value → Shared → Prop}
    (h : wpAny (model prog w) A (eval value env) (fun o s₁ => ∃ l vs, o = .ref l ∧ s₁.heap.IsList l (List.toArray vs) ∧ vs.length ≤ sizeLine ∧ ∀ D h' tk, s₁.toks ≤ tk → s₁.heap.StaysIn h' → s₁.heap.get? D = none → h'.get? D = some { cls := .type "list", data := .seq vs.reverse.toArray } → Q (.ref D) { s₁ with heap := h', toks := tk }) E s)
    (hs : ∀ l i, subscripted (.Slice none none (some (.UnaryOp .USub (.Constant (.int 1) 0 p1) p2)) p3) false (.ref l) (.ref i) = operate [.ref l, .ref i] (getItem (.ref l) (.ref i)) := by intro _ _; with_unfolding_all rfl)
    : wpAny (model prog w) A (eval (.Subscript value (.Slice none none (some (.UnaryOp .USub (.Constant (.int 1) 0 p1) p2)) p3) pos) env) Q E s := by
  refine Subscript_ (wpAny_mono h (fun o s₁ h₁ => ?_) fun _ _ e => e)
  obtain ⟨l, vs, rfl, hl, hz, hQ⟩ := h₁
  refine wpAny_Slice ?_
  refine wpAny_evalPart_none ?_
  refine wpAny_evalPart_none ?_
  refine wpAny_evalPart_some ?_
  refine UnaryOp_ ?_
  refine wpAny_Constant_int ?_
  refine neg_int ?_
  refine sliceT (s := { s₁ with toks := _ }) hl .none .none (.int _ _) (by decide) (by simpa using hz) ?_ (hs _ _)
  intro D h' k n e
  exact hQ D h' _ (by dsimp only; omega) k n (by rw [krv_pick] at e; simpa using e)

theorem methInsert {l : Addr} {o : Obj} {pl : Sem Bool} {Q : Value × List Value → Shared → Prop} (ho : s.heap.get? l = some o) (hc : o.cls = .type "list") (hd : o.dict = none)
    (h : Q (.builtin "list.insert", [.ref l]) s) : wpAny (model prog w) A (getMethod (.ref l) "insert" pl) Q E s :=
  getMethod_builtin ⟨_, ho, hc⟩ PySem.F.plainAttrs_list PySem.F.slot_list_insert PySem.F.type_list_insert (fun a e => by cases e; exact ⟨_, ho, hd⟩) h

theorem updL {h : Heap} {l : Addr} {items its' : Array Value} {n : Nat} (x : h.get? l = some { cls := .type "list", data := .seq items n }) (f : Array Value → Array Value) (he : f items = its') (hs : its'.size ≠ items.size) :
    (h.update l (Obj.mapSeq f)).get? l = some { cls := .type "list", data := .seq its' (n + 1) } := by
  have q := PySem.IsL.update (h := h) x f
  rw [he, if_neg (by simpa using hs)] at q
  exact q

theorem insertFront {D : Addr} {li : List Value} {n : Nat} {u : Tok} {y : Value} {Q : Value → Shared → Prop} (ho : s.heap.get? D = some { cls := .type "list", data := .seq li.toArray n }) (hz : li.length ≤ sizeLine)
    (h : ∀ h', h'.get? D = some { cls := .type "list", data := .seq (y :: li).toArray (n + 1) } → Heap.SameBut D s.heap h' → Q .none { s with heap := h' }) :
    wpAny (model prog w) A (call (.builtin "list.insert") [.ref D, .int 0 u, y]) Q E s := by
  refine call_meets PySem.F.slot_list_insert ⟨_, ho, rfl⟩ PySem.F.entry_list_insert (PySem.F.args_list_insert_3 _ _ _) (PySem.AutoSeq1.list_insert_list_int_val_1 D _ n 0 u y (by decide) (by rw [List.size_toArray]; exact hz)) ⟨ho, ?_⟩
  refine h _ ?_ (Heap.SameBut.update ..)
  refine updL ho _ ?_ (by simp)
  show (li.toArray.extract 0 (min 0 li.toArray.size)).push y ++ li.toArray.extract (min 0 li.toArray.size) = _
  rw [Nat.zero_min, kl_ins_eq]
  simp

theorem forX {R : Result → Shared → Prop} {target : Expr} {body : List Stmt} {I : Addr} {fp : List Addr} {n : Nat} {P : Nat → Value → Prop} {St : Nat → Heap → Prop} {g : Heap} {L : Addr} {m : Str → Option Value}
    (W : Walks prog w A I fp [I] n P St) (hI : g.get? I = none) (hIL : L ≠ I) (Lv : Heap → Prop) (hlv : ∀ i h, St i h → Lv h)
    (J : Nat → Heap → (Str → Option Value) → Prop)
    (hJ : ∀ i h h' m, J i h m → (∀ b o, b ≠ I → b ≠ L → h.get? b = some o → h'.get? b = some o) → J i h' m)
    (hgo : ∀ i v h tk (Q' : Unit → Shared → Prop) (E' : Value → Shared → Prop), P i v → St (i + 1) h → Q' () { s with heap := h, toks := tk } → wpAny (model prog w) A (letOwnedTupleGo target (.ref I) v) Q' E' { s with heap := h, toks := tk })
    (step : ∀ i v h₁ tk₁ m₁ (Q' : Flow → Shared → Prop) (E' : Value → Shared → Prop), i < n → P i v → 1 ≤ tk₁ → Fr g L h₁ m₁ → J i h₁ m₁ → Lv h₁ →
      (∀ h₂ tk₂ m₂, 1 ≤ tk₂ → Fr g L h₂ m₂ → J (i + 1) h₂ m₂ → (∀ b ∈ fp, ∀ o, h₁.get? b = some o → h₂.get? b = some o) → Q' .next { s with heap := h₂, toks := tk₂ }) →
      wpAny (model prog w) A (assign target env v) (fun _ s₂ => wpAny (model prog w) A (execs body env) Q' E' s₂) E' { s with heap := h₁, toks := tk₁ })
    (hst : St 0 s.heap) (F : Fr g L s.heap m) (h0 : J 0 s.heap m) (htk : 1 ≤ s.toks)
    (hR : ∀ h' tk' m', 1 ≤ tk' → Fr g L h' m' → J n h' m' → R (.ok .next) { s with heap := h', toks := tk' }) :
    codeAny (model prog w) A (.forLoop target (.ref I) body [] env) R s := by
  refine codeAny_forLoop_any (fun k s' => ∃ h' tk m' i, s' = { s with heap := h', toks := tk } ∧ 1 ≤ tk ∧ i ≤ n ∧ k = n + 1 - i ∧ St i h' ∧ Fr g L h' m' ∧ J i h' m') ?_ (n + 1) ⟨s.heap, s.toks, m, 0, rfl, htk, Nat.zero_le _, rfl, hst, F, h0⟩
  rintro k s' ⟨h', tk, m', i, rfl, htk', hi, rfl, hst', F', hJ'⟩
  by_cases hlt : i < n
  · refine wpAny_with_toks (n := 1) htk' (W.item i _ _ _ hlt hst' fun v h₁ tk₁ hP hst₁ hk₁ htk₁ => ?_)
    refine hgo i v h₁ tk₁ _ _ hP hst₁ ?_
    have F₁ : Fr g L h₁ m' := LCg.fr_but F' hk₁ hIL hI
    have hJ₁ := hJ i _ _ _ hJ' fun b o hb _ e => hk₁ b o (by simpa using hb) e
    refine step i v h₁ tk₁ m' _ _ hlt hP htk₁ F₁ hJ₁ (hlv _ _ hst₁) ?_
    intro h₂ tk₂ m₂ htk₂ F₂ hJ₂ hkI
    refine ⟨n + 1 - (i + 1), by omega, h₂, tk₂, m₂, i + 1, rfl, htk₂, hlt, rfl, ?_, F₂, hJ₂⟩
    exact W.frame _ _ _ hst₁ fun b hb o e => hkI b hb o e
  · have hin : i = n := by omega
    subst hin
    refine wpAny_with_toks (n := 1) htk' (W.done _ _ _ hst' fun h₁ tk₁ hk₁ htk₁ => ?_)
    refine wpAny_execs_nil ?_
    exact hR h₁ tk₁ m' htk₁ (LCg.fr_but F' hk₁ hIL hI) (hJ i _ _ _ hJ' fun b o hb _ e => hk₁ b o (by simpa using hb) e)
end

/-! ### the plain side of behind -/
def bN (T : List Nat) (rb : List (Nat × Nat)) : Nat → List Nat
  | 0 => [T.length]
  | k + 1 => match rb[k]? with
    | some (i, r) => stepB i r T (bN T rb k)
    | none => []
theorem bN_le (T : List Nat) (bx : List (Nat × Nat)) : ∀ (k : Nat), ∀ b ∈ bN T bx k, b ≤ T.length
  | 0, b, hb => by simp [bN] at hb; omega
  | k + 1, b, hb => by
    unfold bN at hb
    split at hb
    · unfold stepB at hb
      have := List.mem_range.mp (List.mem_filter.mp hb).1
      omega
    · cases hb
theorem bN_length (T : List Nat) (bx : List (Nat × Nat)) : ∀ (k : Nat), (bN T bx k).length ≤ T.length + 1
  | 0 => by simp [bN]
  | k + 1 => by
    unfold bN
    split
    · unfold stepB
      exact Nat.le_trans (List.length_filter_le _ _) (by simp)
    · simp
theorem stepB_ints (i r : Nat) (x : Str) (A : List Nat) : (toI (List.range (x.length + 1))).filter (fun b => A.any fun e => decide (b.toNat ≤ e) && decide (pre i x.cps.toList e ≤ r + pre i x.cps.toList b.toNat)) = toI (stepB i r x.cps.toList A) := by
  have h2 : x.cps.toList.length = x.length := by simp [Str.length]
  unfold stepB
  rw [h2]
  exact filter_ints _ _ _ fun n _ => by rw [Int.toNat_natCast]
theorem fitB {x : Str} (bx : List (Nat × Nat)) (k : Nat) (hx : x.length ≤ 8) : (toI (bN x.cps.toList bx k)).length ≤ sizeLine := by
  have h1 := bN_length x.cps.toList bx k
  have h2 : x.cps.toList.length = x.length := by simp [Str.length]
  rw [toI, List.length_map, sizeLine_eq]
  omega
theorem ltB {x : Str} (bx : List (Nat × Nat)) (k b : Nat) (hb : b ∈ bN x.cps.toList bx k) : b < x.length + 1 := by
  have h1 := bN_le x.cps.toList bx k b hb
  have h2 : x.cps.toList.length = x.length := by simp [Str.length]
  omega
theorem condB (i r : Nat) (T : List Nat) (j n : Nat) : (decide ((j : Int) ≤ (n : Int)) && decide ((pre i T (n : Int).toNat : Int) - (pre i T j : Int) ≤ (r : Int))) = (decide ((j : Int).toNat ≤ n) && decide (pre i T n ≤ r + pre i T (j : Int).toNat)) := by
  rw [Int.toNat_natCast, Int.toNat_natCast]
  congr 1
  · exact decide_eq_decide.mpr (by omega)
  · exact decide_eq_decide.mpr (by omega)
theorem rev_boxes {h : Heap} {items : List Value} {bx : List (Nat × Nat)} (hil : items.length = bx.length)
    (hit : ∀ (k i r : Nat), bx[k]? = some (i, r) → ∃ (b : Addr) (tw tr : Tok), items[k]? = some (Value.ref b) ∧ h.IsList b #[Value.int i tw, Value.int r tr]) :
    ∀ (k i r : Nat), bx.reverse[k]? = some (i, r) → ∃ (b : Addr) (tw tr : Tok), items.reverse[k]? = some (Value.ref b) ∧ h.IsList b #[Value.int i tw, Value.int r tr] := by
  intro k i r e
  have hk : k < bx.length := by
    have := (List.getElem?_eq_some_iff.mp e).1
    simpa using this
  rw [List.getElem?_reverse hk] at e
  obtain ⟨b, tw, tr, h1, h2⟩ := hit _ _ _ e
  refine ⟨b, tw, tr, ?_, h2⟩
  rw [List.getElem?_reverse (by omega), hil]
  exact h1
end Mine

set_option Elab.async false
set_option maxRecDepth 100000
set_option maxHeartbeats 4000000
set_option linter.unusedVariables false
namespace Mine
open PySem PySem.W PySem.W.X PyProof.Rows PySem.Calls PySem.Spec
theorem revHead {α : Type} (f : Nat → α) (k : Nat) : (((List.range (k + 1)).map f).reverse)[0]? = some (f k) := by
  rw [List.range_succ, List.map_append, List.reverse_append]; rfl
section
variable {prog : Program} {w : World} {A : Around} {E : Value → Shared → Prop} {s : Shared} {mg mb : Str → Option Value} {env : Env}

theorem behind_call {x : Str} {bx : List (Nat × Nat)} {B : Addr} {t2 : Tok} {Q : Value → Shared → Prop} (hbx : ∀ (k i r : Nat), bx[k]? = some (i, r) → i < 5) (hbl : bx.length ≤ 8) (G : Gr w mg mb s.heap) (hroom : A.depth < 600) (hunits : A.units < 5000) (hh : A.handled = none) (htk : 1 ≤ s.toks) (hx : x.length ≤ 8)
    (hB : Boxes s.heap B bx)
    (h : ∀ R h' tk' as, 1 ≤ tk' → s.heap.StaysIn h' → Reads h' (.ref R) (.list (dataLL ((List.range (bx.length + 1)).map fun k => toI (bN x.cps.toList bx.reverse k)).reverse)) as → Q (.ref R) { s with heap := h', toks := tk' }) :
    wpAny (model prog w) A (call (.ref 115) [.str x t2, .ref B]) Q E s := by
  refine enterC (binds := [("text", .str x t2), ("boxes", .ref B)]) G (by rfl) (by kernel_rfl!) (Nat.lt_trans hroom (by decide)) htk (BindsTo.of_eq (by rfl)) (by rfl) (by rfl) (by rfl) (by rfl) ?_
  intro h₁ tk₁ htk₁ F C
  have cA := C "behind" (s.heap.objs.size + 1) (by rfl)
  have cR := C "room" (s.heap.objs.size + 1 + 1) (by rfl)
  have cZ := C "sizes" (s.heap.objs.size + 1 + 1 + 1) (by rfl)
  replace cA : h₁.IsCell (s.heap.objs.size + 1) none := cA
  replace cR : h₁.IsCell (s.heap.objs.size + 1 + 1) none := cR
  replace cZ : h₁.IsCell (s.heap.objs.size + 1 + 1 + 1) none := cZ
  clear C
  have G₁ := G.keeps F.keep
  with_reducible refine wpAny_execs_cons ?_
  refine wpAny_Assign_Name ?_
  refine List_ ?_
  refine spliced_more ?_
  refine List_ ?_
  refine spliced_more ?_
  refine Call_ ?_
  refine nmB (v := .builtin "len") G₁ (by kernel_rfl!) (by kernel_rfl!) (by decide) ?_
  refine PyProof.Rows.callWith_builtin1 ?_
  refine spliced_more ?_
  refine nmL F.ns (by rfl) ?_
  refine spliced_none ?_
  refine PyProof.Rows.len_str (by omega) ?_
  refine spliced_none ?_
  refine newListL ?_
  intro a0 h₂ k₂ la0 na0 _
  refine spliced_none ?_
  refine newListL ?_
  intro R h₃ k₃ lR nR hR
  have k₁₃ : h₁.StaysIn h₃ := stays_trans k₂ k₃
  have cA₃ : h₃.IsCell (s.heap.objs.size + 1) none := by obtain ⟨o, e, d⟩ := cA; exact ⟨o, k₁₃ _ _ e, d⟩
  refine storeCell cA₃ ?_
  intro h₄ cA₄ hs₄
  have lt1 : s.heap.objs.size < s.heap.objs.size + 1 := Nat.lt_succ_self _
  have gnone : ∀ c, s.heap.objs.size ≤ c → s.heap.get? c = none := fun c hc => Heap.get?_none_of_le hc
  have F₄ : Fr s.heap s.heap.objs.size h₄ _ := (F.keeps k₁₃).change hs₄ (Nat.ne_of_gt lt1) (gnone _ (Nat.le_succ _))
  have neR : ∀ {c : Addr} {o : Obj}, h₁.get? c = some o → R ≠ c := fun e q => by subst q; rw [k₂ _ _ e] at nR; cases nR
  have nea0 : ∀ {c : Addr} {o : Obj}, h₁.get? c = some o → a0 ≠ c := fun e q => by subst q; rw [e] at na0; cases na0
  obtain ⟨oL, _, _, eL, _⟩ := F.ns
  obtain ⟨oA, eA, dA⟩ := cA
  obtain ⟨oR, eR, dR⟩ := cR
  obtain ⟨oZ, eZ, dZ⟩ := cZ
  have RL := neR eL
  have RA := neR eA
  have RR := neR eR
  have RZ := neR eZ
  have a0L := nea0 eL
  have a0A := nea0 eA
  have a0R := nea0 eR
  have a0Z := nea0 eZ
  have a0RR : a0 ≠ R := fun q => by obtain ⟨o, e, _⟩ := la0; rw [q, nR] at e; cases e
  have hR₄ := hs₄.extBut _ _ RA hR
  have la0₄ := list_keep la0 fun o e => hs₄.extBut _ _ a0A (k₃ _ _ e)
  have cR₄ : h₄.IsCell (s.heap.objs.size + 1 + 1) none := ⟨oR, hs₄.extBut _ _ (Nat.ne_of_gt (Nat.lt_succ_self _)) (k₁₃ _ _ eR), dR⟩
  have cZ₄ : h₄.IsCell (s.heap.objs.size + 1 + 1 + 1) none := ⟨oZ, hs₄.extBut _ _ (Nat.ne_of_gt (Nat.lt_trans (Nat.lt_succ_self _) (Nat.lt_succ_self _))) (k₁₃ _ _ eZ), dZ⟩
  have hB' := hB
  obtain ⟨items, lB, hil, hit⟩ := hB'
  with_reducible refine wpAny_execs_cons ?_
  refine wpAny_For ?_
  refine revL ?_
  refine nmL F₄.ns (by rfl) ?_
  refine ⟨B, items, rfl, stays_list F₄.keep lB, by rw [hil, sizeLine_eq]; omega, ?_⟩
  intro V h₄' tkV htkV kV nV eV
  have lV : h₄'.IsList V items.reverse.toArray := ⟨_, eV, rfl, 0, rfl⟩
  have neV : ∀ {c : Addr} {o : Obj}, h₄.get? c = some o → V ≠ c := fun e q => by subst q; rw [e] at nV; cases nV
  refine iterList lV hh ?_
  intro I St h₅ k₅' nI' ltI hBI hSt W hSt0
  have k₅ : h₄.StaysIn h₅ := stays_trans kV k₅'
  have nI : h₄.get? I = none := by
    cases q : h₄.get? I with
    | none => rfl
    | some o => rw [kV _ _ q] at nI'; cases nI'
  have VL : V ≠ s.heap.objs.size := by obtain ⟨o, _, _, e, _⟩ := F₄.ns; exact neV e
  have VA : V ≠ s.heap.objs.size + 1 := by obtain ⟨o, e, _⟩ := cA₄; exact neV e
  have VRm : V ≠ s.heap.objs.size + 1 + 1 := by obtain ⟨o, e, _⟩ := cR₄; exact neV e
  have VZ : V ≠ s.heap.objs.size + 1 + 1 + 1 := by obtain ⟨o, e, _⟩ := cZ₄; exact neV e
  have VR : V ≠ R := neV hR₄
  have hit := rev_boxes hil hit
  have hil : items.reverse.length = bx.reverse.length := by rw [List.length_reverse, List.length_reverse, hil]
  have neI : ∀ {c : Addr} {o : Obj}, h₄.get? c = some o → c ≠ I := fun e q => by subst q; rw [e] at nI; cases nI
  obtain ⟨oL4, _, _, eL4, _⟩ := F₄.ns
  have IL := neI eL4
  have IA : s.heap.objs.size + 1 ≠ I := by obtain ⟨o, e, _⟩ := cA₄; exact neI e
  have IRm : s.heap.objs.size + 1 + 1 ≠ I := by obtain ⟨o, e, _⟩ := cR₄; exact neI e
  have IZ : s.heap.objs.size + 1 + 1 + 1 ≠ I := by obtain ⟨o, e, _⟩ := cZ₄; exact neI e
  have IR : R ≠ I := neI hR₄
  have Ia0 : a0 ≠ I := by obtain ⟨o, e, _⟩ := la0₄; exact neI e
  have gI : s.heap.get? I = none := by
    cases q : s.heap.get? I with
    | none => rfl
    | some o => rw [F₄.keep _ _ q] at nI; cases nI
  obtain ⟨oB, eB, _⟩ := lB
  let L := s.heap.objs.size
  let av := [L, I, L + 1, L + 1 + 1, L + 1 + 1 + 1, R]
  refine forX (g := s.heap) (L := s.heap.objs.size) W gI IL (fun h => ∃ o, h.get? I = some o) (fun i h st => by obtain ⟨o, e, _⟩ := hSt i h st; exact ⟨o, e⟩)
    (fun k h m => m "text" = some (.str x t2) ∧ h.IsCell (L + 1) (some (.ref R)) ∧ (∃ v, h.IsCell (L + 1 + 1) v) ∧ (∃ v, h.IsCell (L + 1 + 1 + 1) v) ∧
      ∃ refs n0, h.get? R = some { cls := .type "list", data := .seq (List.toArray refs) n0 } ∧ Inner h av refs ((List.range (k + 1)).map fun k => toI (bN x.cps.toList bx.reverse k)).reverse)
    ?_ (fun i v h tk Q' E' hP st hq => ?_) ?_ hSt0 (F₄.keeps k₅) ?_ (by dsimp only at *; omega) ?_
  · rintro k h h' m ⟨m1, c1, ⟨v2, c2⟩, ⟨v3, c3⟩, refs, n0, hr, hin⟩ hk
    refine ⟨m1, cell_keep c1 fun o e => hk _ _ IA (Nat.ne_of_gt (by omega)) e, ⟨v2, cell_keep c2 fun o e => hk _ _ IRm (Nat.ne_of_gt (by omega)) e⟩, ⟨v3, cell_keep c3 fun o e => hk _ _ IZ (Nat.ne_of_gt (by omega)) e⟩, refs, n0, hk _ _ IR RL hr, hin.mono fun b o hb e => hk b o ?_ ?_ e⟩
    · exact fun q => hb (by simp [av, q])
    · exact fun q => hb (by simp [av, L, q])
  · have hlt : i < bx.reverse.length := by rw [← hil]; exact (List.getElem?_eq_some_iff.mp hP).1
    obtain ⟨b, tw, tr, e1, _⟩ := hit i bx.reverse[i].1 bx.reverse[i].2 (List.getElem?_eq_getElem hlt)
    rw [e1] at hP
    cases hP
    exact wpAny_letOwnedTupleGo_listiter (hSt _ _ st) hq
  · rintro k v g₁ tq₁ m₁ Q' E' hk hP htq₁ F₁ ⟨m1, c1, ⟨v2, c2⟩, ⟨v3, c3⟩, refs, n0, hr, hin⟩ ⟨oI, eI⟩ hQ
    have hlt : k < bx.reverse.length := by rw [← hil]; exact hk
    obtain ⟨b, tw, tr, e1, lb⟩ := hit k bx.reverse[k].1 bx.reverse[k].2 (List.getElem?_eq_getElem hlt)
    rw [e1] at hP
    cases hP
    have hi5 : bx.reverse[k].1 < 5 := by
      obtain ⟨k', e'⟩ := List.getElem?_of_mem (List.mem_reverse.mp (List.getElem_mem hlt))
      exact hbx k' bx.reverse[k].1 bx.reverse[k].2 e'
    have haN : bN x.cps.toList bx.reverse (k + 1) = stepB bx.reverse[k].1 bx.reverse[k].2 x.cps.toList (bN x.cps.toList bx.reverse k) := by
      show (match bx.reverse[k]? with | some (i, r) => stepB i r x.cps.toList (bN x.cps.toList bx.reverse k) | none => []) = _
      rw [List.getElem?_eq_getElem hlt]
    generalize bx.reverse[k].1 = i at lb hi5 haN
    generalize bx.reverse[k].2 = r at lb haN
    refine assignPair hh (stays_list F₁.keep lb) ?_
    intro g₂ kg₂
    refine wpAny_assign_Name ?_
    refine wpAny_storeName_local (by rfl) (F₁.keeps kg₂).ns (fun g₃ hn₃ hs₃ => ?_) (by rfl)
    have F₃ := (F₁.keeps kg₂).set hn₃ hs₃
    refine wpAny_assign_Name ?_
    have neL2 : L + 1 + 1 ≠ L := Nat.ne_of_gt (by omega)
    have c2₃ := cell_keep c2 fun o e => hs₃.extBut _ _ neL2 (kg₂ _ _ e)
    refine storeCell c2₃ ?_
    intro g₄ c2₄ hs₄'
    have F₄' := F₃.change hs₄' neL2 (gnone _ (by omega))
    have off14 : ∀ b o, b ≠ L → b ≠ L + 1 + 1 → g₁.get? b = some o → g₄.get? b = some o := fun b o n1 n2 e => hs₄'.extBut _ _ n2 (hs₃.extBut _ _ n1 (kg₂ _ _ e))
    have G₄ := G.keeps F₄'.keep
    with_reducible refine wpAny_execs_cons ?_
    refine wpAny_Assign_Name ?_
    refine Call_ ?_
    refine nmG (v := .ref 105) G₄ (by kernel_rfl!) ?_
    refine callWith_K G₄.X (by kernel_rfl!) ?_
    refine spliced_more ?_
    refine nmL F₄'.ns (by rfl) ?_
    refine spliced_more ?_
    refine nmL F₄'.ns m1 ?_
    refine spliced_none ⟨G₄.X, ?_⟩
    refine sizes_call hi5 G₄ (by show A.depth + 1 < 900; omega) hh (by dsimp only; omega) hx ?_
    intro Z zs g₅ tq₅ htq₅ kg₅ nZ lZ hzs
    have neL3 : L + 1 + 1 + 1 ≠ L := Nat.ne_of_gt (by omega)
    have ne32 : L + 1 + 1 + 1 ≠ L + 1 + 1 := Nat.ne_of_gt (by omega)
    have c3₅ := cell_keep c3 fun o e => kg₅ _ _ (off14 _ _ neL3 ne32 e)
    refine storeCell c3₅ ?_
    intro g₆ c3₆ hs₆
    have F₆ := (F₄'.keeps kg₅).change hs₆ neL3 (gnone _ (by omega))
    have G₆ := G.keeps F₆.keep
    have Z3 : Z ≠ L + 1 + 1 + 1 := fun q => by obtain ⟨o, e, _⟩ := c3; rw [q, off14 _ _ neL3 ne32 e] at nZ; cases nZ
    have off46 : ∀ b o, b ≠ L + 1 + 1 + 1 → g₄.get? b = some o → g₆.get? b = some o := fun b o n3 e => hs₆.extBut _ _ n3 (kg₅ _ _ e)
    have off16 : ∀ b o, b ≠ L → b ≠ L + 1 + 1 → b ≠ L + 1 + 1 + 1 → g₁.get? b = some o → g₆.get? b = some o := fun b o n1 n2 n3 e => off46 _ _ n3 (off14 _ _ n1 n2 e)
    have lZ₆ := list_keep lZ fun o e => hs₆.extBut _ _ Z3 e
    have c1₆ := cell_keep c1 fun o e => off16 _ _ (Nat.ne_of_gt (by omega)) (Nat.ne_of_lt (by omega)) (Nat.ne_of_lt (by omega)) e
    have c2₆ := cell_keep c2₄ fun o e => off46 _ _ (Ne.symm ne32) e
    have hr₆ := off16 _ _ RL RR RZ hr
    have hin₆ := hin.mono (h' := g₆) fun b o hb e => by
      simp only [av, List.mem_cons, List.not_mem_nil, or_false, not_or] at hb
      exact off16 b o hb.1 hb.2.2.2.1 hb.2.2.2.2.1 e
    have eI₆ := off16 _ _ (Ne.symm IL) (Ne.symm IRm) (Ne.symm IZ) eI
    have lR₆ : g₆.IsList R (List.toArray refs) := ⟨_, hr₆, rfl, n0, rfl⟩
    have hx0 := hin₆.2 0 (toI (bN x.cps.toList bx.reverse k)) (revHead _ k)
    obtain ⟨ak, us, ea, la, hus, hno⟩ := hx0
    clear hno
    with_reducible refine wpAny_execs_cons ?_
    refine wpAny_Expr ?_
    refine MethodCall_ ?_
    refine nmC (c := s.heap.objs.size + 1) (by rfl) c1₆ ?_
    refine methInsert hr₆ rfl rfl ?_
    refine callWith_method1 ?_
    refine spliced_more ?_
    refine wpAny_Constant_int ?_
    refine spliced_more ?_
    refine wpAny_with_toks (n := 1) (by dsimp only; omega) ?_
    refine compCell (pOf fun b => (bN x.cps.toList bx.reverse k).any fun e => decide (b.toNat ≤ e) && decide (pre i x.cps.toList e ≤ r + pre i x.cps.toList b.toNat)) (fun v y => y = v) (by rfl) (by rfl) (by decide) (by intro n; rfl) (by intro h; rfl) (by rfl) ?_
    refine Call_ ?_
    refine nmB (v := .type "range") G₆ (by kernel_rfl!) (by kernel_rfl!) (by decide) ?_
    refine PyProof.Rows.callWith_type1 ?_
    refine spliced_more ?_
    refine Call_ ?_
    refine nmB (v := .builtin "len") G₆ (by kernel_rfl!) (by kernel_rfl!) (by decide) ?_
    refine PyProof.Rows.callWith_builtin1 ?_
    refine spliced_more ?_
    refine nmC (c := s.heap.objs.size + 1 + 1 + 1) (by rfl) c3₆ ?_
    refine spliced_none ?_
    refine PyProof.Rows.len_list lZ₆ (by simp only [List.size_toArray, hzs.1]; omega) ?_
    refine spliced_none ?_
    refine call_range_1 ?_
    refine iterRange (n := x.length + 1) (IsRange.new _ _ _ _ _ _ _) hh (by omega) (by simp only [List.size_toArray, hzs.1]; omega) (by simp only [List.size_toArray, hzs.1]; omega) ?_
    intro I2 St2 g₇ kg₇ nI2 ltI2 W2 hSt2
    have K₆₇ : g₆.StaysIn g₇ := stays_trans (stays_push g₆ _) kg₇
    have neI2 : ∀ {a : Addr} {o : Obj}, g₆.get? a = some o → a ≠ I2 := fun e q => by subst q; rw [stays_push g₆ _ _ _ e] at nI2; cases nI2
    refine ⟨I2, [I2], x.length + 1, _, St2, rfl, Walks.bound W2, by rw [sizeLine_eq]; omega, hSt2, fun b hb => by rw [List.mem_singleton.mp hb]; exact ltI2, ⟨?_, ?_⟩, ?_⟩
    · rintro C c j v s₃ E3 hc ⟨hj, t, rfl⟩ hcell hkeep htk₃
      rw [zidx] at hcell ⊢
      have K₃ : ∀ b o, g₆.get? b = some o → s₃.heap.get? b = some o := fun b o e => hkeep b o (neI2 e) (K₆₇ _ _ e)
      have c1₃ := cell_keep c1₆ (K₃ _)
      have c2₃' := cell_keep c2₆ (K₃ _)
      have c3₃ := cell_keep c3₆ (K₃ _)
      have lR₃ := list_keep lR₆ (K₃ _)
      have lZ₃ := list_keep lZ₆ (K₃ _)
      have la₃ := list_keep la (K₃ _)
      refine wpAny_tests_one ?_
      refine wpAny_isTrue_Compare1 ?_
      refine wpAny_ListComp_free (pOf fun e => decide ((j : Int) ≤ e) && decide ((pre i x.cps.toList e.toNat : Int) - (pre i x.cps.toList j : Int) ≤ (r : Int))) (fun v y => y = v) (by rfl) (by decide) (by rfl) (by decide) (by rfl) ?_
      refine Subscript_ ?_
      refine nmC (c := s.heap.objs.size + 1) (by rfl) c1₃ ?_
      refine wpAny_Constant_int ?_
      refine item_litK lR₃ (by decide) (by decide) ea ?_
      refine iterList la₃ hh ?_
      intro I3 St3 q₁ kq₁ nI3 ltI3 hlI3 _ W3 hSt3
      have neI3 : ∀ {a : Addr} {o : Obj}, s₃.heap.get? a = some o → a ≠ I3 := fun e q => by subst q; rw [e] at nI3; cases nI3
      refine ⟨I3, _, [I3], us.length, _, St3, rfl, W3, ?_, hSt3, ?_, ⟨?_, ?_⟩, ?_⟩
      · have := IntsAre.length hus
        rw [this]
        exact fitB bx.reverse k hx
      · intro b hb
        rcases List.mem_cons.mp hb with e | hb
        · rw [e]; exact ltI3
        · rw [List.mem_singleton.mp hb]
          obtain ⟨o, e, _⟩ := la₃
          exact Heap.lt_size (kq₁ _ _ e)
      · rintro C4 j4 v4 s₄ m₄ E4 hC4 hP4 hn4 hm4 hk4 ht4
        have K₄ : ∀ b o, s₃.heap.get? b = some o → s₄.heap.get? b = some o := fun b o e => hk4 b o (by simpa using neI3 e) (kq₁ _ _ e)
        obtain ⟨nb, tb, el, rfl⟩ := ints_at hus _ _ hP4
        obtain ⟨b, hb, rfl⟩ : ∃ b ∈ bN x.cps.toList bx.reverse k, ((b : Nat) : Int) = nb := by
          simp only [toI] at el
          obtain ⟨b, h1, h2⟩ := List.mem_map.mp (List.mem_of_getElem? el)
          exact ⟨b, h1, h2⟩
        have hbl'' : b < x.length + 1 := ltB bx.reverse k b hb
        obtain ⟨tz1, ez1⟩ := hzs.2 j hj
        obtain ⟨tz2, ez2⟩ := hzs.2 b hbl''
        have c2₄' := cell_keep c2₃' (K₄ _)
        have c3₄ := cell_keep c3₃ (K₄ _)
        have ce₄ := cell_keep hcell (K₄ _)
        have lZ₄ := list_keep lZ₃ (K₄ _)
        refine wpAny_tests_one ?_
        refine isTrue_and ?_
        refine wpAny_isTrue_Compare1 ?_
        refine nmC (c := c) (by rfl) ce₄ ?_
        refine nmL hn4 hm4 ?_
        refine PyProof.Rows.le_int ?_
        refine wpAny_truthy_bool ?_
        by_cases h1 : (j : Int) ≤ ((b : Nat) : Int)
        · simp only [decide_eq_true h1, if_true]
          refine isTrue_and ?_
          refine wpAny_isTrue_Compare1 ?_
          with_reducible refine wpAny_BinOp ?_
          refine Subscript_ ?_
          refine nmC (c := s.heap.objs.size + 1 + 1 + 1) (by rfl) c3₄ ?_
          refine nmL hn4 hm4 ?_
          refine item_litK lZ₄ (Int.natCast_nonneg _) (intFit hbl'' hx) (v := .int _ tz2) ez2 ?_
          refine Subscript_ ?_
          refine nmC (c := s.heap.objs.size + 1 + 1 + 1) (by rfl) c3₄ ?_
          refine nmC (c := c) (by rfl) ce₄ ?_
          refine item_litK lZ₄ (Int.natCast_nonneg _) (intFit hj hx) (v := .int _ tz1) ez1 ?_
          refine PyProof.Rows.sub_int' ?_
          refine nmC (c := s.heap.objs.size + 1 + 1) (by rfl) c2₄' ?_
          refine PyProof.Rows.le_int ?_
          refine wpAny_truthy_bool ?_
          by_cases h2 : (pre i x.cps.toList b : Int) - (pre i x.cps.toList j : Int) ≤ (r : Int)
          · simp only [decide_eq_true h2, if_true]
            refine isTrue_and_nil ⟨?_, _, _, rfl, fun _ _ e => e⟩
            show true = (decide _ && decide _)
            rw [decide_eq_true h1, Bool.true_and]
            exact (decide_eq_true h2).symm
          · simp only [decide_eq_false h2, if_false, Bool.false_eq_true]
            refine ⟨?_, _, _, rfl, fun _ _ e => e⟩
            show false = (decide _ && decide _)
            rw [decide_eq_true h1, Bool.true_and]
            exact (decide_eq_false h2).symm
        · simp only [decide_eq_false h1, if_false, Bool.false_eq_true]
          refine ⟨?_, _, _, rfl, fun _ _ e => e⟩
          show false = (decide _ && decide _)
          rw [decide_eq_false h1, Bool.false_and]
      · rintro C4 j4 v4 s₄ m₄ E4 hC4 hP4 _ hn4 hm4 hk4 ht4
        refine nmL hn4 hm4 ?_
        exact ⟨rfl, _, _, rfl, fun _ _ e => e⟩
      · intro D4 q₂ tq₂ ys4 vs4 nD4 lD4 _ hvl4 hvP4 hpair4 hkeep4
        have e4 := paired_eq hpair4
        have e5 : vs4 = us := list_same hvl4 hvP4
        subst e5
        have i4 := ints_filter (fun e => decide ((j : Int) ≤ e) && decide ((pre i x.cps.toList e.toNat : Int) - (pre i x.cps.toList j : Int) ≤ (r : Int))) hus
        rw [← e4] at i4
        refine List_ ?_
        refine spliced_none ?_
        refine newListL (vs := []) ?_ (Nat.zero_le _)
        intro N q₃ kq₃ lN _ _
        refine ne_intsK (vs := ys4.toList) (list_keep (by simpa using lD4) (kq₃ _)) i4 lN .nil (unitsFit hunits) ?_
        refine wpAny_truthy_bool ⟨?_, _, _, rfl, fun b o e => kq₃ _ _ (hkeep4 b o (by simpa using neI3 e) (kq₁ _ _ e))⟩
        exact any_ints _ _ _ fun n => condB _ _ _ _ _
    · rintro C c j v s₃ E3 hc ⟨hj, t, rfl⟩ _ hcell hkeep htk₃
      refine nmC (c := c) (by rfl) hcell ?_
      exact ⟨rfl, _, _, rfl, fun _ _ e => e⟩
    · intro D g₈ tq₈ ys vs nD lD hvl hvP hpair hkeep htq₈
      have e4 := paired_eq hpair
      have iv : IntsAre vs (toI (List.range (x.length + 1))) := ints_of hvl fun j v hv => by
        obtain ⟨_, t, e⟩ := hvP j v hv
        rw [zidx] at e
        exact ⟨t, e⟩
      have i4 := ints_filter (fun b => (bN x.cps.toList bx.reverse k).any fun e => decide (b.toNat ≤ e) && decide (pre i x.cps.toList e ≤ r + pre i x.cps.toList b.toNat)) iv
      rw [← e4, stepB_ints, ← haN] at i4
      have K₈ : g₆.StaysIn g₈ := fun b o e => hkeep b o (neI2 e) (K₆₇ _ _ e)
      have neD : ∀ {a : Addr} {o : Obj}, g₆.get? a = some o → D ≠ a := fun e q => by subst q; rw [K₆₇ _ _ e] at nD; cases nD
      have gR : s.heap.get? R = none := by
        cases q : s.heap.get? R with
        | none => rfl
        | some o => rw [k₂ _ _ (F.keep _ _ q)] at nR; cases nR
      refine spliced_none ?_
      refine insertFront (K₈ _ _ hr₆) (by rw [hin.1, List.length_reverse, List.length_map, List.length_range]; exact fitK hlt (by rw [List.length_reverse]; exact hbl)) ?_
      rintro g₉ pR hs₉
      refine wpAny_execs_nil ?_
      have DL : D ≠ L := by obtain ⟨o, _, _, e, _⟩ := F₆.ns; exact neD e
      have DI : D ≠ I := neD eI₆
      have DA : D ≠ L + 1 := by obtain ⟨o, e, _⟩ := c1₆; exact neD e
      have DRm : D ≠ L + 1 + 1 := by obtain ⟨o, e, _⟩ := c2₆; exact neD e
      have DZ : D ≠ L + 1 + 1 + 1 := by obtain ⟨o, e, _⟩ := c3₆; exact neD e
      have DR : D ≠ R := neD hr₆
      have off69 : ∀ b o, b ≠ R → g₆.get? b = some o → g₉.get? b = some o := fun b o nb e => hs₉.extBut _ _ nb (K₈ _ _ e)
      refine hQ _ _ _ htq₈ ((F₆.keeps K₈).change hs₉ RL gR) ⟨m1, cell_keep c1₆ fun o e => off69 _ _ (Ne.symm RA) e, ⟨_, cell_keep c2₆ fun o e => off69 _ _ (Ne.symm RR) e⟩, ⟨_, cell_keep c3₆ fun o e => off69 _ _ (Ne.symm RZ) e⟩, Value.ref D :: refs, _, pR, ?_⟩ ?_
      · rw [List.range_succ, List.map_append, List.reverse_append]
        refine Inner.front (hin₆.mono fun b o hb e => off69 b o (fun q => hb (by simp [av, q])) e) (vs := ys.toList) (list_keep (by simpa using lD) fun o e => hs₉.extBut _ _ DR e) i4 ?_
        simp only [av, List.mem_cons, List.not_mem_nil, or_false, not_or]
        exact ⟨DL, DI, DA, DRm, DZ, DR⟩
      · intro b hb o e
        rcases List.mem_cons.mp hb with q | hb
        · subst q
          exact off69 _ _ (Ne.symm IR) (off16 _ _ (Ne.symm IL) (Ne.symm IRm) (Ne.symm IZ) e)
        · have q := List.mem_singleton.mp hb
          subst q
          exact off69 _ _ VR (off16 _ _ VL VRm VZ e)
  · refine ⟨by rfl, cell_keep cA₄ fun o e => k₅ _ _ e, ⟨_, cell_keep cR₄ fun o e => k₅ _ _ e⟩, ⟨_, cell_keep cZ₄ fun o e => k₅ _ _ e⟩, _, _, k₅ _ _ hR₄, ⟨by simp, ?_⟩⟩
    intro j l e
    have : j = 0 := by
      have := (List.getElem?_eq_some_iff.mp e).1
      simp at this; omega
    subst this
    simp [bN, toI] at e
    subst e
    refine ⟨a0, _, rfl, list_keep la0₄ fun o e => k₅ _ _ e, .cons _ _ .nil, ?_⟩
    simp only [av, L, List.mem_cons, List.not_mem_nil, or_false, not_or]
    exact ⟨a0L, Ia0, a0A, a0R, a0Z, a0RR⟩
  · rintro h₆ tk₆ m₆ htk₆ F₆ ⟨m1, c1, _, _, refs, n0, hr, hin⟩
    with_reducible refine wpAny_execs_cons ?_
    with_reducible refine wpAny_Return_some ?_
    refine nmC (c := s.heap.objs.size + 1) (by rfl) c1 ?_
    obtain ⟨as, hall⟩ := hin.reads
    have e : items.reverse.length = bx.length := by rw [hil, List.length_reverse]
    rw [e] at hall
    exact h R h₆ tk₆ _ htk₆ F₆.keep (Reads.list hr rfl rfl (by simpa using hall))
end
end Mine

set_option Elab.async false
set_option maxRecDepth 100000
set_option maxHeartbeats 4000000
set_option linter.unusedVariables false
namespace Mine
open PySem PySem.W PySem.W.X PyProof.Rows PySem.Calls PySem.Spec

/-! ### small tools for law -/
def Small (vs : List Value) (n : Nat) : Prop := vs.length = n ∧ ∀ v ∈ vs, ∃ (a : Int) (t : Tok), v = Value.int a t ∧ 0 ≤ a ∧ a < 10007

theorem mod_small (a : Int) {b : Int} (hb : 0 < b) : 0 ≤ a.fmod b ∧ a.fmod b < b := ⟨Int.fmod_nonneg_of_pos a hb, Int.fmod_lt_of_pos a hb⟩

theorem paired_all {α β : Type} {R : α → β → Prop} {Pr : β → Prop} (h : ∀ a b, R a b → Pr b) : ∀ {l : List α} {r : List β}, Paired R l r → ∀ b ∈ r, Pr b
  | _, _, .nil, b, hb => by cases hb
  | _, _, .cons e x, b, hb => by
    rcases List.mem_cons.mp hb with q | hb
    · rw [q]; exact h _ _ e
    · exact paired_all h x b hb

theorem strs_of : ∀ {vs : List Value}, (∀ v ∈ vs, ∃ (c : Nat) (t : Tok), v = Value.str ⟨#[c]⟩ t) → ∃ ys : List Str, StrsAre vs ys ∧ ys.length = vs.length ∧ ∀ y ∈ ys, y.length = 1
  | [], _ => ⟨[], .nil, rfl, fun y hy => by cases hy⟩
  | v :: vs, h => by
    obtain ⟨c, t, rfl⟩ := h v List.mem_cons_self
    obtain ⟨ys, h1, h2, h3⟩ := strs_of fun v hv => h v (List.mem_cons_of_mem _ hv)
    refine ⟨⟨#[c]⟩ :: ys, .cons _ _ h1, by simp [h2], fun y hy => ?_⟩
    rcases List.mem_cons.mp hy with q | hy
    · rw [q]; rfl
    · exact h3 y hy

theorem join_ones {ys : List Str} (h : ∀ y ∈ ys, y.length = 1) : (ys.map (·.length)).sum = ys.length := by
  induction ys with
  | nil => rfl
  | cons a r ih =>
    rw [List.map_cons, List.sum_cons, h a List.mem_cons_self, ih fun y hy => h y (List.mem_cons_of_mem _ hy), List.length_cons]
    omega

section
variable {prog : Program} {w : World} {A : Around} {E : Value → Shared → Prop} {s : Shared} {mg mb : Str → Option Value} {env : Env}

theorem addL {l b : Addr} {vs ws : List Value} {Q : Value → Shared → Prop} (hl : s.heap.IsList l vs.toArray) (hb : s.heap.IsList b ws.toArray) (hsz : vs.length + ws.length ≤ sizeLine)
    (h : ∀ D h', s.heap.StaysIn h' → s.heap.get? D = none → h'.get? D = some { cls := .type "list", data := .seq (vs ++ ws).toArray } → Q (.ref D) { s with heap := h' }) :
    wpAny (model prog w) A (binaryOp .Add (.ref l) (.ref b)) Q E s := by
  obtain ⟨⟨cls, dd, data, sl⟩, ho, hc, n, hd⟩ := id hl
  obtain ⟨⟨cls2, dd2, data2, sl2⟩, ho2, hc2, n2, hd2⟩ := id hb
  simp only at hc hd hc2 hd2
  subst hc hd hc2 hd2
  have e : vs.toArray ++ ws.toArray = (vs ++ ws).toArray := by simp
  refine concat_meets ⟨_, ho, rfl⟩ ⟨_, ho2, rfl⟩ noFill_list_add seq_list_add PySem.F.slot_list_add PySem.F.entry_list_add (PySem.F.args_list_add_2 _ _) (list_addW l b vs.toArray ws.toArray n n2 dd dd2 sl sl2 (by simpa using hsz)) ⟨ho, ho2, ?_⟩
  rw [e]
  exact h _ _ (stays_push _ _) ((stays_refl s.heap).fresh) (Heap.get?_push_size _ rfl)

theorem testsNil {cenv : Env} {E' : Value → Shared → Prop} : wpAny (model prog w) A (forIn ([] : List Expr) true fun c r => if r = true then do let ok ← isTrue c cenv (eval c cenv); pure (ForInStep.yield ok) else pure (ForInStep.yield r)) (fun ok s₄ => ok = true ∧ Keeps s s₄) E' s :=
  wpAny_pure (a := true) ⟨rfl, _, _, rfl, fun _ _ e => e⟩

theorem strItem {value slice : Expr} {x : Str} {t u : Tok} {k c : Nat} {Q : Value → Shared → Prop} (hc : x.cps[k]? = some c) (hk : k < 1000) (h : ∀ t' tk, s.toks ≤ tk → Q (.str ⟨#[c]⟩ t') { s with toks := tk })
    (hs : subscripted slice false (.str x t) (.int (k : Int) u) = operate [.str x t, .int (k : Int) u] (getItem (.str x t) (.int (k : Int) u)) := by with_unfolding_all rfl) :
    wpAny (model prog w) A (subscriptTail value slice (.str x t) (.int (k : Int) u)) Q E s := by
  refine tail_any (typeIs_str s x t) PyProof.Rows.slot_str_getitem.lookup (PyProof.Rows.getItem_str ?_ ?_ (h _ _ (Nat.le_succ _))) hs
  · simp only [Bool.or_eq_false_iff, decide_eq_false_iff_not]
    omega
  · have hlt : k < x.length := (Array.getElem?_eq_some_iff.mp hc).1
    have : seqIndex? (k : Int) x.length = some k := by
      unfold seqIndex?
      simp
      omega
    rw [this]
    exact hc
end
end Mine

set_option Elab.async false
set_option maxRecDepth 100000
set_option maxHeartbeats 4000000
set_option linter.unusedVariables false
namespace Mine
open PySem PySem.W PySem.W.X PyProof.Rows PySem.Calls PySem.Spec

/-! ### the plain side of cut -/
theorem cut_add (i : Nat) (T : List Nat) {b e : Nat} (h : b ≤ e) : pre i T b + cut i T b e = pre i T e := by
  unfold pre cut
  have e1 : T.take e = T.take b ++ (T.take e).drop b := by
    have := (List.take_append_drop b (T.take e)).symm
    rw [List.take_take, Nat.min_eq_left h] at this
    exact this
  have e2 : (T.take e).flatMap (ref i) = (T.take b).flatMap (ref i) ++ ((T.take e).drop b).flatMap (ref i) := by
    rw [← List.flatMap_append, ← e1]
  rw [e2, List.length_append]
theorem cut_zero (i : Nat) (T : List Nat) {b e : Nat} (h : e ≤ b) : cut i T b e = 0 := by
  unfold cut
  rw [List.drop_eq_nil_of_le (by rw [List.length_take]; omega)]
  rfl
theorem cut_mono (i : Nat) (T : List Nat) (b : Nat) {e e' : Nat} (h : e ≤ e') : cut i T b e ≤ cut i T b e' := by
  by_cases h1 : b ≤ e
  · have h2 := cut_add i T h1
    have h3 := cut_add i T (Nat.le_trans h1 h)
    have h4 := pre_mono i T h
    omega
  · rw [cut_zero i T (by omega)]; exact Nat.zero_le _
theorem cut_anti (i : Nat) (T : List Nat) (e : Nat) {b b' : Nat} (h : b ≤ b') : cut i T b' e ≤ cut i T b e := by
  by_cases h1 : b' ≤ e
  · have h2 := cut_add i T h1
    have h3 := cut_add i T (Nat.le_trans h h1)
    have h4 := pre_mono i T h
    omega
  · rw [cut_zero i T (by omega)]; exact Nat.zero_le _

/-! ### what is no record of code -/
def NotRec (h : Heap) (a : Addr) : Prop := ∃ o, h.get? a = some o ∧ ∀ (vs : Array Value) (q : Str) (t : Tok), o.data = .fields vs → vs[1]? ≠ some (.str q t)
theorem NotRec.ns {h : Heap} {a : Addr} {m : Str → Option Value} (x : h.Ns a m) : NotRec h a := by
  obtain ⟨o, es, ep, e, d, _⟩ := x
  exact ⟨o, e, fun vs q t d' => by rw [d] at d'; cases d'⟩
theorem NotRec.cell {h : Heap} {a : Addr} {v : Option Value} (x : h.IsCell a v) : NotRec h a := by
  obtain ⟨o, e, d⟩ := x
  exact ⟨o, e, fun vs q t d' => by rw [d] at d'; cases d'⟩
theorem NotRec.list {h : Heap} {a : Addr} {its : Array Value} (x : h.IsList a its) : NotRec h a := by
  obtain ⟨o, e, _, n, d⟩ := x
  exact ⟨o, e, fun vs q t d' => by rw [d] at d'; cases d'⟩
theorem NotRec.iter {h : Heap} {a l : Addr} {i : Nat} (x : h.IsListIter a l i) : NotRec h a := by
  obtain ⟨o, e, _, d⟩ := x
  exact ⟨o, e, fun vs q t d' => by rw [d] at d'; cases d'; simp⟩
theorem NotRec.tab {h : Heap} {P : Addr} {qual : Str} {line col : Nat} (x : TabS P qual line col h) : NotRec h P := by
  rcases x with e | ⟨c', e, _⟩
  · exact ⟨_, e, fun vs q t d' => by cases d'; simp⟩
  · exact ⟨_, e, fun vs q t d' => by cases d'; simp [rawInt]⟩

theorem rec_keep {h h' : Heap} {a : Addr} {c : Value} {q : Str} (x : h.CodeRec c q) (n : NotRec h a) (k : ∀ b o, b ≠ a → h.get? b = some o → h'.get? b = some o) : h'.CodeRec c q := by
  obtain ⟨c', o, vs, t, e, g, d, r⟩ := x
  refine ⟨c', o, vs, t, e, k _ _ (fun z => ?_) g, d, r⟩
  obtain ⟨o', e', hn⟩ := n
  rw [z, e'] at g
  cases g
  exact hn vs q t d r

theorem TabS.same {P a : Addr} {qual : Str} {line col : Nat} {h h' : Heap} (x : TabS P qual line col h) (n : NotRec h a) (ne : P ≠ a) (k : ∀ b o, b ≠ a → h.get? b = some o → h'.get? b = some o) : TabS P qual line col h' := by
  rcases x with e | ⟨c', e, r⟩
  · exact .inl (k _ _ ne e)
  · exact .inr ⟨c', k _ _ ne e, rec_keep r n k⟩

def TabV (av : List Addr) (P : Addr) (qual : Str) (line col : Nat) (h : Heap) : Prop :=
  h.get? P = some (tabObj #[]) ∨ ∃ c', c' ∉ av ∧ h.get? P = some (tabObj #[rawInt line, rawInt col, .ref c']) ∧ h.CodeRec (.ref c') qual
theorem TabV.toS {av : List Addr} {P : Addr} {qual : Str} {line col : Nat} {h : Heap} (x : TabV av P qual line col h) : TabS P qual line col h := by
  rcases x with e | ⟨c', _, e, r⟩
  · exact .inl e
  · exact .inr ⟨c', e, r⟩
theorem TabV.mono {av : List Addr} {P : Addr} {qual : Str} {line col : Nat} {h h' : Heap} (x : TabV av P qual line col h) (hP : P ∉ av) (k : ∀ b o, b ∉ av → h.get? b = some o → h'.get? b = some o) : TabV av P qual line col h' := by
  rcases x with e | ⟨c', n, e, r⟩
  · exact .inl (k _ _ hP e)
  · refine .inr ⟨c', n, k _ _ hP e, ?_⟩
    obtain ⟨c'', o, vs, t, q, g, d, r⟩ := r
    cases q
    exact ⟨c', o, vs, t, rfl, k _ _ n g, d, r⟩
theorem TabS.toV {av : List Addr} {P : Addr} {qual : Str} {line col : Nat} {h : Heap} (x : TabS P qual line col h) (hn : ∀ a ∈ av, NotRec h a) : TabV av P qual line col h := by
  rcases x with e | ⟨c', e, r⟩
  · exact .inl e
  · refine .inr ⟨c', fun hm => ?_, e, r⟩
    obtain ⟨o', e', n⟩ := hn c' hm
    obtain ⟨c'', o, vs, t, q, g, d, r⟩ := r
    cases q
    rw [e'] at g; cases g
    exact n vs _ t d r

theorem Gr.but2 {w : World} {mg mb : Str → Option Value} {h h' : Heap} {P P' : Addr} {q q' : Str} {li li' co co' : Nat} (G : Gr w mg mb h) (x : TabS P q li co h) (x' : TabS P' q' li' co' h) (hP : (KF w).lookup P = none) (hP' : (KF w).lookup P' = none)
    (k : ∀ b o, b ≠ P → b ≠ P' → h.get? b = some o → h'.get? b = some o) : Gr w mg mb h' := by
  have ns : ∀ {a : Addr} {m : Str → Option Value}, h.Ns a m → h'.Ns a m := fun n => by
    obtain ⟨o, es, ep, e, hd, r⟩ := n
    exact ⟨o, es, ep, k _ _ (x.ne' e hd) (x'.ne' e hd) e, hd, r⟩
  refine ⟨fun a o e => k a o (fun q => by subst q; rw [hP] at e; cases e) (fun q => by subst q; rw [hP'] at e; cases e) (G.X a o e), ns G.g, ns G.b, ?_, G.builtins, ?_⟩
  · obtain ⟨mc, a, r⟩ := G.nolimit
    exact ⟨mc, ns a, r⟩
  · obtain ⟨bm, ob, a, b, c, d, e⟩ := G.bmain
    exact ⟨bm, ob, a, b, k _ _ (x.ne c (by rw [d]; intro z; cases z)) (x'.ne c (by rw [d]; intro z; cases z)) c, d, e⟩

theorem list_ne_ns {h : Heap} {a L : Addr} {its : Array Value} {m : Str → Option Value} (x : h.IsList a its) (n : h.Ns L m) : a ≠ L := fun q => by
  subst q
  obtain ⟨o, e, _, k, d⟩ := x
  obtain ⟨o', _, _, e', d', _⟩ := n
  rw [e] at e'; cases e'; rw [d] at d'; cases d'
theorem list_ne_cell {h : Heap} {a c : Addr} {its : Array Value} {v : Option Value} (x : h.IsList a its) (n : h.IsCell c v) : a ≠ c := fun q => by
  subst q
  obtain ⟨o, e, _, k, d⟩ := x
  obtain ⟨o', e', d'⟩ := n
  rw [e] at e'; cases e'; rw [d] at d'; cases d'
theorem list_ne_tab {h : Heap} {a P : Addr} {qual : Str} {line col : Nat} {its : Array Value} (x : h.IsList a its) (n : TabS P qual line col h) : a ≠ P := by
  obtain ⟨o, e, c, k, d⟩ := x
  exact n.ne e (by rw [c]; intro z; cases z)

/-! ### the heap in law's later half: all that stood stays, but for the frame, its cells and the tables of code -/
def bad (L : Addr) : List Addr := [L, L + 1, L + 1 + 1, L + 1 + 1 + 1, 90, 95]
def KB (L : Addr) (h₁ h : Heap) : Prop := ∀ b o, b ∉ bad L → h₁.get? b = some o → h.get? b = some o
theorem KB.stays {L : Addr} {h₁ h h' : Heap} (x : KB L h₁ h) (k : h.StaysIn h') : KB L h₁ h' := fun b o n e => k _ _ (x b o n e)
theorem KB.but {L a : Addr} {h₁ h h' : Heap} (x : KB L h₁ h) (k : ∀ b o, b ≠ a → h.get? b = some o → h'.get? b = some o) (ha : a ∈ bad L ∨ h₁.get? a = none) : KB L h₁ h' := fun b o n e =>
  k _ _ (fun q => by subst q; rcases ha with ha | ha; exact n ha; rw [ha] at e; cases e) (x b o n e)
theorem not_bad {L a : Addr} {h : Heap} {its : Array Value} {m : Str → Option Value} {v1 v2 v3 : Option Value} {q q' : Str} {li li' co co' : Nat} (x : h.IsList a its) (n : h.Ns L m) (c1 : h.IsCell (L + 1) v1) (c2 : h.IsCell (L + 1 + 1) v2) (c3 : h.IsCell (L + 1 + 1 + 1) v3)
    (t1 : TabS 90 q li co h) (t2 : TabS 95 q' li' co' h) : a ∉ bad L := by
  simp only [bad, List.mem_cons, List.not_mem_nil, or_false, not_or]
  exact ⟨list_ne_ns x n, list_ne_cell x c1, list_ne_cell x c2, list_ne_cell x c3, list_ne_tab x t1, list_ne_tab x t2⟩
end Mine

set_option Elab.async false
set_option maxRecDepth 100000
set_option maxHeartbeats 4000000
set_option linter.unusedVariables false
namespace Mine
open PySem PySem.W PySem.W.X PyProof.Rows PySem.Calls PySem.Spec

theorem filter_upto {p : Nat → Bool} : ∀ (n e : Nat), e ≤ n → (∀ j, j ≤ n → (p j = true ↔ j ≤ e)) → (List.range (n + 1)).filter p = List.range (e + 1) := by
  intro n e hen h
  have : n + 1 = (e + 1) + (n - e) := by omega
  rw [this, List.range_add, List.filter_append]
  have h1 : (List.range (e + 1)).filter p = List.range (e + 1) := List.filter_eq_self.mpr fun a ha => (h a (by have := List.mem_range.mp ha; omega)).mpr (by have := List.mem_range.mp ha; omega)
  have h2 : ((List.range (n - e)).map (e + 1 + ·)).filter p = [] := List.filter_eq_nil_iff.mpr fun a ha => by
    obtain ⟨c, hc, rfl⟩ := List.mem_map.mp ha
    have hc' := List.mem_range.mp hc
    intro hp
    have := (h (e + 1 + c) (by omega)).mp hp
    omega
  rw [h1, h2, List.append_nil]

/-- the numbers from b to n -/
def from_ (b n : Nat) : List Nat := (List.range (n + 1 - b)).map (b + ·)
theorem mem_from {b n j : Nat} : j ∈ from_ b n ↔ b ≤ j ∧ j ≤ n := by
  unfold from_
  constructor
  · intro h
    obtain ⟨c, hc, rfl⟩ := List.mem_map.mp h
    have := List.mem_range.mp hc
    omega
  · intro ⟨h1, h2⟩
    exact List.mem_map.mpr ⟨j - b, List.mem_range.mpr (by omega), by omega⟩
theorem filter_from {p : Nat → Bool} : ∀ (n b : Nat), b ≤ n → (∀ j, j ≤ n → (p j = true ↔ b ≤ j)) → (List.range (n + 1)).filter p = from_ b n := by
  intro n b hbn h
  have : n + 1 = b + (n + 1 - b) := by omega
  rw [this, List.range_add, List.filter_append]
  have h1 : (List.range b).filter p = [] := List.filter_eq_nil_iff.mpr fun a ha hp => by
    have ha' := List.mem_range.mp ha
    have := (h a (by omega)).mp hp
    omega
  have h2 : ((List.range (n + 1 - b)).map (b + ·)).filter p = (List.range (n + 1 - b)).map (b + ·) := List.filter_eq_self.mpr fun a ha => by
    obtain ⟨c, hc, rfl⟩ := List.mem_map.mp ha
    have hc' := List.mem_range.mp hc
    exact (h (b + c) (by omega)).mpr (by omega)
  rw [h1, h2, List.nil_append]
  rfl

theorem andT {a b c d : Nat} (h1 : a ≤ b) (h2 : c ≤ d) : (decide (a ≤ b) && decide (c ≤ d)) = true := by
  rw [decide_eq_true h1, decide_eq_true h2]; rfl

theorem stepA_far {i r : Nat} {T : List Nat} {b e : Nat} (hb : b ≤ T.length) (he : e ≤ T.length) (h2 : ∀ j, j < e → cut i T b (j + 1) ≤ r) (h3 : ∀ j, e ≤ j → j < T.length → ¬ cut i T b (j + 1) ≤ r) :
    b ≤ e ∧ stepA i r T (List.range (b + 1)) = List.range (e + 1) := by
  have hbe : b ≤ e := Nat.le_of_not_lt fun hlt => h3 e (Nat.le_refl _) (by omega) (by rw [cut_zero i T (by omega)]; exact Nat.zero_le _)
  refine ⟨hbe, ?_⟩
  unfold stepA
  refine filter_upto _ _ he fun j hj => ?_
  rw [List.any_eq_true]
  constructor
  · rintro ⟨b', hb', hq⟩
    have hb'' := List.mem_range.mp hb'
    rw [Bool.and_eq_true, decide_eq_true_eq, decide_eq_true_eq] at hq
    refine Nat.le_of_not_lt fun hlt => ?_
    have hj' : j = (j - 1) + 1 := by omega
    refine h3 (j - 1) (by omega) (by omega) ?_
    rw [← hj']
    have e1 := cut_add i T (show b ≤ j by omega)
    have e2 := pre_mono i T (show b' ≤ b by omega)
    omega
  · intro hje
    by_cases hjb : j ≤ b
    · exact ⟨j, List.mem_range.mpr (by omega), andT (Nat.le_refl _) (by omega)⟩
    · refine ⟨b, List.mem_range.mpr (by omega), andT (by omega) ?_⟩
      have hj' : j = (j - 1) + 1 := by omega
      have := h2 (j - 1) (by omega)
      rw [← hj'] at this
      have e1 := cut_add i T (show b ≤ j by omega)
      omega

theorem stepB_near {i r : Nat} {T : List Nat} {b e : Nat} (hb : b ≤ T.length) (he : e ≤ T.length) (h2 : ∀ j, j < b → ¬ cut i T j e ≤ r) (h3 : ∀ j, b ≤ j → j < T.length → cut i T j e ≤ r) :
    b ≤ e ∧ stepB i r T (from_ e T.length) = from_ b T.length := by
  have hbe : b ≤ e := Nat.le_of_not_lt fun hlt => h2 e hlt (by rw [cut_zero i T (Nat.le_refl _)]; exact Nat.zero_le _)
  refine ⟨hbe, ?_⟩
  unfold stepB
  refine filter_from _ _ hb fun j hj => ?_
  rw [List.any_eq_true]
  constructor
  · rintro ⟨e', he', hq⟩
    have he'' := mem_from.mp he'
    rw [Bool.and_eq_true, decide_eq_true_eq, decide_eq_true_eq] at hq
    refine Nat.le_of_not_lt fun hlt => h2 j hlt ?_
    have e1 := cut_add i T (show j ≤ e by omega)
    have e2 := pre_mono i T (show e ≤ e' by omega)
    omega
  · intro hje
    by_cases hjb : e ≤ j
    · exact ⟨j, mem_from.mpr ⟨hjb, hj⟩, andT (Nat.le_refl _) (by omega)⟩
    · refine ⟨e, mem_from.mpr ⟨Nat.le_refl _, he⟩, andT (by omega) ?_⟩
      have := h3 j hje (by omega)
      have e1 := cut_add i T (show j ≤ e by omega)
      omega

/-- a list of ints from a range -/
theorem items_ints {b : Nat} {acc : Array Value} {n : Nat} (h : ItemsOf (fun i v => ∃ t, v = .int ((b : Int) + i * 1) t) acc n) : IntsAre acc.toList (toI ((List.range n).map (b + ·))) := by
  have e : toI ((List.range n).map (b + ·)) = (List.range n).map fun (j : Nat) => (b : Int) + ((j : Nat) : Int) * 1 := by
    unfold toI
    rw [List.map_map]
    refine List.map_congr_left fun j _ => ?_
    show ((b + j : Nat) : Int) = _
    omega
  rw [e]
  exact ints_of (by rw [Array.length_toList]; exact h.1) fun j v hv => h.2 j v (by simpa using hv)

section
variable {prog : Program} {w : World} {A : Around} {E : Value → Shared → Prop} {s : Shared} {mg mb : Str → Option Value} {env : Env}
theorem listRange {r : Addr} {b e : Nat} {t u v : Tok} {Q : Value → Shared → Prop} (hh : A.handled = none) (hr : IsRange s.heap r b e 1 t u v) (hbe : b ≤ e) (he : e ≤ 1000)
    (hQ : ∀ D its h' tk, s.heap.StaysIn h' → s.heap.get? D = none → h'.IsList D its → IntsAre its.toList (toI ((List.range (e - b)).map (b + ·))) → Q (.ref D) { s with heap := h', toks := tk }) :
    wpAny (model prog w) A (call (.type "list") [.ref r]) Q E s := by
  refine call_list_range (n := e - b) hh hr (small_one (by omega) (by omega) (by omega) (by omega)) ?_ (by omega) ?_
  · rw [rangeSize_one]
    split <;> omega
  · intro h' tk acc' c' hk hl hI
    exact hQ _ acc' h' tk hk ((stays_refl s.heap).fresh) ⟨_, hl, rfl, c', rfl⟩ (items_ints hI)
end

def upToF : Value → List Int
  | .int b _ => toI (List.range (b.toNat + 1))
  | _ => []
def fromF : Value → List Int
  | .int b _ => toI (from_ b.toNat 8)
  | _ => []
theorem map_upTo : ∀ {fs : List Value} {fl : List Nat}, IntsAre fs (toI fl) → fs.map upToF = fl.map fun b => toI (List.range (b + 1))
  | [], [], _ => rfl
  | _ :: _, [], h => nomatch h
  | [], _ :: _, h => nomatch h
  | v :: fs, b :: fl, h => by
    cases h with
    | cons _ t h => rw [List.map_cons, List.map_cons, map_upTo h]; rfl
theorem map_from : ∀ {fs : List Value} {fl : List Nat}, IntsAre fs (toI fl) → fs.map fromF = fl.map fun b => toI (from_ b 8)
  | [], [], _ => rfl
  | _ :: _, [], h => nomatch h
  | [], _ :: _, h => nomatch h
  | v :: fs, b :: fl, h => by
    cases h with
    | cons _ t h => rw [List.map_cons, List.map_cons, map_from h]; rfl
theorem map_at {α : Type} {f : Nat → α} {g : Nat → α} : ∀ {n : Nat} {l : List Nat}, l.length = n → (∀ (k b : Nat), l[k]? = some b → f k = g b) → (List.range n).map f = l.map g
  | 0, [], _, _ => rfl
  | n + 1, b :: l, hl, h => by
    rw [List.range_succ_eq_map, List.map_cons, List.map_cons, List.map_map]
    congr 1
    · exact h 0 b rfl
    · exact map_at (f := f ∘ Nat.succ) (by simpa using hl) fun k b e => h (k + 1) b (by simpa using e)
theorem paired_LL {h₁ h : Heap} {f : Value → List Int} {Gv : Value → Array Value → Prop} (hG : ∀ v its, Gv v its → IntsAre its.toList (f v)) : ∀ {vs ys : List Value}, Paired (LstIs h₁ Gv h) vs ys → ∃ as, ReadsAll h ys (dataLL (vs.map f)) as
  | _, _, .nil => ⟨[], .nil⟩
  | _, _, .cons e x => by
    obtain ⟨T, its, rfl, _, hl, hg⟩ := e
    obtain ⟨as, ih⟩ := paired_LL hG x
    exact ⟨_, .cons (reads_of_ints (by simpa using hl) (hG _ _ hg)) ih⟩
end Mine

set_option Elab.async false
set_option maxRecDepth 100000
set_option maxHeartbeats 4000000
set_option linter.unusedVariables false
namespace Mine
open PySem PySem.W PySem.W.X PyProof.Rows PySem.Calls PySem.Spec

/-! ### the bisections over the sizes find the same places -/
theorem bis_far {i r : Nat} {T : List Nat} {b e R : Nat} (hb : b ≤ T.length) (he : e ≤ T.length) (h2 : ∀ j, j < e → cut i T b (j + 1) ≤ r) (h3 : ∀ j, e ≤ j → j < T.length → ¬ cut i T b (j + 1) ≤ r)
    (hR : R ≤ T.length) (g2 : ∀ j, j < R → (pre i T (j + 1) : Int) ≤ (pre i T b : Int) + (r : Int)) (g3 : ∀ j, R ≤ j → j < T.length → ¬ (pre i T (j + 1) : Int) ≤ (pre i T b : Int) + (r : Int)) : R = e := by
  have hbe := (stepA_far hb he h2 h3).1
  have iff : ∀ j, j < T.length → ((pre i T (j + 1) : Int) ≤ (pre i T b : Int) + (r : Int) ↔ j < e) := by
    intro j hj
    by_cases hjb : j + 1 ≤ b
    · have := pre_mono i T hjb
      constructor
      · intro _; omega
      · intro _; omega
    · have e1 := cut_add i T (show b ≤ j + 1 by omega)
      constructor
      · intro h
        refine Nat.lt_of_not_le fun hle => h3 j hle hj ?_
        omega
      · intro h
        have := h2 j h
        omega
  refine Nat.le_antisymm ?_ ?_
  · refine Nat.le_of_not_lt fun hlt => ?_
    have := (iff e (by omega)).mp (g2 e hlt)
    omega
  · refine Nat.le_of_not_lt fun hlt => ?_
    exact g3 R (Nat.le_refl _) (by omega) ((iff R (by omega)).mpr hlt)

theorem bis_near {i r : Nat} {T : List Nat} {b e R : Nat} (hb : b ≤ T.length) (he : e ≤ T.length) (h2 : ∀ j, j < b → ¬ cut i T j e ≤ r) (h3 : ∀ j, b ≤ j → j < T.length → cut i T j e ≤ r)
    (hR : R ≤ T.length) (g2 : ∀ j, j < R → (pre i T j : Int) < (pre i T e : Int) - (r : Int)) (g3 : ∀ j, R ≤ j → j < T.length → ¬ (pre i T j : Int) < (pre i T e : Int) - (r : Int)) : R = b := by
  have hbe := (stepB_near hb he h2 h3).1
  have iff : ∀ j, j < T.length → ((pre i T j : Int) < (pre i T e : Int) - (r : Int) ↔ j < b) := by
    intro j hj
    by_cases hje : j ≤ e
    · have e1 := cut_add i T hje
      constructor
      · intro h
        refine Nat.lt_of_not_le fun hle => ?_
        have := h3 j hle hj
        omega
      · intro h
        have := h2 j h
        omega
    · have := pre_mono i T (show e ≤ j by omega)
      constructor
      · intro _; omega
      · intro _; omega
  refine Nat.le_antisymm ?_ ?_
  · refine Nat.le_of_not_lt fun hlt => ?_
    have := (iff b (by omega)).mp (g2 b hlt)
    omega
  · refine Nat.le_of_not_lt fun hlt => ?_
    exact g3 R (Nat.le_refl _) (by omega) ((iff R (by omega)).mpr hlt)

/-! ### the text of the references -/
theorem join_flat : ∀ ys : List Str, (Str.join (Str.ofString "") ys).cps.toList = ys.flatMap fun y => y.cps.toList
  | [] => rfl
  | [y] => by simp [Str.join]
  | y :: z :: r => by
    show ((y ++ Str.ofString "" ++ Str.join (Str.ofString "") (z :: r))).cps.toList = _
    rw [cps_toList_append, cps_toList_append, join_flat (z :: r)]
    have : (Str.ofString "").cps.toList = [] := rfl
    rw [this, List.append_nil]
    rfl
theorem join_refs (i : Nat) (x : Str) : Txt.join (Str.ofString "") (x.cps.toList.map (refS i)) = escT i x := by
  unfold Txt.join
  rw [PySem.StrLaws.glued_eq_join]
  refine ext_toList ?_
  rw [join_flat, escT_list, List.flatMap_map]
  rfl
theorem refs_weight {i : Nat} (hi : i < 5) {x : Str} (hx : x.length ≤ 8) : ((x.cps.toList.map (refS i)).map (·.length)).sum + (x.cps.toList.map (refS i)).length ≤ 1048576 := by
  have hl : x.cps.toList.length ≤ 8 := by simpa [Str.length] using hx
  generalize x.cps.toList = l at hl
  have : ((l.map (refS i)).map (·.length)).sum ≤ 6 * l.length := by
    induction l with
    | nil => simp
    | cons k r ih =>
      have h1 := refS_small hi k
      have h2 := ih (by simp at hl; omega)
      simp only [List.map_cons, List.sum_cons, List.length_cons] at h2 ⊢
      omega
  rw [List.length_map]
  omega
end Mine

set_option Elab.async false
set_option maxRecDepth 100000
set_option maxHeartbeats 4000000
set_option linter.unusedVariables false
namespace Mine
open PySem PySem.W PySem.W.X PyProof.Rows PySem.Calls PySem.Spec
section
variable {prog : Program} {w : World} {A : Around} {E : Value → Shared → Prop} {s : Shared} {mg mb : Str → Option Value} {env : Env}

theorem ints_paired : ∀ {vs ys : List Value}, Paired (fun _ y => ∃ (a : Int) (t : Tok), y = Value.int a t) vs ys → ∃ l : List Int, IntsAre ys l ∧ l.length = vs.length
  | _, _, .nil => ⟨[], .nil, rfl⟩
  | _, _, .cons e x => by
    obtain ⟨a, t, rfl⟩ := e
    obtain ⟨l, h1, h2⟩ := ints_paired x
    exact ⟨a :: l, .cons _ _ h1, by simp [h2]⟩

theorem given_len (n : Nat) (l m : List Int) (hl : l.length = min 8 n) (hm : m.length = 8) : (l ++ m.drop ((l.length : Int)).toNat).length = 8 := by
  rw [List.length_append, List.length_drop, hm, Int.toNat_natCast]
  omega

def BoxV (_ : Value) (its : Array Value) : Prop := ∃ (i r : Nat) (tw tr : Tok), its = #[Value.int i tw, Value.int r tr] ∧ i < 5

theorem boxes_of {h₁ h : Heap} : ∀ {vs ys : List Value}, Paired (LstIs h₁ BoxV h) vs ys → ∃ bx : List (Nat × Nat), bx.length = ys.length ∧ ys.length = vs.length ∧ (∀ (k i r : Nat), bx[k]? = some (i, r) → i < 5) ∧
      ∀ (k i r : Nat), bx[k]? = some (i, r) → ∃ (b : Addr) (tw tr : Tok), ys[k]? = some (Value.ref b) ∧ h.IsList b #[Value.int i tw, Value.int r tr]
  | _, _, .nil => ⟨[], rfl, rfl, by simp, by simp⟩
  | _, _, .cons e x => by
    obtain ⟨T, its, rfl, _, hl, i, r, tw, tr, rfl, hi⟩ := e
    obtain ⟨bx, h1, h2, h3, h4⟩ := boxes_of x
    refine ⟨(i, r) :: bx, by simp [h1], by simp [h2], fun k i' r' e => ?_, fun k i' r' e => ?_⟩
    · cases k with
      | zero => simp at e; omega
      | succ k => exact h3 k i' r' (by simpa using e)
    · cases k with
      | zero =>
        simp at e
        obtain ⟨rfl, rfl⟩ := e
        exact ⟨T, tw, tr, rfl, hl⟩
      | succ k => simpa using h4 k i' r' (by simpa using e)

/-- the farthest places, as the bisections find them -/
def FarOk (T : List Nat) (bx : List (Nat × Nat)) (fl : List Nat) : Prop :=
  fl[0]? = some 0 ∧ ∀ (k i r b e : Nat), bx[k]? = some (i, r) → fl[k]? = some b → fl[k + 1]? = some e → e ≤ T.length ∧ (∀ j, j < e → cut i T b (j + 1) ≤ r) ∧ (∀ j, e ≤ j → j < T.length → ¬ cut i T b (j + 1) ≤ r)
theorem FarOk.snoc {T : List Nat} {bx : List (Nat × Nat)} {fl : List Nat} {i r b e : Nat} (x : FarOk T bx fl) (hb : bx[fl.length - 1]? = some (i, r)) (hl : fl.getLast? = some b) (h1 : e ≤ T.length) (h2 : ∀ j, j < e → cut i T b (j + 1) ≤ r) (h3 : ∀ j, e ≤ j → j < T.length → ¬ cut i T b (j + 1) ≤ r) : FarOk T bx (fl ++ [e]) := by
  have hp : 0 < fl.length := (List.getElem?_eq_some_iff.mp x.1).1
  refine ⟨by rw [List.getElem?_append_left hp]; exact x.1, fun k i' r' b' e' q1 q2 q3 => ?_⟩
  by_cases hk : k + 1 < fl.length
  · rw [List.getElem?_append_left (by omega)] at q2
    rw [List.getElem?_append_left hk] at q3
    exact x.2 k i' r' b' e' q1 q2 q3
  · have hk' : k + 1 = fl.length := by
      have := (List.getElem?_eq_some_iff.mp q3).1
      simp at this; omega
    rw [hk'] at q3
    simp at q3
    have hk2 : fl.length - 1 = k := by omega
    rw [List.getLast?_eq_getElem?, hk2] at hl
    rw [hk2, q1] at hb
    rw [List.getElem?_append_left (by omega), hl] at q2
    cases q2; cases hb; subst q3
    exact ⟨h1, h2, h3⟩

theorem last_ints {fs : List Value} {fl : List Nat} (h : IntsAre fs (toI fl)) (hp : 0 < fl.length) : ∃ (b : Nat) (t : Tok), fl.getLast? = some b ∧ fs.getLast? = some (.int (b : Int) t) := by
  have hlt : fl.length - 1 < fl.length := by omega
  have e1 : (toI fl)[fl.length - 1]? = some ((fl[fl.length - 1] : Nat) : Int) := by
    simp [toI, hlt]
  obtain ⟨t, e2⟩ := ints_at' h _ _ e1
  refine ⟨fl[fl.length - 1], t, by rw [List.getLast?_eq_getElem?, List.getElem?_eq_getElem hlt], ?_⟩
  rw [List.getLast?_eq_getElem?, IntsAre.length h]
  simpa [toI] using e2

/-- the nearest places, from the end on, as the bisections find them -/
def NearOk (T : List Nat) (rb : List (Nat × Nat)) (nl : List Nat) : Prop :=
  nl[0]? = some T.length ∧ (∀ e ∈ nl, e ≤ T.length) ∧ ∀ (k i r e b : Nat), rb[k]? = some (i, r) → nl[k]? = some e → nl[k + 1]? = some b → (∀ j, j < b → ¬ cut i T j e ≤ r) ∧ (∀ j, b ≤ j → j < T.length → cut i T j e ≤ r)
theorem NearOk.snoc {T : List Nat} {rb : List (Nat × Nat)} {nl : List Nat} {i r e b : Nat} (x : NearOk T rb nl) (hb : rb[nl.length - 1]? = some (i, r)) (hl : nl.getLast? = some e) (h1 : b ≤ T.length) (h2 : ∀ j, j < b → ¬ cut i T j e ≤ r) (h3 : ∀ j, b ≤ j → j < T.length → cut i T j e ≤ r) : NearOk T rb (nl ++ [b]) := by
  have hp : 0 < nl.length := (List.getElem?_eq_some_iff.mp x.1).1
  refine ⟨by rw [List.getElem?_append_left hp]; exact x.1, fun z hz => ?_, fun k i' r' e' b' q1 q2 q3 => ?_⟩
  · rcases List.mem_append.mp hz with hz | hz
    · exact x.2.1 z hz
    · rw [List.mem_singleton.mp hz]; exact h1
  by_cases hk : k + 1 < nl.length
  · rw [List.getElem?_append_left (by omega)] at q2
    rw [List.getElem?_append_left hk] at q3
    exact x.2.2 k i' r' e' b' q1 q2 q3
  · have hk' : k + 1 = nl.length := by
      have := (List.getElem?_eq_some_iff.mp q3).1
      simp at this; omega
    rw [hk'] at q3
    simp at q3
    have hk2 : nl.length - 1 = k := by omega
    rw [List.getLast?_eq_getElem?, hk2] at hl
    rw [hk2, q1] at hb
    rw [List.getElem?_append_left (by omega), hl] at q2
    cases q2; cases hb; subst q3
    exact ⟨h2, h3⟩
theorem first_ints {vs : List Value} {nl : List Nat} (h : IntsAre vs (toI nl.reverse)) (hp : 0 < nl.length) : ∃ (b : Nat) (t : Tok), nl.getLast? = some b ∧ b ∈ nl ∧ vs[0]? = some (.int (b : Int) t) := by
  have hlt : nl.length - 1 < nl.length := by omega
  have e1 : (toI nl.reverse)[0]? = some ((nl[nl.length - 1] : Nat) : Int) := by
    rw [toI, List.getElem?_map, List.getElem?_reverse hp]
    simp [hlt]
  obtain ⟨t, e2⟩ := ints_at' h _ _ e1
  exact ⟨nl[nl.length - 1], t, by rw [List.getLast?_eq_getElem?, List.getElem?_eq_getElem hlt], List.getElem_mem hlt, e2⟩
theorem ints_front {vs : List Value} {nl : List Nat} {e : Nat} {t : Tok} (h : IntsAre vs (toI nl.reverse)) : IntsAre (.int (e : Int) t :: vs) (toI (nl ++ [e]).reverse) := by
  rw [List.reverse_append]
  exact .cons (e : Int) t h
theorem KB.trans {L : Addr} {h₁ h₂ h₃ : Heap} (x : KB L h₁ h₂) (y : KB L h₂ h₃) : KB L h₁ h₃ := fun b o n e => y b o n (x b o n e)

theorem far_ahead {T : List Nat} {bx : List (Nat × Nat)} {fl : List Nat} (x : FarOk T bx fl) (hl : fl.length = bx.length + 1) : ∀ (k f : Nat), fl[k]? = some f → f ≤ T.length ∧ aN T bx k = List.range (f + 1)
  | 0, f, e => by
    rw [x.1] at e; cases e
    exact ⟨Nat.zero_le _, rfl⟩
  | k + 1, f, e => by
    have hk : k + 1 < fl.length := (List.getElem?_eq_some_iff.mp e).1
    have hb := List.getElem?_eq_getElem (l := fl) (show k < fl.length by omega)
    have hbx := List.getElem?_eq_getElem (l := bx) (show k < bx.length by omega)
    obtain ⟨h1, h2⟩ := far_ahead x hl k _ hb
    obtain ⟨g1, g2, g3⟩ := x.2 k bx[k].1 bx[k].2 _ f hbx hb e
    refine ⟨g1, ?_⟩
    show (match bx[k]? with | some (i, r) => stepA i r T (aN T bx k) | none => []) = _
    rw [hbx, h2]
    exact (stepA_far h1 g1 g2 g3).2
theorem near_behind {T : List Nat} {rb : List (Nat × Nat)} {nl : List Nat} (x : NearOk T rb nl) (hl : nl.length = rb.length + 1) : ∀ (k e : Nat), nl[k]? = some e → bN T rb k = from_ e T.length
  | 0, f, e => by
    rw [x.1] at e; cases e
    show [T.length] = (List.range (T.length + 1 - T.length)).map (T.length + ·)
    rw [Nat.add_sub_cancel_left]
    rfl
  | k + 1, f, e => by
    have hk : k + 1 < nl.length := (List.getElem?_eq_some_iff.mp e).1
    have hb := List.getElem?_eq_getElem (l := nl) (show k < nl.length by omega)
    have hbx := List.getElem?_eq_getElem (l := rb) (show k < rb.length by omega)
    have h2 := near_behind x hl k _ hb
    obtain ⟨g2, g3⟩ := x.2.2 k rb[k].1 rb[k].2 _ f hbx hb e
    show (match rb[k]? with | some (i, r) => stepB i r T (bN T rb k) | none => []) = _
    rw [hbx, h2]
    exact (stepB_near (x.2.1 f (List.mem_of_getElem? e)) (x.2.1 _ (List.mem_of_getElem? hb)) g2 g3).2
theorem ahead_eq {T : List Nat} {bx : List (Nat × Nat)} {fl : List Nat} (x : FarOk T bx fl) (hl : fl.length = bx.length + 1) : ((List.range (bx.length + 1)).map fun k => toI (aN T bx k)) = fl.map fun b => toI (List.range (b + 1)) :=
  map_at hl fun k b e => by rw [(far_ahead x hl k b e).2]
theorem behind_eq {T : List Nat} {bx : List (Nat × Nat)} {nl : List Nat} (x : NearOk T bx.reverse nl) (hl : nl.length = bx.length + 1) (hT : T.length = 8) : ((List.range (bx.length + 1)).map fun k => toI (bN T bx.reverse k)).reverse = nl.reverse.map fun b => toI (from_ b 8) := by
  rw [List.map_reverse]
  congr 1
  exact map_at hl fun k b e => by rw [near_behind x (by rw [List.length_reverse]; exact hl) k b e, hT]

theorem ints_snoc {fs : List Value} {fl : List Nat} {e : Nat} {t : Tok} (h : IntsAre fs (toI fl)) : IntsAre (fs ++ [.int (e : Int) t]) (toI (fl ++ [e])) := by
  have := h.append (.cons (e : Int) t .nil)
  simpa [toI] using this

theorem box_fit (a b : Int) (c : Nat) (hc : 0 < c) : ∃ i : Nat, (a.fdiv b).fmod (c : Int) = (i : Int) ∧ i < c := by
  have h := mod_small (a.fdiv b) (b := (c : Int)) (by omega)
  refine ⟨((a.fdiv b).fmod (c : Int)).toNat, ?_, ?_⟩ <;> omega

theorem sign_at (x : Str) (hx : x.length = 10) (a : Int) : ∃ (k c : Nat), a.fmod 10 = (k : Int) ∧ k < 1000 ∧ x.cps[k]? = some c := by
  have h := mod_small a (b := 10) (by decide)
  refine ⟨(a.fmod 10).toNat, x.cps[(a.fmod 10).toNat]'(by show _ < x.length; omega), by omega, by omega, ?_⟩
  rw [Array.getElem?_eq_getElem]

theorem text_len {vs : List Value} {ys : List Str} (h1 : ys.length = vs.length) (h2 : vs.length = 8) (h3 : ∀ y ∈ ys, y.length = 1) : (Txt.join (Str.ofString "") ys).length = 8 := by
  unfold Txt.join
  rw [PySem.size_glued, join_ones h3]
  have : (Str.ofString "").length = 0 := rfl
  rw [this, Nat.mul_zero]
  omega

theorem list8 {a1 a2 a3 a4 a5 a6 a7 a8 : Int} {p1 p2 p3 p4 p5 p6 p7 p8 pos : Pos} {Q : Value → Shared → Prop}
    (h : ∀ D vs h' tk, 8 ≤ tk → s.heap.StaysIn h' → IntsAre vs [a1, a2, a3, a4, a5, a6, a7, a8] → h'.IsList D (List.toArray vs) → Q (.ref D) { s with heap := h', toks := tk }) :
    wpAny (model prog w) A (eval (.List [.Constant (.int a1) 0 p1, .Constant (.int a2) 0 p2, .Constant (.int a3) 0 p3, .Constant (.int a4) 0 p4, .Constant (.int a5) 0 p5, .Constant (.int a6) 0 p6, .Constant (.int a7) 0 p7, .Constant (.int a8) 0 p8] pos) env) Q E s := by
  refine List_ ?_
  refine spliced_more ?_
  refine wpAny_Constant_int ?_
  refine spliced_more ?_
  refine wpAny_Constant_int ?_
  refine spliced_more ?_
  refine wpAny_Constant_int ?_
  refine spliced_more ?_
  refine wpAny_Constant_int ?_
  refine spliced_more ?_
  refine wpAny_Constant_int ?_
  refine spliced_more ?_
  refine wpAny_Constant_int ?_
  refine spliced_more ?_
  refine wpAny_Constant_int ?_
  refine spliced_more ?_
  refine wpAny_Constant_int ?_
  refine spliced_none ?_
  refine newListL ?_ (by show 8 ≤ _; rw [sizeLine_eq]; decide)
  intro N h₂ k₂ lN _ _
  exact h N _ h₂ _ (by show 8 ≤ s.toks + 1 + 1 + 1 + 1 + 1 + 1 + 1 + 1; omega) k₂ (.cons _ _ (.cons _ _ (.cons _ _ (.cons _ _ (.cons _ _ (.cons _ _ (.cons _ _ (.cons _ _ .nil)))))))) lN

theorem unitsDeep {A : Around} {env : Env} (h : A.units < 4000) : (A.deeper env).units < 5000 := by
  have : (A.deeper env).units ≤ A.units + 900 := by
    show _ ≤ _
    simp [Around.deeper]
    try omega
  omega
theorem unitsLaw {A : Around} {env : Env} (h : A.units < 4000) : (A.deeper env).units + 64 < cLine := by
  have := unitsDeep (env := env) h
  unfold cLine
  omega
theorem upTo_of {its : Array Value} {b : Nat} {t : Tok} (h : IntsAre its.toList (toI ((List.range (b + 1 - 0)).map (0 + ·)))) : IntsAre its.toList (upToF (.int (b : Int) t)) := by
  have e : (List.range (b + 1 - 0)).map (0 + ·) = List.range (b + 1) := by simp
  rw [e] at h
  exact h
theorem from_of {its : Array Value} {b : Nat} {t : Tok} (h : IntsAre its.toList (toI ((List.range (8 + 1 - b)).map (b + ·)))) : IntsAre its.toList (fromF (.int (b : Int) t)) := h

def c4 (L : Addr) : List Addr := [L, L + 1, L + 1 + 1, L + 1 + 1 + 1]
def K4 (L : Addr) (h₃ h : Heap) : Prop := ∀ b o, b ∉ [L, L + 1, L + 1 + 1, L + 1 + 1 + 1] → h₃.get? b = some o → h.get? b = some o
theorem K4.stays {L : Addr} {h₁ h h' : Heap} (x : K4 L h₁ h) (k : h.StaysIn h') : K4 L h₁ h' := fun b o n e => k _ _ (x b o n e)
theorem K4.but {L a : Addr} {h₁ h h' : Heap} (x : K4 L h₁ h) (k : ∀ b o, b ≠ a → h.get? b = some o → h'.get? b = some o) (ha : a ∈ c4 L ∨ h₁.get? a = none) : K4 L h₁ h' := fun b o n e =>
  k _ _ (fun q => by subst q; rcases ha with ha | ha; exact n ha; rw [ha] at e; cases e) (x b o n e)
/-- the state within one turn of law's last loop -/
structure LoopS (L I B Fa Nr : Addr) (x : Str) (tx tk : Tok) (h₃ g₁ : Heap) (k : Nat) (h : Heap) (m : Str → Option Value) : Prop where
  mB : m "boxes" = some (.ref B)
  mF : m "farthest" = some (.ref Fa)
  mN : m "nearest" = some (.ref Nr)
  mK : m "k" = some (.int (k : Int) tk)
  ns : h.Ns L m
  k4 : K4 L h₃ h
  cT : h.IsCell (L + 1) (some (.str x tx))
  kI : ∀ o, g₁.get? I = some o → h.get? I = some o

theorem LoopS.stays {L I B Fa Nr : Addr} {x : Str} {tx tk : Tok} {h₃ g₁ : Heap} {k : Nat} {h h' : Heap} {m : Str → Option Value} (S : LoopS L I B Fa Nr x tx tk h₃ g₁ k h m) (hk : h.StaysIn h') : LoopS L I B Fa Nr x tx tk h₃ g₁ k h' m :=
  ⟨S.mB, S.mF, S.mN, S.mK, S.ns.keeps hk, S.k4.stays hk, cell_keep S.cT (hk _), fun o e => hk _ _ (S.kI o e)⟩
theorem LoopS.but {L I B Fa Nr a : Addr} {x : Str} {tx tk : Tok} {h₃ g₁ : Heap} {k : Nat} {h h' : Heap} {m : Str → Option Value} (S : LoopS L I B Fa Nr x tx tk h₃ g₁ k h m) (hk : ∀ b o, b ≠ a → h.get? b = some o → h'.get? b = some o)
    (ha : a ∈ c4 L ∨ h₃.get? a = none) (n1 : L ≠ a) (n2 : L + 1 ≠ a) (n3 : I ≠ a) : LoopS L I B Fa Nr x tx tk h₃ g₁ k h' m :=
  ⟨S.mB, S.mF, S.mN, S.mK, S.ns.at' fun o e => hk _ _ n1 e, S.k4.but hk ha, cell_keep S.cT fun o e => hk _ _ n2 e, fun o e => hk _ _ n3 (S.kI o e)⟩
theorem pre_len {i : Nat} {x : Str} {j : Nat} (hj : j ≤ x.length) : (escT i (Txt.slice x none (some (j : Int)))).length = pre i x.cps.toList j := by
  have : (escT i (Txt.slice x none (some (j : Int)))).length = (escT i (Txt.slice x none (some (j : Int)))).cps.toList.length := by simp [Str.length]
  rw [this, escT_list, slice_upto hj]; rfl
theorem sizes_of {f : Nat → Int} : ∀ {n : Nat} {vs ys : List Value}, Paired (fun v y => ∀ (j : Nat) (t : Tok), v = Value.int (j : Int) t → ∃ t', y = Value.int (f j) t') vs ys → vs.length = n → (∀ (j : Nat) (v : Value), vs[j]? = some v → ∃ t, v = Value.int (j : Int) t) → IntsOf ys n f := by
  intro n vs ys hp hl hv
  have hl' := Paired.length hp
  refine ⟨by omega, fun j hj => ?_⟩
  have h1 := List.getElem?_eq_getElem (l := vs) (show j < vs.length by omega)
  obtain ⟨t, e⟩ := hv j _ h1
  have : ∀ {vs ys : List Value}, Paired (fun v y => ∀ (j : Nat) (t : Tok), v = Value.int (j : Int) t → ∃ t', y = Value.int (f j) t') vs ys → ∀ (q : Nat) (v : Value), vs[q]? = some v → ∀ (j : Nat) (t : Tok), v = Value.int (j : Int) t → ∃ t', ys[q]? = some (Value.int (f j) t') := by
    intro vs ys hp
    induction hp with
    | nil => intro q v e; simp at e
    | cons e x ih =>
      intro q v hq j t hv
      cases q with
      | zero =>
        simp at hq; subst hq
        obtain ⟨t', e'⟩ := e j t hv
        exact ⟨t', by rw [e']; rfl⟩
      | succ q => simpa using ih q v (by simpa using hq) j t hv
  exact this hp j _ h1 j t e
theorem lenFit {n : Nat} (h : n ≤ 48) : ¬ (n : Int) ≥ 2 ^ 63 := by omega
theorem intInj {a b : Int} {t u : Tok} (h : Value.int a t = Value.int b u) : a = b := by cases h; rfl
theorem cutS {st : Stmt} {rest : List Stmt} {Q : Flow → Shared → Prop} (Mid : Shared → Prop) (h1 : wpAny (model prog w) A (exec st env) (fun f s' => f = .next ∧ Mid s') E s) (h2 : ∀ s', Mid s' → wpAny (model prog w) A (execs rest env) Q E s') :
    wpAny (model prog w) A (execs (st :: rest) env) Q E s :=
  wpAny_execs_cons (wpAny_mono h1 (fun f s' h => by obtain ⟨rfl, h⟩ := h; exact h2 s' h) fun _ _ e => e)

theorem cutH {st : Stmt} {rest : List Stmt} {Q : Flow → Shared → Prop} (s₀ : Shared) (Mid : Heap → Nat → Prop) (h1 : wpAny (model prog w) A (exec st env) (fun f s' => f = .next ∧ ∃ h tk, s' = { s₀ with heap := h, toks := tk } ∧ Mid h tk) E s)
    (h2 : ∀ h tk, Mid h tk → wpAny (model prog w) A (execs rest env) Q E { s₀ with heap := h, toks := tk }) :
    wpAny (model prog w) A (execs (st :: rest) env) Q E s :=
  wpAny_execs_cons (wpAny_mono h1 (fun f s' h => by obtain ⟨rfl, h, tk, rfl, hm⟩ := h; exact h2 h tk hm) fun _ _ e => e)

theorem assignCompO {s : Shared} {elt iter : Expr} {x y : Str} {px py : Pos} {ifs : List Expr} {scope : Scope} {cl : List (Str × Addr)} {pos spos : Pos} {Q : Flow → Shared → Prop}
    (p : Value → Bool) (Gv : Value → Array Value → Prop)
    (hsw : swapsWith (.ListComp elt [⟨.Name x px, iter, ifs, 0⟩] scope pos) (some (.Name y py)) spos.line env = pure true)
    (hclos : closureFor scope env = pure cl) (hcell : ∀ z ∈ scope.names, z.2 ≠ .cell) (hkind : scope.kind = .function)
    (hnames : ∀ z ∈ scope.names, z.2 = .local → scope.names.lookup z.1 = some .local) (hx : scope.names.lookup x = some .local)
    (hy : env.kindOf y = some .local) (hp : (env.scope.kind == .class || (env.scope.kind == .module && env.locals != env.globals)) = false)
    (h : wpAny (model prog w) A (eval iter env) (fun xv s₁ => wpAny (model prog w) A (pyIter xv) (fun it s₂ => ∃ I fp wr n P St m, it = .ref I ∧ Walks prog w A I fp wr n P St ∧ n ≤ sizeLine ∧ (∀ i h, St i h → ∀ b ∈ wr, ∃ o, h.get? b = some o) ∧ St 0 s₂.heap ∧ (∀ b ∈ fp, b < s₂.heap.objs.size) ∧
      env.locals ∉ wr ∧ s₂.heap.Ns env.locals m ∧ QuietOnCO prog w A env scope cl x ifs elt wr P p Gv s₂ ∧
      (∀ D h' tk ys (vs : List Value), s₂.heap.get? D = none → h'.IsList D ys → vs.length = n → (∀ j v, vs[j]? = some v → P j v) → Paired (LstIs s₂.heap Gv h') (vs.filter p) ys.toList →
        h'.Ns env.locals (fun z => if z = y then some (.ref D) else m z) → (∀ b o, b ≠ env.locals → b ∉ wr → s₂.heap.get? b = some o → h'.get? b = some o) → Q .next { s₂ with heap := h', toks := tk })) E s₁) E s)
    (hs : ∀ x, foldedSetIterable iter env x = pure x := by intro _; rfl) :
    wpAny (model prog w) A (exec (.Assign [.Name y py] (.ListComp elt [⟨.Name x px, iter, ifs, 0⟩] scope pos) spos) env) Q E s := by
  rw [exec_Assign_Name_used _ _ _ _ hsw]
  refine wpAny_bind (wpAny_standAt (wpAny_bind ?_))
  show wpAny _ A (do let _ ← comprehension (.ListComp elt [⟨.Name x px, iter, ifs, 0⟩] scope pos) scope env _ (newList []) false (eval iter env) (some (assign (.Name y py) env))) _ _ s
  refine wpAny_bind (wpAny_mono (wpAny_comprehension_free (use := some (assign (.Name y py) env)) (Q := fun _ s' => Q .next s') rfl hs hclos hkind hnames
    (wpAny_mono h (fun xv s₁ h₁ => wpAny_mono h₁ (fun it s₂ h₂ => ?_) fun _ _ e => e) fun _ _ e => e)) (fun _ s' hq => wpAny_pure (wpAny_pure hq)) fun _ _ e => e)
  obtain ⟨I, fp, wr, n, P, St, m, rfl, W, hsz, hlive, hst, hfp, hLf, hn, hq, hQ⟩ := h₂
  refine comp_block_walkCO (RR := fun acc C => compPost (model prog w) A E (some (assign (.Name y py) env)) (fun _ s' => Q .next s') acc C) W hsz p Gv hlive hcell hkind hx hst hfp hq ?_
  intro D C h' tk m' ys vs hD hC hDC hnC hlD hplD hlen hP hF hnd hk
  have hLC : env.locals ≠ C := by rintro rfl; obtain ⟨o, _, _, ho, _⟩ := hn; rw [hC] at ho; cases ho
  have hLD : env.locals ≠ D := by rintro rfl; obtain ⟨o, _, _, ho, _⟩ := hn; rw [hD] at ho; cases ho
  have oldL : ∀ {T : Addr}, s₂.heap.get? T = none → T ≠ env.locals := fun e q => by subst q; obtain ⟨o, _, _, ho, _⟩ := hn; rw [e] at ho; cases ho
  show wpAny _ A (assign (.Name y py) env (.ref D)) _ _ _
  refine wpAny_assign_Name (wpAny_storeName_local hy (hn.at' fun o e => hk _ o hLf e) (fun h₂ hn₂ hs₂ => ?_) hp)
  refine ⟨m', hnC.sameBut hs₂ (Ne.symm hLC), fun h₃ hs₃ => ?_⟩
  refine hQ D h₃ _ ys vs hD ((hlD.extBut hs₂.extBut (Ne.symm hLD)).extBut hs₃.extBut hDC) hlen hP ?_ (hn₂.sameBut hs₃ hLC) fun b o hbL hbf e =>
    hs₃.extBut b o (by rintro rfl; rw [hC] at e; cases e) (hs₂.extBut b o hbL (hk b o hbf e))
  exact hF.mono fun _ _ hy => by
    obtain ⟨T, its, rfl, h1, hTC, _, _, hlT, hG⟩ := hy
    exact ⟨T, its, rfl, h1, (hlT.extBut hs₂.extBut (oldL h1)).extBut hs₃.extBut hTC, hG⟩

theorem enterC0 {f : Addr} {name qual : Str} {params : Arguments} {body : List Stmt} {scope : Scope} {dV kV doc pm cdv ct oc : Value} {an od : Option Addr} {osl : Array (Option Value)} {Q : Value → Shared → Prop} {pv : List Value} {kw : List (Str × Value)} {binds : List (Str × Value)}
    (G : Gr w mg mb s.heap) (ho : (KF w).lookup f = some ⟨oc, od, .func (fnOf name qual params body scope dV kV doc pm an cdv ct), osl⟩) (hcd : codeIn (KF w) cdv qual = true) (hroom : A.depth < recursionLimit)
    (hbind : BindsTo s (fnOf name qual params body scope dV kV doc pm an cdv ct) ⟨pv, kw⟩ binds) (hkind : (binds.all fun y => scope.names.lookup y.1 == some .local || scope.names.lookup y.1 == some .cell) = true)
    (hco : scope.isCoroutine = false) (hgen : scope.isGenerator = false) (hk : scope.kind = .function)
    (h : ∀ h₁ tk₁, Fr s.heap s.heap.objs.size h₁ (bindL (envOfC qual scope s.heap.objs.size f cdv).kindOf binds fun _ => none) →
      (∀ n c, (cellsFrom (s.heap.objs.size + 1) scope.names []).lookup n = some c → h₁.IsCell c (bindC (envOfC qual scope s.heap.objs.size f cdv).kindOf binds (fun _ => none) n)) →
      wpAny (model prog w) (A.deeper (envOfC qual scope s.heap.objs.size f cdv)) (execs body (envOfC qual scope s.heap.objs.size f cdv)) (fun fl s' => Q (match fl with | .ret v => v | _ => .none) s') (fun _ _ => False)
        { s with heap := h₁, toks := tk₁ }) :
    wpAny (model prog w) A (call (.ref f) pv kw) Q E s := by
  refine wpAny_call ?_
  refine codeAny_call_function (fd := fnOf name qual params body scope dV kV doc pm an cdv ct) (body := body) hroom (G.X _ _ ho) rfl hco hgen rfl (codeRec_of G.X hcd) (hbind _ _ _ _ ?_)
  refine wpAny_newFunctionEnv_cells hk (kindsX hkind _) fun env' he s' x => ?_
  subst he
  obtain ⟨h₁, tk, rfl, hk₁⟩ := x.done
  refine ⟨G.nolimit.keeps hk₁, codeAny_func ?_⟩
  exact wpAny_mono (h h₁ tk ⟨x.toInCall.ns, hk₁, Nat.le_refl _⟩ x.cell) (fun _ _ q => q) fun _ _ f => f.elim
theorem from1 {zs : List Value} {f : Nat → Int} (h : IntsOf zs 9 f) : (slicePick zs.toArray (some 1) none none).toList.length = 8 ∧ ∀ j, j < 8 → ∃ t, (slicePick zs.toArray (some 1) none none).toList[j]? = some (.int (f (j + 1)) t) := by
  have hi := slice_ints_fromW (intsOf_are h) (x := 1) (by decide)
  refine ⟨by rw [IntsAre.length hi]; simp, fun j hj => ?_⟩
  refine ints_at' hi j _ ?_
  rw [List.getElem?_drop, List.getElem?_map, List.getElem?_range (by show (1 : Int).toNat + j < 9; have : (1 : Int).toNat = 1 := rfl; omega)]
  show some (f ((1 : Int).toNat + j)) = _
  have : (1 : Int).toNat + j = j + 1 := by have : (1 : Int).toNat = 1 := rfl; omega
  rw [this]
theorem upto1 {zs : List Value} {f : Nat → Int} (h : IntsOf zs 9 f) : (slicePick zs.toArray none (some (-1)) none).toList.length = 8 ∧ ∀ j, j < 8 → ∃ t, (slicePick zs.toArray none (some (-1)) none).toList[j]? = some (.int (f j) t) := by
  have e : slicePick zs.toArray none (some (-1)) none = slicePick zs.toArray none (some 8) none := by
    have hs : zs.toArray.size = 9 := by rw [List.size_toArray]; exact h.1
    have hb : sliceBounds none (some (-1)) none 9 = sliceBounds none (some 8) none 9 := by decide
    unfold slicePick
    rw [hs, hb]
  have hi := slice_ints_uptoW (intsOf_are h) (y := 8) (by decide)
  rw [e]
  refine ⟨by rw [IntsAre.length hi]; simp, fun j hj => ?_⟩
  refine ints_at' hi j _ ?_
  have h8 : (8 : Int).toNat = 8 := rfl
  rw [h8, List.getElem?_take_of_lt hj, List.getElem?_map, List.getElem?_range (by omega)]
  rfl
theorem near_at {T : List Nat} {bx : List (Nat × Nat)} {nl : List Nat} (x : NearOk T bx.reverse nl) (hl : nl.length = bx.length + 1) {k i r : Nat} (hb : bx[k]? = some (i, r)) :
    ∃ b e, nl.reverse[k]? = some b ∧ nl.reverse[k + 1]? = some e ∧ b ≤ T.length ∧ e ≤ T.length ∧ (∀ j, j < b → ¬ cut i T j e ≤ r) ∧ (∀ j, b ≤ j → j < T.length → cut i T j e ≤ r) := by
  have hk : k < bx.length := (List.getElem?_eq_some_iff.mp hb).1
  have e1 : nl.reverse[k]? = nl[bx.length - k]? := by rw [List.getElem?_reverse (by omega), hl]; congr 1
  have e2 : nl.reverse[k + 1]? = nl[bx.length - 1 - k]? := by rw [List.getElem?_reverse (by omega), hl]; congr 1; omega
  have h1 := List.getElem?_eq_getElem (l := nl) (show bx.length - k < nl.length by omega)
  have h2 := List.getElem?_eq_getElem (l := nl) (show bx.length - 1 - k < nl.length by omega)
  have h3 : bx.reverse[bx.length - 1 - k]? = some (i, r) := by
    rw [List.getElem?_reverse (by omega), ← hb]; congr 1; omega
  have h4 : nl[bx.length - 1 - k + 1]? = some nl[bx.length - k] := by
    rw [← h1]; congr 1; omega
  obtain ⟨q1, q2⟩ := x.2.2 _ i r _ _ h3 h2 h4
  exact ⟨_, _, e1.trans h1, e2.trans h2, x.2.1 _ (List.getElem_mem _), x.2.1 _ (List.getElem_mem _), q1, q2⟩
theorem strs_refs {i : Nat} : ∀ {l : List Nat} {vs ys : List Value}, Paired (fun v y => ∀ (c : Nat) (t : Tok), v = Value.str ⟨#[c]⟩ t → ∃ t', y = Value.str (refS i c) t') vs ys → vs.length = l.length → (∀ (j : Nat) (v : Value), vs[j]? = some v → ∃ c u, l[j]? = some c ∧ v = Value.str ⟨#[c]⟩ u) → StrsAre ys (l.map (refS i))
  | [], _, _, .nil, _, _ => .nil
  | _ :: _, _, _, .nil, h, _ => nomatch h
  | [], _, _, .cons _ _, h, _ => nomatch h
  | c :: l, _, _, .cons e x, h, hv => by
    obtain ⟨c', u, h1, h2⟩ := hv 0 _ rfl
    cases h1
    obtain ⟨t', rfl⟩ := e c u h2
    exact .cons _ _ (strs_refs x (by simpa using h) fun j v hj => hv (j + 1) v (by simpa using hj))
theorem fit8 {b : Nat} (h : b ≤ 8) : (b : Int) < 2 ^ 63 := by omega
theorem k1 (k : Nat) : ((k : Int) + 1).toNat = k + 1 := by omega
theorem k1fit {k : Nat} (h : k < 5) : (k : Int) + 1 < 2 ^ 63 := by omega
theorem k1pos (k : Nat) : 0 ≤ (k : Int) + 1 := by omega
theorem toI_at {l : List Nat} {k b : Nat} (h : l[k]? = some b) : (toI l)[k]? = some (b : Int) := by rw [toI, List.getElem?_map, h]; rfl
end
end Mine

set_option Elab.async false
set_option maxRecDepth 100000
set_option maxHeartbeats 1000000
set_option linter.unusedVariables false
namespace Mine
open PySem PySem.W PySem.W.X PyProof.Rows PySem.Calls PySem.Spec
section
variable {prog : Program} {w : World} {A : Around} {E : Value → Shared → Prop} {s : Shared} {mg mb : Str → Option Value} {env : Env}

theorem law_call {a : Addr} {vs : List Value} {ns : List Int} {Q : Value → Shared → Prop} (G : Gr w mg mb s.heap) (hroom : A.depth < 500) (hunits : A.units < 4000) (hh : A.handled = none)
    (ha : s.heap.IsList a vs.toArray) (hi : IntsAre vs ns) (hlen : ns.length ≤ 63)
    (hT1 : TabS 90 "_law_farthest.<locals>.<lambda>" 123 42 s.heap) (hT2 : TabS 95 "_law_nearest.<locals>.<lambda>" 126 42 s.heap)
    (h : ∀ h' tk', (∀ b o, b ≠ 90 → b ≠ 95 → s.heap.get? b = some o → h'.get? b = some o) → TabS 90 "_law_farthest.<locals>.<lambda>" 123 42 h' → TabS 95 "_law_nearest.<locals>.<lambda>" 126 42 h' → Q (.bool true) { s with heap := h', toks := tk' }) :
    wpAny (model prog w) A (call (.ref 120) [.ref a]) Q E s := by
  refine enterC0 (binds := [("script", .ref a)]) G (by rfl) (by kernel_rfl!) (Nat.lt_trans hroom (by decide)) (BindsTo.of_eq (by rfl)) (by rfl) (by rfl) (by rfl) (by rfl) ?_
  intro h₁ tk₁ F C
  have cT := C "text" (s.heap.objs.size + 1) (by rfl)
  have cH := C "hand" (s.heap.objs.size + 1 + 1) (by rfl)
  have cR := C "references" (s.heap.objs.size + 1 + 1 + 1) (by rfl)
  replace cT : h₁.IsCell (s.heap.objs.size + 1) none := cT
  replace cH : h₁.IsCell (s.heap.objs.size + 1 + 1) none := cH
  replace cR : h₁.IsCell (s.heap.objs.size + 1 + 1 + 1) none := cR
  clear C
  have G₁ := G.keeps F.keep
  have gnone : ∀ c, s.heap.objs.size ≤ c → s.heap.get? c = none := fun c hc => Heap.get?_none_of_le hc
  have newI : ∀ {h h' : Heap} {c : Addr}, Fr s.heap s.heap.objs.size h (fun _ => none) → True := fun _ => trivial
  let L := s.heap.objs.size
  refine cutH s (fun h tk => ∃ m D ys l, Fr s.heap L h m ∧ m "drawn" = some (.ref D) ∧ h.IsList D (List.toArray ys) ∧ IntsAre ys l ∧ l.length = min 8 ns.length ∧ h.IsCell (L + 1) none ∧ h.IsCell (L + 1 + 1) none ∧ h.IsCell (L + 1 + 1 + 1) none) ?_ ?_
  · refine wpAny_Assign_ListComp_free (fun _ => true) (fun v y => ∃ (a : Int) (t : Tok), y = Value.int a t) (by rfl) (by rfl) (by decide) (by rfl) (by decide) (by rfl) (by rfl) (by rfl) ?_
    refine Subscript_ ?_
    refine nmL F.ns (by rfl) ?_
    refine wpAny_Slice ?_
    refine wpAny_evalPart_none ?_
    refine wpAny_evalPart_some ?_
    refine wpAny_Constant_int ?_
    refine wpAny_evalPart_none ?_
    refine sliceT (s := { s with heap := h₁, toks := _ }) (stays_list F.keep ha) .none (.int _ _) .none (by decide) (by rw [List.size_toArray, IntsAre.length hi, sizeLine_eq]; omega) ?_
    intro D h₂ k₂ nD eD
    have lD : h₂.IsList D (slicePick vs.toArray none (some 8) none).toList.toArray := ⟨_, by simpa using eD, rfl, 0, by simp⟩
    have hi8 := slice_ints_uptoW hi (y := 8) (by decide)
    refine iterList lD hh ?_
    intro I St h₃ k₃ nI ltI neI _ W hSt
    have k₁₃ : h₁.StaysIn h₃ := stays_trans k₂ k₃
    have nI₁ : h₁.get? I = none := by
      cases q : h₁.get? I with
      | none => rfl
      | some o => rw [k₂ _ _ q] at nI; cases nI
    have neI : ∀ {c : Addr} {o : Obj}, h₁.get? c = some o → c ≠ I := fun e q => by subst q; rw [e] at nI₁; cases nI₁
    have LI : s.heap.objs.size ≠ I := by obtain ⟨o, _, _, e, _⟩ := F.ns; exact neI e
    refine ⟨I, _, [I], _, _, St, _, rfl, W, ?_, hSt, ?_, fun q => LI (List.mem_singleton.mp q), (F.ns.keeps k₂).keeps k₃, ⟨?_, ?_⟩, ?_⟩
    · rw [IntsAre.length hi8, sizeLine_eq, List.length_take]; omega
    · intro b hb
      rcases List.mem_cons.mp hb with e | hb
      · rw [e]; exact ltI
      · rw [List.mem_singleton.mp hb]
        exact Heap.lt_size (k₃ _ _ eD)
    · intros
      exact testsNil
    · rintro C4 j4 v4 s₄ m₄ E4 hC4 hP4 _ hn4 hm4 hk4 ht4
      obtain ⟨n, t, _, rfl⟩ := ints_at hi8 _ _ hP4
      with_reducible refine wpAny_BinOp ?_
      refine nmL hn4 hm4 ?_
      refine wpAny_Constant_int ?_
      refine PyProof.Rows.mod_int (by decide) ?_
      exact ⟨⟨_, _, rfl⟩, _, _, rfl, fun _ _ e => e⟩
    · intro D4 h₄ tk₄ ys4 vs4 nD4 lD4 _ hvl4 hvP4 hpair4 hn₄ hkeep4
      rw [PySem.W.filter_all] at hpair4
      obtain ⟨l, il, ll⟩ := ints_paired hpair4
      have off : ∀ b o, b ≠ L → h₁.get? b = some o → h₄.get? b = some o := fun b o nb e => hkeep4 b o nb (fun q => neI e (List.mem_singleton.mp q)) (k₁₃ _ _ e)
      refine ⟨rfl, h₄, tk₄, rfl, _, D4, ys4.toList, l, ⟨hn₄, fun b o e => off b o (fun q => by subst q; rw [gnone _ (Nat.le_refl _)] at e; cases e) (F.keep b o e), Nat.le_refl _⟩, by rfl, by simpa using lD4, il, ?_, ?_, ?_, ?_⟩
      · rw [ll, hvl4, IntsAre.length hi8, List.length_take]
        rfl
      · exact cell_keep cT fun o e => off _ _ (Nat.ne_of_gt (by omega)) e
      · exact cell_keep cH fun o e => off _ _ (Nat.ne_of_gt (by omega)) e
      · exact cell_keep cR fun o e => off _ _ (Nat.ne_of_gt (by omega)) e
  clear cT cH cR F G₁ newI
  rintro h₁ tk₁ ⟨m, D, ys, l, F, mD, lD, il, ll, cT, cH, cR⟩
  have G₁ := G.keeps F.keep
  refine cutH s (fun h tk => 1 ≤ tk ∧ ∃ m D ys l, Fr s.heap L h m ∧ m "given" = some (.ref D) ∧ h.IsList D (List.toArray ys) ∧ IntsAre ys l ∧ l.length = 8 ∧ h.IsCell (L + 1) none ∧ h.IsCell (L + 1 + 1) none ∧ h.IsCell (L + 1 + 1 + 1) none) ?_ ?_
  · refine wpAny_Assign_Name ?_
    with_reducible refine wpAny_BinOp ?_
    refine nmL F.ns mD ?_
    refine Subscript_ ?_
    refine list8 ?_
    intro N ws h₂ tk₂ htk₂ k₂ iw lN
    refine wpAny_Slice ?_
    refine wpAny_evalPart_some ?_
    refine Call_ ?_
    refine nmB (v := .builtin "len") (G₁.keeps k₂) (by kernel_rfl!) (by kernel_rfl!) (by decide) ?_
    refine PyProof.Rows.callWith_builtin1 ?_
    refine spliced_more ?_
    refine nmL (F.ns.keeps k₂) mD ?_
    refine spliced_none ?_
    refine PyProof.Rows.len_list (stays_list k₂ lD) (by rw [List.size_toArray, IntsAre.length il]; omega) ?_
    refine wpAny_evalPart_none ?_
    refine wpAny_evalPart_none ?_
    refine sliceT (s := { s with heap := h₂, toks := _ }) lN (.int _ _) .none .none (by decide) (by rw [List.size_toArray, IntsAre.length iw, sizeLine_eq]; decide) ?_
    intro V h₃ k₃ nV eV
    have iV := slice_ints_fromW iw (x := (ys.toArray.size : Int)) (by omega)
    have lV : h₃.IsList V (slicePick ws.toArray (some (ys.toArray.size : Int)) none none).toList.toArray := ⟨_, by simpa using eV, rfl, 0, by simp⟩
    have e8 : ys.toArray.size = l.length := by rw [List.size_toArray, IntsAre.length il]
    have hlen8 := given_len ns.length l [317, 370, 481, 93, 154, 5, 6, 2] ll rfl
    rw [e8] at iV lV
    have k₁₃ : h₁.StaysIn h₃ := stays_trans k₂ k₃
    have ig := il.append iV
    refine addL (stays_list k₁₃ lD) lV (by rw [← List.length_append, IntsAre.length ig, hlen8, sizeLine_eq]; decide) ?_
    intro U h₄ k₄ nU eU
    refine wpAny_storeName_local (by rfl) ((F.ns.keeps k₁₃).keeps k₄) (fun h₅ hn₅ hs₅ => ?_) (by rfl)
    have off : ∀ b o, b ≠ L → h₁.get? b = some o → h₅.get? b = some o := fun b o nb e => hs₅.extBut _ _ nb (k₄ _ _ (k₁₃ _ _ e))
    have UL : U ≠ L := fun q => by subst q; obtain ⟨o, _, _, e, _⟩ := F.ns; rw [k₁₃ _ _ e] at nU; cases nU
    refine ⟨rfl, h₅, _, rfl, by omega, _, U, _, _, ((F.keeps k₁₃).keeps k₄).set hn₅ hs₅, by rfl, ⟨_, hs₅.extBut _ _ UL eU, rfl, 0, rfl⟩, ig, hlen8, ?_, ?_, ?_⟩
    · exact cell_keep cT fun o e => off _ _ (Nat.ne_of_gt (by omega)) e
    · exact cell_keep cH fun o e => off _ _ (Nat.ne_of_gt (by omega)) e
    · exact cell_keep cR fun o e => off _ _ (Nat.ne_of_gt (by omega)) e
  clear cT cH cR F G₁ mD lD il ll
  rintro h₁ tk₁ ⟨htk₁, m, D, ys, l, F, mD, lD, il, ll, cT, cH, cR⟩
  have G₁ := G.keeps F.keep
  refine cutH s (fun h tk => 1 ≤ tk ∧ ∃ m x tx, Fr s.heap L h m ∧ m "given" = some (.ref D) ∧ h.IsList D (List.toArray ys) ∧ h.IsCell (L + 1) (some (.str x tx)) ∧ x.length = 8 ∧ h.IsCell (L + 1 + 1) none ∧ h.IsCell (L + 1 + 1 + 1) none) ?_ ?_
  · refine wpAny_Assign_Name ?_
    refine MethodCall_ ?_
    refine wpAny_Constant_str ?_
    refine getMethod_builtin (typeIs_str _ _ _) PySem.F.plainAttrs_str PySem.F.slot_str_join PySem.F.type_str_join (fun a e => by cases e) ?_
    refine callWith_method1 ?_
    refine spliced_more ?_
    refine wpAny_with_toks (n := 1) (by dsimp only; omega) ?_
    refine wpAny_ListComp_free (fun _ => true) (fun v y => ∃ (c : Nat) (t : Tok), y = Value.str ⟨#[c]⟩ t) (by rfl) (by decide) (by rfl) (by decide) (by rfl) ?_
    refine nmL F.ns mD ?_
    refine iterList lD hh ?_
    intro I St h₃ k₃ nI ltI neDI _ W hSt
    have neI : ∀ {c : Addr} {o : Obj}, h₁.get? c = some o → c ≠ I := fun e q => by subst q; rw [e] at nI; cases nI
    refine ⟨I, _, [I], _, _, St, rfl, W, ?_, hSt, ?_, ⟨?_, ?_⟩, ?_⟩
    · rw [IntsAre.length il, sizeLine_eq, ll]; decide
    · intro b hb
      rcases List.mem_cons.mp hb with e | hb
      · rw [e]; exact ltI
      · rw [List.mem_singleton.mp hb]
        obtain ⟨o, e, _⟩ := lD
        exact Heap.lt_size (k₃ _ _ e)
    · intros
      exact testsNil
    · rintro C4 j4 v4 s₄ m₄ E4 hC4 hP4 _ hn4 hm4 hk4 ht4
      obtain ⟨n, t, _, rfl⟩ := ints_at il _ _ hP4
      refine Subscript_ ?_
      refine wpAny_Constant_str ?_
      with_reducible refine wpAny_BinOp ?_
      refine nmL hn4 hm4 ?_
      refine wpAny_Constant_int ?_
      refine PyProof.Rows.mod_int (by decide) ?_
      obtain ⟨k, c, ek, hk, hc⟩ := sign_at (Str.ofString "&<>\"\r\n\ta;#") (by rfl) n
      rw [ek]
      refine strItem hc hk ?_
      intro t' tk' _
      exact ⟨⟨_, _, rfl⟩, _, _, rfl, fun _ _ e => e⟩
    · intro D4 h₄ tk₄ ys4 vs4 nD4 lD4 _ hvl4 hvP4 hpair4 hkeep4 htk₄
      rw [PySem.W.filter_all] at hpair4
      have hpl := Paired.length hpair4
      obtain ⟨zs, hz1, hz2, hz3⟩ := strs_of (vs := ys4.toList) (paired_all (Pr := fun y => ∃ (c : Nat) (t : Tok), y = Value.str ⟨#[c]⟩ t) (fun _ _ e => e) hpair4)
      have hl8 : ys4.toList.length = 8 := by rw [← hpl, hvl4, IntsAre.length il, ll]
      have htx := text_len hz2 hl8 hz3
      have off : ∀ b o, h₁.get? b = some o → h₄.get? b = some o := fun b o e => hkeep4 b o (fun q => neI e (List.mem_singleton.mp q)) (k₃ _ _ e)
      refine spliced_none ?_
      refine wpAny_with_toks (n := 1) htk₄ ?_
      refine join_listW lD4 hz1 (by decide) (by rw [join_ones hz3, hz2, hl8]; decide) ?_
      intro t' k' hk'
      refine storeCell (cell_keep cT fun o e => off _ _ e) ?_
      intro h₅ cT₅ hs₅
      have off5 : ∀ b o, b ≠ L + 1 → h₁.get? b = some o → h₅.get? b = some o := fun b o nb e => hs₅.extBut _ _ nb (off _ _ e)
      have neD1 : D ≠ L + 1 := fun q => by
        obtain ⟨o, e, hc, n, hd⟩ := lD
        obtain ⟨o', e', hd'⟩ := cT
        rw [q, e'] at e; cases e; rw [hd] at hd'; cases hd'
      refine ⟨rfl, h₅, _, rfl, hk', m, _, t', (F.keeps off).change hs₅ (Nat.ne_of_gt (Nat.lt_succ_self _)) (gnone _ (Nat.le_succ _)), mD, list_keep lD fun o e => off5 _ _ neD1 e, cT₅, htx, ?_, ?_⟩
      · exact cell_keep cH fun o e => off5 _ _ (Nat.ne_of_gt (by omega)) e
      · exact cell_keep cR fun o e => off5 _ _ (Nat.ne_of_gt (by omega)) e
  clear cT cH cR F G₁ mD lD htk₁
  clear h₁ tk₁ m
  rintro h₁ tk₁ ⟨htk₁, m, x, tx, F, mD, lD, cT, hx, cH, cR⟩
  have G₁ := G.keeps F.keep
  refine cutH s (fun h tk => 1 ≤ tk ∧ ∃ m B bx, Fr s.heap L h m ∧ m "boxes" = some (.ref B) ∧ Boxes h B bx ∧ bx.length = 5 ∧ (∀ (k i r : Nat), bx[k]? = some (i, r) → i < 5) ∧ h.IsCell (L + 1) (some (.str x tx)) ∧ h.IsCell (L + 1 + 1) none ∧ h.IsCell (L + 1 + 1 + 1) none) ?_ ?_
  · refine wpAny_with_toks (n := 1) htk₁ ?_
    refine assignCompO (fun _ => true) BoxV (by rfl) (by rfl) (by decide) (by rfl) (by decide) (by rfl) (by rfl) (by rfl) ?_
    refine Subscript_ ?_
    refine nmL F.ns mD ?_
    refine wpAny_Slice ?_
    refine wpAny_evalPart_none ?_
    refine wpAny_evalPart_some ?_
    refine wpAny_Constant_int ?_
    refine wpAny_evalPart_none ?_
    refine sliceT (s := { s with heap := h₁, toks := _ }) lD .none (.int _ _) .none (by decide) (by rw [List.size_toArray, IntsAre.length il, sizeLine_eq]; omega) ?_
    intro V h₂ k₂ nV eV
    have lV : h₂.IsList V (slicePick ys.toArray none (some 5) none).toList.toArray := ⟨_, by simpa using eV, rfl, 0, by simp⟩
    have i5 := slice_ints_uptoW il (y := 5) (by decide)
    have l5 : (l.take (5 : Int).toNat).length = 5 := by rw [List.length_take, ll]; rfl
    refine iterList lV hh ?_
    intro I St h₃ k₃ nI' ltI neVI hSt' W hSt
    have k₁₃ : h₁.StaysIn h₃ := stays_trans k₂ k₃
    have nI : h₁.get? I = none := by
      cases q : h₁.get? I with
      | none => rfl
      | some o => rw [k₂ _ _ q] at nI'; cases nI'
    have neI : ∀ {c : Addr} {o : Obj}, h₁.get? c = some o → c ≠ I := fun e q => by subst q; rw [e] at nI; cases nI
    have LI : s.heap.objs.size ≠ I := by obtain ⟨o, _, _, e, _⟩ := F.ns; exact neI e
    refine ⟨I, _, [I], _, _, St, _, rfl, W, ?_, ?_, hSt, ?_, fun q => LI (List.mem_singleton.mp q), F.ns.keeps k₁₃, ⟨?_, ?_⟩, ?_⟩
    · rw [IntsAre.length i5, sizeLine_eq, l5]; decide
    · intro i h st b hb
      rw [List.mem_singleton.mp hb]
      obtain ⟨o, e, _⟩ := hSt' i h st
      exact ⟨o, e⟩
    · intro b hb
      rcases List.mem_cons.mp hb with e | hb
      · rw [e]; exact ltI
      · rw [List.mem_singleton.mp hb]
        exact Heap.lt_size (k₃ _ _ eV)
    · intros
      exact testsNil
    · rintro C4 j4 v4 s₄ m₄ E4 hC4 hP4 _ hn4 hm4 hk4 ht4
      obtain ⟨n, t, _, rfl⟩ := ints_at i5 _ _ hP4
      refine List_ ?_
      refine spliced_more ?_
      with_reducible refine wpAny_BinOp ?_
      with_reducible refine wpAny_BinOp ?_
      refine nmL hn4 hm4 ?_
      refine wpAny_Constant_int ?_
      refine PyProof.Rows.floordiv_int (by decide) ?_ (Or.inl (PyProof.noPylong_small (by decide)))
      refine wpAny_Constant_int ?_
      refine PyProof.Rows.mod_int (by decide) ?_
      refine spliced_more ?_
      with_reducible refine wpAny_BinOp ?_
      with_reducible refine wpAny_BinOp ?_
      refine nmL hn4 hm4 ?_
      refine wpAny_Constant_int ?_
      refine PyProof.Rows.floordiv_int (by decide) ?_ (Or.inl (PyProof.noPylong_small (by decide)))
      refine wpAny_Constant_int ?_
      refine PyProof.Rows.mod_int (by decide) ?_
      refine spliced_none ?_
      refine newListL ?_ (by show 2 ≤ _; rw [sizeLine_eq]; decide)
      intro T h₅ k₅ lT nT _
      obtain ⟨i, ei, hi5⟩ := box_fit n 10 5 (by decide)
      obtain ⟨r, er, _⟩ := box_fit n 50 10 (by decide)
      exact ⟨⟨T, _, rfl, nT, lT, i, r, _, _, by rw [← ei, ← er]; rfl, hi5⟩, h₅, _, rfl, k₅⟩
    · intro D4 h₄ tk₄ ys4 vs4 nD4 lD4 hvl4 hvP4 hpair4 hn₄ hkeep4 htk₄
      rw [PySem.W.filter_all] at hpair4
      obtain ⟨bx, b1, b2, b3, b4⟩ := boxes_of hpair4
      have off : ∀ b o, b ≠ L → h₁.get? b = some o → h₄.get? b = some o := fun b o nb e => hkeep4 b o nb (fun q => neI e (List.mem_singleton.mp q)) (k₁₃ _ _ e)
      refine ⟨rfl, h₄, tk₄, rfl, htk₄, _, D4, bx, ⟨hn₄, fun b o e => off b o (fun q => by subst q; rw [gnone _ (Nat.le_refl _)] at e; cases e) (F.keep b o e), Nat.le_refl _⟩, by rfl, ⟨ys4.toList, by simpa using lD4, b1.symm, b4⟩, ?_, b3, ?_, ?_, ?_⟩
      · rw [b1, b2, hvl4, IntsAre.length i5, l5]
      · exact cell_keep cT fun o e => off _ _ (Nat.ne_of_gt (by omega)) e
      · exact cell_keep cH fun o e => off _ _ (Nat.ne_of_gt (by omega)) e
      · exact cell_keep cR fun o e => off _ _ (Nat.ne_of_gt (by omega)) e
  clear cT cH cR F G₁ mD lD htk₁ il ll
  clear h₁ tk₁ m D ys l
  rintro h₁ tk₁ ⟨htk₁, m, B, bx, F, mB, hB, hbl, hbx, cT, cH, cR⟩
  have T1 := hT1.keeps F.keep
  have T2 := hT2.keeps F.keep
  have sNB : ∀ (b : Addr) (o : Obj), s.heap.get? b = some o → b ≠ 90 → b ≠ 95 → b ∉ bad L := fun b o e n1 n2 q => by
    have hb : b < L := Heap.lt_size e
    simp only [bad, List.mem_cons, List.not_mem_nil, or_false] at q
    rcases q with q | q | q | q | q | q
    · exact absurd hb (by rw [q]; exact Nat.lt_irrefl _)
    · exact absurd hb (by rw [q]; exact Nat.not_lt.mpr (Nat.le_add_right _ 1))
    · exact absurd hb (by rw [q]; exact Nat.not_lt.mpr (Nat.le_add_right _ 2))
    · exact absurd hb (by rw [q]; exact Nat.not_lt.mpr (Nat.le_add_right _ 3))
    · exact n1 q
    · exact n2 q
  have hK : ∀ h, KB L h₁ h → ∀ b o, b ≠ 90 → b ≠ 95 → s.heap.get? b = some o → h.get? b = some o := fun h x b o n1 n2 e => x b o (sNB b o e n1 n2) (F.keep b o e)
  have hG : ∀ h, KB L h₁ h → Gr w mg mb h := fun h x => G.but2 hT1 hT2 (by rfl) (by rfl) (hK h x)
  obtain ⟨items, lB, hil, hit⟩ := hB
  have BNB := not_bad lB F.ns cT cH cR T1 T2
  have hBx : ∀ h, KB L h₁ h → h.IsList B items.toArray ∧ ∀ (k i r : Nat), bx[k]? = some (i, r) → ∃ (b : Addr) (tw tr : Tok), items[k]? = some (Value.ref b) ∧ h.IsList b #[Value.int i tw, Value.int r tr] := fun h x => by
    refine ⟨list_keep lB fun o e => x _ _ BNB e, fun k i r e => ?_⟩
    obtain ⟨b, tw, tr, e1, lb⟩ := hit k i r e
    exact ⟨b, tw, tr, e1, list_keep lb fun o e => x _ _ (not_bad lb F.ns cT cH cR T1 T2) e⟩
  have L90 : (90 : Addr) ≠ L := fun q => by rcases hT1 with e | ⟨_, e, _⟩ <;> (rw [q, gnone _ (Nat.le_refl _)] at e; cases e)
  have L95 : (95 : Addr) ≠ L := fun q => by rcases hT2 with e | ⟨_, e, _⟩ <;> (rw [q, gnone _ (Nat.le_refl _)] at e; cases e)
  have n9 : (90 : Addr) ≠ 95 := by decide
  have hx8 : x.length ≤ 8 := by omega
  have hTl : x.cps.toList.length = 8 := by rw [← hx]; simp [Str.length]
  have ns1 : h₁.Ns L m := F.ns
  have hfar : ∀ h, KB L h₁ h → True := fun _ _ => trivial
  clear hfar lB hit F
  refine cutH s (fun h tk => 1 ≤ tk ∧ ∃ m Fa n0 fs, h.Ns L m ∧ m "boxes" = some (.ref B) ∧ m "farthest" = some (.ref Fa) ∧ h₁.get? Fa = none ∧ h.get? Fa = some { cls := .type "list", data := .seq (List.toArray fs) n0 } ∧ IntsAre fs (toI [0]) ∧ KB L h₁ h ∧ h.IsCell (L + 1) (some (.str x tx)) ∧ h.IsCell (L + 1 + 1) none ∧ h.IsCell (L + 1 + 1 + 1) none ∧
      TabS 90 "_law_farthest.<locals>.<lambda>" 123 42 h ∧ TabS 95 "_law_nearest.<locals>.<lambda>" 126 42 h) ?_ ?_
  · refine wpAny_Assign_Name ?_
    refine List_ ?_
    refine spliced_more ?_
    refine wpAny_Constant_int ?_
    refine spliced_none ?_
    refine newListL ?_ (by show 1 ≤ _; rw [sizeLine_eq]; decide)
    intro Fa h₂ k₂ lF nF eF
    refine wpAny_storeName_local (by rfl) (ns1.keeps k₂) (fun h₃ hn₃ hs₃ => ?_) (by rfl)
    have FL : Fa ≠ L := fun q => by subst q; obtain ⟨o, _, _, e, _⟩ := ns1; rw [e] at nF; cases nF
    have neL1 : L + 1 ≠ L := Nat.ne_of_gt (by omega)
    have neL2 : L + 1 + 1 ≠ L := Nat.ne_of_gt (by omega)
    have neL3 : L + 1 + 1 + 1 ≠ L := Nat.ne_of_gt (by omega)
    refine ⟨rfl, h₃, _, rfl, by dsimp only; omega, _, Fa, 0, _, hn₃, mB, by rfl, nF, hs₃.extBut _ _ FL eF, .cons _ _ .nil, ?_, ?_, ?_, ?_, ?_, ?_⟩
    · exact KB.but (a := L) (fun b o _ e => k₂ _ _ e) hs₃.extBut (.inl (by simp [bad]))
    · exact cell_keep cT fun o e => hs₃.extBut _ _ neL1 (k₂ _ _ e)
    · exact cell_keep cH fun o e => hs₃.extBut _ _ neL2 (k₂ _ _ e)
    · exact cell_keep cR fun o e => hs₃.extBut _ _ neL3 (k₂ _ _ e)
    · exact (T1.keeps k₂).same (.ns (ns1.keeps k₂)) L90 hs₃.extBut
    · exact (T2.keeps k₂).same (.ns (ns1.keeps k₂)) L95 hs₃.extBut
  clear cT cH cR T1 T2 mB htk₁ ns1
  clear tk₁ m
  rintro h₂ tk₂ ⟨htk₂, m, Fa, n0, fs, N, mB, mF, nF, eF, iF, kb, cT, cH, cR, T1, T2⟩
  refine cutH s (fun h tk => 1 ≤ tk ∧ ∃ m n0 fs fl, h.Ns L m ∧ m "boxes" = some (.ref B) ∧ m "farthest" = some (.ref Fa) ∧ h.get? Fa = some { cls := .type "list", data := .seq (List.toArray fs) n0 } ∧ IntsAre fs (toI fl) ∧ fl.length = 6 ∧ FarOk x.cps.toList bx fl ∧ KB L h₁ h ∧ h.IsCell (L + 1) (some (.str x tx)) ∧ h.IsCell (L + 1 + 1) none ∧ h.IsCell (L + 1 + 1 + 1) none ∧
      TabS 90 "_law_farthest.<locals>.<lambda>" 123 42 h ∧ TabS 95 "_law_nearest.<locals>.<lambda>" 126 42 h) ?_ ?_
  · refine wpAny_For ?_
    refine nmL N mB ?_
    refine iterList (hBx _ kb).1 hh ?_
    intro I St h₃ k₃ nI ltI neBI hSt W hSt0
    have neI : ∀ {c : Addr} {o : Obj}, h₂.get? c = some o → c ≠ I := fun e q => by subst q; rw [e] at nI; cases nI
    have LI : L ≠ I := by obtain ⟨o, _, _, e, _⟩ := N; exact neI e
    have I1 : L + 1 ≠ I := by obtain ⟨o, e, _⟩ := cT; exact neI e
    have I2 : L + 1 + 1 ≠ I := by obtain ⟨o, e, _⟩ := cH; exact neI e
    have I3 : L + 1 + 1 + 1 ≠ I := by obtain ⟨o, e, _⟩ := cR; exact neI e
    have I90 : (90 : Addr) ≠ I := by obtain ⟨o, e, _⟩ := NotRec.tab T1; exact neI e
    have I95 : (95 : Addr) ≠ I := by obtain ⟨o, e, _⟩ := NotRec.tab T2; exact neI e
    have FI : Fa ≠ I := neI eF
    have nI₁ : h₁.get? I = none := by
      cases q : h₁.get? I with
      | none => rfl
      | some o =>
        refine absurd rfl (neI (kb I o ?_ q))
        simp only [bad, List.mem_cons, List.not_mem_nil, or_false, not_or]
        exact ⟨Ne.symm LI, Ne.symm I1, Ne.symm I2, Ne.symm I3, Ne.symm I90, Ne.symm I95⟩
    have lF : h₂.IsList Fa fs.toArray := ⟨_, eF, rfl, n0, rfl⟩
    have FL := list_ne_ns lF N
    have F1 := list_ne_cell lF cT
    have F2 := list_ne_cell lF cH
    have F3 := list_ne_cell lF cR
    have F90 := list_ne_tab lF T1
    have F95 := list_ne_tab lF T2
    have neL1 : L + 1 ≠ L := Nat.ne_of_gt (by omega)
    have neL2 : L + 1 + 1 ≠ L := Nat.ne_of_gt (by omega)
    have neL3 : L + 1 + 1 + 1 ≠ L := Nat.ne_of_gt (by omega)
    have P90 : (90 : Addr) ∉ [L, I] := by simp only [List.mem_cons, List.not_mem_nil, or_false, not_or]; exact ⟨L90, I90⟩
    have P95 : (95 : Addr) ∉ [L, I] := by simp only [List.mem_cons, List.not_mem_nil, or_false, not_or]; exact ⟨L95, I95⟩
    have BL : B ≠ L := fun q => BNB (by simp [bad, q])
    have B90 : B ≠ 90 := fun q => BNB (by simp [bad, q])
    have BF : B ≠ Fa := fun q => by
      obtain ⟨o, e, _⟩ := (hBx _ (fun b o _ e => e : KB L h₁ h₁)).1
      rw [q, nF] at e; cases e
    have c1_90 : L + 1 ≠ 90 := fun q => by
      obtain ⟨o, e, d⟩ := cT
      obtain ⟨o', e', d'⟩ := NotRec.tab T1
      rcases T1 with z | ⟨_, z, _⟩ <;> (rw [q, z] at e; cases e; cases d)
    have c2_90 : L + 1 + 1 ≠ 90 := fun q => by
      obtain ⟨o, e, d⟩ := cH
      rcases T1 with z | ⟨_, z, _⟩ <;> (rw [q, z] at e; cases e; cases d)
    have c3_90 : L + 1 + 1 + 1 ≠ 90 := fun q => by
      obtain ⟨o, e, d⟩ := cR
      rcases T1 with z | ⟨_, z, _⟩ <;> (rw [q, z] at e; cases e; cases d)
    refine forX (g := { objs := #[] }) (L := L) W (by rfl) LI (fun h => ∃ i, h.IsListIter I B i) (fun i h st => ⟨i, hSt i h st⟩)
      (fun k h m => m "boxes" = some (.ref B) ∧ m "farthest" = some (.ref Fa) ∧ KB L h₁ h ∧ h.IsCell (L + 1) (some (.str x tx)) ∧ h.IsCell (L + 1 + 1) none ∧ h.IsCell (L + 1 + 1 + 1) none ∧
        TabV [L, I] 90 "_law_farthest.<locals>.<lambda>" 123 42 h ∧ TabV [L, I] 95 "_law_nearest.<locals>.<lambda>" 126 42 h ∧
        ∃ fs n0 fl, h.get? Fa = some { cls := .type "list", data := .seq (List.toArray fs) n0 } ∧ IntsAre fs (toI fl) ∧ fl.length = k + 1 ∧ FarOk x.cps.toList bx fl)
      ?_ (fun i v h tk Q' E' hP st hq => ?_) ?_ hSt0 ⟨N.keeps k₃, fun b o e => by simp [Heap.get?] at e, Nat.zero_le _⟩ ?_ (by dsimp only; omega) ?_
    · rintro k h h' m ⟨m1, m2, kb', c1, c2, c3, t1, t2, fs, n0, fl, e1, e2, e3, e4⟩ hk
      refine ⟨m1, m2, fun b o n e => hk b o (fun q => by rw [q, nI₁] at e; cases e) (fun q => n (by simp [bad, q])) (kb' b o n e), cell_keep c1 fun o e => hk _ _ I1 neL1 e, cell_keep c2 fun o e => hk _ _ I2 neL2 e, cell_keep c3 fun o e => hk _ _ I3 neL3 e, t1.mono P90 ?_, t2.mono P95 ?_, fs, n0, fl, hk _ _ FI FL e1, e2, e3, e4⟩
      · intro b o hb e
        exact hk b o (fun q => hb (by simp [q])) (fun q => hb (by simp [q])) e
      · intro b o hb e
        exact hk b o (fun q => hb (by simp [q])) (fun q => hb (by simp [q])) e
    · have hlt : i < bx.length := by rw [← hil]; exact (List.getElem?_eq_some_iff.mp hP).1
      obtain ⟨b, tw, tr, e1, _⟩ := (hBx _ kb).2 i bx[i].1 bx[i].2 (List.getElem?_eq_getElem hlt)
      rw [e1] at hP
      cases hP
      exact wpAny_letOwnedTupleGo_listiter (hSt _ _ st) hq
    · rintro k v g₁ tq₁ m₁ Q' E' hk hP htq₁ F₁ ⟨m1, m2, kb', c1, c2, c3, t1, t2, fs, n0, fl, e1, e2, e3, e4⟩ ⟨iI, hI⟩ hQ
      have hlt : k < bx.length := by rw [← hil]; exact hk
      have hbk := List.getElem?_eq_getElem hlt
      obtain ⟨b, tw, tr, e1', lb⟩ := (hBx _ kb').2 k bx[k].1 bx[k].2 hbk
      rw [e1'] at hP
      cases hP
      have hi5 := hbx k bx[k].1 bx[k].2 hbk
      generalize bx[k] = ir at lb hi5 hbk
      obtain ⟨i, r⟩ := ir
      dsimp only at lb hi5
      obtain ⟨bq, tb, hl1, hl2⟩ := last_ints e2 (by rw [e3]; exact Nat.succ_pos k)
      refine assignPair hh lb ?_
      intro g₂ kg₂
      have ns₂ := F₁.ns.keeps kg₂
      refine wpAny_assign_Name ?_
      refine wpAny_storeName_local (by rfl) ns₂ (fun g₃ hn₃ hs₃ => ?_) (by rfl)
      refine wpAny_assign_Name ?_
      refine wpAny_storeName_local (by rfl) hn₃ (fun g₄ hn₄ hs₄ => ?_) (by rfl)
      have off14 : ∀ b o, b ≠ L → g₁.get? b = some o → g₄.get? b = some o := fun b o n e => hs₄.extBut _ _ n (hs₃.extBut _ _ n (kg₂ _ _ e))
      have kb₄ : KB L h₁ g₄ := kb'.but off14 (.inl (by simp [bad]))
      have G₄ := hG _ kb₄
      have T1₄ := ((t1.toS.keeps kg₂).same (.ns ns₂) L90 hs₃.extBut).same (.ns hn₃) L90 hs₄.extBut
      have T2₄ := ((t2.toS.keeps kg₂).same (.ns ns₂) L95 hs₃.extBut).same (.ns hn₃) L95 hs₄.extBut
      have eF₄ := off14 _ _ FL e1
      have c1₄ := cell_keep c1 fun o e => off14 _ _ neL1 e
      have c2₄ := cell_keep c2 fun o e => off14 _ _ neL2 e
      have c3₄ := cell_keep c3 fun o e => off14 _ _ neL3 e
      have hI₄ : g₄.IsListIter I B iI := by obtain ⟨o, e, d⟩ := hI; exact ⟨o, off14 _ _ (Ne.symm LI) e, d⟩
      with_reducible refine wpAny_execs_cons ?_
      refine wpAny_Expr ?_
      refine MethodCall_ ?_
      refine nmL hn₄ m2 ?_
      refine getMethod_list_append eF₄ rfl rfl ?_
      refine callWith_method1 ?_
      refine spliced_more ?_
      refine Call_ ?_
      refine nmG (v := .ref 93) G₄ (by kernel_rfl!) ?_
      refine callWith_K G₄.X (by kernel_rfl!) ?_
      refine spliced_more ?_
      refine Call_ ?_
      refine nmG (v := .ref 81) G₄ (by kernel_rfl!) ?_
      refine callWith_K G₄.X (by kernel_rfl!) ?_
      refine spliced_more ?_
      refine nmL hn₄ (by rfl) ?_
      refine spliced_none ⟨G₄.X, ?_⟩
      refine wpAny_with_toks (n := 1) (by dsimp only; omega) ?_
      refine hand_call hi5 G₄ (by show A.depth + 1 < _; exact Nat.lt_trans (Nat.succ_lt_succ hroom) (by decide)) ?_
      intro g₅ tq₅ kg₅ htq₅
      have kb₅ := kb₄.stays kg₅
      have G₅ := hG _ kb₅
      have ns₅ := hn₄.keeps kg₅
      have T1₅ := T1₄.keeps kg₅
      have T2₅ := T2₄.keeps kg₅
      have eF₅ := kg₅ _ _ eF₄
      have c1₅ := cell_keep c1₄ (kg₅ _)
      refine spliced_more ?_
      refine nmL ns₅ (by rfl) ?_
      refine spliced_more ?_
      refine nmC (c := L + 1) (by rfl) c1₅ ?_
      refine spliced_more ?_
      refine Subscript_ ?_
      refine nmL ns₅ m2 ?_
      refine UnaryOp_ ?_
      refine wpAny_Constant_int ?_
      refine neg_int ?_
      refine itemNeg ⟨_, eF₅, rfl, n0, rfl⟩ hl2 ?_
      refine spliced_none ⟨G₅.X, ?_⟩
      refine farthest_call hi5 G₅ (by show A.depth + 1 < _; omega) hh (by dsimp only; omega) hx8 T1₅ (fun e e' he _ => cut_mono i _ bq (Nat.succ_le_succ he)) ?_
      intro r' t' g₆ tq₆ htq₆ kg₆ T1₆ hr1 hr2 hr3
      have off16 : ∀ b o, b ≠ L → b ≠ 90 → g₁.get? b = some o → g₆.get? b = some o := fun b o n1 n2 e => kg₆ _ _ n2 (kg₅ _ _ (off14 _ _ n1 e))
      have kb₆ : KB L h₁ g₆ := kb₅.but kg₆ (.inl (by simp [bad]))
      have T2₆ := T2₅.same (.tab T1₅) (Ne.symm n9) kg₆
      have ns₆ := ns₅.at' fun o e => kg₆ _ _ (Ne.symm L90) e
      have eF₆ := kg₆ _ _ F90 eF₅
      refine spliced_none ?_
      refine wpAny_list_append_plain ⟨n0, eF₆⟩ ?_ (by rw [List.size_toArray, IntsAre.length e2, toI, List.length_map, e3]; exact fitK hlt (by rw [hbl]; decide))
      rintro g₇ ⟨n1, pF⟩ hs₇
      refine wpAny_execs_nil ?_
      have off17 : ∀ b o, b ≠ L → b ≠ 90 → b ≠ Fa → g₁.get? b = some o → g₇.get? b = some o := fun b o n1 n2 n3 e => hs₇.extBut _ _ n3 (off16 _ _ n1 n2 e)
      have lF₆ : g₆.IsList Fa fs.toArray := ⟨_, eF₆, rfl, n0, rfl⟩
      have ns₇ := ns₆.at' fun o e => hs₇.extBut _ _ (Ne.symm FL) e
      have T1₇ := T1₆.same (.list lF₆) (Ne.symm F90) hs₇.extBut
      have T2₇ := T2₆.same (.list lF₆) (Ne.symm F95) hs₇.extBut
      have hI₇ : g₇.IsListIter I B iI := by obtain ⟨o, e, d⟩ := hI; exact ⟨o, off17 _ _ (Ne.symm LI) (Ne.symm I90) (Ne.symm FI) e, d⟩
      have nr : ∀ a ∈ [L, I], NotRec g₇ a := fun a ha => by
        rcases List.mem_cons.mp ha with q | ha
        · rw [q]; exact .ns ns₇
        · rw [List.mem_singleton.mp ha]; exact .iter hI₇
      refine hQ g₇ _ _ htq₆ ⟨ns₇, fun b o e => by simp [Heap.get?] at e, Nat.zero_le _⟩ ⟨m1, m2, kb₆.but hs₇.extBut (.inr nF), cell_keep c1 fun o e => off17 _ _ neL1 c1_90 (Ne.symm F1) e, cell_keep c2 fun o e => off17 _ _ neL2 c2_90 (Ne.symm F2) e, cell_keep c3 fun o e => off17 _ _ neL3 c3_90 (Ne.symm F3) e, T1₇.toV nr, T2₇.toV nr, fs ++ [.int ((r' : Nat) : Int) t'], n1, fl ++ [r'], by simpa using pF, ints_snoc e2, by simp [e3], ?_⟩ ?_
      · refine e4.snoc (by rw [e3]; exact hbk) hl1 (by rw [hTl]; omega) (fun j hj => Int.ofNat_le.mp (hr2 j hj)) (fun j h1 h2 z => hr3 j h1 (by rw [hTl] at h2; omega) (Int.ofNat_le.mpr z))
      · intro b hb o e
        rcases List.mem_cons.mp hb with q | hb
        · subst q; exact off17 _ _ (Ne.symm LI) (Ne.symm I90) (Ne.symm FI) e
        · have q := List.mem_singleton.mp hb
          subst q; exact off17 _ _ BL B90 BF e
    · have nr : ∀ a ∈ [L, I], NotRec h₃ a := fun a ha => by
        rcases List.mem_cons.mp ha with q | ha
        · rw [q]; exact .ns (N.keeps k₃)
        · rw [List.mem_singleton.mp ha]; exact .iter (hSt 0 _ hSt0)
      exact ⟨mB, mF, kb.stays k₃, cell_keep cT (k₃ _), cell_keep cH (k₃ _), cell_keep cR (k₃ _), (T1.keeps k₃).toV nr, (T2.keeps k₃).toV nr, fs, n0, [0], k₃ _ _ eF, iF, rfl, rfl, fun k i r b e _ _ q => by simp at q⟩
    · rintro h₄ tk₄ m₄ htk₄ F₄ ⟨m1, m2, kb', c1, c2, c3, t1, t2, fs, n0, fl, e1, e2, e3, e4⟩
      exact ⟨rfl, h₄, tk₄, rfl, htk₄, m₄, n0, fs, fl, F₄.ns, m1, m2, e1, e2, by rw [e3, hil, hbl], e4, kb', c1, c2, c3, t1.toS, t2.toS⟩
  clear cT cH cR T1 T2 mB mF htk₂ N kb eF iF
  clear tk₂ m h₂ n0 fs
  rintro h₂ tk₂ ⟨htk₂, m, n0, fs, fl, N, mB, mF, eF, iF, lF6, hFar, kb, cT, cH, cR, T1, T2⟩
  have hK := fun h (y : KB L h₂ h) => hK h (kb.trans y)
  have hG := fun h (y : KB L h₂ h) => hG h (kb.trans y)
  have hBx := fun h (y : KB L h₂ h) => hBx h (kb.trans y)
  have lFa : h₂.IsList Fa fs.toArray := ⟨_, eF, rfl, n0, rfl⟩
  have FNB := not_bad lFa N cT cH cR T1 T2
  have hFa : ∀ h, KB L h₂ h → h.IsList Fa fs.toArray := fun h y => list_keep lFa fun o e => y _ _ FNB e
  clear kb nF
  clear sNB eF n0
  refine cutH s (fun h tk => 1 ≤ tk ∧ ∃ m Nr n0 vs, h.Ns L m ∧ m "boxes" = some (.ref B) ∧ m "farthest" = some (.ref Fa) ∧ m "nearest" = some (.ref Nr) ∧ h₂.get? Nr = none ∧ h.get? Nr = some { cls := .type "list", data := .seq (List.toArray vs) n0 } ∧ IntsAre vs (toI [8]) ∧ KB L h₂ h ∧ h.IsCell (L + 1) (some (.str x tx)) ∧ h.IsCell (L + 1 + 1) none ∧ h.IsCell (L + 1 + 1 + 1) none ∧
      TabS 90 "_law_farthest.<locals>.<lambda>" 123 42 h ∧ TabS 95 "_law_nearest.<locals>.<lambda>" 126 42 h) ?_ ?_
  · refine wpAny_Assign_Name ?_
    refine List_ ?_
    refine spliced_more ?_
    refine Call_ ?_
    refine nmB (v := .builtin "len") (hG _ fun _ _ _ e => e) (by kernel_rfl!) (by kernel_rfl!) (by decide) ?_
    refine PyProof.Rows.callWith_builtin1 ?_
    refine spliced_more ?_
    refine nmC (c := L + 1) (by rfl) cT ?_
    refine spliced_none ?_
    refine PyProof.Rows.len_str (by omega) ?_
    refine spliced_none ?_
    refine newListL ?_ (by show 1 ≤ _; rw [sizeLine_eq]; decide)
    intro Nr h₃ k₃ lN nN eN
    refine wpAny_storeName_local (by rfl) (N.keeps k₃) (fun h₄ hn₄ hs₄ => ?_) (by rfl)
    have NL : Nr ≠ L := fun q => by subst q; obtain ⟨o, _, _, e, _⟩ := N; rw [e] at nN; cases nN
    have neL1 : L + 1 ≠ L := Nat.ne_of_gt (by omega)
    have neL2 : L + 1 + 1 ≠ L := Nat.ne_of_gt (by omega)
    have neL3 : L + 1 + 1 + 1 ≠ L := Nat.ne_of_gt (by omega)
    refine ⟨rfl, h₄, _, rfl, by dsimp only; omega, _, Nr, 0, _, hn₄, mB, mF, by rfl, nN, hs₄.extBut _ _ NL eN, by rw [hx]; exact .cons _ _ .nil, ?_, ?_, ?_, ?_, ?_, ?_⟩
    · exact KB.but (a := L) (fun b o _ e => k₃ _ _ e) hs₄.extBut (.inl (by simp [bad]))
    · exact cell_keep cT fun o e => hs₄.extBut _ _ neL1 (k₃ _ _ e)
    · exact cell_keep cH fun o e => hs₄.extBut _ _ neL2 (k₃ _ _ e)
    · exact cell_keep cR fun o e => hs₄.extBut _ _ neL3 (k₃ _ _ e)
    · exact (T1.keeps k₃).same (.ns (N.keeps k₃)) L90 hs₄.extBut
    · exact (T2.keeps k₃).same (.ns (N.keeps k₃)) L95 hs₄.extBut
  clear cT cH cR T1 T2 mB mF htk₂ N lFa FNB
  clear tk₂ m
  revert h₂
  intro h₀ hK hG hBx hFa
  rintro h₂ tk₂ ⟨htk₂, m, Nr, n0, vs, N, mB, mF, mN, nNe, eN, iN, kb, cT, cH, cR, T1, T2⟩
  refine cutH s (fun h tk => 1 ≤ tk ∧ ∃ m n0 vs nl, h.Ns L m ∧ m "boxes" = some (.ref B) ∧ m "farthest" = some (.ref Fa) ∧ m "nearest" = some (.ref Nr) ∧ h.get? Nr = some { cls := .type "list", data := .seq (List.toArray vs) n0 } ∧ IntsAre vs (toI nl.reverse) ∧ nl.length = 6 ∧ NearOk x.cps.toList bx.reverse nl ∧ KB L h₀ h ∧ h.IsCell (L + 1) (some (.str x tx)) ∧ h.IsCell (L + 1 + 1) none ∧ h.IsCell (L + 1 + 1 + 1) none ∧
      TabS 90 "_law_farthest.<locals>.<lambda>" 123 42 h ∧ TabS 95 "_law_nearest.<locals>.<lambda>" 126 42 h) ?_ ?_
  · refine wpAny_For ?_
    refine revL ?_
    refine nmL N mB ?_
    refine ⟨B, items, rfl, (hBx _ kb).1, by rw [hil, hbl, sizeLine_eq]; decide, ?_⟩
    intro V h₂' tkV htkV kV nV eV
    have lV : h₂'.IsList V items.reverse.toArray := ⟨_, eV, rfl, 0, rfl⟩
    have neV : ∀ {c : Addr} {o : Obj}, h₂.get? c = some o → V ≠ c := fun e q => by subst q; rw [e] at nV; cases nV
    refine iterList lV hh ?_
    intro I St h₃ k₃' nI' ltI neBI hSt W hSt0
    have k₃ : h₂.StaysIn h₃ := stays_trans kV k₃'
    have nI : h₂.get? I = none := by
      cases q : h₂.get? I with
      | none => rfl
      | some o => rw [kV _ _ q] at nI'; cases nI'
    have VL : V ≠ L := by obtain ⟨o, _, _, e, _⟩ := N; exact neV e
    have V95 : V ≠ 95 := by obtain ⟨o, e, _⟩ := NotRec.tab T2; exact neV e
    have VF : V ≠ Nr := neV eN
    have hil' : items.reverse.length = bx.reverse.length := by rw [List.length_reverse, List.length_reverse, hil]
    have neI : ∀ {c : Addr} {o : Obj}, h₂.get? c = some o → c ≠ I := fun e q => by subst q; rw [e] at nI; cases nI
    have LI : L ≠ I := by obtain ⟨o, _, _, e, _⟩ := N; exact neI e
    have I1 : L + 1 ≠ I := by obtain ⟨o, e, _⟩ := cT; exact neI e
    have I2 : L + 1 + 1 ≠ I := by obtain ⟨o, e, _⟩ := cH; exact neI e
    have I3 : L + 1 + 1 + 1 ≠ I := by obtain ⟨o, e, _⟩ := cR; exact neI e
    have I90 : (90 : Addr) ≠ I := by obtain ⟨o, e, _⟩ := NotRec.tab T1; exact neI e
    have I95 : (95 : Addr) ≠ I := by obtain ⟨o, e, _⟩ := NotRec.tab T2; exact neI e
    have FI : Nr ≠ I := neI eN
    have nI₁ : h₀.get? I = none := by
      cases q : h₀.get? I with
      | none => rfl
      | some o =>
        refine absurd rfl (neI (kb I o ?_ q))
        simp only [bad, List.mem_cons, List.not_mem_nil, or_false, not_or]
        exact ⟨Ne.symm LI, Ne.symm I1, Ne.symm I2, Ne.symm I3, Ne.symm I90, Ne.symm I95⟩
    have lF : h₂.IsList Nr vs.toArray := ⟨_, eN, rfl, n0, rfl⟩
    have FL := list_ne_ns lF N
    have F1 := list_ne_cell lF cT
    have F2 := list_ne_cell lF cH
    have F3 := list_ne_cell lF cR
    have F90 := list_ne_tab lF T1
    have F95 := list_ne_tab lF T2
    have neL1 : L + 1 ≠ L := Nat.ne_of_gt (by omega)
    have neL2 : L + 1 + 1 ≠ L := Nat.ne_of_gt (by omega)
    have neL3 : L + 1 + 1 + 1 ≠ L := Nat.ne_of_gt (by omega)
    have P90 : (90 : Addr) ∉ [L, I] := by simp only [List.mem_cons, List.not_mem_nil, or_false, not_or]; exact ⟨L90, I90⟩
    have P95 : (95 : Addr) ∉ [L, I] := by simp only [List.mem_cons, List.not_mem_nil, or_false, not_or]; exact ⟨L95, I95⟩
    have c1_95 : L + 1 ≠ 95 := fun q => by
      obtain ⟨o, e, d⟩ := cT
      rcases T2 with z | ⟨_, z, _⟩ <;> (rw [q, z] at e; cases e; cases d)
    have c2_95 : L + 1 + 1 ≠ 95 := fun q => by
      obtain ⟨o, e, d⟩ := cH
      rcases T2 with z | ⟨_, z, _⟩ <;> (rw [q, z] at e; cases e; cases d)
    have c3_95 : L + 1 + 1 + 1 ≠ 95 := fun q => by
      obtain ⟨o, e, d⟩ := cR
      rcases T2 with z | ⟨_, z, _⟩ <;> (rw [q, z] at e; cases e; cases d)
    refine forX (g := { objs := #[] }) (L := L) W (by rfl) LI (fun h => ∃ i, h.IsListIter I V i) (fun i h st => ⟨i, hSt i h st⟩)
      (fun k h m => m "boxes" = some (.ref B) ∧ m "farthest" = some (.ref Fa) ∧ m "nearest" = some (.ref Nr) ∧ KB L h₀ h ∧ h.IsCell (L + 1) (some (.str x tx)) ∧ h.IsCell (L + 1 + 1) none ∧ h.IsCell (L + 1 + 1 + 1) none ∧
        TabV [L, I] 90 "_law_farthest.<locals>.<lambda>" 123 42 h ∧ TabV [L, I] 95 "_law_nearest.<locals>.<lambda>" 126 42 h ∧
        ∃ vs n0 nl, h.get? Nr = some { cls := .type "list", data := .seq (List.toArray vs) n0 } ∧ IntsAre vs (toI nl.reverse) ∧ nl.length = k + 1 ∧ NearOk x.cps.toList bx.reverse nl)
      ?_ (fun i v h tk Q' E' hP st hq => ?_) ?_ hSt0 ⟨N.keeps k₃, fun b o e => by simp [Heap.get?] at e, Nat.zero_le _⟩ ?_ (by dsimp only at *; omega) ?_
    · rintro k h h' m ⟨m1, mf, m2, kb', c1, c2, c3, t1, t2, vs, n0, nl, e1, e2, e3, e4⟩ hk
      refine ⟨m1, mf, m2, fun b o n e => hk b o (fun q => by rw [q, nI₁] at e; cases e) (fun q => n (by simp [bad, q])) (kb' b o n e), cell_keep c1 fun o e => hk _ _ I1 neL1 e, cell_keep c2 fun o e => hk _ _ I2 neL2 e, cell_keep c3 fun o e => hk _ _ I3 neL3 e, t1.mono P90 ?_, t2.mono P95 ?_, vs, n0, nl, hk _ _ FI FL e1, e2, e3, e4⟩
      · intro b o hb e
        exact hk b o (fun q => hb (by simp [q])) (fun q => hb (by simp [q])) e
      · intro b o hb e
        exact hk b o (fun q => hb (by simp [q])) (fun q => hb (by simp [q])) e
    · have hlt : i < bx.reverse.length := by rw [← hil']; exact (List.getElem?_eq_some_iff.mp hP).1
      obtain ⟨b, tw, tr, e1, _⟩ := rev_boxes hil (hBx _ kb).2 i bx.reverse[i].1 bx.reverse[i].2 (List.getElem?_eq_getElem hlt)
      rw [e1] at hP
      cases hP
      exact wpAny_letOwnedTupleGo_listiter (hSt _ _ st) hq
    · rintro k v g₁ tq₁ m₁ Q' E' hk hP htq₁ F₁ ⟨m1, mf, m2, kb', c1, c2, c3, t1, t2, vs, n0, nl, e1, e2, e3, e4⟩ ⟨iI, hI⟩ hQ
      have hlt : k < bx.reverse.length := by rw [← hil']; exact hk
      have hbk := List.getElem?_eq_getElem hlt
      obtain ⟨b, tw, tr, e1', lb⟩ := rev_boxes hil (hBx _ kb').2 k bx.reverse[k].1 bx.reverse[k].2 hbk
      rw [e1'] at hP
      cases hP
      have hi5 : bx.reverse[k].1 < 5 := by
        obtain ⟨k', e'⟩ := List.getElem?_of_mem (List.mem_reverse.mp (List.getElem_mem hlt))
        exact hbx k' bx.reverse[k].1 bx.reverse[k].2 e'
      generalize bx.reverse[k] = ir at lb hi5 hbk
      obtain ⟨i, r⟩ := ir
      dsimp only at lb hi5
      obtain ⟨bq, tb, hl1, hlm, hl2⟩ := first_ints e2 (by rw [e3]; exact Nat.succ_pos k)
      refine assignPair hh lb ?_
      intro g₂ kg₂
      have ns₂ := F₁.ns.keeps kg₂
      refine wpAny_assign_Name ?_
      refine wpAny_storeName_local (by rfl) ns₂ (fun g₃ hn₃ hs₃ => ?_) (by rfl)
      refine wpAny_assign_Name ?_
      refine wpAny_storeName_local (by rfl) hn₃ (fun g₄ hn₄ hs₄ => ?_) (by rfl)
      have off14 : ∀ b o, b ≠ L → g₁.get? b = some o → g₄.get? b = some o := fun b o n e => hs₄.extBut _ _ n (hs₃.extBut _ _ n (kg₂ _ _ e))
      have kb₄ : KB L h₀ g₄ := kb'.but off14 (.inl (by simp [bad]))
      have G₄ := hG _ kb₄
      have T1₄ := ((t1.toS.keeps kg₂).same (.ns ns₂) L90 hs₃.extBut).same (.ns hn₃) L90 hs₄.extBut
      have T2₄ := ((t2.toS.keeps kg₂).same (.ns ns₂) L95 hs₃.extBut).same (.ns hn₃) L95 hs₄.extBut
      have eN₄ := off14 _ _ FL e1
      have c1₄ := cell_keep c1 fun o e => off14 _ _ neL1 e
      have c2₄ := cell_keep c2 fun o e => off14 _ _ neL2 e
      have c3₄ := cell_keep c3 fun o e => off14 _ _ neL3 e
      have hI₄ : g₄.IsListIter I V iI := by obtain ⟨o, e, d⟩ := hI; exact ⟨o, off14 _ _ (Ne.symm LI) e, d⟩
      with_reducible refine wpAny_execs_cons ?_
      refine wpAny_Expr ?_
      refine MethodCall_ ?_
      refine nmL hn₄ m2 ?_
      refine methInsert eN₄ rfl rfl ?_
      refine callWith_method1 ?_
      refine spliced_more ?_
      refine wpAny_Constant_int ?_
      refine spliced_more ?_
      refine Call_ ?_
      refine nmG (v := .ref 98) G₄ (by kernel_rfl!) ?_
      refine callWith_K G₄.X (by kernel_rfl!) ?_
      refine spliced_more ?_
      refine Call_ ?_
      refine nmG (v := .ref 81) G₄ (by kernel_rfl!) ?_
      refine callWith_K G₄.X (by kernel_rfl!) ?_
      refine spliced_more ?_
      refine nmL hn₄ (by rfl) ?_
      refine spliced_none ⟨G₄.X, ?_⟩
      refine wpAny_with_toks (n := 1) (by dsimp only; omega) ?_
      refine hand_call hi5 G₄ (by show A.depth + 1 < _; exact Nat.lt_trans (Nat.succ_lt_succ hroom) (by decide)) ?_
      intro g₅ tq₅ kg₅ htq₅
      have kb₅ := kb₄.stays kg₅
      have G₅ := hG _ kb₅
      have ns₅ := hn₄.keeps kg₅
      have T1₅ := T1₄.keeps kg₅
      have T2₅ := T2₄.keeps kg₅
      have eN₅ := kg₅ _ _ eN₄
      have c1₅ := cell_keep c1₄ (kg₅ _)
      refine spliced_more ?_
      refine nmL ns₅ (by rfl) ?_
      refine spliced_more ?_
      refine nmC (c := L + 1) (by rfl) c1₅ ?_
      refine spliced_more ?_
      refine Subscript_ ?_
      refine nmL ns₅ m2 ?_
      refine wpAny_Constant_int ?_
      refine item_litK ⟨_, eN₅, rfl, n0, rfl⟩ (by decide) (by decide) hl2 ?_
      refine spliced_none ⟨G₅.X, ?_⟩
      refine nearest_call hi5 G₅ (by show A.depth + 1 < _; omega) hh (by dsimp only; omega) hx8 (by have := e4.2.1 bq hlm; rw [hTl] at this; omega) T2₅ (fun e e' he _ => cut_anti i _ bq he) ?_
      intro r' t' g₆ tq₆ htq₆ kg₆ T2₆ hr1 hr2 hr3
      have off16 : ∀ b o, b ≠ L → b ≠ 95 → g₁.get? b = some o → g₆.get? b = some o := fun b o n1 n2 e => kg₆ _ _ n2 (kg₅ _ _ (off14 _ _ n1 e))
      have kb₆ : KB L h₀ g₆ := kb₅.but kg₆ (.inl (by simp [bad]))
      have T1₆ := T1₅.same (.tab T2₅) n9 kg₆
      have ns₆ := ns₅.at' fun o e => kg₆ _ _ (Ne.symm L95) e
      have eN₆ := kg₆ _ _ F95 eN₅
      refine spliced_none ?_
      refine insertFront eN₆ (by rw [IntsAre.length e2, toI, List.length_map, List.length_reverse, e3]; exact fitK hlt (by rw [List.length_reverse, hbl]; decide)) ?_
      rintro g₇ pF hs₇
      refine wpAny_execs_nil ?_
      have off17 : ∀ b o, b ≠ L → b ≠ 95 → b ≠ Nr → g₁.get? b = some o → g₇.get? b = some o := fun b o n1 n2 n3 e => hs₇.extBut _ _ n3 (off16 _ _ n1 n2 e)
      have lF₆ : g₆.IsList Nr vs.toArray := ⟨_, eN₆, rfl, n0, rfl⟩
      have ns₇ := ns₆.at' fun o e => hs₇.extBut _ _ (Ne.symm FL) e
      have T1₇ := T1₆.same (.list lF₆) (Ne.symm F90) hs₇.extBut
      have T2₇ := T2₆.same (.list lF₆) (Ne.symm F95) hs₇.extBut
      have hI₇ : g₇.IsListIter I V iI := by obtain ⟨o, e, d⟩ := hI; exact ⟨o, off17 _ _ (Ne.symm LI) (Ne.symm I95) (Ne.symm FI) e, d⟩
      have nr : ∀ a ∈ [L, I], NotRec g₇ a := fun a ha => by
        rcases List.mem_cons.mp ha with q | ha
        · rw [q]; exact .ns ns₇
        · rw [List.mem_singleton.mp ha]; exact .iter hI₇
      refine hQ g₇ _ _ htq₆ ⟨ns₇, fun b o e => by simp [Heap.get?] at e, Nat.zero_le _⟩ ⟨m1, mf, m2, kb₆.but hs₇.extBut (.inr nNe), cell_keep c1 fun o e => off17 _ _ neL1 c1_95 (Ne.symm F1) e, cell_keep c2 fun o e => off17 _ _ neL2 c2_95 (Ne.symm F2) e, cell_keep c3 fun o e => off17 _ _ neL3 c3_95 (Ne.symm F3) e, T1₇.toV nr, T2₇.toV nr, Value.int ((r' : Nat) : Int) t' :: vs, _, nl ++ [r'], pF, ints_front e2, by simp [e3], ?_⟩ ?_
      · refine e4.snoc (by rw [e3]; exact hbk) hl1 (by rw [hTl]; omega) (fun j hj z => hr2 j hj (Int.ofNat_le.mpr z)) (fun j h1 h2 => Int.ofNat_le.mp (hr3 j h1 (by rw [hTl] at h2; omega)))
      · intro b hb o e
        rcases List.mem_cons.mp hb with q | hb
        · subst q; exact off17 _ _ (Ne.symm LI) (Ne.symm I95) (Ne.symm FI) e
        · have q := List.mem_singleton.mp hb
          subst q; exact off17 _ _ VL V95 VF e
    · have nr : ∀ a ∈ [L, I], NotRec h₃ a := fun a ha => by
        rcases List.mem_cons.mp ha with q | ha
        · rw [q]; exact .ns (N.keeps k₃)
        · rw [List.mem_singleton.mp ha]; exact .iter (hSt 0 _ hSt0)
      exact ⟨mB, mF, mN, kb.stays k₃, cell_keep cT (k₃ _), cell_keep cH (k₃ _), cell_keep cR (k₃ _), (T1.keeps k₃).toV nr, (T2.keeps k₃).toV nr, vs, n0, [8], k₃ _ _ eN, iN, rfl, by rw [hTl]; rfl, fun e he => by rw [hTl, List.mem_singleton.mp he]; exact Nat.le_refl _, fun k i r b e _ _ q => by simp at q⟩
    · rintro h₄ tk₄ m₄ htk₄ F₄ ⟨m1, mf, m2, kb', c1, c2, c3, t1, t2, vs, n0, nl, e1, e2, e3, e4⟩
      exact ⟨rfl, h₄, tk₄, rfl, htk₄, m₄, n0, vs, nl, F₄.ns, m1, mf, m2, e1, e2, by rw [e3, List.length_reverse, hil, hbl], e4, kb', c1, c2, c3, t1.toS, t2.toS⟩
  clear cT cH cR T1 T2 mB mF mN htk₂ N kb eN iN
  clear tk₂ m h₂ n0 vs
  rintro h₂ tk₂ ⟨htk₂, m, n0, vs, nl, N, mB, mF, mN, eN, iN, lN6, hNear, kb, cT, cH, cR, T1, T2⟩
  have hK := fun h (y : KB L h₂ h) => hK h (kb.trans y)
  have hG := fun h (y : KB L h₂ h) => hG h (kb.trans y)
  have hBx := fun h (y : KB L h₂ h) => hBx h (kb.trans y)
  have hFa := fun h (y : KB L h₂ h) => hFa h (kb.trans y)
  have lNr : h₂.IsList Nr vs.toArray := ⟨_, eN, rfl, n0, rfl⟩
  have NNB := not_bad lNr N cT cH cR T1 T2
  have hNr : ∀ h, KB L h₂ h → h.IsList Nr vs.toArray := fun h y => list_keep lNr fun o e => y _ _ NNB e
  have hlF : fl.length = bx.length + 1 := by rw [lF6, hbl]
  have hlN : nl.length = bx.length + 1 := by rw [lN6, hbl]
  clear kb nNe eN n0
  clear lNr NNB
  refine cutH s (fun h tk => 1 ≤ tk ∧ h₂.StaysIn h) ?_ ?_
  · refine wpAny_If ?_
    refine wpAny_isTrue_Compare1 ?_
    have kk : KB L h₂ h₂ := fun _ _ _ e => e
    have G₂ := hG _ kk
    refine Call_ ?_
    refine nmG (v := .ref 110) G₂ (by kernel_rfl!) ?_
    refine callWith_K G₂.X (by kernel_rfl!) ?_
    refine spliced_more ?_
    refine nmC (c := L + 1) (by rfl) cT ?_
    refine spliced_more ?_
    refine nmL N mB ?_
    refine spliced_none ⟨G₂.X, ?_⟩
    refine ahead_call hbx (by rw [hbl]; decide) G₂ (by show A.depth + 1 < _; omega) (unitsDeep hunits) hh (by dsimp only; omega) hx8 ⟨items, (hBx _ kk).1, hil, (hBx _ kk).2⟩ ?_
    intro R h₃ tk₃ as htk₃ k₃ rR
    refine wpAny_with_toks (n := 1) htk₃ ?_
    refine wpAny_ListComp_freeO (fun _ => true) (fun v its => IntsAre its.toList (upToF v)) (by rfl) (by decide) (by rfl) (by decide) (by rfl) ?_
    refine nmL (N.keeps k₃) mF ?_
    refine iterList (stays_list k₃ (hFa _ kk)) hh ?_
    intro I St h₄ k₄ nI ltI neFI hSt' W hSt
    have neI : ∀ {c : Addr} {o : Obj}, h₃.get? c = some o → c ≠ I := fun e q => by subst q; rw [e] at nI; cases nI
    refine ⟨I, _, [I], _, _, St, rfl, W, ?_, ?_, hSt, ?_, ⟨?_, ?_⟩, ?_⟩
    · rw [IntsAre.length iF, toI, List.length_map, lF6, sizeLine_eq]; decide
    · intro i h st b hb
      rw [List.mem_singleton.mp hb]
      obtain ⟨o, e, _⟩ := hSt' i h st
      exact ⟨o, e⟩
    · intro b hb
      rcases List.mem_cons.mp hb with e | hb
      · rw [e]; exact ltI
      · rw [List.mem_singleton.mp hb]
        obtain ⟨o, e, _⟩ := hFa _ kk
        exact Heap.lt_size (k₄ _ _ (k₃ _ _ e))
    · intros
      exact testsNil
    · rintro C4 j4 v4 s₄ m₄ E4 hC4 hP4 _ hn4 hm4 hk4 ht4
      obtain ⟨n, t, en, rfl⟩ := ints_at iF _ _ hP4
      obtain ⟨b, hb, rfl⟩ : ∃ b, fl[j4]? = some b ∧ ((b : Nat) : Int) = n := by
        rw [toI, List.getElem?_map] at en
        cases q : fl[j4]? with
        | none => rw [q] at en; cases en
        | some b => rw [q] at en; exact ⟨b, rfl, by simpa using en⟩
      have hbT := (far_ahead hFar hlF _ _ hb).1
      have G₄ : Gr w mg mb s₄.heap := G₂.keeps fun b o e => hk4 b o (fun q => neI (k₃ _ _ e) (List.mem_singleton.mp q)) (k₄ _ _ (k₃ _ _ e))
      refine Call_ ?_
      refine nmB (v := .type "list") G₄ (by kernel_rfl!) (by kernel_rfl!) (by decide) ?_
      refine PyProof.Rows.callWith_type1 ?_
      refine spliced_more ?_
      refine Call_ ?_
      refine nmB (v := .type "range") G₄ (by kernel_rfl!) (by kernel_rfl!) (by decide) ?_
      refine PyProof.Rows.callWith_type1 ?_
      refine spliced_more ?_
      with_reducible refine wpAny_BinOp ?_
      refine nmL hn4 hm4 ?_
      refine wpAny_Constant_int ?_
      refine PyProof.Rows.add_int ?_
      refine spliced_none ?_
      refine call_range_1 ?_
      refine spliced_none ?_
      refine listRange (b := 0) (e := b + 1) hh (IsRange.new _ _ _ _ _ _ _) (Nat.zero_le _) (by rw [hTl] at hbT; omega) ?_
      intro D its h₅ tk₅ k₅ nD lD iD
      have k₅' := stays_trans (stays_push s₄.heap _) k₅
      refine ⟨⟨D, its, rfl, ?_, lD, upTo_of iD⟩, h₅, _, rfl, k₅'⟩
      cases q : s₄.heap.get? D with
      | none => rfl
      | some o => rw [stays_push s₄.heap _ _ _ q] at nD; cases nD
    · intro D h₅ tk₅ ys vs' nD lD _ hvl hvP hpair _ _ hkeep htk₅
      rw [PySem.W.filter_all] at hpair
      have ev : vs' = fs := list_same hvl hvP
      subst ev
      obtain ⟨as2, ra⟩ := paired_LL (f := upToF) (fun _ _ h => h) hpair
      rw [map_upTo iF, ← ahead_eq hFar hlF] at ra
      obtain ⟨o, e, hc, n, hd⟩ := lD
      have off : ∀ b o, h₃.get? b = some o → h₅.get? b = some o := fun b o e => hkeep b o (fun q => neI e (List.mem_singleton.mp q)) (k₄ _ _ e)
      refine ne_dataH (PyProof.Rows.Reads.keeps off rR) (Reads.list e hc hd ra) (shaped_LL _) (shaped_LL _) (unitsLaw hunits) ?_
      rw [eqv_LL]
      refine wpAny_truthy_bool ?_
      simp only [Bool.not_true, Bool.false_eq_true, if_false]
      exact wpAny_execs_nil ⟨rfl, h₅, tk₅, rfl, htk₅, fun b o e => off _ _ (k₃ _ _ e)⟩
  rintro h₃ tk₃ ⟨htk₃, k₂₃⟩
  refine cutH s (fun h tk => 1 ≤ tk ∧ h₂.StaysIn h) ?_ ?_
  · refine wpAny_If ?_
    refine wpAny_isTrue_Compare1 ?_
    have kk : KB L h₂ h₃ := fun _ _ _ e => k₂₃ _ _ e
    have G₂ := hG _ kk
    have cT₃ := cell_keep cT (k₂₃ _)
    have N₃ := N.keeps k₂₃
    refine Call_ ?_
    refine nmG (v := .ref 115) G₂ (by kernel_rfl!) ?_
    refine callWith_K G₂.X (by kernel_rfl!) ?_
    refine spliced_more ?_
    refine nmC (c := L + 1) (by rfl) cT₃ ?_
    refine spliced_more ?_
    refine nmL N₃ mB ?_
    refine spliced_none ⟨G₂.X, ?_⟩
    refine behind_call hbx (by rw [hbl]; decide) G₂ (by show A.depth + 1 < _; omega) (unitsDeep hunits) hh (by dsimp only; omega) hx8 ⟨items, (hBx _ kk).1, hil, (hBx _ kk).2⟩ ?_
    intro R h₃' tk₃' as htk₃' k₃ rR
    refine wpAny_with_toks (n := 1) htk₃' ?_
    refine wpAny_ListComp_freeO (fun _ => true) (fun v its => IntsAre its.toList (fromF v)) (by rfl) (by decide) (by rfl) (by decide) (by rfl) ?_
    refine nmL (N₃.keeps k₃) mN ?_
    refine iterList (stays_list k₃ (hNr _ kk)) hh ?_
    intro I St h₄ k₄ nI ltI neFI hSt' W hSt
    have neI : ∀ {c : Addr} {o : Obj}, h₃'.get? c = some o → c ≠ I := fun e q => by subst q; rw [e] at nI; cases nI
    refine ⟨I, _, [I], _, _, St, rfl, W, ?_, ?_, hSt, ?_, ⟨?_, ?_⟩, ?_⟩
    · rw [IntsAre.length iN, toI, List.length_map, List.length_reverse, lN6, sizeLine_eq]; decide
    · intro i h st b hb
      rw [List.mem_singleton.mp hb]
      obtain ⟨o, e, _⟩ := hSt' i h st
      exact ⟨o, e⟩
    · intro b hb
      rcases List.mem_cons.mp hb with e | hb
      · rw [e]; exact ltI
      · rw [List.mem_singleton.mp hb]
        obtain ⟨o, e, _⟩ := hNr _ kk
        exact Heap.lt_size (k₄ _ _ (k₃ _ _ e))
    · intros
      exact testsNil
    · rintro C4 j4 v4 s₄ m₄ E4 hC4 hP4 _ hn4 hm4 hk4 ht4
      obtain ⟨n, t, en, rfl⟩ := ints_at iN _ _ hP4
      obtain ⟨b, hb, rfl⟩ : ∃ b, nl.reverse[j4]? = some b ∧ ((b : Nat) : Int) = n := by
        rw [toI, List.getElem?_map] at en
        cases q : nl.reverse[j4]? with
        | none => rw [q] at en; cases en
        | some b => rw [q] at en; exact ⟨b, rfl, by simpa using en⟩
      have hbT := hNear.2.1 b (List.mem_reverse.mp (List.mem_of_getElem? hb))
      have G₄ : Gr w mg mb s₄.heap := G₂.keeps fun b o e => hk4 b o (fun q => neI (k₃ _ _ e) (List.mem_singleton.mp q)) (k₄ _ _ (k₃ _ _ e))
      refine Call_ ?_
      refine nmB (v := .type "list") G₄ (by kernel_rfl!) (by kernel_rfl!) (by decide) ?_
      refine PyProof.Rows.callWith_type1 ?_
      refine spliced_more ?_
      refine Call_ ?_
      refine nmB (v := .type "range") G₄ (by kernel_rfl!) (by kernel_rfl!) (by decide) ?_
      refine PyProof.Rows.callWith_type1 ?_
      refine spliced_more ?_
      refine nmL hn4 hm4 ?_
      refine spliced_more ?_
      with_reducible refine wpAny_BinOp ?_
      refine Call_ ?_
      refine nmB (v := .builtin "len") G₄ (by kernel_rfl!) (by kernel_rfl!) (by decide) ?_
      refine PyProof.Rows.callWith_builtin1 ?_
      refine spliced_more ?_
      refine nmC (c := L + 1) (by rfl) (cell_keep cT₃ fun o e => hk4 _ o (fun q => neI (k₃ _ _ e) (List.mem_singleton.mp q)) (k₄ _ _ (k₃ _ _ e))) ?_
      refine spliced_none ?_
      refine PyProof.Rows.len_str (by omega) ?_
      refine wpAny_Constant_int ?_
      refine PyProof.Rows.add_int ?_
      refine spliced_none ?_
      rw [hx]
      refine call_range_2 ?_
      refine spliced_none ?_
      refine listRange (b := b) (e := 8 + 1) hh (IsRange.new _ _ _ _ _ _ _) (by rw [hTl] at hbT; omega) (by decide) ?_
      intro D its h₅ tk₅ k₅ nD lD iD
      have k₅' := stays_trans (stays_push s₄.heap _) k₅
      refine ⟨⟨D, its, rfl, ?_, lD, from_of iD⟩, h₅, _, rfl, k₅'⟩
      cases q : s₄.heap.get? D with
      | none => rfl
      | some o => rw [stays_push s₄.heap _ _ _ q] at nD; cases nD
    · intro D h₅ tk₅ ys vs' nD lD _ hvl hvP hpair _ _ hkeep htk₅
      rw [PySem.W.filter_all] at hpair
      have ev : vs' = vs := list_same hvl hvP
      subst ev
      obtain ⟨as2, ra⟩ := paired_LL (f := fromF) (fun _ _ h => h) hpair
      rw [map_from iN, ← behind_eq hNear hlN hTl] at ra
      obtain ⟨o, e, hc, n, hd⟩ := lD
      have off : ∀ b o, h₃'.get? b = some o → h₅.get? b = some o := fun b o e => hkeep b o (fun q => neI e (List.mem_singleton.mp q)) (k₄ _ _ e)
      refine ne_dataH (PyProof.Rows.Reads.keeps off rR) (Reads.list e hc hd ra) (shaped_LL _) (shaped_LL _) (unitsLaw hunits) ?_
      rw [eqv_LL]
      refine wpAny_truthy_bool ?_
      simp only [Bool.not_true, Bool.false_eq_true, if_false]
      exact wpAny_execs_nil ⟨rfl, h₅, tk₅, rfl, htk₅, fun b o e => off _ _ (k₃ _ _ (k₂₃ _ _ e))⟩
  clear htk₃ k₂₃ h₃ tk₃
  rintro h₃ tk₃ ⟨htk₃, k₂₃⟩
  have kk : KB L h₂ h₃ := fun _ _ _ e => k₂₃ _ _ e
  have cT := cell_keep cT (k₂₃ _)
  have cH := cell_keep cH (k₂₃ _)
  have cR := cell_keep cR (k₂₃ _)
  have N := N.keeps k₂₃
  have T1 := T1.keeps k₂₃
  have T2 := T2.keeps k₂₃
  have nr : ∀ a ∈ [L, L + 1, L + 1 + 1, L + 1 + 1 + 1], NotRec h₃ a := fun a ha => by
    simp only [List.mem_cons, List.not_mem_nil, or_false] at ha
    rcases ha with q | q | q | q
    · rw [q]; exact .ns N
    · rw [q]; exact .cell cT
    · rw [q]; exact .cell cH
    · rw [q]; exact .cell cR
  have V1 := T1.toV nr
  have V2 := T2.toV nr
  have P90 : (90 : Addr) ∉ [L, L + 1, L + 1 + 1, L + 1 + 1 + 1] := fun q => by
    obtain ⟨o, e, _⟩ := nr 90 q
    simp only [List.mem_cons, List.not_mem_nil, or_false] at q
    rcases q with q | q | q | q
    · exact L90 q
    · obtain ⟨o, e, d⟩ := cT
      rcases T1 with z | ⟨_, z, _⟩ <;> (rw [← q, z] at e; cases e; cases d)
    · obtain ⟨o, e, d⟩ := cH
      rcases T1 with z | ⟨_, z, _⟩ <;> (rw [← q, z] at e; cases e; cases d)
    · obtain ⟨o, e, d⟩ := cR
      rcases T1 with z | ⟨_, z, _⟩ <;> (rw [← q, z] at e; cases e; cases d)
  have P95 : (95 : Addr) ∉ [L, L + 1, L + 1 + 1, L + 1 + 1 + 1] := fun q => by
    obtain ⟨o, e, _⟩ := nr 95 q
    simp only [List.mem_cons, List.not_mem_nil, or_false] at q
    rcases q with q | q | q | q
    · exact L95 q
    · obtain ⟨o, e, d⟩ := cT
      rcases T2 with z | ⟨_, z, _⟩ <;> (rw [← q, z] at e; cases e; cases d)
    · obtain ⟨o, e, d⟩ := cH
      rcases T2 with z | ⟨_, z, _⟩ <;> (rw [← q, z] at e; cases e; cases d)
    · obtain ⟨o, e, d⟩ := cR
      rcases T2 with z | ⟨_, z, _⟩ <;> (rw [← q, z] at e; cases e; cases d)
  have hKB : ∀ h : Heap, (∀ b o, b ∉ [L, L + 1, L + 1 + 1, L + 1 + 1 + 1] → h₃.get? b = some o → h.get? b = some o) → KB L h₂ h := fun h y b o n e =>
    y b o (fun q => n (by simp only [bad, List.mem_cons, List.not_mem_nil, or_false] at q ⊢; rcases q with q | q | q | q <;> simp [q])) (k₂₃ _ _ e)
  refine cutH s (fun h tk => ∀ b o, b ∉ [L, L + 1, L + 1 + 1, L + 1 + 1 + 1] → h₃.get? b = some o → h.get? b = some o) ?_ ?_
  · refine wpAny_For ?_
    have G₃ := hG _ kk
    refine Call_ ?_
    refine nmB (v := .type "range") G₃ (by kernel_rfl!) (by kernel_rfl!) (by decide) ?_
    refine PyProof.Rows.callWith_type1 ?_
    refine spliced_more ?_
    refine wpAny_Constant_int ?_
    refine spliced_none ?_
    refine call_range_1 ?_
    refine iterRange (n := 5) (IsRange.new _ _ _ _ _ _ _) hh (by decide) (by decide) (by decide) ?_
    intro I St h₄ k₄ nI ltI W hSt0
    have k₃₄ : h₃.StaysIn h₄ := stays_trans (stays_push h₃ _) k₄
    have neI : ∀ {a : Addr} {o : Obj}, h₃.get? a = some o → a ≠ I := fun e q => by subst q; rw [stays_push h₃ _ _ _ e] at nI; cases nI
    have nI₃ : h₃.get? I = none := by
      cases q : h₃.get? I with
      | none => rfl
      | some o => exact absurd rfl (neI q)
    have LI : L ≠ I := by obtain ⟨o, _, _, e, _⟩ := N; exact neI e
    have I1 : L + 1 ≠ I := by obtain ⟨o, e, _⟩ := cT; exact neI e
    have I2 : L + 1 + 1 ≠ I := by obtain ⟨o, e, _⟩ := cH; exact neI e
    have I3 : L + 1 + 1 + 1 ≠ I := by obtain ⟨o, e, _⟩ := cR; exact neI e
    have neL1 : L + 1 ≠ L := Nat.ne_of_gt (by omega)
    have neL2 : L + 1 + 1 ≠ L := Nat.ne_of_gt (by omega)
    have neL3 : L + 1 + 1 + 1 ≠ L := Nat.ne_of_gt (by omega)
    have ne21 : L + 1 + 1 ≠ L + 1 := Nat.ne_of_gt (by omega)
    have ne31 : L + 1 + 1 + 1 ≠ L + 1 := Nat.ne_of_gt (by omega)
    have ne32 : L + 1 + 1 + 1 ≠ L + 1 + 1 := Nat.ne_of_gt (by omega)
    refine forX (g := { objs := #[] }) (L := L) (Walks.bound W) (by rfl) LI (fun _ => True) (fun _ _ _ => trivial)
      (fun k h m => m "boxes" = some (.ref B) ∧ m "farthest" = some (.ref Fa) ∧ m "nearest" = some (.ref Nr) ∧ K4 L h₃ h ∧ h.IsCell (L + 1) (some (.str x tx)) ∧ (∃ v, h.IsCell (L + 1 + 1) v) ∧ ∃ v, h.IsCell (L + 1 + 1 + 1) v)
      ?_ (fun _ _ _ _ _ _ _ _ hq => wpAny_of_eq (by rfl) hq) ?_ hSt0 ⟨N.keeps k₃₄, fun b o e => by simp [Heap.get?] at e, Nat.zero_le _⟩ ?_ (by dsimp only; omega) ?_
    · rintro k h h' m ⟨m1, m2, m3, k4, c1, ⟨v2, c2⟩, ⟨v3, c3⟩⟩ hk
      exact ⟨m1, m2, m3, fun b o n e => hk b o (fun q => by rw [q, nI₃] at e; cases e) (fun q => n (by simp [q])) (k4 b o n e), cell_keep c1 fun o e => hk _ _ I1 neL1 e, ⟨v2, cell_keep c2 fun o e => hk _ _ I2 neL2 e⟩, ⟨v3, cell_keep c3 fun o e => hk _ _ I3 neL3 e⟩⟩
    · rintro k v g₁ tq₁ m₁ Q' E' hk ⟨_, tk', rfl⟩ htq₁ F₁ ⟨m1, m2, m3, k4, c1, ⟨v2, c2⟩, ⟨v3, c3⟩⟩ _ hQ
      rw [zidx]
      refine wpAny_assign_Name ?_
      refine wpAny_storeName_local (by rfl) F₁.ns (fun g₂ hn₂ hs₂ => ?_) (by rfl)
      have S₂ : LoopS L I B Fa Nr x tx tk' h₃ g₁ k g₂ (fun z => if z = "k" then some (.int (k : Int) tk') else m₁ z) := ⟨m1, m2, m3, by rfl, hn₂, k4.but (a := L) hs₂.extBut (.inl (by simp [c4])), cell_keep c1 fun o e => hs₂.extBut _ _ neL1 e, fun o e => hs₂.extBut _ _ (Ne.symm LI) e⟩
      have c2₂ := cell_keep c2 fun o e => hs₂.extBut _ _ neL2 e
      have c3₂ := cell_keep c3 fun o e => hs₂.extBut _ _ neL3 e
      have hlt : k < bx.length := by rw [hbl]; exact hk
      have hbk := List.getElem?_eq_getElem hlt
      have hi5 := hbx k bx[k].1 bx[k].2 hbk
      generalize bx[k] = ir at hi5 hbk
      obtain ⟨i, r⟩ := ir
      dsimp only at hi5
      have kFit : (k : Int) < 2 ^ 63 := by omega
      refine cutH s (fun h tk => 1 ≤ tk ∧ ∃ m, LoopS L I B Fa Nr x tx tk' h₃ g₁ k h m ∧ h.IsCell (L + 1 + 1) (some (.ref (handA i))) ∧ ∃ v, h.IsCell (L + 1 + 1 + 1) v) ?_ ?_
      · have G₂ := hG _ (hKB _ S₂.k4)
        obtain ⟨lB, hb⟩ := hBx _ (hKB _ S₂.k4)
        obtain ⟨b, tw, tr, eb, lb⟩ := hb k i r hbk
        refine wpAny_Assign_Name ?_
        refine Call_ ?_
        refine nmG (v := .ref 81) G₂ (by kernel_rfl!) ?_
        refine callWith_K G₂.X (by kernel_rfl!) ?_
        refine spliced_more ?_
        refine Subscript_ ?_
        refine Subscript_ ?_
        refine nmL S₂.ns S₂.mB ?_
        refine nmL S₂.ns S₂.mK ?_
        refine item_litK lB (Int.natCast_nonneg _) kFit eb ?_
        refine wpAny_Constant_int ?_
        refine item_litK (vs := [_, _]) lb (by decide) (by decide) rfl ?_
        refine spliced_none ⟨G₂.X, ?_⟩
        refine wpAny_with_toks (n := 1) (by dsimp only; omega) ?_
        refine hand_call hi5 G₂ (by show A.depth + 1 < _; exact Nat.lt_trans (Nat.succ_lt_succ hroom) (by decide)) ?_
        intro g₃ tq₃ kg₃ htq₃
        refine storeCell (cell_keep c2₂ (kg₃ _)) ?_
        intro g₄ c2₄ hs₄
        exact ⟨rfl, g₄, _, rfl, htq₃, _, (S₂.stays kg₃).but (a := L + 1 + 1) hs₄.extBut (.inl (by simp [c4])) (Ne.symm neL2) (Ne.symm ne21) (Ne.symm I2), c2₄, _, cell_keep c3₂ fun o e => hs₄.extBut _ _ ne32 (kg₃ _ _ e)⟩
      clear S₂ c2₂ c3₂ c1 c2 c3 k4 m1 m2 m3 hn₂ hs₂ htq₁ F₁
      rintro g₂ tq₂ ⟨htq₂, m₂, S₂, cH₂, v3', cR₂⟩
      refine cutH s (fun h tk => 1 ≤ tk ∧ ∃ m Z zs, LoopS L I B Fa Nr x tx tk' h₃ g₁ k h m ∧ m "sizes" = some (.ref Z) ∧ h.IsList Z (List.toArray zs) ∧ IntsOf zs 9 (fun j => (pre i x.cps.toList j : Int)) ∧ h.IsCell (L + 1 + 1) (some (.ref (handA i))) ∧ ∃ v, h.IsCell (L + 1 + 1 + 1) v) ?_ ?_
      · have G₂ := hG _ (hKB _ S₂.k4)
        refine wpAny_with_toks (n := 1) htq₂ ?_
        refine wpAny_Assign_ListComp_free (fun _ => true) (fun v y => ∀ (j : Nat) (t : Tok), v = Value.int (j : Int) t → ∃ t', y = Value.int (pre i x.cps.toList j : Int) t') (by rfl) (by rfl) (by decide) (by rfl) (by decide) (by rfl) (by rfl) (by rfl) ?_
        refine Call_ ?_
        refine nmB (v := .type "range") G₂ (by kernel_rfl!) (by kernel_rfl!) (by decide) ?_
        refine PyProof.Rows.callWith_type1 ?_
        refine spliced_more ?_
        with_reducible refine wpAny_BinOp ?_
        refine Call_ ?_
        refine nmB (v := .builtin "len") G₂ (by kernel_rfl!) (by kernel_rfl!) (by decide) ?_
        refine PyProof.Rows.callWith_builtin1 ?_
        refine spliced_more ?_
        refine nmC (c := L + 1) (by rfl) S₂.cT ?_
        refine spliced_none ?_
        refine PyProof.Rows.len_str (by omega) ?_
        refine wpAny_Constant_int ?_
        refine PyProof.Rows.add_int ?_
        refine spliced_none ?_
        rw [hx]
        refine call_range_1 ?_
        refine iterRange (n := 9) (IsRange.new _ _ _ _ _ _ _) hh (by decide) (by decide) (by decide) ?_
        intro J St' g₃ kg₃ nJ ltJ W' hSt'
        have K₂₃ : g₂.StaysIn g₃ := stays_trans (stays_push g₂ _) kg₃
        have neJ : ∀ {a : Addr} {o : Obj}, g₂.get? a = some o → a ≠ J := fun e q => by subst q; rw [stays_push g₂ _ _ _ e] at nJ; cases nJ
        have LJ : L ≠ J := by obtain ⟨o, _, _, e, _⟩ := S₂.ns; exact neJ e
        refine ⟨J, _, [J], 9, _, St', m₂, rfl, Walks.bound W', by rw [sizeLine_eq]; decide, hSt', fun b hb => by rw [List.mem_singleton.mp hb]; exact ltJ, fun q => LJ (List.mem_singleton.mp q), S₂.ns.keeps K₂₃, ⟨?_, ?_⟩, ?_⟩
        · intros
          exact testsNil
        · rintro C4 j4 v4 s₄ m₄ E4 hC4 ⟨hj4, t4, rfl⟩ _ hn4 hm4 hk4 ht4
          have off4 : g₂.StaysIn s₄.heap := fun b o e => hk4 b o (fun q => neJ e (List.mem_singleton.mp q)) (K₂₃ _ _ e)
          have G₄ := G₂.keeps off4
          rw [zidx] at hm4 ⊢
          refine Call_ ?_
          refine nmB (v := .builtin "len") G₄ (by kernel_rfl!) (by kernel_rfl!) (by decide) ?_
          refine PyProof.Rows.callWith_builtin1 ?_
          refine spliced_more ?_
          refine Call_ ?_
          refine nmC (c := L + 1 + 1) (by rfl) (cell_keep cH₂ (off4 _)) ?_
          refine callWith_K G₄.X (by exact keep_hand hi5) ?_
          refine spliced_more ?_
          refine wpAny_with_toks (n := 1) (Nat.le_trans (by dsimp only; omega) ht4) ?_
          refine subSlice ?_
          refine nmC (c := L + 1) (by rfl) (cell_keep S₂.cT (off4 _)) ?_
          refine wpAny_evalPart_none ?_
          refine nmL hn4 hm4 ?_
          refine ⟨x, tx, none, some ((j4 : Int), t4), rfl, rfl, rfl, hx8, ?_⟩
          intro h₅ t₅ tk₅ k₅ htk₅
          have G₅ := G₄.keeps k₅
          refine spliced_none ⟨G₅.X, ?_⟩
          refine esc_call hi5 G₅ (by show A.depth + 1 < _; exact Nat.lt_trans (Nat.succ_lt_succ hroom) (by decide)) htk₅ (Nat.le_trans (Txt.slice_le _ _ _) hx8) ?_
          intro h₆ t₆ tk₆ htk₆ k₆
          refine spliced_none ?_
          have hsh := escT_short hi5 (x := Txt.slice x none (some (j4 : Int))) (Nat.le_trans (Txt.slice_le _ _ _) hx8)
          refine PyProof.Rows.len_str (lenFit hsh) ?_
          refine ⟨fun j t e => ?_, h₆, _, rfl, stays_trans k₅ k₆⟩
          have ej : j4 = j := Int.ofNat.inj (intInj e)
          subst ej
          exact ⟨_, congrArg (fun n : Nat => Value.int (n : Int) _) (pre_len (Nat.le_of_lt_succ (by rw [hx]; exact hj4)))⟩
        · intro Z g₅ tq₅ ys vs' nZ lZ _ hvl hvP hpair hn₅ hkeep htq₅
          rw [PySem.W.filter_all] at hpair
          have hiz := sizes_of hpair hvl fun j v hv => by
            obtain ⟨_, t, e⟩ := hvP j v hv
            rw [zidx] at e
            exact ⟨t, e⟩
          have off5 : ∀ b o, b ≠ L → g₂.get? b = some o → g₅.get? b = some o := fun b o nb e => hkeep b o nb (fun q => neJ e (List.mem_singleton.mp q)) (K₂₃ _ _ e)
          refine ⟨rfl, g₅, tq₅, rfl, htq₅, (fun z => if z = "sizes" then some (.ref Z) else m₂ z), Z, ys.toList, ⟨S₂.mB, S₂.mF, S₂.mN, S₂.mK, hn₅, S₂.k4.but (a := L) off5 (.inl (by simp [c4])), cell_keep S₂.cT fun o e => off5 _ _ neL1 e, fun o e => off5 _ _ (Ne.symm LI) (S₂.kI o e)⟩, by rfl, by simpa using lZ, hiz, cell_keep cH₂ fun o e => off5 _ _ neL2 e, _, cell_keep cR₂ fun o e => off5 _ _ neL3 e⟩
      clear S₂ cH₂ cR₂ htq₂
      clear m₂ g₂ tq₂
      rintro g₂ tq₂ ⟨htq₂, m₂, Z, zs, S₂, mZ, lZ, hzs, cH₂, v3'', cR₂⟩
      have hfb := List.getElem?_eq_getElem (l := fl) (show k < fl.length by rw [hlF]; omega)
      have hfe := List.getElem?_eq_getElem (l := fl) (show k + 1 < fl.length by rw [hlF]; omega)
      have hbT := (far_ahead hFar hlF k _ hfb).1
      obtain ⟨heT, hf2, hf3⟩ := hFar.2 k i r _ _ hbk hfb hfe
      refine cutH s (fun h tk => 1 ≤ tk ∧ g₂.StaysIn h) ?_ ?_
      · have G₂ := hG _ (hKB _ S₂.k4)
        obtain ⟨lB, hb⟩ := hBx _ (hKB _ S₂.k4)
        obtain ⟨b, tw, tr, eb, lb⟩ := hb k i r hbk
        have lFa := hFa _ (hKB _ S₂.k4)
        obtain ⟨tb, efb⟩ := ints_at' iF k _ (toI_at hfb)
        obtain ⟨te, efe⟩ := ints_at' iF (k + 1) _ (toI_at hfe)
        obtain ⟨tz, ez⟩ := hzs.2 fl[k] (by rw [hTl] at hbT; omega)
        refine wpAny_If ?_
        refine wpAny_isTrue_Compare1 ?_
        refine Call_ ?_
        refine nmG (v := .ref 23) G₂ (by kernel_rfl!) ?_
        refine callWith_K G₂.X (by kernel_rfl!) ?_
        refine spliced_more ?_
        refine Subscript_ ?_
        refine nmL S₂.ns mZ ?_
        refine wpAny_Slice ?_
        refine wpAny_evalPart_some ?_
        refine wpAny_Constant_int ?_
        refine wpAny_evalPart_none ?_
        refine wpAny_evalPart_none ?_
        refine sliceT (s := { s with heap := g₂, toks := _ }) lZ (.int _ _) .none .none (by decide) (by rw [List.size_toArray, hzs.1, sizeLine_eq]; decide) ?_
        intro V g₃ kg₃ nV eV
        have G₃' := G₂.keeps kg₃
        have S₃ := S₂.stays kg₃
        refine spliced_more ?_
        with_reducible refine wpAny_BinOp ?_
        refine Subscript_ ?_
        refine nmL S₃.ns mZ ?_
        refine Subscript_ ?_
        refine nmL S₃.ns S₃.mF ?_
        refine nmL S₃.ns S₃.mK ?_
        refine item_litK (stays_list kg₃ lFa) (Int.natCast_nonneg _) kFit efb ?_
        refine item_litK (stays_list kg₃ lZ) (Int.natCast_nonneg _) (fit8 (by rw [hTl] at hbT; exact hbT)) ez ?_
        refine Subscript_ ?_
        refine Subscript_ ?_
        refine nmL S₃.ns S₃.mB ?_
        refine nmL S₃.ns S₃.mK ?_
        refine item_litK (stays_list kg₃ lB) (Int.natCast_nonneg _) kFit eb ?_
        refine wpAny_Constant_int ?_
        refine item_litK (vs := [_, _]) (stays_list kg₃ lb) (by decide) (by decide) rfl ?_
        refine PyProof.Rows.add_int ?_
        refine spliced_none ⟨G₃'.X, ?_⟩
        obtain ⟨zl, zv⟩ := from1 hzs
        have lV : g₃.IsList V (slicePick zs.toArray (some 1) none none).toList.toArray := ⟨_, by simpa using eV, rfl, 0, by simp⟩
        refine bisR (f := fun j => (pre i x.cps.toList (j + 1) : Int)) G₃' (by show A.depth + 1 < _; omega) (by dsimp only; omega) lV (by rw [zl]; decide) (fun j hj => zv j (by rw [zl] at hj; exact hj)) (fun a b hab _ => Int.ofNat_le.mpr (pre_mono i _ (Nat.succ_le_succ hab))) ?_
        intro R tR g₄ tq₄ htq₄ kg₄ hR1 hR2 hR3
        rw [zl] at hR1 hR3
        have S₄ := S₃.stays kg₄
        refine Subscript_ ?_
        refine nmL S₄.ns S₄.mF ?_
        with_reducible refine wpAny_BinOp ?_
        refine nmL S₄.ns S₄.mK ?_
        refine wpAny_Constant_int ?_
        refine PyProof.Rows.add_int ?_
        refine item_litK (stays_list (stays_trans kg₃ kg₄) lFa) (k1pos k) (k1fit hk) (by rw [k1]; exact efe) ?_
        refine PyProof.Rows.ne_int ?_
        have eR : R = fl[k + 1] := bis_far hbT heT hf2 hf3 (by rw [hTl]; exact hR1) hR2 (fun j h1 h2 => hR3 j h1 (by rw [hTl] at h2; exact h2))
        rw [eR]
        refine wpAny_truthy_bool ?_
        simp only [bne_self_eq_false, Bool.false_eq_true, if_false]
        exact wpAny_execs_nil ⟨rfl, g₄, _, rfl, Nat.le_succ_of_le (Nat.le_succ_of_le htq₄), stays_trans kg₃ kg₄⟩
      rintro g₃ tq₃ ⟨htq₃, k₂₃g⟩
      obtain ⟨bn, en, hnb, hne, hbnT, henT, hn2, hn3⟩ := near_at hNear hlN hbk
      refine cutH s (fun h tk => 1 ≤ tk ∧ g₂.StaysIn h) ?_ ?_
      · have S₂ := S₂.stays k₂₃g
        have lZ := stays_list k₂₃g lZ
        have G₂ := hG _ (hKB _ S₂.k4)
        obtain ⟨lB, hb⟩ := hBx _ (hKB _ S₂.k4)
        obtain ⟨b, tw, tr, eb, lb⟩ := hb k i r hbk
        have lNr := hNr _ (hKB _ S₂.k4)
        obtain ⟨tb, enb⟩ := ints_at' iN k _ (toI_at hnb)
        obtain ⟨te, ene⟩ := ints_at' iN (k + 1) _ (toI_at hne)
        obtain ⟨tz, ez⟩ := hzs.2 en (by rw [hTl] at henT; omega)
        refine wpAny_If ?_
        refine wpAny_isTrue_Compare1 ?_
        refine Call_ ?_
        refine nmG (v := .ref 32) G₂ (by kernel_rfl!) ?_
        refine callWith_K G₂.X (by kernel_rfl!) ?_
        refine spliced_more ?_
        refine Subscript_ ?_
        refine nmL S₂.ns mZ ?_
        refine wpAny_Slice ?_
        refine wpAny_evalPart_none ?_
        refine wpAny_evalPart_some ?_
        refine UnaryOp_ ?_
        refine wpAny_Constant_int ?_
        refine PyProof.Rows.neg_int ?_
        refine wpAny_evalPart_none ?_
        refine sliceT (s := { s with heap := g₃, toks := _ }) lZ .none (.int _ _) .none (by decide) (by rw [List.size_toArray, hzs.1, sizeLine_eq]; decide) ?_
        intro V g₄ kg₄ nV eV
        have G₄' := G₂.keeps kg₄
        have S₄ := S₂.stays kg₄
        refine spliced_more ?_
        with_reducible refine wpAny_BinOp ?_
        refine Subscript_ ?_
        refine nmL S₄.ns mZ ?_
        refine Subscript_ ?_
        refine nmL S₄.ns S₄.mN ?_
        with_reducible refine wpAny_BinOp ?_
        refine nmL S₄.ns S₄.mK ?_
        refine wpAny_Constant_int ?_
        refine PyProof.Rows.add_int ?_
        refine item_litK (stays_list kg₄ lNr) (k1pos k) (k1fit hk) (by rw [k1]; exact ene) ?_
        refine item_litK (stays_list kg₄ lZ) (Int.natCast_nonneg _) (fit8 (by rw [hTl] at henT; exact henT)) ez ?_
        refine Subscript_ ?_
        refine Subscript_ ?_
        refine nmL S₄.ns S₄.mB ?_
        refine nmL S₄.ns S₄.mK ?_
        refine item_litK (stays_list kg₄ lB) (Int.natCast_nonneg _) kFit eb ?_
        refine wpAny_Constant_int ?_
        refine item_litK (vs := [_, _]) (stays_list kg₄ lb) (by decide) (by decide) rfl ?_
        refine PyProof.Rows.sub_int ?_
        refine spliced_none ⟨G₄'.X, ?_⟩
        obtain ⟨zl, zv⟩ := upto1 hzs
        have lV : g₄.IsList V (slicePick zs.toArray none (some (-1)) none).toList.toArray := ⟨_, by simpa using eV, rfl, 0, by simp⟩
        refine bisL (f := fun j => (pre i x.cps.toList j : Int)) G₄' (by show A.depth + 1 < _; omega) (by dsimp only; omega) lV (by rw [zl]; decide) (fun j hj => zv j (by rw [zl] at hj; exact hj)) (fun a b hab _ => Int.ofNat_le.mpr (pre_mono i _ hab)) ?_
        intro R tR g₅ tq₅ htq₅ kg₅ hR1 hR2 hR3
        rw [zl] at hR1 hR3
        have S₅ := S₄.stays kg₅
        refine Subscript_ ?_
        refine nmL S₅.ns S₅.mN ?_
        refine nmL S₅.ns S₅.mK ?_
        refine item_litK (stays_list (stays_trans kg₄ kg₅) lNr) (Int.natCast_nonneg _) kFit enb ?_
        refine PyProof.Rows.ne_int ?_
        have eR : R = bn := bis_near hbnT henT hn2 hn3 (by rw [hTl]; exact hR1) hR2 (fun j h1 h2 => hR3 j h1 (by rw [hTl] at h2; exact h2))
        rw [eR]
        refine wpAny_truthy_bool ?_
        simp only [bne_self_eq_false, Bool.false_eq_true, if_false]
        exact wpAny_execs_nil ⟨rfl, g₅, _, rfl, htq₅, fun b o e => kg₅ _ _ (kg₄ _ _ (k₂₃g _ _ e))⟩
      clear htq₃ k₂₃g g₃ tq₃
      rintro g₃ tq₃ ⟨htq₃, k₂₃g⟩
      have S₂ := S₂.stays k₂₃g
      have cH₂ := cell_keep cH₂ (k₂₃g _)
      have cR₂ := cell_keep cR₂ (k₂₃g _)
      clear k₂₃g lZ mZ hzs
      refine cutH s (fun h tk => 1 ≤ tk ∧ ∃ d od, LoopS L I B Fa Nr x tx tk' h₃ g₁ k h m₂ ∧ h.IsCell (L + 1 + 1) (some (.ref (handA i))) ∧ h.IsCell (L + 1 + 1 + 1) (some (.ref d)) ∧ h.get? d = some od ∧ ∀ h' : Heap, h'.get? d = some od → StrTab prog w h' d (dOf i)) ?_ ?_
      · have G₂ := hG _ (hKB _ S₂.k4)
        obtain ⟨lB, hb⟩ := hBx _ (hKB _ S₂.k4)
        obtain ⟨b, tw, tr, eb, lb⟩ := hb k i r hbk
        refine wpAny_Assign_Name ?_
        refine Call_ ?_
        refine nmG (v := .ref 88) G₂ (by kernel_rfl!) ?_
        refine callWith_K G₂.X (by kernel_rfl!) ?_
        refine spliced_more ?_
        refine Subscript_ ?_
        refine Subscript_ ?_
        refine nmL S₂.ns S₂.mB ?_
        refine nmL S₂.ns S₂.mK ?_
        refine item_litK lB (Int.natCast_nonneg _) kFit eb ?_
        refine wpAny_Constant_int ?_
        refine item_litK (vs := [_, _]) lb (by decide) (by decide) rfl ?_
        refine spliced_none ⟨G₂.X, ?_⟩
        refine wpAny_with_toks (n := 1) (by dsimp only; omega) ?_
        refine refs_call hi5 G₂ (by show A.depth + 1 < _; exact Nat.lt_trans (Nat.succ_lt_succ hroom) (by decide)) ?_
        intro d g₄ tq₄ kg₄ nd Td htq₄
        obtain ⟨od, ed, hd⟩ := tab_obj Td
        have dR : d ≠ L + 1 + 1 + 1 := fun q => by obtain ⟨o, e, _⟩ := cR₂; rw [← q, nd] at e; cases e
        refine storeCell (cell_keep cR₂ (kg₄ _)) ?_
        intro g₅ c3₅ hs₅
        exact ⟨rfl, g₅, _, rfl, htq₄, d, od, (S₂.stays kg₄).but (a := L + 1 + 1 + 1) hs₅.extBut (.inl (by simp [c4])) (Ne.symm neL3) (Ne.symm ne31) (Ne.symm I3), cell_keep cH₂ fun o e => hs₅.extBut _ _ (Ne.symm ne32) (kg₄ _ _ e), c3₅, hs₅.extBut _ _ dR ed, hd⟩
      clear S₂ cH₂ cR₂ htq₃
      clear g₃ tq₃
      rintro g₂ tq₂ ⟨htq₂, d, od, S₂, cH₂, cR₂, ed, hTd⟩
      refine cutH s (fun h tk => 1 ≤ tk ∧ g₂.StaysIn h) ?_ ?_
      · have G₂ := hG _ (hKB _ S₂.k4)
        refine wpAny_If ?_
        refine wpAny_isTrue_Compare1 ?_
        refine Call_ ?_
        refine nmC (c := L + 1 + 1) (by rfl) cH₂ ?_
        refine callWith_K G₂.X (by exact keep_hand hi5) ?_
        refine spliced_more ?_
        refine nmC (c := L + 1) (by rfl) S₂.cT ?_
        refine spliced_none ⟨G₂.X, ?_⟩
        refine esc_call hi5 G₂ (by show A.depth + 1 < _; exact Nat.lt_trans (Nat.succ_lt_succ hroom) (by decide)) htq₂ hx8 ?_
        intro g₃ tx₃ tq₃ htq₃ kg₃
        refine MethodCall_ ?_
        refine wpAny_Constant_str ?_
        refine getMethod_builtin (typeIs_str _ _ _) PySem.F.plainAttrs_str PySem.F.slot_str_join PySem.F.type_str_join (fun a e => by cases e) ?_
        refine callWith_method1 ?_
        refine spliced_more ?_
        refine wpAny_with_toks (n := 1) (by dsimp only; omega) ?_
        refine wpAny_ListComp_free (fun _ => true) (fun v y => ∀ (c : Nat) (t : Tok), v = Value.str ⟨#[c]⟩ t → ∃ t', y = Value.str (refS i c) t') (by rfl) (by decide) (by rfl) (by decide) (by rfl) ?_
        refine nmC (c := L + 1) (by rfl) (cell_keep S₂.cT (kg₃ _)) ?_
        refine wpAny_pyIter_str ?_
        intro oI St' W' hSt'
        have neJ : ∀ {a : Addr} {o : Obj}, g₃.get? a = some o → a ≠ g₃.objs.size := fun e q => Nat.lt_irrefl _ (q ▸ Heap.lt_size e)
        refine ⟨g₃.objs.size, [g₃.objs.size], [g₃.objs.size], _, _, St', rfl, W' _ hh, ?_, hSt', ?_, ⟨?_, ?_⟩, ?_⟩
        · rw [sizeLine_eq]; exact Nat.le_trans hx8 (by decide)
        · intro b hb
          rw [List.mem_singleton.mp hb]
          dsimp only
          rw [Heap.size_push]; exact Nat.lt_succ_self _
        · intros
          exact testsNil
        · rintro C4 j4 v4 s₄ m₄ E4 hC4 ⟨cc, u4, hcc, rfl⟩ _ hn4 hm4 hk4 ht4
          have off4 : g₂.StaysIn s₄.heap := fun b o e => hk4 b o (fun q => neJ (kg₃ _ _ e) (List.mem_singleton.mp q)) (stays_push _ _ _ _ (kg₃ _ _ e))
          have Td := hTd s₄.heap (off4 _ _ ed)
          refine MethodCall_ ?_
          refine nmC (c := L + 1 + 1 + 1) (by rfl) (cell_keep cR₂ (off4 _)) ?_
          refine getMethod_tab PySem.F.slot_dict_get PySem.F.type_dict_get Td ?_
          refine callWith_method1 ?_
          refine spliced_more ?_
          refine nmL hn4 hm4 ?_
          refine spliced_more ?_
          refine nmL hn4 hm4 ?_
          refine spliced_none ?_
          refine get_ref Td ?_
          intro t'
          refine ⟨fun c t e => ?_, _, _, rfl, fun _ _ e => e⟩
          cases e
          exact ⟨_, rfl⟩
        · intro D4 h₄ tk₄ ys4 vs4 nD4 lD4 _ hvl4 hvP4 hpair4 hkeep4 htk₄
          rw [PySem.W.filter_all] at hpair4
          have hst := strs_refs (l := x.cps.toList) hpair4 (by rw [hvl4]; simp) (fun j v hv => by obtain ⟨c, u, h1, h2⟩ := hvP4 j v hv; exact ⟨c, u, by simpa using h1, h2⟩)
          have off4 : ∀ b o, g₃.get? b = some o → h₄.get? b = some o := fun b o e => hkeep4 b o (fun q => neJ e (List.mem_singleton.mp q)) (stays_push _ _ _ _ e)
          refine spliced_none ?_
          refine wpAny_with_toks (n := 1) htk₄ ?_
          refine join_listW lD4 hst (by decide) (refs_weight hi5 hx8) ?_
          intro t' k' hk'
          rw [join_refs]
          refine PyProof.Rows.ne_str ?_
          refine wpAny_truthy_bool ?_
          simp only [bne_self_eq_false, Bool.false_eq_true, if_false]
          exact wpAny_execs_nil ⟨rfl, h₄, _, rfl, hk', fun b o e => off4 _ _ (kg₃ _ _ e)⟩
      rintro g₃ tq₃ ⟨htq₃, k₂₃g⟩
      have S₃ := S₂.stays k₂₃g
      refine wpAny_execs_nil ?_
      refine hQ g₃ tq₃ m₂ htq₃ ⟨S₃.ns, fun b o e => by simp [Heap.get?] at e, Nat.zero_le _⟩ ⟨S₃.mB, S₃.mF, S₃.mN, S₃.k4, S₃.cT, ⟨_, cell_keep cH₂ (k₂₃g _)⟩, ⟨_, cell_keep cR₂ (k₂₃g _)⟩⟩ ?_
      intro b hb o e
      rw [List.mem_singleton.mp hb] at e ⊢
      exact S₃.kI o e
    · exact ⟨mB, mF, mN, fun b o _ e => k₃₄ _ _ e, cell_keep cT (k₃₄ _), ⟨_, cell_keep cH (k₃₄ _)⟩, ⟨_, cell_keep cR (k₃₄ _)⟩⟩
    · rintro h₅ tk₅ m₅ _ _ ⟨_, _, _, k4, _⟩
      exact ⟨rfl, h₅, tk₅, rfl, k4⟩
  intro h₄ tk₄ k₄
  with_reducible refine wpAny_execs_cons ?_
  with_reducible refine wpAny_Return_some ?_
  refine wpAny_Constant_bool ?_
  exact h h₄ tk₄ (hK _ (hKB _ k₄)) (V1.mono P90 k₄).toS (V2.mono P95 k₄).toS
end
end Mine

set_option Elab.async false
set_option maxRecDepth 100000
set_option maxHeartbeats 8000000
namespace Mine
open PySem PySem.W PySem.W.X PyProof.Rows PySem.Calls PySem.Spec
theorem TabS.grown {P : Addr} {qual : Str} {line col : Nat} {h : Heap} (x : TabS P qual line col h) : ∃ ps, h.get? P = some (tabObj ps) := by
  rcases x with e | ⟨c', e, _⟩
  · exact ⟨_, e⟩
  · exact ⟨_, e⟩
theorem was_tab {h h' : Heap} {c P : Addr} {o : Obj} (C : CodeHd h c P) (t : h.get? P = some (tabObj #[])) (e : h.get? P = some o) (g : ∃ ps, h'.get? P = some (tabObj ps)) : asItWas h h' P o := by
  rw [t] at e
  cases e
  obtain ⟨ps, hP⟩ := g
  exact .inr (.inl ⟨(C.tab t).isCodeTable, rfl, #[], ps, rfl, by rw [Array.empty_append]; exact hP⟩)
theorem oldK_two {h h' : Heap} (C1 : CodeHd h 92 90) (C2 : CodeHd h 97 95) (t1 : h.get? 90 = some (tabObj #[])) (t2 : h.get? 95 = some (tabObj #[])) (g1 : ∃ ps, h'.get? 90 = some (tabObj ps)) (g2 : ∃ ps, h'.get? 95 = some (tabObj ps))
    (k : ∀ b o, b ≠ 90 → b ≠ 95 → h.get? b = some o → h'.get? b = some o) : OldK h h' := by
  refine ⟨fun b o e => ?_, fun b o e => ?_⟩
  · by_cases e1 : b = 90
    · subst e1; exact was_tab C1 t1 e g1
    · by_cases e2 : b = 95
      · subst e2; exact was_tab C2 t2 e g2
      · exact .inl (k b o e1 e2 e)
  · by_cases e1 : b = 90
    · subst e1; obtain ⟨ps, q⟩ := g1; exact ⟨_, q⟩
    · by_cases e2 : b = 95
      · subst e2; obtain ⟨ps, q⟩ := g2; exact ⟨_, q⟩
      · exact ⟨o, k b o e1 e2 e⟩
end Mine
open PySem PySem.W PySem.W.X PyProof.Rows PySem.Calls PySem.Spec Mine
set_option maxHeartbeats 8000000 in
theorem PySem.Challenge.cw_pk0082_01_holds : PySem.Challenge.rw_pk0082_01.Holds := by
  refine Mine.hd ?_
  k_fill
  intro w s₀ s₁ mg mb G Y fa o pm cd doc dV kV ho hd hcd hD hmg hg args vals as hpre hlay hrd hwl hlo
  have KX := km_in_of Y
  have t8 := km_tabs_of Y
  have t1 := t8 90 (by simp)
  have t2 := t8 95 (by simp)
  clear t8 Y ho hd hcd hD o pm cd doc dV kV
  refine Ground.open G ?_
  intro T B D TE TW
  wrow_args hpre hlay hrd hwl hlo
  x_fa T KX hmg
  all_lens
  rename Heap.IsList _ _ _ => hL
  rename IntsAre _ _ => hi
  rename ¬ _ => hc
  have G₁ : Gr w mg mb s₁.heap := ⟨KX, T.g, T.b, T.nolimit, T.builtins, T.bmain⟩
  refine law_call G₁ (by decide) (by decide) rfl hL hi (by omega) (.inl t1) (.inl t2) ?_
  intro h' tk' keep g1 g2
  refine ⟨.inl ⟨_, _, [], rfl, fun _ => rfl, ReadsW.bool true, ?_, fun _ => ⟨List.nodup_nil, fun _ hm => (nomatch hm)⟩⟩, oldK_two G₁.code92 G₁.code97 t1 t2 g1.grown g2.grown keep, rfl, .of_eq hg⟩
  first | rfl | wrow_post

