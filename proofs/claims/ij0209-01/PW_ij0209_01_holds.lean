import PyProof.Rows.All
import Wide.All
import OpenK.AllK
import Wide.FinOn
import Lean
import PySem.Challenge.RW_ij0209_01
open PySem PySem.W PyProof.Rows
set_option Elab.async false
set_option rowWalk.seconds 0
set_option linter.all false
set_option compiler.extract_closed false
set_option genInjectivity false
set_option genSizeOf false
set_option maxRecDepth 100000
set_option maxHeartbeats 8000000
section
theorem Mine.o_hd (H : Hook) {d : DefRec} {kwd : List (Str × Expr)} (hl : LeftO PySem.Challenge.rw_ij0209_01.row.prog (view PySem.Challenge.pw_ij0209_01 [0, 1, 3, 5, 7, 8, 10, 12, 13, 15, 16, 17, 18, 20, 21, 23, 24, 27, 29, 30, 31, 32, 33, 34, 35, 36]) [PySem.Str.ofString "_initial_missing", PySem.Str.ofString "reduce"] (fun s => xlAt (view PySem.Challenge.pw_ij0209_01 [0, 1, 3, 5, 7, 8, 10, 12, 13, 15, 16, 17, 18, 20, 21, 23, 24, 27, 29, 30, 31, 32, 33, 34, 35, 36]) [] s && recOk (RowW.records (OpenRow.toRowW PySem.Challenge.rw_ij0209_01.row)) s) H.obs H.val 3520)
    (h1 : defOf (view PySem.Challenge.pw_ij0209_01 [0, 1, 3, 5, 7, 8, 10, 12, 13, 15, 16, 17, 18, 20, 21, 23, 24, 27, 29, 30, 31, 32, 33, 34, 35, 36]) PySem.Challenge.rw_ij0209_01.row.name = some (d, kwd)) (h2 : PySem.Challenge.rw_ij0209_01.row.prog.theDef PySem.Challenge.rw_ij0209_01.row.name = some (d.params, d.body, d.scope)) (h3 : kwWritten? d.params.kwonlyargs d.params.kw_defaults = some kwd)
    (h4 : PySem.Challenge.rw_ij0209_01.row.wellSaid = true) (hw : PySem.Challenge.rw_ij0209_01.row.promised) (hc : WalkO (view PySem.Challenge.pw_ij0209_01 [0, 1, 3, 5, 7, 8, 10, 12, 13, 15, 16, 17, 18, 20, 21, 23, 24, 27, 29, 30, 31, 32, 33, 34, 35, 36]) [PySem.Str.ofString "_initial_missing", PySem.Str.ofString "reduce"] (XL (view PySem.Challenge.pw_ij0209_01 [0, 1, 3, 5, 7, 8, 10, 12, 13, 15, 16, 17, 18, 20, 21, 23, 24, 27, 29, 30, 31, 32, 33, 34, 35, 36]) []) (Hook.says H) (OpenRow.toRowW PySem.Challenge.rw_ij0209_01.row) d kwd fun f vs => call f vs) : PySem.Challenge.rw_ij0209_01.row.Holds :=
  W.holds_open (q := (view PySem.Challenge.pw_ij0209_01 [0, 1, 3, 5, 7, 8, 10, 12, 13, 15, 16, 17, 18, 20, 21, 23, 24, 27, 29, 30, 31, 32, 33, 34, 35, 36])) (loose := [PySem.Str.ofString "_initial_missing", PySem.Str.ofString "reduce"]) (Xt := (fun s => xlAt (view PySem.Challenge.pw_ij0209_01 [0, 1, 3, 5, 7, 8, 10, 12, 13, 15, 16, 17, 18, 20, 21, 23, 24, 27, 29, 30, 31, 32, 33, 34, 35, 36]) [] s && recOk (RowW.records (OpenRow.toRowW PySem.Challenge.rw_ij0209_01.row)) s)) (XP := XL (view PySem.Challenge.pw_ij0209_01 [0, 1, 3, 5, 7, 8, 10, 12, 13, 15, 16, 17, 18, 20, 21, 23, 24, 27, 29, 30, 31, 32, 33, 34, 35, 36]) []) (Yf := H.obs) (Ya := H.val) (YP := H.says) (N := 3520) hl H.of H.keeps (fun s e => xl_of s (Bool.and_eq_true_iff.mp e).1) XL.keeps h1 h2 h3 (fun s e => recFacts_of (Bool.and_eq_true_iff.mp e).2) (by rfl) h4 (by decide +kernel) ⟨rfl, rfl, rfl, rfl, rfl, by decide +kernel⟩ hw hc
local macro_rules | `(tactic| o_head $H) => `(tactic| (refine Mine.o_hd $H ?hl rfl rfl rfl (by first | assumption | decide +kernel) ?hw ?hc; (case hl => refine LeftO.of_split "special-get-raises" ?_; intro w; kernel_rfl)))
open_top Mine.hd for PySem.Challenge.rw_ij0209_01
end
namespace Mine
open PySem.Calls PySem.Spec

/- What a call of the top's def at `f` upon `vs` gives, from any caller's frame: `n` bounds the frames below it,
`Pre` is asked of the heap, `Ret` is said of the heap ahead, the heap behind and the value. All that stood stays. -/
noncomputable def Told (w : World) (f : Addr) (vs : List Value) (n : Nat) (Pre : Heap → Prop) (Ret : Heap → Heap → Value → Prop) : Prop :=
  ∀ (p : Program) (loose : List Str) (mean : ExcName → Option Value) (mg mb : Str → Option Value) (dp un : Nat) (gd : Option (List Code)) (cn : Str) (cs : Scope) (a : Addr) (ccd : Value)
    (cl : List (Str × Addr)) (outer : List Env) (A₀ : Around) (base h₀ : Heap) (L : Addr) (m : Str → Option Value) (s : Shared) (Q E : Value → Shared → Prop),
    Below A₀ base outer h₀ → Fr h₀ L s.heap m → (hd.heap_39 w.params).In h₀ → Top p loose mean mg mb h₀ → cs.kind = .function → Pre s.heap →
    dp + n < recursionLimit → un + 8 * n < cLine →
    (∀ v h' tk', s.heap.StaysIn h' → s.heap.objs.size ≤ h'.objs.size → Ret s.heap h' v → Q v { s with heap := h', toks := tk' }) →
    wpAny (model PySem.Challenge.rw_ij0209_01.row.prog w) (ktrTop dp un gd cn cs L a ccd cl outer) (call (.ref f) vs) Q E s

/- How a def's frame is left: the answer goes to the caller. -/
noncomputable def EndP (R : Result → Shared → Prop) (v : Value) (s' : Shared) : Prop := R (.ok (.ret v)) s'

theorem code_defP {prog : Program} {w : World} {A₀ A : Around} {s : Shared} {K : Frag} {base h₀ : Heap} {L : Addr} {m mg mb : Str → Option Value} {p : Program} {loose : List Str} {mean : ExcName → Option Value}
    {env : Env} {outer : List Env} {R : Result → Shared → Prop} {name qual : Str} {params : Arguments} {body : List Stmt} {scope : Scope} {dV kV doc pm cdv ct oc : Value} {an od : Option Addr} {osl : Array (Option Value)} {f : Addr} {args : Args} {binds : List (Str × Value)}
    (B : Below A₀ base outer h₀) (F : Fr h₀ L s.heap m) (X₀ : K.In h₀) (T : Top p loose mean mg mb h₀) (hA : A.frames = some (env :: outer)) (hf : env.frame = some L) (hke : env.scope.kind = .function)
    (ho : K.lookup f = some ⟨oc, od, .func (fnOf name qual params body scope dV kV doc pm an cdv ct), osl⟩) (hcd : codeIn K cdv qual = true) (hroom : A.depth < recursionLimit)
    (hbind : BindsTo s (fnOf name qual params body scope dV kV doc pm an cdv ct) args binds) (hloc : ∀ y ∈ binds, scope.names.lookup y.1 = some .local)
    (h : ∀ g L' h₁, g = s.heap → Fr g L' h₁ (fun y => binds.reverse.lookup y) → News g L' h₁ [] → Below A base (env :: outer) g → K.In g → Top p loose mean mg mb g →
      wpAny (model prog w) (A.deeper (envOf qual scope L' f cdv)) (execs body (envOf qual scope L' f cdv))
        (fun fl s' => EndP R (match fl with | .ret v => v | _ => .none) s')
        (fun e s' => wpAny (model prog w) (A.deeper (envOf qual scope L' f cdv)) (leaving (envOf qual scope L' f cdv) e) (fun _ s'' => R (.error e) s'') (fun e' s'' => R (.error e') s'') s')
        { s with heap := h₁, toks := s.toks + binds.length })
    (hco : scope.isCoroutine = false) (hgen : scope.isGenerator = false) (hk : scope.kind = .function)
    (hcell : ∀ x ∈ scope.names, x.2 ≠ .cell) : codeAny (model prog w) A (.call (.ref f) args) R s := by
  have B₁ := pushX B F hf hke
  refine codeAny_call_def (fd := fnOf name qual params body scope dV kV doc pm an cdv ct) (body := body) (binds := binds) hroom ((X₀.keeps F.keep) _ _ ho) rfl (T.nolimit.keeps F.keep) (codeRec_of (X₀.keeps F.keep) hcd) rfl hbind hcell hloc (fun h₁ hns hk₁ => ?_) hco hgen hk
  exact h s.heap s.heap.objs.size h₁ rfl ⟨hns, hk₁, Nat.le_refl _⟩ News.nil ⟨hA, B₁.stays, B₁.frames⟩ (X₀.keeps F.keep) (T.keeps F.keep)

end Mine
namespace Mine
theorem fr_size {g h : Heap} {L : Addr} {m : Str → Option Value} (F : Fr g L h m) : g.objs.size ≤ h.objs.size := Nat.le_trans F.above (Nat.le_of_lt F.ns.lt)
end Mine
namespace Mine
open PySem.Calls PySem.Spec
section
variable {w : World} {f : Addr} {vs : List Value} {n : Nat} {Pre : Heap → Prop} {Ret : Heap → Heap → Value → Prop}
  {p : Program} {loose : List Str} {mean : ExcName → Option Value} {mg mb : Str → Option Value} {dp un : Nat} {gd : Option (List Code)} {cn : Str} {cs : Scope} {a : Addr} {ccd : Value}
  {cl : List (Str × Addr)} {outer : List Env} {A₀ : Around} {base h₀ : Heap} {L : Addr} {m : Str → Option Value} {s : Shared} {news : List (Addr × Obj)} {Q E : Value → Shared → Prop}
theorem use (C : Told w f vs n Pre Ret) (B : Below A₀ base outer h₀) (F : Fr h₀ L s.heap m) (X : (hd.heap_39 w.params).In h₀) (N : News h₀ L s.heap news) (T : Top p loose mean mg mb h₀) (hk : cs.kind = .function)
    (hpre : Pre s.heap) (hdp : dp + n < recursionLimit) (hun : un + 8 * n < cLine)
    (h : ∀ v h' tk', Fr h₀ L h' m → News h₀ L h' news → s.heap.StaysIn h' → s.heap.objs.size ≤ h'.objs.size → Ret s.heap h' v → Q v { s with heap := h', toks := tk' }) :
    wpAny (model PySem.Challenge.rw_ij0209_01.row.prog w) (ktrTop dp un gd cn cs L a ccd cl outer) (call (.ref f) vs) Q E s :=
  C p loose mean mg mb dp un gd cn cs a ccd cl outer A₀ base h₀ L m s Q E B F X T hk hpre hdp hun fun v h' tk' st sz r => h v h' tk' (F.keptAll st) (N.grown st) st sz r
end
noncomputable def AllNe (d : Addr) : List (Addr × Obj) → Prop
  | [] => True
  | p :: r => @Ne Nat p.1 d ∧ AllNe d r
theorem allNe_of {h₀ h : Heap} {L d : Addr} : ∀ {l : List (Addr × Obj)}, News h₀ L h l → h.get? d = none → AllNe d l
  | [], _, _ => trivial
  | p :: _, N, e => ⟨fun q => (by have z := (N p (.head _)).1; rw [q, e] at z; exact nomatch z), allNe_of (fun q hq => N q (.tail _ hq)) e⟩
theorem news_made {h₀ h h' : Heap} {L D : Addr} {m : Str → Option Value} {news : List (Addr × Obj)} {o : Obj} (F : Fr h₀ L h m) (N : News h₀ L h' news) (e : h.get? D = none) (ho : h'.get? D = some o) : News h₀ L h' ((D, o) :: news) := fun q hq => by
  rcases List.mem_cons.mp hq with rfl | hq
  · refine ⟨ho, fun q => ?_, ?_⟩
    · obtain ⟨oL, _, _, hL, _⟩ := F.ns
      have e2 : h.get? L = none := q ▸ e
      rw [hL] at e2; cases e2
    · cases z : h₀.get? D with
      | none => rfl
      | some o' => have := F.keep _ _ z; rw [e] at this; cases this
  · exact N q hq
/- The answers: bytes, an int, a bool, a pair of bytes that is new. -/
noncomputable def RB (b : Array UInt8) : Heap → Heap → Value → Prop := fun _ _ v => ∃ t, v = .bytes b t
noncomputable def RI (i : Int) : Heap → Heap → Value → Prop := fun _ _ v => ∃ t, v = .int i t
noncomputable def RV (x : Value) : Heap → Heap → Value → Prop := fun _ _ v => v = x
noncomputable abbrev tupObj (vs : List Value) (c : Nat) : Obj := { cls := .type "tuple", data := .seq vs.toArray c }
noncomputable def RT2 (x y : Array UInt8) : Heap → Heap → Value → Prop := fun h h' v => ∃ D t1 t2 c, v = .ref D ∧ h.get? D = none ∧ h'.get? D = some (tupObj [.bytes x t1, .bytes y t2] c)
section
variable {w : World} {f : Addr} {vs : List Value} {n : Nat} {Pre : Heap → Prop} {x y : Array UInt8} {i : Int} {v₀ : Value}
  {p : Program} {loose : List Str} {mean : ExcName → Option Value} {mg mb : Str → Option Value} {dp un : Nat} {gd : Option (List Code)} {cn : Str} {cs : Scope} {a : Addr} {ccd : Value}
  {cl : List (Str × Addr)} {outer : List Env} {A₀ : Around} {base h₀ : Heap} {L : Addr} {m : Str → Option Value} {s : Shared} {news : List (Addr × Obj)} {Q E : Value → Shared → Prop}
theorem useB (C : Told w f vs n Pre (RB x)) (B : Below A₀ base outer h₀) (F : Fr h₀ L s.heap m) (X : (hd.heap_39 w.params).In h₀) (N : News h₀ L s.heap news) (T : Top p loose mean mg mb h₀) (hk : cs.kind = .function)
    (hpre : Pre s.heap) (hdp : dp + n < recursionLimit) (hun : un + 8 * n < cLine)
    (h : ∀ t h' tk', Fr h₀ L h' m → News h₀ L h' news → Q (.bytes x t) { s with heap := h', toks := tk' }) :
    wpAny (model PySem.Challenge.rw_ij0209_01.row.prog w) (ktrTop dp un gd cn cs L a ccd cl outer) (call (.ref f) vs) Q E s :=
  use C B F X N T hk hpre hdp hun fun v h' tk' F' N' _ _ r => by obtain ⟨t, rfl⟩ := r; exact h t h' tk' F' N'
theorem useI (C : Told w f vs n Pre (RI i)) (B : Below A₀ base outer h₀) (F : Fr h₀ L s.heap m) (X : (hd.heap_39 w.params).In h₀) (N : News h₀ L s.heap news) (T : Top p loose mean mg mb h₀) (hk : cs.kind = .function)
    (hpre : Pre s.heap) (hdp : dp + n < recursionLimit) (hun : un + 8 * n < cLine)
    (h : ∀ t h' tk', Fr h₀ L h' m → News h₀ L h' news → Q (.int i t) { s with heap := h', toks := tk' }) :
    wpAny (model PySem.Challenge.rw_ij0209_01.row.prog w) (ktrTop dp un gd cn cs L a ccd cl outer) (call (.ref f) vs) Q E s :=
  use C B F X N T hk hpre hdp hun fun v h' tk' F' N' _ _ r => by obtain ⟨t, rfl⟩ := r; exact h t h' tk' F' N'
theorem useV (C : Told w f vs n Pre (RV v₀)) (B : Below A₀ base outer h₀) (F : Fr h₀ L s.heap m) (X : (hd.heap_39 w.params).In h₀) (N : News h₀ L s.heap news) (T : Top p loose mean mg mb h₀) (hk : cs.kind = .function)
    (hpre : Pre s.heap) (hdp : dp + n < recursionLimit) (hun : un + 8 * n < cLine)
    (h : ∀ h' tk', Fr h₀ L h' m → News h₀ L h' news → Q v₀ { s with heap := h', toks := tk' }) :
    wpAny (model PySem.Challenge.rw_ij0209_01.row.prog w) (ktrTop dp un gd cn cs L a ccd cl outer) (call (.ref f) vs) Q E s :=
  use C B F X N T hk hpre hdp hun fun v h' tk' F' N' _ _ r => by cases r; exact h h' tk' F' N'
theorem useT2 (C : Told w f vs n Pre (RT2 x y)) (B : Below A₀ base outer h₀) (F : Fr h₀ L s.heap m) (X : (hd.heap_39 w.params).In h₀) (N : News h₀ L s.heap news) (T : Top p loose mean mg mb h₀) (hk : cs.kind = .function)
    (hpre : Pre s.heap) (hdp : dp + n < recursionLimit) (hun : un + 8 * n < cLine)
    (h : ∀ D t1 t2 c h' tk', Fr h₀ L h' m → News h₀ L h' ((D, tupObj [.bytes x t1, .bytes y t2] c) :: news) → AllNe D news → Q (.ref D) { s with heap := h', toks := tk' }) :
    wpAny (model PySem.Challenge.rw_ij0209_01.row.prog w) (ktrTop dp un gd cn cs L a ccd cl outer) (call (.ref f) vs) Q E s :=
  use C B F X N T hk hpre hdp hun fun v h' tk' F' N' _ _ r => by
    obtain ⟨D, t1, t2, c, rfl, hD, ho⟩ := r
    exact h D t1 t2 c h' tk' F' (news_made F N' hD ho) (allNe_of N hD)
end
end Mine
namespace Mine
theorem rb_end {x y : Array UInt8} {t : Tok} {g h : Heap} (e : x = y) : RB y g h (.bytes x t) := ⟨t, by rw [e]⟩
theorem ri_end {x y : Int} {t : Tok} {g h : Heap} (e : x = y) : RI y g h (.int x t) := ⟨t, by rw [e]⟩
theorem rt2_end {x y x' y' : Array UInt8} {g h : Heap} {L D : Addr} {t1 t2 : Tok} {c : Nat} {m : Str → Option Value} {news : List (Addr × Obj)} (F : Fr g L h m) (N : News g L h news) (hm : (D, tupObj [.bytes x t1, .bytes y t2] c) ∈ news) (e1 : x = x') (e2 : y = y') : RT2 x' y' g h (.ref D) := by
  subst e1; subst e2
  exact ⟨D, t1, t2, c, rfl, (N _ hm).2.2, (N _ hm).1⟩
end Mine
namespace Mine
open PySem.Calls PySem.Spec PySem.Builtin
section
variable {prog : Program} {w : World} {A : Around} {E : Value → Shared → Prop} {s : Shared}
theorem type_bytes {b : Array UInt8} {t : Tok} {Q : Value → Shared → Prop} (hq : Q (.type "bytes") s) :
    wpAny (model prog w) A (call (.type "type") [.bytes b t]) Q E s := by
  obtain ⟨h, g, d, tk, os⟩ := s
  refine wpAny_call (codeAny_of_tree ?_)
  show wpAny _ _ (callAny (.type "type") ⟨[.bytes b t], []⟩) _ _ _
  simp only [callAny]
  refine wpAny_pure ⟨Code.quiet_builtin _ (by decide +kernel), codeAny_builtin entry_type_call ?_⟩
  unfold Builtin.«type.__call__»
  dsimp only
  unfold shownTypeOf
  repeat wp_step
  exact hq
end
end Mine
namespace Mine
open PySem.Calls PySem.Spec PySem.Builtin
section
variable {prog : Program} {w : World} {A : Around} {E : Value → Shared → Prop} {s : Shared}
theorem issub_one {X Y : String} {r : Bool} {k : Value} {dep : Int} {tk : Tok} {Q : PySem.Fin → Shared → Prop} (hk : k = .int dep tk)
    (hx : typeOf (.type X) = pure (.type "type")) (hy : typeOf (.type Y) = pure (.type "type"))
    (hr : isSubtype (.type X) (.type Y) = pure r) (hq : Q (.done (.ret (.bool r))) s) :
    wpAny (model prog w) A (Builtin.«issubclass.nested» ⟨[.type X, .type Y, k], []⟩) Q E s := by
  subst hk
  have hx' := hx
  have htt : isSubtype (.type "type") (.type "type") = pure true := by rw [isSubtype_type]; kernel_rfl
  repeat (any_goals (first | assumption | wp_step | (rw [hr]) ))
  done
theorem kind_issub : builtinKind "issubclass.nested" = none := by decide +kernel
theorem plain_issub : plainId "issubclass.nested" = true := by decide +kernel
theorem args_issub (a b c : Value) : argsOk "issubclass.nested" ⟨[a, b, c], []⟩ := by unfold argsOk; kernel_rfl
theorem issub_tup {X Y Z : String} {l : Addr} {Q : PySem.Fin → Shared → Prop} (ht : IsTup s.heap l #[.type Y, .type Z])
    (hx : typeOf (.type X) = pure (.type "type")) (hy : typeOf (.type Y) = pure (.type "type")) (hz : typeOf (.type Z) = pure (.type "type"))
    (hr : isSubtype (.type X) (.type Y) = pure false) (hr' : isSubtype (.type X) (.type Z) = pure true) (hq : Q (.done (.ret (.bool true))) s) :
    wpAny (model prog w) A (Builtin.«issubclass.nested» ⟨[.type X, .ref l, rawInt 0], []⟩) Q E s := by
  obtain ⟨o, ho, hc, n, hd⟩ := ht
  unfold Builtin.«issubclass.nested»
  have hT : s.TypeIs (.ref l) "tuple" := ⟨o, ho, hc⟩
  refine wpAny_bind (wpAny_typeOf hT ?_)
  rw [if_neg (by decide)]
  refine wpAny_bind ?_
  unfold Builtin.Builtins.unionMembers
  refine wpAny_bind (wpAny_typeOf hT ?_)
  rw [if_neg (by decide)]
  refine wpAny_pure ?_
  refine wpAny_bind (wpAny_isInstance ⟨o, ho, hc⟩ isSubtype_tuple_tuple ?_)
  rw [if_pos rfl]
  rw [if_neg (by decide)]
  refine wpAny_bind (wpAny_seqItems ho hd ?_)
  dsimp only [Option.getD_some, Option.getD]
  refine wpAny_bind ?_
  rw [← Array.forIn_toList]
  dsimp only
  rw [List.forIn_cons]
  refine wpAny_bind (wpAny_bind (call_function_entry kind_issub plain_issub F.entry_issubclass_nested (args_issub _ _ _) (issub_one rfl hx hy hr ⟨_, rfl, ?_⟩)))
  refine wpAny_bind (wpAny_truthy_bool ?_)
  rw [if_neg (by decide)]
  refine wpAny_pure ?_
  dsimp only
  rw [List.forIn_cons]
  refine wpAny_bind (wpAny_bind (call_function_entry kind_issub plain_issub F.entry_issubclass_nested (args_issub _ _ _) (issub_one rfl hx hz hr' ⟨_, rfl, ?_⟩)))
  refine wpAny_bind (wpAny_truthy_bool ?_)
  rw [if_pos rfl]
  repeat wp_step
  exact hq
theorem issub_bytes {l : Addr} {Q : Value → Shared → Prop} (ht : IsTup s.heap l #[.type "str", .type "bytes"]) (hq : Q (.bool true) s) :
    wpAny (model prog w) A (call (.builtin "issubclass") [.type "bytes", .ref l]) Q E s :=
  call_issubclass (S := fun _ R s' => IsTup s'.heap l #[.type "str", .type "bytes"] ∧ R (.ok (.ret (.bool true))) s')
    (fun _ _ _ _ _ hs => issubclass_outer (issub_tup hs.1 (by kernel_rfl) (by kernel_rfl) (by kernel_rfl) (by rw [isSubtype_type]; kernel_rfl) (by rw [isSubtype_type]; kernel_rfl) hs.2)) ⟨ht, hq⟩
end
end Mine
section
namespace Mine
open PySem.Calls PySem.Spec PySem.Builtin
section facts
theorem slot_bytes_rfind : Slot "bytes" "rfind" "bytes.rfind" :=
  .of (owner := "bytes") (n := "rfind") (by rw [typeLookup_type, builtinLookup_eq_fast]; kernel_rfl) (by decide +kernel) (by decide +kernel) (by decide +kernel)
    (by first | exact .inl (by decide +kernel) | exact .inr (by decide +kernel)) (by rw [isSubtype_type]; kernel_rfl)
theorem type_bytes_rfind : typeOf (.builtin "bytes.rfind") = pure (.type "method_descriptor") := by show builtinType _ = _; rw [builtinType_eq_fast]; kernel_rfl
theorem entry_bytes_rfind : entryFor table "bytes.rfind" = some Builtin.«bytes.rfind» := entryFor_of_tree (by kernel_rfl)
theorem args_bytes_rfind (a b : Value) : argsOk "bytes.rfind" ⟨[a, b], []⟩ := by
  unfold argsOk; rw [signature?_of (id := "bytes.rfind") (n := ['d', 'n', 'i', 'f', 'r']) (o := ['s', 'e', 't', 'y', 'b']) (by kernel_rfl) FB.owner_bytes]; kernel_rfl
theorem slot_bytes_rstrip : Slot "bytes" "rstrip" "bytes.rstrip" :=
  .of (owner := "bytes") (n := "rstrip") (by rw [typeLookup_type, builtinLookup_eq_fast]; kernel_rfl) (by decide +kernel) (by decide +kernel) (by decide +kernel)
    (by first | exact .inl (by decide +kernel) | exact .inr (by decide +kernel)) (by rw [isSubtype_type]; kernel_rfl)
theorem type_bytes_rstrip : typeOf (.builtin "bytes.rstrip") = pure (.type "method_descriptor") := by show builtinType _ = _; rw [builtinType_eq_fast]; kernel_rfl
theorem entry_bytes_rstrip : entryFor table "bytes.rstrip" = some Builtin.«bytes.rstrip» := entryFor_of_tree (by kernel_rfl)
theorem args_bytes_rstrip (a b : Value) : argsOk "bytes.rstrip" ⟨[a, b], []⟩ := by
  unfold argsOk; rw [signature?_of (id := "bytes.rstrip") (n := ['p', 'i', 'r', 't', 's', 'r']) (o := ['s', 'e', 't', 'y', 'b']) (by kernel_rfl) FB.owner_bytes]; kernel_rfl
end facts

/- What rfind, rstrip, startswith, endswith give upon bytes. -/
noncomputable def rfindZ (b c : Array UInt8) : Int := match (if (b.size : Int) < c.size then none else Bytes.rfind? b c 0 b.size) with
  | some i => (i : Int)
  | none => -1
noncomputable def rstripB (b c : Array UInt8) : Array UInt8 := ((b.toList.reverse.dropWhile c.contains).reverse).toArray
noncomputable def startsB (b c : Array UInt8) : Bool := if (b.size : Int) < c.size then false else b.extract 0 c.size == c
noncomputable def endsB (b c : Array UInt8) : Bool := if (b.size : Int) < c.size then false else b.extract (b.size - c.size) b.size == c

theorem window_all (n : Nat) : Bytes.window n none none = (0, (n : Int)) := by
  unfold Bytes.window
  simp only [Option.getD_none]
  rw [if_neg (by lia), if_neg (by lia)]
  congr 1
  lia
theorem gives_rfind (b c : Array UInt8) (t u : Tok) : Gives («bytes.rfind» ⟨[.bytes b t, .bytes c u], []⟩) (.int (rfindZ b c)) := by
  refine .of_wp fun M A E s Q hq => ?_
  have hbuf : ∀ id, Bytes.buffer? id (.bytes c u) = pure (some c) := fun id => KBy.buffer_eq
  unfold Builtin.«bytes.rfind» Bytes.searchM Bytes.searchArgs
  repeat (first | (refine wpAny_of_eq (hbuf _) ?_) | wp_step)
  rw [window_all]
  dsimp only
  rw [Int.sub_zero, Int.toNat_natCast]
  have key : ∀ r : Option Nat, r = (if (b.size : Int) < c.size then none else Bytes.rfind? b c 0 b.size) →
      wpAny M A (match r with | some i => retInt (i : Int) | none => do rule (toString Bytes.Kind.bytes.name ++ toString "." ++ toString "rfind" ++ toString ".not-found"); if false = true then raiseErrorWords "ValueError" "subsection not found" else retInt (-1)) (fun fin s' => ∃ v, fin = Fin.done (Flow.ret v) ∧ Q v s') E s := by
    intro r hr
    unfold rfindZ at hq
    rw [← hr] at hq
    cases r with
    | none => exact wpAny_bind (wpAny_rule (wpAny_bind (wpAny_mkInt (wpAny_pure ⟨_, rfl, hq⟩))))
    | some i => exact wpAny_bind (wpAny_mkInt (wpAny_pure ⟨_, rfl, hq⟩))
  refine key _ ?_
  by_cases h : (b.size : Int) < c.size
  · rw [if_pos h, if_pos h]; rfl
  · rw [if_neg h, if_neg h]; rfl
theorem gives_starts (b c : Array UInt8) (t u : Tok) : Gives («bytes.startswith» ⟨[.bytes b t, .bytes c u], []⟩) (.val (.bool (startsB b c))) := by
  refine .of_wp fun M A E s Q hq => ?_
  have hbuf : ∀ id, Bytes.buffer? id (.bytes c u) = pure (some c) := fun id => KBy.buffer_eq
  have hT := typeIs_bytes s c u
  have hs : isSubtype (.type "bytes") (.type "tuple") = pure false := by rw [isSubtype_type]; kernel_rfl
  unfold Builtin.«bytes.startswith» Bytes.tailMatchM
  repeat (first | (refine wpAny_of_eq (hbuf _) ?_) | wp_step)
  refine ⟨_, rfl, ?_⟩
  have e : (fun sub : Array UInt8 => if (Bytes.window b.size none none).snd - (Bytes.window b.size none none).fst < ↑sub.size then false else if false = true then b.extract ((Bytes.window b.size none none).snd.toNat - sub.size) (Bytes.window b.size none none).snd.toNat == sub else b.extract (Bytes.window b.size none none).fst.toNat ((Bytes.window b.size none none).fst.toNat + sub.size) == sub) c = startsB b c := by
    rw [window_all]
    unfold startsB
    dsimp only
    rw [Int.sub_zero, if_neg (show ¬ (false = true) from by decide)]
    simp only [Int.toNat_zero, Nat.zero_add]
  rw [e]
  exact hq
theorem gives_ends (b c : Array UInt8) (t u : Tok) : Gives («bytes.endswith» ⟨[.bytes b t, .bytes c u], []⟩) (.val (.bool (endsB b c))) := by
  refine .of_wp fun M A E s Q hq => ?_
  have hbuf : ∀ id, Bytes.buffer? id (.bytes c u) = pure (some c) := fun id => KBy.buffer_eq
  have hT := typeIs_bytes s c u
  have hs : isSubtype (.type "bytes") (.type "tuple") = pure false := by rw [isSubtype_type]; kernel_rfl
  unfold Builtin.«bytes.endswith» Bytes.tailMatchM
  repeat (first | (refine wpAny_of_eq (hbuf _) ?_) | wp_step)
  refine ⟨_, rfl, ?_⟩
  have e : (fun sub : Array UInt8 => if (Bytes.window b.size none none).snd - (Bytes.window b.size none none).fst < ↑sub.size then false else if true = true then b.extract ((Bytes.window b.size none none).snd.toNat - sub.size) (Bytes.window b.size none none).snd.toNat == sub else b.extract (Bytes.window b.size none none).fst.toNat ((Bytes.window b.size none none).fst.toNat + sub.size) == sub) c = endsB b c := by
    rw [window_all]
    unfold endsB
    dsimp only
    rw [Int.sub_zero, if_pos rfl, Int.toNat_natCast]
  rw [e]
  exact hq
theorem meets_rstrip (b c : Array UInt8) (t u : Tok) : Meets («bytes.rstrip» ⟨[.bytes b t, .bytes c u], []⟩) (fun _ R s => (rstripB b c).size ≤ sizeLine ∧ ∀ t' k, R (.ok (.ret (.bytes (rstripB b c) t'))) { s with toks := k }) := by
  refine .of_wp fun prog w A R s hS => ?_
  have hbuf : ∀ id, Bytes.buffer? id (.bytes c u) = pure (some c) := fun id => KBy.buffer_eq
  unfold Builtin.«bytes.rstrip» Bytes.stripM
  repeat (first | (refine wpAny_of_eq (hbuf _) ?_) | wp_step)
  rw [if_pos rfl, if_neg (show ¬ (false = true) from by decide)]
  obtain ⟨hsz, h⟩ := hS
  by_cases hl : ((List.dropWhile c.contains b.toList.reverse).reverse.length == b.size) = true
  · rw [if_pos hl]
    have eb : rstripB b c = b := by
      unfold rstripB
      have h1 : (List.dropWhile c.contains b.toList.reverse).length = b.toList.reverse.length := by
        rw [List.length_reverse] at hl ⊢
        rw [Array.length_toList]
        exact beq_iff_eq.mp hl
      rw [(List.dropWhile_suffix _).eq_of_length h1, List.reverse_reverse, Array.toArray_toList]
    rw [eb] at h
    refine wpAny_bind (wpAny_rule ?_)
    refine wpAny_bind ?_
    show wpAny _ _ (typeOf (.bytes b t) >>= fun r => _) _ _ s
    refine wpAny_bind (wpAny_typeOf (typeIs_bytes s b t) ?_)
    rw [if_pos (by decide)]
    exact wpAny_pure (wpAny_pure ⟨_, rfl, h t s.toks⟩)
  · rw [if_neg hl]
    refine wpAny_bind ?_
    show wpAny _ _ (if (rstripB b c).size > sizeLine then unsupported "bytes:memory" else _) _ _ s
    rw [if_neg (by lia)]
    exact wpAny_bind (wpAny_fresh (wpAny_pure (wpAny_pure ⟨_, rfl, h _ _⟩)))
section
variable {prog : Program} {w : World} {A : Around} {E : Value → Shared → Prop} {s : Shared} {b c : Array UInt8} {t u : Tok} {Q : Value → Shared → Prop}
theorem call_rfind (h : Q (.int (rfindZ b c) s.toks) { s with toks := s.toks + 1 }) : wpAny (model prog w) A (call (.builtin "bytes.rfind") [.bytes b t, .bytes c u]) Q E s :=
  call_gives slot_bytes_rfind (typeIs_bytes _ _ _) entry_bytes_rfind (args_bytes_rfind _ _) (gives_rfind b c t u) h
theorem call_starts (h : Q (.bool (startsB b c)) s) : wpAny (model prog w) A (call (.builtin "bytes.startswith") [.bytes b t, .bytes c u]) Q E s :=
  call_gives FB.slot_bytes_startswith (typeIs_bytes _ _ _) FB.entry_bytes_startswith (FB.args_bytes_startswith_2 _ _) (gives_starts b c t u) h
theorem call_ends (h : Q (.bool (endsB b c)) s) : wpAny (model prog w) A (call (.builtin "bytes.endswith") [.bytes b t, .bytes c u]) Q E s :=
  call_gives FB.slot_bytes_endswith (typeIs_bytes _ _ _) FB.entry_bytes_endswith (FB.args_bytes_endswith_2 _ _) (gives_ends b c t u) h
theorem call_rstrip (hsz : (rstripB b c).size ≤ 1000) (h : ∀ t' k, Q (.bytes (rstripB b c) t') { s with toks := k }) : wpAny (model prog w) A (call (.builtin "bytes.rstrip") [.bytes b t, .bytes c u]) Q E s :=
  call_meets slot_bytes_rstrip (typeIs_bytes _ _ _) entry_bytes_rstrip (args_bytes_rstrip _ _) (meets_rstrip b c t u) ⟨by rw [sizeLine_eq]; lia, h⟩
theorem method_rfind {M : Model} {pl : Sem Bool} {Q : Value × List Value → Shared → Prop} (h : Q (.builtin "bytes.rfind", [.bytes b t]) s) : wpAny M A (getMethod (.bytes b t) "rfind" pl) Q E s := by
  with_reducible exact KBd.method_of (.bytes b t) (typeIs_bytes _ _ _) slot_bytes_rfind type_bytes_rfind KBd.noRef h
theorem method_rstrip {M : Model} {pl : Sem Bool} {Q : Value × List Value → Shared → Prop} (h : Q (.builtin "bytes.rstrip", [.bytes b t]) s) : wpAny M A (getMethod (.bytes b t) "rstrip" pl) Q E s := by
  with_reducible exact KBd.method_of (.bytes b t) (typeIs_bytes _ _ _) slot_bytes_rstrip type_bytes_rstrip KBd.noRef h
theorem method_starts {M : Model} {pl : Sem Bool} {Q : Value × List Value → Shared → Prop} (h : Q (.builtin "bytes.startswith", [.bytes b t]) s) : wpAny M A (getMethod (.bytes b t) "startswith" pl) Q E s := by
  with_reducible exact KBd.method_of (.bytes b t) (typeIs_bytes _ _ _) FB.slot_bytes_startswith FB.type_bytes_startswith KBd.noRef h
theorem method_ends {M : Model} {pl : Sem Bool} {Q : Value × List Value → Shared → Prop} (h : Q (.builtin "bytes.endswith", [.bytes b t]) s) : wpAny M A (getMethod (.bytes b t) "endswith" pl) Q E s := by
  with_reducible exact KBd.method_of (.bytes b t) (typeIs_bytes _ _ _) FB.slot_bytes_endswith FB.type_bytes_endswith KBd.noRef h
end
end Mine
end
section
namespace Mine
open PySem.Calls PySem.Spec PySem.Builtin
noncomputable abbrev Small (b : Array UInt8) : Prop := b.size ≤ 1000
theorem small_rstrip {b c : Array UInt8} (h : Small b) : Small (rstripB b c) := by
  unfold Small rstripB
  rw [List.size_toArray, List.length_reverse]
  refine Nat.le_trans (List.dropWhile_sublist _).length_le ?_
  rw [List.length_reverse, Array.length_toList]
  exact h
section
variable {prog : Program} {w : World} {A : Around} {E : Value → Shared → Prop} {s : Shared} {value slice : PySem.Expr} {b c : Array UInt8} {t t' : Tok} {h₀ : Heap} {L : Addr} {m : PySem.Str → Option Value} {news : List (Addr × Obj)} {l u : Value} {lo hi : Option Int}
theorem slice_B {Q : Value → Shared → Prop} (hF : Fr h₀ L s.heap m) (hN : News h₀ L s.heap news) (hl : IsPart l lo) (hu : IsPart u hi) (hz : Small b)
    (h : ∀ h' t' k, Fr h₀ L h' m → News h₀ L h' news → Q (.bytes (KBy.picked b lo hi) t') { s with heap := h', toks := k })
    (hs : subscripted slice false (.bytes b t) (.ref s.heap.objs.size) = operate [.ref s.heap.objs.size, .bytes b t] (getItem (.bytes b t) (.ref s.heap.objs.size)) := by with_unfolding_all rfl)
    (ht : ∀ r, letTemporaryGo value (.bytes b t) r = pure () := by intro _; with_unfolding_all rfl) :
    wpAny (model prog w) A (subscriptTail value slice (.bytes b t) (.ref s.heap.objs.size)) Q E { s with heap := s.heap.push { cls := .type "slice", data := .fields #[l, u, .none] } } :=
  KBc.slice_K hF hN rfl hl hu (by rw [KBw.ints_length]; unfold Small at hz; lia) (fun h' t' k F N _ => h h' t' k F N) hs ht
theorem truthy_B {Q : Bool → Shared → Prop} (hz : Small b) (h : ∀ k, Q (decide (0 < b.size)) { s with toks := k }) : wpAny (model prog w) A (truthy (.bytes b t)) Q E s := by
  refine truthy_bytes (by unfold Small at hz; lia) ?_
  have e : ((b.size : Int) != 0) = decide (0 < b.size) := by
    by_cases h0 : b.size = 0
    · rw [h0]; rfl
    · have h1 : ((b.size : Int) != 0) = true := by
        rw [bne_iff_ne]; lia
      rw [h1, decide_eq_true (by lia)]
  rw [e]; exact h _
theorem len_B {Q : Value → Shared → Prop} (hz : Small b) (h : ∀ t' k, Q (.int b.size t') { s with toks := k }) : wpAny (model prog w) A (call (.builtin "len") [.bytes b t]) Q E s :=
  len_bytes (by unfold Small at hz; lia) (h _ _)
theorem flat_one (n : Nat) (c : UInt8) : (List.replicate n [c]).flatten = List.replicate n c := by
  induction n with
  | zero => rfl
  | succ n ih => rw [List.replicate_succ, List.flatten_cons, ih]; rfl
theorem mul_B {n : Nat} {Q : Value → Shared → Prop} (hn : n ≤ 1000) (h : ∀ t' k, Q (.bytes (List.replicate n (47 : UInt8)).toArray t') { s with toks := k }) :
    wpAny (model prog w) A (binaryOp .Mult (.bytes #[47] t) (.int (n : Int) (t' : Tok))) Q E s := by
  refine bytes_mul_any (b := [47]) (by simp) (by lia) (by lia) (by decide) fun t' k => ?_
  rw [Int.toNat_natCast, flat_one]
  exact h t' k
end
end Mine
namespace Mine
theorem add_B {prog : Program} {w : World} {A : Around} {E : Value → Shared → Prop} {s : Shared} {b c : Array UInt8} {t u : Tok} {Q : Value → Shared → Prop} (hz : Small (b ++ c)) (h : ∀ t' k, Q (.bytes (b ++ c) t') { s with toks := k }) :
    wpAny (model prog w) A (binaryOp .Add (.bytes b t) (.bytes c u)) Q E s :=
  KBy.add_bytes (by unfold Small at hz; rw [Array.size_append] at hz; lia) h
end Mine
namespace Mine
theorem sz_cut {n : Nat} {b : Array UInt8} {lo hi : Option Int} (h : b.size ≤ n) : (KBy.picked b lo hi).size ≤ n := Nat.le_trans (KBc.size_picked_le b lo hi) h
theorem sz_app {n : Nat} {b c : Array UInt8} (h : b.size ≤ n / 2) (h' : c.size ≤ n / 2) : (b ++ c).size ≤ n := by rw [Array.size_append]; lia
end Mine
namespace Mine
theorem iadd_B {prog : Program} {w : World} {A : Around} {E : Value → Shared → Prop} {s : Shared} {b c : Array UInt8} {t u : Tok} {Q : Value → Shared → Prop} (hz : Small (b ++ c)) (h : ∀ t' k, Q (.bytes (b ++ c) t') { s with toks := k }) :
    wpAny (model prog w) A (inplaceOp .Add (.bytes b t) (.bytes c u)) Q E s := by
  have hsz : b.size + c.size ≤ 16777216 := by unfold Small at hz; rw [Array.size_append] at hz; lia
  refine wpAny_inplaceOp_concat (typeIs_bytes s b t) (typeIs_bytes s c u) (by rw [typeLookup_type, builtinLookup_eq_fast]; kernel_rfl) KBy.noFill_bytes_add KBy.seq_bytes_add
    (PySem.call_gives FB.slot_bytes_add (typeIs_bytes s b t) FB.entry_bytes_add (FB.args_bytes_add_2 _ _) (KBy.gives_bytes_add (KBy.tooLong_not hsz)) ?_)
  by_cases hb : b.isEmpty = true
  · rw [if_pos hb]
    have e : b = #[] := Array.isEmpty_iff.1 hb
    have h' := h u s.toks
    rw [e, Array.empty_append] at h'
    exact h'
  · rw [if_neg hb]
    by_cases hc : c.isEmpty = true
    · rw [if_pos hc]
      have e : c = #[] := Array.isEmpty_iff.1 hc
      have h' := h t s.toks
      rw [e, Array.append_empty] at h'
      exact h'
    · rw [if_neg hc]
      refine ⟨?_, h _ _⟩
      rw [Array.size_append, sizeLine_eq]; exact hsz
theorem ap_three {n : Int} (h0 : -4096 < n) (h1 : n < 4096) : (((((if n < 0 then -n else n).fdiv 16).fdiv 16).fdiv 16) != 0) = false := by
  rw [Int.fdiv_eq_ediv_of_nonneg _ (by decide), Int.fdiv_eq_ediv_of_nonneg _ (by decide), Int.fdiv_eq_ediv_of_nonneg _ (by decide)]
  rw [bne_eq_false_iff_eq]
  split <;> lia
end Mine
end
section
namespace Mine
open PySem.Calls PySem.Spec PySem.Builtin
theorem slot_bytes_gt : Slot "bytes" (cmpInfo .Gt).2.1 "bytes.__gt__" :=
  .of (owner := "bytes") (n := "__gt__") (by rw [typeLookup_type, builtinLookup_eq_fast]; kernel_rfl) (by decide +kernel) (by decide +kernel) (by decide +kernel)
    (by first | exact .inl (by decide +kernel) | exact .inr (by decide +kernel)) (by rw [isSubtype_type]; kernel_rfl)
theorem entry_bytes_gt : entryFor table "bytes.__gt__" = some Builtin.«bytes.__gt__» := entryFor_of_tree (by kernel_rfl)
theorem args_bytes_gt (a b : Value) : argsOk "bytes.__gt__" ⟨[a, b], []⟩ := by
  unfold argsOk; rw [signature?_of (id := "bytes.__gt__") (n := ['_', '_', 't', 'g', '_', '_']) (o := ['s', 'e', 't', 'y', 'b']) (by kernel_rfl) FB.owner_bytes]; kernel_rfl
theorem gives_gt (b c : Array UInt8) (t u : Tok) : Gives («bytes.__gt__» ⟨[.bytes b t, .bytes c u], []⟩) (.val (.bool (Bytes.order b.toList c.toList == .gt))) := by
  refine .of_wp fun M A E s Q hq => ?_
  show wpAny M A (isInstance (.bytes c u) (.type "bytes") >>= fun r => _) _ E s
  refine wpAny_bind (wpAny_isInstance (typeIs_bytes s c u) F.sub_bytes_bytes ?_)
  exact wpAny_pure ⟨_, rfl, hq⟩
theorem gt_bytes {prog : Program} {w : World} {A : Around} {E : Value → Shared → Prop} {s : Shared} {b c : Array UInt8} {t u : Tok} {Q : Value → Shared → Prop} (h : Q (.bool (Bytes.order b.toList c.toList == .gt)) s) :
    wpAny (model prog w) A (compareOp .Gt (.bytes b t) (.bytes c u)) Q E s :=
  compareOp_gives (op := .Gt) (typeIs_bytes s b t) (typeIs_bytes s c u) slot_bytes_gt entry_bytes_gt (args_bytes_gt _ _) (gives_gt b c t u) (fun e => nomatch e) h
end Mine
end
section
namespace Mine
open PySem.Calls PySem.Spec
section
variable {prog : Program} {w : World} {A₀ A : Around} {s : Shared} {K : Frag} {base h₀ : Heap} {L : Addr} {m mg mb : Str → Option Value} {p : Program} {loose : List Str} {mean : ExcName → Option Value}
    {env : Env} {outer : List Env} {R : Result → Shared → Prop} {name qual : Str} {params : Arguments} {body : List Stmt} {scope : Scope} {dV kV doc pm cdv ct oc : Value} {an od : Option Addr} {osl : Array (Option Value)} {f : Addr} {args : Args}
/- A def with *rest: the tuple of what is left stands in the ledger. -/
theorem code_defPS {vs : List Value} {binds : Value → List (Str × Value)}
    (B : Below A₀ base outer h₀) (F : Fr h₀ L s.heap m) (X₀ : K.In h₀) (T : Top p loose mean mg mb h₀) (hA : A.frames = some (env :: outer)) (hf : env.frame = some L) (hke : env.scope.kind = .function)
    (ho : K.lookup f = some ⟨oc, od, .func (fnOf name qual params body scope dV kV doc pm an cdv ct), osl⟩) (hcd : codeIn K cdv qual = true) (hroom : A.depth < recursionLimit)
    (hbind : bindArgs (fnOf name qual params body scope dV kV doc pm an cdv ct) args = (newTuple vs >>= fun t => pure (binds t))) (hz : vs.length ≤ 100) (hloc : ∀ t, ∀ y ∈ binds t, scope.names.lookup y.1 = some .local)
    (h : ∀ g L' h₁ D, g = s.heap → Fr g L' h₁ (fun y => (binds (.ref D)).reverse.lookup y) → News g L' h₁ [(D, ({ cls := .type "tuple", data := .seq vs.toArray } : Obj))] → Below A base (env :: outer) g → K.In g → Top p loose mean mg mb g →
      wpAny (model prog w) (A.deeper (envOf qual scope L' f cdv)) (execs body (envOf qual scope L' f cdv))
        (fun fl s' => EndP R (match fl with | .ret v => v | _ => .none) s')
        (fun e s' => wpAny (model prog w) (A.deeper (envOf qual scope L' f cdv)) (leaving (envOf qual scope L' f cdv) e) (fun _ s'' => R (.error e) s'') (fun e' s'' => R (.error e') s'') s')
        { s with heap := h₁, toks := s.toks + (binds (.ref D)).length })
    (hco : scope.isCoroutine = false) (hgen : scope.isGenerator = false) (hk : scope.kind = .function)
    (hcell : ∀ x ∈ scope.names, x.2 ≠ .cell) : codeAny (model prog w) A (.call (.ref f) args) R s := by
  have B₁ := pushX B F hf hke
  have hlim : s.heap.NoLimit := T.nolimit.keeps F.keep
  refine codeAny_call_function (fd := fnOf name qual params body scope dV kV doc pm an cdv ct) (body := body) hroom ((X₀.keeps F.keep) _ _ ho) rfl hco hgen rfl (codeRec_of (X₀.keeps F.keep) hcd) ?_
  rw [hbind]
  refine wpAny_bind (wpAny_newTuple (wpAny_pure ?_) (by rw [sizeLine_eq]; lia))
  have pk : ∀ b o, s.heap.get? b = some o → (s.heap.push { cls := .type "tuple", data := .seq vs.toArray }).get? b = some o := fun b o e => Heap.get?_push_of_some _ e
  refine wpAny_newFunctionEnv hcell (hloc _) (fun h₁ hns hsb => ⟨(hlim.keeps pk).fresh _ hsb, codeAny_func ?_⟩) hk
  have hk₁ : ∀ b o, (s.heap.push { cls := .type "tuple", data := .seq vs.toArray }).get? b = some o → h₁.get? b = some o := fun b o e => hsb.extBut b o (Nat.ne_of_lt (Heap.lt_size e)) (Heap.get?_push_of_some _ e)
  have hsz : (s.heap.push { cls := .type "tuple", data := .seq vs.toArray }).objs.size = s.heap.objs.size + 1 := Heap.size_push ..
  refine h s.heap _ h₁ s.heap.objs.size rfl ⟨hns, fun b o e => hk₁ b o (pk b o e), ?_⟩ (fun q hq => ?_) ⟨hA, B₁.stays, B₁.frames⟩ (X₀.keeps F.keep) (T.keeps F.keep)
  · show s.heap.objs.size ≤ (s.heap.push { cls := .type "tuple", data := .seq vs.toArray }).objs.size
    rw [hsz]; exact Nat.le_succ _
  · rw [List.mem_singleton.mp hq]
    refine ⟨hk₁ _ _ (Heap.get?_push_size _ rfl), ?_, Heap.get?_none_of_le (Nat.le_refl _)⟩
    show s.heap.objs.size ≠ (s.heap.push { cls := .type "tuple", data := .seq vs.toArray }).objs.size
    rw [hsz]; exact Nat.ne_of_lt (Nat.lt_succ_self _)
/- A def with cells of its own. -/
theorem code_defPC {binds : List (Str × Value)}
    (B : Below A₀ base outer h₀) (F : Fr h₀ L s.heap m) (X₀ : K.In h₀) (T : Top p loose mean mg mb h₀) (hA : A.frames = some (env :: outer)) (hf : env.frame = some L) (hke : env.scope.kind = .function)
    (ho : K.lookup f = some ⟨oc, od, .func (fnOf name qual params body scope dV kV doc pm an cdv ct), osl⟩) (hcd : codeIn K cdv qual = true) (hroom : A.depth < recursionLimit)
    (hbind : BindsTo s (fnOf name qual params body scope dV kV doc pm an cdv ct) args binds) (hkind' : (binds.all fun y => scope.names.lookup y.1 == some .local || scope.names.lookup y.1 == some .cell) = true)
    (hnd : ((cellsFrom 0 scope.names []).map (·.1)).Nodup)
    (h : ∀ g L' h₁ tk cells, g = s.heap → Fr g L' h₁ (bindL (envOfC qual scope L' f cdv).kindOf binds fun _ => none) → News g L' h₁ cells →
      CellsAre (bindC (envOfC qual scope L' f cdv).kindOf binds fun _ => none) (cellsFrom (L' + 1) scope.names []) cells → Below A base (env :: outer) g → K.In g → Top p loose mean mg mb g →
      wpAny (model prog w) (A.deeper (envOfC qual scope L' f cdv)) (execs body (envOfC qual scope L' f cdv))
        (fun fl s' => EndP R (match fl with | .ret v => v | _ => .none) s')
        (fun e s' => wpAny (model prog w) (A.deeper (envOfC qual scope L' f cdv)) (leaving (envOfC qual scope L' f cdv) e) (fun _ s'' => R (.error e) s'') (fun e' s'' => R (.error e') s'') s')
        { s with heap := h₁, toks := tk })
    (hco : scope.isCoroutine = false) (hgen : scope.isGenerator = false) (hk : scope.kind = .function) : codeAny (model prog w) A (.call (.ref f) args) R s := by
  have B₁ := pushX B F hf hke
  have hlim : s.heap.NoLimit := T.nolimit.keeps F.keep
  refine codeAny_call_function (fd := fnOf name qual params body scope dV kV doc pm an cdv ct) (body := body) hroom ((X₀.keeps F.keep) _ _ ho) rfl hco hgen rfl (codeRec_of (X₀.keeps F.keep) hcd) (hbind _ _ _ _ ?_)
  refine wpAny_newFunctionEnv_cells hk (kindsX hkind' _) fun env' he s' x => ?_
  subst he
  refine ⟨hlim.keeps x.toInCall.keep, codeAny_func ?_⟩
  obtain ⟨h₁, tk, rfl, _⟩ := x.done
  have hk₁ := x.toInCall.keep
  obtain ⟨cells, NC, Y⟩ := Cl.news (h₀ := s.heap) (Nat.le_refl _) fun n c hm => ⟨x.cell n c (lookup_of_mem_nodup (cellsFrom_names scope.names 0 (s.heap.objs.size + 1) [] [] rfl ▸ hnd) hm), x.above n c hm⟩
  exact h s.heap s.heap.objs.size h₁ tk cells rfl ⟨x.toInCall.ns, hk₁, Nat.le_refl _⟩ NC Y ⟨hA, B₁.stays, B₁.frames⟩ (X₀.keeps F.keep) (T.keeps F.keep)
end
end Mine
namespace Mine
theorem whl_split {b : Bool} {T F : Prop} (t : b = true → T) (f : b = false → F) : WhlIf b T F := by
  cases b with
  | true => exact WhlIf.yes rfl (t rfl)
  | false => exact WhlIf.no rfl (f rfl)
end Mine
end
section
namespace Mine
open PySem.Spec PySem.Calls LCg LCt
/- Where a tuple that a comprehension goes along stands. -/
noncomputable def TupAt (ax : Addr) (its : Array Value) (news : List (Addr × Obj)) : Prop := False ∨ ∃ o, (ax, o) ∈ news ∧ o.cls = .type "tuple" ∧ ∃ n, o.data = .seq its n
noncomputable def SrcTT (prog : Program) (w : World) (A : Around) (h₀ : Heap) (L : Addr) (m : Str → Option Value) (env : Env) (ct elt : Expr) (x : Str) (scope : Scope) (cl : List (Str × Addr)) (Fin : Shared → List Value → List (Addr × Obj) → Prop) (xv : Value) (s₁ : Shared) : Prop :=
  ∃ ax its news, xv = .ref ax ∧ A.handled = none ∧ Fr h₀ L s₁.heap m ∧ News h₀ L s₁.heap news ∧ TupAt ax its news ∧ its.size ≤ sizeLine ∧
    ∀ s₂ : Shared, (∃ h, s₂ = { s₁ with heap := h }) → CompRestT prog w A h₀ L m env ct elt x scope cl s₂ (TupAt ax its) (fun i v => its[i]? = some v) (Fin s₂) its.size 0 [] news
section
variable {prog : Program} {w : World} {A : Around} {E : Value → Shared → Prop} {s : Shared} {h₀ : Heap} {L : Addr} {m : Str → Option Value} {env : Env}
theorem SrcTT.intro {ct elt : Expr} {x : Str} {scope : Scope} {cl : List (Str × Addr)} {Fin : Shared → List Value → List (Addr × Obj) → Prop} {ax : Addr} {its : Array Value} {k : Nat} {news : List (Addr × Obj)} {s₁ : Shared}
    (hh : A.handled = none) (F : Fr h₀ L s₁.heap m) (N : News h₀ L s₁.heap news) (hm : (ax, ({ cls := .type "tuple", data := .seq its k } : Obj)) ∈ news) (hsz : its.size ≤ 100)
    (h : ∀ g, CompRestT prog w A h₀ L m env ct elt x scope cl { s₁ with heap := g } (TupAt ax its) (fun i v => its[i]? = some v) (Fin { s₁ with heap := g }) its.size 0 [] news) :
    SrcTT prog w A h₀ L m env ct elt x scope cl Fin (.ref ax) s₁ := ⟨ax, its, news, rfl, hh, F, N, .inr ⟨_, hm, rfl, _, rfl⟩, by rw [sizeLine_eq]; lia, fun _ ⟨g, e⟩ => e ▸ h g⟩
theorem tup_st {ax I : Addr} {its : Array Value} : ∀ i (h h' : Heap) (o : Obj) (nw : List (Addr × Obj)), (h.IsTupleIter I ax i ∧ h.IsTuple ax its) → h.get? I = some o → h'.get? I = some o → (∀ b o, h₀.get? b = some o → h'.get? b = some o) → News h₀ L h' nw → TupAt ax its nw → (h'.IsTupleIter I ax i ∧ h'.IsTuple ax its) :=
  fun i h h' o nw st e e' k N S => ⟨by obtain ⟨o', q, r⟩ := st.1; rw [e] at q; cases q; exact ⟨o, e', r⟩, by obtain h | ⟨o, hm, hc, hd⟩ := S; exact h.elim; exact ⟨_, (N _ hm).1, hc, hd⟩⟩
theorem ListComp_TT {ct elt iter : Expr} {x : Str} {px : Pos} {scope : Scope} {cl : List (Str × Addr)} {pos : Pos} {Q : Value → Shared → Prop} (F₀ : Fr h₀ L s.heap m)
    (hclos : closureFor scope env = pure cl) (hcell : ∀ y ∈ scope.names, y.2 ≠ .cell) (hkind : scope.kind = .function)
    (hnames : ∀ y ∈ scope.names, y.2 = .local → scope.names.lookup y.1 = some .local) (hx : scope.names.lookup x = some .local)
    (h : wpAny (model prog w) A (eval iter env) (SrcTT prog w A h₀ L m env ct elt x scope cl (fun s₂ => FinE h₀ L m s₂ Q)) E s)
    (hs : ∀ x, foldedSetIterable iter env x = pure x := by intro _; rfl) :
    wpAny (model prog w) A (eval (.ListComp elt [⟨.Name x px, iter, [ct], 0⟩] scope pos) env) Q E s := by
  rw [eval_ListComp]
  refine wpAny_comprehension_free (use := none) rfl hs hclos hkind hnames (wpAny_mono h (fun xv s₁ h₁ => ?_) fun _ _ e => e)
  obtain ⟨ax, its, news, rfl, hh, F, N, S, hsz, R⟩ := h₁
  have hl : s₁.heap.IsTuple ax its := by obtain h | ⟨o, hm, hc, hd⟩ := S; exact h.elim; exact ⟨_, (N _ hm).1, hc, hd⟩
  have hlt : ax < s₁.heap.objs.size := by obtain ⟨_, e, _⟩ := hl; exact Heap.lt_size e
  refine wpAny_pyIter_tuple hl ?_
  have up : ∀ b o, s₁.heap.get? b = some o → (s₁.heap.push { cls := .type "tuple_iterator", data := .fields #[.ref ax, .int 0 0] }).get? b = some o := fun b o e => Heap.get?_push_of_some _ e
  refine block_T (Walks.tuple hh s₁.heap.objs.size ax (Nat.ne_of_lt hlt) its) hsz (fun i h st => by obtain ⟨o, e, _⟩ := st.1; exact ⟨o, e⟩) tup_st hcell hkind hx ⟨⟨_, Heap.get?_push_size _ rfl, rfl, rfl⟩, hl.push _⟩ (fun b hb => ?_)
    (F.keeps up) (N.grown up) (Nat.ne_of_lt F.ns.lt) (next_is_new F) (fun p hp => Nat.ne_of_lt (Heap.lt_size (N p hp).1)) S (R _ ⟨_, rfl⟩) ?_
  · show b < (s₁.heap.push _).objs.size
    rw [Heap.size_push]
    rcases List.mem_cons.mp hb with rfl | hb
    · exact Nat.lt_succ_self _
    · rw [List.mem_singleton.mp hb]; exact Nat.lt_succ_of_lt hlt
  · intro D C h tk m' ys news' F' N' o1 hn hC₀ hD₀ hCL hDL hCD offC fin
    refine ⟨m', hn, fun h'' hs'' => fin D h'' tk (F'.change hs'' hCL hC₀) (fun p hp => ?_) o1⟩
    refine ⟨hs''.extBut _ _ ?_ (N' p hp).1, (N' p hp).2⟩
    rcases List.mem_cons.mp hp with rfl | hp
    · exact Ne.symm hCD
    · exact offC p hp
end
end Mine
end
section
namespace Mine
open PySem.Spec PySem.Calls
/- The word of a number below 4096: a letter for each of its digits to the base 16, none for nought. -/
noncomputable def dig (m : Int) : UInt8 := (65 + m.fmod 16).toNat.toUInt8
noncomputable def wordB (n : Int) : Array UInt8 :=
  if 256 ≤ n then #[dig (n.fdiv 256), dig (n.fdiv 16), dig n] else if 16 ≤ n then #[dig (n.fdiv 16), dig n] else if 1 ≤ n then #[dig n] else #[]
theorem oct_in (x : Int) : 0 ≤ 65 + x.fmod 16 ∧ 65 + x.fmod 16 < 256 := by
  have h1 := Int.fmod_nonneg_of_pos x (show (0 : Int) < 16 by decide)
  have h2 := Int.fmod_lt_of_pos x (show (0 : Int) < 16 by decide)
  lia
section
variable {prog : Program} {w : World} {A : Around} {E : Value → Shared → Prop} {s : Shared} {h₀ : Heap} {L l : Addr} {m : Str → Option Value} {news : List (Addr × Obj)}
theorem bytes_L {vs : List Value} {ns : List Int} {c : Nat} {Q : Value → Shared → Prop} (F : Fr h₀ L s.heap m) (N : News h₀ L s.heap news) (hm : (l, ({ cls := .type "list", data := .seq vs.toArray c } : Obj)) ∈ news)
    (hi : IntsAre vs ns) (hr : ∀ n ∈ ns, 0 ≤ n ∧ n < 256) (hz : vs.length ≤ 100) (hh : A.handled = none)
    (h : ∀ h' t k, Fr h₀ L h' m → News h₀ L h' news → Q (.bytes (byteArr ns) t) { s with heap := h', toks := k }) : wpAny (model prog w) A (call (.type "bytes") [.ref l]) Q E s :=
  call_bytes_ints ⟨_, (N _ hm).1, rfl, _, rfl⟩ hi hr (by rw [sizeLine_eq]; lia) hh fun h' t k hk => h h' t k (F.keptAll hk) (N.grown hk)
end
theorem word0 {n : Int} (h : ¬ (16 : Int) ^ Int.toNat 2 ≤ n) (h' : ¬ (16 : Int) ^ Int.toNat 1 ≤ n) (h'' : ¬ (16 : Int) ^ Int.toNat 0 ≤ n) : byteArr [] = wordB n := by
  have e2 : (16 : Int) ^ Int.toNat 2 = 256 := by decide
  have e1 : (16 : Int) ^ Int.toNat 1 = 16 := by decide
  have e0 : (16 : Int) ^ Int.toNat 0 = 1 := by decide
  rw [e2] at h; rw [e1] at h'; rw [e0] at h''
  unfold wordB; rw [if_neg h, if_neg h', if_neg h'']; rfl
theorem word1 {n : Int} (h : ¬ (16 : Int) ^ Int.toNat 2 ≤ n) (h' : ¬ (16 : Int) ^ Int.toNat 1 ≤ n) (h'' : (16 : Int) ^ Int.toNat 0 ≤ n) : byteArr [65 + (n.fdiv (16 ^ Int.toNat 0)).fmod 16] = wordB n := by
  have e2 : (16 : Int) ^ Int.toNat 2 = 256 := by decide
  have e1 : (16 : Int) ^ Int.toNat 1 = 16 := by decide
  have e0 : (16 : Int) ^ Int.toNat 0 = 1 := by decide
  rw [e2] at h; rw [e1] at h'; rw [e0] at h''
  unfold wordB; rw [if_neg h, if_neg h', if_pos h'', e0, Int.fdiv_one]; rfl
theorem word2 {n : Int} (h : ¬ (16 : Int) ^ Int.toNat 2 ≤ n) (h' : (16 : Int) ^ Int.toNat 1 ≤ n) : byteArr [65 + (n.fdiv (16 ^ Int.toNat 1)).fmod 16, 65 + (n.fdiv (16 ^ Int.toNat 0)).fmod 16] = wordB n := by
  have e2 : (16 : Int) ^ Int.toNat 2 = 256 := by decide
  have e1 : (16 : Int) ^ Int.toNat 1 = 16 := by decide
  have e0 : (16 : Int) ^ Int.toNat 0 = 1 := by decide
  rw [e2] at h; rw [e1] at h'
  unfold wordB; rw [if_neg h, if_pos h', e1, e0, Int.fdiv_one]; rfl
theorem word3 {n : Int} (h : (16 : Int) ^ Int.toNat 2 ≤ n) : byteArr [65 + (n.fdiv (16 ^ Int.toNat 2)).fmod 16, 65 + (n.fdiv (16 ^ Int.toNat 1)).fmod 16, 65 + (n.fdiv (16 ^ Int.toNat 0)).fmod 16] = wordB n := by
  have e2 : (16 : Int) ^ Int.toNat 2 = 256 := by decide
  have e1 : (16 : Int) ^ Int.toNat 1 = 16 := by decide
  have e0 : (16 : Int) ^ Int.toNat 0 = 1 := by decide
  rw [e2] at h
  unfold wordB; rw [if_pos h, e2, e1, e0, Int.fdiv_one]; rfl
theorem word_no1 {n : Int} (h : (16 : Int) ^ Int.toNat 2 ≤ n) (h' : ¬ (16 : Int) ^ Int.toNat 1 ≤ n) : False := by
  have e2 : (16 : Int) ^ Int.toNat 2 = 256 := by decide
  have e1 : (16 : Int) ^ Int.toNat 1 = 16 := by decide
  rw [e2] at h; rw [e1] at h'; lia
theorem word_no0 {n : Int} {k : Int} (hk : k = 1 ∨ k = 2) (h : (16 : Int) ^ Int.toNat k ≤ n) (h' : ¬ (16 : Int) ^ Int.toNat 0 ≤ n) : False := by
  have e2 : (16 : Int) ^ Int.toNat 2 = 256 := by decide
  have e1 : (16 : Int) ^ Int.toNat 1 = 16 := by decide
  have e0 : (16 : Int) ^ Int.toNat 0 = 1 := by decide
  rw [e0] at h'
  rcases hk with rfl | rfl
  · rw [e1] at h; lia
  · rw [e2] at h; lia
theorem ap_cut : ∀ k : Fin 16, KBy.picked #[65, 66, 67, 68, 69, 70, 71, 72, 73, 74, 75, 76, 77, 78, 79, 80] (some (k.val : Int)) (some ((k.val : Int) + 1)) = #[(65 + k.val).toUInt8] := by decide +kernel
theorem ap_one (m : Int) : KBy.picked #[65, 66, 67, 68, 69, 70, 71, 72, 73, 74, 75, 76, 77, 78, 79, 80] (some (m.fmod 16)) (some (m.fmod 16 + 1)) = #[dig m] := by
  have h1 := Int.fmod_nonneg_of_pos m (show (0 : Int) < 16 by decide)
  have h2 := Int.fmod_lt_of_pos m (show (0 : Int) < 16 by decide)
  have h := ap_cut ⟨(m.fmod 16).toNat, by lia⟩
  dsimp only at h
  rw [Int.toNat_of_nonneg h1] at h
  rw [h]
  unfold dig
  have e : (65 + m.fmod 16).toNat = 65 + (m.fmod 16).toNat := by lia
  rw [e]
end Mine
namespace Mine
noncomputable def absI (n : Int) : Int := if n < 0 then -n else n
theorem absI_nn (n : Int) : 0 ≤ absI n := by unfold absI; split <;> lia
theorem ap0 {a : Int} (h0 : 0 ≤ a) (h : (a != 0) = false) : #[] = wordB a := by
  have e : a = 0 := by rw [bne_eq_false_iff_eq] at h; exact h
  subst e; rfl
theorem ap1 {a : Int} (h0 : 0 ≤ a) (h : (a != 0) = true) (h' : (a.fdiv 16 != 0) = false) :
    KBy.picked #[65, 66, 67, 68, 69, 70, 71, 72, 73, 74, 75, 76, 77, 78, 79, 80] (some (a.fmod 16)) (some (a.fmod 16 + 1)) ++ #[] = wordB a := by
  rw [bne_iff_ne] at h
  rw [bne_eq_false_iff_eq, Int.fdiv_eq_ediv_of_nonneg _ (by decide)] at h'
  rw [ap_one]
  unfold wordB; rw [if_neg (by lia), if_neg (by lia), if_pos (by lia)]; rfl
theorem ap2 {a : Int} (h0 : 0 ≤ a) (h : (a.fdiv 16 != 0) = true) (h' : ((a.fdiv 16).fdiv 16 != 0) = false) :
    KBy.picked #[65, 66, 67, 68, 69, 70, 71, 72, 73, 74, 75, 76, 77, 78, 79, 80] (some ((a.fdiv 16).fmod 16)) (some ((a.fdiv 16).fmod 16 + 1)) ++
      (KBy.picked #[65, 66, 67, 68, 69, 70, 71, 72, 73, 74, 75, 76, 77, 78, 79, 80] (some (a.fmod 16)) (some (a.fmod 16 + 1)) ++ #[]) = wordB a := by
  rw [bne_iff_ne, Int.fdiv_eq_ediv_of_nonneg _ (by decide)] at h
  rw [bne_eq_false_iff_eq, Int.fdiv_eq_ediv_of_nonneg _ (by decide), Int.fdiv_eq_ediv_of_nonneg _ (by decide)] at h'
  rw [ap_one, ap_one]
  unfold wordB; rw [if_neg (by lia), if_pos (by lia)]; rfl
theorem ap3 {a : Int} (h0 : 0 ≤ a) (h : ((a.fdiv 16).fdiv 16 != 0) = true) :
    KBy.picked #[65, 66, 67, 68, 69, 70, 71, 72, 73, 74, 75, 76, 77, 78, 79, 80] (some (((a.fdiv 16).fdiv 16).fmod 16)) (some (((a.fdiv 16).fdiv 16).fmod 16 + 1)) ++
      (KBy.picked #[65, 66, 67, 68, 69, 70, 71, 72, 73, 74, 75, 76, 77, 78, 79, 80] (some ((a.fdiv 16).fmod 16)) (some ((a.fdiv 16).fmod 16 + 1)) ++
        (KBy.picked #[65, 66, 67, 68, 69, 70, 71, 72, 73, 74, 75, 76, 77, 78, 79, 80] (some (a.fmod 16)) (some (a.fmod 16 + 1)) ++ #[])) = wordB a := by
  rw [bne_iff_ne, Int.fdiv_eq_ediv_of_nonneg _ (by decide), Int.fdiv_eq_ediv_of_nonneg _ (by decide)] at h
  rw [ap_one, ap_one, ap_one]
  have e : (a.fdiv 16).fdiv 16 = a.fdiv 256 := by
    rw [Int.fdiv_eq_ediv_of_nonneg _ (by decide), Int.fdiv_eq_ediv_of_nonneg _ (by decide), Int.fdiv_eq_ediv_of_nonneg _ (by decide)]; lia
  unfold wordB; rw [if_pos (by lia), e]; rfl
end Mine
end
local macro_rules | `(tactic| walk_at $s:str) => `(tactic| k_extra $s)
section
theorem Mine.c_int2ap (w : World) (n : Int) (t : Tok) (h0 : -4096 < n) (h1 : n < 4096) :
    Mine.Told w 183 [.int n t] 4 (fun _ => True) (Mine.RB (Mine.wordB (Mine.absI n))) := by
  unfold Mine.Told
  k_with_none
  (k_with "call type:type" => ((k_here; (with_reducible show wpAny _ _ (call (Value.type "type") [Value.bytes _ _]) _ _ _); refine Mine.type_bytes ?_)))
  (k_with "call builtin:issubclass" => ((k_here; k_dflt (refine' Mine.issub_bytes ?zqk1 ?_; (case zqk1 => exact News.isTup (by k_asm) (by k_mem)); k_whole))))
  (k_with "getMethod bytes" => ((k_here; (with_reducible first | refine Mine.method_rfind ?_ | refine Mine.method_rstrip ?_ | refine Mine.method_starts ?_ | refine Mine.method_ends ?_))))
  (k_with "call builtin:bytes.rfind" => ((k_here; refine Mine.call_rfind ?_)))
  (k_with "call builtin:bytes.startswith" => ((k_here; refine Mine.call_starts ?_)))
  (k_with "call builtin:bytes.endswith" => ((k_here; refine Mine.call_ends ?_)))
  (k_with "call builtin:bytes.rstrip" => ((k_here; refine Mine.call_rstrip (by k_extra "kaf") ?_; intro zzt8 zzk8)))
  (k_with "subscriptTail" => ((k_here; (with_reducible show wpAny _ _ (subscriptTail _ (Expr.Slice _ _ none _) (Value.bytes _ _) (Value.ref _)) _ _ _); (with_reducible rename Fr _ _ _ _ => zzFq); (with_reducible rename News _ _ _ _ => zzNq); (refine Mine.slice_B (s := ⟨_, _, _, _, _⟩) zzFq zzNq (by constructor) (by constructor) (by k_extra "kaf") ?_); intro _ _ _ _ _; (try k_sweep))))
  (k_with "truthy bytes" => ((k_here; (refine Mine.truthy_B (by k_extra "kaf") ?_); intro _)))
  (k_with "call builtin:len" => ((k_here; (with_reducible show wpAny _ _ (call (Value.builtin "len") [Value.bytes _ _]) _ _ _); (refine Mine.len_B (by k_extra "kaf") ?_); intro _ _)))
  (k_with "binaryOp Mult bytes int" => ((k_here; (refine Mine.mul_B (by k_extra "kaf") ?_); intro _ _)))
  (k_with "exec While Name" => ((k_here; refine whl_start 5 ?_)))
  (k_with "WhlIf" => ((first | (refine WhlIf.yes (by with_unfolding_all rfl) ?_) | (refine WhlIf.no (by with_unfolding_all rfl) ?_) | (refine Mine.whl_split ?_ ?_ <;> intro zzhw8 <;> (first | done | (exfalso; (try simp only [bne_iff_ne, ne_eq, bne_eq_false_iff_eq, decide_eq_true_eq, decide_eq_false_iff_not] at *); omega) | skip)))))
  (k_with "binaryOp Add bytes bytes" => ((k_here; (refine Mine.add_B (by k_extra "kaf") ?_); intro _ _)))
  (k_with "kaf" => (first | (with_reducible assumption) | ((with_reducible refine Mine.sz_cut ?_); k_extra "kaf") | ((with_reducible refine Mine.small_rstrip ?_); k_extra "kaf") | ((with_reducible refine Mine.sz_app ?_ ?_) <;> k_extra "kaf") | exact Nat.le_of_ble_eq_true rfl | exact Nat.le_trans (by with_reducible assumption) (by decide) | assumption | ((try simp only [Mine.Small, Array.size_append, List.size_toArray, List.length_cons, List.length_nil] at *); omega)))
  (k_with "inplaceOp Add bytes bytes" => ((k_here; (refine Mine.iadd_B (by k_extra "kaf") ?_); intro _ _)))
  (k_with "WhlIf" => ((refine WhlIf.no (Mine.ap_three (by assumption) (by assumption)) ?_)))
  w_top off
  k_fill
  intro p loose mean mg mb dp un gd cn cs a ccd cl outer A₀ base h₀ L m s Q E B F X T hk hpre hdp hun hret
  refine wpAny_call ?_
  k_dflt ((refine' Mine.code_defP ?zqk1 ?zqk2 ?zqk3 ?zqk5 ?zqkA ?zqkF ?zqkK ?zqk6 ?zqk7 ?zqk8 ?zqk9 ?zqkB ?_ ?zqc2 ?zqc3 ?zqc4 ?zqc5; (case zqkA => exact rfl); (case zqkF => exact rfl); (case zqkK => assumption); (case zqk1 => k_asm); (case zqk2 => k_asm); (case zqk3 => k_asm); (case zqk5 => k_asm); (case zqk6 => k_is); (case zqk7 => k_is); (case zqk8 => ktr_room); (case zqk9 => exact BindsTo.of_eq rfl); (case zqc5 => decide); (case zqkB => exact locs rfl); (case zqc2 => exact rfl); (case zqc3 => exact rfl); (case zqc4 => exact rfl); k_whole))
  intro g' L' h' hg' F' N' B' X' T'
  clear B F X T
  (try rw [← hg'] at hpre)
  rw [← hg'] at hret
  (try dsimp only at hret)
  (try dsimp only at hpre)
  (try dsimp only)
  k_fold
  (repeat' (first | (k_unfold; (try dsimp only)) | (k_end; kc_close) | (dsimp only; walk1) | walk1 | (leave1; try dsimp only)))
  all_goals (repeat (first | k_unfold | dsimp only | dsimp +zetaDelta only))
  all_goals (unfold Mine.EndP; dsimp only)
  all_goals refine hret _ _ _ (Fr.keep (by assumption)) (Mine.fr_size (by assumption)) (Mine.rb_end ?_)
  all_goals first
    | (have q : (((Mine.absI n).fdiv 16).fdiv 16 != 0) = true := (by assumption); exact Mine.ap3 (Mine.absI_nn n) q)
    | (have q : ((Mine.absI n).fdiv 16 != 0) = true := (by assumption); have q' : (((Mine.absI n).fdiv 16).fdiv 16 != 0) = false := (by assumption); exact Mine.ap2 (Mine.absI_nn n) q q')
    | (have q : (Mine.absI n != 0) = true := (by assumption); have q' : ((Mine.absI n).fdiv 16 != 0) = false := (by assumption); exact Mine.ap1 (Mine.absI_nn n) q q')
    | (have q : (Mine.absI n != 0) = false := (by assumption); exact Mine.ap0 (Mine.absI_nn n) q)
end
section
theorem Mine.c_word (w : World) (n : Int) (t : Tok) : Mine.Told w 193 [.int n t] 6 (fun _ => True) (Mine.RB (Mine.wordB n)) := by
  unfold Mine.Told
  k_with_none
  (k_with "call type:type" => ((k_here; (with_reducible show wpAny _ _ (call (Value.type "type") [Value.bytes _ _]) _ _ _); refine Mine.type_bytes ?_)))
  (k_with "call builtin:issubclass" => ((k_here; k_dflt (refine' Mine.issub_bytes ?zqk1 ?_; (case zqk1 => exact News.isTup (by k_asm) (by k_mem)); k_whole))))
  (k_with "getMethod bytes" => ((k_here; (with_reducible first | refine Mine.method_rfind ?_ | refine Mine.method_rstrip ?_ | refine Mine.method_starts ?_ | refine Mine.method_ends ?_))))
  (k_with "call builtin:bytes.rfind" => ((k_here; refine Mine.call_rfind ?_)))
  (k_with "call builtin:bytes.startswith" => ((k_here; refine Mine.call_starts ?_)))
  (k_with "call builtin:bytes.endswith" => ((k_here; refine Mine.call_ends ?_)))
  (k_with "call builtin:bytes.rstrip" => ((k_here; refine Mine.call_rstrip (by k_extra "kaf") ?_; intro zzt8 zzk8)))
  (k_with "subscriptTail" => ((k_here; (with_reducible show wpAny _ _ (subscriptTail _ (Expr.Slice _ _ none _) (Value.bytes _ _) (Value.ref _)) _ _ _); (with_reducible rename Fr _ _ _ _ => zzFq); (with_reducible rename News _ _ _ _ => zzNq); (refine Mine.slice_B (s := ⟨_, _, _, _, _⟩) zzFq zzNq (by constructor) (by constructor) (by k_extra "kaf") ?_); intro _ _ _ _ _; (try k_sweep))))
  (k_with "truthy bytes" => ((k_here; (refine Mine.truthy_B (by k_extra "kaf") ?_); intro _)))
  (k_with "call builtin:len" => ((k_here; (with_reducible show wpAny _ _ (call (Value.builtin "len") [Value.bytes _ _]) _ _ _); (refine Mine.len_B (by k_extra "kaf") ?_); intro _ _)))
  (k_with "binaryOp Mult bytes int" => ((k_here; (refine Mine.mul_B (by k_extra "kaf") ?_); intro _ _)))
  (k_with "exec While Name" => ((k_here; refine whl_start 5 ?_)))
  (k_with "WhlIf" => ((first | (refine WhlIf.yes (by with_unfolding_all rfl) ?_) | (refine WhlIf.no (by with_unfolding_all rfl) ?_) | (refine Mine.whl_split ?_ ?_ <;> intro zzhw8 <;> (first | done | (exfalso; (try simp only [bne_iff_ne, ne_eq, bne_eq_false_iff_eq, decide_eq_true_eq, decide_eq_false_iff_not] at *); omega) | skip)))))
  (k_with "binaryOp Add bytes bytes" => ((k_here; (refine Mine.add_B (by k_extra "kaf") ?_); intro _ _)))
  (k_with "kaf" => (first | (with_reducible assumption) | ((with_reducible refine Mine.sz_cut ?_); k_extra "kaf") | ((with_reducible refine Mine.small_rstrip ?_); k_extra "kaf") | ((with_reducible refine Mine.sz_app ?_ ?_) <;> k_extra "kaf") | exact Nat.le_of_ble_eq_true rfl | exact Nat.le_trans (by with_reducible assumption) (by decide) | assumption | ((try simp only [Mine.Small, Array.size_append, List.size_toArray, List.length_cons, List.length_nil] at *); omega)))
  (k_with "inplaceOp Add bytes bytes" => ((k_here; (refine Mine.iadd_B (by k_extra "kaf") ?_); intro _ _)))
  (k_with "WhlIf" => ((refine WhlIf.no (Mine.ap_three (by assumption) (by assumption)) ?_)))
  (k_with "eval ListComp" => ((k_here; lct_look; k_dflt (refine Mine.ListComp_TT (F₀ := by k_asm) (by with_unfolding_all rfl) (by decide) (by rfl) (by decide) (by rfl) ?_))))
  (k_with "SrcTT" => ((k_here; k_dflt (refine Mine.SrcTT.intro (by rfl) (by k_asm) (by k_asm) (by k_mem) (by exact Nat.le_of_ble_eq_true rfl) ?_; intro zzgq; lct_lit))))
  (k_with "binaryOp FloorDiv int int" => ((k_here; with_reducible refine floordiv_int (by decide) ?_)))
  (k_with "binaryOp Pow int int" => ((k_here; (with_reducible refine pow_int_small ?zqkb1 ?zqkb2 ?zqkb3 ?_); (case zqkb1 => l_bnd); (case zqkb2 => l_bnd); (case zqkb3 => decide))))
  (k_with "call type:bytes" => ((k_here; k_dflt (refine' Mine.bytes_L ?zqF ?zqN ?zqm ?zqi ?zqr ?zqz ?zqh ?_; (case zqF => k_asm); (case zqN => k_asm); (case zqm => k_mem); (case zqi => repeat constructor); (case zqr => (repeat (first | exact List.forall_mem_nil _ | refine List.forall_mem_cons.mpr ⟨Mine.oct_in _, ?_⟩))); (case zqz => exact Nat.le_of_ble_eq_true rfl); (case zqh => rfl)); intro _ _ _ zzFq zzNq; (try k_sweep))))
  w_top off
  k_fill
  intro p loose mean mg mb dp un gd cn cs a ccd cl outer A₀ base h₀ L m s Q E B F X T hk hpre hdp hun hret
  refine wpAny_call ?_
  k_dflt ((refine' Mine.code_defPC ?zqk1 ?zqk2 ?zqk3 ?zqk5 ?zqkA ?zqkF ?zqkK ?zqk6 ?zqk7 ?zqk8 ?zqk9 ?zqkB ?zqkD ?_ ?zqc2 ?zqc3 ?zqc4; (case zqkA => exact rfl); (case zqkF => exact rfl); (case zqkK => assumption); (case zqk1 => k_asm); (case zqk2 => k_asm); (case zqk3 => k_asm); (case zqk5 => k_asm); (case zqk6 => k_is); (case zqk7 => k_is); (case zqk8 => ktr_room); (case zqk9 => exact BindsTo.of_eq rfl); (case zqkB => exact rfl); (case zqkD => decide +kernel); (case zqc2 => exact rfl); (case zqc3 => exact rfl); (case zqc4 => exact rfl); k_whole))
  intro g' L' h' tk' cells' hg' F' N' Y' B' X' T'
  clear B F X T
  (try rw [← hg'] at hpre)
  rw [← hg'] at hret
  (try dsimp only at hret)
  (try dsimp only at hpre)
  k_cells Y'
  (try simp only [List.cons_append, List.nil_append] at N')
  (try dsimp only)
  (show wpAny _ _ _ _ _ _)
  k_fold
  (repeat' (first | (k_unfold; (try dsimp only)) | (k_end; kc_close) | (dsimp only; walk1) | walk1 | (leave1; try dsimp only)))
  all_goals (repeat (first | k_unfold | dsimp only | dsimp +zetaDelta only))
  all_goals (unfold Mine.EndP; dsimp only)
  all_goals first
    | (exfalso; exact Mine.word_no1 (by assumption) (by assumption))
    | (exfalso; exact Mine.word_no0 (k := 1) (.inl rfl) (by assumption) (by assumption))
    | (exfalso; exact Mine.word_no0 (k := 2) (.inr rfl) (by assumption) (by assumption))
    | refine hret _ _ _ (Fr.keep (by assumption)) (Mine.fr_size (by assumption)) (Mine.rb_end ?_)
  all_goals first
    | exact Mine.word0 (by assumption) (by assumption) (by assumption)
    | exact Mine.word1 (by assumption) (by assumption) (by assumption)
    | exact Mine.word2 (by assumption) (by assumption)
    | exact Mine.word3 (by assumption)
end
section
theorem Mine.c_fspath (w : World) (b : Array UInt8) (t : Tok) : Mine.Told w 101 [.bytes b t] 2 (fun _ => True) (Mine.RV (.bytes b t)) := by
  unfold Mine.Told
  k_with_none
  (k_with "call type:type" => ((k_here; (with_reducible show wpAny _ _ (call (Value.type "type") [Value.bytes _ _]) _ _ _); refine Mine.type_bytes ?_)))
  (k_with "call builtin:issubclass" => ((k_here; k_dflt (refine' Mine.issub_bytes ?zqk1 ?_; (case zqk1 => exact News.isTup (by k_asm) (by k_mem)); k_whole))))
  (k_with "getMethod bytes" => ((k_here; (with_reducible first | refine Mine.method_rfind ?_ | refine Mine.method_rstrip ?_ | refine Mine.method_starts ?_ | refine Mine.method_ends ?_))))
  (k_with "call builtin:bytes.rfind" => ((k_here; refine Mine.call_rfind ?_)))
  (k_with "call builtin:bytes.startswith" => ((k_here; refine Mine.call_starts ?_)))
  (k_with "call builtin:bytes.endswith" => ((k_here; refine Mine.call_ends ?_)))
  (k_with "call builtin:bytes.rstrip" => ((k_here; refine Mine.call_rstrip (by k_extra "kaf") ?_; intro zzt8 zzk8)))
  (k_with "subscriptTail" => ((k_here; (with_reducible show wpAny _ _ (subscriptTail _ (Expr.Slice _ _ none _) (Value.bytes _ _) (Value.ref _)) _ _ _); (with_reducible rename Fr _ _ _ _ => zzFq); (with_reducible rename News _ _ _ _ => zzNq); (refine Mine.slice_B (s := ⟨_, _, _, _, _⟩) zzFq zzNq (by constructor) (by constructor) (by k_extra "kaf") ?_); intro _ _ _ _ _; (try k_sweep))))
  (k_with "truthy bytes" => ((k_here; (refine Mine.truthy_B (by k_extra "kaf") ?_); intro _)))
  (k_with "call builtin:len" => ((k_here; (with_reducible show wpAny _ _ (call (Value.builtin "len") [Value.bytes _ _]) _ _ _); (refine Mine.len_B (by k_extra "kaf") ?_); intro _ _)))
  (k_with "binaryOp Mult bytes int" => ((k_here; (refine Mine.mul_B (by k_extra "kaf") ?_); intro _ _)))
  (k_with "exec While Name" => ((k_here; refine whl_start 5 ?_)))
  (k_with "WhlIf" => ((first | (refine WhlIf.yes (by with_unfolding_all rfl) ?_) | (refine WhlIf.no (by with_unfolding_all rfl) ?_) | (refine Mine.whl_split ?_ ?_ <;> intro zzhw8 <;> (first | done | (exfalso; (try simp only [bne_iff_ne, ne_eq, bne_eq_false_iff_eq, decide_eq_true_eq, decide_eq_false_iff_not] at *); omega) | skip)))))
  (k_with "binaryOp Add bytes bytes" => ((k_here; (refine Mine.add_B (by k_extra "kaf") ?_); intro _ _)))
  (k_with "kaf" => (first | (with_reducible assumption) | ((with_reducible refine Mine.sz_cut ?_); k_extra "kaf") | ((with_reducible refine Mine.small_rstrip ?_); k_extra "kaf") | ((with_reducible refine Mine.sz_app ?_ ?_) <;> k_extra "kaf") | exact Nat.le_of_ble_eq_true rfl | exact Nat.le_trans (by with_reducible assumption) (by decide) | assumption | ((try simp only [Mine.Small, Array.size_append, List.size_toArray, List.length_cons, List.length_nil] at *); omega)))
  (k_with "inplaceOp Add bytes bytes" => ((k_here; (refine Mine.iadd_B (by k_extra "kaf") ?_); intro _ _)))
  (k_with "WhlIf" => ((refine WhlIf.no (Mine.ap_three (by assumption) (by assumption)) ?_)))
  w_top off
  k_fill
  intro p loose mean mg mb dp un gd cn cs a ccd cl outer A₀ base h₀ L m s Q E B F X T hk hpre hdp hun hret
  refine wpAny_call ?_
  k_dflt ((refine' Mine.code_defP ?zqk1 ?zqk2 ?zqk3 ?zqk5 ?zqkA ?zqkF ?zqkK ?zqk6 ?zqk7 ?zqk8 ?zqk9 ?zqkB ?_ ?zqc2 ?zqc3 ?zqc4 ?zqc5; (case zqkA => exact rfl); (case zqkF => exact rfl); (case zqkK => assumption); (case zqk1 => k_asm); (case zqk2 => k_asm); (case zqk3 => k_asm); (case zqk5 => k_asm); (case zqk6 => k_is); (case zqk7 => k_is); (case zqk8 => ktr_room); (case zqk9 => exact BindsTo.of_eq rfl); (case zqc5 => decide); (case zqkB => exact locs rfl); (case zqc2 => exact rfl); (case zqc3 => exact rfl); (case zqc4 => exact rfl); k_whole))
  intro g' L' h' hg' F' N' B' X' T'
  clear B F X T
  (try rw [← hg'] at hpre)
  rw [← hg'] at hret
  (try dsimp only at hret)
  (try dsimp only at hpre)
  (try dsimp only)
  k_fold
  (repeat' (first | (k_unfold; (try dsimp only)) | (k_end; kc_close) | (dsimp only; walk1) | walk1 | (leave1; try dsimp only)))
  all_goals (repeat (first | k_unfold | dsimp only | dsimp +zetaDelta only))
  all_goals (unfold Mine.EndP; dsimp only)
  exact hret _ _ _ (Fr.keep (by assumption)) (Mine.fr_size (by assumption)) rfl
end
section
theorem Mine.c_getsep (w : World) (b : Array UInt8) (t : Tok) : Mine.Told w 122 [.bytes b t] 2 (fun _ => True) (Mine.RB #[47]) := by
  unfold Mine.Told
  k_with_none
  (k_with "call type:type" => ((k_here; (with_reducible show wpAny _ _ (call (Value.type "type") [Value.bytes _ _]) _ _ _); refine Mine.type_bytes ?_)))
  (k_with "call builtin:issubclass" => ((k_here; k_dflt (refine' Mine.issub_bytes ?zqk1 ?_; (case zqk1 => exact News.isTup (by k_asm) (by k_mem)); k_whole))))
  (k_with "getMethod bytes" => ((k_here; (with_reducible first | refine Mine.method_rfind ?_ | refine Mine.method_rstrip ?_ | refine Mine.method_starts ?_ | refine Mine.method_ends ?_))))
  (k_with "call builtin:bytes.rfind" => ((k_here; refine Mine.call_rfind ?_)))
  (k_with "call builtin:bytes.startswith" => ((k_here; refine Mine.call_starts ?_)))
  (k_with "call builtin:bytes.endswith" => ((k_here; refine Mine.call_ends ?_)))
  (k_with "call builtin:bytes.rstrip" => ((k_here; refine Mine.call_rstrip (by k_extra "kaf") ?_; intro zzt8 zzk8)))
  (k_with "subscriptTail" => ((k_here; (with_reducible show wpAny _ _ (subscriptTail _ (Expr.Slice _ _ none _) (Value.bytes _ _) (Value.ref _)) _ _ _); (with_reducible rename Fr _ _ _ _ => zzFq); (with_reducible rename News _ _ _ _ => zzNq); (refine Mine.slice_B (s := ⟨_, _, _, _, _⟩) zzFq zzNq (by constructor) (by constructor) (by k_extra "kaf") ?_); intro _ _ _ _ _; (try k_sweep))))
  (k_with "truthy bytes" => ((k_here; (refine Mine.truthy_B (by k_extra "kaf") ?_); intro _)))
  (k_with "call builtin:len" => ((k_here; (with_reducible show wpAny _ _ (call (Value.builtin "len") [Value.bytes _ _]) _ _ _); (refine Mine.len_B (by k_extra "kaf") ?_); intro _ _)))
  (k_with "binaryOp Mult bytes int" => ((k_here; (refine Mine.mul_B (by k_extra "kaf") ?_); intro _ _)))
  (k_with "exec While Name" => ((k_here; refine whl_start 5 ?_)))
  (k_with "WhlIf" => ((first | (refine WhlIf.yes (by with_unfolding_all rfl) ?_) | (refine WhlIf.no (by with_unfolding_all rfl) ?_) | (refine Mine.whl_split ?_ ?_ <;> intro zzhw8 <;> (first | done | (exfalso; (try simp only [bne_iff_ne, ne_eq, bne_eq_false_iff_eq, decide_eq_true_eq, decide_eq_false_iff_not] at *); omega) | skip)))))
  (k_with "binaryOp Add bytes bytes" => ((k_here; (refine Mine.add_B (by k_extra "kaf") ?_); intro _ _)))
  (k_with "kaf" => (first | (with_reducible assumption) | ((with_reducible refine Mine.sz_cut ?_); k_extra "kaf") | ((with_reducible refine Mine.small_rstrip ?_); k_extra "kaf") | ((with_reducible refine Mine.sz_app ?_ ?_) <;> k_extra "kaf") | exact Nat.le_of_ble_eq_true rfl | exact Nat.le_trans (by with_reducible assumption) (by decide) | assumption | ((try simp only [Mine.Small, Array.size_append, List.size_toArray, List.length_cons, List.length_nil] at *); omega)))
  (k_with "inplaceOp Add bytes bytes" => ((k_here; (refine Mine.iadd_B (by k_extra "kaf") ?_); intro _ _)))
  (k_with "WhlIf" => ((refine WhlIf.no (Mine.ap_three (by assumption) (by assumption)) ?_)))
  w_top off
  k_fill
  intro p loose mean mg mb dp un gd cn cs a ccd cl outer A₀ base h₀ L m s Q E B F X T hk hpre hdp hun hret
  refine wpAny_call ?_
  k_dflt ((refine' Mine.code_defP ?zqk1 ?zqk2 ?zqk3 ?zqk5 ?zqkA ?zqkF ?zqkK ?zqk6 ?zqk7 ?zqk8 ?zqk9 ?zqkB ?_ ?zqc2 ?zqc3 ?zqc4 ?zqc5; (case zqkA => exact rfl); (case zqkF => exact rfl); (case zqkK => assumption); (case zqk1 => k_asm); (case zqk2 => k_asm); (case zqk3 => k_asm); (case zqk5 => k_asm); (case zqk6 => k_is); (case zqk7 => k_is); (case zqk8 => ktr_room); (case zqk9 => exact BindsTo.of_eq rfl); (case zqc5 => decide); (case zqkB => exact locs rfl); (case zqc2 => exact rfl); (case zqc3 => exact rfl); (case zqc4 => exact rfl); k_whole))
  intro g' L' h' hg' F' N' B' X' T'
  clear B F X T
  (try rw [← hg'] at hpre)
  rw [← hg'] at hret
  (try dsimp only at hret)
  (try dsimp only at hpre)
  (try dsimp only)
  k_fold
  (repeat' (first | (k_unfold; (try dsimp only)) | (k_end; kc_close) | (dsimp only; walk1) | walk1 | (leave1; try dsimp only)))
  all_goals (repeat (first | k_unfold | dsimp only | dsimp +zetaDelta only))
  all_goals (unfold Mine.EndP; dsimp only)
  exact hret _ _ _ (Fr.keep (by assumption)) (Mine.fr_size (by assumption)) (Mine.rb_end rfl)
end
section
section
namespace Mine
/- What the folder's word is, of what stands ahead of the last slash and with it. -/
noncomputable def headB (h : Array UInt8) : Array UInt8 :=
  if 0 < h.size then if (h.toList != (List.replicate h.size (47 : UInt8)).toArray.toList) = true then rstripB h #[47] else h else h
noncomputable def dirB (b : Array UInt8) : Array UInt8 := headB (KBy.picked b none (some (rfindZ b #[47] + 1)))
noncomputable def baseB (b : Array UInt8) : Array UInt8 := KBy.picked b (some (rfindZ b #[47] + 1)) none
end Mine
theorem Mine.c_dirname (w : World) (b : Array UInt8) (t : Tok) (hb : Mine.Small b) : Mine.Told w 160 [.bytes b t] 4 (fun _ => True) (Mine.RB (Mine.dirB b)) := by
  unfold Mine.Told
  k_with_none
  (k_with "call type:type" => ((k_here; (with_reducible show wpAny _ _ (call (Value.type "type") [Value.bytes _ _]) _ _ _); refine Mine.type_bytes ?_)))
  (k_with "call builtin:issubclass" => ((k_here; k_dflt (refine' Mine.issub_bytes ?zqk1 ?_; (case zqk1 => exact News.isTup (by k_asm) (by k_mem)); k_whole))))
  (k_with "getMethod bytes" => ((k_here; (with_reducible first | refine Mine.method_rfind ?_ | refine Mine.method_rstrip ?_ | refine Mine.method_starts ?_ | refine Mine.method_ends ?_))))
  (k_with "call builtin:bytes.rfind" => ((k_here; refine Mine.call_rfind ?_)))
  (k_with "call builtin:bytes.startswith" => ((k_here; refine Mine.call_starts ?_)))
  (k_with "call builtin:bytes.endswith" => ((k_here; refine Mine.call_ends ?_)))
  (k_with "call builtin:bytes.rstrip" => ((k_here; refine Mine.call_rstrip (by k_extra "kaf") ?_; intro zzt8 zzk8)))
  (k_with "subscriptTail" => ((k_here; (with_reducible show wpAny _ _ (subscriptTail _ (Expr.Slice _ _ none _) (Value.bytes _ _) (Value.ref _)) _ _ _); (with_reducible rename Fr _ _ _ _ => zzFq); (with_reducible rename News _ _ _ _ => zzNq); (refine Mine.slice_B (s := ⟨_, _, _, _, _⟩) zzFq zzNq (by constructor) (by constructor) (by k_extra "kaf") ?_); intro _ _ _ _ _; (try k_sweep))))
  (k_with "truthy bytes" => ((k_here; (refine Mine.truthy_B (by k_extra "kaf") ?_); intro _)))
  (k_with "call builtin:len" => ((k_here; (with_reducible show wpAny _ _ (call (Value.builtin "len") [Value.bytes _ _]) _ _ _); (refine Mine.len_B (by k_extra "kaf") ?_); intro _ _)))
  (k_with "binaryOp Mult bytes int" => ((k_here; (refine Mine.mul_B (by k_extra "kaf") ?_); intro _ _)))
  (k_with "exec While Name" => ((k_here; refine whl_start 5 ?_)))
  (k_with "WhlIf" => ((first | (refine WhlIf.yes (by with_unfolding_all rfl) ?_) | (refine WhlIf.no (by with_unfolding_all rfl) ?_) | (refine Mine.whl_split ?_ ?_ <;> intro zzhw8 <;> (first | done | (exfalso; (try simp only [bne_iff_ne, ne_eq, bne_eq_false_iff_eq, decide_eq_true_eq, decide_eq_false_iff_not] at *); omega) | skip)))))
  (k_with "binaryOp Add bytes bytes" => ((k_here; (refine Mine.add_B (by k_extra "kaf") ?_); intro _ _)))
  (k_with "kaf" => (first | (with_reducible assumption) | ((with_reducible refine Mine.sz_cut ?_); k_extra "kaf") | ((with_reducible refine Mine.small_rstrip ?_); k_extra "kaf") | ((with_reducible refine Mine.sz_app ?_ ?_) <;> k_extra "kaf") | exact Nat.le_of_ble_eq_true rfl | exact Nat.le_trans (by with_reducible assumption) (by decide) | assumption | ((try simp only [Mine.Small, Array.size_append, List.size_toArray, List.length_cons, List.length_nil] at *); omega)))
  (k_with "inplaceOp Add bytes bytes" => ((k_here; (refine Mine.iadd_B (by k_extra "kaf") ?_); intro _ _)))
  (k_with "WhlIf" => ((refine WhlIf.no (Mine.ap_three (by assumption) (by assumption)) ?_)))
  (k_with "call ref" => ((k_here; (with_reducible show wpAny _ _ (call (Value.ref 101) [Value.bytes _ _]) _ _ _); k_dflt (refine' Mine.useV (Mine.c_fspath _ _ _) ?zqk1 ?zqk2 ?zqk3 ?zqk4 ?zqk5 ?zqk6 ?zqk7 ?zqk8 ?zqk9 ?_; ((case zqk1 => k_asm); (case zqk2 => k_asm); (case zqk3 => k_asm); (case zqk4 => k_asm); (case zqk5 => k_asm); (case zqk6 => first | exact rfl | assumption); (case zqk7 => first | exact True.intro | assumption); (case zqk8 => ktr_room); (case zqk9 => ktr_units))); intro zzh8 zztk8 zzF8 zzN8; (try k_sweep); (try k_fold))))
  (k_with "call ref" => ((k_here; (with_reducible show wpAny _ _ (call (Value.ref 122) [Value.bytes _ _]) _ _ _); k_dflt (refine' Mine.useB (Mine.c_getsep _ _ _) ?zqk1 ?zqk2 ?zqk3 ?zqk4 ?zqk5 ?zqk6 ?zqk7 ?zqk8 ?zqk9 ?_; ((case zqk1 => k_asm); (case zqk2 => k_asm); (case zqk3 => k_asm); (case zqk4 => k_asm); (case zqk5 => k_asm); (case zqk6 => first | exact rfl | assumption); (case zqk7 => first | exact True.intro | assumption); (case zqk8 => ktr_room); (case zqk9 => ktr_units))); intro zzt8 zzh8 zztk8 zzF8 zzN8; (try k_sweep); (try k_fold))))
  w_top off
  k_fill
  intro p loose mean mg mb dp un gd cn cs a ccd cl outer A₀ base h₀ L m s Q E B F X T hk hpre hdp hun hret
  refine wpAny_call ?_
  k_dflt ((refine' Mine.code_defP ?zqk1 ?zqk2 ?zqk3 ?zqk5 ?zqkA ?zqkF ?zqkK ?zqk6 ?zqk7 ?zqk8 ?zqk9 ?zqkB ?_ ?zqc2 ?zqc3 ?zqc4 ?zqc5; (case zqkA => exact rfl); (case zqkF => exact rfl); (case zqkK => assumption); (case zqk1 => k_asm); (case zqk2 => k_asm); (case zqk3 => k_asm); (case zqk5 => k_asm); (case zqk6 => k_is); (case zqk7 => k_is); (case zqk8 => ktr_room); (case zqk9 => exact BindsTo.of_eq rfl); (case zqc5 => decide); (case zqkB => exact locs rfl); (case zqc2 => exact rfl); (case zqc3 => exact rfl); (case zqc4 => exact rfl); k_whole))
  intro g' L' h' hg' F' N' B' X' T'
  clear B F X T
  (try rw [← hg'] at hpre)
  rw [← hg'] at hret
  (try dsimp only at hret)
  (try dsimp only at hpre)
  (try dsimp only)
  k_fold
  (repeat' (first | (k_unfold; (try dsimp only)) | (k_end; kc_close) | (dsimp only; walk1) | walk1 | (leave1; try dsimp only)))
  all_goals (repeat (first | k_unfold | dsimp only | dsimp +zetaDelta only))
  all_goals (unfold Mine.EndP; dsimp only)
  all_goals refine hret _ _ _ (Fr.keep (by assumption)) (Mine.fr_size (by assumption)) (Mine.rb_end ?_)
  all_goals unfold Mine.dirB Mine.headB
  all_goals (repeat (first | rw [if_pos (by with_reducible assumption)] | rw [if_neg (by with_reducible assumption)] | rw [if_neg (ne_true_of_eq_false (by with_reducible assumption))] | rw [if_neg (not_not_intro (by with_reducible assumption))]))
  all_goals rfl
theorem Mine.c_basename (w : World) (b : Array UInt8) (t : Tok) (hb : Mine.Small b) : Mine.Told w 153 [.bytes b t] 4 (fun _ => True) (Mine.RB (Mine.baseB b)) := by
  unfold Mine.Told
  k_with_none
  (k_with "call type:type" => ((k_here; (with_reducible show wpAny _ _ (call (Value.type "type") [Value.bytes _ _]) _ _ _); refine Mine.type_bytes ?_)))
  (k_with "call builtin:issubclass" => ((k_here; k_dflt (refine' Mine.issub_bytes ?zqk1 ?_; (case zqk1 => exact News.isTup (by k_asm) (by k_mem)); k_whole))))
  (k_with "getMethod bytes" => ((k_here; (with_reducible first | refine Mine.method_rfind ?_ | refine Mine.method_rstrip ?_ | refine Mine.method_starts ?_ | refine Mine.method_ends ?_))))
  (k_with "call builtin:bytes.rfind" => ((k_here; refine Mine.call_rfind ?_)))
  (k_with "call builtin:bytes.startswith" => ((k_here; refine Mine.call_starts ?_)))
  (k_with "call builtin:bytes.endswith" => ((k_here; refine Mine.call_ends ?_)))
  (k_with "call builtin:bytes.rstrip" => ((k_here; refine Mine.call_rstrip (by k_extra "kaf") ?_; intro zzt8 zzk8)))
  (k_with "subscriptTail" => ((k_here; (with_reducible show wpAny _ _ (subscriptTail _ (Expr.Slice _ _ none _) (Value.bytes _ _) (Value.ref _)) _ _ _); (with_reducible rename Fr _ _ _ _ => zzFq); (with_reducible rename News _ _ _ _ => zzNq); (refine Mine.slice_B (s := ⟨_, _, _, _, _⟩) zzFq zzNq (by constructor) (by constructor) (by k_extra "kaf") ?_); intro _ _ _ _ _; (try k_sweep))))
  (k_with "truthy bytes" => ((k_here; (refine Mine.truthy_B (by k_extra "kaf") ?_); intro _)))
  (k_with "call builtin:len" => ((k_here; (with_reducible show wpAny _ _ (call (Value.builtin "len") [Value.bytes _ _]) _ _ _); (refine Mine.len_B (by k_extra "kaf") ?_); intro _ _)))
  (k_with "binaryOp Mult bytes int" => ((k_here; (refine Mine.mul_B (by k_extra "kaf") ?_); intro _ _)))
  (k_with "exec While Name" => ((k_here; refine whl_start 5 ?_)))
  (k_with "WhlIf" => ((first | (refine WhlIf.yes (by with_unfolding_all rfl) ?_) | (refine WhlIf.no (by with_unfolding_all rfl) ?_) | (refine Mine.whl_split ?_ ?_ <;> intro zzhw8 <;> (first | done | (exfalso; (try simp only [bne_iff_ne, ne_eq, bne_eq_false_iff_eq, decide_eq_true_eq, decide_eq_false_iff_not] at *); omega) | skip)))))
  (k_with "binaryOp Add bytes bytes" => ((k_here; (refine Mine.add_B (by k_extra "kaf") ?_); intro _ _)))
  (k_with "kaf" => (first | (with_reducible assumption) | ((with_reducible refine Mine.sz_cut ?_); k_extra "kaf") | ((with_reducible refine Mine.small_rstrip ?_); k_extra "kaf") | ((with_reducible refine Mine.sz_app ?_ ?_) <;> k_extra "kaf") | exact Nat.le_of_ble_eq_true rfl | exact Nat.le_trans (by with_reducible assumption) (by decide) | assumption | ((try simp only [Mine.Small, Array.size_append, List.size_toArray, List.length_cons, List.length_nil] at *); omega)))
  (k_with "inplaceOp Add bytes bytes" => ((k_here; (refine Mine.iadd_B (by k_extra "kaf") ?_); intro _ _)))
  (k_with "WhlIf" => ((refine WhlIf.no (Mine.ap_three (by assumption) (by assumption)) ?_)))
  (k_with "call ref" => ((k_here; (with_reducible show wpAny _ _ (call (Value.ref 101) [Value.bytes _ _]) _ _ _); k_dflt (refine' Mine.useV (Mine.c_fspath _ _ _) ?zqk1 ?zqk2 ?zqk3 ?zqk4 ?zqk5 ?zqk6 ?zqk7 ?zqk8 ?zqk9 ?_; ((case zqk1 => k_asm); (case zqk2 => k_asm); (case zqk3 => k_asm); (case zqk4 => k_asm); (case zqk5 => k_asm); (case zqk6 => first | exact rfl | assumption); (case zqk7 => first | exact True.intro | assumption); (case zqk8 => ktr_room); (case zqk9 => ktr_units))); intro zzh8 zztk8 zzF8 zzN8; (try k_sweep); (try k_fold))))
  (k_with "call ref" => ((k_here; (with_reducible show wpAny _ _ (call (Value.ref 122) [Value.bytes _ _]) _ _ _); k_dflt (refine' Mine.useB (Mine.c_getsep _ _ _) ?zqk1 ?zqk2 ?zqk3 ?zqk4 ?zqk5 ?zqk6 ?zqk7 ?zqk8 ?zqk9 ?_; ((case zqk1 => k_asm); (case zqk2 => k_asm); (case zqk3 => k_asm); (case zqk4 => k_asm); (case zqk5 => k_asm); (case zqk6 => first | exact rfl | assumption); (case zqk7 => first | exact True.intro | assumption); (case zqk8 => ktr_room); (case zqk9 => ktr_units))); intro zzt8 zzh8 zztk8 zzF8 zzN8; (try k_sweep); (try k_fold))))
  w_top off
  k_fill
  intro p loose mean mg mb dp un gd cn cs a ccd cl outer A₀ base h₀ L m s Q E B F X T hk hpre hdp hun hret
  refine wpAny_call ?_
  k_dflt ((refine' Mine.code_defP ?zqk1 ?zqk2 ?zqk3 ?zqk5 ?zqkA ?zqkF ?zqkK ?zqk6 ?zqk7 ?zqk8 ?zqk9 ?zqkB ?_ ?zqc2 ?zqc3 ?zqc4 ?zqc5; (case zqkA => exact rfl); (case zqkF => exact rfl); (case zqkK => assumption); (case zqk1 => k_asm); (case zqk2 => k_asm); (case zqk3 => k_asm); (case zqk5 => k_asm); (case zqk6 => k_is); (case zqk7 => k_is); (case zqk8 => ktr_room); (case zqk9 => exact BindsTo.of_eq rfl); (case zqc5 => decide); (case zqkB => exact locs rfl); (case zqc2 => exact rfl); (case zqc3 => exact rfl); (case zqc4 => exact rfl); k_whole))
  intro g' L' h' hg' F' N' B' X' T'
  clear B F X T
  (try rw [← hg'] at hpre)
  rw [← hg'] at hret
  (try dsimp only at hret)
  (try dsimp only at hpre)
  (try dsimp only)
  k_fold
  (repeat' (first | (k_unfold; (try dsimp only)) | (k_end; kc_close) | (dsimp only; walk1) | walk1 | (leave1; try dsimp only)))
  all_goals (repeat (first | k_unfold | dsimp only | dsimp +zetaDelta only))
  all_goals (unfold Mine.EndP; dsimp only)
  all_goals exact hret _ _ _ (Fr.keep (by assumption)) (Mine.fr_size (by assumption)) (Mine.rb_end rfl)
end
section
theorem Mine.c_split (w : World) (b : Array UInt8) (t : Tok) (hb : Mine.Small b) : Mine.Told w 136 [.bytes b t] 4 (fun _ => True) (Mine.RT2 (Mine.dirB b) (Mine.baseB b)) := by
  unfold Mine.Told
  k_with_none
  (k_with "call type:type" => ((k_here; (with_reducible show wpAny _ _ (call (Value.type "type") [Value.bytes _ _]) _ _ _); refine Mine.type_bytes ?_)))
  (k_with "call builtin:issubclass" => ((k_here; k_dflt (refine' Mine.issub_bytes ?zqk1 ?_; (case zqk1 => exact News.isTup (by k_asm) (by k_mem)); k_whole))))
  (k_with "getMethod bytes" => ((k_here; (with_reducible first | refine Mine.method_rfind ?_ | refine Mine.method_rstrip ?_ | refine Mine.method_starts ?_ | refine Mine.method_ends ?_))))
  (k_with "call builtin:bytes.rfind" => ((k_here; refine Mine.call_rfind ?_)))
  (k_with "call builtin:bytes.startswith" => ((k_here; refine Mine.call_starts ?_)))
  (k_with "call builtin:bytes.endswith" => ((k_here; refine Mine.call_ends ?_)))
  (k_with "call builtin:bytes.rstrip" => ((k_here; refine Mine.call_rstrip (by k_extra "kaf") ?_; intro zzt8 zzk8)))
  (k_with "subscriptTail" => ((k_here; (with_reducible show wpAny _ _ (subscriptTail _ (Expr.Slice _ _ none _) (Value.bytes _ _) (Value.ref _)) _ _ _); (with_reducible rename Fr _ _ _ _ => zzFq); (with_reducible rename News _ _ _ _ => zzNq); (refine Mine.slice_B (s := ⟨_, _, _, _, _⟩) zzFq zzNq (by constructor) (by constructor) (by k_extra "kaf") ?_); intro _ _ _ _ _; (try k_sweep))))
  (k_with "truthy bytes" => ((k_here; (refine Mine.truthy_B (by k_extra "kaf") ?_); intro _)))
  (k_with "call builtin:len" => ((k_here; (with_reducible show wpAny _ _ (call (Value.builtin "len") [Value.bytes _ _]) _ _ _); (refine Mine.len_B (by k_extra "kaf") ?_); intro _ _)))
  (k_with "binaryOp Mult bytes int" => ((k_here; (refine Mine.mul_B (by k_extra "kaf") ?_); intro _ _)))
  (k_with "exec While Name" => ((k_here; refine whl_start 5 ?_)))
  (k_with "WhlIf" => ((first | (refine WhlIf.yes (by with_unfolding_all rfl) ?_) | (refine WhlIf.no (by with_unfolding_all rfl) ?_) | (refine Mine.whl_split ?_ ?_ <;> intro zzhw8 <;> (first | done | (exfalso; (try simp only [bne_iff_ne, ne_eq, bne_eq_false_iff_eq, decide_eq_true_eq, decide_eq_false_iff_not] at *); omega) | skip)))))
  (k_with "binaryOp Add bytes bytes" => ((k_here; (refine Mine.add_B (by k_extra "kaf") ?_); intro _ _)))
  (k_with "kaf" => (first | (with_reducible assumption) | ((with_reducible refine Mine.sz_cut ?_); k_extra "kaf") | ((with_reducible refine Mine.small_rstrip ?_); k_extra "kaf") | ((with_reducible refine Mine.sz_app ?_ ?_) <;> k_extra "kaf") | exact Nat.le_of_ble_eq_true rfl | exact Nat.le_trans (by with_reducible assumption) (by decide) | assumption | ((try simp only [Mine.Small, Array.size_append, List.size_toArray, List.length_cons, List.length_nil] at *); omega)))
  (k_with "inplaceOp Add bytes bytes" => ((k_here; (refine Mine.iadd_B (by k_extra "kaf") ?_); intro _ _)))
  (k_with "WhlIf" => ((refine WhlIf.no (Mine.ap_three (by assumption) (by assumption)) ?_)))
  (k_with "call ref" => ((k_here; (with_reducible show wpAny _ _ (call (Value.ref 101) [Value.bytes _ _]) _ _ _); k_dflt (refine' Mine.useV (Mine.c_fspath _ _ _) ?zqk1 ?zqk2 ?zqk3 ?zqk4 ?zqk5 ?zqk6 ?zqk7 ?zqk8 ?zqk9 ?_; ((case zqk1 => k_asm); (case zqk2 => k_asm); (case zqk3 => k_asm); (case zqk4 => k_asm); (case zqk5 => k_asm); (case zqk6 => first | exact rfl | assumption); (case zqk7 => first | exact True.intro | assumption); (case zqk8 => ktr_room); (case zqk9 => ktr_units))); intro zzh8 zztk8 zzF8 zzN8; (try k_sweep); (try k_fold))))
  (k_with "call ref" => ((k_here; (with_reducible show wpAny _ _ (call (Value.ref 122) [Value.bytes _ _]) _ _ _); k_dflt (refine' Mine.useB (Mine.c_getsep _ _ _) ?zqk1 ?zqk2 ?zqk3 ?zqk4 ?zqk5 ?zqk6 ?zqk7 ?zqk8 ?zqk9 ?_; ((case zqk1 => k_asm); (case zqk2 => k_asm); (case zqk3 => k_asm); (case zqk4 => k_asm); (case zqk5 => k_asm); (case zqk6 => first | exact rfl | assumption); (case zqk7 => first | exact True.intro | assumption); (case zqk8 => ktr_room); (case zqk9 => ktr_units))); intro zzt8 zzh8 zztk8 zzF8 zzN8; (try k_sweep); (try k_fold))))
  w_top off
  k_fill
  intro p loose mean mg mb dp un gd cn cs a ccd cl outer A₀ base h₀ L m s Q E B F X T hk hpre hdp hun hret
  refine wpAny_call ?_
  k_dflt ((refine' Mine.code_defP ?zqk1 ?zqk2 ?zqk3 ?zqk5 ?zqkA ?zqkF ?zqkK ?zqk6 ?zqk7 ?zqk8 ?zqk9 ?zqkB ?_ ?zqc2 ?zqc3 ?zqc4 ?zqc5; (case zqkA => exact rfl); (case zqkF => exact rfl); (case zqkK => assumption); (case zqk1 => k_asm); (case zqk2 => k_asm); (case zqk3 => k_asm); (case zqk5 => k_asm); (case zqk6 => k_is); (case zqk7 => k_is); (case zqk8 => ktr_room); (case zqk9 => exact BindsTo.of_eq rfl); (case zqc5 => decide); (case zqkB => exact locs rfl); (case zqc2 => exact rfl); (case zqc3 => exact rfl); (case zqc4 => exact rfl); k_whole))
  intro g' L' h' hg' F' N' B' X' T'
  clear B F X T
  (try rw [← hg'] at hpre)
  rw [← hg'] at hret
  (try dsimp only at hret)
  (try dsimp only at hpre)
  (try dsimp only)
  k_fold
  (repeat' (first | (k_unfold; (try dsimp only)) | (k_end; kc_close) | (dsimp only; walk1) | walk1 | (leave1; try dsimp only)))
  all_goals (repeat (first | k_unfold | dsimp only | dsimp +zetaDelta only))
  all_goals (unfold Mine.EndP; dsimp only)
  all_goals refine hret _ _ _ (Fr.keep (by assumption)) (Mine.fr_size (by assumption)) ?_
  all_goals refine Mine.rt2_end (by assumption) (by assumption) (by k_mem) ?_ rfl
  all_goals unfold Mine.dirB Mine.headB
  all_goals (repeat (first | rw [if_pos (by with_reducible assumption)] | rw [if_neg (by with_reducible assumption)] | rw [if_neg (ne_true_of_eq_false (by with_reducible assumption))] | rw [if_neg (not_not_intro (by with_reducible assumption))]))
  all_goals rfl
end
section
namespace Mine
/- Where the name begins; where the last dot is; is there an ending. -/
noncomputable def nameAt (b : Array UInt8) : Int := rfindZ b #[47] + 1
noncomputable def dotAt (b : Array UInt8) : Int := rfindZ b #[46]
noncomputable def FirstOk (b : Array UInt8) : Prop := nameAt b < dotAt b → (KBy.picked b (some (nameAt b)) (some (nameAt b + 1))).toList ≠ [46]
noncomputable def frontB (b : Array UInt8) : Array UInt8 := if nameAt b < dotAt b then KBy.picked b none (some (dotAt b)) else b
noncomputable def endB (b : Array UInt8) : Array UInt8 := if nameAt b < dotAt b then KBy.picked b (some (dotAt b)) none else KBy.picked b none (some 0)
theorem sx_turn {b : Array UInt8} {n : Int} (h0 : 0 ≤ n) (h : rfindZ b #[47] + 1 + 1 * n < rfindZ b #[46]) :
    KBy.picked b none (some (rfindZ b #[46])) = frontB b ∧ KBy.picked b (some (rfindZ b #[46])) none = endB b := by
  have e : nameAt b < dotAt b := by unfold nameAt dotAt; omega
  unfold frontB endB
  rw [if_pos e, if_pos e]
  exact ⟨rfl, rfl⟩
theorem sx_done {b : Array UInt8} {n : Int} (hf : FirstOk b) (h0 : 0 ≤ n)
    (hp : Passed (fun j => decide (rfindZ b #[47] + 1 + 1 * j < rfindZ b #[46])) (fun j => if ((KBy.picked b (some (rfindZ b #[47] + 1 + 1 * j)) (some (rfindZ b #[47] + 1 + 1 * j + 1))).toList != #[46].toList) = true then true else false) n)
    (he : rfindZ b #[46] ≤ rfindZ b #[47] + 1 + 1 * n) : b = frontB b ∧ KBy.picked b none (some 0) = endB b := by
  have e : ¬ nameAt b < dotAt b := by
    intro hlt
    have h1 := hf hlt
    by_cases hn : n = 0
    · subst hn; unfold nameAt dotAt at hlt; omega
    · have h2 := (hp 0 (Int.le_refl 0) (by omega)).2
      unfold nameAt at h1
      simp only [Int.mul_zero, Int.add_zero] at h2
      have h3 : ((KBy.picked b (some (rfindZ b #[47] + 1)) (some (rfindZ b #[47] + 1 + 1))).toList != #[46].toList) = true := by
        rw [bne_iff_ne]; exact h1
      rw [if_pos h3] at h2
      cases h2
  unfold frontB endB
  rw [if_neg e, if_neg e]
  exact ⟨rfl, rfl⟩
theorem sx_none {b : Array UInt8} (h : ¬ rfindZ b #[47] < rfindZ b #[46]) : b = frontB b ∧ KBy.picked b none (some 0) = endB b := by
  have e : ¬ nameAt b < dotAt b := by unfold nameAt dotAt; omega
  unfold frontB endB
  rw [if_neg e, if_neg e]
  exact ⟨rfl, rfl⟩
end Mine
theorem Mine.c_splitext0 (w : World) (b : Array UInt8) (t t1 t2 : Tok) (hb : Mine.Small b) (hf : Mine.FirstOk b) :
    Mine.Told w 108 [.bytes b t, .bytes #[47] t1, .none, .bytes #[46] t2] 4 (fun _ => True) (Mine.RT2 (Mine.frontB b) (Mine.endB b)) := by
  unfold Mine.Told
  k_with_none
  (k_with "call type:type" => ((k_here; (with_reducible show wpAny _ _ (call (Value.type "type") [Value.bytes _ _]) _ _ _); refine Mine.type_bytes ?_)))
  (k_with "call builtin:issubclass" => ((k_here; k_dflt (refine' Mine.issub_bytes ?zqk1 ?_; (case zqk1 => exact News.isTup (by k_asm) (by k_mem)); k_whole))))
  (k_with "getMethod bytes" => ((k_here; (with_reducible first | refine Mine.method_rfind ?_ | refine Mine.method_rstrip ?_ | refine Mine.method_starts ?_ | refine Mine.method_ends ?_))))
  (k_with "call builtin:bytes.rfind" => ((k_here; refine Mine.call_rfind ?_)))
  (k_with "call builtin:bytes.startswith" => ((k_here; refine Mine.call_starts ?_)))
  (k_with "call builtin:bytes.endswith" => ((k_here; refine Mine.call_ends ?_)))
  (k_with "call builtin:bytes.rstrip" => ((k_here; refine Mine.call_rstrip (by k_extra "kaf") ?_; intro zzt8 zzk8)))
  (k_with "subscriptTail" => ((k_here; (with_reducible show wpAny _ _ (subscriptTail _ (Expr.Slice _ _ none _) (Value.bytes _ _) (Value.ref _)) _ _ _); (with_reducible rename Fr _ _ _ _ => zzFq); (with_reducible rename News _ _ _ _ => zzNq); (refine Mine.slice_B (s := ⟨_, _, _, _, _⟩) zzFq zzNq (by constructor) (by constructor) (by k_extra "kaf") ?_); intro _ _ _ _ _; (try k_sweep))))
  (k_with "truthy bytes" => ((k_here; (refine Mine.truthy_B (by k_extra "kaf") ?_); intro _)))
  (k_with "call builtin:len" => ((k_here; (with_reducible show wpAny _ _ (call (Value.builtin "len") [Value.bytes _ _]) _ _ _); (refine Mine.len_B (by k_extra "kaf") ?_); intro _ _)))
  (k_with "binaryOp Mult bytes int" => ((k_here; (refine Mine.mul_B (by k_extra "kaf") ?_); intro _ _)))
  (k_with "exec While Name" => ((k_here; refine whl_start 5 ?_)))
  (k_with "WhlIf" => ((first | (refine WhlIf.yes (by with_unfolding_all rfl) ?_) | (refine WhlIf.no (by with_unfolding_all rfl) ?_) | (refine Mine.whl_split ?_ ?_ <;> intro zzhw8 <;> (first | done | (exfalso; (try simp only [bne_iff_ne, ne_eq, bne_eq_false_iff_eq, decide_eq_true_eq, decide_eq_false_iff_not] at *); omega) | skip)))))
  (k_with "binaryOp Add bytes bytes" => ((k_here; (refine Mine.add_B (by k_extra "kaf") ?_); intro _ _)))
  (k_with "kaf" => (first | (with_reducible assumption) | ((with_reducible refine Mine.sz_cut ?_); k_extra "kaf") | ((with_reducible refine Mine.small_rstrip ?_); k_extra "kaf") | ((with_reducible refine Mine.sz_app ?_ ?_) <;> k_extra "kaf") | exact Nat.le_of_ble_eq_true rfl | exact Nat.le_trans (by with_reducible assumption) (by decide) | assumption | ((try simp only [Mine.Small, Array.size_append, List.size_toArray, List.length_cons, List.length_nil] at *); omega)))
  (k_with "inplaceOp Add bytes bytes" => ((k_here; (refine Mine.iadd_B (by k_extra "kaf") ?_); intro _ _)))
  (k_with "WhlIf" => ((refine WhlIf.no (Mine.ap_three (by assumption) (by assumption)) ?_)))
  (k_with "call ref" => ((k_here; (with_reducible show wpAny _ _ (call (Value.ref 101) [Value.bytes _ _]) _ _ _); k_dflt (refine' Mine.useV (Mine.c_fspath _ _ _) ?zqk1 ?zqk2 ?zqk3 ?zqk4 ?zqk5 ?zqk6 ?zqk7 ?zqk8 ?zqk9 ?_; ((case zqk1 => k_asm); (case zqk2 => k_asm); (case zqk3 => k_asm); (case zqk4 => k_asm); (case zqk5 => k_asm); (case zqk6 => first | exact rfl | assumption); (case zqk7 => first | exact True.intro | assumption); (case zqk8 => ktr_room); (case zqk9 => ktr_units))); intro zzh8 zztk8 zzF8 zzN8; (try k_sweep); (try k_fold))))
  (k_with "call ref" => ((k_here; (with_reducible show wpAny _ _ (call (Value.ref 122) [Value.bytes _ _]) _ _ _); k_dflt (refine' Mine.useB (Mine.c_getsep _ _ _) ?zqk1 ?zqk2 ?zqk3 ?zqk4 ?zqk5 ?zqk6 ?zqk7 ?zqk8 ?zqk9 ?_; ((case zqk1 => k_asm); (case zqk2 => k_asm); (case zqk3 => k_asm); (case zqk4 => k_asm); (case zqk5 => k_asm); (case zqk6 => first | exact rfl | assumption); (case zqk7 => first | exact True.intro | assumption); (case zqk8 => ktr_room); (case zqk9 => ktr_units))); intro zzt8 zzh8 zztk8 zzF8 zzN8; (try k_sweep); (try k_fold))))
  w_top off
  k_fill
  intro p loose mean mg mb dp un gd cn cs a ccd cl outer A₀ base h₀ L m s Q E B F X T hk hpre hdp hun hret
  refine wpAny_call ?_
  k_dflt ((refine' Mine.code_defP ?zqk1 ?zqk2 ?zqk3 ?zqk5 ?zqkA ?zqkF ?zqkK ?zqk6 ?zqk7 ?zqk8 ?zqk9 ?zqkB ?_ ?zqc2 ?zqc3 ?zqc4 ?zqc5; (case zqkA => exact rfl); (case zqkF => exact rfl); (case zqkK => assumption); (case zqk1 => k_asm); (case zqk2 => k_asm); (case zqk3 => k_asm); (case zqk5 => k_asm); (case zqk6 => k_is); (case zqk7 => k_is); (case zqk8 => ktr_room); (case zqk9 => exact BindsTo.of_eq rfl); (case zqc5 => decide); (case zqkB => exact locs rfl); (case zqc2 => exact rfl); (case zqc3 => exact rfl); (case zqc4 => exact rfl); k_whole))
  intro g' L' h' hg' F' N' B' X' T'
  clear B F X T
  (try rw [← hg'] at hpre)
  rw [← hg'] at hret
  (try dsimp only at hret)
  (try dsimp only at hpre)
  (try dsimp only)
  k_fold
  (repeat' (first | (k_unfold; (try dsimp only)) | (k_end; kc_close) | (dsimp only; walk1) | walk1 | (leave1; try dsimp only)))
  all_goals (repeat (first | k_unfold | dsimp only | dsimp +zetaDelta only))
  all_goals (unfold Mine.EndP; dsimp only)
  all_goals refine hret _ _ _ (Fr.keep (by assumption)) (Mine.fr_size (by assumption)) ?_
  all_goals refine Mine.rt2_end (by assumption) (by assumption) (by k_mem) ?_ ?_
  all_goals first
    | exact (Mine.sx_turn (by assumption) (by assumption)).1
    | exact (Mine.sx_turn (by assumption) (by assumption)).2
    | exact (Mine.sx_done hf (by assumption) (by assumption) (by assumption)).1
    | exact (Mine.sx_done hf (by assumption) (by assumption) (by assumption)).2
    | exact (Mine.sx_none (by assumption)).1
    | exact (Mine.sx_none (by assumption)).2
end
section
theorem Mine.c_splitext (w : World) (b : Array UInt8) (t : Tok) (hb : Mine.Small b) (hf : Mine.FirstOk b) :
    Mine.Told w 143 [.bytes b t] 6 (fun _ => True) (Mine.RT2 (Mine.frontB b) (Mine.endB b)) := by
  unfold Mine.Told
  k_with_none
  (k_with "call type:type" => ((k_here; (with_reducible show wpAny _ _ (call (Value.type "type") [Value.bytes _ _]) _ _ _); refine Mine.type_bytes ?_)))
  (k_with "call builtin:issubclass" => ((k_here; k_dflt (refine' Mine.issub_bytes ?zqk1 ?_; (case zqk1 => exact News.isTup (by k_asm) (by k_mem)); k_whole))))
  (k_with "getMethod bytes" => ((k_here; (with_reducible first | refine Mine.method_rfind ?_ | refine Mine.method_rstrip ?_ | refine Mine.method_starts ?_ | refine Mine.method_ends ?_))))
  (k_with "call builtin:bytes.rfind" => ((k_here; refine Mine.call_rfind ?_)))
  (k_with "call builtin:bytes.startswith" => ((k_here; refine Mine.call_starts ?_)))
  (k_with "call builtin:bytes.endswith" => ((k_here; refine Mine.call_ends ?_)))
  (k_with "call builtin:bytes.rstrip" => ((k_here; refine Mine.call_rstrip (by k_extra "kaf") ?_; intro zzt8 zzk8)))
  (k_with "subscriptTail" => ((k_here; (with_reducible show wpAny _ _ (subscriptTail _ (Expr.Slice _ _ none _) (Value.bytes _ _) (Value.ref _)) _ _ _); (with_reducible rename Fr _ _ _ _ => zzFq); (with_reducible rename News _ _ _ _ => zzNq); (refine Mine.slice_B (s := ⟨_, _, _, _, _⟩) zzFq zzNq (by constructor) (by constructor) (by k_extra "kaf") ?_); intro _ _ _ _ _; (try k_sweep))))
  (k_with "truthy bytes" => ((k_here; (refine Mine.truthy_B (by k_extra "kaf") ?_); intro _)))
  (k_with "call builtin:len" => ((k_here; (with_reducible show wpAny _ _ (call (Value.builtin "len") [Value.bytes _ _]) _ _ _); (refine Mine.len_B (by k_extra "kaf") ?_); intro _ _)))
  (k_with "binaryOp Mult bytes int" => ((k_here; (refine Mine.mul_B (by k_extra "kaf") ?_); intro _ _)))
  (k_with "exec While Name" => ((k_here; refine whl_start 5 ?_)))
  (k_with "WhlIf" => ((first | (refine WhlIf.yes (by with_unfolding_all rfl) ?_) | (refine WhlIf.no (by with_unfolding_all rfl) ?_) | (refine Mine.whl_split ?_ ?_ <;> intro zzhw8 <;> (first | done | (exfalso; (try simp only [bne_iff_ne, ne_eq, bne_eq_false_iff_eq, decide_eq_true_eq, decide_eq_false_iff_not] at *); omega) | skip)))))
  (k_with "binaryOp Add bytes bytes" => ((k_here; (refine Mine.add_B (by k_extra "kaf") ?_); intro _ _)))
  (k_with "kaf" => (first | (with_reducible assumption) | ((with_reducible refine Mine.sz_cut ?_); k_extra "kaf") | ((with_reducible refine Mine.small_rstrip ?_); k_extra "kaf") | ((with_reducible refine Mine.sz_app ?_ ?_) <;> k_extra "kaf") | exact Nat.le_of_ble_eq_true rfl | exact Nat.le_trans (by with_reducible assumption) (by decide) | assumption | ((try simp only [Mine.Small, Array.size_append, List.size_toArray, List.length_cons, List.length_nil] at *); omega)))
  (k_with "inplaceOp Add bytes bytes" => ((k_here; (refine Mine.iadd_B (by k_extra "kaf") ?_); intro _ _)))
  (k_with "WhlIf" => ((refine WhlIf.no (Mine.ap_three (by assumption) (by assumption)) ?_)))
  (k_with "call ref" => ((k_here; (with_reducible show wpAny _ _ (call (Value.ref 101) [Value.bytes _ _]) _ _ _); k_dflt (refine' Mine.useV (Mine.c_fspath _ _ _) ?zqk1 ?zqk2 ?zqk3 ?zqk4 ?zqk5 ?zqk6 ?zqk7 ?zqk8 ?zqk9 ?_; ((case zqk1 => k_asm); (case zqk2 => k_asm); (case zqk3 => k_asm); (case zqk4 => k_asm); (case zqk5 => k_asm); (case zqk6 => first | exact rfl | assumption); (case zqk7 => first | exact True.intro | assumption); (case zqk8 => ktr_room); (case zqk9 => ktr_units))); intro zzh8 zztk8 zzF8 zzN8; (try k_sweep); (try k_fold))))
  (k_with "call ref" => ((k_here; (with_reducible show wpAny _ _ (call (Value.ref 122) [Value.bytes _ _]) _ _ _); k_dflt (refine' Mine.useB (Mine.c_getsep _ _ _) ?zqk1 ?zqk2 ?zqk3 ?zqk4 ?zqk5 ?zqk6 ?zqk7 ?zqk8 ?zqk9 ?_; ((case zqk1 => k_asm); (case zqk2 => k_asm); (case zqk3 => k_asm); (case zqk4 => k_asm); (case zqk5 => k_asm); (case zqk6 => first | exact rfl | assumption); (case zqk7 => first | exact True.intro | assumption); (case zqk8 => ktr_room); (case zqk9 => ktr_units))); intro zzt8 zzh8 zztk8 zzF8 zzN8; (try k_sweep); (try k_fold))))
  (k_with "call ref" => ((k_here; (with_reducible show wpAny _ _ (call (Value.ref 108) [Value.bytes _ _, Value.bytes _ _, Value.none, Value.bytes _ _]) _ _ _); k_dflt (refine' Mine.useT2 (Mine.c_splitext0 _ _ _ _ _ (by k_extra "kaf") (by assumption)) ?zqk1 ?zqk2 ?zqk3 ?zqk4 ?zqk5 ?zqk6 ?zqk7 ?zqk8 ?zqk9 ?_; ((case zqk1 => k_asm); (case zqk2 => k_asm); (case zqk3 => k_asm); (case zqk4 => k_asm); (case zqk5 => k_asm); (case zqk6 => first | exact rfl | assumption); (case zqk7 => first | exact True.intro | assumption); (case zqk8 => ktr_room); (case zqk9 => ktr_units))); intro zzD8 zzt8 zzt9 zzc8 zzh8 zztk8 zzF8 zzN8 zzl8; (try simp only [Mine.AllNe, and_true] at zzl8); (try k_sweep); (try k_fold))))
  w_top off
  k_fill
  intro p loose mean mg mb dp un gd cn cs a ccd cl outer A₀ base h₀ L m s Q E B F X T hk hpre hdp hun hret
  refine wpAny_call ?_
  k_dflt ((refine' Mine.code_defP ?zqk1 ?zqk2 ?zqk3 ?zqk5 ?zqkA ?zqkF ?zqkK ?zqk6 ?zqk7 ?zqk8 ?zqk9 ?zqkB ?_ ?zqc2 ?zqc3 ?zqc4 ?zqc5; (case zqkA => exact rfl); (case zqkF => exact rfl); (case zqkK => assumption); (case zqk1 => k_asm); (case zqk2 => k_asm); (case zqk3 => k_asm); (case zqk5 => k_asm); (case zqk6 => k_is); (case zqk7 => k_is); (case zqk8 => ktr_room); (case zqk9 => exact BindsTo.of_eq rfl); (case zqc5 => decide); (case zqkB => exact locs rfl); (case zqc2 => exact rfl); (case zqc3 => exact rfl); (case zqc4 => exact rfl); k_whole))
  intro g' L' h' hg' F' N' B' X' T'
  clear B F X T
  (try rw [← hg'] at hpre)
  rw [← hg'] at hret
  (try dsimp only at hret)
  (try dsimp only at hpre)
  (try dsimp only)
  k_fold
  (repeat' (first | (k_unfold; (try dsimp only)) | (k_end; kc_close) | (dsimp only; walk1) | walk1 | (leave1; try dsimp only)))
  all_goals (repeat (first | k_unfold | dsimp only | dsimp +zetaDelta only))
  all_goals (unfold Mine.EndP; dsimp only)
  all_goals refine hret _ _ _ (Fr.keep (by assumption)) (Mine.fr_size (by assumption)) ?_
  all_goals refine Mine.rt2_end (by assumption) (by assumption) (by k_mem) rfl rfl
end
section
namespace Mine
noncomputable def joinB (a b : Array UInt8) : Array UInt8 := if 0 < a.size then a ++ (#[47] ++ b) else b
end Mine
theorem Mine.c_join (w : World) (a₁ b₁ : Array UInt8) (t t1 : Tok) (hs : a₁.size ≤ 100) (hs' : b₁.size ≤ 100) (h1 : Mine.startsB b₁ #[47] = false) (h2 : Mine.endsB a₁ #[47] = false) :
    Mine.Told w 129 [.bytes a₁ t, .bytes b₁ t1] 6 (fun _ => True) (Mine.RB (Mine.joinB a₁ b₁)) := by
  unfold Mine.Told
  k_with_none
  (k_with "call type:type" => ((k_here; (with_reducible show wpAny _ _ (call (Value.type "type") [Value.bytes _ _]) _ _ _); refine Mine.type_bytes ?_)))
  (k_with "call builtin:issubclass" => ((k_here; k_dflt (refine' Mine.issub_bytes ?zqk1 ?_; (case zqk1 => exact News.isTup (by k_asm) (by k_mem)); k_whole))))
  (k_with "getMethod bytes" => ((k_here; (with_reducible first | refine Mine.method_rfind ?_ | refine Mine.method_rstrip ?_ | refine Mine.method_starts ?_ | refine Mine.method_ends ?_))))
  (k_with "call builtin:bytes.rfind" => ((k_here; refine Mine.call_rfind ?_)))
  (k_with "call builtin:bytes.startswith" => ((k_here; refine Mine.call_starts ?_)))
  (k_with "call builtin:bytes.endswith" => ((k_here; refine Mine.call_ends ?_)))
  (k_with "call builtin:bytes.rstrip" => ((k_here; refine Mine.call_rstrip (by k_extra "kaf") ?_; intro zzt8 zzk8)))
  (k_with "subscriptTail" => ((k_here; (with_reducible show wpAny _ _ (subscriptTail _ (Expr.Slice _ _ none _) (Value.bytes _ _) (Value.ref _)) _ _ _); (with_reducible rename Fr _ _ _ _ => zzFq); (with_reducible rename News _ _ _ _ => zzNq); (refine Mine.slice_B (s := ⟨_, _, _, _, _⟩) zzFq zzNq (by constructor) (by constructor) (by k_extra "kaf") ?_); intro _ _ _ _ _; (try k_sweep))))
  (k_with "truthy bytes" => ((k_here; (refine Mine.truthy_B (by k_extra "kaf") ?_); intro _)))
  (k_with "call builtin:len" => ((k_here; (with_reducible show wpAny _ _ (call (Value.builtin "len") [Value.bytes _ _]) _ _ _); (refine Mine.len_B (by k_extra "kaf") ?_); intro _ _)))
  (k_with "binaryOp Mult bytes int" => ((k_here; (refine Mine.mul_B (by k_extra "kaf") ?_); intro _ _)))
  (k_with "exec While Name" => ((k_here; refine whl_start 5 ?_)))
  (k_with "WhlIf" => ((first | (refine WhlIf.yes (by with_unfolding_all rfl) ?_) | (refine WhlIf.no (by with_unfolding_all rfl) ?_) | (refine Mine.whl_split ?_ ?_ <;> intro zzhw8 <;> (first | done | (exfalso; (try simp only [bne_iff_ne, ne_eq, bne_eq_false_iff_eq, decide_eq_true_eq, decide_eq_false_iff_not] at *); omega) | skip)))))
  (k_with "binaryOp Add bytes bytes" => ((k_here; (refine Mine.add_B (by k_extra "kaf") ?_); intro _ _)))
  (k_with "kaf" => (first | (with_reducible assumption) | ((with_reducible refine Mine.sz_cut ?_); k_extra "kaf") | ((with_reducible refine Mine.small_rstrip ?_); k_extra "kaf") | ((with_reducible refine Mine.sz_app ?_ ?_) <;> k_extra "kaf") | exact Nat.le_of_ble_eq_true rfl | exact Nat.le_trans (by with_reducible assumption) (by decide) | assumption | ((try simp only [Mine.Small, Array.size_append, List.size_toArray, List.length_cons, List.length_nil] at *); omega)))
  (k_with "inplaceOp Add bytes bytes" => ((k_here; (refine Mine.iadd_B (by k_extra "kaf") ?_); intro _ _)))
  (k_with "WhlIf" => ((refine WhlIf.no (Mine.ap_three (by assumption) (by assumption)) ?_)))
  (k_with "call ref" => ((k_here; (with_reducible show wpAny _ _ (call (Value.ref 101) [Value.bytes _ _]) _ _ _); k_dflt (refine' Mine.useV (Mine.c_fspath _ _ _) ?zqk1 ?zqk2 ?zqk3 ?zqk4 ?zqk5 ?zqk6 ?zqk7 ?zqk8 ?zqk9 ?_; ((case zqk1 => k_asm); (case zqk2 => k_asm); (case zqk3 => k_asm); (case zqk4 => k_asm); (case zqk5 => k_asm); (case zqk6 => first | exact rfl | assumption); (case zqk7 => first | exact True.intro | assumption); (case zqk8 => ktr_room); (case zqk9 => ktr_units))); intro zzh8 zztk8 zzF8 zzN8; (try k_sweep); (try k_fold))))
  (k_with "call ref" => ((k_here; (with_reducible show wpAny _ _ (call (Value.ref 122) [Value.bytes _ _]) _ _ _); k_dflt (refine' Mine.useB (Mine.c_getsep _ _ _) ?zqk1 ?zqk2 ?zqk3 ?zqk4 ?zqk5 ?zqk6 ?zqk7 ?zqk8 ?zqk9 ?_; ((case zqk1 => k_asm); (case zqk2 => k_asm); (case zqk3 => k_asm); (case zqk4 => k_asm); (case zqk5 => k_asm); (case zqk6 => first | exact rfl | assumption); (case zqk7 => first | exact True.intro | assumption); (case zqk8 => ktr_room); (case zqk9 => ktr_units))); intro zzt8 zzh8 zztk8 zzF8 zzN8; (try k_sweep); (try k_fold))))
  w_top off
  k_fill
  intro p loose mean mg mb dp un gd cn cs a ccd cl outer A₀ base h₀ L m s Q E B F X T hk hpre hdp hun hret
  refine wpAny_call ?_
  k_dflt ((refine' Mine.code_defPS ?zqk1 ?zqk2 ?zqk3 ?zqk5 ?zqkA ?zqkF ?zqkK ?zqk6 ?zqk7 ?zqk8 ?zqk9 ?zqkz ?zqkB ?_ ?zqc2 ?zqc3 ?zqc4 ?zqc5; (case zqkA => exact rfl); (case zqkF => exact rfl); (case zqkK => assumption); (case zqk1 => k_asm); (case zqk2 => k_asm); (case zqk3 => k_asm); (case zqk5 => k_asm); (case zqk6 => k_is); (case zqk7 => k_is); (case zqk8 => ktr_room); (case zqk9 => with_unfolding_all exact rfl); (case zqkz => exact Nat.le_of_ble_eq_true rfl); (case zqc5 => decide); (case zqkB => exact fun _ => locs rfl); (case zqc2 => exact rfl); (case zqc3 => exact rfl); (case zqc4 => exact rfl); k_whole))
  intro g' L' h' D' hg' F' N' B' X' T'
  clear B F X T
  (try rw [← hg'] at hpre)
  rw [← hg'] at hret
  (try dsimp only at hret)
  (try dsimp only at hpre)
  (try dsimp only)
  k_fold
  (repeat' (first | (k_unfold; (try dsimp only)) | (k_end; kc_close) | (dsimp only; walk1) | walk1 | (leave1; try dsimp only)))

  all_goals (repeat (first | k_unfold | dsimp only | dsimp +zetaDelta only))
  all_goals (unfold Mine.EndP; dsimp only)
  all_goals refine hret _ _ _ (Fr.keep (by assumption)) (Mine.fr_size (by assumption)) (Mine.rb_end ?_)
  all_goals unfold Mine.joinB
  all_goals (repeat (first | rw [if_pos (by with_reducible assumption)] | rw [if_neg (by with_reducible assumption)] | rw [if_neg (ne_true_of_eq_false (by with_reducible assumption))] | rw [if_neg (not_not_intro (by with_reducible assumption))]))
  all_goals rfl
end
end
section
namespace Mine
open PySem.Spec PySem.Calls
theorem dig_size {n : Int} : (wordB n).size ≤ 3 := by
  unfold wordB; (repeat' split) <;> exact Nat.le_of_ble_eq_true rfl
theorem sz_word {k : Nat} {n : Int} (h : 3 ≤ k) : (wordB n).size ≤ k := Nat.le_trans dig_size h
theorem sz_frontB {k : Nat} {b : Array UInt8} (h : b.size ≤ k) : (frontB b).size ≤ k := by unfold frontB; split; exact sz_cut h; exact h
theorem sz_endB {k : Nat} {b : Array UInt8} (h : b.size ≤ k) : (endB b).size ≤ k := by unfold endB; split <;> exact sz_cut h
theorem sz_baseB {k : Nat} {b : Array UInt8} (h : b.size ≤ k) : (baseB b).size ≤ k := sz_cut h
theorem sz_rstrip {k : Nat} {b c : Array UInt8} (h : b.size ≤ k) : (rstripB b c).size ≤ k := by
  unfold rstripB
  rw [List.size_toArray, List.length_reverse]
  refine Nat.le_trans (List.dropWhile_sublist _).length_le ?_
  rw [List.length_reverse, Array.length_toList]
  exact h
theorem sz_dirB {k : Nat} {b : Array UInt8} (h : b.size ≤ k) : (dirB b).size ≤ k := by
  unfold dirB headB
  split
  · split
    · exact sz_rstrip (sz_cut h)
    · exact sz_cut h
  · exact sz_cut h
/- A new tuple of ints. -/
noncomputable def RTup (ns : List Int) : Heap → Heap → Value → Prop := fun h h' v => ∃ D vs c, v = .ref D ∧ h.get? D = none ∧ h'.get? D = some (tupObj vs c) ∧ IntsAre vs ns
theorem rtup_end {g h : Heap} {L D : Addr} {news : List (Addr × Obj)} {vs : List Value} {ns ns' : List Int} {c : Nat} (N : News g L h news) (hm : (D, tupObj vs c) ∈ news) (hi : IntsAre vs ns) (e : ns = ns') : RTup ns' g h (.ref D) := by
  subst e
  exact ⟨D, vs, c, rfl, (N _ hm).2.2, (N _ hm).1, hi⟩
noncomputable def rankL (f s e : Int) : List Int := if s = 0 then [f, 1 + ((wordB e).size : Int), 0, e, -1] else [f, ((wordB s).size : Int), 1, s, e]
end Mine
namespace Mine
noncomputable def cmp1 (x y : Array UInt8) (rest : Int) : Int :=
  if (x.size : Int) ≠ y.size then 11 * ((x.size : Int) - y.size) else if (x.toList != y.toList) = true then if (Builtin.Bytes.order x.toList y.toList == .gt) = true then 11 else -11 else rest
noncomputable def cmpZ (b c : Array UInt8) : Int := cmp1 (dirB b) (dirB c) (cmp1 (frontB (baseB b)) (frontB (baseB c)) (cmp1 (endB b) (endB c) 0))
section
variable {x y : Array UInt8} {r : Int}
theorem cmp1_len (h : (x.size : Int) ≠ y.size) : cmp1 x y r = 11 * ((x.size : Int) - y.size) := if_pos h
theorem cmp1_eq (h : (x.size : Int) = y.size) (h2 : (x.toList != y.toList) = false) : cmp1 x y r = r := (if_neg (not_not_intro h)).trans (if_neg (ne_true_of_eq_false h2))
theorem cmp1_gt (h : (x.size : Int) = y.size) (h2 : (x.toList != y.toList) = true) (h3 : (Builtin.Bytes.order x.toList y.toList == .gt) = true) : cmp1 x y r = 11 := (if_neg (not_not_intro h)).trans ((if_pos h2).trans (if_pos h3))
theorem cmp1_lt (h : (x.size : Int) = y.size) (h2 : (x.toList != y.toList) = true) (h3 : (Builtin.Bytes.order x.toList y.toList == .gt) = false) : cmp1 x y r = -11 := (if_neg (not_not_intro h)).trans ((if_pos h2).trans (if_neg (ne_true_of_eq_false h3)))
end
end Mine
namespace Mine
open PySem.Spec PySem.Calls
/- A list of eight ways in the heap. -/
noncomputable def waysL (W : Nat → Array UInt8) (T : Nat → Tok) : List Value := (List.range 8).map fun i => .bytes (W i) (T i)
theorem waysL_get {W : Nat → Array UInt8} {T : Nat → Tok} {k : Nat} (h : k < 8) : (waysL W T)[k]? = some (.bytes (W k) (T k)) := by
  unfold waysL
  rw [List.getElem?_map, List.getElem?_range h]; rfl
theorem item_way {prog : Program} {w : World} {A : Around} {E : Value → Shared → Prop} {s : Shared} {value slice : PySem.Expr} {g : Heap} {L l : Addr} {m : Str → Option Value} {W : Nat → Array UInt8} {T : Nat → Tok} {k : Int} {u : Tok} {Q : Value → Shared → Prop}
    (F : Fr g L s.heap m) (hl : g.IsList l (waysL W T).toArray) (h0 : 0 ≤ k) (h8 : k < 8) (h : Q (.bytes (W k.toNat) (T k.toNat)) s)
    (hs : subscripted slice false (.ref l) (.int k u) = operate [.ref l, .int k u] (getItem (.ref l) (.int k u)) := by with_unfolding_all rfl) :
    wpAny (model prog w) A (subscriptTail value slice (.ref l) (.int k u)) Q E s := by
  have hL : s.heap.IsList l (waysL W T).toArray := by obtain ⟨o, ho, r⟩ := hl; exact ⟨o, F.keep _ _ ho, r⟩
  refine tail_any hL.typeIs slot_list_getitem.lookup (wpAny_getItem_list hL h0 (by lia) ?_ h) hs
  have := waysL_get (W := W) (T := T) (k := k.toNat) (by lia)
  simpa using this
end Mine
end
section
section
theorem Mine.c_rank (w : World) (f s₀ e : Int) (t1 t2 t3 : Tok) : Mine.Told w 228 [.int f t1, .int s₀ t2, .int e t3] 10 (fun _ => True) (Mine.RTup (Mine.rankL f s₀ e)) := by
  unfold Mine.Told
  k_with_none
  (k_with "call type:type" => ((k_here; (with_reducible show wpAny _ _ (call (Value.type "type") [Value.bytes _ _]) _ _ _); refine Mine.type_bytes ?_)))
  (k_with "call builtin:issubclass" => ((k_here; k_dflt (refine' Mine.issub_bytes ?zqk1 ?_; (case zqk1 => exact News.isTup (by k_asm) (by k_mem)); k_whole))))
  (k_with "getMethod bytes" => ((k_here; (with_reducible first | refine Mine.method_rfind ?_ | refine Mine.method_rstrip ?_ | refine Mine.method_starts ?_ | refine Mine.method_ends ?_))))
  (k_with "call builtin:bytes.rfind" => ((k_here; refine Mine.call_rfind ?_)))
  (k_with "call builtin:bytes.startswith" => ((k_here; refine Mine.call_starts ?_)))
  (k_with "call builtin:bytes.endswith" => ((k_here; refine Mine.call_ends ?_)))
  (k_with "call builtin:bytes.rstrip" => ((k_here; refine Mine.call_rstrip (by k_extra "kaf") ?_; intro zzt8 zzk8)))
  (k_with "subscriptTail" => ((k_here; (with_reducible show wpAny _ _ (subscriptTail _ (Expr.Slice _ _ none _) (Value.bytes _ _) (Value.ref _)) _ _ _); (with_reducible rename Fr _ _ _ _ => zzFq); (with_reducible rename News _ _ _ _ => zzNq); (refine Mine.slice_B (s := ⟨_, _, _, _, _⟩) zzFq zzNq (by constructor) (by constructor) (by k_extra "kaf") ?_); intro _ _ _ _ _; (try k_sweep))))
  (k_with "truthy bytes" => ((k_here; (refine Mine.truthy_B (by k_extra "kaf") ?_); intro _)))
  (k_with "call builtin:len" => ((k_here; (with_reducible show wpAny _ _ (call (Value.builtin "len") [Value.bytes _ _]) _ _ _); (refine Mine.len_B (by k_extra "kaf") ?_); intro _ _)))
  (k_with "binaryOp Mult bytes int" => ((k_here; (refine Mine.mul_B (by k_extra "kaf") ?_); intro _ _)))
  (k_with "exec While Name" => ((k_here; refine whl_start 5 ?_)))
  (k_with "WhlIf" => ((first | (refine WhlIf.yes (by with_unfolding_all rfl) ?_) | (refine WhlIf.no (by with_unfolding_all rfl) ?_) | (refine Mine.whl_split ?_ ?_ <;> intro zzhw8 <;> (first | done | (exfalso; (try simp only [bne_iff_ne, ne_eq, bne_eq_false_iff_eq, decide_eq_true_eq, decide_eq_false_iff_not] at *); omega) | skip)))))
  (k_with "binaryOp Add bytes bytes" => ((k_here; (refine Mine.add_B (by k_extra "kaf") ?_); intro _ _)))
  (k_with "kaf" => (first | (with_reducible assumption) | ((with_reducible refine Mine.sz_cut ?_); k_extra "kaf") | ((with_reducible refine Mine.small_rstrip ?_); k_extra "kaf") | ((with_reducible refine Mine.sz_app ?_ ?_) <;> k_extra "kaf") | exact Nat.le_of_ble_eq_true rfl | exact Nat.le_trans (by with_reducible assumption) (by decide) | assumption | ((try simp only [Mine.Small, Array.size_append, List.size_toArray, List.length_cons, List.length_nil] at *); omega)))
  (k_with "inplaceOp Add bytes bytes" => ((k_here; (refine Mine.iadd_B (by k_extra "kaf") ?_); intro _ _)))
  (k_with "WhlIf" => ((refine WhlIf.no (Mine.ap_three (by assumption) (by assumption)) ?_)))
  (k_with "kaf" => (first | (with_reducible assumption) | ((with_reducible refine Mine.sz_word ?_); exact Nat.le_of_ble_eq_true rfl) | ((with_reducible refine Mine.sz_frontB ?_); k_extra "kaf") | ((with_reducible refine Mine.sz_endB ?_); k_extra "kaf") | ((with_reducible refine Mine.sz_baseB ?_); k_extra "kaf") | ((with_reducible refine Mine.sz_dirB ?_); k_extra "kaf")))
  (k_with "compareOp Gt bytes bytes" => ((k_here; refine Mine.gt_bytes ?_)))
  (k_with "call ref" => ((k_here; (with_reducible show wpAny _ _ (call (Value.ref 101) [Value.bytes _ _]) _ _ _); k_dflt (refine' Mine.useV (Mine.c_fspath _ _ _) ?zqk1 ?zqk2 ?zqk3 ?zqk4 ?zqk5 ?zqk6 ?zqk7 ?zqk8 ?zqk9 ?_; ((case zqk1 => k_asm); (case zqk2 => k_asm); (case zqk3 => k_asm); (case zqk4 => k_asm); (case zqk5 => k_asm); (case zqk6 => first | exact rfl | assumption); (case zqk7 => first | exact True.intro | assumption); (case zqk8 => ktr_room); (case zqk9 => ktr_units))); intro zzh8 zztk8 zzF8 zzN8; (try k_sweep); (try k_fold))))
  (k_with "call ref" => ((k_here; (with_reducible show wpAny _ _ (call (Value.ref 122) [Value.bytes _ _]) _ _ _); k_dflt (refine' Mine.useB (Mine.c_getsep _ _ _) ?zqk1 ?zqk2 ?zqk3 ?zqk4 ?zqk5 ?zqk6 ?zqk7 ?zqk8 ?zqk9 ?_; ((case zqk1 => k_asm); (case zqk2 => k_asm); (case zqk3 => k_asm); (case zqk4 => k_asm); (case zqk5 => k_asm); (case zqk6 => first | exact rfl | assumption); (case zqk7 => first | exact True.intro | assumption); (case zqk8 => ktr_room); (case zqk9 => ktr_units))); intro zzt8 zzh8 zztk8 zzF8 zzN8; (try k_sweep); (try k_fold))))
  (k_with "call ref" => ((k_here; (with_reducible show wpAny _ _ (call (Value.ref 143) [Value.bytes _ _]) _ _ _); k_dflt (refine' Mine.useT2 (Mine.c_splitext _ _ _ (by k_extra "kaf") (by first | with_reducible assumption | assumption)) ?zqk1 ?zqk2 ?zqk3 ?zqk4 ?zqk5 ?zqk6 ?zqk7 ?zqk8 ?zqk9 ?_; ((case zqk1 => k_asm); (case zqk2 => k_asm); (case zqk3 => k_asm); (case zqk4 => k_asm); (case zqk5 => k_asm); (case zqk6 => first | exact rfl | assumption); (case zqk7 => first | exact True.intro | assumption); (case zqk8 => ktr_room); (case zqk9 => ktr_units))); intro zzD8 zzt8 zzt9 zzc8 zzh8 zztk8 zzF8 zzN8 zzl8; (try simp only [Mine.AllNe, and_true] at zzl8); (try k_sweep); (try k_fold))))
  (k_with "call ref" => ((k_here; (with_reducible show wpAny _ _ (call (Value.ref 136) [Value.bytes _ _]) _ _ _); k_dflt (refine' Mine.useT2 (Mine.c_split _ _ _ (by k_extra "kaf")) ?zqk1 ?zqk2 ?zqk3 ?zqk4 ?zqk5 ?zqk6 ?zqk7 ?zqk8 ?zqk9 ?_; ((case zqk1 => k_asm); (case zqk2 => k_asm); (case zqk3 => k_asm); (case zqk4 => k_asm); (case zqk5 => k_asm); (case zqk6 => first | exact rfl | assumption); (case zqk7 => first | exact True.intro | assumption); (case zqk8 => ktr_room); (case zqk9 => ktr_units))); intro zzD8 zzt8 zzt9 zzc8 zzh8 zztk8 zzF8 zzN8 zzl8; (try simp only [Mine.AllNe, and_true] at zzl8); (try k_sweep); (try k_fold))))
  (k_with "call ref" => ((k_here; (with_reducible show wpAny _ _ (call (Value.ref 160) [Value.bytes _ _]) _ _ _); k_dflt (refine' Mine.useB (Mine.c_dirname _ _ _ (by k_extra "kaf")) ?zqk1 ?zqk2 ?zqk3 ?zqk4 ?zqk5 ?zqk6 ?zqk7 ?zqk8 ?zqk9 ?_; ((case zqk1 => k_asm); (case zqk2 => k_asm); (case zqk3 => k_asm); (case zqk4 => k_asm); (case zqk5 => k_asm); (case zqk6 => first | exact rfl | assumption); (case zqk7 => first | exact True.intro | assumption); (case zqk8 => ktr_room); (case zqk9 => ktr_units))); intro zzt8 zzh8 zztk8 zzF8 zzN8; (try k_sweep); (try k_fold))))
  (k_with "call ref" => ((k_here; (with_reducible show wpAny _ _ (call (Value.ref 153) [Value.bytes _ _]) _ _ _); k_dflt (refine' Mine.useB (Mine.c_basename _ _ _ (by k_extra "kaf")) ?zqk1 ?zqk2 ?zqk3 ?zqk4 ?zqk5 ?zqk6 ?zqk7 ?zqk8 ?zqk9 ?_; ((case zqk1 => k_asm); (case zqk2 => k_asm); (case zqk3 => k_asm); (case zqk4 => k_asm); (case zqk5 => k_asm); (case zqk6 => first | exact rfl | assumption); (case zqk7 => first | exact True.intro | assumption); (case zqk8 => ktr_room); (case zqk9 => ktr_units))); intro zzt8 zzh8 zztk8 zzF8 zzN8; (try k_sweep); (try k_fold))))
  (k_with "call ref" => ((k_here; (with_reducible show wpAny _ _ (call (Value.ref 193) [Value.int _ _]) _ _ _); k_dflt (refine' Mine.useB (Mine.c_word _ _ _) ?zqk1 ?zqk2 ?zqk3 ?zqk4 ?zqk5 ?zqk6 ?zqk7 ?zqk8 ?zqk9 ?_; ((case zqk1 => k_asm); (case zqk2 => k_asm); (case zqk3 => k_asm); (case zqk4 => k_asm); (case zqk5 => k_asm); (case zqk6 => first | exact rfl | assumption); (case zqk7 => first | exact True.intro | assumption); (case zqk8 => ktr_room); (case zqk9 => ktr_units))); intro zzt8 zzh8 zztk8 zzF8 zzN8; (try k_sweep); (try k_fold))))
  (k_with "call ref" => ((k_here; (with_reducible show wpAny _ _ (call (Value.ref 183) [Value.int _ _]) _ _ _); k_dflt (refine' Mine.useB (Mine.c_int2ap _ _ _ (by omega) (by omega)) ?zqk1 ?zqk2 ?zqk3 ?zqk4 ?zqk5 ?zqk6 ?zqk7 ?zqk8 ?zqk9 ?_; ((case zqk1 => k_asm); (case zqk2 => k_asm); (case zqk3 => k_asm); (case zqk4 => k_asm); (case zqk5 => k_asm); (case zqk6 => first | exact rfl | assumption); (case zqk7 => first | exact True.intro | assumption); (case zqk8 => ktr_room); (case zqk9 => ktr_units))); intro zzt8 zzh8 zztk8 zzF8 zzN8; (try k_sweep); (try k_fold))))
  (k_with "call ref" => ((k_here; (with_reducible show wpAny _ _ (call (Value.ref 143) [Value.bytes _ _]) _ _ _); k_dflt (refine' Mine.useT2 (Mine.c_splitext _ _ _ (by first | k_extra "kaf" | solve_by_elim) (by first | with_reducible assumption | assumption | solve_by_elim)) ?zqk1 ?zqk2 ?zqk3 ?zqk4 ?zqk5 ?zqk6 ?zqk7 ?zqk8 ?zqk9 ?_; ((case zqk1 => k_asm); (case zqk2 => k_asm); (case zqk3 => k_asm); (case zqk4 => k_asm); (case zqk5 => k_asm); (case zqk6 => first | exact rfl | assumption); (case zqk7 => first | exact True.intro | assumption); (case zqk8 => ktr_room); (case zqk9 => ktr_units))); intro zzD8 zzt8 zzt9 zzc8 zzh8 zztk8 zzF8 zzN8 zzl8; (try simp only [Mine.AllNe, and_true] at zzl8); (try k_sweep); (try k_fold))))
  w_top off
  k_fill
  intro p loose mean mg mb dp un gd cn cs a ccd cl outer A₀ base h₀ L m s Q E B F X T hk hpre hdp hun hret
  refine wpAny_call ?_
  k_dflt ((refine' Mine.code_defP ?zqk1 ?zqk2 ?zqk3 ?zqk5 ?zqkA ?zqkF ?zqkK ?zqk6 ?zqk7 ?zqk8 ?zqk9 ?zqkB ?_ ?zqc2 ?zqc3 ?zqc4 ?zqc5; (case zqkA => exact rfl); (case zqkF => exact rfl); (case zqkK => assumption); (case zqk1 => k_asm); (case zqk2 => k_asm); (case zqk3 => k_asm); (case zqk5 => k_asm); (case zqk6 => k_is); (case zqk7 => k_is); (case zqk8 => ktr_room); (case zqk9 => exact BindsTo.of_eq rfl); (case zqc5 => decide); (case zqkB => exact locs rfl); (case zqc2 => exact rfl); (case zqc3 => exact rfl); (case zqc4 => exact rfl); k_whole))
  intro g' L' h' hg' F' N' B' X' T'
  clear B F X T
  (try rw [← hg'] at hpre)
  rw [← hg'] at hret
  (try dsimp only at hret)
  (try dsimp only at hpre)
  (try dsimp only)
  k_fold
  (repeat' (first | (k_unfold; (try dsimp only)) | (k_end; kc_close) | (dsimp only; walk1) | walk1 | (leave1; try dsimp only)))
  all_goals (repeat (first | k_unfold | dsimp only | dsimp +zetaDelta only))
  all_goals (unfold Mine.EndP; dsimp only)
  all_goals refine hret _ _ _ (Fr.keep (by assumption)) (Mine.fr_size (by assumption)) ?_
  all_goals refine Mine.rtup_end (by assumption) (by k_mem) (by repeat constructor) ?_
  all_goals unfold Mine.rankL
  all_goals (repeat (first | rw [if_pos (by with_reducible assumption)] | rw [if_neg (by with_reducible assumption)] | rw [if_neg (ne_true_of_eq_false (by with_reducible assumption))] | rw [if_neg (not_not_intro (by with_reducible assumption))]))
  all_goals rfl
end
section
theorem Mine.c_compared (w : World) (b c : Array UInt8) (t1 t2 : Tok) (hb : Mine.Small b) (hc : Mine.Small c) (h1 : Mine.FirstOk b) (h2 : Mine.FirstOk c) (h3 : Mine.FirstOk (Mine.baseB b)) (h4 : Mine.FirstOk (Mine.baseB c)) :
    Mine.Told w 214 [.bytes b t1, .bytes c t2] 12 (fun _ => True) (Mine.RI (Mine.cmpZ b c)) := by
  unfold Mine.Told
  k_with_none
  (k_with "call type:type" => ((k_here; (with_reducible show wpAny _ _ (call (Value.type "type") [Value.bytes _ _]) _ _ _); refine Mine.type_bytes ?_)))
  (k_with "call builtin:issubclass" => ((k_here; k_dflt (refine' Mine.issub_bytes ?zqk1 ?_; (case zqk1 => exact News.isTup (by k_asm) (by k_mem)); k_whole))))
  (k_with "getMethod bytes" => ((k_here; (with_reducible first | refine Mine.method_rfind ?_ | refine Mine.method_rstrip ?_ | refine Mine.method_starts ?_ | refine Mine.method_ends ?_))))
  (k_with "call builtin:bytes.rfind" => ((k_here; refine Mine.call_rfind ?_)))
  (k_with "call builtin:bytes.startswith" => ((k_here; refine Mine.call_starts ?_)))
  (k_with "call builtin:bytes.endswith" => ((k_here; refine Mine.call_ends ?_)))
  (k_with "call builtin:bytes.rstrip" => ((k_here; refine Mine.call_rstrip (by k_extra "kaf") ?_; intro zzt8 zzk8)))
  (k_with "subscriptTail" => ((k_here; (with_reducible show wpAny _ _ (subscriptTail _ (Expr.Slice _ _ none _) (Value.bytes _ _) (Value.ref _)) _ _ _); (with_reducible rename Fr _ _ _ _ => zzFq); (with_reducible rename News _ _ _ _ => zzNq); (refine Mine.slice_B (s := ⟨_, _, _, _, _⟩) zzFq zzNq (by constructor) (by constructor) (by k_extra "kaf") ?_); intro _ _ _ _ _; (try k_sweep))))
  (k_with "truthy bytes" => ((k_here; (refine Mine.truthy_B (by k_extra "kaf") ?_); intro _)))
  (k_with "call builtin:len" => ((k_here; (with_reducible show wpAny _ _ (call (Value.builtin "len") [Value.bytes _ _]) _ _ _); (refine Mine.len_B (by k_extra "kaf") ?_); intro _ _)))
  (k_with "binaryOp Mult bytes int" => ((k_here; (refine Mine.mul_B (by k_extra "kaf") ?_); intro _ _)))
  (k_with "exec While Name" => ((k_here; refine whl_start 5 ?_)))
  (k_with "WhlIf" => ((first | (refine WhlIf.yes (by with_unfolding_all rfl) ?_) | (refine WhlIf.no (by with_unfolding_all rfl) ?_) | (refine Mine.whl_split ?_ ?_ <;> intro zzhw8 <;> (first | done | (exfalso; (try simp only [bne_iff_ne, ne_eq, bne_eq_false_iff_eq, decide_eq_true_eq, decide_eq_false_iff_not] at *); omega) | skip)))))
  (k_with "binaryOp Add bytes bytes" => ((k_here; (refine Mine.add_B (by k_extra "kaf") ?_); intro _ _)))
  (k_with "kaf" => (first | (with_reducible assumption) | ((with_reducible refine Mine.sz_cut ?_); k_extra "kaf") | ((with_reducible refine Mine.small_rstrip ?_); k_extra "kaf") | ((with_reducible refine Mine.sz_app ?_ ?_) <;> k_extra "kaf") | exact Nat.le_of_ble_eq_true rfl | exact Nat.le_trans (by with_reducible assumption) (by decide) | assumption | ((try simp only [Mine.Small, Array.size_append, List.size_toArray, List.length_cons, List.length_nil] at *); omega)))
  (k_with "inplaceOp Add bytes bytes" => ((k_here; (refine Mine.iadd_B (by k_extra "kaf") ?_); intro _ _)))
  (k_with "WhlIf" => ((refine WhlIf.no (Mine.ap_three (by assumption) (by assumption)) ?_)))
  (k_with "kaf" => (first | (with_reducible assumption) | ((with_reducible refine Mine.sz_word ?_); exact Nat.le_of_ble_eq_true rfl) | ((with_reducible refine Mine.sz_frontB ?_); k_extra "kaf") | ((with_reducible refine Mine.sz_endB ?_); k_extra "kaf") | ((with_reducible refine Mine.sz_baseB ?_); k_extra "kaf") | ((with_reducible refine Mine.sz_dirB ?_); k_extra "kaf")))
  (k_with "compareOp Gt bytes bytes" => ((k_here; refine Mine.gt_bytes ?_)))
  (k_with "call ref" => ((k_here; (with_reducible show wpAny _ _ (call (Value.ref 101) [Value.bytes _ _]) _ _ _); k_dflt (refine' Mine.useV (Mine.c_fspath _ _ _) ?zqk1 ?zqk2 ?zqk3 ?zqk4 ?zqk5 ?zqk6 ?zqk7 ?zqk8 ?zqk9 ?_; ((case zqk1 => k_asm); (case zqk2 => k_asm); (case zqk3 => k_asm); (case zqk4 => k_asm); (case zqk5 => k_asm); (case zqk6 => first | exact rfl | assumption); (case zqk7 => first | exact True.intro | assumption); (case zqk8 => ktr_room); (case zqk9 => ktr_units))); intro zzh8 zztk8 zzF8 zzN8; (try k_sweep); (try k_fold))))
  (k_with "call ref" => ((k_here; (with_reducible show wpAny _ _ (call (Value.ref 122) [Value.bytes _ _]) _ _ _); k_dflt (refine' Mine.useB (Mine.c_getsep _ _ _) ?zqk1 ?zqk2 ?zqk3 ?zqk4 ?zqk5 ?zqk6 ?zqk7 ?zqk8 ?zqk9 ?_; ((case zqk1 => k_asm); (case zqk2 => k_asm); (case zqk3 => k_asm); (case zqk4 => k_asm); (case zqk5 => k_asm); (case zqk6 => first | exact rfl | assumption); (case zqk7 => first | exact True.intro | assumption); (case zqk8 => ktr_room); (case zqk9 => ktr_units))); intro zzt8 zzh8 zztk8 zzF8 zzN8; (try k_sweep); (try k_fold))))
  (k_with "call ref" => ((k_here; (with_reducible show wpAny _ _ (call (Value.ref 143) [Value.bytes _ _]) _ _ _); k_dflt (refine' Mine.useT2 (Mine.c_splitext _ _ _ (by k_extra "kaf") (by first | with_reducible assumption | assumption)) ?zqk1 ?zqk2 ?zqk3 ?zqk4 ?zqk5 ?zqk6 ?zqk7 ?zqk8 ?zqk9 ?_; ((case zqk1 => k_asm); (case zqk2 => k_asm); (case zqk3 => k_asm); (case zqk4 => k_asm); (case zqk5 => k_asm); (case zqk6 => first | exact rfl | assumption); (case zqk7 => first | exact True.intro | assumption); (case zqk8 => ktr_room); (case zqk9 => ktr_units))); intro zzD8 zzt8 zzt9 zzc8 zzh8 zztk8 zzF8 zzN8 zzl8; (try simp only [Mine.AllNe, and_true] at zzl8); (try k_sweep); (try k_fold))))
  (k_with "call ref" => ((k_here; (with_reducible show wpAny _ _ (call (Value.ref 136) [Value.bytes _ _]) _ _ _); k_dflt (refine' Mine.useT2 (Mine.c_split _ _ _ (by k_extra "kaf")) ?zqk1 ?zqk2 ?zqk3 ?zqk4 ?zqk5 ?zqk6 ?zqk7 ?zqk8 ?zqk9 ?_; ((case zqk1 => k_asm); (case zqk2 => k_asm); (case zqk3 => k_asm); (case zqk4 => k_asm); (case zqk5 => k_asm); (case zqk6 => first | exact rfl | assumption); (case zqk7 => first | exact True.intro | assumption); (case zqk8 => ktr_room); (case zqk9 => ktr_units))); intro zzD8 zzt8 zzt9 zzc8 zzh8 zztk8 zzF8 zzN8 zzl8; (try simp only [Mine.AllNe, and_true] at zzl8); (try k_sweep); (try k_fold))))
  (k_with "call ref" => ((k_here; (with_reducible show wpAny _ _ (call (Value.ref 160) [Value.bytes _ _]) _ _ _); k_dflt (refine' Mine.useB (Mine.c_dirname _ _ _ (by k_extra "kaf")) ?zqk1 ?zqk2 ?zqk3 ?zqk4 ?zqk5 ?zqk6 ?zqk7 ?zqk8 ?zqk9 ?_; ((case zqk1 => k_asm); (case zqk2 => k_asm); (case zqk3 => k_asm); (case zqk4 => k_asm); (case zqk5 => k_asm); (case zqk6 => first | exact rfl | assumption); (case zqk7 => first | exact True.intro | assumption); (case zqk8 => ktr_room); (case zqk9 => ktr_units))); intro zzt8 zzh8 zztk8 zzF8 zzN8; (try k_sweep); (try k_fold))))
  (k_with "call ref" => ((k_here; (with_reducible show wpAny _ _ (call (Value.ref 153) [Value.bytes _ _]) _ _ _); k_dflt (refine' Mine.useB (Mine.c_basename _ _ _ (by k_extra "kaf")) ?zqk1 ?zqk2 ?zqk3 ?zqk4 ?zqk5 ?zqk6 ?zqk7 ?zqk8 ?zqk9 ?_; ((case zqk1 => k_asm); (case zqk2 => k_asm); (case zqk3 => k_asm); (case zqk4 => k_asm); (case zqk5 => k_asm); (case zqk6 => first | exact rfl | assumption); (case zqk7 => first | exact True.intro | assumption); (case zqk8 => ktr_room); (case zqk9 => ktr_units))); intro zzt8 zzh8 zztk8 zzF8 zzN8; (try k_sweep); (try k_fold))))
  (k_with "call ref" => ((k_here; (with_reducible show wpAny _ _ (call (Value.ref 193) [Value.int _ _]) _ _ _); k_dflt (refine' Mine.useB (Mine.c_word _ _ _) ?zqk1 ?zqk2 ?zqk3 ?zqk4 ?zqk5 ?zqk6 ?zqk7 ?zqk8 ?zqk9 ?_; ((case zqk1 => k_asm); (case zqk2 => k_asm); (case zqk3 => k_asm); (case zqk4 => k_asm); (case zqk5 => k_asm); (case zqk6 => first | exact rfl | assumption); (case zqk7 => first | exact True.intro | assumption); (case zqk8 => ktr_room); (case zqk9 => ktr_units))); intro zzt8 zzh8 zztk8 zzF8 zzN8; (try k_sweep); (try k_fold))))
  (k_with "call ref" => ((k_here; (with_reducible show wpAny _ _ (call (Value.ref 183) [Value.int _ _]) _ _ _); k_dflt (refine' Mine.useB (Mine.c_int2ap _ _ _ (by omega) (by omega)) ?zqk1 ?zqk2 ?zqk3 ?zqk4 ?zqk5 ?zqk6 ?zqk7 ?zqk8 ?zqk9 ?_; ((case zqk1 => k_asm); (case zqk2 => k_asm); (case zqk3 => k_asm); (case zqk4 => k_asm); (case zqk5 => k_asm); (case zqk6 => first | exact rfl | assumption); (case zqk7 => first | exact True.intro | assumption); (case zqk8 => ktr_room); (case zqk9 => ktr_units))); intro zzt8 zzh8 zztk8 zzF8 zzN8; (try k_sweep); (try k_fold))))
  (k_with "call ref" => ((k_here; (with_reducible show wpAny _ _ (call (Value.ref 143) [Value.bytes _ _]) _ _ _); k_dflt (refine' Mine.useT2 (Mine.c_splitext _ _ _ (by first | k_extra "kaf" | solve_by_elim) (by first | with_reducible assumption | assumption | solve_by_elim)) ?zqk1 ?zqk2 ?zqk3 ?zqk4 ?zqk5 ?zqk6 ?zqk7 ?zqk8 ?zqk9 ?_; ((case zqk1 => k_asm); (case zqk2 => k_asm); (case zqk3 => k_asm); (case zqk4 => k_asm); (case zqk5 => k_asm); (case zqk6 => first | exact rfl | assumption); (case zqk7 => first | exact True.intro | assumption); (case zqk8 => ktr_room); (case zqk9 => ktr_units))); intro zzD8 zzt8 zzt9 zzc8 zzh8 zztk8 zzF8 zzN8 zzl8; (try simp only [Mine.AllNe, and_true] at zzl8); (try k_sweep); (try k_fold))))
  w_top off
  k_fill
  intro p loose mean mg mb dp un gd cn cs a ccd cl outer A₀ base h₀ L m s Q E B F X T hk hpre hdp hun hret
  refine wpAny_call ?_
  k_dflt ((refine' Mine.code_defP ?zqk1 ?zqk2 ?zqk3 ?zqk5 ?zqkA ?zqkF ?zqkK ?zqk6 ?zqk7 ?zqk8 ?zqk9 ?zqkB ?_ ?zqc2 ?zqc3 ?zqc4 ?zqc5; (case zqkA => exact rfl); (case zqkF => exact rfl); (case zqkK => assumption); (case zqk1 => k_asm); (case zqk2 => k_asm); (case zqk3 => k_asm); (case zqk5 => k_asm); (case zqk6 => k_is); (case zqk7 => k_is); (case zqk8 => ktr_room); (case zqk9 => exact BindsTo.of_eq rfl); (case zqc5 => decide); (case zqkB => exact locs rfl); (case zqc2 => exact rfl); (case zqc3 => exact rfl); (case zqc4 => exact rfl); k_whole))
  intro g' L' h' hg' F' N' B' X' T'
  clear B F X T
  (try rw [← hg'] at hpre)
  rw [← hg'] at hret
  (try dsimp only at hret)
  (try dsimp only at hpre)
  (try dsimp only)
  k_fold
  (repeat' (first | (k_unfold; (try dsimp only)) | (k_end; kc_close) | (dsimp only; walk1) | walk1 | (leave1; try dsimp only)))
  all_goals (repeat (first | k_unfold | dsimp only | dsimp +zetaDelta only))
  all_goals (unfold Mine.EndP; dsimp only)
  all_goals refine hret _ _ _ (Fr.keep (by assumption)) (Mine.fr_size (by assumption)) (Mine.ri_end ?_)
  all_goals unfold Mine.cmpZ
  all_goals (repeat rw [Mine.cmp1_eq (by with_reducible assumption) (by with_reducible assumption)])
  all_goals first
    | rfl
    | exact (Mine.cmp1_len (by with_reducible assumption)).symm
    | exact (Mine.cmp1_gt (by with_reducible assumption) (by with_reducible assumption) (by with_reducible assumption)).symm
    | exact (Mine.cmp1_lt (by with_reducible assumption) (by with_reducible assumption) (by with_reducible assumption)).symm
end
section
namespace Mine
/- A new list of ints. -/
noncomputable def RList (ns : List Int) : Heap → Heap → Value → Prop := fun h h' v => ∃ D vs c, v = .ref D ∧ h.get? D = none ∧ h'.get? D = some ({ cls := .type "list", data := .seq vs.toArray c } : Obj) ∧ IntsAre vs ns
noncomputable def newerL (W : Nat → Array UInt8) (ns : List Int) (p : Int) : List Int :=
  if ns ≠ [] ∧ frontB (W (ns.getLastD 0).toNat) = frontB (W p.toNat) then ns.dropLast ++ [p] else ns ++ [p]
theorem rlist_end {g h : Heap} {L D : Addr} {news : List (Addr × Obj)} {vs : List Value} {ns ns' : List Int} {c : Nat} (N : News g L h news) (hm : (D, ({ cls := .type "list", data := .seq vs.toArray c } : Obj)) ∈ news) (hi : IntsAre vs ns) (e : ns = ns') : RList ns' g h (.ref D) := by
  subst e
  exact ⟨D, vs, c, rfl, (N _ hm).2.2, (N _ hm).1, hi⟩
section
variable {W : Nat → Array UInt8} {ns : List Int} {p : Int}
theorem newer0 (h : decide (ns = []) = true) : ns ++ [p] = newerL W ns p := by
  unfold newerL
  rw [if_neg (fun q => q.1 (of_decide_eq_true h))]
theorem newer1 (h : decide (ns = []) = false) (e : ((frontB (W (ns.getLastD 0).toNat)).toList == (frontB (W p.toNat)).toList) = true) : List.take (ns.length - 1) ns ++ [p] = newerL W ns p := by
  unfold newerL
  rw [if_pos ⟨of_decide_eq_false h, Array.toList_inj.mp (beq_iff_eq.mp e)⟩, List.dropLast_eq_take]
theorem newer2 (e : ((frontB (W (ns.getLastD 0).toNat)).toList == (frontB (W p.toNat)).toList) = false) : ns ++ [p] = newerL W ns p := by
  unfold newerL
  rw [if_neg (fun q => by rw [q.2, beq_self_eq_true] at e; cases e)]
end
theorem last_in {ns : List Int} (hne : decide (ns = []) = false) : 0 < ns.length := by
  have h := of_decide_eq_false hne
  exact List.length_pos_iff.mpr h
theorem last_eq {ns : List Int} (hne : decide (ns = []) = false) : ns.getD ((-1 : Int) + ns.length).toNat 0 = ns.getLastD 0 := by
  have h := last_in hne
  have e : ((-1 : Int) + ns.length).toNat = ns.length - 1 := by omega
  rw [e, List.getLastD_eq_getLast?, List.getLast?_eq_getElem?, List.getD_eq_getElem?_getD]
theorem last_rng {ns : List Int} (hne : decide (ns = []) = false) (hr : ∀ n ∈ ns, 0 ≤ n ∧ n < 8) : 0 ≤ ns.getLastD 0 ∧ ns.getLastD 0 < 8 := by
  have h := of_decide_eq_false hne
  rw [List.getLastD_eq_getLast?, List.getLast?_eq_some_getLast h]
  exact hr _ (List.getLast_mem h)
theorem item_last {prog : Program} {w : World} {A : Around} {E : Value → Shared → Prop} {s : Shared} {value slice : PySem.Expr} {g : Heap} {L l : Addr} {m : Str → Option Value} {kvs : List Value} {ns : List Int} {u : Tok} {Q : Value → Shared → Prop}
    (F : Fr g L s.heap m) (hl : g.IsList l kvs.toArray) (hi : IntsAre kvs ns) (hlen : ns.length ≤ 8) (hne : decide (ns = []) = false) (h : ∀ t, Q (.int (ns.getLastD 0) t) s)
    (hs : subscripted slice false (.ref l) (.int (-1) u) = operate [.ref l, .int (-1) u] (getItem (.ref l) (.int (-1) u)) := by with_unfolding_all rfl) :
    wpAny (model prog w) A (subscriptTail value slice (.ref l) (.int (-1) u)) Q E s := by
  have hL : s.heap.IsList l kvs.toArray := by obtain ⟨o, ho, r⟩ := hl; exact ⟨o, F.keep _ _ ho, r⟩
  have hp := last_in hne
  exact item_list_ints_negR hL hi (by decide) (by omega) (by decide) (by rw [last_eq hne]; exact h) hs
end Mine
theorem Mine.c_newer (w : World) (W : Nat → Array UInt8) (T : Nat → Tok) (hW : ∀ i, Mine.Small (W i)) (hF : ∀ i, Mine.FirstOk (W i)) (lw lk : Addr) (kvs : List Value) (ns : List Int) (hi : IntsAre kvs ns) (hlen : ns.length ≤ 8) (hr : ∀ n ∈ ns, 0 ≤ n ∧ n < 8) (p₀ : Int) (t : Tok) (hp0 : 0 ≤ p₀) (hp8 : p₀ < 8) :
    Mine.Told w 221 [.ref lw, .ref lk, .int p₀ t] 12 (fun h => h.IsList lw (Mine.waysL W T).toArray ∧ h.IsList lk kvs.toArray) (Mine.RList (Mine.newerL W ns p₀)) := by
  unfold Mine.Told
  k_with_none
  (k_with "call type:type" => ((k_here; (with_reducible show wpAny _ _ (call (Value.type "type") [Value.bytes _ _]) _ _ _); refine Mine.type_bytes ?_)))
  (k_with "call builtin:issubclass" => ((k_here; k_dflt (refine' Mine.issub_bytes ?zqk1 ?_; (case zqk1 => exact News.isTup (by k_asm) (by k_mem)); k_whole))))
  (k_with "getMethod bytes" => ((k_here; (with_reducible first | refine Mine.method_rfind ?_ | refine Mine.method_rstrip ?_ | refine Mine.method_starts ?_ | refine Mine.method_ends ?_))))
  (k_with "call builtin:bytes.rfind" => ((k_here; refine Mine.call_rfind ?_)))
  (k_with "call builtin:bytes.startswith" => ((k_here; refine Mine.call_starts ?_)))
  (k_with "call builtin:bytes.endswith" => ((k_here; refine Mine.call_ends ?_)))
  (k_with "call builtin:bytes.rstrip" => ((k_here; refine Mine.call_rstrip (by k_extra "kaf") ?_; intro zzt8 zzk8)))
  (k_with "subscriptTail" => ((k_here; (with_reducible show wpAny _ _ (subscriptTail _ (Expr.Slice _ _ none _) (Value.bytes _ _) (Value.ref _)) _ _ _); (with_reducible rename Fr _ _ _ _ => zzFq); (with_reducible rename News _ _ _ _ => zzNq); (refine Mine.slice_B (s := ⟨_, _, _, _, _⟩) zzFq zzNq (by constructor) (by constructor) (by k_extra "kaf") ?_); intro _ _ _ _ _; (try k_sweep))))
  (k_with "truthy bytes" => ((k_here; (refine Mine.truthy_B (by k_extra "kaf") ?_); intro _)))
  (k_with "call builtin:len" => ((k_here; (with_reducible show wpAny _ _ (call (Value.builtin "len") [Value.bytes _ _]) _ _ _); (refine Mine.len_B (by k_extra "kaf") ?_); intro _ _)))
  (k_with "binaryOp Mult bytes int" => ((k_here; (refine Mine.mul_B (by k_extra "kaf") ?_); intro _ _)))
  (k_with "exec While Name" => ((k_here; refine whl_start 5 ?_)))
  (k_with "WhlIf" => ((first | (refine WhlIf.yes (by with_unfolding_all rfl) ?_) | (refine WhlIf.no (by with_unfolding_all rfl) ?_) | (refine Mine.whl_split ?_ ?_ <;> intro zzhw8 <;> (first | done | (exfalso; (try simp only [bne_iff_ne, ne_eq, bne_eq_false_iff_eq, decide_eq_true_eq, decide_eq_false_iff_not] at *); omega) | skip)))))
  (k_with "binaryOp Add bytes bytes" => ((k_here; (refine Mine.add_B (by k_extra "kaf") ?_); intro _ _)))
  (k_with "kaf" => (first | (with_reducible assumption) | ((with_reducible refine Mine.sz_cut ?_); k_extra "kaf") | ((with_reducible refine Mine.small_rstrip ?_); k_extra "kaf") | ((with_reducible refine Mine.sz_app ?_ ?_) <;> k_extra "kaf") | exact Nat.le_of_ble_eq_true rfl | exact Nat.le_trans (by with_reducible assumption) (by decide) | assumption | ((try simp only [Mine.Small, Array.size_append, List.size_toArray, List.length_cons, List.length_nil] at *); omega)))
  (k_with "inplaceOp Add bytes bytes" => ((k_here; (refine Mine.iadd_B (by k_extra "kaf") ?_); intro _ _)))
  (k_with "WhlIf" => ((refine WhlIf.no (Mine.ap_three (by assumption) (by assumption)) ?_)))
  (k_with "kaf" => (first | (with_reducible assumption) | ((with_reducible refine Mine.sz_word ?_); exact Nat.le_of_ble_eq_true rfl) | ((with_reducible refine Mine.sz_frontB ?_); k_extra "kaf") | ((with_reducible refine Mine.sz_endB ?_); k_extra "kaf") | ((with_reducible refine Mine.sz_baseB ?_); k_extra "kaf") | ((with_reducible refine Mine.sz_dirB ?_); k_extra "kaf")))
  (k_with "compareOp Gt bytes bytes" => ((k_here; refine Mine.gt_bytes ?_)))
  (k_with "call ref" => ((k_here; (with_reducible show wpAny _ _ (call (Value.ref 101) [Value.bytes _ _]) _ _ _); k_dflt (refine' Mine.useV (Mine.c_fspath _ _ _) ?zqk1 ?zqk2 ?zqk3 ?zqk4 ?zqk5 ?zqk6 ?zqk7 ?zqk8 ?zqk9 ?_; ((case zqk1 => k_asm); (case zqk2 => k_asm); (case zqk3 => k_asm); (case zqk4 => k_asm); (case zqk5 => k_asm); (case zqk6 => first | exact rfl | assumption); (case zqk7 => first | exact True.intro | assumption); (case zqk8 => ktr_room); (case zqk9 => ktr_units))); intro zzh8 zztk8 zzF8 zzN8; (try k_sweep); (try k_fold))))
  (k_with "call ref" => ((k_here; (with_reducible show wpAny _ _ (call (Value.ref 122) [Value.bytes _ _]) _ _ _); k_dflt (refine' Mine.useB (Mine.c_getsep _ _ _) ?zqk1 ?zqk2 ?zqk3 ?zqk4 ?zqk5 ?zqk6 ?zqk7 ?zqk8 ?zqk9 ?_; ((case zqk1 => k_asm); (case zqk2 => k_asm); (case zqk3 => k_asm); (case zqk4 => k_asm); (case zqk5 => k_asm); (case zqk6 => first | exact rfl | assumption); (case zqk7 => first | exact True.intro | assumption); (case zqk8 => ktr_room); (case zqk9 => ktr_units))); intro zzt8 zzh8 zztk8 zzF8 zzN8; (try k_sweep); (try k_fold))))
  (k_with "call ref" => ((k_here; (with_reducible show wpAny _ _ (call (Value.ref 143) [Value.bytes _ _]) _ _ _); k_dflt (refine' Mine.useT2 (Mine.c_splitext _ _ _ (by k_extra "kaf") (by first | with_reducible assumption | assumption)) ?zqk1 ?zqk2 ?zqk3 ?zqk4 ?zqk5 ?zqk6 ?zqk7 ?zqk8 ?zqk9 ?_; ((case zqk1 => k_asm); (case zqk2 => k_asm); (case zqk3 => k_asm); (case zqk4 => k_asm); (case zqk5 => k_asm); (case zqk6 => first | exact rfl | assumption); (case zqk7 => first | exact True.intro | assumption); (case zqk8 => ktr_room); (case zqk9 => ktr_units))); intro zzD8 zzt8 zzt9 zzc8 zzh8 zztk8 zzF8 zzN8 zzl8; (try simp only [Mine.AllNe, and_true] at zzl8); (try k_sweep); (try k_fold))))
  (k_with "call ref" => ((k_here; (with_reducible show wpAny _ _ (call (Value.ref 136) [Value.bytes _ _]) _ _ _); k_dflt (refine' Mine.useT2 (Mine.c_split _ _ _ (by k_extra "kaf")) ?zqk1 ?zqk2 ?zqk3 ?zqk4 ?zqk5 ?zqk6 ?zqk7 ?zqk8 ?zqk9 ?_; ((case zqk1 => k_asm); (case zqk2 => k_asm); (case zqk3 => k_asm); (case zqk4 => k_asm); (case zqk5 => k_asm); (case zqk6 => first | exact rfl | assumption); (case zqk7 => first | exact True.intro | assumption); (case zqk8 => ktr_room); (case zqk9 => ktr_units))); intro zzD8 zzt8 zzt9 zzc8 zzh8 zztk8 zzF8 zzN8 zzl8; (try simp only [Mine.AllNe, and_true] at zzl8); (try k_sweep); (try k_fold))))
  (k_with "call ref" => ((k_here; (with_reducible show wpAny _ _ (call (Value.ref 160) [Value.bytes _ _]) _ _ _); k_dflt (refine' Mine.useB (Mine.c_dirname _ _ _ (by k_extra "kaf")) ?zqk1 ?zqk2 ?zqk3 ?zqk4 ?zqk5 ?zqk6 ?zqk7 ?zqk8 ?zqk9 ?_; ((case zqk1 => k_asm); (case zqk2 => k_asm); (case zqk3 => k_asm); (case zqk4 => k_asm); (case zqk5 => k_asm); (case zqk6 => first | exact rfl | assumption); (case zqk7 => first | exact True.intro | assumption); (case zqk8 => ktr_room); (case zqk9 => ktr_units))); intro zzt8 zzh8 zztk8 zzF8 zzN8; (try k_sweep); (try k_fold))))
  (k_with "call ref" => ((k_here; (with_reducible show wpAny _ _ (call (Value.ref 153) [Value.bytes _ _]) _ _ _); k_dflt (refine' Mine.useB (Mine.c_basename _ _ _ (by k_extra "kaf")) ?zqk1 ?zqk2 ?zqk3 ?zqk4 ?zqk5 ?zqk6 ?zqk7 ?zqk8 ?zqk9 ?_; ((case zqk1 => k_asm); (case zqk2 => k_asm); (case zqk3 => k_asm); (case zqk4 => k_asm); (case zqk5 => k_asm); (case zqk6 => first | exact rfl | assumption); (case zqk7 => first | exact True.intro | assumption); (case zqk8 => ktr_room); (case zqk9 => ktr_units))); intro zzt8 zzh8 zztk8 zzF8 zzN8; (try k_sweep); (try k_fold))))
  (k_with "call ref" => ((k_here; (with_reducible show wpAny _ _ (call (Value.ref 193) [Value.int _ _]) _ _ _); k_dflt (refine' Mine.useB (Mine.c_word _ _ _) ?zqk1 ?zqk2 ?zqk3 ?zqk4 ?zqk5 ?zqk6 ?zqk7 ?zqk8 ?zqk9 ?_; ((case zqk1 => k_asm); (case zqk2 => k_asm); (case zqk3 => k_asm); (case zqk4 => k_asm); (case zqk5 => k_asm); (case zqk6 => first | exact rfl | assumption); (case zqk7 => first | exact True.intro | assumption); (case zqk8 => ktr_room); (case zqk9 => ktr_units))); intro zzt8 zzh8 zztk8 zzF8 zzN8; (try k_sweep); (try k_fold))))
  (k_with "call ref" => ((k_here; (with_reducible show wpAny _ _ (call (Value.ref 183) [Value.int _ _]) _ _ _); k_dflt (refine' Mine.useB (Mine.c_int2ap _ _ _ (by omega) (by omega)) ?zqk1 ?zqk2 ?zqk3 ?zqk4 ?zqk5 ?zqk6 ?zqk7 ?zqk8 ?zqk9 ?_; ((case zqk1 => k_asm); (case zqk2 => k_asm); (case zqk3 => k_asm); (case zqk4 => k_asm); (case zqk5 => k_asm); (case zqk6 => first | exact rfl | assumption); (case zqk7 => first | exact True.intro | assumption); (case zqk8 => ktr_room); (case zqk9 => ktr_units))); intro zzt8 zzh8 zztk8 zzF8 zzN8; (try k_sweep); (try k_fold))))
  (k_with "call ref" => ((k_here; (with_reducible show wpAny _ _ (call (Value.ref 143) [Value.bytes _ _]) _ _ _); k_dflt (refine' Mine.useT2 (Mine.c_splitext _ _ _ (by first | k_extra "kaf" | solve_by_elim) (by first | with_reducible assumption | assumption | solve_by_elim)) ?zqk1 ?zqk2 ?zqk3 ?zqk4 ?zqk5 ?zqk6 ?zqk7 ?zqk8 ?zqk9 ?_; ((case zqk1 => k_asm); (case zqk2 => k_asm); (case zqk3 => k_asm); (case zqk4 => k_asm); (case zqk5 => k_asm); (case zqk6 => first | exact rfl | assumption); (case zqk7 => first | exact True.intro | assumption); (case zqk8 => ktr_room); (case zqk9 => ktr_units))); intro zzD8 zzt8 zzt9 zzc8 zzh8 zztk8 zzF8 zzN8 zzl8; (try simp only [Mine.AllNe, and_true] at zzl8); (try k_sweep); (try k_fold))))
  (k_with "subscriptTail" => ((k_here; (with_reducible show wpAny _ _ (subscriptTail _ _ (Value.ref _) (Value.int _ _)) _ _ _); k_dflt (refine Mine.item_way (by k_asm) (by assumption) (by omega) (by omega) ?_))))
  (k_with "subscriptTail" => ((k_here; (with_reducible show wpAny _ _ (subscriptTail _ _ (Value.ref _) (Value.int (-1) _)) _ _ _); k_dflt (refine Mine.item_last (by k_asm) (by assumption) (by assumption) (by assumption) (by assumption) ?_); intro zzt8; (have hrng8 := Mine.last_rng (by assumption) (by assumption)); (obtain ⟨hr8, hr9⟩ := hrng8))))
  w_top off
  k_fill
  intro p loose mean mg mb dp un gd cn cs a ccd cl outer A₀ base h₀ L m s Q E B F X T hk hpre hdp hun hret
  refine wpAny_call ?_
  k_dflt ((refine' Mine.code_defP ?zqk1 ?zqk2 ?zqk3 ?zqk5 ?zqkA ?zqkF ?zqkK ?zqk6 ?zqk7 ?zqk8 ?zqk9 ?zqkB ?_ ?zqc2 ?zqc3 ?zqc4 ?zqc5; (case zqkA => exact rfl); (case zqkF => exact rfl); (case zqkK => assumption); (case zqk1 => k_asm); (case zqk2 => k_asm); (case zqk3 => k_asm); (case zqk5 => k_asm); (case zqk6 => k_is); (case zqk7 => k_is); (case zqk8 => ktr_room); (case zqk9 => exact BindsTo.of_eq rfl); (case zqc5 => decide); (case zqkB => exact locs rfl); (case zqc2 => exact rfl); (case zqc3 => exact rfl); (case zqc4 => exact rfl); k_whole))
  intro g' L' h' hg' F' N' B' X' T'
  clear B F X T
  (try rw [← hg'] at hpre)
  rw [← hg'] at hret
  (try dsimp only at hret)
  (try dsimp only at hpre)
  (try dsimp only)
  k_fold
  obtain ⟨hl1, hl2⟩ := hpre
  (repeat' (first | (k_unfold; (try dsimp only)) | (k_end; kc_close) | (dsimp only; walk1) | walk1 | (leave1; try dsimp only)))
  all_goals (repeat (first | k_unfold | dsimp only | dsimp +zetaDelta only))
  all_goals (unfold Mine.EndP; dsimp only)
  all_goals refine hret _ _ _ (Fr.keep (by assumption)) (Mine.fr_size (by assumption)) ?_
  all_goals refine Mine.rlist_end (by assumption) (by k_mem) (by assumption) ?_
  all_goals first
    | exact Mine.newer0 (by assumption)
    | exact Mine.newer1 (by assumption) (by assumption)
    | exact Mine.newer2 (by assumption)
end
end
section
namespace Mine
open PySem.Calls PySem.Spec
/- What stands: all of `g`, and the objects of `l`, no two at one place, none of them in `g`. -/
structure Led (g h : Heap) (l : List (Addr × Obj)) : Prop where
  keep : ∀ b o, g.get? b = some o → h.get? b = some o
  nw : ∀ p ∈ l, h.get? p.1 = some p.2 ∧ g.get? p.1 = none
  nd : (l.map (·.1)).Nodup
section
variable {M : Model} {A : Around} {E : Value → Shared → Prop} {s : Shared} {g h h' : Heap} {l : List (Addr × Obj)} {a : Addr} {o : Obj}
theorem Led.get (D : Led g h l) (i : Nat) (hi : l[i]? = some (a, o)) : h.get? a = some o := (D.nw _ (List.mem_of_getElem? hi)).1
theorem Led.push (D : Led g h l) (o : Obj) (hf : o.isFreed = false := by rfl) : Led g (h.push o) ((h.objs.size, o) :: l) := by
  refine ⟨fun b o' e => Heap.get?_push_of_some _ (D.keep b o' e), fun p hp => ?_, ?_⟩
  · rcases List.mem_cons.mp hp with rfl | hp
    · refine ⟨Heap.get?_push_size _ hf, ?_⟩
      cases q : g.get? h.objs.size with
      | none => rfl
      | some o' => exact absurd (Heap.lt_size (D.keep _ _ q)) (Nat.lt_irrefl _)
    · exact ⟨Heap.get?_push_of_some _ (D.nw p hp).1, (D.nw p hp).2⟩
  · refine List.nodup_cons.mpr ⟨fun hm => ?_, D.nd⟩
    obtain ⟨p, hp, e⟩ := List.mem_map.mp hm
    have z := Heap.lt_size (D.nw p hp).1
    rw [e] at z
    exact Nat.lt_irrefl _ z
theorem Led.drop (D : Led g h l) {l' : List (Addr × Obj)} (hs : l'.Sublist l) : Led g h l' := ⟨D.keep, fun p hp => D.nw p (hs.subset hp), D.nd.sublist (hs.map _)⟩
theorem nd_ne {l : List (Addr × Obj)} {i j : Nat} {p q : Addr × Obj} (hn : (l.map (·.1)).Nodup) (hi : l[i]? = some p) (hj : l[j]? = some q) (hij : i ≠ j) : p.1 ≠ q.1 := fun e => by
  obtain ⟨li, ei⟩ := List.getElem?_eq_some_iff.mp hi
  obtain ⟨lj, ej⟩ := List.getElem?_eq_some_iff.mp hj
  refine hij ((List.getElem_inj (xs := l.map (·.1)) (h₀ := by simpa using li) (h₁ := by simpa using lj) hn).mp ?_)
  rw [List.getElem_map, List.getElem_map, ei, ej, e]
theorem Led.turn (D : Led g h l) {i : Nat} {o' : Obj} (hi : l[i]? = some (a, o)) (hs : ∀ b o, b ≠ a → h.get? b = some o → h'.get? b = some o) (ho : h'.get? a = some o') : Led g h' (l.set i (a, o')) := by
  obtain ⟨li, ei⟩ := List.getElem?_eq_some_iff.mp hi
  refine ⟨fun b o₂ e => hs _ _ (fun z => by rw [z, (D.nw _ (List.mem_of_getElem? hi)).2] at e; cases e) (D.keep _ _ e), fun p hp => ?_, ?_⟩
  · obtain ⟨j, hj⟩ := List.mem_iff_getElem?.mp hp
    by_cases q : i = j
    · subst q
      rw [List.getElem?_set_self li] at hj
      cases hj
      exact ⟨ho, (D.nw _ (List.mem_of_getElem? hi)).2⟩
    · rw [List.getElem?_set_ne q] at hj
      have z := D.nw _ (List.mem_of_getElem? hj)
      exact ⟨hs _ _ (nd_ne D.nd hj hi (Ne.symm q)) z.1, z.2⟩
  · rw [List.map_set]
    have : (l.map (·.1)).set i a = l.map (·.1) := by
      refine List.ext_getElem? fun j => ?_
      by_cases q : i = j
      · subst q
        rw [List.getElem?_set_self (by simpa using li), List.getElem?_map, hi]; rfl
      · rw [List.getElem?_set_ne q]
    show ((l.map (·.1)).set i a).Nodup
    rw [this]; exact D.nd
theorem m_alloc {Q : Addr → Shared → Prop} (D : Led g s.heap l) (h : ∀ a h', Led g h' ((a, o) :: l) → Q a { s with heap := h' }) (hf : o.isFreed = false := by rfl) : wpAny M A (alloc o) Q E s := wpAny_alloc (h _ _ (D.push o hf))
theorem m_newObj {T : String} {data : Data} {dict : Option Addr} {Q : Value → Shared → Prop} (D : Led g s.heap l) (h : ∀ a h', Led g h' ((a, { cls := .type T, dict, data }) :: l) → Q (.ref a) { s with heap := h' })
    (hd : sizeOk data := by size_fits) (hf : ({ cls := .type T, dict, data } : Obj).isFreed = false := by rfl) : wpAny M A (newObj (.type T) data dict) Q E s := wpAny_newObj_type (h _ _ (D.push _ hf)) hd
theorem m_newTuple {items : List Value} {Q : Value → Shared → Prop} (D : Led g s.heap l) (h : ∀ a h', Led g h' ((a, { cls := .type "tuple", data := .seq items.toArray }) :: l) → Q (.ref a) { s with heap := h' })
    (hsz : items.length ≤ sizeLine := by size_fits) : wpAny M A (newTuple items) Q E s := wpAny_newTuple (h _ _ (D.push _ rfl)) hsz
theorem m_newTextTuple {items : List Value} {Q : Value → Shared → Prop} (D : Led g s.heap l) (h : ∀ a h', Led g h' ((a, { cls := .type "tuple", data := .seq items.toArray }) :: l) → Q (.ref a) { s with heap := h' }) :
    wpAny M A (newTextTuple items) Q E s := wpAny_newTextTuple (h _ _ (D.push _ rfl))
theorem m_update {part : Option Value} {f : Obj → Obj} {Q : Unit → Shared → Prop} (D : Led g s.heap l) (i : Nat) (hi : l[i]? = some (a, o)) (h : ∀ h', Led g h' (l.set i (a, f o)) → Q () { s with heap := h' }) (hf : (f o).isFreed = false := by rfl) :
    wpAny M A (updatePart a part f) Q E s := by
  have ho := D.get i hi
  intro Γ p _
  simp only [Sem.wp_cmd_updatePart]
  refine ⟨by rw [ho]; rfl, h _ (D.turn hi (fun b o' hb e => ((Heap.SameBut.update ..).2 b hb).trans e) ?_)⟩
  first | exact Heap.get?_update_self f ho hf | exact Heap.get?_update_self _ ho hf
theorem m_upd {f : Obj → Obj} {Q : Unit → Shared → Prop} (D : Led g s.heap l) (i : Nat) (hi : l[i]? = some (a, o)) (h : ∀ h', Led g h' (l.set i (a, f o)) → Q () { s with heap := h' }) (hf : (f o).isFreed = false := by rfl) :
    wpAny M A (update a f) Q E s := by
  have ho := D.get i hi
  intro Γ p _
  simp only [Sem.wp_cmd_update]
  refine ⟨by rw [ho]; rfl, h _ (D.turn hi (fun b o' hb e => ((Heap.SameBut.update ..).2 b hb).trans e) ?_)⟩
  first | exact Heap.get?_update_self f ho hf | exact Heap.get?_update_self _ ho hf
theorem putName_new {name : Str} {hh : Int} {key v c : Value} {d : Option Addr} {es : List DictEntry} {n : Nat} {sl : Array (Option Value)} (hk : es.any (·.key.isStr name) = false) :
    Obj.putName name hh key v ⟨c, d, .dict es.toArray n, sl⟩ = ⟨c, d, .dict (es ++ [({ hash := hh, key := key, val := v } : DictEntry)]).toArray (n + 1), sl⟩ := by
  rw [Obj.putName_eq]
  unfold Obj.putNameByArray
  have : es.toArray.findIdx? (·.key.isStr name) = none := by
    rw [List.findIdx?_toArray, List.findIdx?_eq_none_iff]
    intro x hx
    have := List.any_eq_false.mp hk x hx
    simpa using this
  dsimp only
  rw [this]
  dsimp only
  rw [List.push_toArray]
theorem m_nsSet {name : Str} {v c : Value} {d : Option Addr} {es : List DictEntry} {n : Nat} {sl : Array (Option Value)} {Q : Unit → Shared → Prop} (D : Led g s.heap l) (i : Nat) (hi : l[i]? = some (a, ⟨c, d, .dict es.toArray n, sl⟩))
    (hr : es.any (·.refKey) = false) (hk : es.any (·.key.isStr name) = false)
    (h : ∀ hh h', Led g h' (l.set i (a, ⟨c, d, .dict (es ++ [({ hash := hh, key := .str name s.toks, val := v } : DictEntry)]).toArray (n + 1), sl⟩)) → Q () { s with heap := h', toks := s.toks + 1 }) : wpAny M A (nsSet a name v) Q E s := by
  have ho := D.get i hi
  intro Γ p _
  simp only [nsSet, strHash, Sem.wp_bind', Sem.wp_cmd_ask, Sem.wp_pure', Sem.wp_cmd_mkText]
  rw [Sem.wp_loadPart_of M Γ _ p { s with toks := s.toks + 1 } (o := _) _ ho]
  have hany : es.toArray.any (·.refKey) = false := by rw [List.any_toArray]; exact hr
  simp only [aRefKeyMayBeTheName_eq, aRefKeyMayBeTheNameByArray, hany, Bool.and_false, Bool.false_eq_true, if_false, Sem.wp_cmd_updatePart]
  refine ⟨by rw [ho]; rfl, h (if name.cps.isEmpty = true then 0 else reduceHash (M.w.params.strHash name.cps)) _ (D.turn hi (fun b o' hb e => ((Heap.SameBut.update ..).2 b hb).trans e) ?_)⟩
  refine (Heap.get?_update_self _ ho ?_).trans (congrArg some (putName_new hk))
  rw [putName_new hk]; rfl
end
end Mine
namespace Mine
open PySem.Calls PySem.Spec
section
variable {M : Model} {A : Around} {E : Value → Shared → Prop} {s : Shared} {g h h' : Heap} {l : List (Addr × Obj)} {a : Addr} {o : Obj}
/- A code object at a place of the text: made anew, its place written into the table of the code around it. -/
theorem m_codeAt {env : Env} {c P : Addr} {ps : Array Value} {pos : Pos} {qualname : Str} {mk : CodeContext → Sem Value} {Q : Value → Shared → Prop} (D : Led g s.heap l) (i : Nat) (hi : l[i]? = some (P, tabObj ps)) (C : CodeHd s.heap c P) (hc : env.code = .ref c)
    (ht : TriplesOk ps.toList) (hnf : codeAmong pos ps.toList = none)
    (hmk : ∀ (ctx : CodeContext) (s : Shared) (Q : Value → Shared → Prop), (∀ c P h' tk, (∀ b o, s.heap.get? b = some o → h'.get? b = some o) → s.heap.objs.size ≤ c → s.heap.objs.size ≤ P → h'.IsCode c P #[] → h'.TableAt c P #[] → h'.CodeRec (.ref c) qualname →
      Q (.ref c) { s with heap := h', toks := tk }) → wpAny M A (mk ctx) Q E s)
    (h : ∀ c' P' oc vs t h' tk, Led g h' ((c', oc) :: (P', tabObj #[]) :: l.set i (P, tabObj (ps ++ #[rawInt pos.line, rawInt pos.col, .ref c']))) → CodeHd h' c' P' → oc.cls = .type "code" → oc.data = .fields vs → vs[1]? = some (.str qualname t) →
      Q (.ref c') { s with heap := h', toks := tk }) : wpAny M A (codeAt env pos mk) Q E s := by
  have hop := D.get i hi
  have hok := C.code hop ht
  have htab := C.tab hop
  obtain ⟨o, vs, file, tf, flags, tg, inF, text, tt, op, ho, hd, h11, h2, h7, h9, h10, hop₂, hpd, htr, hne⟩ := id hok
  rw [hop] at hop₂; cases hop₂
  unfold codeAt
  rw [hc, if_neg (show ¬ ((Value.ref c == Value.none) = true) from Bool.false_ne_true)]
  refine wpAny_bind (wpAny_fieldsOf ho hd ?_)
  rw [h11]
  refine wpAny_bind (wpAny_fieldsOf hop hpd ?_)
  rw [hnf, h2, h7, h9, h10]
  refine wpAny_bind (hmk _ _ _ fun c' P' h' tk hk hc' hP' hcode' htab' hrec' => ?_)
  have hop' := hk _ _ hop
  refine wpAny_bind (wpAny_updateFieldsOfTheText hop' hpd ?_)
  have hnew : (Obj.mapFields (fun vs => if (codeAmong pos vs.toList).isSome = true then vs else vs ++ #[rawInt pos.line, rawInt pos.col, .ref c']) (tabObj ps)).data =
      .fields (ps ++ #[rawInt pos.line, rawInt pos.col, .ref c']) := by
    rw [Obj.data_mapFields hpd, hnf]; rfl
  have hget := Heap.get?_update_self (h := h') (fun o => Obj.mapFields (fun vs => if (codeAmong pos vs.toList).isSome = true then vs else
    vs ++ #[rawInt pos.line, rawInt pos.col, .ref c']) o) hop' (Obj.isFreed_of_fields hnew)
  refine wpAny_bind (wpAny_fieldsOf hget hnew ?_)
  have hl : (ps ++ #[rawInt pos.line, rawInt pos.col, Value.ref c']).toList = ps.toList ++ [rawInt pos.line, rawInt pos.col, .ref c'] := by simp
  rw [hl, codeAmong_snoc _ htr hnf]
  have hcP : c' ≠ P := Nat.ne_of_gt (Nat.lt_of_lt_of_le (Heap.lt_size hop) hc')
  have hP'P : P' ≠ P := Nat.ne_of_gt (Nat.lt_of_lt_of_le (Heap.lt_size hop) hP')
  have hb : ∀ b o, b ≠ P → h'.get? b = some o → (h'.update P (fun o => Obj.mapFields (fun vs => if (codeAmong pos vs.toList).isSome = true then vs else vs ++ #[rawInt pos.line, rawInt pos.col, .ref c']) o)).get? b = some o := fun b o' hb e => ((Heap.SameBut.update ..).2 b hb).trans e
  obtain ⟨⟨oc, vc, hoc, hcc, hdc, h11c⟩, htP⟩ := htab'
  obtain ⟨c₂, o₂, vs₂, t₂, e₂, g₂, d₂, r₂⟩ := hrec'
  cases e₂
  rw [hoc] at g₂; cases g₂
  have hcP' : c' ≠ P' := fun q => by rw [q, htP] at hoc; cases hoc; cases hcc
  have D₁ : Led g h' ((c', oc) :: (P', tabObj #[]) :: l) := by
    have fresh : ∀ b, s.heap.objs.size ≤ b → ∀ p ∈ l, b ≠ p.1 := fun b hb p hp q => by
      have := Heap.lt_size (D.nw p hp).1
      exact Nat.lt_irrefl _ (Nat.lt_of_lt_of_le (q ▸ this) hb)
    have gone : ∀ b, s.heap.objs.size ≤ b → g.get? b = none := fun b hb => by
      cases q : g.get? b with
      | none => rfl
      | some o' => exact absurd (Heap.lt_size (D.keep _ _ q)) (Nat.not_lt.mpr hb)
    refine ⟨fun b o' e => hk _ _ (D.keep _ _ e), fun p hp => ?_, ?_⟩
    · rcases List.mem_cons.mp hp with rfl | hp
      · exact ⟨hoc, gone _ hc'⟩
      · rcases List.mem_cons.mp hp with rfl | hp
        · exact ⟨htP, gone _ hP'⟩
        · exact ⟨hk _ _ (D.nw p hp).1, (D.nw p hp).2⟩
    · refine List.nodup_cons.mpr ⟨fun hm => ?_, List.nodup_cons.mpr ⟨fun hm => ?_, D.nd⟩⟩
      · rcases List.mem_cons.mp hm with q | hm
        · exact hcP' q
        · obtain ⟨p, hp, e⟩ := List.mem_map.mp hm
          exact fresh _ hc' p hp e.symm
      · obtain ⟨p, hp, e⟩ := List.mem_map.mp hm
        exact fresh _ hP' p hp e.symm
  have D₂ := D₁.turn (i := i + 2) (o' := tabObj (ps ++ #[rawInt pos.line, rawInt pos.col, .ref c'])) (by simpa using hi) hb (by
    rw [hget]; simp only [Obj.mapFields, hnf]; rfl)
  refine wpAny_pure (h c' P' oc vc t₂ _ _ (by simpa using D₂) ?_ hcc hdc ?_)
  · obtain ⟨o₃, v₃, f₃, tf₃, fl₃, tg₃, b₃, tx₃, tt₃, e₃, r₃⟩ := CodeHd.of hcode' ⟨⟨oc, vc, hoc, hcc, hdc, h11c⟩, htP⟩
    exact ⟨o₃, v₃, f₃, tf₃, fl₃, tg₃, b₃, tx₃, tt₃, hb _ _ hcP e₃, r₃⟩
  · rw [hdc] at d₂; cases d₂; exact r₂
end
end Mine
end
section
namespace Mine
open PySem.Calls PySem.Spec
noncomputable abbrev fnC (name qual : Str) (params : Arguments) (body : List Stmt) (scope : Scope) (clos : List (Str × Addr)) (pm cdv ct : Value) : Obj :=
  { cls := .type "function", data := .func { name, qualname := qual, params, body := .stmts body, scope, globals := mainGlobals, closure := clos, defaults := .none, kwdefaults := .none, doc := .none, pyModule := pm, annotations := none, code := cdv, closureTuple := ct, builtins := builtinsNs } }
section
variable {M : Model} {A : Around} {E : Value → Shared → Prop} {s : Shared} {g : Heap} {l : List (Addr × Obj)} {p : Program} {loose : List Str} {mean : ExcName → Option Value} {mg mb : Str → Option Value}
  {name qual : Str} {params : Arguments} {body : List Stmt} {scope : Scope} {clos : List (Str × Addr)} {env : Env} {c P : Addr} {ps : Array Value} {pos : Pos} {firstLine : Nat}
theorem m_makeTail {Q : Value → Shared → Prop} (D : Led g s.heap l) (i : Nat) (hi : l[i]? = some (P, tabObj ps)) (C : CodeHd s.heap c P) (hc : env.code = .ref c) (ht : TriplesOk ps.toList) (hnf : codeAmong pos ps.toList = none)
    (hcl : closureFor scope env = pure clos) (hgl : env.globals = mainGlobals) (T : Top p loose mean mg mb g) (hdoc : docOf body = none)
    (h : ∀ f c' oc vs t ctv h' tk, Led g h' ((f, fnC name qual params body scope clos ((mg "__name__").getD .none) (.ref c') ctv) :: (c', oc) :: l.set i (P, tabObj (ps ++ #[rawInt pos.line, rawInt pos.col, .ref c']))) →
      oc.data = .fields vs → vs[1]? = some (.str qual t) → Q (.ref f) { s with heap := h', toks := tk }) :
    wpAny M A (makeTail name qual params (.stmts body) scope env .none .none none pos firstLine) Q E s := by
  obtain ⟨bm, ob, b1, b2, b3, b4, b5, b6⟩ := T.bmain
  unfold makeTail
  rw [hcl]
  refine wpAny_bind (wpAny_pure ?_)
  have go : ∀ (ctv : Value) (h₁ : Heap) (x : List (Addr × Obj)), Led g h₁ (x ++ l) → (∀ b o, s.heap.get? b = some o → h₁.get? b = some o) →
      wpAny M A (functionCode env pos firstLine name qual params scope (.stmts body) >>= fun code => builtinsFor env.globals env.builtins >>= fun bi => nsGet env.globals "__name__" >>= fun nm =>
        (match docOf body with | some s => mkText s | none => pure .none) >>= fun doc =>
        newObj (.type "function") (.func { name, qualname := qual, params, body := .stmts body, scope, globals := env.globals, closure := clos, defaults := .none, kwdefaults := .none, doc, pyModule := nm.getD .none, annotations := none, code, closureTuple := ctv, builtins := bi })) Q E { s with heap := h₁ } := by
    intro ctv h₁ x D₁ hk₁
    unfold functionCode
    refine wpAny_bind (m_codeAt (qualname := qual) D₁ (i + x.length) (by rw [List.getElem?_append_right (Nat.le_add_left ..), Nat.add_sub_cancel]; exact hi) (C.keeps hk₁) hc ht hnf (fun ctx s Q hQ => wpAny_newCodeX hQ) fun c' P' oc vs t h' tk D' C' hcls hd hv => ?_)
    rw [hgl]
    have hb : bm ≠ builtinsNs := b2
    refine wpAny_bind (wpAny_builtinsFor (T.g.keeps D'.keep) b1 hb (D'.keep _ _ b3) b4 b5 b6 ?_)
    refine wpAny_bind (wpAny_nsGet (T.g.keeps D'.keep) ?_)
    refine wpAny_bind ?_
    rw [hdoc]
    refine wpAny_pure ?_
    refine m_newObj (D'.drop ?_) (fun f h'' D'' => h f c' oc vs t ctv h'' tk D'' hd hv) (by size_fits) rfl
    refine List.Sublist.cons₂ _ (List.Sublist.cons _ ?_)
    rw [List.set_append_right _ _ (Nat.le_add_left ..), Nat.add_sub_cancel]
    exact List.sublist_append_right _ _
  cases clos with
  | nil =>
    simp only [List.isEmpty_nil, if_true]
    exact wpAny_bind (wpAny_pure (go .none s.heap [] D fun _ _ e => e))
  | cons q r =>
    simp only [List.isEmpty_cons, Bool.false_eq_true, if_false]
    exact wpAny_bind (wpAny_newTextTuple (go _ _ [_] (D.push _ rfl) fun b o e => Heap.get?_push_of_some _ e))
end
end Mine
namespace Mine
open PySem.Calls PySem.Spec
/- The rest of the state is as it was. -/
noncomputable def Same (s s' : Shared) : Prop := s'.gens = s.gens ∧ s'.drawn = s.drawn ∧ s'.os = s.os
theorem Same.trans {s s' s'' : Shared} (a : Same s s') (b : Same s' s'') : Same s s'' := ⟨b.1.trans a.1, b.2.1.trans a.2.1, b.2.2.trans a.2.2⟩
noncomputable abbrev dictO (es : List DictEntry) (n : Nat) : Obj := ⟨.type "dict", none, .dict es.toArray n, #[]⟩
section
variable {M : Model} {A : Around} {E : Value → Shared → Prop} {s : Shared} {g : Heap} {l : List (Addr × Obj)} {p : Program} {loose : List Str} {mean : ExcName → Option Value} {mg mb : Str → Option Value}
  {name : Str} {params : Arguments} {body : List Stmt} {scope : Scope} {clos : List (Str × Addr)} {env : Env} {c P : Addr} {ps : Array Value} {pos : Pos} {es : List DictEntry} {n : Nat} {v : Value}
theorem store_own {env : Env} {name : Str} {v : Value} (kd : env.kindOf name = some .local) (kc : env.scope.kind = .class) : storeName env name v = localSet env name v := by
  unfold storeName
  rw [kd, kc]
  rfl
theorem m_store {Q : Unit → Shared → Prop} (D : Led g s.heap l) (i : Nat) (hi : l[i]? = some (env.locals, dictO es n)) (kd : env.kindOf name = some .local) (kc : env.scope.kind = .class)
    (hr : es.any (·.refKey) = false) (hk : es.any (·.key.isStr name) = false)
    (h : ∀ hh h', Led g h' (l.set i (env.locals, dictO (es ++ [{ hash := hh, key := .str name s.toks, val := v }]) (n + 1))) → Q () { s with heap := h', toks := s.toks + 1 }) : wpAny M A (storeName env name v) Q E s := by
  rw [store_own kd kc]
  unfold localSet
  refine wpAny_bind (wpAny_load (D.get i hi) ?_)
  exact m_nsSet D i hi hr hk h
theorem m_bind {Q : Unit → Shared → Prop} (D : Led g s.heap l) (i : Nat) (hi : l[i]? = some (env.locals, dictO es n)) (kd : env.kindOf name = some .local) (kc : env.scope.kind = .class)
    (hr : es.any (·.refKey) = false) (hk : es.any (·.key.isStr name) = false)
    (h : ∀ hh h', Led g h' (l.set i (env.locals, dictO (es ++ [{ hash := hh, key := .str name s.toks, val := v }]) (n + 1))) → Q () { s with heap := h', toks := s.toks + 1 }) : wpAny M A (bindName env name v) Q E s :=
  wpAny_bindName (m_store D i hi kd kc hr hk h)
theorem m_def {pl : List Value} {Q : Flow → Shared → Prop} (hexec : PlainDefTree name params body scope pos) (D : Led g s.heap l) (i : Nat) (hi : l[i]? = some (P, tabObj pl.toArray)) (C : CodeHd s.heap c P) (hc : env.code = .ref c) (ht : TriplesOk pl) (hnf : codeAmong pos pl = none)
    (hcl : closureFor scope env = pure clos) (hgl : env.globals = mainGlobals) (T : Top p loose mean mg mb g) (hdoc : docOf body = none)
    (j : Nat) (hj : l[j]? = some (env.locals, dictO es n)) (hij : i ≠ j) (kd : env.kindOf name = some .local) (kc : env.scope.kind = .class) (hr : es.any (·.refKey) = false) (hk : es.any (·.key.isStr name) = false)
    (h : ∀ f c' oc vs t ctv hh t2 s', Same s s' → Led g s'.heap ((f, fnC name (qualnameIn env name name) params body scope clos ((mg "__name__").getD .none) (.ref c') ctv) :: (c', oc) :: (l.set i (P, tabObj (pl ++ [rawInt pos.line, rawInt pos.col, .ref c']).toArray)).set j (env.locals, dictO (es ++ [{ hash := hh, key := .str name t2, val := .ref f }]) (n + 1))) →
      oc.data = .fields vs → vs[1]? = some (.str (qualnameIn env name name) t) → Q .next s') :
    wpAny M A (exec (.FunctionDef name params body [] none [] scope none name pos) env) Q E s := by
  rw [hexec]
  refine wpAny_bind (wpAny_standAt (wpAny_bind (wpAny_holding ?_)))
  rw [makeFunction_eq]
  simp only [List.zip_nil_right, List.filterMap_nil, List.isEmpty_nil, if_true, pure_bind]
  refine m_makeTail D i hi C hc ht hnf hcl hgl T hdoc fun f c' oc vs t ctv h' tk D' hd hv => ?_
  have e8 : pl.toArray ++ #[rawInt pos.line, rawInt pos.col, .ref c'] = (pl ++ [rawInt pos.line, rawInt pos.col, .ref c']).toArray := by simp
  rw [e8] at D'
  refine wpAny_bind (wpAny_standAt (wpAny_bind (m_bind D' (j + 2) (by
    show (l.set i _)[j]? = _
    rw [List.getElem?_set_ne hij]; exact hj) kd kc hr hk fun hh h'' D'' => wpAny_pure ?_)))
  exact h f c' oc vs t ctv hh _ _ ⟨rfl, rfl, rfl⟩ D'' hd hv
end
end Mine
end
local macro_rules | `(tactic| x_close) => `(tactic| (apply_assumption <;> first | assumption | rfl))
section
namespace Mine
open PySem.Calls PySem.Spec PySem.W.X
theorem Led.mem {g h₁ h : Heap} {l news : List (Addr × Obj)} (D : Led g h₁ l) (D' : Mem h₁ h [] news) : Led g h (news ++ l) := by
  have keep : ∀ b o, h₁.get? b = some o → h.get? b = some o := fun b o e => D'.keep b o e (by rw [Bool.or_eq_true]; exact .inr rfl)
  refine ⟨fun b o e => keep _ _ (D.keep _ _ e), fun p hp => ?_, ?_⟩
  · rcases List.mem_append.mp hp with hp | hp
    · refine ⟨(D'.nw p hp).1, ?_⟩
      cases q : g.get? p.1 with
      | none => rfl
      | some o => have := D.keep _ _ q; rw [(D'.nw p hp).2] at this; cases this
    · exact ⟨keep _ _ (D.nw p hp).1, (D.nw p hp).2⟩
  · rw [List.map_append]
    refine List.nodup_append.mpr ⟨D'.ord.imp fun q => Nat.ne_of_gt q, D.nd, fun x hx y hy e => ?_⟩
    obtain ⟨p, hp, rfl⟩ := List.mem_map.mp hx
    obtain ⟨q, hq, rfl⟩ := List.mem_map.mp hy
    have z := (D.nw q hq).1
    rw [← e, (D'.nw p hp).2] at z
    cases z
noncomputable abbrev prepO : Obj := { cls := .type "builtin_function_or_method", data := .fields #[.builtin "type.__prepare__", .type "type"] }
end Mine
theorem Mine.m_prepare (w : World) (e1 e2 : Env) (s : Shared) (Q : Option Value → Shared → Prop) (E : Value → Shared → Prop) (t : Tok)
   (hQ8 : ∀ a h o, PySem.W.X.Mem s.heap h [] [(a, o)] → o = Mine.prepO → Q (some (.ref a)) { heap := h, gens := s.gens, drawn := s.drawn, toks := s.toks, os := s.os }) :
   wpAny (model PySem.Challenge.rw_ij0209_01.row.prog w) ((callerA.deeper e1).deeper e2) (getAttrBy? (.type "type") (.str "__prepare__" t)) Q E s := by
  x_run
theorem Mine.m_prepcall (w : World) (e1 e2 : Env) (s : Shared) (Q : Value → Shared → Prop) (E : Value → Shared → Prop) (a b : Addr) (x : Str) (t : Tok) (ha : s.heap.get? a = some { cls := .type "builtin_function_or_method", data := .fields #[.builtin "type.__prepare__", .type "type"] })
   (hb : s.heap.get? b = some { cls := .type "tuple", data := .seq #[.type "object"] })
   (hQ8 : ∀ a h tk, PySem.W.X.Mem s.heap h [] [(a, { cls := .type "dict", data := .dict #[] })] → Q (.ref a) { heap := h, gens := s.gens, drawn := s.drawn, toks := tk, os := s.os }) :
   wpAny (model PySem.Challenge.rw_ij0209_01.row.prog w) ((callerA.deeper e1).deeper e2) (call (.ref a) [.str x t, .ref b]) Q E s := by
  x_run
end
section
namespace Mine
open PySem.Calls PySem.Spec PySem.W.X
section
variable {w : World} {e1 : Env} {E : Value → Shared → Prop} {s : Shared} {g : Heap} {l : List (Addr × Obj)} {p : Program} {loose : List Str} {mean : ExcName → Option Value} {mg mb : Str → Option Value}
  {env : Env} {c P : Addr} {ps : Array Value} {pos : Pos} {name : Str} {body : List Stmt} {scope : Scope} {statics : List Str} {cells : List (Str × Addr)}
noncomputable abbrev MD (w : World) := model PySem.Challenge.rw_ij0209_01.row.prog w
theorem m_storeO {M : Model} {A : Around} {v : Value} {es : List DictEntry} {n : Nat} {Q : Unit → Shared → Prop} (D : Led g s.heap l) (i : Nat) (hi : l[i]? = some (env.locals, dictO es n)) (kd : env.kindOf name = none) (kc : env.scope.kind = .class) (hown : compilersOwnNames.contains name = true)
    (hr : es.any (·.refKey) = false) (hk : es.any (·.key.isStr name) = false)
    (h : ∀ hh t h' tk, Led g h' (l.set i (env.locals, dictO (es ++ [{ hash := hh, key := .str name t, val := v }]) (n + 1))) → Q () { s with heap := h', toks := tk }) : wpAny M A (storeName env name v) Q E s := by
  have hs : storeName env name v = localSet env name v := by
    unfold storeName
    have hb : (env.blockKind == .function) = false := by unfold Env.blockKind; rw [kc]; rfl
    rw [kd, kc, hb, hown]
    rfl
  rw [hs]
  unfold localSet
  refine wpAny_bind (wpAny_load (D.get i hi) ?_)
  exact m_nsSet D i hi hr hk fun hh h' D' => h hh _ h' _ D'
theorem putName_head {name : Str} {hh : Int} {key v c : Value} {d : Option Addr} {e : DictEntry} {es : List DictEntry} {n : Nat} {sl : Array (Option Value)} (hk : e.key.isStr name = true) :
    Obj.putName name hh key v ⟨c, d, .dict (e :: es).toArray n, sl⟩ = ⟨c, d, .dict ({ e with val := v } :: es).toArray n, sl⟩ := by
  rw [Obj.putName_eq]
  unfold Obj.putNameByArray
  have : (e :: es).toArray.findIdx? (·.key.isStr name) = some 0 := by
    rw [List.findIdx?_toArray, List.findIdx?_cons, hk]; rfl
  dsimp only
  rw [this]
  rfl
theorem m_nsSet0 {M : Model} {A : Around} {a : Addr} {v : Value} {e : DictEntry} {es : List DictEntry} {n : Nat} {Q : Unit → Shared → Prop} (D : Led g s.heap l) (i : Nat) (hi : l[i]? = some (a, dictO (e :: es) n))
    (hr : (e :: es).any (·.refKey) = false) (hk : e.key.isStr name = true)
    (h : ∀ h', Led g h' (l.set i (a, dictO ({ e with val := v } :: es) n)) → Q () { s with heap := h', toks := s.toks + 1 }) : wpAny M A (nsSet a name v) Q E s := by
  have ho := D.get i hi
  intro Γ p _
  simp only [nsSet, strHash, Sem.wp_bind', Sem.wp_cmd_ask, Sem.wp_pure', Sem.wp_cmd_mkText]
  rw [Sem.wp_loadPart_of M Γ _ p { s with toks := s.toks + 1 } (o := _) _ ho]
  have hany : (e :: es).toArray.any (·.refKey) = false := by rw [List.any_toArray]; exact hr
  simp only [aRefKeyMayBeTheName_eq, aRefKeyMayBeTheNameByArray, hany, Bool.and_false, Bool.false_eq_true, if_false, Sem.wp_cmd_updatePart]
  refine ⟨by rw [ho]; rfl, h _ (D.turn hi (fun b o' hb e => ((Heap.SameBut.update ..).2 b hb).trans e) ?_)⟩
  refine (Heap.get?_update_self _ ho ?_).trans (congrArg some (putName_head hk))
  rw [putName_head hk]; rfl
theorem m_store0 {M : Model} {A : Around} {v : Value} {e : DictEntry} {es : List DictEntry} {n : Nat} {Q : Unit → Shared → Prop} (D : Led g s.heap l) (i : Nat) (hi : l[i]? = some (env.locals, dictO (e :: es) n)) (kd : env.kindOf name = some .local) (kc : env.scope.kind = .class)
    (hr : (e :: es).any (·.refKey) = false) (hk : e.key.isStr name = true)
    (h : ∀ h', Led g h' (l.set i (env.locals, dictO ({ e with val := v } :: es) n)) → Q () { s with heap := h', toks := s.toks + 1 }) : wpAny M A (storeName env name v) Q E s := by
  rw [store_own kd kc]
  unfold localSet
  refine wpAny_bind (wpAny_load (D.get i hi) ?_)
  exact m_nsSet0 D i hi hr hk h
theorem m_loadName {M : Model} {A : Around} {Q : Value → Shared → Prop} (D : Led g s.heap l) (T : Top p loose mean mg mb g) (i : Nat) (hi : l[i]? = some (env.locals, dictO [] 0)) (kd : env.kindOf "__name__" = none) (kc : env.scope.kind = .class) (hgl : env.globals = mainGlobals) {nv : Value} (hn : mg "__name__" = some nv)
    (h : Q nv s) : wpAny M A (loadName env "__name__") Q E s := by
  have hb : env.blockKind = .class := by unfold Env.blockKind; rw [kc]; rfl
  have ha : env.scope.kind.isAnnotationScope = false := by rw [kc]; rfl
  have hown : compilersOwnNames.contains "__name__" = true := by decide +kernel
  have hl : loadName env "__name__" = (do
      if let some v ← localGet env "__name__" then return v
      loadGlobal env "__name__") := by
    unfold loadName
    rw [kd, hb, ha, hown]
    rfl
  rw [hl]
  unfold localGet
  refine wpAny_bind (wpAny_bind (wpAny_load (D.get i hi) ?_))
  rw [if_pos (by rfl)]
  refine wpAny_nsGet (m := fun _ => none) ⟨_, _, _, D.get i hi, rfl, ?_, ?_⟩ ?_
  · intro e he; exact absurd he (by simp)
  · intro x; rfl
  · show wpAny M A (loadGlobal env "__name__") Q E s
    unfold loadGlobal
    rw [hgl]
    refine wpAny_bind (wpAny_nsGet (T.g.keeps D.keep) ?_)
    rw [hn]
    exact wpAny_pure h
theorem codeHd_move {h h' : Heap} {c P : Addr} {o : Obj} (C : CodeHd h c P) (e : h.get? c = some o) (e' : h'.get? c = some o) : CodeHd h' c P := by
  obtain ⟨o₃, v₃, f₃, tf₃, fl₃, tg₃, b₃, tx₃, tt₃, e₃, r₃⟩ := C
  rw [e] at e₃; cases e₃
  exact ⟨o, v₃, f₃, tf₃, fl₃, tg₃, b₃, tx₃, tt₃, e', r₃⟩
noncomputable def clsRest (body : List Stmt) (statics : List Str) (cenv : Env) (nameV : Value) (gT nsA : Addr) : Sem Value := do
  let _ ← run (.body body cenv)
  (do
    let x ← statics.mapM mkText
    let y ← newTextTuple x
    storeName cenv "__static_attributes__" y
    pure ()).onRaise (leavingAround cenv)
  call (.type "type") [nameV, .ref gT, .ref nsA] >>= fun cls => pure cls
noncomputable abbrev cEnv (scope : Scope) (nsA : Addr) (cells : List (Str × Addr)) (qual : Str) (c' fr : Addr) : Env := { scope := scope, locals := nsA, globals := mainGlobals, cells := cells, qual := qual ++ Str.ofString ".", code := .ref c', frame := some fr, builtins := builtinsNs }
theorem m_guard {Q : Unit → Shared → Prop} {A : Around} (D : Led g s.heap l) (T : Top p loose mean mg mb g) (hb : env.builtins = builtinsNs) (h : Q () s) : wpAny (MD w) A (buildClassGuard env) Q E s := by
  unfold buildClassGuard
  rw [hb]
  refine wpAny_bind (wpAny_nsGet (T.b.keeps D.keep) ?_)
  rw [T.builtins _ (by decide +kernel)]
  have : bootBuiltins "__build_class__" = some (.builtin "__build_class__") := by decide +kernel
  rw [this]
  exact wpAny_pure h
theorem ty_object : typeOf (.type "object") = pure (.type "type") := by kernel_rfl
theorem sub_type : isSubtype (.type "type") (.type "type") = pure true := by kernel_rfl
theorem sp_dict {M : Model} {A : Around} {E : Value → Shared → Prop} {s : Shared} {a : Addr} {o : Obj} {Q : Option Value → Shared → Prop} (ho : s.heap.get? a = some o) (hc : o.cls = .type "dict") (h : Q (some (.builtin "dict.__getitem__")) s) : wpAny M A (specialOf (.ref a) "__getitem__") Q E s := by
  exact wpAny_specialOf (T := "dict") ⟨o, ho, hc⟩ (by kernel_rfl) h
theorem forIn_one {α β : Type} {M : Model} {A : Around} {E : Value → Shared → Prop} {s : Shared} {x : α} {b b' : β} {f : α → β → Sem (ForInStep β)} {Q : β → Shared → Prop} (h : ∀ K : ForInStep β → Shared → Prop, K (.yield b') s → wpAny M A (f x b) K E s) (hq : Q b' s) :
    wpAny M A (forIn [x] b f) Q E s := by
  rw [List.forIn_cons]
  refine wpAny_bind (h _ ?_)
  show wpAny M A (forIn [] b' f) Q E s
  rw [List.forIn_nil]
  exact wpAny_pure hq
theorem m_build {Q : Value → Shared → Prop} {firstLine : Nat} {qual : Str} (D : Led g s.heap l) (T : Top p loose mean mg mb g) (iP : Nat) (hi : l[iP]? = some (P, tabObj ps)) (C : CodeHd g c P) (hc : env.code = .ref c) (ht : TriplesOk ps.toList) (hnf : codeAmong pos ps.toList = none)
    (hgl : env.globals = mainGlobals) (hsm : ∃ o, g.get? sysModules = some o) (hk1 : scope.names.lookup (Str.ofString "__name__") = none) (hk2 : scope.names.lookup (Str.ofString "__module__") = some NameKind.local) (hk3 : scope.names.lookup (Str.ofString "__qualname__") = none) (hk4 : scope.names.lookup (Str.ofString "__firstlineno__") = none) (hkc : scope.kind = .class) {nv : Value} (hmg : mg "__name__" = some nv) (hclo : closureFor scope env = pure cells) (hcls : (List.lookup (Str.ofString "__class__") scope.names == some NameKind.cell) = false) (hcld : (List.lookup (Str.ofString "__classdict__") scope.names == some NameKind.cell) = false)
    (H : ∀ c' P' oc vs t nsA gT fr hh1 t1 hh2 t2 q2 hh3 t3 q3 nt h tk n1 (n2 : Nat), Led g h ((c', oc) :: (P', tabObj #[]) :: (nsA, dictO [{ hash := hh1, key := .str "__module__" t1, val := nv }, { hash := hh2, key := .str "__qualname__" t2, val := .str qual q2 }, { hash := hh3, key := .str "__firstlineno__" t3, val := .int firstLine q3 }] n1) :: (gT, tupObj [.type "object"] n2) :: l.set iP (P, tabObj (ps ++ #[rawInt pos.line, rawInt pos.col, .ref c']))) →
      CodeHd h c' P' → oc.data = .fields vs → vs[1]? = some (.str qual t) →
      wpAny (MD w) ((callerA.deeper e1).deeper env) (clsRest body statics (cEnv scope nsA cells qual c' fr) (.str name nt) gT nsA) Q E { s with heap := h, toks := tk }) :
    wpAny (MD w) ((callerA.deeper e1).deeper env) (buildClass name qual [.type "object"] [] body scope statics firstLine env pos none) Q E s := by
  unfold buildClass
  refine wpAny_bind (m_newTuple D fun gT h₁ D₁ => ?_)
  refine wpAny_bind (forIn_one (b' := ([Value.type "object"], false)) (fun K hK => ?_) ?_)
  · refine wpAny_bind (m := isType _) (wpAny_pure ?_)
    dsimp only
    rw [if_pos rfl, if_neg (by decide)]
    exact wpAny_pure hK
  extract_lets -underBinder bases replaced jp1
  refine wpAny_bind (m := typeOf _) (wpAny_of_eq ty_object ?_)
  show wpAny _ _ (jp1 (.type "type")) _ _ _
  dsimp -zeta only [jp1]
  refine wpAny_bind (m := isType _) (wpAny_pure ?_)
  extract_lets -underBinder jp2
  rw [if_pos rfl]
  refine wpAny_bind (forIn_one (b' := Value.type "type") (fun K hK => ?_) ?_)
  · refine wpAny_bind (m := typeOf _) (wpAny_of_eq ty_object ?_)
    refine wpAny_bind (m := isSubtype _ _) (wpAny_of_eq sub_type ?_)
    exact wpAny_pure hK
  show wpAny _ _ (jp2 () (.type "type")) _ _ _
  dsimp -zeta only [jp2]
  extract_lets -underBinder kw
  refine wpAny_bind (wpAny_mkText ?_)
  extract_lets -underBinder jp3
  rw [if_neg Bool.false_ne_true]
  refine wpAny_bind (wpAny_pure ?_)
  dsimp -zeta only [jp3]
  refine wpAny_holding ?_
  unfold getAttr?
  refine wpAny_bind (wpAny_bind (wpAny_mkText (Mine.m_prepare w e1 env _ _ E _ fun a h₂ o M₂ eo => ?_)))
  subst eo
  have D₂ := D₁.mem M₂
  extract_lets -underBinder jp4
  show wpAny _ _ (call (.ref a) _ kw >>= jp4) _ _ _
  refine wpAny_bind (Mine.m_prepcall w e1 env _ _ E a gT name _ (D₂.get 0 rfl) (D₂.get 1 rfl) fun nsA h₃ tk₃ M₃ => ?_)
  have D₃ := (D₂.mem M₃).drop (l' := (nsA, dictO [] 0) :: (gT, tupObj [.type "object"] 0) :: l) (by exact (List.Sublist.cons₂ _ (List.Sublist.cons _ (List.Sublist.refl _))))
  clear D₂ M₃ M₂ D₁
  have hsys : (nsA == sysModules) = false := by
    refine beq_eq_false_iff_ne.mpr fun q => ?_
    obtain ⟨o, ho⟩ := hsm
    have z := (D₃.nw _ (List.Mem.head _)).2
    rw [show (nsA, dictO [] 0).1 = sysModules from q, ho] at z
    cases z
  dsimp -zeta only [jp4]
  extract_lets -underBinder jp5
  show wpAny _ _ (jp5 ()) _ _ _
  dsimp -zeta only [jp5]
  extract_lets -underBinder jp6
  show wpAny _ _ (jp6 ()) _ _ _
  dsimp -zeta only [jp6]
  have hN : ∀ x, notTheModulesDict x nsA = pure () := fun x => by simp only [notTheModulesDict, hsys, Bool.false_eq_true, if_false]
  refine wpAny_bind (wpAny_of_eq (hN _) ?_)
  refine wpAny_bind (sp_dict (D₃.get 0 rfl) rfl ?_)
  extract_lets -underBinder jp7
  rw [if_neg (show ¬ (Option.isNone (some _) = true) from Bool.false_ne_true)]
  show wpAny _ _ (jp7 ()) _ _ _
  dsimp -zeta only [jp7]
  refine wpAny_holding ?_
  extract_lets -underBinder jp8
  rw [if_neg (by rw [hcls]; exact Bool.false_ne_true)]
  refine wpAny_bind (wpAny_pure ?_)
  dsimp -zeta only [jp8]
  extract_lets -underBinder jp9
  rw [if_neg (by rw [hcld]; exact Bool.false_ne_true)]
  refine wpAny_bind (wpAny_pure ?_)
  dsimp -zeta only [jp9]
  unfold classCode
  refine wpAny_bind (m_codeAt (qualname := qual) D₃ (iP + 2) hi (C.keeps D₃.keep) hc ht hnf (fun ctx s Q hQ => wpAny_newCodeX hQ) fun c' P' oc vs t h₄ tk₄ D₄ C' hcls' hd hv => ?_)
  rw [hgl]
  obtain ⟨bm, ob, b1, b2, b3, b4, b5, b6⟩ := T.bmain
  refine wpAny_bind (wpAny_builtinsFor (T.g.keeps D₄.keep) b1 b2 (D₄.keep _ _ b3) b4 b5 b6 ?_)
  unfold newBodyFrame
  refine wpAny_bind (wpAny_bind (wpAny_nsGet (T.g.keeps D₄.keep) (m_alloc D₄ fun fr h₅ D₅ => ?_)))
  rw [hclo]
  refine wpAny_bind (wpAny_pure ?_)
  extract_lets -underBinder cenv
  refine wpAny_holding (wpAny_bind (wpAny_enterFrame (T.nolimit.keeps D₅.keep) (Nat.le_of_ble_eq_true rfl) ?_))
  have D₆ : Led g h₅ ((c', oc) :: (P', tabObj #[]) :: (nsA, dictO [] 0) :: (gT, tupObj [.type "object"] 0) :: l.set iP (P, tabObj (ps ++ #[rawInt pos.line, rawInt pos.col, .ref c']))) := D₅.drop (List.Sublist.cons _ (List.Sublist.refl _))
  clear D₅ D₃
  refine wpAny_bind (wpAny_onRaise ?_)
  refine wpAny_bind (m_loadName (env := cEnv scope nsA cells qual c' fr) D₆ T 2 rfl hk1 hkc rfl hmg ?_)
  refine wpAny_bind (m_store (env := cEnv scope nsA cells qual c' fr) D₆ 2 rfl hk2 hkc rfl rfl fun hh1 h₇ D₇ => ?_)
  dsimp only [List.set, List.nil_append] at D₇ ⊢
  refine wpAny_bind (wpAny_mkText (wpAny_bind (m_storeO (env := cEnv scope nsA cells qual c' fr) D₇ 2 rfl hk3 hkc (by decide +kernel) rfl rfl fun hh2 t2 h₈ tk₈ D₈ => ?_)))
  dsimp only [List.set, List.cons_append, List.nil_append] at D₈ ⊢
  refine wpAny_bind (wpAny_mkInt (wpAny_bind (m_storeO (env := cEnv scope nsA cells qual c' fr) D₈ 2 rfl hk4 hkc (by decide +kernel) rfl rfl fun hh3 t3 h₉ tk₉ D₉ => ?_)))
  dsimp only [List.set, List.cons_append, List.nil_append] at D₉ ⊢
  refine wpAny_pure ?_
  have z := H c' P' oc vs t nsA gT fr hh1 _ hh2 t2 _ hh3 t3 _ s.toks h₉ tk₉ _ _ D₉ (codeHd_move C' (D₄.get 0 rfl) (D₉.get 0 rfl)) hd hv
  unfold clsRest at z
  exact z
end
end Mine
end
section
namespace Mine
open PySem.Calls PySem.Spec PySem.W.X
section
variable {w : World} {e1 : Env} {E : Value → Shared → Prop} {s : Shared} {g : Heap} {l : List (Addr × Obj)} {p : Program} {loose : List Str} {mean : ExcName → Option Value} {mg mb : Str → Option Value}
  {env : Env} {c P : Addr} {ps : Array Value} {pos p0 : Pos} {name : Str} {body : List Stmt} {scope : Scope} {statics : List Str} {cells : List (Str × Addr)} {x1 : Option Scope} {b0 : Str}
theorem m_list1 {M : Model} {A : Around} {x : Str} {k} {pc pl : Pos} {Q : Value → Shared → Prop} (h : Q (.ref s.heap.objs.size) { s with heap := s.heap.push { cls := .type "list", data := .seq [.str x s.toks].toArray }, toks := s.toks + 1 }) : wpAny M A (eval (.List [.Constant (.str x) k pc] pl) env) Q E s := by
  refine wpAny_List ?_
  show wpAny _ _ (spliced [(false, eval (.Constant (.str x) k pc) env)]) _ _ s
  exact spliced_cons (wpAny_Constant_str (spliced_nil ⟨by size_fits, h⟩))
/- A class statement in a function, over «object», without keywords and decorators. -/
theorem m_class {Q : Flow → Shared → Prop} (D : Led g s.heap l) (T : Top p loose mean mg mb g) (iP : Nat) (hi : l[iP]? = some (P, tabObj ps)) (C : CodeHd g c P) (hc : env.code = .ref c) (ht : TriplesOk ps.toList) (hnf : codeAmong pos ps.toList = none)
    (hgl : env.globals = mainGlobals) (hbl : env.builtins = builtinsNs) (hsm : ∃ o, g.get? sysModules = some o) (hk1 : scope.names.lookup (Str.ofString "__name__") = none) (hk2 : scope.names.lookup (Str.ofString "__module__") = some NameKind.local) (hk3 : scope.names.lookup (Str.ofString "__qualname__") = none) (hk4 : scope.names.lookup (Str.ofString "__firstlineno__") = none) (hkc : scope.kind = .class) {nv : Value} (hmg : mg "__name__" = some nv) (hclo : closureFor scope env = pure cells) (hcls : (List.lookup (Str.ofString "__class__") scope.names == some NameKind.cell) = false) (hcld : (List.lookup (Str.ofString "__classdict__") scope.names == some NameKind.cell) = false)
    (hobj : ∀ Q : Value → Shared → Prop, Q (.type "object") s → wpAny (MD w) ((callerA.deeper e1).deeper env) (eval (.Name b0 p0) env) Q E s)
    (H : ∀ c' P' oc vs t nsA gT fr hh1 t1 hh2 t2 q2 hh3 t3 q3 nt h tk n1 (n2 : Nat), Led g h ((c', oc) :: (P', tabObj #[]) :: (nsA, dictO [{ hash := hh1, key := .str "__module__" t1, val := nv }, { hash := hh2, key := .str "__qualname__" t2, val := .str (qualnameIn env name name) q2 }, { hash := hh3, key := .str "__firstlineno__" t3, val := .int pos.line q3 }] n1) :: (gT, tupObj [.type "object"] n2) :: l.set iP (P, tabObj (ps ++ #[rawInt pos.line, rawInt pos.col, .ref c']))) →
      CodeHd h c' P' → oc.data = .fields vs → vs[1]? = some (.str (qualnameIn env name name) t) →
      wpAny (MD w) ((callerA.deeper e1).deeper env) (clsRest body statics (cEnv scope nsA cells (qualnameIn env name name) c' fr) (.str name nt) gT nsA) (fun cls s' => wpAny (MD w) ((callerA.deeper e1).deeper env) (bindName env name cls) (fun _ s'' => Q .next s'') E s') E { s with heap := h, toks := tk }) :
    wpAny (MD w) ((callerA.deeper e1).deeper env) (exec (.ClassDef name [.Name b0 p0] [] body [] [] scope x1 name statics pos) env) Q E s := by
  rw [arm_exec_ClassDef]
  refine wpAny_bind (wpAny_pure (wpAny_bind (wpAny_standAt (wpAny_bind (m_guard D T hbl ?_)))))
  refine wpAny_bind (wpAny_holding (wpAny_bind ?_))
  unfold evalArgs
  refine wpAny_bind ?_
  show wpAny _ _ (spliced [(false, eval (.Name b0 p0) env)]) _ _ s
  refine spliced_cons (hobj _ (spliced_nil ?_))
  refine wpAny_bind (wpAny_pure (wpAny_holding ?_))
  refine wpAny_bind (wpAny_pure (wpAny_bind (wpAny_pure (wpAny_pure ?_))))
  refine wpAny_bind (wpAny_standAt (wpAny_holding ?_))
  simp only [List.map_nil, List.append_nil, List.zip_nil_right, List.reverse_nil]
  refine m_build D T iP hi C hc ht hnf hgl hsm hk1 hk2 hk3 hk4 hkc hmg hclo hcls hcld fun c' P' oc vs t nsA gT fr hh1 t1 hh2 t2 q2 hh3 t3 q3 nt h tk n1 n2 D' C' hd hv => ?_
  refine wpAny_mono (H c' P' oc vs t nsA gT fr hh1 t1 hh2 t2 q2 hh3 t3 q3 nt h tk n1 n2 D' C' hd hv) (fun cls s' h' => ?_) fun _ _ x => x
  refine wpAny_bind (wpAny_pure (wpAny_bind (wpAny_standAt (wpAny_bind (wpAny_mono h' (fun _ _ z => wpAny_pure z) fun _ _ x => x)))))
end
end Mine
end
section
namespace Mine
open PySem.Calls PySem.Spec PySem.W.X
theorem en_new : entryFor table "type.__new__" = some Builtin.«type.__new__» := entryFor_of_tree (by kernel_rfl)
theorem en_tinit : entryFor table "type.__init__" = some Builtin.«type.__init__» := entryFor_of_tree (by kernel_rfl)
theorem ty_no : (((Manifest.find? "type").bind fun t => t.mro.findSome? fun t => (Manifest.find? t).bind fun b => if b.noNew then some true else if b.attrs.any (·.1 == "__new__") then some false else none).getD false) = false := by decide +kernel
theorem ty_mro : mroOf (.type "type") = pure [.type "type", .type "object"] := by kernel_rfl
theorem ty_made : Bind.madeBy (.type "type") = pure (some "type.__new__") := by kernel_rfl
theorem ty_check (a b c : Value) : checkTypeCall "type" ⟨[a, b, c], []⟩ = pure () := by kernel_rfl
theorem ty_init : typeLookup (.type "type") "__init__" = pure (some (.builtin "type.__init__")) := by kernel_rfl
theorem ty_initb (v : Value) : bindSpecial (.builtin "type.__init__") v = pure (.builtin "type.__init__", [v]) := by kernel_rfl
section
variable {w : World} {A : Around} {E : Value → Shared → Prop} {s : Shared} {x y z : Value}
theorem m_typeCall {Q : Value → Shared → Prop}
    (hnew : wpAny (MD w) (A.under (.builtin "type.__call__" ⟨[.type "type", x, y, z], []⟩)) (call (.builtin "type.__new__") [.type "type", x, y, z]) (fun v s' => ∃ κ o, v = .ref κ ∧ s'.heap.get? κ = some o ∧ o.cls = .type "type" ∧ Q v s') E s) :
    wpAny (MD w) A (call (.type "type") [x, y, z]) Q E s := by
  refine wpAny_call ?_
  refine codeAny_of_tree ?_
  show wpAny _ _ (callAny (.type "type") _) _ _ _
  unfold callAny
  refine wpAny_pure (a := Fin.again (.builtin "type.__call__" ⟨[.type "type", x, y, z], []⟩)) (And.intro (Code.quiet_builtin _ (by decide +kernel)) ?_)
  refine codeAny_builtin entry_typeCall ?_
  unfold Builtin.«type.__call__»
  simp only [beq_self_eq_true, if_true, List.length_cons, List.length_nil, show (0 + 1 + 1 + 1 == 1) = false from rfl, show (0 + 1 + 1 + 1 != 3) = false from rfl, Bool.false_eq_true, if_false]
  have e1 : ∀ (α : Type) (a b : Sem α), (if (((Manifest.find? "type").bind fun t => t.mro.findSome? fun t => (Manifest.find? t).bind fun b => if b.noNew then some true else if b.attrs.any (·.1 == "__new__") then some false else none).getD false) = true then a else b) = b := fun α a b => by rw [ty_no]; rfl
  rw [e1]
  rw [ty_check, ty_mro, ty_made]
  refine wpAny_bind (wpAny_pure (wpAny_bind (wpAny_pure ?_)))
  simp only [List.isEmpty_cons, Bool.false_eq_true, if_false]
  refine wpAny_bind (wpAny_pure (wpAny_bind (wpAny_pure (wpAny_bind (wpAny_holding (wpAny_mono hnew (fun v s' hv => ?_) fun _ _ z => z))))))
  obtain ⟨κ, o, rfl, ho, hc, hq⟩ := hv
  refine wpAny_bind (wpAny_isInstance (T := "type") ⟨o, ho, hc⟩ sub_type ?_)
  simp only [Bool.not_true, Bool.false_eq_true, if_false]
  refine wpAny_bind (wpAny_holding ?_)
  unfold callSpecial?
  refine wpAny_bind (wpAny_specialOf (T := "type") ⟨o, ho, hc⟩ ty_init ?_)
  refine wpAny_holding ?_
  rw [ty_initb]
  refine wpAny_bind (wpAny_pure (wpAny_bind (wpAny_call (codeAny_call_builtin_at (Code.quiet_builtin _ (by decide +kernel)) en_tinit (check_slot (i := "type.__init__") (owner := "type") (n := "__init__") (by decide +kernel) (by decide +kernel) ?_ (by unfold argsOk; kernel_rfl) ?_)))))
  · exact fun A Q E s k q => wpAny_isInstance (T := "type") ⟨o, k _ _ ho, hc⟩ sub_type q
  · unfold Builtin.«type.__init__»
    show wpAny _ _ (ret Value.none) _ _ _
    exact wpAny_pure (wpAny_pure (wpAny_pure hq))
end
end Mine
end
section
namespace Mine
open PySem.Calls PySem.Spec PySem.W.X
noncomputable abbrev clsO (cd : ClassData) (sl : Array (Option Value)) : Obj := { cls := .type "type", data := .cls cd, slots := sl }
theorem looks_cls {M : Model} {h : Heap} {κ ns : Addr} {cd : ClassData} {sl : Array (Option Value)} {od : Obj} {name : Str} {r : Option Value} (hκ : h.get? κ = some (clsO cd sl)) (hns : h.get? ns = some od) (hne : κ ≠ ns) (hm : cd.mro = [.ref κ, .type "object"]) (hn : cd.ns = ns)
    (e : (lookIn name od).map (fun r => r.orElse fun _ => fastBuiltinOwn "object" name) = some r) : Looks M h (typeLookup (.ref κ) name) r := by
  have hb : (ns == κ) = false := beq_eq_false_iff_ne.mpr (Ne.symm hne)
  have l1 : List.lookup κ [(κ, clsO cd sl), (ns, od)] = some (clsO cd sl) := by simp [List.lookup]
  have l2 : List.lookup ns [(κ, clsO cd sl), (ns, od)] = some od := by simp [List.lookup, hb]
  have hK : Frag.In [(κ, clsO cd sl), (ns, od)] h := by
    intro a o ha
    simp only [List.lookup] at ha
    split at ha
    · rename_i q; cases ha; rw [eq_of_beq q]; exact hκ
    · split at ha
      · rename_i q; cases ha; rw [eq_of_beq q]; exact hns
      · cases ha
  have hns2 : nsIn [(κ, clsO cd sl), (ns, od)] ns name = lookIn name od := by
    unfold nsIn lookIn
    rw [l2]
    rcases od with ⟨c, d, dt, s⟩
    cases dt <;> rfl
  refine looks_findIn hK ?_
  unfold findIn
  simp only [l1, hm]
  unfold alongIn
  have ho : ownIn [(κ, clsO cd sl), (ns, od)] name (.ref κ) = lookIn name od := by
    unfold ownIn
    simp only [l1, hn]
    exact hns2
  rw [ho]
  cases hl : lookIn name od with
  | none => rw [hl] at e; cases e
  | some r1 =>
    rw [hl] at e
    cases r1 with
    | some v => cases e; rfl
    | none =>
      simp only [Option.map_some, Option.some.injEq] at e
      subst e
      show alongIn _ name [.type "object"] = _
      unfold alongIn ownIn alongIn
      show (match (some (fastBuiltinOwn "object" name) : Option (Option Value)) with | some (some v) => some (some v) | some none => some none | none => none) = some ((none : Option Value).orElse fun _ => fastBuiltinOwn "object" name)
      cases fastBuiltinOwn "object" name <;> rfl
/- What the body of the class leaves: twelve names. -/
noncomputable abbrev kEs (h : Nat → Int) (t : Nat → Tok) (v : Nat → Value) : List DictEntry := [{ hash := h 0, key := .str (Str.ofString "__module__") (t 0), val := v 0 }, { hash := h 1, key := .str (Str.ofString "__qualname__") (t 1), val := v 1 }, { hash := h 2, key := .str (Str.ofString "__firstlineno__") (t 2), val := v 2 }, { hash := h 3, key := .str (Str.ofString "__slots__") (t 3), val := v 3 }, { hash := h 4, key := .str (Str.ofString "__init__") (t 4), val := v 4 }, { hash := h 5, key := .str (Str.ofString "__lt__") (t 5), val := v 5 }, { hash := h 6, key := .str (Str.ofString "__gt__") (t 6), val := v 6 }, { hash := h 7, key := .str (Str.ofString "__eq__") (t 7), val := v 7 }, { hash := h 8, key := .str (Str.ofString "__le__") (t 8), val := v 8 }, { hash := h 9, key := .str (Str.ofString "__ge__") (t 9), val := v 9 }, { hash := h 10, key := .str (Str.ofString "__hash__") (t 10), val := v 10 }, { hash := h 11, key := .str (Str.ofString "__static_attributes__") (t 11), val := v 11 }]
noncomputable abbrev kEs2 (h : Nat → Int) (t : Nat → Tok) (v : Nat → Value) : List DictEntry := [{ hash := h 0, key := .str (Str.ofString "__module__") (t 0), val := v 0 }, { hash := h 2, key := .str (Str.ofString "__firstlineno__") (t 2), val := v 2 }, { hash := h 3, key := .str (Str.ofString "__slots__") (t 3), val := v 3 }, { hash := h 4, key := .str (Str.ofString "__init__") (t 4), val := v 4 }, { hash := h 5, key := .str (Str.ofString "__lt__") (t 5), val := v 5 }, { hash := h 6, key := .str (Str.ofString "__gt__") (t 6), val := v 6 }, { hash := h 7, key := .str (Str.ofString "__eq__") (t 7), val := v 7 }, { hash := h 8, key := .str (Str.ofString "__le__") (t 8), val := v 8 }, { hash := h 9, key := .str (Str.ofString "__ge__") (t 9), val := v 9 }, { hash := h 10, key := .str (Str.ofString "__hash__") (t 10), val := v 10 }, { hash := h 11, key := .str (Str.ofString "__static_attributes__") (t 11), val := v 11 }]
theorem m_nsGet {M : Model} {A : Around} {E : Value → Shared → Prop} {s : Shared} {a : Addr} {o : Obj} {name : Str} {r : Option Value} {Q : Option Value → Shared → Prop} (ho : s.heap.get? a = some o) (e : lookIn name o = some r) (h : Q r s) : wpAny M A (nsGet a name) Q E s := by
  unfold nsGet
  refine wpAny_bind (wpAny_loadPart ho ?_)
  rw [nsLook_of e]; exact wpAny_pure h
section
variable {M : Model} {A : Around} {E : Value → Shared → Prop} {s : Shared} {g : Heap} {l : List (Addr × Obj)} {a : Addr} {o o' : Obj}
theorem m_part {part : Option Value} {f : Obj → Obj} {Q : Unit → Shared → Prop} (D : Led g s.heap l) (i : Nat) (hi : l[i]? = some (a, o)) (e : f o = o') (hf : o'.isFreed = false) (h : ∀ s', Same s s' → Led g s'.heap (l.set i (a, o')) → Q () s') : wpAny M A (updatePart a part f) Q E s :=
  m_update D i hi (fun h' D' => h _ ⟨rfl, rfl, rfl⟩ (e ▸ D')) (e ▸ hf)
theorem m_slot {k : Nat} {v : Option Value} {Q : Unit → Shared → Prop} (D : Led g s.heap l) (i : Nat) (hi : l[i]? = some (a, o)) (hk : decide (k ≥ sizeLine) = false) (e : ({ o with slots := (o.slots ++ Array.replicate (k + 1 - o.slots.size) none).setIfInBounds k v } : Obj) = o') (hf : o'.isFreed = false)
    (h : ∀ s', Same s s' → Led g s'.heap (l.set i (a, o')) → Q () s') : wpAny M A (setSlotAt a k v) Q E s := by
  unfold setSlotAt
  refine wpAny_ite_false hk ?_
  exact m_part D i hi e hf h
theorem m_allocS {Q : Addr → Shared → Prop} (D : Led g s.heap l) (h : ∀ a s', Same s s' → Led g s'.heap ((a, o) :: l) → Q a s') (hf : o.isFreed = false := by rfl) : wpAny M A (alloc o) Q E s := m_alloc D (fun a h' D' => h a _ ⟨rfl, rfl, rfl⟩ D') hf
theorem m_newObjS {T : String} {data : Data} {dict : Option Addr} {Q : Value → Shared → Prop} (D : Led g s.heap l) (h : ∀ a s', Same s s' → Led g s'.heap ((a, { cls := .type T, dict, data }) :: l) → Q (.ref a) s')
    (hd : sizeOk data := by size_fits) (hf : ({ cls := .type T, dict, data } : Obj).isFreed = false := by rfl) : wpAny M A (newObj (.type T) data dict) Q E s := m_newObj D (fun a h' D' => h a _ ⟨rfl, rfl, rfl⟩ D') hd hf
theorem m_updateCls {cd cd' : ClassData} {sl : Array (Option Value)} {f : ClassData → ClassData} {Q : Unit → Shared → Prop} (D : Led g s.heap l) (i : Nat) (hi : l[i]? = some (a, clsO cd sl)) (e : f cd = cd') (hp : (Data.cls cd').pastItsLine = none)
    (h : ∀ s', Same s s' → Led g s'.heap (l.set i (a, clsO cd' sl)) → Q () s') : wpAny M A (updateCls a f) Q E s := by
  unfold updateCls
  refine wpAny_bind (wpAny_load (D.get i hi) ?_)
  have e2 : Obj.mapCls f (clsO cd sl) = clsO cd' sl := by rw [← e]; rfl
  refine wpAny_bind (m_upd D i hi (fun h' D' => ?_) (by rw [e2]; rfl))
  rw [e2] at D'
  obtain ⟨li, _⟩ := List.getElem?_eq_some_iff.mp hi
  exact wpAny_lookBehind (D'.get i (by rw [List.getElem?_set_self li])) hp (h _ ⟨rfl, rfl, rfl⟩ D')
theorem m_nsDel {name : Str} {Q : Bool → Shared → Prop} (D : Led g s.heap l) (i : Nat) (hi : l[i]? = some (a, o)) (hh : nsHas name o = pure true) (e : Obj.dropName name o = o') (hf : o'.isFreed = false)
    (h : ∀ s', Same s s' → Led g s'.heap (l.set i (a, o')) → Q true s') : wpAny M A (nsDel a name) Q E s := by
  unfold nsDel
  refine wpAny_bind (wpAny_loadPart (D.get i hi) ?_)
  rw [hh]
  refine wpAny_bind (wpAny_pure ?_)
  refine wpAny_ite_true (by rfl) ?_
  exact wpAny_bind (m_part D i hi e hf fun s' S' D' => wpAny_pure (h s' S' D'))
end
end Mine
end
section
namespace Mine
open PySem.Calls PySem.Spec PySem.W.X
noncomputable abbrev mdO (κ : Addr) (t : Tok) : Obj := { cls := .type "member_descriptor", data := .fields #[.str (Str.ofString "obj") t, .ref κ, .builtin "proto.slot", .builtin "proto.slot#set", rawInt 0] }
theorem gives_object : Builtin.Slots.givesDict (.type "object") = pure false := by kernel_rfl
section
variable {M : Model} {A : Around} {E : Value → Shared → Prop} {s : Shared} {g : Heap} {l : List (Addr × Obj)} {κ ns : Addr} {hs : Nat → Int} {ts : Nat → Tok} {vs : Nat → Value} {cd : ClassData} {sl : Array (Option Value)}
theorem m_install {Q : Unit → Shared → Prop} (D : Led g s.heap ((κ, clsO cd sl) :: (ns, { cls := .type "dict", data := .dict (kEs2 hs ts vs).toArray 1 }) :: l))
    (hp : (Data.cls { cd with hasDict := false, slotNames := [Str.ofString "obj"] }).pastItsLine = none)
    (h : ∀ md tm hh tt s', Same s s' → Led g s'.heap ((md, mdO κ tm) :: (κ, clsO { cd with hasDict := false, slotNames := [Str.ofString "obj"] } sl) :: (ns, { cls := .type "dict", data := .dict (kEs2 hs ts vs ++ [({ hash := hh, key := .str (Str.ofString "obj") tt, val := .ref md } : DictEntry)]).toArray 2 }) :: l) → Q () s') :
    wpAny M A (Builtin.Slots.install (.ref κ) ns [.type "object"] { names := [Str.ofString "obj"], dict := false, weak := false, inherited := [] }) Q E s := by
  unfold Builtin.Slots.install
  simp only [List.forIn_cons, List.forIn_nil, gives_object, pure_bind, Bool.false_eq_true, if_false]
  refine wpAny_bind (wpAny_bind (wpAny_bind (m_nsGet (D.get 1 rfl) (r := none) (by kernel_rfl) ?_)))
  refine wpAny_ite_true (by rfl) ?_
  refine wpAny_bind (wpAny_mkStr (wpAny_bind ?_) (by decide +kernel))
  unfold newFields
  refine m_newObj D (fun md h1 D1 => ?_) (by size_fits) rfl
  unfold nsSetByValue
  refine wpAny_bind (wpAny_bind (wpAny_loadPart (D1.get 2 rfl) ?_))
  dsimp only
  refine wpAny_ite_false (by kernel_rfl) ?_
  refine m_nsSet (es := kEs2 hs ts vs) D1 2 rfl (by rfl) (by kernel_rfl) fun hh h2 D2 => ?_
  dsimp only [List.set] at D2
  refine wpAny_pure (wpAny_pure ?_)
  refine wpAny_ite_false (by kernel_rfl) ?_
  refine m_updateCls D2 1 rfl (cd' := { cd with hasDict := false, slotNames := [Str.ofString "obj"] }) (by rfl) hp fun s3 S3 D3 => ?_
  exact h md _ hh _ s3 ⟨S3.1, S3.2.1, S3.2.2⟩ D3
end
end Mine
end
section
namespace Mine
open PySem.Calls PySem.Spec PySem.W.X
end Mine
theorem Mine.m_super (w : World) (e1 e2 : Env) (s : Shared) (Q : Value → Shared → Prop) (E : Value → Shared → Prop) (κ ns : Addr) (t1 t2 t3 : Value) (n q : Str) (es : Array DictEntry) (k : Nat) (c1 c2 : Args)
   (hk : s.heap.get? κ = some { cls := .type "type", data := .cls { name := n, bases := [.type "object"], mro := [.ref κ, .type "object"], ns, qualname := q, hasDict := false, slotNames := [PySem.Str.ofString "obj"] }, slots := #[some t1, none, some t2, some t3, some (.builtin "object.__new__"), some (.bool false)] })
   (hQ8 : ∀ a h tk, PySem.W.X.Mem s.heap h [] [(a, { cls := .type "super", data := .fields #[.ref κ, .ref κ, .ref κ] })] → Q (.ref a) { heap := h, gens := s.gens, drawn := s.drawn, toks := tk, os := s.os }) :
   wpAny (model PySem.Challenge.rw_ij0209_01.row.prog w) ((((PySem.callerA.deeper e1).deeper e2).under (.builtin "type.__call__" c1)).under (.builtin "type.__new__" c2)) (call (.type "super") [.ref κ, .ref κ]) Q E s := by
  x_run
namespace Mine
open PySem
theorem is_own : classOwn (.type "object") "__init_subclass__" = pure (some (.builtin "object.__init_subclass__")) := by kernel_rfl
end Mine
theorem Mine.m_cmget (w : World) (e1 e2 : Env) (s : Shared) (Q : Value → Shared → Prop) (E : Value → Shared → Prop) (κ ns : Addr) (t1 t2 t3 : Value) (n q : Str) (c1 c2 c3 : Args)
   (hk : s.heap.get? κ = some { cls := .type "type", data := .cls { name := n, bases := [.type "object"], mro := [.ref κ, .type "object"], ns, qualname := q, hasDict := false, slotNames := [PySem.Str.ofString "obj"] }, slots := #[some t1, none, some t2, some t3, some (.builtin "object.__new__"), some (.bool false)] })
   (hQ8 : ∀ a h tk o, PySem.W.X.Mem s.heap h [] [(a, o)] → o = { cls := .type "builtin_function_or_method", data := .fields #[.builtin "object.__init_subclass__", .ref κ] } → Q (.ref a) { heap := h, gens := s.gens, drawn := s.drawn, toks := tk, os := s.os }) :
   wpAny (model PySem.Challenge.rw_ij0209_01.row.prog w) (((((PySem.callerA.deeper e1).deeper e2).under (.builtin "type.__call__" c1)).under (.builtin "type.__new__" c2)).under (.builtin "super.__getattribute__" c3)) (call (.builtin "classmethod_descriptor.__get__") [.builtin "object.__init_subclass__", .none, .ref κ]) Q E s := by
  x_run
end
section
namespace Mine
open PySem.Calls PySem.Spec PySem.W.X
theorem en_sup : entryFor table "super.__getattribute__" = some Builtin.«super.__getattribute__» := entryFor_of_tree (by kernel_rfl)
theorem sup_ga : typeLookup (.type "super") "__getattribute__" = pure (some (.builtin "super.__getattribute__")) := by kernel_rfl
theorem sup_bind (v : Value) : bindSpecial (.builtin "super.__getattribute__") v = pure (.builtin "super.__getattribute__", [v]) := by kernel_rfl
theorem is_ty : typeOf (.builtin "object.__init_subclass__") = pure (.type "classmethod_descriptor") := by kernel_rfl
theorem is_get1 : typeLookup (.type "classmethod_descriptor") "__get__" = pure (some (.builtin "classmethod_descriptor.__get__")) := by kernel_rfl
section
variable {w : World} {e1 e2 : Env} {E : Value → Shared → Prop} {s : Shared} {κ ns sup : Addr} {cd : ClassData} {sl : Array (Option Value)} {c1 c2 : Args}
theorem m_supattr {Q : Value → Shared → Prop} (hs : s.heap.get? sup = some { cls := .type "super", data := .fields #[.ref κ, .ref κ, .ref κ] }) (hk : s.heap.get? κ = some (clsO cd sl)) (hm : cd.mro = [.ref κ, .type "object"])
    (hq : ∀ t, wpAny (MD w) (((((PySem.callerA.deeper e1).deeper e2).under (.builtin "type.__call__" c1)).under (.builtin "type.__new__" c2)).under (.builtin "super.__getattribute__" ⟨[.ref sup, .str (Str.ofString "__init_subclass__") t], []⟩)) (call (.builtin "classmethod_descriptor.__get__") [.builtin "object.__init_subclass__", .none, .ref κ]) (fun v s' => ∃ a, v = .ref a ∧ Q v s') (fun _ _ => False) { s with toks := s.toks + 1 })
    (hop : Looks (MD w) s.heap (opaqueClassAbove (.ref κ)) none) :
    wpAny (MD w) ((((PySem.callerA.deeper e1).deeper e2).under (.builtin "type.__call__" c1)).under (.builtin "type.__new__" c2)) (getAttr (.ref sup) "__init_subclass__") Q E s := by
  unfold getAttr
  refine wpAny_bind (wpAny_mkText ?_)
  unfold getAttrBy
  refine wpAny_holding (wpAny_bind (wpAny_typeOf (T := "super") ⟨_, hs, rfl⟩ (wpAny_bind (wpAny_of_eq sup_ga ?_))))
  dsimp only
  refine wpAny_ite_false (by rfl) ?_
  unfold getAttrByItsOwn
  refine wpAny_bind (wpAny_of_eq (a := none) (by rfl) (wpAny_bind (wpAny_attempt (wpAny_holding ?_))))
  unfold callGetattribute
  refine wpAny_ite_false (by rfl) ?_
  unfold boundAndCalled
  rw [sup_bind]
  refine wpAny_bind (wpAny_pure (wpAny_call (codeAny_call_builtin_at (Code.quiet_builtin _ (by decide +kernel)) en_sup (check_slot (i := "super.__getattribute__") (owner := "super") (n := "__getattribute__") (by decide +kernel) (by decide +kernel) ?_ (by unfold argsOk; kernel_rfl) ?_))))
  · exact fun A Q E s k q => wpAny_isInstance (T := "super") ⟨_, k _ _ hs, rfl⟩ (by kernel_rfl) q
  · unfold Builtin.«super.__getattribute__»
    show wpAny _ _ (asStr? (.str _ _) >>= _) _ _ _
    refine wpAny_bind (wpAny_of_eq (a := some (Str.ofString "__init_subclass__")) (by rfl) ?_)
    extract_lets
    refine wpAny_ite_false (by rfl) ?_
    show wpAny _ _ (asStr? (.str _ _) >>= _) _ _ _
    refine wpAny_bind (wpAny_of_eq (a := some (Str.ofString "__init_subclass__")) (by rfl) ?_)
    show wpAny _ _ (field (.ref sup) 0 >>= _) _ _ _
    refine wpAny_bind ((looks_field (M := MD w) (h := s.heap) hs 0 (v := .ref κ) rfl) _ _ _ _ (fun _ _ e => e) ?_)
    refine wpAny_bind ((looks_field (M := MD w) (h := s.heap) hs 1 (v := .ref κ) rfl) _ _ _ _ (fun _ _ e => e) ?_)
    refine wpAny_bind ((looks_field (M := MD w) (h := s.heap) hs 2 (v := .ref κ) rfl) _ _ _ _ (fun _ _ e => e) ?_)
    refine wpAny_ite_false (by kernel_rfl) ?_
    refine wpAny_bind ?_
    unfold notOfAnOpaqueClass
    refine wpAny_bind (hop _ _ _ _ (fun _ _ e => e) (wpAny_pure ?_))
    extract_lets
    refine wpAny_ite_false (by rfl) ?_
    have hmro : Looks (MD w) s.heap (mroOf (.ref κ)) cd.mro := ((Looks.ld (part := none) hk).andThen .now).andThen .now
    show wpAny _ _ (mroOf (.ref κ) >>= _) _ _ _
    refine wpAny_bind (hmro _ _ _ _ (fun _ _ e => e) ?_)
    extract_lets
    show wpAny _ _ (forIn (List.drop 1 (List.dropWhile (fun x => x != Value.ref κ) cd.mro)) _ _ >>= _) _ _ _
    refine wpAny_bind ?_
    have hd : List.drop 1 (List.dropWhile (fun x => x != Value.ref κ) cd.mro) = [.type "object"] := by rw [hm]; simp
    rw [hd, List.forIn_cons]
    refine wpAny_bind (wpAny_bind (wpAny_of_eq is_own ?_))
    refine wpAny_bind (wpAny_of_eq is_ty (wpAny_bind (wpAny_of_eq is_get1 ?_)))
    have hne : (if (Value.ref κ == Value.ref κ) = true then Value.none else Value.ref κ) = Value.none := by simp
    rw [hne]
    refine wpAny_bind (wpAny_holding (wpAny_mono (hq _) (fun v s' hv => ?_) fun _ _ z => z.elim))
    obtain ⟨a, rfl, hv⟩ := hv
    refine wpAny_bind (wpAny_pure (wpAny_pure ?_))
    refine wpAny_pure ?_
    extract_lets
    refine wpAny_pure ?_
    exact wpAny_pure hv
end
end Mine
end
section
theorem Mine.m_initsub (w : World) (e1 e2 : Env) (s : Shared) (Q : Value → Shared → Prop) (E : Value → Shared → Prop) (κ ns f : Addr) (t1 t2 : Value) (n : PySem.Str) (t3 : Value) (c1 c2 : Args) (es : Array DictEntry) (k : Nat)
   (hf : s.heap.get? f = some { cls := .type "builtin_function_or_method", data := .fields #[.builtin "object.__init_subclass__", .ref κ] })
   (hk : s.heap.get? κ = some { cls := .type "type", data := .cls { name := n, bases := [.type "object"], mro := [.ref κ, .type "object"], ns, qualname := PySem.Str.ofString "cmp_to_key.<locals>.K", hasDict := false, slotNames := [PySem.Str.ofString "obj"] }, slots := #[some t1, none, some t2, some t3, some (.builtin "object.__new__"), some (.bool false)] })
   (hQ8 : ∀ tk, Q .none { heap := s.heap, gens := s.gens, drawn := s.drawn, toks := tk, os := s.os }) :
   wpAny (model PySem.Challenge.rw_ij0209_01.row.prog w) ((((PySem.callerA.deeper e1).deeper e2).under (.builtin "type.__call__" c1)).under (.builtin "type.__new__" c2)) (call (.ref f) []) Q E s := by
  x_run
end
section
namespace Mine
open PySem.Calls PySem.Spec PySem.W.X
theorem tn_check (b c d : Value) : checkBuiltinCall "type.__new__" ⟨[.type "type", b, c, d], []⟩ = pure () := by kernel_rfl
section
variable {w : World} {A : Around} {e1 e2 : Env} {c1 : Args} {E : Value → Shared → Prop} {s : Shared} {g : Heap} {l : List (Addr × Obj)} {nt : Tok} {gT nsA : Addr} {hs : Nat → Int} {ts : Nat → Tok} {vs : Nat → Value} {n n2 : Nat}
theorem quiet_loop {M : Model} {body : DictEntry → PUnit → Sem (ForInStep PUnit)} {Q : PUnit → Shared → Prop} : ∀ (es : List DictEntry), (∀ e ∈ es, ∀ Q : ForInStep PUnit → Shared → Prop, Q (ForInStep.yield PUnit.unit) s → wpAny M A (body e PUnit.unit) Q E s) → Q PUnit.unit s → wpAny M A (forIn es PUnit.unit body) Q E s
  | [], _, q => by rw [List.forIn_nil]; exact wpAny_pure q
  | e :: es, h, q => by
    rw [List.forIn_cons]
    exact wpAny_bind (h e (.head _) _ (quiet_loop es (fun e' he => h e' (.tail _ he)) q))
theorem led_refl (h : Heap) : Led h h [] := ⟨fun _ _ e => e, (fun _ hp => nomatch hp), List.nodup_nil⟩
theorem m_new {Q : Value → Shared → Prop} (ht : s.heap.get? gT = some (tupObj [.type "object"] n2)) (hn : s.heap.get? nsA = some (dictO (kEs hs ts vs) n))
    (hset : ∀ e ∈ kEs2 hs ts vs, Builtin.laidUnderItsOwnName e.key e.val = false ∧ Looks (MD w) s.heap (specialOf e.val "__set_name__") none) (hsm : nsA ≠ sysModules) {q : Tok} (hv1 : vs 1 = .str (Str.ofString "cmp_to_key.<locals>.K") q)
    (hslots : ∀ (A : Around) (Q : Builtin.Slots.Plan → Shared → Prop) (E : Value → Shared → Prop), (∀ h', (∀ b o, s.heap.get? b = some o → h'.get? b = some o) → Q { names := [Str.ofString "obj"], dict := false, weak := false, inherited := [] } { s with heap := h' }) → wpAny (MD w) A (Builtin.Slots.read (Str.ofString "K") [.type "object"] (kEs hs ts vs).toArray) Q E s)
    (hop : ∀ κ : Addr, Looks (MD w) s.heap (opaqueClassAbove (.ref κ)) none)
    (H : ∀ g', (∀ b o, s.heap.get? b = some o → g'.get? b = some o) → ∀ κ ns md tm hh tt hd td s', Same s s' → Led g' s'.heap [(md, mdO κ tm), (κ, clsO { name := Str.ofString "K", bases := [.type "object"], mro := [.ref κ, .type "object"], ns, qualname := Str.ofString "cmp_to_key.<locals>.K", hasDict := false, slotNames := [Str.ofString "obj"] } #[some (.ref gT), none, some (.str (Str.ofString "K") nt), some (.str (Str.ofString "cmp_to_key.<locals>.K") q), some (.builtin "object.__new__"), some (.bool false)]),
      (ns, { cls := .type "dict", data := .dict (kEs2 hs ts vs ++ [({ hash := hh, key := .str (Str.ofString "obj") tt, val := .ref md } : DictEntry)] ++ [({ hash := hd, key := .str (Str.ofString "__doc__") td, val := .none } : DictEntry)]).toArray 3 })] → Q (.ref κ) s') :
    wpAny (MD w) (((PySem.callerA.deeper e1).deeper e2).under (.builtin "type.__call__" c1)) (call (.builtin "type.__new__") [.type "type", .str (Str.ofString "K") nt, .ref gT, .ref nsA]) Q E s := by
  refine wpAny_call (codeAny_call_builtin_code (Code.quiet_builtin _ (by decide +kernel)) ?_)
  rw [tn_check]
  refine wpAny_pure (codeAny_builtin en_new ?_)
  unfold Builtin.«type.__new__»
  have lt : Looks (MD w) s.heap (isInstance (.ref gT) (.type "tuple")) true := fun A Q E s k q => wpAny_isInstance (T := "tuple") ⟨_, k _ _ ht, rfl⟩ (by kernel_rfl) q
  have ln : Looks (MD w) s.heap (isInstance (.ref nsA) (.type "dict")) true := fun A Q E s k q => wpAny_isInstance (T := "dict") ⟨_, k _ _ hn, rfl⟩ (by kernel_rfl) q
  extract_lets w1
  refine wpAny_bind (wpAny_pure ?_)
  extract_lets w2
  refine wpAny_bind (lt.here ?_)
  extract_lets
  refine wpAny_ite_false (by decide) ?_
  show wpAny _ _ (isInstance (.ref nsA) (.type "dict") >>= _) _ _ _

  refine wpAny_bind (ln.here ?_)
  extract_lets
  refine wpAny_ite_false (by decide) ?_
  show wpAny _ _ (seqItems? (.ref gT) >>= _) _ _ _

  refine wpAny_bind (wpAny_seqItems ht rfl ?_)
  extract_lets
  refine wpAny_ite_false (by rfl) ?_
  show wpAny _ _ (forIn [Value.type "object"] PUnit.unit _ >>= _) _ _ _
  refine wpAny_bind (wpAny_of_eq (a := PUnit.unit) (by rfl) ?_)
  show wpAny _ _ (forIn [Value.type "object"] (Value.type "type") _ >>= _) _ _ _
  refine wpAny_bind (wpAny_of_eq (a := Value.type "type") (by kernel_rfl) ?_)
  extract_lets
  refine wpAny_ite_false (by rfl) ?_
  show wpAny _ _ (Builtin.notOverATurnedClass [Value.type "object"] >>= _) _ _ _
  refine wpAny_bind (wpAny_of_eq (a := PUnit.unit) (by kernel_rfl) ?_)
  refine wpAny_bind (wpAny_of_eq (a := Value.type "object") (by kernel_rfl) ?_)
  extract_lets
  refine wpAny_ite_false (decide_eq_false ?hsys) ?_
  (case hsys => rw [beq_eq_false_iff_ne.mpr hsm]; exact Bool.false_ne_true)
  show wpAny _ _ (dictEntries nsA >>= _) _ _ _
  refine wpAny_bind (wpAny_dictEntries hn rfl ?_)
  refine wpAny_bind (wpAny_specialOf (T := "dict") (r := some (.builtin "dict.__iter__")) ⟨_, hn, rfl⟩ (by kernel_rfl) ?_)
  refine wpAny_ite_true (by rfl) ?_
  refine wpAny_bind (wpAny_pure ?_)
  show wpAny _ _ (holding [] (Builtin.Slots.read (Str.ofString "K") [Value.type "object"] (kEs hs ts vs).toArray) >>= _) _ _ _
  refine wpAny_bind (wpAny_holding (hslots _ _ _ fun g0 k0 => ?_))
  have D := led_refl g0
  refine wpAny_bind (m_newObjS D (fun ns s1 S1 D1 => ?_) (by size_fits) rfl)
  dsimp -zeta only
  extract_lets
  refine wpAny_ite_false (by kernel_rfl) ?_
  show wpAny _ _ (_ >>= _) _ _ _
  refine wpAny_bind (wpAny_of_eq (a := PUnit.unit) (by kernel_rfl) ?_)
  extract_lets
  refine wpAny_ite_false (by kernel_rfl) ?_
  show wpAny _ _ (nsGet ns "__qualname__" >>= _) _ _ _
  refine wpAny_bind (m_nsGet (D1.get 0 rfl) (r := some (.str (Str.ofString "cmp_to_key.<locals>.K") q)) (by rw [← hv1]; kernel_rfl) ?_)
  extract_lets
  refine wpAny_bind (m_nsGet (D1.get 0 rfl) (r := some (.str (Str.ofString "cmp_to_key.<locals>.K") q)) (by rw [← hv1]; kernel_rfl) ?_)
  refine wpAny_bind (wpAny_of_eq (a := some (Str.ofString "cmp_to_key.<locals>.K")) (by rfl) ?_)
  refine wpAny_bind (wpAny_pure ?_)
  show wpAny _ _ (nsGet ns "__doc__" >>= _) _ _ _
  refine wpAny_bind (m_nsGet (D1.get 0 rfl) (r := none) (by kernel_rfl) ?_)
  show wpAny _ _ (alloc _ >>= _) _ _ _
  refine wpAny_bind (m_allocS (o := clsO { name := Str.ofString "K", bases := [.type "object"], mro := [], ns, qualname := Str.ofString "cmp_to_key.<locals>.K" } #[]) D1 (fun κ s2 S2 D2 => ?_) (by rfl))
  extract_lets
  refine wpAny_ite_true (by rfl) ?_
  refine wpAny_bind (m_slot D2 0 rfl (by kernel_rfl) (o' := clsO { name := Str.ofString "K", bases := [.type "object"], mro := [], ns, qualname := Str.ofString "cmp_to_key.<locals>.K" } #[some (.ref gT)]) (by kernel_rfl) (by rfl) fun s3 S3 D3 => ?_)
  dsimp only [List.set] at D3
  show wpAny _ _ (setSlotAt κ 2 _ >>= _) _ _ _
  refine wpAny_bind (m_slot D3 0 rfl (by kernel_rfl) (o' := clsO { name := Str.ofString "K", bases := [.type "object"], mro := [], ns, qualname := Str.ofString "cmp_to_key.<locals>.K" } #[some (.ref gT), none, some (.str (Str.ofString "K") nt)]) (by kernel_rfl) (by rfl) fun s4 S4 D4 => ?_)
  dsimp only [List.set] at D4
  extract_lets
  show wpAny _ _ (setSlotAt κ 3 _ >>= _) _ _ _
  refine wpAny_bind (m_slot D4 0 rfl (by kernel_rfl) (o' := clsO { name := Str.ofString "K", bases := [.type "object"], mro := [], ns, qualname := Str.ofString "cmp_to_key.<locals>.K" } #[some (.ref gT), none, some (.str (Str.ofString "K") nt), some (.str (Str.ofString "cmp_to_key.<locals>.K") q)]) (by kernel_rfl) (by rfl) fun s5 S5 D5 => ?_)
  dsimp only [List.set] at D5
  show wpAny _ _ (nsDel ns "__qualname__" >>= _) _ _ _
  refine wpAny_bind (m_nsDel D5 1 rfl (by kernel_rfl) (o' := { cls := .type "dict", data := .dict (kEs2 hs ts vs).toArray 1 }) (by kernel_rfl) (by rfl) fun s6 S6 D6 => ?_)
  dsimp only [List.set] at D6
  refine wpAny_bind (m_nsGet (D6.get 1 rfl) (r := none) (by kernel_rfl) ?_)
  show wpAny _ _ (forIn [Str.ofString "__init_subclass__", Str.ofString "__class_getitem__"] PUnit.unit _ >>= _) _ _ _
  refine wpAny_bind ?_
  rw [List.forIn_cons]
  refine wpAny_bind (wpAny_bind (m_nsGet (D6.get 1 rfl) (r := none) (by kernel_rfl) (wpAny_pure ?_)))
  show wpAny _ _ (forIn [Str.ofString "__class_getitem__"] PUnit.unit _) _ _ _
  rw [List.forIn_cons]
  refine wpAny_bind (wpAny_bind (m_nsGet (D6.get 1 rfl) (r := none) (by kernel_rfl) (wpAny_pure ?_)))
  show wpAny _ _ (forIn ([] : List Str) PUnit.unit _) _ _ _
  rw [List.forIn_nil]
  refine wpAny_pure ?_
  show wpAny _ _ (nsGet ns "__classcell__" >>= _) _ _ _
  refine wpAny_bind (m_nsGet (D6.get 1 rfl) (r := none) (by kernel_rfl) ?_)
  show wpAny _ _ (nsGet ns "__classdictcell__" >>= _) _ _ _
  refine wpAny_bind (m_nsGet (D6.get 1 rfl) (r := none) (by kernel_rfl) ?_)
  show wpAny _ _ (Builtin.mroHook? (.type "type") >>= _) _ _ _
  refine wpAny_bind (wpAny_of_eq (a := none) (by kernel_rfl) ?_)
  show wpAny _ _ (Builtin.linearize [.type "object"] mroOf >>= _) _ _ _
  refine wpAny_bind (wpAny_of_eq (a := [Value.type "object"]) (by kernel_rfl) ?_)
  refine wpAny_bind (wpAny_pure ?_)
  have hfil : List.filter (fun x => x != Value.ref κ) [Value.ref κ, Value.type "object"] = [Value.type "object"] := by simp
  show wpAny _ _ (List.anyM _ (List.filter (fun x => x != Value.ref κ) [Value.ref κ, Value.type "object"]) >>= _) _ _ _
  refine wpAny_bind ?_
  rw [hfil]
  refine wpAny_of_eq (a := false) (by kernel_rfl) ?_
  refine wpAny_bind (m_updateCls D6 0 rfl (cd' := { name := Str.ofString "K", bases := [.type "object"], mro := [.ref κ, .type "object"], ns, qualname := Str.ofString "cmp_to_key.<locals>.K" }) (by kernel_rfl) (by rfl) fun s7 S7 D7 => ?_)
  dsimp only [List.set] at D7
  refine wpAny_bind (wpAny_of_eq (a := some "object.__new__") (by kernel_rfl) ?_)
  refine wpAny_bind (m_slot D7 0 rfl (by kernel_rfl) (o' := clsO { name := Str.ofString "K", bases := [.type "object"], mro := [.ref κ, .type "object"], ns, qualname := Str.ofString "cmp_to_key.<locals>.K" } #[some (.ref gT), none, some (.str (Str.ofString "K") nt), some (.str (Str.ofString "cmp_to_key.<locals>.K") q), some (.builtin "object.__new__")]) (by kernel_rfl) (by rfl) fun s8 S8 D8 => ?_)
  dsimp only [List.set] at D8
  refine wpAny_bind ?_
  unfold Bind.refreshMaker
  have hne : κ ≠ ns := nd_ne (p := (κ, _)) (q := (ns, _)) D8.nd (i := 0) (j := 1) rfl rfl (by decide)
  refine wpAny_bind (wpAny_bind (wpAny_loadPart (D8.get 0 rfl) (wpAny_pure ?_)))
  refine wpAny_ite_false (by rfl) ?_
  refine wpAny_bind ((looks_cls (r := some (.builtin "object.__new__")) (D8.get 0 rfl) (D8.get 1 rfl) hne rfl rfl (by kernel_rfl)).here ?_)
  refine wpAny_ite_false (by kernel_rfl) (wpAny_pure ?_)
  refine wpAny_bind (m_install D8 (by rfl) fun md tm hh tt s9 S9 D9 => ?_)
  refine wpAny_bind (wpAny_of_eq (a := false) (by kernel_rfl) ?_)
  refine wpAny_bind (m_slot D9 1 rfl (by kernel_rfl) (o' := clsO { name := Str.ofString "K", bases := [.type "object"], mro := [.ref κ, .type "object"], ns, qualname := Str.ofString "cmp_to_key.<locals>.K", hasDict := false, slotNames := [Str.ofString "obj"] } #[some (.ref gT), none, some (.str (Str.ofString "K") nt), some (.str (Str.ofString "cmp_to_key.<locals>.K") q), some (.builtin "object.__new__"), some (.bool false)]) (by kernel_rfl) (by rfl) fun s10 S10 D10 => ?_)
  dsimp only [List.set] at D10
  refine wpAny_ite_false (by rfl) ?_
  extract_lets
  refine wpAny_ite_false (by rfl) ?_
  show wpAny _ _ (nsGet ns "__doc__" >>= _) _ _ _
  refine wpAny_bind (m_nsGet (D10.get 2 rfl) (r := none) (by kernel_rfl) ?_)
  extract_lets
  refine wpAny_ite_true (by rfl) ?_
  refine wpAny_bind (m_nsSet D10 2 rfl (by rfl) (by kernel_rfl) fun hd h11 D11 => ?_)
  dsimp only [List.set] at D11
  show wpAny _ _ (nsGet ns "__eq__" >>= _) _ _ _
  refine wpAny_bind (m_nsGet (D11.get 2 rfl) (r := some (vs 7)) (by kernel_rfl) ?_)
  extract_lets
  refine wpAny_ite_true (by rfl) ?_
  show wpAny _ _ (nsGet ns "__hash__" >>= _) _ _ _
  refine wpAny_bind (m_nsGet (D11.get 2 rfl) (r := some (vs 10)) (by kernel_rfl) ?_)
  extract_lets
  refine wpAny_ite_false (by rfl) ?_
  show wpAny _ _ (forIn [Value.type "object"] PUnit.unit _ >>= _) _ _ _
  refine wpAny_bind (wpAny_of_eq (a := PUnit.unit) (by kernel_rfl) ?_)
  extract_lets
  refine wpAny_bind (wpAny_tryCatch (wpAny_holding ?_))
  show wpAny _ _ (dictEntries ns >>= _) _ _ _
  refine wpAny_bind (wpAny_dictEntries (D11.get 2 rfl) rfl ?_)
  refine wpAny_bind (wpAny_of_eq (a := false) (by kernel_rfl) ?_)
  extract_lets
  refine wpAny_ite_false (by rfl) ?_
  show wpAny _ _ (dictEntries ns >>= _) _ _ _
  refine wpAny_bind (wpAny_dictEntries (D11.get 2 rfl) rfl ?_)
  refine wpAny_bind ?_
  rw [List.forIn_toArray]
  have hk11 : ∀ b o, s.heap.get? b = some o → h11.get? b = some o := fun b o e => D11.keep _ _ (k0 b o e)
  refine quiet_loop _ (fun e he Q hq => ?_) ?_
  · have hl : Builtin.laidUnderItsOwnName e.key e.val = false ∧ Looks (MD w) h11 (specialOf e.val "__set_name__") none := by
      rcases List.mem_append.mp he with he | he
      · rcases List.mem_append.mp he with he | he
        · exact ⟨(hset e he).1, (hset e he).2.keeps hk11⟩
        · cases List.mem_singleton.mp he
          exact ⟨by kernel_rfl, fun A Q E s k q => wpAny_specialOf (T := "member_descriptor") ⟨_, k _ _ (D11.get 0 rfl), rfl⟩ (by kernel_rfl) q⟩
      · cases List.mem_singleton.mp he
        exact ⟨by kernel_rfl, fun A Q E s k q => wpAny_specialOf (T := "NoneType") (show typeOf Value.none = pure (.type "NoneType") by kernel_rfl) (by kernel_rfl) q⟩
    refine wpAny_ite_false (by rw [hl.1]; rfl) ?_
    exact wpAny_bind (hl.2.here (wpAny_pure hq))
  refine wpAny_bind (Mine.m_super w e1 e2 _ _ _ κ ns _ _ _ _ _ #[] 0 c1 _ (D11.get 1 rfl) fun sup h12 tk12 M12 => ?_)
  have D12 := D11.mem M12
  refine wpAny_bind (wpAny_holding (m_supattr (D12.get 0 rfl) (D12.get 2 rfl) rfl (fun t => ?_) ((hop κ).keeps fun b o e => D12.keep _ _ (k0 b o e))))
  refine Mine.m_cmget w e1 e2 _ _ _ κ ns _ _ _ _ _ c1 _ _ (D12.get 2 rfl) fun fb h13 tk13 o13 M13 eo => ⟨fb, rfl, ?_⟩
  subst eo
  have D13 := D12.mem M13
  refine wpAny_bind (Mine.m_initsub w e1 e2 _ _ _ κ ns fb _ _ _ _ c1 _ #[] 0 (D13.get 0 rfl) (D13.get 3 rfl) fun tk14 => wpAny_pure ?_)
  refine wpAny_pure ?_
  have D14 := D13.drop (l' := [(md, mdO κ tm), _, _]) (List.Sublist.cons _ (List.Sublist.cons _ (List.Sublist.refl _)))
  have S0 : Same s s1 := ⟨S1.1, S1.2.1, S1.2.2⟩
  refine H g0 k0 κ ns md tm hh tt hd _ _ ?_ D14
  exact ((((((((S0.trans S2).trans S3).trans S4).trans S5).trans S6).trans S7).trans S8).trans S9).trans S10
end
end Mine
end
section
namespace Mine
open PySem.Calls PySem.Spec PySem.W.X
theorem rd_base : Builtin.Slots.bestBase [.type "object"] = pure (.type "object") := by kernel_rfl
theorem rd_names : Builtin.Slots.slotNamesOf (.type "object") = pure [] := by kernel_rfl
theorem rd_weak : Builtin.Slots.givesWeak (.type "object") = pure false := by kernel_rfl
theorem rd_var : Builtin.Slots.varSize (.type "object") = pure false := by kernel_rfl
section
variable {w : World} {h : Heap} {hs : Nat → Int} {ts : Nat → Tok} {vs : Nat → Value} {lst : Addr} {t : Tok} {k : Nat}
theorem m_read {s : Shared} (hl : s.heap.get? lst = some { cls := .type "list", data := .seq #[.str (Str.ofString "obj") t] k }) (hv : vs 3 = .ref lst) (A : Around) (Q : Builtin.Slots.Plan → Shared → Prop) (E : Value → Shared → Prop)
    (q : ∀ h', (∀ b o, s.heap.get? b = some o → h'.get? b = some o) → Q { names := [Str.ofString "obj"], dict := false, weak := false, inherited := [] } { s with heap := h' }) :
    wpAny (MD w) A (Builtin.Slots.read (Str.ofString "K") [.type "object"] (kEs hs ts vs).toArray) Q E s := by
  unfold Builtin.Slots.read
  refine wpAny_bind (wpAny_of_eq rd_base (wpAny_bind (wpAny_of_eq rd_names (wpAny_bind (wpAny_of_eq gives_object ?_)))))
  extract_lets
  refine wpAny_bind (wpAny_of_eq rd_weak (wpAny_bind (wpAny_of_eq rd_var ?_)))
  extract_lets
  have hf : Array.find? (fun x => x.key.isStr (Str.ofString "__slots__")) (kEs hs ts vs).toArray = some { hash := hs 3, key := .str (Str.ofString "__slots__") (ts 3), val := vs 3 } := by kernel_rfl
  rw [hf]
  refine wpAny_bind (wpAny_rule ?_)
  dsimp -zeta only
  rw [hv]
  have ha : ∀ Q : Option Str → Shared → Prop, Q none s → wpAny (MD w) A (asStr? (.ref lst)) Q E s := fun Q q => by
    unfold asStr?
    exact wpAny_bind (wpAny_load hl (wpAny_pure q))
  refine wpAny_bind (ha _ ?_)
  refine wpAny_ite_false (by rfl) ?_
  refine wpAny_bind (wpAny_collect_seq lst (.inl rfl) hl rfl rfl fun h' k8 => ?_)
  refine wpAny_of_eq (a := { names := [Str.ofString "obj"], dict := false, weak := false, inherited := [] }) ?_ (q h' k8)
  kernel_rfl
end
end Mine
end
section
namespace Mine
open PySem.Calls PySem.Spec PySem.W.X
noncomputable def bodyOf (o : Option Obj) : List Stmt := match o with
  | some ⟨_, _, .func fd, _⟩ => (match fd.body with | .stmts b => b | _ => [])
  | _ => []
noncomputable def classBody : List Stmt → List Stmt
  | .ClassDef _ _ _ b _ _ _ _ _ _ _ :: _ => b
  | _ :: r => classBody r
  | [] => []
/- The i-th statement of the class that cmp_to_key's text holds, where it is a def. -/
noncomputable def ktx (w : World) (i : Nat) : Option (Arguments × List Stmt × Scope) := match (classBody (bodyOf ((hd.heap_39 w.params).lookup 167)))[i]? with
  | some (.FunctionDef _ params body _ _ _ scope _ _ _) => some (params, body, scope)
  | _ => none
structure KD where
  (ns md f0 f1 cm gT c0 c1 : Addr)
  (oc0 oc1 ocm : Obj) (w0 w1 : Array Value) (q0 q1 : Str) (u0 u1 : Tok) (x0 x1 pm : Value)
  (p0 p1 : Arguments) (b0 b1 : List Stmt) (s0 s1 : Scope)
  (hs : Nat → Int) (ts : Nat → Tok) (vs : Nat → Value)
  (hh hd : Int) (tt td tm nt qt : Tok)
noncomputable abbrev KD.cd (d : KD) (κ : Addr) : ClassData := { name := Str.ofString "K", bases := [.type "object"], mro := [.ref κ, .type "object"], ns := d.ns, qualname := Str.ofString "cmp_to_key.<locals>.K", hasDict := false, slotNames := [Str.ofString "obj"] }
noncomputable abbrev KD.cls (d : KD) (κ : Addr) : Obj := clsO (d.cd κ) #[some (.ref d.gT), none, some (.str (Str.ofString "K") d.nt), some (.str (Str.ofString "cmp_to_key.<locals>.K") d.qt), some (.builtin "object.__new__"), some (.bool false)]
noncomputable abbrev KD.nso (d : KD) : Obj := { cls := .type "dict", data := .dict (kEs2 d.hs d.ts d.vs ++ [({ hash := d.hh, key := .str (Str.ofString "obj") d.tt, val := .ref d.md } : DictEntry)] ++ [({ hash := d.hd, key := .str (Str.ofString "__doc__") d.td, val := .none } : DictEntry)]).toArray 3 }
noncomputable abbrev KD.f0o (d : KD) : Obj := fnC (Str.ofString "__init__") d.q0 d.p0 d.b0 d.s0 [] d.pm (.ref d.c0) d.x0
noncomputable abbrev KD.f1o (d : KD) : Obj := fnC (Str.ofString "__lt__") d.q1 d.p1 d.b1 d.s1 [(Str.ofString "mycmp", d.cm)] d.pm (.ref d.c1) d.x1
/- The class that cmp_to_key has made stands at κ; its comparison is the function at fl. -/
structure KIs (w : World) (h : Heap) (κ fl : Addr) (d : KD) : Prop where
  cls : h.get? κ = some (d.cls κ)
  nso : h.get? d.ns = some d.nso
  mdo : h.get? d.md = some (mdO κ d.tm)
  f0 : h.get? d.f0 = some d.f0o
  f1 : h.get? d.f1 = some d.f1o
  c0 : h.get? d.c0 = some d.oc0
  c1 : h.get? d.c1 = some d.oc1
  e0 : d.oc0.data = .fields d.w0
  e1 : d.oc1.data = .fields d.w1
  v0 : d.w0[1]? = some (.str d.q0 d.u0)
  v1 : d.w1[1]? = some (.str d.q1 d.u1)
  cell : h.get? d.cm = some d.ocm
  cellv : d.ocm.data = .cell (some (.ref fl))
  vs4 : d.vs 4 = .ref d.f0
  vs5 : d.vs 5 = .ref d.f1
  k0 : ktx w 2 = some (d.p0, d.b0, d.s0)
  k1 : ktx w 3 = some (d.p1, d.b1, d.s1)
theorem KIs.keeps {w : World} {h h' : Heap} {κ fl : Addr} {d : KD} (x : KIs w h κ fl d) (k : ∀ b o, h.get? b = some o → h'.get? b = some o) : KIs w h' κ fl d :=
  { x with cls := k _ _ x.cls, nso := k _ _ x.nso, mdo := k _ _ x.mdo, f0 := k _ _ x.f0, f1 := k _ _ x.f1, c0 := k _ _ x.c0, c1 := k _ _ x.c1, cell := k _ _ x.cell }
theorem ne_get {h : Heap} {a b : Addr} {o p : Obj} (ha : h.get? a = some o) (hb : h.get? b = some p) (hc : (o.cls == p.cls) = false) : (a == b) = false := by
  refine beq_eq_false_iff_ne.mpr fun e => ?_
  have e' : a = b := e
  subst e'
  rw [ha] at hb; cases hb
  rw [beq_self_eq_true] at hc; cases hc
noncomputable abbrev KD.frag (d : KD) (κ : Addr) : Frag := [(κ, d.cls κ), (d.ns, d.nso), (d.md, mdO κ d.tm), (d.f0, d.f0o), (d.f1, d.f1o)]
section
variable {w : World} {h : Heap} {κ fl : Addr} {d : KD}
theorem KIs.isIn (x : KIs w h κ fl d) : (d.frag κ).In h := by
  intro a o ha
  simp only [List.lookup] at ha
  repeat' (split at ha)
  all_goals first
    | (rename_i q; cases ha; rw [eq_of_beq q]; first | exact x.cls | exact x.nso | exact x.mdo | exact x.f0 | exact x.f1)
    | cases ha
theorem KIs.lk (_x : KIs w h κ fl d) : (d.frag κ).lookup κ = some (d.cls κ) := by simp [List.lookup]
theorem KIs.ln (x : KIs w h κ fl d) : (d.frag κ).lookup d.ns = some d.nso := by
  have n1 : (d.ns == κ) = false := ne_get x.nso x.cls (by kernel_rfl)
  simp [List.lookup, n1]
theorem KIs.lm (x : KIs w h κ fl d) : (d.frag κ).lookup d.md = some (mdO κ d.tm) := by
  have n1 : (d.md == κ) = false := ne_get x.mdo x.cls (by kernel_rfl)
  have n2 : (d.md == d.ns) = false := ne_get x.mdo x.nso (by kernel_rfl)
  simp [List.lookup, n1, n2]
theorem KIs.l0 (x : KIs w h κ fl d) : (d.frag κ).lookup d.f0 = some d.f0o := by
  have n1 : (d.f0 == κ) = false := ne_get x.f0 x.cls (by kernel_rfl)
  have n2 : (d.f0 == d.ns) = false := ne_get x.f0 x.nso (by kernel_rfl)
  have n3 : (d.f0 == d.md) = false := ne_get x.f0 x.mdo (by kernel_rfl)
  simp [List.lookup, n1, n2, n3]
theorem KIs.l1 (x : KIs w h κ fl d) : ((d.frag κ).lookup d.f1).map (·.cls) = some (.type "function") := by
  have n1 : (d.f1 == κ) = false := ne_get x.f1 x.cls (by kernel_rfl)
  have n2 : (d.f1 == d.ns) = false := ne_get x.f1 x.nso (by kernel_rfl)
  have n3 : (d.f1 == d.md) = false := ne_get x.f1 x.mdo (by kernel_rfl)
  simp only [List.lookup, n1, n2, n3]
  split <;> simp
theorem KIs.find (x : KIs w h κ fl d) {name : Str} {r : Option Value} (e : (lookIn name d.nso).map (fun r => r.orElse fun _ => fastBuiltinOwn "object" name) = some r) : findIn (d.frag κ) (.ref κ) name = some r := by
  have hns2 : nsIn (d.frag κ) d.ns name = lookIn name d.nso := by
    unfold nsIn lookIn
    rw [x.ln]; rfl
  unfold findIn
  simp only [x.lk]
  unfold alongIn
  have ho : ownIn (d.frag κ) name (.ref κ) = lookIn name d.nso := by
    unfold ownIn
    simp only [x.lk]
    exact hns2
  rw [ho]
  cases hl : lookIn name d.nso with
  | none => rw [hl] at e; cases e
  | some r1 =>
    rw [hl] at e
    cases r1 with
    | some v => cases e; rfl
    | none =>
      simp only [Option.map_some, Option.some.injEq] at e
      subst e
      show alongIn _ name [.type "object"] = _
      unfold alongIn ownIn alongIn
      show (match (some (fastBuiltinOwn "object" name) : Option (Option Value)) with | some (some v) => some (some v) | some none => some none | none => none) = some ((none : Option Value).orElse fun _ => fastBuiltinOwn "object" name)
      cases fastBuiltinOwn "object" name <;> rfl
theorem KIs.clsIn (x : KIs w h κ fl d) : clsIn (d.frag κ) κ = some (d.cd κ) := by unfold PySem.W.clsIn; rw [x.lk]
theorem KIs.t0 (x : KIs w h κ fl d) : typeIn (d.frag κ) (.ref d.f0) = some (.type "function") := by unfold typeIn; dsimp only; rw [x.l0]; rfl
theorem KIs.t1 (x : KIs w h κ fl d) : typeIn (d.frag κ) (.ref d.f1) = some (.type "function") := by unfold typeIn; exact x.l1
theorem KIs.tm (x : KIs w h κ fl d) : typeIn (d.frag κ) (.ref d.md) = some (.type "member_descriptor") := by unfold typeIn; dsimp only; rw [x.lm]; rfl
theorem KIs.tk (x : KIs w h κ fl d) : typeIn (d.frag κ) (.ref κ) = some (.type "type") := by unfold typeIn; dsimp only; rw [x.lk]; rfl
theorem KIs.fInit (x : KIs w h κ fl d) : findIn (d.frag κ) (.ref κ) "__init__" = some (some (.ref d.f0)) := x.find (by rw [← x.vs4]; kernel_rfl)
theorem KIs.fLt (x : KIs w h κ fl d) : findIn (d.frag κ) (.ref κ) "__lt__" = some (some (.ref d.f1)) := x.find (by rw [← x.vs5]; kernel_rfl)
theorem KIs.fObj (x : KIs w h κ fl d) : findIn (d.frag κ) (.ref κ) "obj" = some (some (.ref d.md)) := x.find (by kernel_rfl)
theorem KIs.fGa (x : KIs w h κ fl d) : findIn (d.frag κ) (.ref κ) "__getattribute__" = some (some (.builtin "object.__getattribute__")) := x.find (by kernel_rfl)
theorem KIs.fSa (x : KIs w h κ fl d) : findIn (d.frag κ) (.ref κ) "__setattr__" = some (some (.builtin "object.__setattr__")) := x.find (by kernel_rfl)
theorem KIs.fGt (x : KIs w h κ fl d) : findIn (d.frag κ) (.ref κ) "__getattr__" = some none := x.find (by kernel_rfl)
theorem KIs.spm (x : KIs w h κ fl d) {name : Str} {r : Option Value} (e : findIn (d.frag κ) (.type "member_descriptor") name = some r) : specialIn (d.frag κ) (.ref d.md) name = some r := by unfold specialIn; rw [x.tm]; exact e
theorem KIs.takes (x : KIs w h κ fl d) : takesIn (d.frag κ) (.ref d.md) = some true := by
  unfold takesIn
  rw [x.spm (name := "__set__") (r := some (.builtin "member_descriptor.__set__")) (by kernel_rfl)]
theorem KIs.makes (x : KIs w h κ fl d) : makesIn (d.frag κ) κ = true := by
  unfold makesIn
  rw [x.lk]
  have s1 : specialIn (d.frag κ) (.ref κ) "__call__" = some (some (.builtin "type.__call__")) := by unfold specialIn; rw [x.tk]; kernel_rfl
  have s2 : instIn (d.frag κ) (.ref κ) (.type "type") = some true := by unfold instIn; rw [x.tk]; kernel_rfl
  dsimp only
  rw [s1, s2]
  simp
theorem KIs.plain (x : KIs w h κ fl d) : plainOver (d.frag κ) κ = true := by unfold plainOver; rw [x.clsIn]; rfl
theorem KIs.taker (x : KIs w h κ fl d) : takerIn (d.frag κ) κ "obj" = some (some (.ref d.md)) := by
  unfold takerIn; rw [x.fObj]
  show (takesIn (d.frag κ) (.ref d.md)).map _ = _
  rw [x.takes]; rfl
theorem KIs.slot (x : KIs w h κ fl d) : slotIn (d.frag κ) d.md κ = some 0 := by
  have r1 : recIn (d.frag κ) d.md "member_descriptor" = some [.str (Str.ofString "obj") d.tm, .ref κ, .builtin "proto.slot", .builtin "proto.slot#set", rawInt 0] := by
    unfold recIn; rw [x.lm]; rfl
  unfold slotIn
  rw [r1, x.clsIn]
  simp [rawInt]
theorem KIs.isFn1 (x : KIs w h κ fl d) : isFn (d.frag κ) (.ref d.f1) = true := by unfold isFn; rw [x.t1]; exact beq_self_eq_true _
theorem KIs.findO (x : KIs w h κ fl d) {od : Option Obj} : findObj (d.frag κ) κ od "obj" = some (.bind (.builtin "member_descriptor.__get__") (.ref d.md)) := by
  unfold findObj
  rw [x.clsIn]
  show (findIn (d.frag κ) (.ref κ) "obj").bind _ = _
  rw [x.fObj]
  show (specialIn (d.frag κ) (.ref d.md) "__get__").bind _ = _
  rw [x.spm (name := "__get__") (r := some (.builtin "member_descriptor.__get__")) (by kernel_rfl)]
  show (takesIn (d.frag κ) (.ref d.md)).bind _ = _
  rw [x.takes]; rfl
end
end Mine
end
section
namespace Mine
open PySem.Calls PySem.Spec PySem.W.X
section
variable {prog : Program} {w : World} {A₀ A : Around} {s : Shared} {base h₀ : Heap} {outer : List Env} {L : Addr} {m : Str → Option Value} {env : Env} {news : List (Addr × Obj)}
  {R : Result → Shared → Prop} {name qual : Str} {params : Arguments} {body : List Stmt} {ebody : Expr} {scope : Scope} {cl : List (Str × Addr)} {dV kV doc pm cdv ct : Value} {an : Option Addr} {fo : Obj} {f : Addr} {args : Args} {binds : List (Str × Value)}
/- A call of a function that stands in the heap; the objects of `news` are set aside for its frame. -/
theorem callX_hide (B : Below A₀ base outer h₀) (F : Fr h₀ L s.heap m) (N : News h₀ L s.heap news) (hlim : h₀.NoLimit) (hA : A.frames = some (env :: outer)) (hf : env.frame = some L) (hke : env.scope.kind = .function)
    (ho : s.heap.get? f = some fo) (hd : fo.data = .func (fnX name qual params body scope cl dV kV doc pm an cdv ct)) (hcd : s.heap.CodeRec cdv qual) (hroom : A.depth < recursionLimit)
    (hbind : BindsTo s (fnX name qual params body scope cl dV kV doc pm an cdv ct) args binds) (hloc : ∀ y ∈ binds, scope.names.lookup y.1 = some .local)
    (h : ∀ g L' h₁, g = hideAll s.heap (news.map (·.1)) → Fr g L' h₁ (fun y => binds.reverse.lookup y) → News g L' h₁ news → Below A base (env :: outer) g → h₀.StaysIn g → (∀ b o, s.heap.get? b = some o → h₁.get? b = some o) → s.heap.objs.size ≤ h₁.objs.size →
      wpAny (model prog w) (A.deeper (envX qual scope L' f cdv cl)) (execs body (envX qual scope L' f cdv cl))
        (fun fl s' => EndP R (match fl with | .ret v => v | _ => .none) s')
        (fun e s' => wpAny (model prog w) (A.deeper (envX qual scope L' f cdv cl)) (leaving (envX qual scope L' f cdv cl) e) (fun _ s'' => R (.error e) s'') (fun e' s'' => R (.error e') s'') s')
        { s with heap := h₁, toks := s.toks + binds.length })
    (hcell : ∀ x ∈ scope.names, x.2 ≠ .cell) (hco : scope.isCoroutine = false := by rfl) (hgen : scope.isGenerator = false := by rfl) (hk : scope.kind = .function := by rfl) : codeAny (model prog w) A (.call (.ref f) args) R s := by
  obtain ⟨FG, BG, st, lv⟩ := groundX (R := R) B F N hA hf hke
  refine codeAny_call_def (fd := fnX name qual params body scope cl dV kV doc pm an cdv ct) (body := body) (binds := binds) hroom ho hd (hlim.keeps F.keep) hcd rfl hbind hcell hloc (fun h₁ hns hk₁ => ?_) hco hgen hk
  have hsz : s.heap.objs.size < h₁.objs.size := hns.lt
  exact h _ s.heap.objs.size h₁ rfl ⟨hns, fun b o e => hk₁ b o (of_hideAll _ e), Nat.le_of_eq (hideAll_size _ _)⟩
    (fun p hp => ⟨hk₁ _ _ (N p hp).1, Nat.ne_of_lt (Heap.lt_size (N p hp).1), hideAll_none _ (List.mem_map_of_mem hp)⟩) BG st hk₁ (Nat.le_of_lt hsz)
/- The same of a lambda. -/
theorem lamX_hide (B : Below A₀ base outer h₀) (F : Fr h₀ L s.heap m) (N : News h₀ L s.heap news) (hlim : h₀.NoLimit) (hA : A.frames = some (env :: outer)) (hf : env.frame = some L) (hke : env.scope.kind = .function)
    (ho : s.heap.get? f = some fo) (hd : fo.data = .func (kla_fn name qual params ebody scope cl pm cdv ct)) (hcd : s.heap.CodeRec cdv qual) (hroom : A.depth < recursionLimit)
    (hbind : bindArgs (kla_fn name qual params ebody scope cl pm cdv ct) args = pure binds) (hloc : ∀ y ∈ binds, scope.names.lookup y.1 = some .local)
    (h : ∀ g L' h₁, g = hideAll s.heap (news.map (·.1)) → Fr g L' h₁ (fun y => binds.reverse.lookup y) → News g L' h₁ news → Below A base (env :: outer) g → h₀.StaysIn g → (∀ b o, s.heap.get? b = some o → h₁.get? b = some o) → s.heap.objs.size ≤ h₁.objs.size →
      wpAny (model prog w) (A.deeper (envX qual scope L' f cdv cl)) (eval ebody (envX qual scope L' f cdv cl))
        (fun v s' => EndP R v s')
        (fun e s' => wpAny (model prog w) (A.deeper (envX qual scope L' f cdv cl)) (leaving (envX qual scope L' f cdv cl) e) (fun _ s'' => R (.error e) s'') (fun e' s'' => R (.error e') s'') s')
        { s with heap := h₁, toks := s.toks + binds.length })
    (hcell : ∀ x ∈ scope.names, x.2 ≠ .cell) (hco : scope.isCoroutine = false := by rfl) (hgen : scope.isGenerator = false := by rfl) (hk : scope.kind = .function := by rfl) : codeAny (model prog w) A (.call (.ref f) args) R s := by
  obtain ⟨FG, BG, st, lv⟩ := groundX (R := R) B F N hA hf hke
  refine kla_callFunE hroom ho hd hco hgen rfl hcd ?_
  rw [hbind]
  refine wpAny_pure (wpAny_newFunctionEnv hcell hloc (fun h₁ hns hsb => ⟨((hlim).keeps F.keep).fresh _ hsb, ?_⟩) hk)
  show codeAny _ _ (.expr ebody (envX qual scope s.heap.objs.size f cdv cl)) _ _
  have hk₁ : ∀ b o, s.heap.get? b = some o → h₁.get? b = some o := fun b o e => hsb.extBut b o (Nat.ne_of_lt (Heap.lt_size e)) (Heap.get?_push_of_some _ e)
  have hsz : s.heap.objs.size < h₁.objs.size := hns.lt
  exact kla_codeExpr (h _ s.heap.objs.size h₁ rfl ⟨hns, fun b o e => hk₁ b o (of_hideAll _ e), Nat.le_of_eq (hideAll_size _ _)⟩
    (fun p hp => ⟨hk₁ _ _ (N p hp).1, Nat.ne_of_lt (Heap.lt_size (N p hp).1), hideAll_none _ (List.mem_map_of_mem hp)⟩) BG st hk₁ (Nat.le_of_lt hsz))
end
end Mine
end
section
namespace Mine
open PySem.Calls PySem.Spec PySem.W.X
noncomputable abbrev instK (κ dx : Addr) (v : Value) : Obj := { cls := .ref κ, dict := some dx, data := .plain, slots := #[some v] }
noncomputable def RInst (κ : Addr) (v : Value) : Heap → Heap → Value → Prop := fun h h' r => ∃ x dx, r = .ref x ∧ h.get? x = none ∧ h.get? dx = none ∧ x ≠ dx ∧ h'.get? x = some (instK κ dx v) ∧ h'.get? dx = some emptyDict
end Mine
theorem Mine.c_kmake (w : World) (κ fl : Addr) (d : Mine.KD) (v : Value) : Mine.Told w κ [v] 4 (fun h => Mine.KIs w h κ fl d) (Mine.RInst κ v) := by
  unfold Mine.Told
  k_with_none
  (k_with "call type:type" => ((k_here; (with_reducible show wpAny _ _ (call (Value.type "type") [Value.bytes _ _]) _ _ _); refine Mine.type_bytes ?_)))
  (k_with "call builtin:issubclass" => ((k_here; k_dflt (refine' Mine.issub_bytes ?zqk1 ?_; (case zqk1 => exact News.isTup (by k_asm) (by k_mem)); k_whole))))
  (k_with "getMethod bytes" => ((k_here; (with_reducible first | refine Mine.method_rfind ?_ | refine Mine.method_rstrip ?_ | refine Mine.method_starts ?_ | refine Mine.method_ends ?_))))
  (k_with "call builtin:bytes.rfind" => ((k_here; refine Mine.call_rfind ?_)))
  (k_with "call builtin:bytes.startswith" => ((k_here; refine Mine.call_starts ?_)))
  (k_with "call builtin:bytes.endswith" => ((k_here; refine Mine.call_ends ?_)))
  (k_with "call builtin:bytes.rstrip" => ((k_here; refine Mine.call_rstrip (by k_extra "kaf") ?_; intro zzt8 zzk8)))
  (k_with "subscriptTail" => ((k_here; (with_reducible show wpAny _ _ (subscriptTail _ (Expr.Slice _ _ none _) (Value.bytes _ _) (Value.ref _)) _ _ _); (with_reducible rename Fr _ _ _ _ => zzFq); (with_reducible rename News _ _ _ _ => zzNq); (refine Mine.slice_B (s := ⟨_, _, _, _, _⟩) zzFq zzNq (by constructor) (by constructor) (by k_extra "kaf") ?_); intro _ _ _ _ _; (try k_sweep))))
  (k_with "truthy bytes" => ((k_here; (refine Mine.truthy_B (by k_extra "kaf") ?_); intro _)))
  (k_with "call builtin:len" => ((k_here; (with_reducible show wpAny _ _ (call (Value.builtin "len") [Value.bytes _ _]) _ _ _); (refine Mine.len_B (by k_extra "kaf") ?_); intro _ _)))
  (k_with "binaryOp Mult bytes int" => ((k_here; (refine Mine.mul_B (by k_extra "kaf") ?_); intro _ _)))
  (k_with "exec While Name" => ((k_here; refine whl_start 5 ?_)))
  (k_with "WhlIf" => ((first | (refine WhlIf.yes (by with_unfolding_all rfl) ?_) | (refine WhlIf.no (by with_unfolding_all rfl) ?_) | (refine Mine.whl_split ?_ ?_ <;> intro zzhw8 <;> (first | done | (exfalso; (try simp only [bne_iff_ne, ne_eq, bne_eq_false_iff_eq, decide_eq_true_eq, decide_eq_false_iff_not] at *); omega) | skip)))))
  (k_with "binaryOp Add bytes bytes" => ((k_here; (refine Mine.add_B (by k_extra "kaf") ?_); intro _ _)))
  (k_with "kaf" => (first | (with_reducible assumption) | ((with_reducible refine Mine.sz_cut ?_); k_extra "kaf") | ((with_reducible refine Mine.small_rstrip ?_); k_extra "kaf") | ((with_reducible refine Mine.sz_app ?_ ?_) <;> k_extra "kaf") | exact Nat.le_of_ble_eq_true rfl | exact Nat.le_trans (by with_reducible assumption) (by decide) | assumption | ((try simp only [Mine.Small, Array.size_append, List.size_toArray, List.length_cons, List.length_nil] at *); omega)))
  (k_with "inplaceOp Add bytes bytes" => ((k_here; (refine Mine.iadd_B (by k_extra "kaf") ?_); intro _ _)))
  (k_with "WhlIf" => ((refine WhlIf.no (Mine.ap_three (by assumption) (by assumption)) ?_)))
  (k_with "kaf" => (first | (with_reducible assumption) | ((with_reducible refine Mine.sz_word ?_); exact Nat.le_of_ble_eq_true rfl) | ((with_reducible refine Mine.sz_frontB ?_); k_extra "kaf") | ((with_reducible refine Mine.sz_endB ?_); k_extra "kaf") | ((with_reducible refine Mine.sz_baseB ?_); k_extra "kaf") | ((with_reducible refine Mine.sz_dirB ?_); k_extra "kaf")))
  (k_with "compareOp Gt bytes bytes" => ((k_here; refine Mine.gt_bytes ?_)))
  w_top off
  k_fill
  intro p loose mean mg mb dp un gd cn cs a ccd cl outer A₀ base h₀ L m s Q E B F X T hk hpre hdp hun hret
  refine wpAny_call ?_
  obtain ⟨hh, g, dr, tk, os⟩ := s
  dsimp only at hpre hret F
  refine make_core (makes_of hpre.isIn hpre.makes) (looks_findIn hpre.isIn hpre.fInit) (fun self => bind_fn hpre.isIn self hpre.t0) (.inl rfl) ?_
  have k1 : ∀ b o, hh.get? b = some o → ((hh.push emptyDict).push (instObj κ hh.objs.size)).get? b = some o := fun b o e => Heap.get?_push_of_some _ (Heap.get?_push_of_some _ e)
  have KI := hpre.keeps k1
  have hx0 : hh.get? (hh.objs.size + 1) = none := Heap.get?_none_of_le (Nat.le_succ _)
  have hd0 : hh.get? hh.objs.size = none := Heap.get?_none_of_le (Nat.le_refl _)
  have hs0 : hh.objs.size ≤ ((hh.push emptyDict).push (instObj κ hh.objs.size)).objs.size := by rw [Heap.size_push, Heap.size_push]; omega
  have F1 : Fr h₀ L ((hh.push emptyDict).push (instObj κ hh.objs.size)) m := (F.push _).push _
  have N1 : News h₀ L ((hh.push emptyDict).push (instObj κ hh.objs.size)) [(hh.objs.size + 1, instObj κ hh.objs.size), (hh.objs.size, emptyDict)] := by
    have := ((News.nil (h₀ := h₀) (L := L) (h := hh)).push F emptyDict).push (F.push _) (instObj κ hh.objs.size)
    rwa [Heap.size_push] at this
  generalize (hh.push emptyDict).push (instObj κ hh.objs.size) = H at *
  have hxd : hh.objs.size + 1 ≠ hh.objs.size := Nat.succ_ne_self _
  generalize hh.objs.size + 1 = x at *
  generalize hh.objs.size = dx at *
  have hcode : H.CodeRec (.ref d.c0) d.q0 := ⟨_, _, _, _, rfl, KI.c0, KI.e0, KI.v0⟩
  have hk0 := KI.k0
  have hf0 := KI.f0
  unfold Mine.KD.f0o at hf0
  revert hk0 hf0
  generalize d.p0 = p0
  generalize d.b0 = b0
  generalize d.s0 = s0
  intro hk0 hf0
  unfold Mine.ktx at hk0
  with_unfolding_all change some (_, _, _) = _ at hk0
  cases hk0
  refine Mine.callX_hide (news := [(x, instObj κ dx), (dx, emptyDict)]) (binds := [(PySem.Str.ofString "self", .ref x), (PySem.Str.ofString "obj", v)]) B F1 N1 T.nolimit rfl rfl hk hf0 rfl hcode ?room (BindsTo.of_eq rfl) (locs rfl) ?_ (by decide) rfl rfl rfl
  case room => ktr_room
  intro g' L' h₁ hg F' N' B' st kh sz
  have X' := X.keeps st
  have T' := T.keeps st
  have KI1 := KI.keeps kh
  (try dsimp only)
  (show wpAny _ _ _ _ _ _)
  k_fold
  (repeat' (first | (k_unfold; (try dsimp only)) | (k_end; kc_close) | (dsimp only; walk1) | walk1 | (leave1; try dsimp only)))
  have I : InstAt h₁ x (instObj κ dx) κ (some emptyDict) := ⟨(N' (x, _) (List.Mem.head _)).1, rfl, rfl, (N' (dx, _) (List.Mem.tail _ (List.Mem.head _))).1⟩
  refine set_plain (s := ⟨h₁, g, dr, _, os⟩) KI1.isIn I KI1.fSa ?_
  refine osa_descr (s := ⟨h₁, g, dr, _, os⟩) KF.slot_mset KI1.isIn I KI1.plain KI1.taker KI1.tm ?_
  refine slot_set (s := ⟨h₁, g, dr, _, os⟩) (ox' := Mine.instK κ dx v) (pre := []) (post := [(dx, emptyDict)]) F' N' KI1.isIn I KI1.slot (by decide) (fun p hp => nomatch hp) (fun p hp => by rw [List.mem_singleton.mp hp]; exact Ne.symm hxd) (by rfl) rfl ?_
  intro h' F2 N2
  refine wpAny_execs_nil ?_
  show Mine.EndP _ _ _
  refine ⟨rfl, ?_⟩
  have stay : hh.StaysIn h' := by
    intro b o e
    refine F2.keep b o ?_
    rw [hg]
    refine hideAll_get _ (k1 b o e) ?_
    simp only [List.map_cons, List.map_nil, List.mem_cons, List.not_mem_nil, or_false]
    rintro (q | q)
    · rw [q, hx0] at e; cases e
    · rw [q, hd0] at e; cases e
  have hz : dx ≤ h'.objs.size := by
    have z := Mine.fr_size F2
    rw [hg, hideAll_size] at z
    exact Nat.le_trans hs0 z
  exact hret _ _ _ stay hz ⟨x, dx, rfl, hx0, hd0, hxd, (N2 (x, _) (List.Mem.head _)).1, (N2 (dx, _) (List.Mem.tail _ (List.Mem.head _))).1⟩
end
section
theorem Mine.c_ctk (w : World) (f : Addr) (p : Program) (loose : List Str) (mean : ExcName → Option Value) (mg mb : Str → Option Value) (e1 : Env) (outer : List Env) (A₀ : Around) (base h₀ : Heap) (L : Addr) (m : Str → Option Value) (s : Shared) (Q E : Value → Shared → Prop)
    (B : Below A₀ base outer h₀) (F : Fr h₀ L s.heap m) (X : (hd.heap_39 w.params).In h₀) (T : Top p loose mean mg mb h₀) (hA : (PySem.callerA.deeper e1).frames = some (e1 :: outer)) (hf : e1.frame = some L) (hke : e1.scope.kind = .function)
    (h162 : s.heap.get? 162 = some (tabObj #[])) (hsm : ∃ o, s.heap.get? PySem.sysModules = some o)
    (hret : ∀ κ d h' tk', Mine.KIs w h' κ f d → (∀ b o, b ≠ 162 → s.heap.get? b = some o → h'.get? b = some o) → s.heap.objs.size ≤ h'.objs.size → (∃ ps, h'.get? 162 = some (tabObj ps)) → Q (.ref κ) { s with heap := h', toks := tk' }) :
    wpAny (model PySem.Challenge.rw_ij0209_01.row.prog w) (PySem.callerA.deeper e1) (call (.ref 167) [.ref f]) Q E s := by
  revert X hret
  k_with_none
  (k_with "call type:type" => ((k_here; (with_reducible show wpAny _ _ (call (Value.type "type") [Value.bytes _ _]) _ _ _); refine Mine.type_bytes ?_)))
  (k_with "call builtin:issubclass" => ((k_here; k_dflt (refine' Mine.issub_bytes ?zqk1 ?_; (case zqk1 => exact News.isTup (by k_asm) (by k_mem)); k_whole))))
  (k_with "getMethod bytes" => ((k_here; (with_reducible first | refine Mine.method_rfind ?_ | refine Mine.method_rstrip ?_ | refine Mine.method_starts ?_ | refine Mine.method_ends ?_))))
  (k_with "call builtin:bytes.rfind" => ((k_here; refine Mine.call_rfind ?_)))
  (k_with "call builtin:bytes.startswith" => ((k_here; refine Mine.call_starts ?_)))
  (k_with "call builtin:bytes.endswith" => ((k_here; refine Mine.call_ends ?_)))
  (k_with "call builtin:bytes.rstrip" => ((k_here; refine Mine.call_rstrip (by k_extra "kaf") ?_; intro zzt8 zzk8)))
  (k_with "subscriptTail" => ((k_here; (with_reducible show wpAny _ _ (subscriptTail _ (Expr.Slice _ _ none _) (Value.bytes _ _) (Value.ref _)) _ _ _); (with_reducible rename Fr _ _ _ _ => zzFq); (with_reducible rename News _ _ _ _ => zzNq); (refine Mine.slice_B (s := ⟨_, _, _, _, _⟩) zzFq zzNq (by constructor) (by constructor) (by k_extra "kaf") ?_); intro _ _ _ _ _; (try k_sweep))))
  (k_with "truthy bytes" => ((k_here; (refine Mine.truthy_B (by k_extra "kaf") ?_); intro _)))
  (k_with "call builtin:len" => ((k_here; (with_reducible show wpAny _ _ (call (Value.builtin "len") [Value.bytes _ _]) _ _ _); (refine Mine.len_B (by k_extra "kaf") ?_); intro _ _)))
  (k_with "binaryOp Mult bytes int" => ((k_here; (refine Mine.mul_B (by k_extra "kaf") ?_); intro _ _)))
  (k_with "exec While Name" => ((k_here; refine whl_start 5 ?_)))
  (k_with "WhlIf" => ((first | (refine WhlIf.yes (by with_unfolding_all rfl) ?_) | (refine WhlIf.no (by with_unfolding_all rfl) ?_) | (refine Mine.whl_split ?_ ?_ <;> intro zzhw8 <;> (first | done | (exfalso; (try simp only [bne_iff_ne, ne_eq, bne_eq_false_iff_eq, decide_eq_true_eq, decide_eq_false_iff_not] at *); omega) | skip)))))
  (k_with "binaryOp Add bytes bytes" => ((k_here; (refine Mine.add_B (by k_extra "kaf") ?_); intro _ _)))
  (k_with "kaf" => (first | (with_reducible assumption) | ((with_reducible refine Mine.sz_cut ?_); k_extra "kaf") | ((with_reducible refine Mine.small_rstrip ?_); k_extra "kaf") | ((with_reducible refine Mine.sz_app ?_ ?_) <;> k_extra "kaf") | exact Nat.le_of_ble_eq_true rfl | exact Nat.le_trans (by with_reducible assumption) (by decide) | assumption | ((try simp only [Mine.Small, Array.size_append, List.size_toArray, List.length_cons, List.length_nil] at *); omega)))
  (k_with "inplaceOp Add bytes bytes" => ((k_here; (refine Mine.iadd_B (by k_extra "kaf") ?_); intro _ _)))
  (k_with "WhlIf" => ((refine WhlIf.no (Mine.ap_three (by assumption) (by assumption)) ?_)))
  (k_with "kaf" => (first | (with_reducible assumption) | ((with_reducible refine Mine.sz_word ?_); exact Nat.le_of_ble_eq_true rfl) | ((with_reducible refine Mine.sz_frontB ?_); k_extra "kaf") | ((with_reducible refine Mine.sz_endB ?_); k_extra "kaf") | ((with_reducible refine Mine.sz_baseB ?_); k_extra "kaf") | ((with_reducible refine Mine.sz_dirB ?_); k_extra "kaf")))
  (k_with "compareOp Gt bytes bytes" => ((k_here; refine Mine.gt_bytes ?_)))
  w_top off
  k_fill
  intro X hret
  refine wpAny_call ?_
  k_dflt (refine' Mine.code_defPC ?k1 ?k2 ?k3 ?k5 ?kA ?kF ?kK ?k6 ?k7 ?k8 ?k9 ?kB ?kD ?_ ?c2 ?c3 ?c4; (case kA => exact hA); (case kF => exact hf); (case kK => exact hke); (case k1 => exact B); (case k2 => exact F); (case k3 => exact X); (case k5 => exact T); (case k6 => k_is); (case k7 => k_is); (case k8 => exact Nat.le_of_ble_eq_true rfl); (case k9 => exact BindsTo.of_eq rfl); (case kB => exact rfl); (case kD => decide +kernel); (case c2 => exact rfl); (case c3 => exact rfl); (case c4 => exact rfl); k_whole)
  intro g' L' h' tk' cells' hg' F' N' Y' B' X' T'
  clear B F X T
  k_cells Y'
  (try simp only [List.cons_append, List.nil_append] at N')
  have hT : PySem.W.TabsAt [(166, 162)] g' := by
    intro q hq
    cases List.mem_singleton.mp hq
    exact ⟨PySem.W.codeHd_of_K X' (by kernel_rfl), by rw [hg']; exact h162⟩
  have F₂ := PySem.W.ghost_fr hT F'
  have N₂ := PySem.W.ghost_news hT F' N'
  have X₂ := PySem.W.ghost_K hT X' (by kernel_rfl)
  have T₂ := PySem.W.ghost_top hT T'
  have hT2 : PySem.W.TabsAt [(166, 162)] h' := fun q hq => ⟨(hT q hq).1.keeps F'.keep, F'.keep _ _ (hT q hq).2⟩
  have D0 : Mine.Led (PySem.W.ghostOf h' [(166, 162)]) h' [(162, tabObj #[])] := by
    refine ⟨fun b o e => PySem.W.of_hideAll _ e, fun p hp => ?_, by simp⟩
    cases List.mem_singleton.mp hp
    exact ⟨(hT2 _ (List.Mem.head _)).2, PySem.W.hideAll_none _ (by simp)⟩
  have T3 := PySem.W.ghost_top hT2 (T'.keeps F'.keep)
  have hmg : ∃ nv, mg (PySem.Str.ofString "__name__") = some nv := by k_dflt (refine' ⟨_, mg_of X' T'.g ?e⟩; (case e => k_is))
  obtain ⟨nv, hmg⟩ := hmg
  have hsm2 : ∃ o, (PySem.W.ghostOf h' [(166, 162)]).get? PySem.sysModules = some o := by
    obtain ⟨o, ho⟩ := hsm
    exact ⟨o, PySem.W.ghost_ne (F'.keep _ _ (by rw [hg']; exact ho)) (by decide)⟩
  have X3 := PySem.W.ghost_K hT2 (X'.keeps F'.keep) (by kernel_rfl)
  clear F' N' X' T'
  (show wpAny _ _ _ _ _ _)
  k_fold
  (repeat' (first | (k_unfold; (try dsimp only)) | (k_end; kc_close) | (dsimp only; walk1) | walk1 | (leave1; try dsimp only)))

  refine Mine.m_class D0 T3 0 rfl (PySem.W.ghost_code hT2).1 rfl trivial rfl rfl rfl hsm2 rfl rfl rfl rfl rfl hmg rfl rfl rfl ?hobj ?hbody
  (case hobj => intro Q8 hq8; (repeat' (first | (k_unfold; (try dsimp only)) | (k_end; kc_close) | (dsimp only; walk1) | walk1 | (leave1; try dsimp only))); exact hq8)
  intro c' P' oc vs t nsA gT fr hh1 t1 hh2 t2 q2 hh3 t3 q3 nt h tk n1 n2 D C' hd hv
  unfold Mine.clsRest
  refine wpAny_bind (wpAny_run (codeAny_body rfl rfl ?_))
  refine wpAny_execs_cons (wpAny_Assign_Name (wpAny_Constant_str (Mine.m_store0 D 2 rfl rfl rfl rfl (by kernel_rfl) fun h1 D1 => ?_)))
  dsimp only [List.set] at D1 ⊢
  refine wpAny_execs_cons (wpAny_Assign_Name (Mine.m_list1 ?_))
  refine Mine.m_store (D1.push _ rfl) 3 rfl rfl rfl (by kernel_rfl) (by kernel_rfl) fun hh4 h2 D2 => ?_
  dsimp only [List.set, List.cons_append, List.nil_append] at D2 ⊢
  refine wpAny_execs_cons (Mine.m_def (fun _ => rfl) D2 2 rfl (Mine.codeHd_move C' (D.get 0 rfl) (D2.get 1 rfl)) rfl True.intro (by kernel_rfl) rfl rfl T3 rfl 3 rfl (by decide) rfl rfl (by kernel_rfl) (by kernel_rfl) fun f0 c0 oc0 vs0 t0 ctv0 hh5 tt0 s0 S0 D3 hd0 hv0 => ?_)
  dsimp only [List.set, List.cons_append, List.nil_append] at D3
  refine wpAny_execs_cons (Mine.m_def (fun _ => rfl) D3 4 rfl (Mine.codeHd_move C' (D.get 0 rfl) (D3.get 3 rfl)) rfl True.intro (by kernel_rfl) rfl rfl T3 rfl 5 rfl (by decide) rfl rfl (by kernel_rfl) (by kernel_rfl) fun f1 c1 oc1 vs1 t1 ctv1 hh6 tt1 s1 S1 D4 hd1 hv1 => ?_)
  dsimp only [List.set, List.cons_append, List.nil_append] at D4
  refine wpAny_execs_cons (Mine.m_def (fun _ => rfl) D4 6 rfl (Mine.codeHd_move C' (D.get 0 rfl) (D4.get 5 rfl)) rfl True.intro (by kernel_rfl) rfl rfl T3 rfl 7 rfl (by decide) rfl rfl (by kernel_rfl) (by kernel_rfl) fun f2 c2 oc2 vs2 t2 ctv2 hh7 tt2 s2 S2 D5 hd2 hv2 => ?_)
  dsimp only [List.set, List.cons_append, List.nil_append] at D5
  refine wpAny_execs_cons (Mine.m_def (fun _ => rfl) D5 8 rfl (Mine.codeHd_move C' (D.get 0 rfl) (D5.get 7 rfl)) rfl True.intro (by kernel_rfl) rfl rfl T3 rfl 9 rfl (by decide) rfl rfl (by kernel_rfl) (by kernel_rfl) fun f3 c3 oc3 vs3 t3 ctv3 hh8 tt3 s3 S3 D6 hd3 hv3 => ?_)
  dsimp only [List.set, List.cons_append, List.nil_append] at D6
  refine wpAny_execs_cons (Mine.m_def (fun _ => rfl) D6 10 rfl (Mine.codeHd_move C' (D.get 0 rfl) (D6.get 9 rfl)) rfl True.intro (by kernel_rfl) rfl rfl T3 rfl 11 rfl (by decide) rfl rfl (by kernel_rfl) (by kernel_rfl) fun f4 c4 oc4 vs4 t4 ctv4 hh9 tt4 s4 S4 D7 hd4 hv4 => ?_)
  dsimp only [List.set, List.cons_append, List.nil_append] at D7
  refine wpAny_execs_cons (Mine.m_def (fun _ => rfl) D7 12 rfl (Mine.codeHd_move C' (D.get 0 rfl) (D7.get 11 rfl)) rfl True.intro (by kernel_rfl) rfl rfl T3 rfl 13 rfl (by decide) rfl rfl (by kernel_rfl) (by kernel_rfl) fun f5 c5 oc5 vs5 t5 ctv5 hh10 tt5 s5 S5 D8 hd5 hv5 => ?_)
  dsimp only [List.set, List.cons_append, List.nil_append] at D8
  refine wpAny_execs_cons (wpAny_Assign_Name (wpAny_Constant_none (Mine.m_store D8 15 rfl rfl rfl (by kernel_rfl) (by kernel_rfl) fun hh11 h9 D9 => ?_)))
  dsimp only [List.set, List.cons_append, List.nil_append] at D9
  refine wpAny_execs_nil ?_
  (show wpAny _ _ _ _ _ _)
  refine wpAny_bind (wpAny_onRaise ?_)
  simp only [List.mapM_cons, List.mapM_nil]
  refine wpAny_bind (wpAny_bind (wpAny_mkText (wpAny_bind (wpAny_pure (wpAny_pure ?_)))))
  refine wpAny_bind (Mine.m_newTextTuple D9 fun st h10 D10 => ?_)
  refine wpAny_bind (Mine.m_storeO D10 16 rfl rfl rfl (by decide +kernel) (by kernel_rfl) (by kernel_rfl) fun hh12 t12 h11 tk11 D11 => wpAny_pure ?_)
  dsimp only [List.set, List.cons_append, List.nil_append] at D11
  refine wpAny_bind ?_
  clear D D0 D1 D2 D3 D4 D5 D6 D7 D8 D9 D10
  refine Mine.m_typeCall ?_
  refine Mine.m_new (hs := fun i => [_, _, _, _, _, _, _, _, _, _, _, _].getD i 0) (ts := fun i => [_, _, _, _, _, _, _, _, _, _, _, _].getD i 0) (vs := fun i => [_, _, _, _, _, _, _, _, _, _, _, _].getD i Value.none) (D11.get 17 rfl) (D11.get 16 rfl) ?hset ?hsm rfl (Mine.m_read (D11.get 13 rfl) rfl) ?hop ?hend
  (case hset =>
    intro e he
    simp only [Mine.kEs2, List.mem_cons, List.not_mem_nil, or_false] at he
    rcases he with rfl | rfl | rfl | rfl | rfl | rfl | rfl | rfl | rfl | rfl | rfl
    · exact ⟨by kernel_rfl, fun A Q E s k q => wpAny_specialOf (T := "str") (show typeOf (Value.str _ _) = pure (.type "str") by kernel_rfl) (by kernel_rfl) q⟩
    · exact ⟨by kernel_rfl, fun A Q E s k q => wpAny_specialOf (T := "int") (show typeOf (Value.int _ _) = pure (.type "int") by kernel_rfl) (by kernel_rfl) q⟩
    · exact ⟨by kernel_rfl, fun A Q E s k q => wpAny_specialOf (T := "list") ⟨_, k _ _ (D11.get 13 rfl), rfl⟩ (by kernel_rfl) q⟩
    · exact ⟨by kernel_rfl, fun A Q E s k q => wpAny_specialOf (T := "function") ⟨_, k _ _ (D11.get 11 rfl), rfl⟩ (by kernel_rfl) q⟩
    · exact ⟨by kernel_rfl, fun A Q E s k q => wpAny_specialOf (T := "function") ⟨_, k _ _ (D11.get 9 rfl), rfl⟩ (by kernel_rfl) q⟩
    · exact ⟨by kernel_rfl, fun A Q E s k q => wpAny_specialOf (T := "function") ⟨_, k _ _ (D11.get 7 rfl), rfl⟩ (by kernel_rfl) q⟩
    · exact ⟨by kernel_rfl, fun A Q E s k q => wpAny_specialOf (T := "function") ⟨_, k _ _ (D11.get 5 rfl), rfl⟩ (by kernel_rfl) q⟩
    · exact ⟨by kernel_rfl, fun A Q E s k q => wpAny_specialOf (T := "function") ⟨_, k _ _ (D11.get 3 rfl), rfl⟩ (by kernel_rfl) q⟩
    · exact ⟨by kernel_rfl, fun A Q E s k q => wpAny_specialOf (T := "function") ⟨_, k _ _ (D11.get 1 rfl), rfl⟩ (by kernel_rfl) q⟩
    · exact ⟨by kernel_rfl, fun A Q E s k q => wpAny_specialOf (T := "NoneType") (show typeOf Value.none = pure (.type "NoneType") by kernel_rfl) (by kernel_rfl) q⟩
    · exact ⟨by kernel_rfl, fun A Q E s k q => wpAny_specialOf (T := "tuple") ⟨_, k _ _ (D11.get 0 rfl), rfl⟩ (by kernel_rfl) q⟩)
  (case hsm =>
    intro e
    obtain ⟨o, ho⟩ := hsm2
    have z := (D11.nw _ (List.mem_of_getElem? (show _ = some (nsA, _) from (rfl : [_, _, _, _, _, _, _, _, _, _, _, _, _, _, _, _, _, _, _][16]? = _)))).2
    rw [show (nsA, _).1 = PySem.sysModules from e, ho] at z
    cases z)
  (case hop => exact fun κ => PySem.W.looks_opaque (X3.keeps D11.keep) (by kernel_rfl))
  intro g' kg κ ns md tm hh tt hd td s' S' D'
  refine ⟨κ, _, rfl, D'.get 1 rfl, rfl, ?_⟩
  refine wpAny_pure ?_
  refine wpAny_bindName ?_
  have kAll : ∀ b o, (PySem.W.ghostOf h' [(166, 162)]).get? b = some o → s'.heap.get? b = some o := fun b o e => D'.keep _ _ (kg _ _ (D11.keep _ _ e))
  have hL : L' ≠ 162 := fun q => by
    obtain ⟨o, es, ep, e1, e2, _⟩ := F₂.ns
    rw [q, (hT2 _ (List.Mem.head _)).2] at e1; cases e1; cases e2
  refine wpAny_storeName_local (by rfl) (Heap.Ns.at F₂.ns fun o e => kAll _ _ (PySem.W.ghost_ne e (fun z => hL (List.mem_singleton.mp z)))) (fun h9 n9 s9 => ?_) (by rfl)
  refine wpAny_execs_cons (wpAny_Return_some (wpAny_Name (wpAny_loadName_local rfl (by rfl) n9 (if_pos rfl) ?_)))
  (show Q (.ref κ) _)
  have SS : Mine.Same s s' := (((((Mine.Same.trans (s := s) S0 S1).trans S2).trans S3).trans S4).trans S5).trans S'
  have s9' : ∀ b o, b ≠ L' → s'.heap.get? b = some o → h9.get? b = some o := fun b o hb e => (s9.2 b hb).trans e
  obtain ⟨oL, hoL⟩ : ∃ o, (PySem.W.ghostOf h' [(166, 162)]).get? L' = some o := by
    obtain ⟨o, es, ep, e1, _⟩ := F₂.ns
    exact ⟨o, PySem.W.ghost_ne e1 (fun z => hL (List.mem_singleton.mp z))⟩
  have upG : ∀ b o, b ≠ L' → (PySem.W.ghostOf h' [(166, 162)]).get? b = some o → h9.get? b = some o := fun b o hb e => s9' b o hb (kAll b o e)
  have up11 : ∀ b o, (PySem.W.ghostOf h' [(166, 162)]).get? b = none → h11.get? b = some o → h9.get? b = some o := fun b o hb e => s9' b o (fun q => by rw [q, hoL] at hb; cases hb) (D'.keep _ _ (kg _ _ e))
  have up' : ∀ b o, g'.get? b = none → s'.heap.get? b = some o → h9.get? b = some o := fun b o hb e => s9' b o (fun q => by rw [q, kg _ _ (D11.keep _ _ hoL)] at hb; cases hb) e
  have u11 : ∀ (i : Nat) (a : PySem.Addr) (o : PySem.Obj), _ = some (a, o) → h9.get? a = some o := fun i a o hi => up11 _ _ (D11.nw _ (List.mem_of_getElem? (i := i) hi)).2 (D11.get i hi)
  have uD : ∀ (i : Nat) (a : PySem.Addr) (o : PySem.Obj), _ = some (a, o) → h9.get? a = some o := fun i a o hi => up' _ _ (D'.nw _ (List.mem_of_getElem? (i := i) hi)).2 (D'.get i hi)
  have hcm := (N₂ _ (List.Mem.head _)).1
  have hcL := (N₂ _ (List.Mem.head _)).2.1
  (with_reducible rename PySem.Obj.data _ = PySem.Data.cell _ => hcv)
  have hc9 := upG _ _ hcL (PySem.W.ghost_ne hcm (by
    intro z
    have e162 : h'.get? 162 = some (tabObj #[]) := (hT2 _ (List.Mem.head _)).2
    have z' : (L' + 1 : Nat) = 162 := List.mem_singleton.mp z
    rw [← z', hcm] at e162
    cases e162; cases hcv))
  have above9 : s.heap.objs.size ≤ L' := by
    rw [← hg']
    exact Nat.le_trans (Nat.le_of_eq (PySem.W.hideAll_size _ _).symm) F₂.above
  have fin := hret κ (Mine.KD.mk ns md f0 f1 _ gT c0 c1 oc0 oc1 _ vs0 vs1 _ _ t0 t1 ctv0 ctv1 _ _ _ _ _ _ _ (fun i => [_, _, _, _, _, _, _, _, _, _, _, _].getD i 0) (fun i => [_, _, _, _, _, _, _, _, _, _, _, _].getD i 0) (fun i => [_, _, _, _, _, _, _, _, _, _, _, _].getD i PySem.Value.none) hh hd tt td tm nt _) h9 (s'.toks + 1)
    { cls := uD 1 _ _ rfl, nso := uD 2 _ _ rfl, mdo := uD 0 _ _ rfl, f0 := u11 11 _ _ rfl, f1 := u11 9 _ _ rfl, c0 := u11 12 _ _ rfl, c1 := u11 10 _ _ rfl, e0 := hd0, e1 := hd1, v0 := hv0, v1 := hv1, cell := hc9, cellv := hcv, vs4 := rfl, vs5 := rfl,
      k0 := by unfold Mine.ktx; with_unfolding_all rfl, k1 := by unfold Mine.ktx; with_unfolding_all rfl } ?h1 ?h2 ⟨_, u11 18 _ _ rfl⟩
  · rw [← SS.1, ← SS.2.1, ← SS.2.2] at fin
    exact fin
  · intro b o hb e
    have e1 : h'.get? b = some o := F₂.keep _ _ (PySem.W.ghost_ne (by rw [hg']; exact e) (fun z => hb (List.mem_singleton.mp z)))
    refine upG b o (fun q => ?_) (PySem.W.ghost_ne e1 (fun z => hb (List.mem_singleton.mp z)))
    have z := Nat.lt_of_lt_of_le (Heap.lt_size e) above9
    exact Nat.lt_irrefl _ (q ▸ z)
  · exact Nat.le_of_lt (Nat.lt_of_le_of_lt above9 (Heap.Ns.lt n9))
end
section
namespace Mine
open PySem.Calls PySem.Spec
theorem stays_hide {h h' g : Heap} {L : Addr} {m : Str → Option Value} (hg : g = hideAll h (List.map (fun x : Addr × Obj => x.1) [])) (F : Fr g L h' m) : h.StaysIn h' ∧ h.objs.size ≤ h'.objs.size := by
  refine ⟨fun b o e => F.keep b o (by rw [hg]; exact hideAll_get _ e (by simp)), ?_⟩
  have z := fr_size F
  rw [hg, hideAll_size] at z
  exact z
noncomputable def lamX : Expr → Option (Arguments × Expr × Scope)
  | .Call _ (.Lambda p b s _ :: _) _ _ => some (p, b, s)
  | .Call _ _ (k :: _) _ => (match k.value with
    | .Call _ (.Lambda p b s _ :: _) _ _ => some (p, b, s)
    | _ => none)
  | _ => none
/- The lambda that the i-th statement of the def at `a` hands to a call. -/
noncomputable def ltx (w : World) (a i : Nat) : Option (Arguments × Expr × Scope) := match (bodyOf ((hd.heap_39 w.params).lookup a))[i]? with
  | some (.Return (some e) _) => lamX e
  | some (.Assign _ e _) => lamX e
  | _ => none
/- A lambda object of that text stands at f. -/
structure LamAt (w : World) (a i : Nat) (h : Heap) (f : Addr) (cl : List (Str × Addr)) : Prop where
  fn : ∃ q p b sc pm c ctv, ltx w a i = some (p, b, sc) ∧ h.get? f = some (kla_obj "<lambda>" q p b sc cl pm c ctv) ∧ h.CodeRec (.ref c) q
theorem CodeRec_keeps {h h' : Heap} {c : Value} {q : Str} (x : h.CodeRec c q) (k : ∀ b o, h.get? b = some o → h'.get? b = some o) : h'.CodeRec c q := let ⟨c, o, vs, t, e, g, r⟩ := x; ⟨c, o, vs, t, e, k _ _ g, r⟩
theorem LamAt.keeps {w : World} {a i : Nat} {h h' : Heap} {f : Addr} {cl : List (Str × Addr)} (x : LamAt w a i h f cl) (k : ∀ b o, h.get? b = some o → h'.get? b = some o) : LamAt w a i h' f cl := by
  obtain ⟨q, p, b, sc, pm, c, ctv, e, g, r⟩ := x.fn
  exact ⟨q, p, b, sc, pm, c, ctv, e, k _ _ g, CodeRec_keeps r k⟩
theorem LamAt.fnAt {w : World} {a i : Nat} {h : Heap} {f : Addr} {cl : List (Str × Addr)} (x : LamAt w a i h f cl) : FnAt f h := by
  obtain ⟨q, p, b, sc, pm, c, ctv, e, g, r⟩ := x.fn
  exact ⟨_, _, _, _, g⟩
theorem isList_keeps {h h' : Heap} {l : Addr} {vs : Array Value} (x : h.IsList l vs) (k : ∀ b o, h.get? b = some o → h'.get? b = some o) : h'.IsList l vs := let ⟨o, e, r⟩ := x; ⟨o, k _ _ e, r⟩
/- The cell of the ways. -/
structure WaysAt (h : Heap) (cw : Addr) (W : Nat → Array UInt8) (T : Nat → Tok) : Prop where
  all : ∃ oc lw, h.get? cw = some oc ∧ oc.data = .cell (some (.ref lw)) ∧ h.IsList lw (waysL W T).toArray
theorem WaysAt.keeps {h h' : Heap} {cw : Addr} {W : Nat → Array UInt8} {T : Nat → Tok} (x : WaysAt h cw W T) (k : ∀ b o, h.get? b = some o → h'.get? b = some o) : WaysAt h' cw W T := by
  obtain ⟨oc, lw, a, b, c⟩ := x.all
  exact ⟨oc, lw, k _ _ a, b, isList_keeps c k⟩
theorem name_free {M : Model} {A : Around} {E : Value → Shared → Prop} {s : Shared} {L a c : Addr} {cn : Str} {cs : Scope} {ccd : Value} {cl : List (Str × Addr)} {x : Str} {pos : Pos} {v : Value} {o : Obj} {Q : Value → Shared → Prop} (hc : cl.lookup x = some c) (ho : s.heap.get? c = some o) (hd : o.data = .cell (some v)) (h : Q v s)
    (hk : cs.kind = .function := by rfl) (hx : (envX cn cs L a ccd cl).kindOf x = some .free := by rfl) (hb : (x == ("__debug__" : Str)) = false := by decide) (hn : (x == ("__classdict__" : Str)) = false := by decide) :
    wpAny M A (eval (.Name x pos) (envX cn cs L a ccd cl)) Q E s := wpAny_Name (wpAny_loadName_free hk hx hc ⟨o, ho, hd⟩ h hn) hb
end Mine
end
section
namespace Mine
open PySem.Calls PySem.Spec PySem.W.X
/- A thing of the class, with what it holds. -/
noncomputable def InstOf (h : Heap) (κ x : Addr) (v : Value) : Prop := ∃ dx, h.get? x = some (instK κ dx v) ∧ h.get? dx = some emptyDict
theorem InstOf.keeps {h h' : Heap} {κ x : Addr} {v : Value} (i : InstOf h κ x v) (k : ∀ b o, h.get? b = some o → h'.get? b = some o) : InstOf h' κ x v := let ⟨dx, a, b⟩ := i; ⟨dx, k _ _ a, k _ _ b⟩
theorem InstOf.at {h : Heap} {κ x : Addr} {v : Value} (i : InstOf h κ x v) : ∃ dx, InstAt h x (instK κ dx v) κ (some emptyDict) := let ⟨dx, a, b⟩ := i; ⟨dx, a, rfl, rfl, b⟩
/- The attribute obj of such a thing. -/
theorem get_obj {w : World} {κ fl x : Addr} {d : KD} {v : Value} {A : Around} {E : Value → Shared → Prop} {s : Shared} {Q : Value → Shared → Prop} {expr : Bool} (K : KIs w s.heap κ fl d) (i : InstOf s.heap κ x v) (hv : handedIn v = true)
    (h : ∀ tk, Q v { s with toks := tk }) : wpAny (MD w) A (getAttr (.ref x) "obj" expr) Q E s := by
  obtain ⟨dx, I⟩ := i.at
  refine get_bind (name := "obj") K.isIn I K.fGa K.findO K.fGt ?_
  refine wpAny_call ?_
  refine slot_get (s := { s with toks := s.toks + 1 }) (i := 0) (v := v) K.isIn I K.slot rfl ?_
  exact handed_on hv (h _)
end Mine
theorem Mine.c_klt (w : World) (κ fl x y : Addr) (d : Mine.KD) (u v : Value) (n : Nat) (Pl : Heap → Prop) (c : Int) (hl : Mine.Told w fl [u, v] n Pl (Mine.RI c)) (hst : ∀ h h' : Heap, h.StaysIn h' → Pl h → Pl h') (hfn : ∀ h, Pl h → FnAt fl h) (hu : handedIn u = true) (hv : handedIn v = true) :
    Mine.Told w d.f1 [.ref x, .ref y] (n + 4) (fun h => Mine.KIs w h κ fl d ∧ Mine.InstOf h κ x u ∧ Mine.InstOf h κ y v ∧ Pl h) (Mine.RV (.bool (decide (c < 0)))) := by
  unfold Mine.Told
  k_with_none
  (k_with "call type:type" => ((k_here; (with_reducible show wpAny _ _ (call (Value.type "type") [Value.bytes _ _]) _ _ _); refine Mine.type_bytes ?_)))
  (k_with "call builtin:issubclass" => ((k_here; k_dflt (refine' Mine.issub_bytes ?zqk1 ?_; (case zqk1 => exact News.isTup (by k_asm) (by k_mem)); k_whole))))
  (k_with "getMethod bytes" => ((k_here; (with_reducible first | refine Mine.method_rfind ?_ | refine Mine.method_rstrip ?_ | refine Mine.method_starts ?_ | refine Mine.method_ends ?_))))
  (k_with "call builtin:bytes.rfind" => ((k_here; refine Mine.call_rfind ?_)))
  (k_with "call builtin:bytes.startswith" => ((k_here; refine Mine.call_starts ?_)))
  (k_with "call builtin:bytes.endswith" => ((k_here; refine Mine.call_ends ?_)))
  (k_with "call builtin:bytes.rstrip" => ((k_here; refine Mine.call_rstrip (by k_extra "kaf") ?_; intro zzt8 zzk8)))
  (k_with "subscriptTail" => ((k_here; (with_reducible show wpAny _ _ (subscriptTail _ (Expr.Slice _ _ none _) (Value.bytes _ _) (Value.ref _)) _ _ _); (with_reducible rename Fr _ _ _ _ => zzFq); (with_reducible rename News _ _ _ _ => zzNq); (refine Mine.slice_B (s := ⟨_, _, _, _, _⟩) zzFq zzNq (by constructor) (by constructor) (by k_extra "kaf") ?_); intro _ _ _ _ _; (try k_sweep))))
  (k_with "truthy bytes" => ((k_here; (refine Mine.truthy_B (by k_extra "kaf") ?_); intro _)))
  (k_with "call builtin:len" => ((k_here; (with_reducible show wpAny _ _ (call (Value.builtin "len") [Value.bytes _ _]) _ _ _); (refine Mine.len_B (by k_extra "kaf") ?_); intro _ _)))
  (k_with "binaryOp Mult bytes int" => ((k_here; (refine Mine.mul_B (by k_extra "kaf") ?_); intro _ _)))
  (k_with "exec While Name" => ((k_here; refine whl_start 5 ?_)))
  (k_with "WhlIf" => ((first | (refine WhlIf.yes (by with_unfolding_all rfl) ?_) | (refine WhlIf.no (by with_unfolding_all rfl) ?_) | (refine Mine.whl_split ?_ ?_ <;> intro zzhw8 <;> (first | done | (exfalso; (try simp only [bne_iff_ne, ne_eq, bne_eq_false_iff_eq, decide_eq_true_eq, decide_eq_false_iff_not] at *); omega) | skip)))))
  (k_with "binaryOp Add bytes bytes" => ((k_here; (refine Mine.add_B (by k_extra "kaf") ?_); intro _ _)))
  (k_with "kaf" => (first | (with_reducible assumption) | ((with_reducible refine Mine.sz_cut ?_); k_extra "kaf") | ((with_reducible refine Mine.small_rstrip ?_); k_extra "kaf") | ((with_reducible refine Mine.sz_app ?_ ?_) <;> k_extra "kaf") | exact Nat.le_of_ble_eq_true rfl | exact Nat.le_trans (by with_reducible assumption) (by decide) | assumption | ((try simp only [Mine.Small, Array.size_append, List.size_toArray, List.length_cons, List.length_nil] at *); omega)))
  (k_with "inplaceOp Add bytes bytes" => ((k_here; (refine Mine.iadd_B (by k_extra "kaf") ?_); intro _ _)))
  (k_with "WhlIf" => ((refine WhlIf.no (Mine.ap_three (by assumption) (by assumption)) ?_)))
  (k_with "kaf" => (first | (with_reducible assumption) | ((with_reducible refine Mine.sz_word ?_); exact Nat.le_of_ble_eq_true rfl) | ((with_reducible refine Mine.sz_frontB ?_); k_extra "kaf") | ((with_reducible refine Mine.sz_endB ?_); k_extra "kaf") | ((with_reducible refine Mine.sz_baseB ?_); k_extra "kaf") | ((with_reducible refine Mine.sz_dirB ?_); k_extra "kaf")))
  (k_with "compareOp Gt bytes bytes" => ((k_here; refine Mine.gt_bytes ?_)))
  (k_with "eval Name" => ((k_here; (with_reducible show wpAny _ _ (eval (Expr.Name (PySem.Str.ofString "mycmp") _) _) _ _ _); k_dflt (refine Mine.name_free rfl (by assumption) (by assumption) ?_))))
  (k_with "getAttr ref" => ((k_here; k_dflt (refine Mine.get_obj (by assumption) (by assumption) (by assumption) ?_); intro zztk8)))
  (k_with "call ref" => ((k_here; k_dflt (refine' Mine.useI (by assumption) ?zqk1 ?zqk2 ?zqk3 ?zqk4 ?zqk5 ?zqk6 ?zqk7 ?zqk8 ?zqk9 ?_; ((case zqk1 => k_asm); (case zqk2 => k_asm); (case zqk3 => k_asm); (case zqk4 => k_asm); (case zqk5 => k_asm); (case zqk6 => first | exact rfl | assumption); (case zqk7 => first | exact True.intro | assumption); (case zqk8 => ktr_room); (case zqk9 => ktr_units))); intro zzt8 zzh8 zztk8 zzF8 zzN8; (try k_sweep); (try k_fold))))
  (k_with "callWith ref" => ((k_here; k_dflt (refine' callWith_F ?zqk1 ?_; (case zqk1 => assumption)))))
  (k_with "FnAt" => (assumption))
  w_top off
  k_fill
  intro p loose mean mg mb dp un gd cn cs a ccd cl outer A₀ base h₀ L m s Q E B F X T hk hpre hdp hun hret
  refine wpAny_call ?_
  obtain ⟨KI, i1, i2, hPl⟩ := hpre
  have hcode : s.heap.CodeRec (.ref d.c1) d.q1 := ⟨_, _, _, _, rfl, KI.c1, KI.e1, KI.v1⟩
  have hk0 := KI.k1
  have hf0 := KI.f1
  unfold Mine.KD.f1o at hf0
  revert hk0 hf0
  generalize d.p1 = p0
  generalize d.b1 = b0
  generalize d.s1 = s0
  intro hk0 hf0
  unfold Mine.ktx at hk0
  with_unfolding_all change some (_, _, _) = _ at hk0
  cases hk0
  refine Mine.callX_hide (news := []) (binds := [(PySem.Str.ofString "self", .ref x), (PySem.Str.ofString "other", .ref y)]) B F News.nil T.nolimit rfl rfl hk hf0 rfl hcode ?room (BindsTo.of_eq rfl) (locs rfl) ?_ (by decide) rfl rfl rfl
  case room => ktr_room
  intro g' L' h₁ hg F' N' B' st kh sz
  have X' := X.keeps st
  have T' := T.keeps st
  have KI1 := KI.keeps kh
  have hc1 := KI1.cell
  have hc2 := KI1.cellv
  have i11 := i1.keeps kh
  have i21 := i2.keeps kh
  have hP1 := hst _ _ kh hPl
  have hf1 := hfn _ hP1
  clear KI hf0 i1 i2 hPl B F X T hcode
  (try dsimp only)
  (show wpAny _ _ _ _ _ _)
  k_fold
  (repeat' (first | (k_unfold; (try dsimp only)) | (k_end; kc_close) | (dsimp only; walk1) | walk1 | (leave1; try dsimp only)))
  all_goals (repeat (first | k_unfold | dsimp only | dsimp +zetaDelta only))
  all_goals (unfold Mine.EndP; dsimp only)
  (with_reducible rename Fr _ _ _ _ => F9)
  refine hret _ _ _ (fun b o e => F9.keep b o (by rw [hg]; exact hideAll_get _ e (by simp))) ?_ rfl
  have z := Mine.fr_size F9
  rw [hg, hideAll_size] at z
  exact z
end
section
theorem Mine.c_lam1 (w : World) (f : PySem.Addr) (n o : Int) (t1 t2 : Tok) (h0 : 0 ≤ n) (h1 : n < 100000) (h2 : 0 ≤ o) (h3 : o < 256) : Mine.Told w f [.int n t1, .int o t2] 2 (fun h => Mine.LamAt w 200 0 h f []) (Mine.RI (16 * n + o - 65)) := by
  unfold Mine.Told
  k_with_none
  (k_with "call type:type" => ((k_here; (with_reducible show wpAny _ _ (call (Value.type "type") [Value.bytes _ _]) _ _ _); refine Mine.type_bytes ?_)))
  (k_with "call builtin:issubclass" => ((k_here; k_dflt (refine' Mine.issub_bytes ?zqk1 ?_; (case zqk1 => exact News.isTup (by k_asm) (by k_mem)); k_whole))))
  (k_with "getMethod bytes" => ((k_here; (with_reducible first | refine Mine.method_rfind ?_ | refine Mine.method_rstrip ?_ | refine Mine.method_starts ?_ | refine Mine.method_ends ?_))))
  (k_with "call builtin:bytes.rfind" => ((k_here; refine Mine.call_rfind ?_)))
  (k_with "call builtin:bytes.startswith" => ((k_here; refine Mine.call_starts ?_)))
  (k_with "call builtin:bytes.endswith" => ((k_here; refine Mine.call_ends ?_)))
  (k_with "call builtin:bytes.rstrip" => ((k_here; refine Mine.call_rstrip (by k_extra "kaf") ?_; intro zzt8 zzk8)))
  (k_with "subscriptTail" => ((k_here; (with_reducible show wpAny _ _ (subscriptTail _ (Expr.Slice _ _ none _) (Value.bytes _ _) (Value.ref _)) _ _ _); (with_reducible rename Fr _ _ _ _ => zzFq); (with_reducible rename News _ _ _ _ => zzNq); (refine Mine.slice_B (s := ⟨_, _, _, _, _⟩) zzFq zzNq (by constructor) (by constructor) (by k_extra "kaf") ?_); intro _ _ _ _ _; (try k_sweep))))
  (k_with "truthy bytes" => ((k_here; (refine Mine.truthy_B (by k_extra "kaf") ?_); intro _)))
  (k_with "call builtin:len" => ((k_here; (with_reducible show wpAny _ _ (call (Value.builtin "len") [Value.bytes _ _]) _ _ _); (refine Mine.len_B (by k_extra "kaf") ?_); intro _ _)))
  (k_with "binaryOp Mult bytes int" => ((k_here; (refine Mine.mul_B (by k_extra "kaf") ?_); intro _ _)))
  (k_with "exec While Name" => ((k_here; refine whl_start 5 ?_)))
  (k_with "WhlIf" => ((first | (refine WhlIf.yes (by with_unfolding_all rfl) ?_) | (refine WhlIf.no (by with_unfolding_all rfl) ?_) | (refine Mine.whl_split ?_ ?_ <;> intro zzhw8 <;> (first | done | (exfalso; (try simp only [bne_iff_ne, ne_eq, bne_eq_false_iff_eq, decide_eq_true_eq, decide_eq_false_iff_not] at *); omega) | skip)))))
  (k_with "binaryOp Add bytes bytes" => ((k_here; (refine Mine.add_B (by k_extra "kaf") ?_); intro _ _)))
  (k_with "kaf" => (first | (with_reducible assumption) | ((with_reducible refine Mine.sz_cut ?_); k_extra "kaf") | ((with_reducible refine Mine.small_rstrip ?_); k_extra "kaf") | ((with_reducible refine Mine.sz_app ?_ ?_) <;> k_extra "kaf") | exact Nat.le_of_ble_eq_true rfl | exact Nat.le_trans (by with_reducible assumption) (by decide) | assumption | ((try simp only [Mine.Small, Array.size_append, List.size_toArray, List.length_cons, List.length_nil] at *); omega)))
  (k_with "inplaceOp Add bytes bytes" => ((k_here; (refine Mine.iadd_B (by k_extra "kaf") ?_); intro _ _)))
  (k_with "WhlIf" => ((refine WhlIf.no (Mine.ap_three (by assumption) (by assumption)) ?_)))
  (k_with "kaf" => (first | (with_reducible assumption) | ((with_reducible refine Mine.sz_word ?_); exact Nat.le_of_ble_eq_true rfl) | ((with_reducible refine Mine.sz_frontB ?_); k_extra "kaf") | ((with_reducible refine Mine.sz_endB ?_); k_extra "kaf") | ((with_reducible refine Mine.sz_baseB ?_); k_extra "kaf") | ((with_reducible refine Mine.sz_dirB ?_); k_extra "kaf")))
  (k_with "compareOp Gt bytes bytes" => ((k_here; refine Mine.gt_bytes ?_)))
  w_top off
  k_fill
  intro p loose mean mg mb dp un gd cn cs a ccd cl outer A₀ base h₀ L m s Q E B F X T hk hpre hdp hun hret
  obtain ⟨q, p, b, sc, pm, c, ctv, hx, ho, hcode⟩ := hpre.fn
  unfold Mine.ltx at hx
  with_unfolding_all change some (_, _, _) = _ at hx
  cases hx
  refine wpAny_call ?_
  refine Mine.lamX_hide (news := []) (binds := [(PySem.Str.ofString "number", .int n t1), (PySem.Str.ofString "octet", .int o t2)]) B F News.nil T.nolimit rfl rfl hk ho rfl hcode ?room rfl (locs rfl) ?_ (by decide) rfl rfl rfl
  case room => ktr_room
  intro g' L' h₁ hg F' N' B' st kh sz
  have X' := X.keeps st
  have T' := T.keeps st
  clear B F X T hcode ho
  (try dsimp only)
  (show wpAny _ _ _ _ _ _)
  k_fold
  (repeat' (first | (k_unfold; (try dsimp only)) | (k_end; kc_close) | (dsimp only; walk1) | walk1 | (leave1; try dsimp only)))
  all_goals (repeat (first | k_unfold | dsimp only | dsimp +zetaDelta only))
  all_goals (unfold Mine.EndP; dsimp only)
  (with_reducible rename Fr _ _ _ _ => F9)
  exact hret _ _ _ (Mine.stays_hide hg F9).1 (Mine.stays_hide hg F9).2 ⟨_, rfl⟩
end
section
section
theorem Mine.c_lam2 (w : World) (W : Nat → Array UInt8) (T₀ : Nat → Tok) (hW : ∀ i, Mine.Small (W i)) (hF : ∀ i, Mine.FirstOk (W i)) (hB : ∀ i, Mine.FirstOk (Mine.baseB (W i))) (f cw : PySem.Addr) (i j : Int) (t1 t2 : Tok) (h0 : 0 ≤ i) (h1 : i < 8) (h2 : 0 ≤ j) (h3 : j < 8) :
    Mine.Told w f [.int i t1, .int j t2] 16 (fun h => Mine.LamAt w 233 3 h f [(PySem.Str.ofString "ways", cw)] ∧ Mine.WaysAt h cw W T₀) (Mine.RI (Mine.cmpZ (W i.toNat) (W j.toNat))) := by
  unfold Mine.Told
  k_with_none
  (k_with "call type:type" => ((k_here; (with_reducible show wpAny _ _ (call (Value.type "type") [Value.bytes _ _]) _ _ _); refine Mine.type_bytes ?_)))
  (k_with "call builtin:issubclass" => ((k_here; k_dflt (refine' Mine.issub_bytes ?zqk1 ?_; (case zqk1 => exact News.isTup (by k_asm) (by k_mem)); k_whole))))
  (k_with "getMethod bytes" => ((k_here; (with_reducible first | refine Mine.method_rfind ?_ | refine Mine.method_rstrip ?_ | refine Mine.method_starts ?_ | refine Mine.method_ends ?_))))
  (k_with "call builtin:bytes.rfind" => ((k_here; refine Mine.call_rfind ?_)))
  (k_with "call builtin:bytes.startswith" => ((k_here; refine Mine.call_starts ?_)))
  (k_with "call builtin:bytes.endswith" => ((k_here; refine Mine.call_ends ?_)))
  (k_with "call builtin:bytes.rstrip" => ((k_here; refine Mine.call_rstrip (by k_extra "kaf") ?_; intro zzt8 zzk8)))
  (k_with "subscriptTail" => ((k_here; (with_reducible show wpAny _ _ (subscriptTail _ (Expr.Slice _ _ none _) (Value.bytes _ _) (Value.ref _)) _ _ _); (with_reducible rename Fr _ _ _ _ => zzFq); (with_reducible rename News _ _ _ _ => zzNq); (refine Mine.slice_B (s := ⟨_, _, _, _, _⟩) zzFq zzNq (by constructor) (by constructor) (by k_extra "kaf") ?_); intro _ _ _ _ _; (try k_sweep))))
  (k_with "truthy bytes" => ((k_here; (refine Mine.truthy_B (by k_extra "kaf") ?_); intro _)))
  (k_with "call builtin:len" => ((k_here; (with_reducible show wpAny _ _ (call (Value.builtin "len") [Value.bytes _ _]) _ _ _); (refine Mine.len_B (by k_extra "kaf") ?_); intro _ _)))
  (k_with "binaryOp Mult bytes int" => ((k_here; (refine Mine.mul_B (by k_extra "kaf") ?_); intro _ _)))
  (k_with "exec While Name" => ((k_here; refine whl_start 5 ?_)))
  (k_with "WhlIf" => ((first | (refine WhlIf.yes (by with_unfolding_all rfl) ?_) | (refine WhlIf.no (by with_unfolding_all rfl) ?_) | (refine Mine.whl_split ?_ ?_ <;> intro zzhw8 <;> (first | done | (exfalso; (try simp only [bne_iff_ne, ne_eq, bne_eq_false_iff_eq, decide_eq_true_eq, decide_eq_false_iff_not] at *); omega) | skip)))))
  (k_with "binaryOp Add bytes bytes" => ((k_here; (refine Mine.add_B (by k_extra "kaf") ?_); intro _ _)))
  (k_with "kaf" => (first | (with_reducible assumption) | ((with_reducible refine Mine.sz_cut ?_); k_extra "kaf") | ((with_reducible refine Mine.small_rstrip ?_); k_extra "kaf") | ((with_reducible refine Mine.sz_app ?_ ?_) <;> k_extra "kaf") | exact Nat.le_of_ble_eq_true rfl | exact Nat.le_trans (by with_reducible assumption) (by decide) | assumption | ((try simp only [Mine.Small, Array.size_append, List.size_toArray, List.length_cons, List.length_nil] at *); omega)))
  (k_with "inplaceOp Add bytes bytes" => ((k_here; (refine Mine.iadd_B (by k_extra "kaf") ?_); intro _ _)))
  (k_with "WhlIf" => ((refine WhlIf.no (Mine.ap_three (by assumption) (by assumption)) ?_)))
  (k_with "kaf" => (first | (with_reducible assumption) | ((with_reducible refine Mine.sz_word ?_); exact Nat.le_of_ble_eq_true rfl) | ((with_reducible refine Mine.sz_frontB ?_); k_extra "kaf") | ((with_reducible refine Mine.sz_endB ?_); k_extra "kaf") | ((with_reducible refine Mine.sz_baseB ?_); k_extra "kaf") | ((with_reducible refine Mine.sz_dirB ?_); k_extra "kaf")))
  (k_with "compareOp Gt bytes bytes" => ((k_here; refine Mine.gt_bytes ?_)))
  (k_with "eval Name" => ((k_here; (with_reducible show wpAny _ _ (eval (Expr.Name (PySem.Str.ofString "ways") _) _) _ _ _); k_dflt (refine Mine.name_free rfl (Fr.keep (by k_asm) _ _ (by assumption)) (by assumption) ?_))))
  (k_with "subscriptTail" => ((k_here; (with_reducible show wpAny _ _ (subscriptTail _ _ (Value.ref _) (Value.int _ _)) _ _ _); k_dflt (refine Mine.item_way (by k_asm) (by assumption) (by assumption) (by assumption) ?_))))
  (k_with "call ref" => ((k_here; (with_reducible show wpAny _ _ (call (Value.ref 214) [Value.bytes _ _, Value.bytes _ _]) _ _ _); k_dflt (refine' Mine.useI (Mine.c_compared _ _ _ _ _ (by assumption) (by assumption) (by assumption) (by assumption) (by assumption) (by assumption)) ?zqk1 ?zqk2 ?zqk3 ?zqk4 ?zqk5 ?zqk6 ?zqk7 ?zqk8 ?zqk9 ?_; ((case zqk1 => k_asm); (case zqk2 => k_asm); (case zqk3 => k_asm); (case zqk4 => k_asm); (case zqk5 => k_asm); (case zqk6 => first | exact rfl | assumption); (case zqk7 => first | exact True.intro | assumption); (case zqk8 => ktr_room); (case zqk9 => ktr_units))); intro zzt8 zzh8 zztk8 zzF8 zzN8; (try k_sweep); (try k_fold))))
  w_top off
  k_fill
  intro p loose mean mg mb dp un gd cn cs a ccd cl outer A₀ base h₀ L m s Q E B F X T hk hpre hdp hun hret
  obtain ⟨hlam, hways⟩ := hpre
  obtain ⟨q, p, b, sc, pm, c, ctv, hx, ho, hcode⟩ := hlam.fn
  unfold Mine.ltx at hx
  with_unfolding_all change some (_, _, _) = _ at hx
  cases hx
  refine wpAny_call ?_
  refine Mine.lamX_hide (news := []) (binds := [(PySem.Str.ofString "p", .int i t1), (PySem.Str.ofString "q", .int j t2)]) B F News.nil T.nolimit rfl rfl hk ho rfl hcode ?room rfl (locs rfl) ?_ (by decide) rfl rfl rfl
  case room => ktr_room
  intro g' L' h₁ hg F' N' B' st kh sz
  have X' := X.keeps st
  have T' := T.keeps st
  obtain ⟨oc, lw, hc1, hc2, hlw⟩ := hways.all
  have hlg : g'.IsList lw (Mine.waysL W T₀).toArray := Mine.isList_keeps hlw (fun b o e => by rw [hg]; exact hideAll_get _ e (by simp))
  have hcg : g'.get? cw = some oc := by rw [hg]; exact hideAll_get _ hc1 (by simp)
  have hb1 := hB i.toNat
  have hb2 := hB j.toNat
  have hb3 := hF i.toNat
  have hb4 := hF j.toNat
  have hb5 := hW i.toNat
  have hb6 := hW j.toNat
  clear B F X T hcode ho hc1 hlw hways hlam
  (try dsimp only)
  (show wpAny _ _ _ _ _ _)
  k_fold
  (repeat' (first | (k_unfold; (try dsimp only)) | (k_end; kc_close) | (dsimp only; walk1) | walk1 | (leave1; try dsimp only)))
  all_goals (repeat (first | k_unfold | dsimp only | dsimp +zetaDelta only))
  all_goals (unfold Mine.EndP; dsimp only)
  (with_reducible rename Fr _ _ _ _ => F9)
  exact hret _ _ _ (Mine.stays_hide hg F9).1 (Mine.stays_hide hg F9).2 ⟨_, rfl⟩
end
section
theorem Mine.c_lam3 (w : World) (W : Nat → Array UInt8) (T₀ : Nat → Tok) (hW : ∀ i, Mine.Small (W i)) (hF : ∀ i, Mine.FirstOk (W i)) (f cw lk : PySem.Addr) (kvs : List Value) (ns : List Int) (hi : IntsAre kvs ns) (hlen : ns.length ≤ 8) (hr : ∀ n ∈ ns, 0 ≤ n ∧ n < 8) (j : Int) (t2 : Tok) (h2 : 0 ≤ j) (h3 : j < 8) :
    Mine.Told w f [.ref lk, .int j t2] 16 (fun h => Mine.LamAt w 233 7 h f [(PySem.Str.ofString "ways", cw)] ∧ Mine.WaysAt h cw W T₀ ∧ h.IsList lk kvs.toArray) (Mine.RList (Mine.newerL W ns j)) := by
  unfold Mine.Told
  k_with_none
  (k_with "call type:type" => ((k_here; (with_reducible show wpAny _ _ (call (Value.type "type") [Value.bytes _ _]) _ _ _); refine Mine.type_bytes ?_)))
  (k_with "call builtin:issubclass" => ((k_here; k_dflt (refine' Mine.issub_bytes ?zqk1 ?_; (case zqk1 => exact News.isTup (by k_asm) (by k_mem)); k_whole))))
  (k_with "getMethod bytes" => ((k_here; (with_reducible first | refine Mine.method_rfind ?_ | refine Mine.method_rstrip ?_ | refine Mine.method_starts ?_ | refine Mine.method_ends ?_))))
  (k_with "call builtin:bytes.rfind" => ((k_here; refine Mine.call_rfind ?_)))
  (k_with "call builtin:bytes.startswith" => ((k_here; refine Mine.call_starts ?_)))
  (k_with "call builtin:bytes.endswith" => ((k_here; refine Mine.call_ends ?_)))
  (k_with "call builtin:bytes.rstrip" => ((k_here; refine Mine.call_rstrip (by k_extra "kaf") ?_; intro zzt8 zzk8)))
  (k_with "subscriptTail" => ((k_here; (with_reducible show wpAny _ _ (subscriptTail _ (Expr.Slice _ _ none _) (Value.bytes _ _) (Value.ref _)) _ _ _); (with_reducible rename Fr _ _ _ _ => zzFq); (with_reducible rename News _ _ _ _ => zzNq); (refine Mine.slice_B (s := ⟨_, _, _, _, _⟩) zzFq zzNq (by constructor) (by constructor) (by k_extra "kaf") ?_); intro _ _ _ _ _; (try k_sweep))))
  (k_with "truthy bytes" => ((k_here; (refine Mine.truthy_B (by k_extra "kaf") ?_); intro _)))
  (k_with "call builtin:len" => ((k_here; (with_reducible show wpAny _ _ (call (Value.builtin "len") [Value.bytes _ _]) _ _ _); (refine Mine.len_B (by k_extra "kaf") ?_); intro _ _)))
  (k_with "binaryOp Mult bytes int" => ((k_here; (refine Mine.mul_B (by k_extra "kaf") ?_); intro _ _)))
  (k_with "exec While Name" => ((k_here; refine whl_start 5 ?_)))
  (k_with "WhlIf" => ((first | (refine WhlIf.yes (by with_unfolding_all rfl) ?_) | (refine WhlIf.no (by with_unfolding_all rfl) ?_) | (refine Mine.whl_split ?_ ?_ <;> intro zzhw8 <;> (first | done | (exfalso; (try simp only [bne_iff_ne, ne_eq, bne_eq_false_iff_eq, decide_eq_true_eq, decide_eq_false_iff_not] at *); omega) | skip)))))
  (k_with "binaryOp Add bytes bytes" => ((k_here; (refine Mine.add_B (by k_extra "kaf") ?_); intro _ _)))
  (k_with "kaf" => (first | (with_reducible assumption) | ((with_reducible refine Mine.sz_cut ?_); k_extra "kaf") | ((with_reducible refine Mine.small_rstrip ?_); k_extra "kaf") | ((with_reducible refine Mine.sz_app ?_ ?_) <;> k_extra "kaf") | exact Nat.le_of_ble_eq_true rfl | exact Nat.le_trans (by with_reducible assumption) (by decide) | assumption | ((try simp only [Mine.Small, Array.size_append, List.size_toArray, List.length_cons, List.length_nil] at *); omega)))
  (k_with "inplaceOp Add bytes bytes" => ((k_here; (refine Mine.iadd_B (by k_extra "kaf") ?_); intro _ _)))
  (k_with "WhlIf" => ((refine WhlIf.no (Mine.ap_three (by assumption) (by assumption)) ?_)))
  (k_with "kaf" => (first | (with_reducible assumption) | ((with_reducible refine Mine.sz_word ?_); exact Nat.le_of_ble_eq_true rfl) | ((with_reducible refine Mine.sz_frontB ?_); k_extra "kaf") | ((with_reducible refine Mine.sz_endB ?_); k_extra "kaf") | ((with_reducible refine Mine.sz_baseB ?_); k_extra "kaf") | ((with_reducible refine Mine.sz_dirB ?_); k_extra "kaf")))
  (k_with "compareOp Gt bytes bytes" => ((k_here; refine Mine.gt_bytes ?_)))
  (k_with "eval Name" => ((k_here; (with_reducible show wpAny _ _ (eval (Expr.Name (PySem.Str.ofString "ways") _) _) _ _ _); k_dflt (refine Mine.name_free rfl (Fr.keep (by k_asm) _ _ (by assumption)) (by assumption) ?_))))
  (k_with "subscriptTail" => ((k_here; (with_reducible show wpAny _ _ (subscriptTail _ _ (Value.ref _) (Value.int _ _)) _ _ _); k_dflt (refine Mine.item_way (by k_asm) (by assumption) (by assumption) (by assumption) ?_))))
  (k_with "call ref" => ((k_here; (with_reducible show wpAny _ _ (call (Value.ref 214) [Value.bytes _ _, Value.bytes _ _]) _ _ _); k_dflt (refine' Mine.useI (Mine.c_compared _ _ _ _ _ (by assumption) (by assumption) (by assumption) (by assumption) (by assumption) (by assumption)) ?zqk1 ?zqk2 ?zqk3 ?zqk4 ?zqk5 ?zqk6 ?zqk7 ?zqk8 ?zqk9 ?_; ((case zqk1 => k_asm); (case zqk2 => k_asm); (case zqk3 => k_asm); (case zqk4 => k_asm); (case zqk5 => k_asm); (case zqk6 => first | exact rfl | assumption); (case zqk7 => first | exact True.intro | assumption); (case zqk8 => ktr_room); (case zqk9 => ktr_units))); intro zzt8 zzh8 zztk8 zzF8 zzN8; (try k_sweep); (try k_fold))))
  (k_with "call ref" => ((k_here; (with_reducible show wpAny _ _ (call (Value.ref 221) [Value.ref _, Value.ref _, Value.int _ _]) _ _ _); k_dflt (refine' Mine.use (Mine.c_newer _ _ _ (by assumption) (by assumption) _ _ _ _ (by assumption) (by assumption) (by assumption) _ _ (by assumption) (by assumption)) ?zqk1 ?zqk2 ?zqk3 ?zqk4 ?zqk5 ?zqk6 ?zqk7 ?zqk8 ?zqk9 ?_; ((case zqk1 => k_asm); (case zqk2 => k_asm); (case zqk3 => k_asm); (case zqk4 => k_asm); (case zqk5 => k_asm); (case zqk6 => first | exact rfl | assumption); (case zqk7 => exact ⟨Mine.isList_keeps (by assumption) (Fr.keep (by k_asm)), Mine.isList_keeps (by assumption) (Fr.keep (by k_asm))⟩); (case zqk8 => ktr_room); (case zqk9 => ktr_units))); intro zzv8 zzh8 zztk8 zzF8 zzN8 zzst8 zzsz8 zzr8; (try k_sweep); (try k_fold))))
  w_top off
  k_fill
  intro p loose mean mg mb dp un gd cn cs a ccd cl outer A₀ base h₀ L m s Q E B F X T hk hpre hdp hun hret
  obtain ⟨hlam, hways, hlk⟩ := hpre
  obtain ⟨q, p, b, sc, pm, c, ctv, hx, ho, hcode⟩ := hlam.fn
  unfold Mine.ltx at hx
  with_unfolding_all change some (_, _, _) = _ at hx
  cases hx
  refine wpAny_call ?_
  refine Mine.lamX_hide (news := []) (binds := [(PySem.Str.ofString "table", .ref lk), (PySem.Str.ofString "place", .int j t2)]) B F News.nil T.nolimit rfl rfl hk ho rfl hcode ?room rfl (locs rfl) ?_ (by decide) rfl rfl rfl
  case room => ktr_room
  intro g' L' h₁ hg F' N' B' st kh sz
  have X' := X.keeps st
  have T' := T.keeps st
  obtain ⟨oc, lw, hc1, hc2, hlw⟩ := hways.all
  have hlg : g'.IsList lw (Mine.waysL W T₀).toArray := Mine.isList_keeps hlw (fun b o e => by rw [hg]; exact hideAll_get _ e (by simp))
  have hcg : g'.get? cw = some oc := by rw [hg]; exact hideAll_get _ hc1 (by simp)
  have hkg : g'.IsList lk kvs.toArray := Mine.isList_keeps hlk (fun b o e => by rw [hg]; exact hideAll_get _ e (by simp))
  clear B F X T hcode ho hc1 hlw hways hlam hlk
  (try dsimp only)
  (show wpAny _ _ _ _ _ _)
  k_fold
  (repeat' (first | (k_unfold; (try dsimp only)) | (k_end; kc_close) | (dsimp only; walk1) | walk1 | (leave1; try dsimp only)))
  all_goals (repeat (first | k_unfold | dsimp only | dsimp +zetaDelta only))
  all_goals (unfold Mine.EndP; dsimp only)
  (with_reducible rename Fr _ _ _ _ => F9)
  (with_reducible rename Mine.RList _ _ _ _ => r9)
  obtain ⟨D9, vs9, c9, e1, e2, e3, e4⟩ := r9
  refine hret _ _ _ (Mine.stays_hide hg F9).1 (Mine.stays_hide hg F9).2 ⟨D9, vs9, c9, e1, ?_, e3, e4⟩
  cases z : s.heap.get? D9 with
  | none => rfl
  | some o => exact absurd ((kh _ _ z).symm.trans e2) (by simp)
end
end
section
namespace Mine
open PySem.Calls PySem.Spec
/- What a thing that is gone along gives: a new iterator at I. -/
structure Iters (w : World) (seq : Value) (Pre : Heap → Prop) (fb : List Addr) (n : Nat) (P : Nat → Value → Prop) : Prop where
  go : ∀ (A : Around) (s : Shared) (Q E : Value → Shared → Prop), A.handled = none → Pre s.heap →
    (∀ I h' oI St, s.heap.get? I = none → h'.get? I = some oI → (∀ b o, s.heap.get? b = some o → h'.get? b = some o) → s.heap.objs.size ≤ h'.objs.size → (∀ A', A'.handled = none → Walks PySem.Challenge.rw_ij0209_01.row.prog w A' I (I :: fb) [I] n P St) → (∀ i h, St i h → ∃ o, h.get? I = some o) → St 0 h' → Q (.ref I) { s with heap := h' }) →
    wpAny (MD w) A (pyIter seq) Q E s
  base : ∀ h, Pre h → ∀ b ∈ fb, ∃ o, h.get? b = some o
theorem iters_bytes (w : World) (b : Array UInt8) (t : Tok) {Pre : Heap → Prop} : Iters w (.bytes b t) Pre [] b.size (fun i v => ∃ c u, b[i]? = some c ∧ v = .int (c.toNat : Int) u) where
  go := fun A s Q E hh _ h => by
    refine KBw.pyIter_bytes ?_
    exact h s.heap.objs.size _ _ (fun i h => KBw.IsBytesIter h s.heap.objs.size b t i) (Heap.get?_none_of_le (Nat.le_refl _)) (Heap.get?_push_size _ rfl) (fun _ _ e => Heap.get?_push_of_some _ e) (by show _ ≤ (s.heap.push _).objs.size; rw [Heap.size_push]; lia) (fun A' hA' => KBw.walks hA' _ b t) (fun i h st => by obtain ⟨o, e, _⟩ := st; exact ⟨o, e⟩) ⟨_, Heap.get?_push_size _ rfl, rfl, rfl⟩
  base := fun _ _ _ hb => nomatch hb
theorem iters_list (w : World) (l : Addr) (vs : List Value) {Pre : Heap → Prop} (hp : ∀ h, Pre h → h.IsList l vs.toArray) : Iters w (.ref l) Pre [l] vs.length (fun i v => vs[i]? = some v) where
  go := fun A s Q E hh hpre h => by
    have hl := hp _ hpre
    have hlt : l < s.heap.objs.size := by obtain ⟨_, e, _⟩ := hl; exact Heap.lt_size e
    refine wpAny_pyIter_list hl ?_
    refine h s.heap.objs.size _ _ (fun i h => h.IsListIter s.heap.objs.size l i ∧ h.IsList l vs.toArray) (Heap.get?_none_of_le (Nat.le_refl _)) (Heap.get?_push_size _ rfl) (fun _ _ e => Heap.get?_push_of_some _ e) (by show _ ≤ (s.heap.push _).objs.size; rw [Heap.size_push]; lia) (fun A' hA' => ?_) (fun i h st => by obtain ⟨⟨o, e, _⟩, _⟩ := st; exact ⟨o, e⟩) ⟨⟨_, Heap.get?_push_size _ rfl, rfl, rfl⟩, hl.push _⟩
    have W := Walks.list (prog := PySem.Challenge.rw_ij0209_01.row.prog) (w := w) hA' s.heap.objs.size l (Nat.ne_of_lt hlt) vs.toArray
    simpa using W
  base := fun h hpre b hb => by
    obtain ⟨o, e, _⟩ := hp _ hpre
    rw [List.mem_singleton.mp hb]
    exact ⟨o, e⟩
/- The iterator at a, fresh, over what stands in g. -/
noncomputable def IterAt (w : World) (g : Heap) (a : Addr) (oI : Obj) (fb : List Addr) (n : Nat) (P : Nat → Value → Prop) : Prop :=
  ∃ St, (∀ A', A'.handled = none → Walks PySem.Challenge.rw_ij0209_01.row.prog w A' a (a :: fb) [a] n P St) ∧ (∀ h, h.get? a = some oI → (∀ b o, g.get? b = some o → h.get? b = some o) → St 0 h) ∧ (∀ b ∈ fb, ∃ o, g.get? b = some o) ∧ ∀ i h, St i h → ∃ o, h.get? a = some o
theorem m_iter {w : World} {seq : Value} {Pre : Heap → Prop} {fb : List Addr} {n : Nat} {P : Nat → Value → Prop} {A : Around} {s : Shared} {Q E : Value → Shared → Prop} {g : Heap} {L : Addr} {m : Str → Option Value} {news : List (Addr × Obj)}
    (F : Fr g L s.heap m) (N : News g L s.heap news) (I : Iters w seq Pre fb n P) (hh : A.handled = none) (hp : Pre s.heap) (hg : Pre g)
    (h : ∀ a h' oI, Fr g L h' m → News g L h' ((a, oI) :: news) → IterAt w g a oI fb n P → Q (.ref a) { s with heap := h' }) :
    wpAny (MD w) A (call (.builtin "iter") [seq]) Q E s := by
  refine Calls.call_function_entry (by decide +kernel) (by decide +kernel) kdk_entry_iter (kdk_args_iter _) ?_
  unfold Builtin.«iter»
  refine wpAny_bind (m := someArgs "iter" 1 2 _) (wpAny_of_eq (a := [seq]) (by first | rfl | kernel_rfl!) ?_)
  show wpAny _ _ (pyIter seq >>= _) _ _ _
  refine wpAny_bind (I.go _ s _ _ hh hp fun a h' oI St h0 h1 k sz W hio st => ?_)
  have W0 := W { handled := none, depth := 0, frames := none, guards := none, units := 0 } rfl
  refine wpAny_pure ⟨_, rfl, h a h' oI (F.keeps k) (fun p hp' => ?_) ⟨St, W, fun h2 e2 k2 => ?_, I.base _ hg, hio⟩⟩
  · rcases List.mem_cons.mp hp' with rfl | hp'
    · refine ⟨h1, fun q => ?_, ?_⟩
      · obtain ⟨oL, _, _, hL, _⟩ := F.ns
        have q' : a = L := q
        rw [q', hL] at h0; cases h0
      · cases z : g.get? a with
        | none => rfl
        | some o => rw [F.keep _ _ z] at h0; cases h0
    · exact ⟨k _ _ (N p hp').1, (N p hp').2⟩
  · refine W0.frame 0 h' h2 st fun b hb o e => ?_
    rcases List.mem_cons.mp hb with rfl | hb
    · rw [h1] at e; cases e; exact e2
    · obtain ⟨o', ho'⟩ := I.base _ hg b hb
      have z := k _ _ (F.keep _ _ ho')
      rw [z] at e; cases e
      exact k2 _ _ ho'
theorem news_more {g h h' : Heap} {L : Addr} {m : Str → Option Value} {news news₂ : List (Addr × Obj)} (hn : ∀ p ∈ news₂, h.get? p.1 = none ∧ h'.get? p.1 = some p.2) (F : Fr g L h m) (N : News g L h' news) : News g L h' (news₂ ++ news) := fun p hp => by
  rcases List.mem_append.mp hp with hp | hp
  · obtain ⟨a, b⟩ := hn p hp
    refine ⟨b, fun q => ?_, ?_⟩
    · obtain ⟨oL, _, _, hL, _⟩ := F.ns
      rw [q, hL] at a; cases a
    · cases z : g.get? p.1 with
      | none => rfl
      | some o => rw [F.keep _ _ z] at a; cases a
  · exact N p hp
end Mine
end
section
theorem Mine.c_reduce (w : World) (f : PySem.Addr) (seq v₀ : Value) (nf n : Nat) (Pre : Heap → Prop) (fb : List PySem.Addr) (P : Nat → Value → Prop) (V : Nat → Value → List (PySem.Addr × PySem.Obj) → Prop)
    (hI : Mine.Iters w seq Pre fb n P) (hst : ∀ h h' : Heap, h.StaysIn h' → Pre h → Pre h') (hfn : ∀ h, Pre h → FnAt f h)
    (hnot : ∀ (A : Around) (s : Shared) (Q E : Value → Shared → Prop), Pre s.heap → (hd.heap_39 w.params).In s.heap → Q (.bool false) s → wpAny (model PySem.Challenge.rw_ij0209_01.row.prog w) A (compareOp .Is v₀ (.ref 168)) Q E s)
    (h0 : V 0 v₀ [])
    (hstep : ∀ i v x news₁, i < n → P i x → V i v news₁ → Mine.Told w f [v, x] nf (fun h => Pre h ∧ ∀ p ∈ news₁, h.get? p.1 = some p.2) (fun h h' r => ∃ news₂, (∀ p ∈ news₂, h.get? p.1 = none ∧ h'.get? p.1 = some p.2) ∧ V (i + 1) r news₂)) :
    Mine.Told w 176 [.ref f, seq, v₀] (nf + 4) Pre (fun h h' r => ∃ news₂, (∀ p ∈ news₂, h.get? p.1 = none ∧ h'.get? p.1 = some p.2) ∧ V n r news₂) := by
  revert hnot
  unfold Mine.Told
  k_with_none
  (k_with "call type:type" => ((k_here; (with_reducible show wpAny _ _ (call (Value.type "type") [Value.bytes _ _]) _ _ _); refine Mine.type_bytes ?_)))
  (k_with "call builtin:issubclass" => ((k_here; k_dflt (refine' Mine.issub_bytes ?zqk1 ?_; (case zqk1 => exact News.isTup (by k_asm) (by k_mem)); k_whole))))
  (k_with "getMethod bytes" => ((k_here; (with_reducible first | refine Mine.method_rfind ?_ | refine Mine.method_rstrip ?_ | refine Mine.method_starts ?_ | refine Mine.method_ends ?_))))
  (k_with "call builtin:bytes.rfind" => ((k_here; refine Mine.call_rfind ?_)))
  (k_with "call builtin:bytes.startswith" => ((k_here; refine Mine.call_starts ?_)))
  (k_with "call builtin:bytes.endswith" => ((k_here; refine Mine.call_ends ?_)))
  (k_with "call builtin:bytes.rstrip" => ((k_here; refine Mine.call_rstrip (by k_extra "kaf") ?_; intro zzt8 zzk8)))
  (k_with "subscriptTail" => ((k_here; (with_reducible show wpAny _ _ (subscriptTail _ (Expr.Slice _ _ none _) (Value.bytes _ _) (Value.ref _)) _ _ _); (with_reducible rename Fr _ _ _ _ => zzFq); (with_reducible rename News _ _ _ _ => zzNq); (refine Mine.slice_B (s := ⟨_, _, _, _, _⟩) zzFq zzNq (by constructor) (by constructor) (by k_extra "kaf") ?_); intro _ _ _ _ _; (try k_sweep))))
  (k_with "truthy bytes" => ((k_here; (refine Mine.truthy_B (by k_extra "kaf") ?_); intro _)))
  (k_with "call builtin:len" => ((k_here; (with_reducible show wpAny _ _ (call (Value.builtin "len") [Value.bytes _ _]) _ _ _); (refine Mine.len_B (by k_extra "kaf") ?_); intro _ _)))
  (k_with "binaryOp Mult bytes int" => ((k_here; (refine Mine.mul_B (by k_extra "kaf") ?_); intro _ _)))
  (k_with "exec While Name" => ((k_here; refine whl_start 5 ?_)))
  (k_with "WhlIf" => ((first | (refine WhlIf.yes (by with_unfolding_all rfl) ?_) | (refine WhlIf.no (by with_unfolding_all rfl) ?_) | (refine Mine.whl_split ?_ ?_ <;> intro zzhw8 <;> (first | done | (exfalso; (try simp only [bne_iff_ne, ne_eq, bne_eq_false_iff_eq, decide_eq_true_eq, decide_eq_false_iff_not] at *); omega) | skip)))))
  (k_with "binaryOp Add bytes bytes" => ((k_here; (refine Mine.add_B (by k_extra "kaf") ?_); intro _ _)))
  (k_with "kaf" => (first | (with_reducible assumption) | ((with_reducible refine Mine.sz_cut ?_); k_extra "kaf") | ((with_reducible refine Mine.small_rstrip ?_); k_extra "kaf") | ((with_reducible refine Mine.sz_app ?_ ?_) <;> k_extra "kaf") | exact Nat.le_of_ble_eq_true rfl | exact Nat.le_trans (by with_reducible assumption) (by decide) | assumption | ((try simp only [Mine.Small, Array.size_append, List.size_toArray, List.length_cons, List.length_nil] at *); omega)))
  (k_with "inplaceOp Add bytes bytes" => ((k_here; (refine Mine.iadd_B (by k_extra "kaf") ?_); intro _ _)))
  (k_with "WhlIf" => ((refine WhlIf.no (Mine.ap_three (by assumption) (by assumption)) ?_)))
  (k_with "kaf" => (first | (with_reducible assumption) | ((with_reducible refine Mine.sz_word ?_); exact Nat.le_of_ble_eq_true rfl) | ((with_reducible refine Mine.sz_frontB ?_); k_extra "kaf") | ((with_reducible refine Mine.sz_endB ?_); k_extra "kaf") | ((with_reducible refine Mine.sz_baseB ?_); k_extra "kaf") | ((with_reducible refine Mine.sz_dirB ?_); k_extra "kaf")))
  (k_with "compareOp Gt bytes bytes" => ((k_here; refine Mine.gt_bytes ?_)))
  (k_with "call builtin:iter" => ((k_here; k_dflt (refine Mine.m_iter (by k_asm) (by k_asm) (by assumption) rfl (by assumption) (by assumption) ?_); intro zzI9 zzh9 zzoI9 zzF9 zzN9 zzW9)))
  (k_with "exec For Name Name cons nil" => ((k_here; (rename Fr _ _ _ _ => zzlFq); (with_unfolding_all refine' For_invVF zzlFq ?zqk1 ?zqk2 ?_; (case zqk1 => exact rfl); (case zqk2 => exact rfl); k_whole))))
  (k_with "eval Name" => ((k_here; k_dflt (refine nameX_L (by k_asm) (by assumption) ?_))))
  (k_with "callWith ref" => ((k_here; k_dflt (refine' callWith_F ?zqk1 ?_; (case zqk1 => assumption)))))
  (k_with "FnAt" => (assumption))
  (k_with "call ref" => ((k_here; k_dflt (refine' Mine.use (by assumption) ?zqk1 ?zqk2 ?zqk3 ?zqk4 ?zqk5 ?zqk6 ?zqk7 ?zqk8 ?zqk9 ?_; ((case zqk1 => k_asm); (case zqk2 => k_asm); (case zqk3 => k_asm); (case zqk4 => k_asm); (case zqk5 => k_asm); (case zqk6 => first | exact rfl | assumption); (case zqk7 => first | exact True.intro | assumption); (case zqk8 => ktr_room); (case zqk9 => ktr_units))); intro zzv8 zzh8 zztk8 zzF8 zzN8 zzst8 zzsz8 zzr8; (obtain ⟨news8, hn8, hV8⟩ := zzr8); (have N9 := Mine.news_more hn8 (by assumption) zzN8); clear zzN8; (try k_fold))))
  w_top off
  k_fill
  intro hnot p loose mean mg mb dp un gd cn cs a ccd cl outer A₀ base h₀ L m s Q E B F X T hk hpre hdp hun hret
  refine wpAny_call ?_
  k_dflt ((refine' Mine.code_defP ?zqk1 ?zqk2 ?zqk3 ?zqk5 ?zqkA ?zqkF ?zqkK ?zqk6 ?zqk7 ?zqk8 ?zqk9 ?zqkB ?_ ?zqc2 ?zqc3 ?zqc4 ?zqc5; (case zqkA => exact rfl); (case zqkF => exact rfl); (case zqkK => assumption); (case zqk1 => k_asm); (case zqk2 => k_asm); (case zqk3 => k_asm); (case zqk5 => k_asm); (case zqk6 => k_is); (case zqk7 => k_is); (case zqk8 => ktr_room); (case zqk9 => exact binds_K (by k_in) rfl (by k_is) rfl rfl rfl); (case zqc5 => decide); (case zqkB => exact locs rfl); (case zqc2 => exact rfl); (case zqc3 => exact rfl); (case zqc4 => exact rfl); k_whole))
  intro g' L' h' hg' F' N' B' X' T'
  clear B F X T
  rw [← hg'] at hpre
  rw [← hg'] at hret
  (try dsimp only at hret)
  (try dsimp only at hpre)
  (try dsimp only)
  k_fold
  have hP := hst _ _ (Fr.keep (by assumption)) hpre
  have hf9 := hfn _ hP
  (repeat' (first | (k_unfold; (try dsimp only)) | (k_end; kc_close) | (dsimp only; walk1) | walk1 | (leave1; try dsimp only)))
  refine hnot _ _ _ _ (hst _ _ (Fr.keep (by k_asm)) hpre) (Frag.In.keeps (by k_asm) (Fr.keep (by k_asm))) ?_
  (repeat' (first | (k_unfold; (try dsimp only)) | (k_end; kc_close) | (dsimp only; walk1) | walk1 | (leave1; try dsimp only)))
  (with_reducible rename Fr _ _ _ _ => F9)
  (with_reducible rename News _ _ _ _ => N9)
  (with_reducible rename Mine.IterAt _ _ _ _ _ _ _ => W9)
  obtain ⟨St, W, hSt, hfb, hio⟩ := W9
  refine (W _ rfl).self 0 _ _ _ (hSt _ (N9 _ (List.Mem.head _)).1 F9.keep) ?_
  refine ⟨_, _, _, n, P, St, _, [], fun i m₁ news₁ => m₁ (PySem.Str.ofString "function") = some (.ref f) ∧ ∃ v, m₁ (PySem.Str.ofString "value") = some v ∧ V i v news₁, rfl, W _ rfl, ?Lfp, ?wr, (fun p hp => nomatch hp), hSt _ (N9 _ (List.Mem.head _)).1 F9.keep, F9, News.nil, ⟨rfl, v₀, rfl, h0⟩, ?turn, ?done⟩
  case Lfp =>
    intro hm
    rcases List.mem_cons.mp hm with e | hm
    · exact (N9 _ (List.Mem.head _)).2.1 e.symm
    · obtain ⟨o, ho⟩ := hfb _ hm
      exact absurd (Nat.lt_of_lt_of_le (Heap.lt_size ho) F9.above) (Nat.lt_irrefl _)
  case wr =>
    intro b hb
    rw [List.mem_singleton.mp hb]
    exact (N9 _ (List.Mem.head _)).2.2
  case turn =>
    rintro i v m₁ news₁ s₁ own ⟨h1, tk1, rfl⟩ hi hPv ⟨hm1, vv, hm2, hV⟩ hoff hown hown2 hown3 hst1 F₁ N₁
    have e1 : (fun y => if y = PySem.Str.ofString "element" then some v else m₁ y) (PySem.Str.ofString "function") = some (.ref f) := (if_neg (by decide)).trans hm1
    have e2 : (fun y => if y = PySem.Str.ofString "element" then some v else m₁ y) (PySem.Str.ofString "value") = some vv := (if_neg (by decide)).trans hm2
    have e3 : (fun y => if y = PySem.Str.ofString "element" then some v else m₁ y) (PySem.Str.ofString "element") = some v := if_pos rfl
    dsimp only at F₁ N₁
    generalize (fun y => if y = PySem.Str.ofString "element" then some v else m₁ y) = m₂ at F₁ e1 e2 e3
    have hp1 : Pre h1 := hst _ _ F₁.keep hpre
    have hpre1 : Pre h1 ∧ ∀ p ∈ news₁, h1.get? p.1 = some p.2 := ⟨hp1, fun p hp => (N₁ p (List.mem_append_right _ hp)).1⟩
    have hfa := hfn _ hp1
    have hT := hstep i vv v news₁ hi hPv hV
    clear F9 N9 hf9 hP
    (repeat' (first | (k_unfold; (try dsimp only)) | (k_end; kc_close) | (dsimp only; walk1) | walk1 | (leave1; try dsimp only)))
    (with_reducible rename Fr _ _ _ _ => F3)
    (with_reducible rename News _ _ _ _ => N3)
    (with_reducible rename (∀ q : PySem.Addr × PySem.Obj, q ∈ _ → PySem.Heap.get? h1 q.1 = none ∧ PySem.Heap.get? _ q.1 = some q.2) => n3)
    (with_reducible rename V _ _ _ => V3)
    obtain ⟨o3, ho3⟩ := hio _ _ hst1
    refine LoopStepU.intro F3 (fun p hp => N3 p ?_) (fun p hp hw => ?_) ⟨(if_neg (by decide)).trans e1, _, if_pos rfl, V3⟩
    · rcases List.mem_append.mp hp with hp | hp
      · exact List.mem_append_right _ (List.mem_append_left _ hp)
      · exact List.mem_append_left _ hp
    · have z := (n3 p hp).1
      rw [List.mem_singleton.mp hw] at z
      exact absurd (z.symm.trans ho3) (by simp)
  case done =>
    intro h2 tk2 m2 news2 F2 N2 hw ⟨hm1, v, hm2, hV⟩
    dsimp only
    clear F9 N9
    (repeat' (first | (k_unfold; (try dsimp only)) | (k_end; kc_close) | (dsimp only; walk1) | walk1 | (leave1; try dsimp only)))
    all_goals (repeat (first | k_unfold | dsimp only | dsimp +zetaDelta only))
    all_goals (unfold Mine.EndP; dsimp only)
    refine hret _ _ _ F2.keep (Mine.fr_size F2) ⟨news2, fun p hp => ⟨(N2 p hp).2.2, (N2 p hp).1⟩, hV⟩
end
section
namespace Mine
open PySem.Calls PySem.Spec
/- As Told, of a def that may write into the code table at P (of the code at c): all else stays. -/
noncomputable def ToldT (w : World) (c P : Addr) (f : Addr) (vs : List Value) (n : Nat) (Pre : Heap → Prop) (Ret : Heap → Heap → Value → Prop) : Prop :=
  ∀ (p : Program) (loose : List Str) (mean : ExcName → Option Value) (mg mb : Str → Option Value) (dp un : Nat) (gd : Option (List Code)) (cn : Str) (cs : Scope) (a : Addr) (ccd : Value)
    (cl : List (Str × Addr)) (outer : List Env) (A₀ : Around) (base h₀ : Heap) (L : Addr) (m : Str → Option Value) (s : Shared) (Q E : Value → Shared → Prop),
    Below A₀ base outer h₀ → Fr h₀ L s.heap m → (hd.heap_39 w.params).In h₀ → Top p loose mean mg mb h₀ → cs.kind = .function → h₀.get? P = none → CodeHd h₀ c P → Pre s.heap →
    dp + n < recursionLimit → un + 8 * n < cLine →
    (∀ v h' tk', (∀ b o, b ≠ P → s.heap.get? b = some o → h'.get? b = some o) → s.heap.objs.size ≤ h'.objs.size → Ret s.heap h' v → Q v { s with heap := h', toks := tk' }) →
    wpAny (model PySem.Challenge.rw_ij0209_01.row.prog w) (ktrTop dp un gd cn cs L a ccd cl outer) (call (.ref f) vs) Q E s
section
variable {prog : Program} {w : World} {A₀ A : Around} {s : Shared} {K : Frag} {base h₀ : Heap} {L : Addr} {m mg mb : Str → Option Value} {p : Program} {loose : List Str} {mean : ExcName → Option Value}
    {env : Env} {outer : List Env} {R : Result → Shared → Prop} {name qual : Str} {params : Arguments} {body : List Stmt} {scope : Scope} {dV kV doc pm cdv ct oc : Value} {an od : Option Addr} {osl : Array (Option Value)} {f : Addr} {args : Args} {binds : List (Str × Value)} {news : List (Addr × Obj)}
theorem code_defPT (B : Below A₀ base outer h₀) (F : Fr h₀ L s.heap m) (X₀ : K.In h₀) (N : News h₀ L s.heap news) (T : Top p loose mean mg mb h₀) (hA : A.frames = some (env :: outer)) (hf : env.frame = some L) (hke : env.scope.kind = .function)
    (ho : K.lookup f = some ⟨oc, od, .func (fnOf name qual params body scope dV kV doc pm an cdv ct), osl⟩) (hcd : codeIn K cdv qual = true) (hroom : A.depth < recursionLimit)
    (hbind : BindsTo s (fnOf name qual params body scope dV kV doc pm an cdv ct) args binds) (hloc : ∀ y ∈ binds, scope.names.lookup y.1 = some .local)
    (h : ∀ g L' h₁, g = hideAll s.heap (news.map (·.1)) → Fr g L' h₁ (fun y => binds.reverse.lookup y) → News g L' h₁ news → Below A base (env :: outer) g → h₀.StaysIn g → K.In g → Top p loose mean mg mb g → (∀ b o, s.heap.get? b = some o → h₁.get? b = some o) → s.heap.objs.size ≤ h₁.objs.size →
      wpAny (model prog w) (A.deeper (envOf qual scope L' f cdv)) (execs body (envOf qual scope L' f cdv))
        (fun fl s' => EndP R (match fl with | .ret v => v | _ => .none) s')
        (fun e s' => wpAny (model prog w) (A.deeper (envOf qual scope L' f cdv)) (leaving (envOf qual scope L' f cdv) e) (fun _ s'' => R (.error e) s'') (fun e' s'' => R (.error e') s'') s')
        { s with heap := h₁, toks := s.toks + binds.length })
    (hco : scope.isCoroutine = false) (hgen : scope.isGenerator = false) (hk : scope.kind = .function)
    (hcell : ∀ x ∈ scope.names, x.2 ≠ .cell) : codeAny (model prog w) A (.call (.ref f) args) R s :=
  callX_hide (cl := []) B F N T.nolimit hA hf hke ((X₀.keeps F.keep) _ _ ho) rfl (codeRec_of (X₀.keeps F.keep) hcd) hroom hbind hloc (fun g L' h₁ hg F' N' B' st k sz => h g L' h₁ hg F' N' B' st (X₀.keeps st) (T.keeps st) k sz) hcell hco hgen hk
end
/- The table of _law_number's code: still empty, or it holds the lambda's code. -/
noncomputable def TabN (h : Heap) : Prop := ∃ ps, h.get? 195 = some (tabObj (List.toArray ps)) ∧ (ps = [] ∨ ∃ c, ps = [rawInt 221, rawInt 18, .ref c] ∧ h.CodeRec (.ref c) (Str.ofString "_law_number.<locals>.<lambda>"))
/- Behind a call: the table holds the lambda's code, which is new or stood there before. -/
noncomputable def TabNext (h h' : Heap) : Prop := ∃ c, h'.get? 195 = some (tabObj #[rawInt 221, rawInt 18, .ref c]) ∧ h'.CodeRec (.ref c) (Str.ofString "_law_number.<locals>.<lambda>") ∧ (h.get? c = none ∨ h.get? 195 = some (tabObj #[rawInt 221, rawInt 18, .ref c]))
noncomputable def octs (b : Array UInt8) : List Int := b.toList.map fun o => (o.toNat : Int)
noncomputable def numL (os : List Int) : Int := os.foldl (fun n o => 16 * n + o - 65) 0
noncomputable def numB (b : Array UInt8) : Int := numL (octs b)
noncomputable def Letters (b : Array UInt8) : Prop := ∀ o ∈ octs b, 65 ≤ o ∧ o ≤ 80
theorem numL_rng : ∀ (os : List Int), os.length ≤ 3 → (∀ o ∈ os, 65 ≤ o ∧ o ≤ 80) → 0 ≤ numL os ∧ numL os < 100000
  | [], _, _ => by simp [numL]
  | [a], _, h => by
    have h1 := h a (by simp)
    simp only [numL, List.foldl_cons, List.foldl_nil]; lia
  | [a, b], _, h => by
    have h1 := h a (by simp)
    have h2 := h b (by simp)
    simp only [numL, List.foldl_cons, List.foldl_nil]; lia
  | [a, b, c], _, h => by
    have h1 := h a (by simp)
    have h2 := h b (by simp)
    have h3 := h c (by simp)
    simp only [numL, List.foldl_cons, List.foldl_nil]; lia
  | a :: b :: c :: d :: r, hl, _ => by simp at hl
theorem numL_snoc (os : List Int) (o : Int) : numL (os ++ [o]) = 16 * numL os + o - 65 := by unfold numL; rw [List.foldl_append]; rfl
theorem c_red1 (w : World) (f : Addr) (b : Array UInt8) (t t0 : Tok) (hb : b.size ≤ 3) (hl : Letters b) : Told w 176 [.ref f, .bytes b t, .int 0 t0] 6 (fun h => LamAt w 200 0 h f []) (RI (numB b)) := by
  have R := c_reduce w f (.bytes b t) (.int 0 t0) 2 b.size (fun h => LamAt w 200 0 h f []) [] (fun i v => ∃ c u, b[i]? = some c ∧ v = .int (c.toNat : Int) u) (fun i v news => news = [] ∧ ∃ tt, v = .int (numL ((octs b).take i)) tt)
    (iters_bytes w b t) (fun h h' k x => x.keeps k) (fun h x => x.fnAt) (fun A s Q E _ _ q => wpAny_bind (wpAny_pure (wpAny_pure q))) ⟨rfl, t0, rfl⟩ ?_
  · intro p loose mean mg mb dp un gd cn cs a ccd cl outer A₀ base h₀ L m s Q E B F X T hk hpre hdp hun hret
    refine R p loose mean mg mb dp un gd cn cs a ccd cl outer A₀ base h₀ L m s Q E B F X T hk hpre hdp hun fun v h' tk' st sz r => hret v h' tk' st sz ?_
    obtain ⟨n2, _, _, tt, e⟩ := r
    rw [List.take_of_length_le (by unfold octs; simp)] at e
    exact ⟨tt, e⟩
  · rintro i v x news hi ⟨c, u, hc, rfl⟩ ⟨rfl, tt, rfl⟩
    have ho : (octs b)[i]? = some (c.toNat : Int) := by
      unfold octs
      rw [List.getElem?_map, Array.getElem?_toList, hc]; rfl
    have hm := hl _ (List.mem_of_getElem? ho)
    have hlen : ((octs b).take i).length ≤ 3 := by
      rw [List.length_take]; unfold octs; rw [List.length_map, Array.length_toList]; lia
    have hr := numL_rng _ hlen fun o ho => hl o (List.mem_of_mem_take ho)
    have C := c_lam1 w f (numL ((octs b).take i)) (c.toNat : Int) tt u hr.1 hr.2 (by lia) (by lia)
    intro p loose mean mg mb dp un gd cn cs a ccd cl outer A₀ base h₀ L m s Q E B F X T hk hpre hdp hun hret
    refine C p loose mean mg mb dp un gd cn cs a ccd cl outer A₀ base h₀ L m s Q E B F X T hk hpre.1 hdp hun fun v h' tk' st sz r => hret v h' tk' st sz ?_
    obtain ⟨t', e⟩ := r
    refine ⟨[], (fun p hp => nomatch hp), rfl, t', ?_⟩
    rw [e, List.take_add_one, ho]
    simp only [Option.toList_some]
    rw [numL_snoc]
end Mine
end
section
theorem Mine.c_number (w : World) (b : Array UInt8) (t : Tok) (hb : b.size ≤ 3) (hl : Mine.Letters b) : Mine.ToldT w 199 195 200 [.bytes b t] 10 Mine.TabN (fun h h' v => Mine.TabNext h h' ∧ ∃ t', v = .int (Mine.numB b) t') := by
  unfold Mine.ToldT
  k_with_none
  (k_with "call type:type" => ((k_here; (with_reducible show wpAny _ _ (call (Value.type "type") [Value.bytes _ _]) _ _ _); refine Mine.type_bytes ?_)))
  (k_with "call builtin:issubclass" => ((k_here; k_dflt (refine' Mine.issub_bytes ?zqk1 ?_; (case zqk1 => exact News.isTup (by k_asm) (by k_mem)); k_whole))))
  (k_with "getMethod bytes" => ((k_here; (with_reducible first | refine Mine.method_rfind ?_ | refine Mine.method_rstrip ?_ | refine Mine.method_starts ?_ | refine Mine.method_ends ?_))))
  (k_with "call builtin:bytes.rfind" => ((k_here; refine Mine.call_rfind ?_)))
  (k_with "call builtin:bytes.startswith" => ((k_here; refine Mine.call_starts ?_)))
  (k_with "call builtin:bytes.endswith" => ((k_here; refine Mine.call_ends ?_)))
  (k_with "call builtin:bytes.rstrip" => ((k_here; refine Mine.call_rstrip (by k_extra "kaf") ?_; intro zzt8 zzk8)))
  (k_with "subscriptTail" => ((k_here; (with_reducible show wpAny _ _ (subscriptTail _ (Expr.Slice _ _ none _) (Value.bytes _ _) (Value.ref _)) _ _ _); (with_reducible rename Fr _ _ _ _ => zzFq); (with_reducible rename News _ _ _ _ => zzNq); (refine Mine.slice_B (s := ⟨_, _, _, _, _⟩) zzFq zzNq (by constructor) (by constructor) (by k_extra "kaf") ?_); intro _ _ _ _ _; (try k_sweep))))
  (k_with "truthy bytes" => ((k_here; (refine Mine.truthy_B (by k_extra "kaf") ?_); intro _)))
  (k_with "call builtin:len" => ((k_here; (with_reducible show wpAny _ _ (call (Value.builtin "len") [Value.bytes _ _]) _ _ _); (refine Mine.len_B (by k_extra "kaf") ?_); intro _ _)))
  (k_with "binaryOp Mult bytes int" => ((k_here; (refine Mine.mul_B (by k_extra "kaf") ?_); intro _ _)))
  (k_with "exec While Name" => ((k_here; refine whl_start 5 ?_)))
  (k_with "WhlIf" => ((first | (refine WhlIf.yes (by with_unfolding_all rfl) ?_) | (refine WhlIf.no (by with_unfolding_all rfl) ?_) | (refine Mine.whl_split ?_ ?_ <;> intro zzhw8 <;> (first | done | (exfalso; (try simp only [bne_iff_ne, ne_eq, bne_eq_false_iff_eq, decide_eq_true_eq, decide_eq_false_iff_not] at *); omega) | skip)))))
  (k_with "binaryOp Add bytes bytes" => ((k_here; (refine Mine.add_B (by k_extra "kaf") ?_); intro _ _)))
  (k_with "kaf" => (first | (with_reducible assumption) | ((with_reducible refine Mine.sz_cut ?_); k_extra "kaf") | ((with_reducible refine Mine.small_rstrip ?_); k_extra "kaf") | ((with_reducible refine Mine.sz_app ?_ ?_) <;> k_extra "kaf") | exact Nat.le_of_ble_eq_true rfl | exact Nat.le_trans (by with_reducible assumption) (by decide) | assumption | ((try simp only [Mine.Small, Array.size_append, List.size_toArray, List.length_cons, List.length_nil] at *); omega)))
  (k_with "inplaceOp Add bytes bytes" => ((k_here; (refine Mine.iadd_B (by k_extra "kaf") ?_); intro _ _)))
  (k_with "WhlIf" => ((refine WhlIf.no (Mine.ap_three (by assumption) (by assumption)) ?_)))
  (k_with "kaf" => (first | (with_reducible assumption) | ((with_reducible refine Mine.sz_word ?_); exact Nat.le_of_ble_eq_true rfl) | ((with_reducible refine Mine.sz_frontB ?_); k_extra "kaf") | ((with_reducible refine Mine.sz_endB ?_); k_extra "kaf") | ((with_reducible refine Mine.sz_baseB ?_); k_extra "kaf") | ((with_reducible refine Mine.sz_dirB ?_); k_extra "kaf")))
  (k_with "compareOp Gt bytes bytes" => ((k_here; refine Mine.gt_bytes ?_)))
  w_top off
  k_fill
  intro p loose mean mg mb dp un gd cn cs a ccd cl outer A₀ base h₀ L m s Q E B F X T hk hg0 hcode hpre hdp hun hret
  obtain ⟨ps, hps, hor⟩ := hpre
  have N : News h₀ L s.heap [(195, tabObj (List.toArray ps))] := by
    intro q hq
    rw [List.mem_singleton.mp hq]
    refine ⟨hps, fun e => ?_, hg0⟩
    obtain ⟨oL, es, ep, hL, hd, _⟩ := F.ns
    have e' : (195 : Nat) = L := e
    rw [← e', hps] at hL; cases hL; cases hd
  refine wpAny_call ?_
  k_dflt (refine' Mine.code_defPT (news := [(195, tabObj (List.toArray ps))]) ?k1 ?k2 ?k3 ?k4 ?k5 ?kA ?kF ?kK ?k6 ?k7 ?k8 ?k9 ?kB ?_ ?c2 ?c3 ?c4 ?c5; (case kA => exact rfl); (case kF => exact rfl); (case kK => assumption); (case k1 => k_asm); (case k2 => k_asm); (case k3 => k_asm); (case k4 => exact N); (case k5 => k_asm); (case k6 => k_is); (case k7 => k_is); (case k8 => ktr_room); (case k9 => exact BindsTo.of_eq rfl); (case c5 => decide); (case kB => exact locs rfl); (case c2 => exact rfl); (case c3 => exact rfl); (case c4 => exact rfl); k_whole)
  intro g' L' h₁ hg F' N' B' st X' T' kh sz
  have hcode' := hcode.keeps st
  have fin : ∀ v h2 tk2 c2 m2, Fr g' L' h2 m2 → News g' L' h2 [(195, tabObj #[rawInt 221, rawInt 18, .ref c2])] → h2.CodeRec (.ref c2) (PySem.Str.ofString "_law_number.<locals>.<lambda>") → (s.heap.get? c2 = none ∨ s.heap.get? 195 = some (tabObj #[rawInt 221, rawInt 18, .ref c2])) → (∃ t', v = .int (Mine.numB b) t') → Q v { s with heap := h2, toks := tk2 } := by
    intro v h2 tk2 c2 m2 F2 N2 hcr2 hor2 hv
    refine hret v h2 tk2 (fun b o hb e => F2.keep b o ?_) ?_ ⟨⟨c2, (N2 _ (List.Mem.head _)).1, hcr2, hor2⟩, hv⟩
    · rw [hg]; exact hideAll_get _ e (by simpa using hb)
    · have z := Mine.fr_size F2
      rw [hg, hideAll_size] at z
      exact z
  have fresh : ∀ c2 : PySem.Addr, (195 : Nat) < c2 → g'.get? c2 = none → s.heap.get? c2 = none := by
    intro c2 h195 hn
    cases z : s.heap.get? c2 with
    | none => rfl
    | some o =>
      have z2 := hideAll_get [195] z (fun hm => Nat.lt_irrefl 195 (by have e9 : c2 = 195 := List.mem_singleton.mp hm; rw [e9] at h195; exact h195))
      rw [hg] at hn
      exact absurd (z2.symm.trans hn) (by simp)
  clear hret
  rcases hor with rfl | ⟨c, rfl, hcr⟩
  · clear B F X T hcode
    (try dsimp only)
    (show wpAny _ _ _ _ _ _)
    k_fold
    (repeat' (first | (k_unfold; (try dsimp only)) | (k_end; kc_close) | (dsimp only; walk1) | walk1 | (leave1; try dsimp only)))
    (with_reducible rename News _ _ _ _ => N3)
    (with_reducible rename Fr _ _ _ _ => F3)
    (with_reducible rename (_ : Array Value)[1]? = _ => v3)
    (with_reducible rename PySem.Obj.data _ = _ => d3)
    have hLam := Mine.LamAt.mk (w := w) (a := 200) (i := 0) (cl := []) ⟨_, _, _, _, _, _, _, (by unfold Mine.ltx; with_unfolding_all rfl), (N3 _ (List.Mem.head _)).1, codeRec_news N3 (List.Mem.tail _ (List.Mem.head _)) d3 v3⟩
    k_dflt (refine' Mine.useI (Mine.c_red1 w _ b t _ hb hl) ?k1 ?k2 ?k3 ?k4 ?k5 ?k6 ?k7 ?k8 ?k9 ?_; ((case k1 => k_asm); (case k2 => k_asm); (case k3 => k_asm); (case k4 => k_asm); (case k5 => k_asm); (case k6 => exact rfl); (case k7 => exact hLam); (case k8 => ktr_room); (case k9 => ktr_units)))
    intro t8 h8 tk8 F8 N8
    all_goals (repeat (first | k_unfold | dsimp only | dsimp +zetaDelta only))
    all_goals (unfold Mine.EndP; dsimp only)
    refine fin _ h8 _ _ _ F8 (fun q hq => ?_) (codeRec_news N8 (List.Mem.tail _ (List.Mem.head _)) d3 v3) (.inl (fresh _ (by assumption) (N8 _ (List.Mem.tail _ (List.Mem.head _))).2.2)) ⟨_, rfl⟩
    rw [List.mem_singleton.mp hq]
    exact N8 _ (List.Mem.tail _ (List.Mem.tail _ (List.Mem.head _)))
  · clear B F X T hcode
    have hcr1 : g'.CodeRec (.ref c) (PySem.Str.ofString "_law_number.<locals>.<lambda>") := by
      obtain ⟨c', o, vs, tq, e, ho, hd, hv⟩ := hcr
      cases e
      refine ⟨c, o, vs, tq, rfl, ?_, hd, hv⟩
      rw [hg]
      refine hideAll_get _ ho (fun hm => ?_)
      have hm' : c = 195 := by simpa using hm
      rw [hm', hps] at ho
      cases ho; cases hd
      exact absurd hv (by simp [rawInt])
    (try dsimp only)
    (show wpAny _ _ _ _ _ _)
    k_fold
    (repeat' (first | (k_unfold; (try dsimp only)) | (k_end; kc_close) | (dsimp only; walk1) | walk1 | (leave1; try dsimp only)))
    (with_reducible rename News _ _ _ _ => N3)
    (with_reducible rename Fr _ _ _ _ => F3)
    have hLam := Mine.LamAt.mk (w := w) (a := 200) (i := 0) (cl := []) ⟨_, _, _, _, _, _, _, (by unfold Mine.ltx; with_unfolding_all rfl), (N3 _ (List.Mem.head _)).1, Mine.CodeRec_keeps hcr1 F3.keep⟩
    k_dflt (refine' Mine.useI (Mine.c_red1 w _ b t _ hb hl) ?k1 ?k2 ?k3 ?k4 ?k5 ?k6 ?k7 ?k8 ?k9 ?_; ((case k1 => k_asm); (case k2 => k_asm); (case k3 => k_asm); (case k4 => k_asm); (case k5 => k_asm); (case k6 => exact rfl); (case k7 => exact hLam); (case k8 => ktr_room); (case k9 => ktr_units)))
    intro t8 h8 tk8 F8 N8
    all_goals (repeat (first | k_unfold | dsimp only | dsimp +zetaDelta only))
    all_goals (unfold Mine.EndP; dsimp only)
    refine fin _ h8 _ c _ F8 (fun q hq => ?_) (Mine.CodeRec_keeps hcr1 F8.keep) (.inr hps) ⟨_, rfl⟩
    rw [List.mem_singleton.mp hq]
    exact N8 _ (List.Mem.tail _ (List.Mem.head _))
end
section
namespace Mine
open PySem.Builtin
theorem findRev_some {p : Nat → Bool} : ∀ {n i : Nat}, i < n → p i = true → (∀ j, i < j → j < n → p j = false) → (List.range n).reverse.find? p = some i
  | 0, _, h, _, _ => absurd h (Nat.not_lt_zero _)
  | n + 1, i, h, hp, hr => by
    rw [List.range_succ, List.reverse_append, List.reverse_singleton, List.singleton_append, List.find?_cons]
    by_cases e : i = n
    · subst e; rw [hp]
    · rw [hr n (by lia) (by lia)]
      exact findRev_some (by lia) hp fun j h1 h2 => hr j h1 (by lia)
theorem findRev_none {p : Nat → Bool} : ∀ {n : Nat}, (∀ j, j < n → p j = false) → (List.range n).reverse.find? p = none
  | 0, _ => rfl
  | n + 1, hr => by
    rw [List.range_succ, List.reverse_append, List.reverse_singleton, List.singleton_append, List.find?_cons, hr n (by lia)]
    exact findRev_none fun j h => hr j (by lia)
theorem one_at {b : Array UInt8} {c : UInt8} {i : Nat} (h : i < b.size) : (b.extract i (i + 1) == #[c]) = (b[i]? == some c) := by
  have e : b.extract i (i + 1) = #[b[i]] := by
    apply Array.toList_inj.mp
    rw [Array.toList_extract, List.extract_eq_take_drop]
    have h' : i < b.toList.length := by rw [Array.length_toList]; exact h
    rw [List.drop_eq_getElem_cons h']
    simp
  rw [e, Array.getElem?_eq_getElem h]
  simp
theorem rf_def (b : Array UInt8) (c : UInt8) : rfindZ b #[c] = match (List.range b.size).reverse.find? (fun i => b[i]? == some c) with | some i => (i : Int) | none => -1 := by
  unfold rfindZ Bytes.rfind?
  by_cases h0 : b.size = 0
  · have e : b = #[] := Array.eq_empty_of_size_eq_zero h0
    subst e; rfl
  · rw [if_neg (by simp; lia)]
    have e1 : (List.range (b.size + 1 - (0 + #[c].size))).map (· + 0) = List.range b.size := by simp
    rw [e1]
    have e2 : ∀ l : List Nat, (∀ i ∈ l, i < b.size) → l.find? (fun i => b.extract i (i + #[c].size) == #[c]) = l.find? (fun i => b[i]? == some c) := by
      intro l
      induction l with
      | nil => intro _; rfl
      | cons x l ih =>
        intro hl
        rw [List.find?_cons, List.find?_cons]
        have h1 := one_at (c := c) (hl x (by simp))
        have h2 : (b.extract x (x + #[c].size) == #[c]) = (b[x]? == some c) := h1
        rw [h2, ih fun i hi => hl i (by simp [hi])]
    rw [e2 _ fun i hi => by simpa using hi]
    all_goals rfl
theorem rf_last {x y : List UInt8} {c : UInt8} (h : c ∉ y) : rfindZ (x ++ c :: y).toArray #[c] = (x.length : Int) := by
  rw [rf_def, findRev_some (i := x.length) (by simp) (by simp) fun j h1 h2 => ?_]
  have h2' : j < (x ++ c :: y).length := by simpa using h2
  rw [List.getElem?_toArray, List.getElem?_append_right (by lia)]
  obtain ⟨k, hk⟩ : ∃ k, j - x.length = k + 1 := ⟨j - x.length - 1, by lia⟩
  rw [hk, List.getElem?_cons_succ]
  cases q : y[k]? with
  | none => rfl
  | some d =>
    have : d ≠ c := fun e => h (e ▸ List.mem_of_getElem? q)
    simpa using this
theorem rf_none {y : List UInt8} {c : UInt8} (h : c ∉ y) : rfindZ y.toArray #[c] = -1 := by
  rw [rf_def, findRev_none fun j _ => ?_]
  rw [List.getElem?_toArray]
  cases q : y[j]? with
  | none => rfl
  | some d =>
    have : d ≠ c := fun e => h (e ▸ List.mem_of_getElem? q)
    simpa using this
theorem pk_to (y : List UInt8) (k : Nat) : KBy.picked y.toArray none (some (k : Int)) = (y.take k).toArray := by
  rw [KBc.picked_eq]
  simp only [Option.elim_some, Option.elim_none, List.drop_zero, Nat.sub_zero]
  rw [clipAt_nat]
  congr 1
  rw [List.size_toArray]
  by_cases h : k ≤ y.length
  · rw [Nat.min_eq_left h]
  · rw [Nat.min_eq_right (by lia), List.take_of_length_le (by lia), List.take_of_length_le (by lia)]
theorem pk_from (y : List UInt8) (k : Nat) : KBy.picked y.toArray (some (k : Int)) none = (y.drop k).toArray := by
  rw [KBc.picked_eq]
  simp only [Option.elim_some, Option.elim_none]
  rw [clipAt_nat]
  congr 1
  rw [List.size_toArray]
  by_cases h : k ≤ y.length
  · rw [Nat.min_eq_left h, List.take_of_length_le (by simp)]
  · rw [Nat.min_eq_right (by lia), List.drop_of_length_le (by lia), List.drop_of_length_le (by lia)]; simp
theorem pk_one (y : List UInt8) (k : Nat) : KBy.picked y.toArray (some (k : Int)) (some ((k : Int) + 1)) = ((y.drop k).take 1).toArray := by
  rw [KBc.picked_eq]
  simp only [Option.elim_some]
  have e : ((k : Int) + 1) = ((k + 1 : Nat) : Int) := by lia
  rw [e, clipAt_nat, clipAt_nat]
  congr 1
  rw [List.size_toArray]
  by_cases h : k < y.length
  · rw [Nat.min_eq_left (by lia), Nat.min_eq_left (by lia), Nat.add_sub_cancel_left]
  · rw [Nat.min_eq_right (by lia), List.drop_of_length_le (by lia), List.drop_of_length_le (by lia)]; simp
noncomputable def Clean (y : List UInt8) : Prop := ∀ o ∈ y, o ≠ 46 ∧ o ≠ 47
theorem Clean.no46 {y : List UInt8} (h : Clean y) : (46 : UInt8) ∉ y := fun m => (h _ m).1 rfl
theorem Clean.no47 {y : List UInt8} (h : Clean y) : (47 : UInt8) ∉ y := fun m => (h _ m).2 rfl
section
variable {wf ws we : List UInt8} (hf : Clean wf) (hs : Clean ws) (he : Clean we)
noncomputable abbrev nmL (ws we : List UInt8) : List UInt8 := ws ++ 46 :: we
noncomputable abbrev beL (wf : List UInt8) : List UInt8 := if wf = [] then [] else wf ++ [47]
noncomputable abbrev wyL (wf ws we : List UInt8) : List UInt8 := beL wf ++ nmL ws we
noncomputable abbrev frL (ws we : List UInt8) : List UInt8 := if ws = [] then nmL ws we else ws
noncomputable abbrev enL (ws we : List UInt8) : List UInt8 := if ws = [] then [] else 46 :: we
include he in
include hs he in
theorem no47_nm : (47 : UInt8) ∉ nmL ws we := by
  intro h
  rcases List.mem_append.mp h with h | h
  · exact hs.no47 h
  · rcases List.mem_cons.mp h with h | h
    · exact absurd h (by decide)
    · exact he.no47 h
include hs he in
theorem sl_nm : rfindZ (nmL ws we).toArray #[47] = -1 := rf_none (no47_nm hs he)
include he in
theorem dot_wy : rfindZ (wyL wf ws we).toArray #[46] = ((beL wf).length + ws.length : Int) := by
  have e : wyL wf ws we = (beL wf ++ ws) ++ 46 :: we := by simp [wyL, nmL]
  rw [e, rf_last he.no46]; simp
include hs he in
theorem sl_wy : rfindZ (wyL wf ws we).toArray #[47] + 1 = ((beL wf).length : Int) := by
  by_cases h : wf = []
  · subst h
    show rfindZ (nmL ws we).toArray #[47] + 1 = _
    rw [sl_nm hs he]; rfl
  · have e : wyL wf ws we = wf ++ 47 :: nmL ws we := by simp [wyL, beL, h]
    rw [e, rf_last (no47_nm hs he)]
    simp [beL, h]
include hs he in
theorem base_wy : baseB (wyL wf ws we).toArray = (nmL ws we).toArray := by
  unfold baseB
  rw [sl_wy hs he, pk_from, List.drop_left]
include hf hs he in
theorem dir_wy : dirB (wyL wf ws we).toArray = wf.toArray := by
  unfold dirB
  rw [sl_wy hs he, pk_to, List.take_left]
  unfold headB beL
  by_cases h : wf = []
  · subst h; rfl
  · rw [if_neg h, if_pos (by simp)]
    have hne : ((wf ++ [47]).toArray.toList != (List.replicate (wf ++ [47]).toArray.size (47 : UInt8)).toArray.toList) = true := by
      rw [bne_iff_ne]
      intro e
      obtain ⟨o, r, rfl⟩ := List.exists_cons_of_ne_nil h
      have h1 := hf o (by simp)
      simp [List.replicate_succ] at e
      exact h1.2 e.1
    rw [if_pos hne]
    unfold rstripB
    have e2 : (wf ++ [47]).toArray.toList.reverse = 47 :: wf.reverse := by simp
    rw [e2, List.dropWhile_cons, if_pos (by simp)]
    have hr : ∃ o r, wf.reverse = o :: r := List.exists_cons_of_ne_nil (by simpa using h)
    obtain ⟨o, r, hr⟩ := hr
    have ho : o ∈ wf := by rw [← List.mem_reverse, hr]; simp
    rw [hr, List.dropWhile_cons, if_neg (by
      have := (hf o ho).2
      simp [this]), ← hr, List.reverse_reverse]
include hs he in
theorem first_wy : FirstOk (wyL wf ws we).toArray := by
  unfold FirstOk nameAt dotAt
  rw [sl_wy hs he, dot_wy he, pk_one, List.drop_left]
  intro h e
  cases ws with
  | nil => simp at h
  | cons o r =>
    have := (hs o (by simp)).1
    simp at e
    exact this e
include he in
theorem split_wy (hs : Clean ws) : frontB (wyL wf ws we).toArray = (beL wf ++ frL ws we).toArray ∧ endB (wyL wf ws we).toArray = (enL ws we).toArray := by
  unfold frontB endB nameAt dotAt
  rw [sl_wy hs he, dot_wy he]
  by_cases h : ws = []
  · subst h
    rw [if_neg (by simp), if_neg (by simp)]
    refine ⟨rfl, ?_⟩
    exact pk_to (wyL wf [] we) 0
  · have hl : 0 < ws.length := List.length_pos_iff.mpr h
    rw [if_pos (by lia), if_pos (by lia)]
    have e : ((beL wf).length + ws.length : Int) = (((beL wf).length + ws.length : Nat) : Int) := by lia
    rw [e, pk_to, pk_from]
    have e2 : wyL wf ws we = (beL wf ++ ws) ++ 46 :: we := by simp [wyL, nmL]
    rw [e2]
    have e3 : (beL wf).length + ws.length = (beL wf ++ ws).length := by simp
    rw [e3, List.take_left, List.drop_left]
    unfold frL enL
    rw [if_neg h, if_neg h]
    exact ⟨rfl, rfl⟩
include hs he in
theorem split_nm : frontB (nmL ws we).toArray = (frL ws we).toArray ∧ endB (nmL ws we).toArray = (enL ws we).toArray := split_wy (wf := []) he hs
include hs he in
theorem first_nm : FirstOk (nmL ws we).toArray := first_wy (wf := []) hs he
theorem fr_en : frL ws we ++ enL ws we = nmL ws we := by
  unfold frL enL
  by_cases h : ws = []
  · subst h; simp
  · rw [if_neg h, if_neg h]
end
end Mine
end
section
namespace Mine
theorem dig_nat (m : Int) : (dig m).toNat = 65 + (m.fmod 16).toNat := by
  have h1 := Int.fmod_nonneg_of_pos m (show (0 : Int) < 16 by decide)
  have h2 := Int.fmod_lt_of_pos m (show (0 : Int) < 16 by decide)
  unfold dig
  have e : (65 + m.fmod 16).toNat = 65 + (m.fmod 16).toNat := by lia
  rw [e, Nat.toUInt8, UInt8.toNat_ofNat']
  lia
theorem dig_rng (m : Int) : 65 ≤ (dig m).toNat ∧ (dig m).toNat ≤ 80 := by
  have h1 := Int.fmod_nonneg_of_pos m (show (0 : Int) < 16 by decide)
  have h2 := Int.fmod_lt_of_pos m (show (0 : Int) < 16 by decide)
  rw [dig_nat]; lia
noncomputable def wl (n : Int) : List UInt8 := (wordB n).toList
theorem wl_to (n : Int) : (wl n).toArray = wordB n := by unfold wl; rw [Array.toArray_toList]
theorem wl_mem {n : Int} {o : UInt8} (h : o ∈ wl n) : 65 ≤ o.toNat ∧ o.toNat ≤ 80 := by
  unfold wl wordB at h
  (repeat' split at h)
  all_goals simp at h
  · rcases h with rfl | rfl | rfl <;> exact dig_rng _
  · rcases h with rfl | rfl <;> exact dig_rng _
  · rw [h]; exact dig_rng _
theorem wl_clean (n : Int) : Clean (wl n) := fun o h => by
  have := wl_mem h
  refine ⟨fun e => ?_, fun e => ?_⟩ <;> (subst e; revert this; decide)
theorem word_letters (n : Int) : Letters (wordB n) := fun o h => by
  unfold octs at h
  obtain ⟨x, hx, rfl⟩ := List.mem_map.mp h
  have := wl_mem (n := n) hx
  lia
theorem wl_nil {n : Int} (h : n < 1) : wl n = [] := by unfold wl wordB; rw [if_neg (by lia), if_neg (by lia), if_neg (by lia)]
theorem wl_ne {n : Int} (h : 1 ≤ n) : wl n ≠ [] := by unfold wl wordB; (repeat' split) <;> first | simp | lia
theorem num_word {n : Int} (h0 : 0 ≤ n) (h1 : n < 4096) : numB (wordB n) = n := by
  have e1 : ∀ m : Int, 0 ≤ m → m.fdiv 16 = m / 16 := fun m _ => Int.fdiv_eq_ediv_of_nonneg _ (by decide)
  have e2 : n.fdiv 256 = n / 256 := Int.fdiv_eq_ediv_of_nonneg _ (by decide)
  have e3 : ∀ m : Int, ((dig m).toNat : Int) = 65 + m % 16 := fun m => by
    rw [dig_nat, Int.fmod_eq_emod_of_nonneg _ (by decide)]
    have := Int.emod_nonneg m (show (16 : Int) ≠ 0 by decide)
    lia
  unfold wordB
  (repeat' split)
  all_goals simp only [numB, octs, numL, List.map_cons, List.map_nil, List.foldl_cons, List.foldl_nil, e3, e1 n h0, e2]
  all_goals lia
noncomputable def nmB (s e : Int) : Array UInt8 := wordB s ++ #[46] ++ wordB e
noncomputable def wayB (f s e : Int) : Array UInt8 := joinB (wordB f) (nmB s e)
theorem nm_to (s e : Int) : nmB s e = (nmL (wl s) (wl e)).toArray := by
  unfold nmB
  apply Array.toList_inj.mp
  simp [wl, nmL]
theorem way_to (f s e : Int) : wayB f s e = (wyL (wl f) (wl s) (wl e)).toArray := by
  unfold wayB joinB
  rw [nm_to]
  apply Array.toList_inj.mp
  by_cases h : f < 1
  · have := wl_nil h
    rw [if_neg (by rw [← wl_to, this]; simp), this]
    simp [beL, nmL]
  · have := wl_ne (n := f) (by lia)
    have hz : 0 < (wordB f).size := by
      rw [← wl_to, List.size_toArray]
      exact List.length_pos_iff.mpr this
    rw [if_pos hz]
    unfold wyL beL
    rw [if_neg this]
    simp [wl]
section
variable (f s e : Int)
theorem dir_way : dirB (wayB f s e) = wordB f := by rw [way_to, dir_wy (wl_clean f) (wl_clean s) (wl_clean e), wl_to]
theorem base_way : baseB (wayB f s e) = nmB s e := by rw [way_to, base_wy (wl_clean s) (wl_clean e), nm_to]
theorem first_way : FirstOk (wayB f s e) := by rw [way_to]; exact first_wy (wl_clean s) (wl_clean e)
theorem first_nmB : FirstOk (nmB s e) := by rw [nm_to]; exact first_nm (wl_clean s) (wl_clean e)
variable {f s e}
theorem nm_0 (h : s < 1) : frontB (nmB s e) = nmB s e ∧ endB (nmB s e) = #[] := by
  have := split_nm (wl_clean s) (wl_clean e)
  rw [nm_to]
  refine ⟨this.1.trans ?_, this.2.trans ?_⟩
  · unfold frL; rw [if_pos (wl_nil h)]
  · unfold enL; rw [if_pos (wl_nil h)]
theorem nm_1 (h : 1 ≤ s) : frontB (nmB s e) = wordB s ∧ endB (nmB s e) = #[46] ++ wordB e := by
  have := split_nm (wl_clean s) (wl_clean e)
  rw [nm_to]
  refine ⟨this.1.trans ?_, this.2.trans ?_⟩
  · unfold frL; rw [if_neg (wl_ne h), wl_to]
  · unfold enL; rw [if_neg (wl_ne h)]
    apply Array.toList_inj.mp
    simp [wl]
theorem way_front0 (h : f < 1) : wayB f s e = nmB s e := by rw [way_to, wl_nil h, nm_to]; rfl
theorem way_front1 (h : 1 ≤ f) : frontB (wayB f s e) = wordB f ++ #[47] ++ frontB (nmB s e) ∧ endB (wayB f s e) = endB (nmB s e) := by
  have h1 := split_wy (wf := wl f) (wl_clean e) (wl_clean s)
  have h2 := split_nm (wl_clean s) (wl_clean e)
  rw [way_to, nm_to, h1.1, h1.2, h2.1, h2.2]
  refine ⟨?_, rfl⟩
  apply Array.toList_inj.mp
  unfold beL
  rw [if_neg (wl_ne h)]
  simp [wl]
theorem nm_small : (nmB s e).size ≤ 7 := by
  unfold nmB
  rw [Array.size_append, Array.size_append]
  have h1 := dig_size (n := s)
  have h2 := dig_size (n := e)
  simp; lia
theorem way_small : (wayB f s e).size ≤ 11 := by
  unfold wayB joinB
  have h1 := dig_size (n := f)
  have h2 := nm_small (s := s) (e := e)
  split
  · rw [Array.size_append, Array.size_append]; simp; lia
  · lia
theorem picked_nm (h : s < 1) : KBy.picked (nmB s e) (some 1) none = wordB e := by
  rw [nm_to, wl_nil h]
  have := pk_from (nmL [] (wl e)) 1
  rw [show ((1 : Nat) : Int) = 1 from rfl] at this
  rw [this]
  simp [wl]
theorem picked_end : KBy.picked (#[46] ++ wordB e) (some 1) none = wordB e := by
  have hh : #[46] ++ wordB e = (46 :: wl e).toArray := by apply Array.toList_inj.mp; simp [wl]
  have := pk_from (46 :: wl e) 1
  rw [show ((1 : Nat) : Int) = 1 from rfl] at this
  rw [hh, this]
  simp [wl]
theorem starts_clean {y : List UInt8} (h : (47 : UInt8) ∉ y) : startsB y.toArray #[47] = false := by
  unfold startsB
  split
  · rfl
  · cases y with
    | nil => rfl
    | cons o r =>
      have ho : o ≠ 47 := fun q => h (by simp [q])
      rw [beq_eq_false_iff_ne]
      intro q
      have q2 := congrArg Array.toList q
      simp [List.extract_eq_take_drop] at q2
      exact ho q2
theorem ends_clean {y : List UInt8} (h : (47 : UInt8) ∉ y) : endsB y.toArray #[47] = false := by
  unfold endsB
  split
  · rfl
  · rename_i hs
    rw [beq_eq_false_iff_ne]
    intro q
    have q2 := congrArg Array.toList q
    have hm : (47 : UInt8) ∈ (y.toArray.extract (y.toArray.size - #[47].size) y.toArray.size).toList := q2 ▸ (by simp : (47 : UInt8) ∈ (#[47] : Array UInt8).toList)
    rw [Array.toList_extract, List.extract_eq_take_drop] at hm
    exact h (List.mem_of_mem_drop (List.mem_of_mem_take hm))
theorem ends_word : endsB (wordB f) #[47] = false := by rw [← wl_to]; exact ends_clean (wl_clean f).no47
theorem starts_nm : startsB (nmB s e) #[47] = false := by rw [nm_to]; exact starts_clean (no47_nm (wl_clean s) (wl_clean e))
end
end Mine
end
section
namespace Mine
open PySem.Calls PySem.Spec
noncomputable abbrev lamQ : Str := Str.ofString "_law_number.<locals>.<lambda>"
noncomputable abbrev tabC (c : Addr) : Array Value := #[rawInt 221, rawInt 18, .ref c]
/- The table in a frame's ledger, filled: the lambda's code is new there, or it stood in the ground. -/
inductive TabF (g : Heap) (ps₀ : Array Value) : List (Addr × Obj) → Prop
  | made {c : Addr} {o : Obj} {vs : Array Value} {t : Tok} : o.data = .fields vs → vs[1]? = some (.str lamQ t) → TabF g ps₀ [(195, tabObj (tabC c)), (c, o)]
  | old {c : Addr} {o : Obj} {vs : Array Value} {t : Tok} : ps₀ = tabC c → g.get? c = some o → o.data = .fields vs → vs[1]? = some (.str lamQ t) → TabF g ps₀ [(195, tabObj ps₀)]
inductive TabT (g : Heap) (ps₀ : Array Value) : List (Addr × Obj) → Prop
  | empty : TabT g ps₀ [(195, tabObj #[])]
  | full {tl : List (Addr × Obj)} : TabF g ps₀ tl → TabT g ps₀ tl
section
variable {g h h' : Heap} {ps₀ : Array Value} {L : Addr} {m : Str → Option Value} {tl : List (Addr × Obj)}
theorem TabF.tab (x : TabF g ps₀ tl) (k : ∀ b o, g.get? b = some o → h.get? b = some o) (N : News g L h tl) : ∃ c, h.get? 195 = some (tabObj (tabC c)) ∧ h.CodeRec (.ref c) lamQ := by
  cases x with
  | made e1 e2 => exact ⟨_, (N _ (.head _)).1, codeRec_news N (.tail _ (.head _)) e1 e2⟩
  | old e0 e1 e2 e3 => subst e0; exact ⟨_, (N _ (.head _)).1, _, _, _, _, rfl, k _ _ e1, e2, e3⟩
theorem TabT.tab (x : TabT g ps₀ tl) (k : ∀ b o, g.get? b = some o → h.get? b = some o) (N : News g L h tl) : TabN h := by
  cases x with
  | empty => exact ⟨[], (N _ (.head _)).1, .inl rfl⟩
  | full x => obtain ⟨c, a, b⟩ := x.tab k N; exact ⟨_, a, .inr ⟨c, rfl, b⟩⟩
theorem TabT.at (x : TabT g ps₀ tl) : ∃ o, (195, o) ∈ tl := by
  cases x with
  | empty => exact ⟨_, .head _⟩
  | full x => cases x <;> exact ⟨_, .head _⟩
theorem TabT.next (x : TabT g ps₀ tl) (F : Fr g L h m) (N : News g L h tl) (k : ∀ b o, b ≠ 195 → h.get? b = some o → h'.get? b = some o) (y : TabNext h h') : ∃ tl', TabF g ps₀ tl' ∧ News g L h' tl' := by
  obtain ⟨c, e1, hcr, hor⟩ := y
  obtain ⟨o9, h9⟩ := x.at
  have n195 := (N _ h9).2
  obtain ⟨c', o, vs, t, ec, eo, ed, ev⟩ := hcr
  cases ec
  rcases hor with hor | hor
  · refine ⟨_, .made (c := c) ed ev, fun p hp => ?_⟩
    rcases List.mem_cons.mp hp with rfl | hp
    · exact ⟨e1, n195⟩
    · rw [List.mem_singleton.mp hp]
      refine ⟨eo, fun q => ?_, ?_⟩
      · obtain ⟨oL, _, _, hL, _⟩ := F.ns
        have q' : c = L := q
        rw [q', hL] at hor; cases hor
      · cases z : g.get? c with
        | none => rfl
        | some o => rw [F.keep _ _ z] at hor; cases hor
  · cases x with
    | empty =>
      have z := (N _ (.head _)).1
      rw [hor] at z; cases z
    | full x =>
      cases x with
      | made f1 f2 =>
        have z := (N _ (.head _)).1
        rw [hor] at z; cases z
        have zc := N _ (.tail _ (.head _))
        have hne : c ≠ 195 := fun q => by
          have z1 := zc.1
          rw [show (c, _).1 = (195 : Addr) from q, hor] at z1
          cases z1; cases f1; simp [rawInt] at f2
        refine ⟨_, .made (c := c) f1 f2, fun p hp => ?_⟩
        rcases List.mem_cons.mp hp with rfl | hp
        · exact ⟨e1, n195⟩
        · rw [List.mem_singleton.mp hp]
          exact ⟨k _ _ hne zc.1, zc.2⟩
      | old f0 f1 f2 f3 =>
        subst f0
        refine ⟨_, .old rfl f1 f2 f3, fun p hp => ?_⟩
        rw [List.mem_singleton.mp hp]
        have z := (N _ (.head _)).1
        rw [hor] at z; cases z
        exact ⟨e1, n195⟩
end
section
variable {w : World} {f : Addr} {vs : List Value} {n : Nat} {R : Value → Prop} {ps₀ : Array Value} {tl : List (Addr × Obj)}
  {p : Program} {loose : List Str} {mean : ExcName → Option Value} {mg mb : Str → Option Value} {dp un : Nat} {gd : Option (List Code)} {cn : Str} {cs : Scope} {a : Addr} {ccd : Value}
  {cl : List (Str × Addr)} {outer : List Env} {A₀ : Around} {base h₀ : Heap} {L : Addr} {m : Str → Option Value} {s : Shared} {news : List (Addr × Obj)} {Q E : Value → Shared → Prop}
theorem useN (C : ToldT w 199 195 f vs n TabN (fun h h' v => TabNext h h' ∧ R v)) (B : Below A₀ base outer h₀) (F : Fr h₀ L s.heap m) (X : (hd.heap_39 w.params).In h₀) (N : News h₀ L s.heap news) (T : Top p loose mean mg mb h₀) (hk : cs.kind = .function)
    (hT : TabT h₀ ps₀ tl) (hsub : ∀ p ∈ tl, p ∈ news) (hcode : CodeHd h₀ 199 195) (hdp : dp + n < recursionLimit) (hun : un + 8 * n < cLine)
    (h : ∀ v h' tk' tl', R v → Fr h₀ L h' m → News h₀ L h' tl' → TabF h₀ ps₀ tl' → (∀ b o, b ≠ 195 → s.heap.get? b = some o → h'.get? b = some o) → Q v { s with heap := h', toks := tk' }) :
    wpAny (model PySem.Challenge.rw_ij0209_01.row.prog w) (ktrTop dp un gd cn cs L a ccd cl outer) (call (.ref f) vs) Q E s := by
  have Nt : News h₀ L s.heap tl := fun p hp => N p (hsub p hp)
  obtain ⟨o9, h9⟩ := hT.at
  have n9 := (Nt _ h9).2
  refine C p loose mean mg mb dp un gd cn cs a ccd cl outer A₀ base h₀ L m s Q E B F X T hk n9.2 hcode (hT.tab F.keep Nt) hdp hun fun v h' tk' k sz r => ?_
  obtain ⟨tl', T', N'⟩ := hT.next F Nt k r.1
  refine h v h' tk' tl' r.2 ⟨F.ns.at' fun o e => k _ _ (fun q => n9.1 q.symm) e, fun b o e => k _ _ (fun q => ?_) (F.keep b o e), F.above⟩ N' T' k
  rw [q, n9.2] at e; cases e
end
end Mine
end
section
namespace Mine
open PySem.Calls PySem.Spec PySem.SeqAt
section
variable {prog : Program} {w : World} {A : Around} {E : Value → Shared → Prop} {s : Shared} {x y : Array UInt8} {t1 t2 u1 u2 : Tok}
theorem eqAt_bytes (A : Around) (s : Shared) (x : Array UInt8) (t u : Tok) : EqAt A s (.bytes x t) (.bytes x u) true := fun prog w E Q hq => by
  unfold eqBool
  refine wpAny_holding ?_
  refine wpAny_ite_split (fun _ => wpAny_bind (wpAny_rule (wpAny_pure hq))) (fun _ => ?_)
  refine wpAny_bind ?_
  show wpAny _ _ (compareOp .Eq (.bytes x t) (.bytes x u)) _ _ s
  refine eq_bytes ?_
  rw [beq_self_eq_true]
  exact wpAny_truthy_bool hq
theorem ne_same2 {D1 D2 : Addr} {c1 c2 : Nat} {Q : Value → Shared → Prop} (h1 : s.heap.get? D1 = some (tupObj [.bytes x t1, .bytes y t2] c1)) (h2 : s.heap.get? D2 = some (tupObj [.bytes x u1, .bytes y u2] c2)) (hu : A.units < cLine) (h : Q (.bool false) s) :
    wpAny (model prog w) A (compareOp .NotEq (.ref D1) (.ref D2)) Q E s := by
  have z := RcNeAt.tuples (A := A) (s := s) (e := fun _ => true) (l := D1) (b := D2) ⟨_, h1, rfl, _, rfl⟩ ⟨_, h2, rfl, _, rfl⟩ hu (fun j a b => by
    match j, a with
    | 0, _ => exact eqAt_bytes _ _ _ _ _
    | 1, _ => exact eqAt_bytes _ _ _ _ _)
  exact z prog w E Q h
theorem ne_bytes_same {t u : Tok} {Q : Value → Shared → Prop} (h : Q (.bool false) s) : wpAny (model prog w) A (compareOp .NotEq (.bytes x t) (.bytes x u)) Q E s := by
  refine ne_bytes ?_
  rw [bne_self_eq_false]; exact h
theorem ne_same2' {x' y' : Array UInt8} {D1 D2 : Addr} {c1 c2 : Nat} {Q : Value → Shared → Prop} (h1 : s.heap.get? D1 = some (tupObj [.bytes x t1, .bytes y t2] c1)) (h2 : s.heap.get? D2 = some (tupObj [.bytes x' u1, .bytes y' u2] c2)) (hu : A.units < cLine) (ex : x = x') (ey : y = y') (h : Q (.bool false) s) :
    wpAny (model prog w) A (compareOp .NotEq (.ref D1) (.ref D2)) Q E s := by
  subst ex; subst ey
  exact ne_same2 h1 h2 hu h
theorem ne_bytes_same' {x' : Array UInt8} {t u : Tok} {Q : Value → Shared → Prop} (e : x = x') (h : Q (.bool false) s) : wpAny (model prog w) A (compareOp .NotEq (.bytes x t) (.bytes x' u)) Q E s := by
  subst e; exact ne_bytes_same h
theorem eq_split {a b : Int} {t u : Tok} {Q : Value → Shared → Prop} (h1 : a = b → Q (.bool true) s) (h2 : a ≠ b → Q (.bool false) s) : wpAny (model prog w) A (compareOp .Eq (.int a t) (.int b u)) Q E s := by
  refine eq_int ?_
  by_cases h : a = b
  · rw [beq_iff_eq.mpr h]; exact h1 h
  · rw [beq_eq_false_iff_ne.mpr h]; exact h2 h
theorem ne_split {a b : Int} {t u : Tok} {Q : Value → Shared → Prop} (h1 : a = b → Q (.bool false) s) (h2 : a ≠ b → Q (.bool true) s) : wpAny (model prog w) A (compareOp .NotEq (.int a t) (.int b u)) Q E s := by
  refine ne_int ?_
  by_cases h : a = b
  · rw [h, bne_self_eq_false]; exact h1 h
  · rw [bne_iff_ne.mpr h]; exact h2 h
theorem eq_no {a b : Int} {t u : Tok} {Q : Value → Shared → Prop} (hn : a ≠ b) (h : Q (.bool false) s) : wpAny (model prog w) A (compareOp .Eq (.int a t) (.int b u)) Q E s := eq_int (by rw [beq_eq_false_iff_ne.mpr hn]; exact h)
theorem eq_yes {a b : Int} {t u : Tok} {Q : Value → Shared → Prop} (hn : a = b) (h : Q (.bool true) s) : wpAny (model prog w) A (compareOp .Eq (.int a t) (.int b u)) Q E s := eq_int (by rw [beq_iff_eq.mpr hn]; exact h)
theorem ne_no {a b : Int} {t u : Tok} {Q : Value → Shared → Prop} (hn : a = b) (h : Q (.bool false) s) : wpAny (model prog w) A (compareOp .NotEq (.int a t) (.int b u)) Q E s := ne_int (by rw [hn, bne_self_eq_false]; exact h)
theorem ne_yes {a b : Int} {t u : Tok} {Q : Value → Shared → Prop} (hn : a ≠ b) (h : Q (.bool true) s) : wpAny (model prog w) A (compareOp .NotEq (.int a t) (.int b u)) Q E s := ne_int (by rw [bne_iff_ne.mpr hn]; exact h)
end
end Mine
end
section
namespace Mine
noncomputable def befX (f : Int) : Array UInt8 := if f = 0 then #[] else wordB f ++ #[47]
theorem bef_yes {f : Int} (h : f ≠ 0) : befX f = wordB f ++ #[47] := if_neg h
theorem bef_no {f : Int} (h : f = 0) : befX f = #[] := if_pos h
theorem bef_size (f : Int) : (befX f).size ≤ 4 := by
  unfold befX
  split
  · exact Nat.le_of_ble_eq_true rfl
  · rw [Array.size_append]
    have h := dig_size (n := f)
    exact Nat.le_trans (Nat.add_le_add_right h 1) (Nat.le_of_ble_eq_true rfl)
theorem tup_end {X Y X' Y' : Array UInt8} {g h : Heap} {L D : Addr} {t1 t2 : Tok} {c : Nat} {news : List (Addr × Obj)} (eX : X' = X) (eY : Y' = Y) (N : News g L h ((D, tupObj [.bytes X' t1, .bytes Y' t2] c) :: news)) : News g L h ((D, tupObj [.bytes X t1, .bytes Y t2] c) :: news) := by
  subst eX; subst eY; exact N
section
variable {M : Model} {A : Around} {E : Value → Shared → Prop} {s : Shared} {env : Env} {test body orelse : Expr} {pos : Pos}
theorem join_if {X : Array UInt8} {Q : Value → Shared → Prop} (h : ∀ K : Value → Shared → Prop, (∀ t tk, K (.bytes X t) { s with toks := tk }) → wpAny M A (isTrue test env (eval test env)) (fun c s₂ => if c then wpAny M A (eval body env) K E s₂ else wpAny M A (eval orelse env) K E s₂) E s)
    (hq : ∀ t tk, Q (.bytes X t) { s with toks := tk }) : wpAny M A (eval (.IfExp test body orelse pos) env) Q E s := IfExp_ (h Q hq)
theorem join_ift {X Y : Array UInt8} {g : Heap} {L : Addr} {m : Str → Option Value} {news : List (Addr × Obj)} {Q : Value → Shared → Prop} (_F : Fr g L s.heap m) (_N : News g L s.heap news)
    (h : ∀ K : Value → Shared → Prop, (∀ D t1 t2 c h' tk', Fr g L h' m → News g L h' ((D, tupObj [.bytes X t1, .bytes Y t2] c) :: news) → K (.ref D) { s with heap := h', toks := tk' }) → wpAny M A (isTrue test env (eval test env)) (fun c s₂ => if c then wpAny M A (eval body env) K E s₂ else wpAny M A (eval orelse env) K E s₂) E s)
    (hq : ∀ D t1 t2 c h' tk', Fr g L h' m → News g L h' ((D, tupObj [.bytes X t1, .bytes Y t2] c) :: news) → Q (.ref D) { s with heap := h', toks := tk' }) : wpAny M A (eval (.IfExp test body orelse pos) env) Q E s := IfExp_ (h Q hq)
end
end Mine
theorem Mine.c_keptG (w : World) (f s₀ e : Int) (t t1 t2 t3 : Tok) (Wy fr en fy : Array UInt8) (z1 : Wy.size ≤ 11) (z2 : fr.size ≤ 7) (z3 : en.size ≤ 7) (z4 : fy.size ≤ 11)
    (e1 : s₀ = 0 → fr = Mine.wordB s₀ ++ #[46] ++ Mine.wordB e) (e2 : s₀ = 0 → en = #[]) (e3 : s₀ ≠ 0 → fr = Mine.wordB s₀) (e4 : s₀ ≠ 0 → en = #[46] ++ Mine.wordB e)
    (e5 : f = 0 → fy = #[] ++ fr) (e6 : f ≠ 0 → fy = Mine.wordB f ++ #[47] ++ fr)
    (C1 : ∀ t, Mine.Told w 136 [.bytes Wy t] 4 (fun _ => True) (Mine.RT2 (Mine.wordB f) (Mine.wordB s₀ ++ #[46] ++ Mine.wordB e)))
    (C2 : ∀ t, Mine.Told w 160 [.bytes Wy t] 4 (fun _ => True) (Mine.RB (Mine.wordB f)))
    (C3 : ∀ t, Mine.Told w 153 [.bytes Wy t] 4 (fun _ => True) (Mine.RB (Mine.wordB s₀ ++ #[46] ++ Mine.wordB e)))
    (C4 : ∀ t, Mine.Told w 143 [.bytes (Mine.wordB s₀ ++ #[46] ++ Mine.wordB e) t] 6 (fun _ => True) (Mine.RT2 fr en))
    (C5 : ∀ t, Mine.Told w 143 [.bytes Wy t] 6 (fun _ => True) (Mine.RT2 fy en))
    (C6 : ∀ t t1, Mine.Told w 129 [.bytes (Mine.wordB f) t, .bytes (fr ++ en) t1] 6 (fun _ => True) (Mine.RB Wy))
    (N1 : ∀ t, Mine.ToldT w 199 195 200 [.bytes (Mine.wordB f) t] 10 Mine.TabN (fun h h' v => Mine.TabNext h h' ∧ ∃ t', v = .int f t'))
    (N2 : s₀ = 0 → ∀ t, Mine.ToldT w 199 195 200 [.bytes (KBy.picked fr (some 1) none) t] 10 Mine.TabN (fun h h' v => Mine.TabNext h h' ∧ ∃ t', v = .int e t'))
    (N3 : s₀ ≠ 0 → ∀ t, Mine.ToldT w 199 195 200 [.bytes fr t] 10 Mine.TabN (fun h h' v => Mine.TabNext h h' ∧ ∃ t', v = .int s₀ t'))
    (N4 : s₀ ≠ 0 → ∀ t, Mine.ToldT w 199 195 200 [.bytes (KBy.picked en (some 1) none) t] 10 Mine.TabN (fun h h' v => Mine.TabNext h h' ∧ ∃ t', v = .int e t')) :
    Mine.ToldT w 199 195 207 [.bytes Wy t, .int f t1, .int s₀ t2, .int e t3] 20 Mine.TabN (fun h h' v => Mine.TabNext h h' ∧ v = .bool true) := by
  unfold Mine.ToldT
  have e56 : fy = Mine.befX f ++ fr := by
    by_cases q : f = 0
    · rw [Mine.bef_no q]; exact e5 q
    · rw [Mine.bef_yes q]; exact e6 q
  clear e5 e6
  have z5 := Mine.bef_size f
  k_with_none
  (k_with "call type:type" => ((k_here; (with_reducible show wpAny _ _ (call (Value.type "type") [Value.bytes _ _]) _ _ _); refine Mine.type_bytes ?_)))
  (k_with "call builtin:issubclass" => ((k_here; k_dflt (refine' Mine.issub_bytes ?zqk1 ?_; (case zqk1 => exact News.isTup (by k_asm) (by k_mem)); k_whole))))
  (k_with "getMethod bytes" => ((k_here; (with_reducible first | refine Mine.method_rfind ?_ | refine Mine.method_rstrip ?_ | refine Mine.method_starts ?_ | refine Mine.method_ends ?_))))
  (k_with "call builtin:bytes.rfind" => ((k_here; refine Mine.call_rfind ?_)))
  (k_with "call builtin:bytes.startswith" => ((k_here; refine Mine.call_starts ?_)))
  (k_with "call builtin:bytes.endswith" => ((k_here; refine Mine.call_ends ?_)))
  (k_with "call builtin:bytes.rstrip" => ((k_here; refine Mine.call_rstrip (by k_extra "kaf") ?_; intro zzt8 zzk8)))
  (k_with "subscriptTail" => ((k_here; (with_reducible show wpAny _ _ (subscriptTail _ (Expr.Slice _ _ none _) (Value.bytes _ _) (Value.ref _)) _ _ _); (with_reducible rename Fr _ _ _ _ => zzFq); (with_reducible rename News _ _ _ _ => zzNq); (refine Mine.slice_B (s := ⟨_, _, _, _, _⟩) zzFq zzNq (by constructor) (by constructor) (by k_extra "kaf") ?_); intro _ _ _ _ _; (try k_sweep))))
  (k_with "truthy bytes" => ((k_here; (refine Mine.truthy_B (by k_extra "kaf") ?_); intro _)))
  (k_with "call builtin:len" => ((k_here; (with_reducible show wpAny _ _ (call (Value.builtin "len") [Value.bytes _ _]) _ _ _); (refine Mine.len_B (by k_extra "kaf") ?_); intro _ _)))
  (k_with "binaryOp Mult bytes int" => ((k_here; (refine Mine.mul_B (by k_extra "kaf") ?_); intro _ _)))
  (k_with "exec While Name" => ((k_here; refine whl_start 5 ?_)))
  (k_with "WhlIf" => ((first | (refine WhlIf.yes (by with_unfolding_all rfl) ?_) | (refine WhlIf.no (by with_unfolding_all rfl) ?_) | (refine Mine.whl_split ?_ ?_ <;> intro zzhw8 <;> (first | done | (exfalso; (try simp only [bne_iff_ne, ne_eq, bne_eq_false_iff_eq, decide_eq_true_eq, decide_eq_false_iff_not] at *); omega) | skip)))))
  (k_with "binaryOp Add bytes bytes" => ((k_here; (refine Mine.add_B (by k_extra "kaf") ?_); intro _ _)))
  (k_with "kaf" => (first | (with_reducible assumption) | ((with_reducible refine Mine.sz_cut ?_); k_extra "kaf") | ((with_reducible refine Mine.small_rstrip ?_); k_extra "kaf") | ((with_reducible refine Mine.sz_app ?_ ?_) <;> k_extra "kaf") | exact Nat.le_of_ble_eq_true rfl | exact Nat.le_trans (by with_reducible assumption) (by decide) | assumption | ((try simp only [Mine.Small, Array.size_append, List.size_toArray, List.length_cons, List.length_nil] at *); omega)))
  (k_with "inplaceOp Add bytes bytes" => ((k_here; (refine Mine.iadd_B (by k_extra "kaf") ?_); intro _ _)))
  (k_with "WhlIf" => ((refine WhlIf.no (Mine.ap_three (by assumption) (by assumption)) ?_)))
  (k_with "kaf" => (first | (with_reducible assumption) | ((with_reducible refine Mine.sz_word ?_); exact Nat.le_of_ble_eq_true rfl) | ((with_reducible refine Mine.sz_frontB ?_); k_extra "kaf") | ((with_reducible refine Mine.sz_endB ?_); k_extra "kaf") | ((with_reducible refine Mine.sz_baseB ?_); k_extra "kaf") | ((with_reducible refine Mine.sz_dirB ?_); k_extra "kaf")))
  (k_with "compareOp Gt bytes bytes" => ((k_here; refine Mine.gt_bytes ?_)))
  (k_with "call ref" => ((k_here; (with_reducible show wpAny _ _ (call (Value.ref 193) [Value.int _ _]) _ _ _); k_dflt (refine' Mine.useB (Mine.c_word _ _ _) ?zqk1 ?zqk2 ?zqk3 ?zqk4 ?zqk5 ?zqk6 ?zqk7 ?zqk8 ?zqk9 ?_; ((case zqk1 => k_asm); (case zqk2 => k_asm); (case zqk3 => k_asm); (case zqk4 => k_asm); (case zqk5 => k_asm); (case zqk6 => first | exact rfl | assumption); (case zqk7 => first | exact True.intro | assumption); (case zqk8 => ktr_room); (case zqk9 => ktr_units))); intro zzt8 zzh8 zztk8 zzF8 zzN8; (try k_sweep); (try k_fold))))
  (k_with "call ref" => ((k_here; (with_reducible first | show wpAny _ _ (call (Value.ref 136) [Value.bytes _ _]) _ _ _ | show wpAny _ _ (call (Value.ref 143) [Value.bytes _ _]) _ _ _); k_dflt (refine' Mine.useT2 (by apply_assumption) ?zqk1 ?zqk2 ?zqk3 ?zqk4 ?zqk5 ?zqk6 ?zqk7 ?zqk8 ?zqk9 ?_; ((case zqk1 => k_asm); (case zqk2 => k_asm); (case zqk3 => k_asm); (case zqk4 => k_asm); (case zqk5 => k_asm); (case zqk6 => first | exact rfl | assumption); (case zqk7 => first | exact True.intro | assumption); (case zqk8 => ktr_room); (case zqk9 => ktr_units))); intro zzD8 zzt8 zzt9 zzc8 zzh8 zztk8 zzF8 zzN8 zzl8; (try simp only [Mine.AllNe, and_true] at zzl8); (try k_sweep); (try k_fold))))
  (k_with "call ref" => ((k_here; (with_reducible first | show wpAny _ _ (call (Value.ref 160) [Value.bytes _ _]) _ _ _ | show wpAny _ _ (call (Value.ref 153) [Value.bytes _ _]) _ _ _ | show wpAny _ _ (call (Value.ref 129) [Value.bytes _ _, Value.bytes _ _]) _ _ _); k_dflt (refine' Mine.useB (by apply_assumption) ?zqk1 ?zqk2 ?zqk3 ?zqk4 ?zqk5 ?zqk6 ?zqk7 ?zqk8 ?zqk9 ?_; ((case zqk1 => k_asm); (case zqk2 => k_asm); (case zqk3 => k_asm); (case zqk4 => k_asm); (case zqk5 => k_asm); (case zqk6 => first | exact rfl | assumption); (case zqk7 => first | exact True.intro | assumption); (case zqk8 => ktr_room); (case zqk9 => ktr_units))); intro zzt8 zzh8 zztk8 zzF8 zzN8; (try k_sweep); (try k_fold))))
  (k_with "call ref" => ((k_here; (with_reducible show wpAny _ _ (call (Value.ref 200) [Value.bytes _ _]) _ _ _); k_dflt (refine' Mine.useN (by apply_assumption <;> omega) ?zqk1 ?zqk2 ?zqk3 ?zqk4 ?zqk5 ?zqk6 ?zqkT ?zqks ?zqkc ?zqk8 ?zqk9 ?_; (case zqk1 => k_asm); (case zqk2 => k_asm); (case zqk3 => k_asm); (case zqk4 => k_asm); (case zqk5 => k_asm); (case zqk6 => first | exact rfl | assumption); (case zqkT => first | exact Mine.TabT.full (by assumption) | assumption); (case zqks => intro zzp8 zzhp8; (repeat (first | exact zzhp8 | apply List.mem_cons_of_mem))); (case zqkc => assumption); (case zqk8 => ktr_room); (case zqk9 => ktr_units)); intro zzv8 zzh8 zztk8 zztl8 zzr8 zzF8 zzN8 zzT8 zzst8; (obtain ⟨t8, e8⟩ := zzr8); subst e8; (clear zzst8); (try k_sweep); (try k_fold))))
  (k_with "compareOp NotEq ref ref" => ((k_here; k_dflt (refine' Mine.ne_same2' ?zqk1 ?zqk2 ?zqk3 ?zqk4 ?zqk5 ?_; (case zqk1 => exact News.get (by k_asm) (by k_mem)); (case zqk2 => exact News.get (by k_asm) (by k_mem)); (case zqk3 => ktr_units); (case zqk4 => first | with_reducible rfl | (apply_assumption <;> omega)); (case zqk5 => first | with_reducible rfl | (apply_assumption <;> omega)); k_whole))))
  (k_with "compareOp NotEq bytes bytes" => ((k_here; k_dflt (first | refine Mine.ne_bytes_same ?_ | (refine Mine.ne_bytes_same' (by apply_assumption <;> omega) ?_)))))
  (k_with "compareOp Eq int int" => ((k_here; k_dflt (first | refine Mine.eq_no (by omega) ?_ | refine Mine.eq_yes (by omega) ?_ | (refine Mine.eq_split ?_ ?_ <;> intro zzh9)))))
  (k_with "compareOp NotEq int int" => ((k_here; k_dflt (first | refine Mine.ne_no (by omega) ?_ | refine Mine.ne_yes (by omega) ?_ | (refine Mine.ne_split ?_ ?_ <;> intro zzh9)))))
  (k_with "eval IfExp" => ((k_here; (with_reducible show wpAny _ _ (eval (Expr.IfExp (Expr.Compare (Expr.Name (PySem.Str.ofString "folder") _) _ _ _) _ _ _) _) _ _ _); refine Mine.join_if (X := Mine.befX f) ?zqkA ?_; (case zqkA => intro zzzK zzzh; (repeat' (first | (k_unfold; (try dsimp only)) | (k_end; kc_close) | (dsimp only; walk1) | walk1 | (leave1; try dsimp only))); all_goals (first | (rw [Mine.bef_yes (by assumption)] at zzzh; exact zzzh _ _) | (rw [Mine.bef_no (by assumption)] at zzzh; exact zzzh _ _))); intro zzzt zzztk; (try k_sweep); (try k_fold))))
  (k_with "eval IfExp" => ((k_here; (with_reducible show wpAny _ _ (eval (Expr.IfExp (Expr.Compare (Expr.Name (PySem.Str.ofString "stem") _) _ _ _) _ _ _) _) _ _ _); k_dflt ((with_reducible rename Fr _ _ _ _ => zzzF); (with_reducible rename News _ _ _ _ => zzzN); refine Mine.join_ift (X := fr) (Y := en) zzzF zzzN ?zqkA ?_; (case zqkA => intro zzzK zzzh; (repeat' (first | (k_unfold; (try dsimp only)) | (k_end; kc_close) | (dsimp only; walk1) | walk1 | (leave1; try dsimp only))); all_goals (first | exact zzzh _ _ _ _ _ _ (by assumption) (Mine.tup_end (e1 (by assumption)).symm (e2 (by assumption)).symm (by assumption)) | exact zzzh _ _ _ _ _ _ (by assumption) (Mine.tup_end (e3 (by assumption)).symm (e4 (by assumption)).symm (by assumption)))); clear zzzF zzzN; intro zzzD zzzt zzzt2 zzzc zzzh2 zzztk zzzF2 zzzN2; (try k_sweep); (try k_fold)))))
  w_top off
  k_fill
  intro p loose mean mg mb dp un gd cn cs a ccd cl outer A₀ base h₀ L m s Q E B F X T hk hg0 hcode hpre hdp hun hret
  obtain ⟨ps, hps, hor⟩ := hpre
  have N : News h₀ L s.heap [(195, tabObj (List.toArray ps))] := by
    intro q hq
    rw [List.mem_singleton.mp hq]
    refine ⟨hps, fun e => ?_, hg0⟩
    obtain ⟨oL, es, ep, hL, hd, _⟩ := F.ns
    have e' : (195 : Nat) = L := e
    rw [← e', hps] at hL; cases hL; cases hd
  refine wpAny_call ?_
  k_dflt (refine' Mine.code_defPT (news := [(195, tabObj (List.toArray ps))]) ?k1 ?k2 ?k3 ?k4 ?k5 ?kA ?kF ?kK ?k6 ?k7 ?k8 ?k9 ?kB ?_ ?c2 ?c3 ?c4 ?c5; (case kA => exact rfl); (case kF => exact rfl); (case kK => assumption); (case k1 => k_asm); (case k2 => k_asm); (case k3 => k_asm); (case k4 => exact N); (case k5 => k_asm); (case k6 => k_is); (case k7 => k_is); (case k8 => ktr_room); (case k9 => exact BindsTo.of_eq rfl); (case c5 => decide); (case kB => exact locs rfl); (case c2 => exact rfl); (case c3 => exact rfl); (case c4 => exact rfl); k_whole)
  intro g' L' h₁ hg F' N' B' st X' T' kh sz
  have hcode' := hcode.keeps st
  have up : ∀ b o, b ≠ 195 → s.heap.get? b = some o → g'.get? b = some o := fun b o hb e => by
    rw [hg]; exact hideAll_get _ e (by simpa using hb)
  have hT0 : Mine.TabT g' (List.toArray ps) [(195, tabObj (List.toArray ps))] := by
    rcases hor with rfl | ⟨c, rfl, c', o, vs, tq, ec, ho, hd, hv⟩
    · exact .empty
    · cases ec
      refine .full (.old (c := c) rfl (up _ _ (fun q => ?_) ho) hd hv)
      rw [q, hps] at ho
      cases ho; cases hd
      exact absurd hv (by simp [rawInt])
  have fin : ∀ h2 tk2 m2 tl2, Fr g' L' h2 m2 → News g' L' h2 tl2 → Mine.TabF g' (List.toArray ps) tl2 → Q (.bool true) { s with heap := h2, toks := tk2 } := by
    intro h2 tk2 m2 tl2 F2 N2 T2
    refine hret _ h2 tk2 (fun b o hb e => F2.keep b o (up b o hb e)) ?_ ⟨?_, rfl⟩
    · have z := Mine.fr_size F2
      rw [hg, hideAll_size] at z
      exact z
    · obtain ⟨c, a1, a2⟩ := T2.tab F2.keep N2
      refine ⟨c, a1, a2, ?_⟩
      cases T2 with
      | made f1 f2 =>
        rename_i c9 o9 vs9 t9
        have z1 := (N2 _ (List.Mem.head _)).1
        rw [a1] at z1
        cases z1
        have zc := N2 _ (List.Mem.tail _ (List.Mem.head _))
        have hne : c ≠ 195 := fun q => by
          have z2 := zc.1
          rw [show (c, o9).1 = (195 : PySem.Addr) from q, a1] at z2
          cases z2; cases f1; simp [rawInt] at f2
        refine .inl ?_
        cases z : s.heap.get? c with
        | none => rfl
        | some o => exact absurd ((up _ _ hne z).symm.trans zc.2.2) (by simp)
      | old f0 f1 f2 f3 =>
        have z1 := (N2 _ (List.Mem.head _)).1
        rw [a1] at z1
        cases z1
        exact .inr hps
  clear B F X T hcode N hret up kh hps hg hor
  (try dsimp only)
  (show wpAny _ _ _ _ _ _)
  k_fold
  (repeat' (first | (k_unfold; (try dsimp only)) | (k_end; kc_close) | (dsimp only; walk1) | walk1 | (leave1; try dsimp only)))
  all_goals trace "END"
  all_goals (repeat (first | k_unfold | dsimp only | dsimp +zetaDelta only))
  all_goals (unfold Mine.EndP; dsimp only)
  all_goals exact fin _ _ _ _ (by assumption) (by assumption) (by assumption)
end
section
namespace Mine
theorem fr_en_nm (s e : Int) : frontB (nmB s e) ++ endB (nmB s e) = nmB s e := by
  have h := split_nm (wl_clean s) (wl_clean e)
  rw [nm_to, h.1, h.2]
  apply Array.toList_inj.mp
  simp [fr_en]
theorem c_kept (w : World) (f s e : Int) (t t1 t2 t3 : Tok) (hf : 0 ≤ f) (hf2 : f < 4096) (hs : 0 ≤ s) (hs2 : s < 4096) (he : 0 ≤ e) (he2 : e < 4096) :
    ToldT w 199 195 207 [.bytes (wayB f s e) t, .int f t1, .int s t2, .int e t3] 20 TabN (fun h h' v => TabNext h h' ∧ v = .bool true) := by
  have zn := nm_small (s := s) (e := e)
  have zy := way_small (f := f) (s := s) (e := e)
  have small : ∀ {b : Array UInt8} {n : Nat}, b.size ≤ n → n ≤ 1000 → Small b := fun h h' => Nat.le_trans h h'
  refine c_keptG w f s e t t1 t2 t3 (wayB f s e) (frontB (nmB s e)) (endB (nmB s e)) (frontB (wayB f s e)) zy (sz_frontB zn) (sz_endB zn) (sz_frontB zy) ?_ ?_ ?_ ?_ ?_ ?_ ?_ ?_ ?_ ?_ ?_ ?_ ?_ ?_ ?_ ?_
  · intro h; exact (nm_0 (by omega)).1
  · intro h; exact (nm_0 (by omega)).2
  · intro h; exact (nm_1 (by omega)).1
  · intro h; exact (nm_1 (by omega)).2
  · intro h; rw [way_front0 (by omega), Array.empty_append]
  · intro h; exact (way_front1 (by omega)).1
  · intro t
    have h := c_split w (wayB f s e) t (small zy (by decide))
    rw [dir_way, base_way] at h; exact h
  · intro t
    have h := c_dirname w (wayB f s e) t (small zy (by decide))
    rw [dir_way] at h; exact h
  · intro t
    have h := c_basename w (wayB f s e) t (small zy (by decide))
    rw [base_way] at h; exact h
  · intro t
    exact c_splitext w (nmB s e) t (small zn (by decide)) (first_nmB s e)
  · intro t
    have h := c_splitext w (wayB f s e) t (small zy (by decide)) (first_way f s e)
    have e1 : endB (wayB f s e) = endB (nmB s e) := by
      by_cases q : f < 1
      · rw [way_front0 q]
      · exact (way_front1 (by omega)).2
    rw [e1] at h; exact h
  · intro t t1
    have h := c_join w (wordB f) (frontB (nmB s e) ++ endB (nmB s e)) t t1 (Nat.le_trans dig_size (by decide)) (by rw [fr_en_nm]; omega) (by rw [fr_en_nm]; exact starts_nm) ends_word
    have e1 : joinB (wordB f) (frontB (nmB s e) ++ endB (nmB s e)) = wayB f s e := by rw [fr_en_nm]; rfl
    rw [e1] at h; exact h
  · intro t
    have h := c_number w (wordB f) t dig_size (word_letters f)
    rw [num_word hf hf2] at h; exact h
  · intro h0 t
    have e1 : KBy.picked (frontB (nmB s e)) (some 1) none = wordB e := by rw [(nm_0 (by omega)).1]; exact picked_nm (by omega)
    rw [e1]
    have h := c_number w (wordB e) t dig_size (word_letters e)
    rw [num_word he he2] at h; exact h
  · intro h0 t
    rw [(nm_1 (by omega)).1]
    have h := c_number w (wordB s) t dig_size (word_letters s)
    rw [num_word hs hs2] at h; exact h
  · intro h0 t
    rw [(nm_1 (by omega)).2, picked_end]
    have h := c_number w (wordB e) t dig_size (word_letters e)
    rw [num_word he he2] at h; exact h
end Mine
end
section
namespace Mine
open PySem.Calls PySem.Spec
/- How a turn ends. -/
noncomputable def PairEnd (s : Shared) (h₀ : Heap) (L : Addr) (Dc : Addr) (own : List (Addr × Obj)) (J : (Str → Option Value) → Obj → Prop) (f : Flow) (s₂ : Shared) : Prop :=
  f = .next ∧ ∃ h' tk m₂ o₂, s₂ = { s with heap := h', toks := tk } ∧ Fr h₀ L h' m₂ ∧ News h₀ L h' ((Dc, o₂) :: own) ∧ J m₂ o₂
section
variable {prog : Program} {w : World} {A : Around} {E : Value → Shared → Prop} {s : Shared} {env : Env} {h₀ : Heap} {xi xc : Str} {body : List Stmt} {Q : Flow → Shared → Prop} {D Dc : Addr} {ws : List Value} {ks : List Int} {o0 : Obj} {c0 : Nat} {m : Str → Option Value}
/- A loop over enumerate of a new list of ints; one object of the frame's own is turned. -/
theorem pair_enum (hh : A.handled = none) (F : Fr h₀ env.locals s.heap m) (N : News h₀ env.locals s.heap [(D, PySem.W.listOf ws.toArray c0), (Dc, o0)]) (hw : IntsAre ws ks) (hne : Dc < D)
    (J : Nat → (Str → Option Value) → Obj → Prop) (h0 : J 0 m o0)
    (turn : ∀ (i : Nat) n t t' m₁ o₁ h1 tk1 own, ks[i]? = some n → J i m₁ o₁ → (∀ p ∈ own, p.1 ≠ Dc) → Fr h₀ env.locals h1 (fun y => if y = xc then some (.int n t) else if y = xi then some (.int i t') else m₁ y) → News h₀ env.locals h1 ((Dc, o₁) :: own) →
      wpAny (model prog w) A (execs body env) (PairEnd s h₀ env.locals Dc own (J (i + 1))) E { s with heap := h1, toks := tk1 })
    (done : ∀ h' tk m' o', Fr h₀ env.locals h' m' → News h₀ env.locals h' [(Dc, o')] → J ks.length m' o' → Q .next { s with heap := h', toks := tk }) :
    wpAny (model prog w) A (call (.type "enumerate") [.ref D]) (fun xv s₁ => wpAny (model prog w) A (pyIter xv) (fun it s₂ => PairAt3 prog w A h₀ env xi xc body Q E it s₂) E s₁) E s := by
  have hIL := News.isList N (List.Mem.head _)
  have hD := (N _ (List.Mem.head _)).1
  have hDlt : D < s.heap.objs.size := Heap.lt_size hD
  have hLs : env.locals < s.heap.objs.size := F.ns.lt
  have hDc := N _ (List.Mem.tail _ (List.Mem.head _))
  have hne' : Dc ≠ D := Nat.ne_of_lt hne
  refine PySem.call_enumerate_list hIL ?_
  intro h2 he hit hz hk2
  refine PySem.wpAny_pyIter_enum he ?_
  have F2 : Fr h₀ env.locals h2 m := F.keeps hk2
  have fresh : ∀ b, s.heap.objs.size ≤ b → h₀.get? b = none := fun b hb => Heap.get?_none_of_le (Nat.le_trans F.above (Nat.le_trans (Nat.le_of_lt hLs) hb))
  refine ⟨s.heap.objs.size + 1, _, _, ws.toArray.size, _, _, _, (fun i v0 v1 => ∃ n t t', ks[i]? = some n ∧ v0 = .int i t' ∧ v1 = .int n t), m, [(Dc, o0)], (fun i m₁ news₁ => ∃ o₁, news₁ = [(Dc, o₁)] ∧ J i m₁ o₁), rfl,
    WalksT.enumerate hh (s.heap.objs.size + 1) s.heap.objs.size D (Nat.succ_ne_self _) (Nat.ne_of_lt (Nat.lt_succ_of_lt hDlt)) (Nat.ne_of_lt hDlt) ws.toArray, ?_, ?_, ?_, ?_, ⟨⟨_, he⟩, hit, hIL.at fun o e => hk2 _ _ e⟩, F2, (fun p hp => by rw [List.mem_singleton.mp hp]; exact ⟨hk2 _ _ hDc.1, hDc.2⟩), ⟨o0, rfl, h0⟩, ?_, ?_⟩
  · rintro i vals ⟨t, x, hx, rfl⟩
    refine ⟨_, _, rfl, ?_⟩
    rw [List.getElem?_toArray] at hx
    obtain ⟨n, t', hv, hn⟩ := IntsAre.at hw i x hx
    exact ⟨n, t', t, hn, rfl, hv⟩
  · intro hm
    rcases List.mem_cons.mp hm with e | hm
    · exact Nat.ne_of_lt (Nat.lt_succ_of_lt hLs) e
    · rcases List.mem_cons.mp hm with e | hm
      · exact Nat.ne_of_lt hLs e
      · exact (N _ (List.Mem.head _)).2.1 (List.mem_singleton.mp hm).symm
  · intro b hb
    rcases List.mem_cons.mp hb with e | hb
    · rw [e]; exact fresh _ (Nat.le_succ _)
    · rw [List.mem_singleton.mp hb]; exact fresh _ (Nat.le_refl _)
  · intro p hp hm
    have hlt : Dc < s.heap.objs.size := Heap.lt_size hDc.1
    rw [List.mem_singleton.mp hp] at hm
    rcases List.mem_cons.mp hm with e | hm
    · exact Nat.ne_of_lt (Nat.lt_succ_of_lt hlt) e
    · exact Nat.ne_of_lt hlt (List.mem_singleton.mp hm)
  · rintro i v0 v1 m₁ news₁ s₁ own ⟨h1, tk1, rfl⟩ hin ⟨n, t, t', hn, rfl, rfl⟩ ⟨o₁, rfl, hJ⟩ _ hown F₁ N₁
    have hlt : Dc < s.heap.objs.size := Heap.lt_size hDc.1
    have hoff : ∀ p ∈ own, p.1 ≠ Dc := fun p hp q => by
      have hm := hown p hp
      rw [q] at hm
      rcases List.mem_cons.mp hm with e | hm
      · exact Nat.ne_of_lt (Nat.lt_succ_of_lt hlt) e
      · rcases List.mem_cons.mp hm with e | hm
        · exact Nat.ne_of_lt hlt e
        · exact hne' (List.mem_singleton.mp hm)
    have N₂ : News h₀ env.locals h1 ((Dc, o₁) :: own) := fun p hp => N₁ p (by
      rcases List.mem_cons.mp hp with rfl | hp
      · exact List.mem_append_right _ (.head _)
      · exact List.mem_append_left _ hp)
    refine wpAny_mono (turn i n t t' m₁ o₁ h1 tk1 own hn hJ hoff F₁ N₂) (fun f s₂ hf => ?_) fun _ _ e => e
    obtain ⟨rfl, h', tk, m₂, o₂, rfl, F', N', hJ'⟩ := hf
    exact ⟨rfl, h', tk, m₂, [(Dc, o₂)], rfl, F', fun p hp => N' p (by
      rcases List.mem_append.mp hp with hp | hp
      · exact .tail _ hp
      · rw [List.mem_singleton.mp hp]; exact .head _), rfl, o₂, rfl, hJ'⟩
  · rintro h' tk m' news' F' N' _ ⟨o', rfl, hJ⟩
    refine done h' tk m' o' F' N' ?_
    have : ws.toArray.size = ks.length := by rw [List.size_toArray]; exact hw.length
    rw [← this]; exact hJ
end
end Mine
end
section
namespace Mine
open PySem.Calls PySem.Spec LCg
section
variable {prog : Program} {w : World} {A : Around} {s : Shared} {R : Result → Shared → Prop}
theorem g_loop {elt target iter : Expr} {ifs : List Expr} {scope : Scope} {pos : Pos} {it acc : Value} {env : Env} (I : Nat → Shared → Prop)
    (turn : ∀ n s, I n s → wpAny (model prog w) A (pyNext it) (fun r s₁ => match r with
      | none => R (.ok .next) s₁
      | some v => wpAny (model prog w) A (letOwnedTupleGo target it v) (fun _ s₀ => wpAny (model prog w) A (assign target env v) (fun _ s₂ =>
          wpAny (model prog w) A (forIn ifs true fun c r => if r = true then do let ok ← isTrue c env (eval c env); pure (ForInStep.yield ok) else pure (ForInStep.yield r)) (fun ok s₃ =>
            if ok = true then wpAny (model prog w) A (eval elt env) (fun x s₄ =>
              wpAny (model prog w) A (call (.builtin "list.append") [acc, x]) (fun _ s₅ => ∃ m, m < n ∧ I m s₅) (notedBy (model prog w) A env fun e s' => R (.error e) s') s₄) (notedBy (model prog w) A env fun e s' => R (.error e) s') s₃
            else ∃ m, m < n ∧ I m s₃) (notedBy (model prog w) A env fun e s' => R (.error e) s') s₂) (notedBy (model prog w) A env fun e s' => R (.error e) s') s₀) (notedBy (model prog w) A env fun e s' => R (.error e) s') s₁) (notedBy (model prog w) A env fun e s' => R (.error e) s') s)
    (n : Nat) (h : I n s) : codeAny (model prog w) A (.compLoop (.ListComp elt [⟨target, iter, ifs, 0⟩] scope pos) 0 it acc env) R s := by
  refine codeAny_loop rfl I (fun n s hI => ?_) n h
  show wpAny _ A ((compTurn (.ListComp elt [⟨target, iter, ifs, 0⟩] scope pos) 0 it acc env).onRaise (fun x => do noteFrame x env; theTreesLotGoes x)) _ _ s
  refine wpAny_noted ?_
  rw [compTurn_list]
  refine wpAny_bind (wpAny_standAt (wpAny_bind (wpAny_mono (turn n s hI) (fun r s₁ h₁ => ?_) fun _ _ h' => h')))
  cases r with
  | none => exact wpAny_pure h₁
  | some v =>
    refine wpAny_bind (wpAny_mono h₁ (fun _ s₀ h₀' => ?_) fun _ _ h' => h')
    refine wpAny_bind (wpAny_mono h₀' (fun _ s₂ h₂ => wpAny_bind (wpAny_mono h₂ (fun ok s₃ h₃ => ?_) fun _ _ h' => h')) fun _ _ h' => h')
    cases ok with
    | false => exact wpAny_pure ⟨rfl, h₃⟩
    | true =>
      exact wpAny_bind (wpAny_bind (wpAny_mono h₃ (fun x s₄ h₄ => wpAny_bind (wpAny_mono h₄ (fun _ s₅ h₅ => wpAny_pure (wpAny_pure ⟨rfl, h₅⟩)) fun _ _ h' => h')) fun _ _ h' => h'))

/- How a turn of a comprehension ends: the new objects `nw` join what the results stand on. -/
noncomputable def GEnd (s : Shared) (h₀ : Heap) (L : Addr) (m : Str → Option Value) (I D : Addr) (own : List Addr) (base : List (Addr × Obj)) (acc : List (Addr × Obj)) (Gn : Value → List (Addr × Obj) → Prop) (y : Value) (s₂ : Shared) : Prop :=
  ∃ h' tk nw, s₂ = { s with heap := h', toks := tk } ∧ Fr h₀ L h' m ∧ News h₀ L h' (base ++ (nw ++ acc)) ∧ (∀ p ∈ nw, p.1 ≠ I ∧ p.1 ≠ D ∧ p.1 ∉ own) ∧ Gn y (nw ++ acc)
variable {h₀ : Heap} {L : Addr} {m : Str → Option Value} {news : List (Addr × Obj)}
theorem g_comp {elt target iter : Expr} {ifs : List Expr} {scope : Scope} {pos : Pos} {cenv : Env} {I D : Addr} {fb own : List Addr} {n : Nat} {P : Nat → Value → Prop} {St : Nat → Heap → Prop}
    (W : Walks prog w A I (I :: fb) [I] n P St) (hsz : n ≤ sizeLine) (hIo : ∀ i h, St i h → ∃ o, h.get? I = some o) (hfb : ∀ b ∈ fb, (∃ o, h₀.get? b = some o) ∨ ∃ o, (b, o) ∈ news)
    (hID : I ≠ D) (hIo' : I ∉ own) (hDo : D ∉ own) (hLI : L ≠ I) (hLD : L ≠ D) (hLo : L ∉ own) (hI0 : h₀.get? I = none) (hD0 : h₀.get? D = none) (ho0 : ∀ b ∈ own, h₀.get? b = none) (hnews : ∀ p ∈ news, p.1 ≠ I ∧ p.1 ≠ D ∧ p.1 ∉ own)
    (Ok : List (Addr × Obj) → Prop) (B : Nat → Value → List (Addr × Obj) → Prop) (hB : ∀ i v cs, B i v cs → Ok cs)
    (bindS : ∀ i v cs h tk (Q : Unit → Shared → Prop) (E' : Value → Shared → Prop), i < n → P i v → cs.map (·.1) = own → Ok cs → (∀ p ∈ cs, h.get? p.1 = some p.2) → (∃ o, h.get? I = some o) → St (i + 1) h → Fr h₀ L h m → News h₀ L h news →
      (∀ h' tk' cs', cs'.map (·.1) = own → B i v cs' → (∀ p ∈ cs', h'.get? p.1 = some p.2) → (∀ b o, b ∉ own → h.get? b = some o → h'.get? b = some o) → Q () { s with heap := h', toks := tk' }) →
      wpAny (model prog w) A (letOwnedTupleGo target (.ref I) v) (fun _ s₀ => wpAny (model prog w) A (assign target cenv v) Q E' s₀) E' { s with heap := h, toks := tk })
    (G : Nat → List Value → List (Addr × Obj) → Prop)
    (turn : ∀ i v ys acc oI cs h tk (E' : Value → Shared → Prop), i < n → P i v → G i ys acc → ys.length ≤ i → cs.map (·.1) = own → B i v cs → Fr h₀ L h m → News h₀ L h ((cs ++ ((I, oI) :: (D, lst ys) :: news)) ++ acc) → (∀ p ∈ acc, p.1 ≠ I ∧ p.1 ≠ D ∧ p.1 ∉ own) →
      wpAny (model prog w) A (forIn ifs true fun c r => if r = true then do let ok ← isTrue c cenv (eval c cenv); pure (ForInStep.yield ok) else pure (ForInStep.yield r)) (fun ok s' => if ok = true then
        wpAny (model prog w) A (eval elt cenv) (GEnd s h₀ L m I D own (cs ++ ((I, oI) :: (D, lst ys) :: news)) acc (fun y acc' => G (i + 1) (ys ++ [y]) acc')) E' s'
        else GEnd s h₀ L m I D own (cs ++ ((I, oI) :: (D, lst ys) :: news)) acc (fun _ acc' => G (i + 1) ys acc') Value.none s') E' { s with heap := h, toks := tk })
    (done : ∀ h tk cs ys acc, G n ys acc → Ok cs → cs.map (·.1) = own → Fr h₀ L h m → News h₀ L h (cs ++ ((D, lst ys) :: news ++ acc)) → (∀ p ∈ acc, p.1 ≠ I ∧ p.1 ≠ D ∧ p.1 ∉ own) → R (.ok .next) { s with heap := h, toks := tk })
    {cs₀ : List (Addr × Obj)} {h1 : Heap} {tk1 : Nat} (hcs : cs₀.map (·.1) = own) (hok : Ok cs₀) (hst : St 0 h1) (F : Fr h₀ L h1 m) (N : News h₀ L h1 (cs₀ ++ ((D, lst []) :: news))) (g0 : G 0 [] []) :
    codeAny (model prog w) A (.compLoop (.ListComp elt [⟨target, iter, ifs, 0⟩] scope pos) 0 (.ref I) (.ref D) cenv) R { s with heap := h1, toks := tk1 } := by
  refine g_loop (fun k s' => ∃ h' tk i ys acc cs, s' = { s with heap := h', toks := tk } ∧ i ≤ n ∧ k = n + 1 - i ∧ ys.length ≤ i ∧ St i h' ∧ Ok cs ∧ cs.map (·.1) = own ∧ Fr h₀ L h' m ∧ News h₀ L h' (cs ++ ((D, lst ys) :: (news ++ acc))) ∧
      (∀ p ∈ acc, p.1 ≠ I ∧ p.1 ≠ D ∧ p.1 ∉ own) ∧ G i ys acc) ?_ (n + 1)
    ⟨h1, tk1, 0, [], [], cs₀, rfl, Nat.zero_le _, rfl, Nat.le_refl _, hst, hok, hcs, F, by simpa using N, (fun p hp => nomatch hp), g0⟩
  rintro k s' ⟨h', tk, i, ys, acc, cs, rfl, hi, rfl, hyl, hst', hok', hcs', F', N', hacc, hG⟩
  have own_ne : ∀ {cs' : List (Addr × Obj)}, cs'.map (·.1) = own → ∀ p ∈ cs', p.1 ∈ own := fun e p hp => e ▸ List.mem_map_of_mem hp
  by_cases hlt : i < n
  · refine W.item i _ _ _ hlt hst' fun v h₂ tk₂ hPv hst₂ hk₂ => ?_
    have up2 : ∀ b o, b ≠ I → h'.get? b = some o → h₂.get? b = some o := fun b o hb e => hk₂ b o (by simpa using hb) e
    have F₂ : Fr h₀ L h₂ m := ⟨F'.ns.at' fun o e => up2 _ o hLI e, fun b o e => up2 b o (fun q => by rw [q, hI0] at e; cases e) (F'.keep b o e), F'.above⟩
    have N₂ : News h₀ L h₂ (cs ++ ((D, lst ys) :: (news ++ acc))) := fun p hp => by
      refine ⟨up2 _ _ ?_ (N' p hp).1, (N' p hp).2⟩
      rcases List.mem_append.mp hp with hp | hp
      · exact fun q => hIo' (q ▸ own_ne hcs' p hp)
      · rcases List.mem_cons.mp hp with rfl | hp
        · exact Ne.symm hID
        · rcases List.mem_append.mp hp with hp | hp
          · exact (hnews p hp).1
          · exact (hacc p hp).1
    obtain ⟨oI2, hoI2⟩ := hIo _ _ hst₂
    refine bindS i v cs h₂ _ _ _ hlt hPv hcs' hok' (fun p hp => (N₂ p (List.mem_append_left _ hp)).1) ⟨oI2, hoI2⟩ hst₂ F₂ (fun p hp => N₂ p (List.mem_append_right _ (.tail _ (List.mem_append_left _ hp)))) fun h₃ tk₃ cs₃ hcs₃ hB₃ hget₃ up3 => ?_
    have F₃ : Fr h₀ L h₃ m := ⟨F₂.ns.at' fun o e => up3 _ o hLo e, fun b o e => up3 b o (fun q => by rw [ho0 b q] at e; cases e) (F₂.keep b o e), F₂.above⟩
    have hoI3 : h₃.get? I = some oI2 := up3 _ _ hIo' hoI2
    have keepfb : ∀ {ha hb : Heap}, (∀ b ∈ fb, ∀ o, ha.get? b = some o → hb.get? b = some o) → ha.get? I = some oI2 → hb.get? I = some oI2 → St (i + 1) ha → St (i + 1) hb := fun kf e1 e2 st => W.frame _ _ _ st fun b hb o e => by
      rcases List.mem_cons.mp hb with rfl | hb
      · rw [e1] at e; cases e; exact e2
      · exact kf b hb o e
    have fbIn : ∀ b ∈ fb, ∀ {hx : Heap}, Fr h₀ L hx m → News h₀ L hx news → ∃ o, hx.get? b = some o ∧ ∀ {hy : Heap}, Fr h₀ L hy m → News h₀ L hy news → hy.get? b = some o := fun b hb hx Fx Nx => by
      rcases hfb b hb with ⟨o, ho⟩ | ⟨o, ho⟩
      · exact ⟨o, Fx.keep _ _ ho, fun Fy _ => Fy.keep _ _ ho⟩
      · exact ⟨o, (Nx _ ho).1, fun _ Ny => (Ny _ ho).1⟩
    have N₃ : News h₀ L h₃ ((cs₃ ++ ((I, oI2) :: (D, lst ys) :: news)) ++ acc) := fun p hp => by
      rcases List.mem_append.mp hp with hp | hp
      · rcases List.mem_append.mp hp with hp | hp
        · have z := own_ne hcs₃ p hp
          exact ⟨hget₃ p hp, fun q => hLo (q ▸ z), ho0 _ z⟩
        · rcases List.mem_cons.mp hp with rfl | hp
          · exact ⟨hoI3, Ne.symm hLI, hI0⟩
          · rcases List.mem_cons.mp hp with rfl | hp
            · have z := N₂ (D, lst ys) (List.mem_append_right _ (.head _))
              exact ⟨up3 _ _ hDo z.1, z.2⟩
            · have z := N₂ p (List.mem_append_right _ (.tail _ (List.mem_append_left _ hp)))
              exact ⟨up3 _ _ (hnews p hp).2.2 z.1, z.2⟩
      · have z := N₂ p (List.mem_append_right _ (.tail _ (List.mem_append_right _ hp)))
        exact ⟨up3 _ _ (hacc p hp).2.2 z.1, z.2⟩
    have nwOf : ∀ {hx : Heap} {l : List (Addr × Obj)}, News h₀ L hx ((cs₃ ++ ((I, oI2) :: (D, lst ys) :: news)) ++ l) → News h₀ L hx news := fun Nx p hp => Nx p (List.mem_append_left _ (List.mem_append_right _ (.tail _ (.tail _ hp))))
    have hst₃ : St (i + 1) h₃ := keepfb (fun b hb o e => by
      obtain ⟨o', e1, e2⟩ := fbIn b hb F₂ (fun p hp => N₂ p (List.mem_append_right _ (.tail _ (List.mem_append_left _ hp))))
      rw [e1] at e; cases e; exact e2 F₃ (nwOf N₃)) hoI2 hoI3 hst₂
    refine wpAny_mono (turn i v ys acc oI2 cs₃ h₃ tk₃ _ hlt hPv hG hyl hcs₃ hB₃ F₃ N₃ hacc) (fun ok s₄ h₄ => ?_) fun _ _ e => e
    cases ok with
    | false =>
      simp only [Bool.false_eq_true, if_false] at h₄ ⊢
      obtain ⟨h₄, tk₄, nw, rfl, F₄, N₄, off, hG'⟩ := h₄
      have zI := (N₄ (I, oI2) (List.mem_append_left _ (List.mem_append_right _ (.head _)))).1
      refine ⟨n + 1 - (i + 1), by lia, h₄, tk₄, i + 1, ys, nw ++ acc, cs₃, rfl, hlt, rfl, Nat.le_succ_of_le hyl, ?_, hB _ _ _ hB₃, hcs₃, F₄, fun p hp => N₄ p ?_, fun p hp => ?_, hG'⟩
      · exact keepfb (fun b hb o e => by
          obtain ⟨o', e1, e2⟩ := fbIn b hb F₃ (nwOf N₃)
          rw [e1] at e; cases e; exact e2 F₄ (nwOf N₄)) hoI3 zI hst₃
      · rcases List.mem_append.mp hp with hp | hp
        · exact List.mem_append_left _ (List.mem_append_left _ hp)
        · rcases List.mem_cons.mp hp with rfl | hp
          · exact List.mem_append_left _ (List.mem_append_right _ (.tail _ (.head _)))
          · rcases List.mem_append.mp hp with hp | hp
            · exact List.mem_append_left _ (List.mem_append_right _ (.tail _ (.tail _ hp)))
            · exact List.mem_append_right _ hp
      · rcases List.mem_append.mp hp with hp | hp
        · exact off p hp
        · exact hacc p hp
    | true =>
      simp only [if_true] at h₄ ⊢
      refine wpAny_mono h₄ (fun y s₅ h₅ => ?_) fun _ _ e => e
      obtain ⟨h₄, tk₄, nw, rfl, F₄, N₄, off, hG'⟩ := h₅
      have zI := (N₄ (I, oI2) (List.mem_append_left _ (List.mem_append_right _ (.head _)))).1
      have zD := (N₄ (D, lst ys) (List.mem_append_left _ (List.mem_append_right _ (.tail _ (.head _))))).1
      have hst₄ : St (i + 1) h₄ := keepfb (fun b hb o e => by
          obtain ⟨o', e1, e2⟩ := fbIn b hb F₃ (nwOf N₃)
          rw [e1] at e; cases e; exact e2 F₄ (nwOf N₄)) hoI3 zI hst₃
      refine append_at (hsz := by show ys.toArray.size ≤ sizeLine; rw [List.size_toArray]; exact Nat.le_trans (Nat.le_trans hyl hi) hsz) zD fun h₅ hs₅ hD₅ => ?_
      have up5 : ∀ b o, b ≠ D → h₄.get? b = some o → h₅.get? b = some o := fun b o hb e => hs₅.extBut b o hb e
      have F₅ : Fr h₀ L h₅ m := F₄.change hs₅ (Ne.symm hLD) hD0
      have N₅ : News h₀ L h₅ (cs₃ ++ ((D, lst (ys ++ [y])) :: (news ++ (nw ++ acc)))) := fun p hp => by
        rcases List.mem_append.mp hp with hp | hp
        · have z := N₄ p (List.mem_append_left _ (List.mem_append_left _ hp))
          exact ⟨up5 _ _ (fun q => hDo (q ▸ own_ne hcs₃ p hp)) z.1, z.2⟩
        · rcases List.mem_cons.mp hp with rfl | hp
          · exact ⟨hD₅.trans (congrArg some (lst_snoc ys y)), Ne.symm hLD, hD0⟩
          · rcases List.mem_append.mp hp with hp | hp
            · have z := N₄ p (List.mem_append_left _ (List.mem_append_right _ (.tail _ (.tail _ hp))))
              exact ⟨up5 _ _ (hnews p hp).2.1 z.1, z.2⟩
            · have z := N₄ p (List.mem_append_right _ hp)
              refine ⟨up5 _ _ ?_ z.1, z.2⟩
              rcases List.mem_append.mp hp with hp | hp
              · exact (off p hp).2.1
              · exact (hacc p hp).2.1
      refine ⟨n + 1 - (i + 1), by lia, h₅, tk₄, i + 1, ys ++ [y], nw ++ acc, cs₃, rfl, hlt, rfl, by rw [List.length_append, List.length_singleton]; exact Nat.succ_le_succ hyl, ?_, hB _ _ _ hB₃, hcs₃, F₅, N₅, fun p hp => ?_, hG'⟩
      · exact keepfb (fun b hb o e => by
          obtain ⟨o', e1, e2⟩ := fbIn b hb F₄ (nwOf N₄)
          rw [e1] at e; cases e
          exact e2 F₅ (fun p hp => N₅ p (List.mem_append_right _ (.tail _ (List.mem_append_left _ hp))))) zI (up5 _ _ hID zI) hst₄
      · rcases List.mem_append.mp hp with hp | hp
        · exact off p hp
        · exact hacc p hp
  · obtain rfl : i = n := Nat.le_antisymm hi (Nat.not_lt.mp hlt)
    refine W.done _ _ _ hst' fun h₂ tk₂ hk₂ => ?_
    have up2 : ∀ b o, b ≠ I → h'.get? b = some o → h₂.get? b = some o := fun b o hb e => hk₂ b o (by simpa using hb) e
    have F₂ : Fr h₀ L h₂ m := ⟨F'.ns.at' fun o e => up2 _ o hLI e, fun b o e => up2 b o (fun q => by rw [q, hI0] at e; cases e) (F'.keep b o e), F'.above⟩
    refine done h₂ tk₂ cs ys acc hG hok' hcs' F₂ (fun p hp => ?_) hacc
    have hp' : p ∈ cs ++ ((D, lst ys) :: (news ++ acc)) := by simpa using hp
    refine ⟨up2 _ _ ?_ (N' p hp').1, (N' p hp').2⟩
    rcases List.mem_append.mp hp' with hp | hp
    · exact fun q => hIo' (q ▸ own_ne hcs' p hp)
    · rcases List.mem_cons.mp hp with rfl | hp
      · exact Ne.symm hID
      · rcases List.mem_append.mp hp with hp | hp
        · exact (hnews p hp).1
        · exact (hacc p hp).1
end
end Mine
end
section
namespace Mine
open PySem.Calls PySem.Spec LCg
noncomputable def Stop {α : Type} (P : α → Shared → Prop) : α → Shared → Prop := P
section
variable {M : Model} {A : Around} {E : Value → Shared → Prop} {s : Shared} {env : Env}
theorem comp_enter {elt target iter : Expr} {ifs : List Expr} {scope : Scope} {cl : List (Str × Addr)} {pos : Pos} {Q : Value → Shared → Prop}
    (hclos : closureFor scope env = pure cl) (hkind : scope.kind = .function) (hnames : ∀ y ∈ scope.names, y.2 = .local → scope.names.lookup y.1 = some .local)
    (h : wpAny M A (eval iter env) (Stop fun xv s₁ => wpAny M A (pyIter xv) (fun it s₂ => wpAny M A (newList []) (fun acc s₃ =>
      wpAny M A (newFunctionEnv scope env.globals cl [] env.qual none .none (some env)) (fun cenv s₄ =>
        codeAny M A (.compStart (.ListComp elt [⟨target, iter, ifs, 0⟩] scope pos) 0 it acc { cenv with scope := relabel scope env }) (compPost M A E none Q acc cenv.locals) s₄) E s₃) E s₂) E s₁) E s)
    (hs : ∀ x, foldedSetIterable iter env x = pure x := by intro _; rfl) :
    wpAny M A (eval (.ListComp elt [⟨target, iter, ifs, 0⟩] scope pos) env) Q E s := by
  rw [eval_ListComp]
  exact wpAny_comprehension_free (use := none) rfl hs hclos hkind hnames h
theorem comp_enterA {elt target iter : Expr} {ifs : List Expr} {scope : Scope} {cl : List (Str × Addr)} {pos spos py : Pos} {y : Str} {Q : Flow → Shared → Prop}
    (hsw : swapsWith (.ListComp elt [⟨target, iter, ifs, 0⟩] scope pos) (some (.Name y py)) spos.line env = pure true)
    (hclos : closureFor scope env = pure cl) (hkind : scope.kind = .function) (hnames : ∀ y ∈ scope.names, y.2 = .local → scope.names.lookup y.1 = some .local)
    (h : wpAny M A (eval iter env) (Stop fun xv s₁ => wpAny M A (pyIter xv) (fun it s₂ => wpAny M A (newList []) (fun acc s₃ =>
      wpAny M A (newFunctionEnv scope env.globals cl [] env.qual none .none (some env)) (fun cenv s₄ =>
        codeAny M A (.compStart (.ListComp elt [⟨target, iter, ifs, 0⟩] scope pos) 0 it acc { cenv with scope := relabel scope env }) (compPost M A E (some (assign (.Name y py) env)) (fun _ s' => Q .next s') acc cenv.locals) s₄) E s₃) E s₂) E s₁) E s)
    (hs : ∀ x, foldedSetIterable iter env x = pure x := by intro _; rfl) :
    wpAny M A (exec (.Assign [.Name y py] (.ListComp elt [⟨target, iter, ifs, 0⟩] scope pos) spos) env) Q E s := by
  rw [exec_Assign_Name_used _ _ _ _ hsw]
  refine wpAny_bind (wpAny_standAt (wpAny_bind ?_))
  show wpAny _ A (do let _ ← comprehension (.ListComp elt [⟨target, iter, ifs, 0⟩] scope pos) scope env _ (newList []) false (eval iter env) (some (assign (.Name y py) env))) _ _ s
  exact wpAny_bind (wpAny_mono (wpAny_comprehension_free (use := some (assign (.Name y py) env)) (Q := fun _ s' => Q .next s') rfl hs hclos hkind hnames h) (fun _ s' hq => wpAny_pure (wpAny_pure hq)) fun _ _ e => e)
noncomputable abbrev nsO : Obj := { cls := .type "dict", data := .dict #[] }
theorem nsO_obj : NsObj nsO (fun _ => none) := ⟨#[], 0, rfl, (fun e he => by simp at he), fun _ => rfl⟩
noncomputable abbrev cellO : Obj := { cls := .type "cell", data := .cell none }
theorem newEnv_cell {scope : Scope} {globals : Addr} {cl : List (Str × Addr)} {qual : Str} {Q : Env → Shared → Prop} {a q : Str} {rest : List (Str × NameKind)} (hn : scope.names = (a, .local) :: (q, .cell) :: rest) (hr : ∀ x ∈ rest, x.2 ≠ .cell)
    (h : Q { scope, locals := s.heap.objs.size, globals, cells := (q, s.heap.objs.size + 1) :: cl, qual, func := none, code := env.code, frame := env.frame, builtins := env.builtins } { s with heap := (s.heap.push nsO).push cellO }) :
    wpAny M A (newFunctionEnv scope globals cl [] qual none .none (some env)) Q E s := by
  simp only [newFunctionEnv, Option.isSome_some, if_true]
  refine wpAny_bind (wpAny_alloc ?_)
  rw [hn, List.forIn_cons]
  refine wpAny_bind (wpAny_bind (wpAny_pure ?_))
  show wpAny M A (forIn ((q, NameKind.cell) :: rest) cl _) _ _ _
  rw [List.forIn_cons]
  refine wpAny_bind (wpAny_bind ?_)
  show wpAny M A (alloc _ >>= _) _ _ _
  refine wpAny_bind (wpAny_alloc (wpAny_pure ?_))
  refine wpAny_pure ?_
  show wpAny M A (forIn rest _ _) _ _ _
  rw [forIn_yield_id _ (fun x hx c => by
    obtain ⟨name, kind⟩ := x
    have : (kind == NameKind.cell) = false := by simpa using hr _ hx
    simp only [this, Bool.false_eq_true, if_false])]
  refine wpAny_pure (wpAny_bind (wpAny_pure (wpAny_pure ?_)))
  have hz : (s.heap.push nsO).objs.size = s.heap.objs.size + 1 := Heap.size_push ..
  have h' := h
  rw [← hz] at h'
  exact h'
end
end Mine
end
section
namespace Mine
open PySem.Calls PySem.Spec LCg
noncomputable def ItO (o : Obj) : Prop := o.cls = .type "list_iterator" ∨ o.cls = .type "range_iterator"
/- What a comprehension goes along. -/
noncomputable def Src (prog : Program) (w : World) (A : Around) (h₀ : Heap) (L : Addr) (m : Str → Option Value) (news : List (Addr × Obj)) (s : Shared) (xv : Value) (n : Nat) (P : Nat → Value → Prop) : Prop :=
  n ≤ sizeLine ∧ Fr h₀ L s.heap m ∧ News h₀ L s.heap news ∧
  ∀ (Q E : Value → Shared → Prop), (∀ I h' oI St fb, s.heap.get? I = none → h'.get? I = some oI → (∀ b o, s.heap.get? b = some o → h'.get? b = some o) → s.heap.objs.size ≤ h'.objs.size → Walks prog w A I (I :: fb) [I] n P St →
    (∀ i h, St i h → ∃ o, h.get? I = some o ∧ ItO o) → (∀ b ∈ fb, (∃ o, h₀.get? b = some o) ∨ ∃ o, (b, o) ∈ news) → (∀ b ∈ fb, ∃ o, s.heap.get? b = some o) → St 0 h' → Q (.ref I) { s with heap := h' }) → wpAny (model prog w) A (pyIter xv) Q E s
section
variable {prog : Program} {w : World} {A : Around} {E : Value → Shared → Prop} {s : Shared} {h₀ : Heap} {L : Addr} {m : Str → Option Value} {env : Env} {news : List (Addr × Obj)}
theorem src_list {l : Addr} {o : Obj} {vs : List Value} {c : Nat} (hh : A.handled = none) (hsz : vs.length ≤ sizeLine) (F : Fr h₀ L s.heap m) (N : News h₀ L s.heap news) (hm : (l, o) ∈ news) (hc : o.cls = .type "list") (hd : o.data = .seq vs.toArray c) :
    Src prog w A h₀ L m news s (.ref l) vs.length (fun i v => vs[i]? = some v) := by
  refine ⟨hsz, F, N, fun Q E h => ?_⟩
  have e := (N _ hm).1
  have hl : s.heap.IsList l vs.toArray := ⟨o, e, hc, _, hd⟩
  have hlt : l < s.heap.objs.size := Heap.lt_size e
  refine wpAny_pyIter_list hl ?_
  refine h s.heap.objs.size _ _ (fun i h => h.IsListIter s.heap.objs.size l i ∧ h.IsList l vs.toArray) [l] (Heap.get?_none_of_le (Nat.le_refl _)) (Heap.get?_push_size _ rfl) (fun _ _ e => Heap.get?_push_of_some _ e) (by show _ ≤ (s.heap.push _).objs.size; rw [Heap.size_push]; lia) ?_ (fun i h st => by obtain ⟨⟨o, e, a, _⟩, _⟩ := st; exact ⟨o, e, .inl a⟩) (fun b hb => .inr ⟨o, by rw [List.mem_singleton.mp hb]; exact hm⟩) (fun b hb => ⟨o, by rw [List.mem_singleton.mp hb]; exact e⟩) ⟨⟨_, Heap.get?_push_size _ rfl, rfl, rfl⟩, hl.push _⟩
  have W := Walks.list (prog := prog) (w := w) hh s.heap.objs.size l (Nat.ne_of_lt hlt) vs.toArray
  simpa using W
theorem src_range {r : Addr} {a b : Int} {t u v : Tok} {n : Nat} (hh : A.handled = none) (hsz : n ≤ sizeLine) (F : Fr h₀ L s.heap m) (N : News h₀ L s.heap news) (hr : IsRange s.heap r a b 1 t u v) (hsm : Builtin.Range.small a b 1 = true) (hn : Builtin.Range.rangeSize a b 1 = ((n : Nat) : Int)) :
    Src prog w A h₀ L m news s (.ref r) n (fun i v => ∃ t, v = .int (a + (i : Int)) t) := by
  refine ⟨hsz, F, N, fun Q E h => ?_⟩
  refine wpAny_pyIter_range hr hsm ?_
  refine h s.heap.objs.size _ _ (fun i h => IsRangeIter h s.heap.objs.size (a + (i : Nat) * 1) ((n : Int) - (i : Nat)) 1) [] (Heap.get?_none_of_le (Nat.le_refl _)) (Heap.get?_push_size _ rfl) (fun _ _ e => Heap.get?_push_of_some _ e) (by show _ ≤ (s.heap.push _).objs.size; rw [Heap.size_push]; lia) (range_walks hh a n) (fun i h st => ⟨_, st, .inr rfl⟩) (fun b hb => nomatch hb) (fun b hb => nomatch hb) ?_
  show IsRangeIter _ _ _ _ _
  rw [hn]
  simpa using Heap.get?_push_size _ rfl

theorem comp_go {elt target iter : Expr} {ifs : List Expr} {scope : Scope} {pos : Pos} {cenv : Env} {R : Result → Shared → Prop} {I D : Addr} {fb own : List Addr} {n : Nat} {P : Nat → Value → Prop} {St : Nat → Heap → Prop}
    (W : Walks prog w A I (I :: fb) [I] n P St) (hsz : n ≤ sizeLine) (hIo : ∀ i h, St i h → ∃ o, h.get? I = some o ∧ ItO o) (hfb : ∀ b ∈ fb, (∃ o, h₀.get? b = some o) ∨ ∃ o, (b, o) ∈ news)
    (F : Fr h₀ L s.heap m) (N : News h₀ L s.heap news) (hI : I < s.heap.objs.size) (hIn : ∀ p ∈ news, p.1 ≠ I) (hLI : L ≠ I) (hI0 : h₀.get? I = none)
    (hD : D = s.heap.objs.size) (hown : ∀ b ∈ own, D < b)
    {h1 : Heap} {tk1 : Nat} (k1 : ∀ b o, s.heap.get? b = some o → h1.get? b = some o) (hD1 : h1.get? D = some (lst [])) (hst : St 0 h1)
    (Ok : List (Addr × Obj) → Prop) (B : Nat → Value → List (Addr × Obj) → Prop) (hB : ∀ i v cs, B i v cs → Ok cs)
    (bindS : ∀ i v cs h tk (Q : Unit → Shared → Prop) (E' : Value → Shared → Prop), i < n → P i v → cs.map (·.1) = own → Ok cs → (∀ p ∈ cs, h.get? p.1 = some p.2) → (∃ o, h.get? I = some o) → St (i + 1) h → Fr h₀ L h m → News h₀ L h news →
      (∀ h' tk' cs', cs'.map (·.1) = own → B i v cs' → (∀ p ∈ cs', h'.get? p.1 = some p.2) → (∀ b o, b ∉ own → h.get? b = some o → h'.get? b = some o) → Q () { s with heap := h', toks := tk' }) →
      wpAny (model prog w) A (letOwnedTupleGo target (.ref I) v) (fun _ s₀ => wpAny (model prog w) A (assign target cenv v) Q E' s₀) E' { s with heap := h, toks := tk })
    (G : Nat → List Value → List (Addr × Obj) → Prop)
    (turn : ∀ i v ys acc oI cs h tk (E' : Value → Shared → Prop), i < n → P i v → G i ys acc → ys.length ≤ i → cs.map (·.1) = own → B i v cs → Fr h₀ L h m → News h₀ L h ((cs ++ ((I, oI) :: (D, lst ys) :: news)) ++ acc) → (∀ p ∈ acc, p.1 ≠ I ∧ p.1 ≠ D ∧ p.1 ∉ own) →
      wpAny (model prog w) A (forIn ifs true fun c r => if r = true then do let ok ← isTrue c cenv (eval c cenv); pure (ForInStep.yield ok) else pure (ForInStep.yield r)) (fun ok s' => if ok = true then
        wpAny (model prog w) A (eval elt cenv) (GEnd s h₀ L m I D own (cs ++ ((I, oI) :: (D, lst ys) :: news)) acc (fun y acc' => G (i + 1) (ys ++ [y]) acc')) E' s'
        else GEnd s h₀ L m I D own (cs ++ ((I, oI) :: (D, lst ys) :: news)) acc (fun _ acc' => G (i + 1) ys acc') Value.none s') E' { s with heap := h, toks := tk })
    (done : ∀ h tk cs ys acc, G n ys acc → Ok cs → cs.map (·.1) = own → Fr h₀ L h m → News h₀ L h (cs ++ ((D, lst ys) :: news ++ acc)) → (∀ p ∈ acc, p.1 ≠ I ∧ p.1 ≠ D ∧ p.1 ∉ own) → R (.ok .next) { s with heap := h, toks := tk })
    {cs₀ : List (Addr × Obj)} (hcs : cs₀.map (·.1) = own) (hok : Ok cs₀) (hcs1 : ∀ p ∈ cs₀, h1.get? p.1 = some p.2) (g0 : G 0 [] []) :
    codeAny (model prog w) A (.compStart (.ListComp elt [⟨target, iter, ifs, 0⟩] scope pos) 0 (.ref I) (.ref D) cenv) R { s with heap := h1, toks := tk1 } := by
  have lt0 : ∀ {a : Addr}, s.heap.objs.size ≤ a → h₀.get? a = none := fun {a} ha => by
    cases e : h₀.get? a with
    | none => rfl
    | some o' => exact absurd (Heap.lt_size (F.keep a o' e)) (Nat.not_lt.mpr ha)
  have big : ∀ b ∈ own, s.heap.objs.size < b := fun b hb => hD ▸ hown b hb
  have loop := g_comp (elt := elt) (target := target) (iter := iter) (ifs := ifs) (scope := scope) (pos := pos) (s := s) (R := R) W hsz (fun i h st => by obtain ⟨o, e, _⟩ := hIo i h st; exact ⟨o, e⟩) hfb (hD ▸ Nat.ne_of_lt hI) (fun z => Nat.lt_irrefl _ (Nat.lt_trans hI (big _ z))) (fun z => Nat.lt_irrefl _ (hown _ z)) hLI (hD ▸ Nat.ne_of_lt F.ns.lt) (fun z => Nat.lt_irrefl _ (Nat.lt_trans F.ns.lt (big _ z))) hI0 (lt0 (Nat.le_of_eq hD.symm)) (fun b hb => lt0 (Nat.le_of_lt (big b hb)))
    (fun p hp => ⟨hIn p hp, by rw [hD]; exact Nat.ne_of_lt (Heap.lt_size (N p hp).1), fun z => Nat.lt_irrefl _ (Nat.lt_trans (Heap.lt_size (N p hp).1) (big _ z))⟩) Ok B hB bindS G turn done (tk1 := tk1) hcs hok hst (F.keeps k1) (fun p hp => ?_) g0
  · exact codeAny_compStart_list loop (W.self _ _ _ _ hst loop)
  · rcases List.mem_append.mp hp with hp | hp
    · have z : p.1 ∈ own := hcs ▸ List.mem_map_of_mem hp
      exact ⟨hcs1 p hp, fun q => by have := big _ z; rw [q] at this; exact Nat.lt_irrefl _ (Nat.lt_trans F.ns.lt this), lt0 (Nat.le_of_lt (big _ z))⟩
    · rcases List.mem_cons.mp hp with rfl | hp
      · exact ⟨hD1, fun q => by have := F.ns.lt; rw [← q, hD] at this; exact Nat.lt_irrefl _ this, lt0 (Nat.le_of_eq hD.symm)⟩
      · exact ⟨k1 _ _ (N p hp).1, (N p hp).2⟩

/- A comprehension whose scope has no cell of its own. -/
theorem comp_free {elt target iter : Expr} {ifs : List Expr} {scope : Scope} {cl : List (Str × Addr)} {pos : Pos} {xv : Value} {n : Nat} {P : Nat → Value → Prop} {use : Option (Value → Sem Unit)} {Q : Value → Shared → Prop}
    (hcell : ∀ y ∈ scope.names, y.2 ≠ .cell) (hkind : scope.kind = .function) (S : Src prog w A h₀ L m news s xv n P)
    (Bv : Nat → Value → (Str → Option Value) → Prop)
    (bindS : ∀ C I i v h tk m₂ (Q : Unit → Shared → Prop) (E' : Value → Shared → Prop), i < n → P i v → h.Ns C m₂ → (∃ o, h.get? I = some o ∧ ItO o) → News h₀ L h news →
      (∀ h' tk' m₃, h'.Ns C m₃ → Bv i v m₃ → (∀ b o, b ≠ C → h.get? b = some o → h'.get? b = some o) → Q () { s with heap := h', toks := tk' }) →
      wpAny (model prog w) A (letOwnedTupleGo target (.ref I) v) (fun _ s₀ => wpAny (model prog w) A (assign target (compEnvC scope cl C env) v) Q E' s₀) E' { s with heap := h, toks := tk })
    (G : Nat → List Value → List (Addr × Obj) → Prop) (g0 : G 0 [] [])
    (turn : ∀ C I D i v ys acc oI oC m₂ h tk (E' : Value → Shared → Prop), i < n → P i v → G i ys acc → NsObj oC m₂ → Bv i v m₂ → Fr h₀ L h m → News h₀ L h ((C, oC) :: (I, oI) :: (D, lst ys) :: (news ++ acc)) → (∀ p ∈ acc, p.1 ≠ I ∧ p.1 ≠ D ∧ p.1 ∉ [C]) →
      wpAny (model prog w) A (forIn ifs true fun c r => if r = true then do let ok ← isTrue c (compEnvC scope cl C env) (eval c (compEnvC scope cl C env)); pure (ForInStep.yield ok) else pure (ForInStep.yield r)) (fun ok s' => if ok = true then
        wpAny (model prog w) A (eval elt (compEnvC scope cl C env)) (GEnd s h₀ L m I D [C] ((C, oC) :: (I, oI) :: (D, lst ys) :: news) acc (fun y acc' => G (i + 1) (ys ++ [y]) acc')) E' s'
        else GEnd s h₀ L m I D [C] ((C, oC) :: (I, oI) :: (D, lst ys) :: news) acc (fun _ acc' => G (i + 1) ys acc') Value.none s') E' { s with heap := h, toks := tk })
    (fin : ∀ C D h tk ys acc m', G n ys acc → Fr h₀ L h m → News h₀ L h ((D, lst ys) :: (news ++ acc)) → h.Ns C m' → L ≠ C → h₀.get? C = none → (∀ p ∈ (D, lst ys) :: (news ++ acc), p.1 ≠ C) → compPost (model prog w) A E use Q (.ref D) C (.ok .next) { s with heap := h, toks := tk }) :
    wpAny (model prog w) A (pyIter xv) (fun it s₂ => wpAny (model prog w) A (newList []) (fun acc s₃ =>
      wpAny (model prog w) A (newFunctionEnv scope env.globals cl [] env.qual none .none (some env)) (fun cenv s₄ =>
        codeAny (model prog w) A (.compStart (.ListComp elt [⟨target, iter, ifs, 0⟩] scope pos) 0 it acc { cenv with scope := relabel scope env }) (compPost (model prog w) A E use Q acc cenv.locals) s₄) E s₃) E s₂) E s := by
  obtain ⟨hsz, F, N, go⟩ := S
  refine go _ _ fun I h' oI St fb hI0 hI1 kI hsI W hIo hfb hfb' hst => ?_
  have hI0' : h₀.get? I = none := by
    cases e : h₀.get? I with
    | none => rfl
    | some o => rw [F.keep _ _ e] at hI0; cases hI0
  have hLI : L ≠ I := fun q => by obtain ⟨oL, _, _, hL, _⟩ := F.ns; rw [← q, hL] at hI0; cases hI0
  have hIn : ∀ p ∈ news, p.1 ≠ I := fun p hp q => by have := (N p hp).1; rw [q, hI0] at this; cases this
  refine wpAny_newObj_type (wpAny_newFunctionEnv hcell (by intro y hy; simp at hy) (fun h₁ hns₁ hsb₁ => ?_) hkind)
  dsimp only at hns₁ hsb₁ ⊢
  generalize hH2 : h'.push { cls := .type "list", dict := none, data := .seq ([] : List Value).toArray } = H2 at hns₁ hsb₁ ⊢
  have hC : H2.objs.size = h'.objs.size + 1 := by rw [← hH2, Heap.size_push]
  have old : ∀ b o, h'.get? b = some o → h₁.get? b = some o := fun b o e => hsb₁.extBut b o (by rw [hC]; exact Nat.ne_of_lt (Nat.lt_succ_of_lt (Heap.lt_size e))) (Heap.get?_push_of_some _ (hH2 ▸ Heap.get?_push_of_some _ e))
  have hacc : h₁.get? h'.objs.size = some (lst []) := hsb₁.extBut _ _ (by rw [hC]; exact Nat.ne_of_lt (Nat.lt_succ_self _)) (Heap.get?_push_of_some _ (hH2 ▸ Heap.get?_push_size _ rfl))
  obtain ⟨oC, hoC, hnC⟩ := ns_obj hns₁
  refine comp_go (s := { s with heap := h' }) (own := [H2.objs.size]) (cenv := compEnvC scope cl H2.objs.size env) W hsz hIo hfb (F.keeps kI) (fun p hp => ⟨kI _ _ (N p hp).1, (N p hp).2⟩) (Heap.lt_size hI1) hIn hLI hI0' rfl
    (fun b hb => by rw [List.mem_singleton.mp hb, hC]; exact Nat.lt_succ_self _) old hacc (W.frame 0 h' h₁ hst fun b hb o e => old _ _ e) (fun cs => ∃ C o m₂, cs = [(C, o)] ∧ NsObj o m₂) (fun i v cs => ∃ C o m₂, cs = [(C, o)] ∧ NsObj o m₂ ∧ Bv i v m₂)
    (fun i v cs ⟨C, o, m₂, e, a, _⟩ => ⟨C, o, m₂, e, a⟩) (fun i v cs h tk Q' E' hi hP hcs hok hat _ hst' F' N' hQ => ?_) G (fun i v ys acc oI cs h tk E' hi hP hG _ hcs hB F' N' hacc' => ?_) (fun h tk cs ys acc hG hok hcs F' N' hacc' => ?_)
    (cs₀ := [(H2.objs.size, oC)]) rfl ⟨_, _, _, rfl, hnC⟩ (fun p hp => by rw [List.mem_singleton.mp hp]; exact hoC) g0
  · obtain ⟨C, o, m₂, rfl, hn⟩ := hok
    have e : C = H2.objs.size := (List.cons.inj hcs).1
    subst e
    refine bindS _ I i v h tk m₂ Q' E' hi hP (hn.ns (hat (_, o) (.head _))) (hIo _ _ hst') N' fun h₂ tk₂ m₃ hn₃ hb₃ k₃ => ?_
    obtain ⟨o₃, e₃, n₃⟩ := ns_obj hn₃
    exact hQ h₂ tk₂ [(_, o₃)] rfl ⟨_, _, _, rfl, n₃, hb₃⟩ (fun p hp => by rw [List.mem_singleton.mp hp]; exact e₃) fun b o hb e => k₃ b o (fun q => hb (q ▸ .head _)) e
  · obtain ⟨C, o, m₂, rfl, hn, hb⟩ := hB
    have e : C = H2.objs.size := (List.cons.inj hcs).1
    subst e
    exact turn _ I _ i v ys acc oI o m₂ h tk E' hi hP hG hn hb F' (by simpa using N') hacc'
  · obtain ⟨C, o, m₂, rfl, hn⟩ := hok
    have e : C = H2.objs.size := (List.cons.inj hcs).1
    subst e
    have z := N' (_, o) (.head _)
    refine fin _ _ h tk ys acc m₂ hG F' (fun p hp => N' p (.tail _ hp)) (hn.ns z.1) (Ne.symm z.2.1) z.2.2 fun p hp q => ?_
    rcases List.mem_cons.mp hp with rfl | hp
    · have q' : h'.objs.size = H2.objs.size := q
      rw [hC] at q'
      exact Nat.ne_of_lt (Nat.lt_succ_self _) q'
    · rcases List.mem_append.mp hp with hp | hp
      · have := Heap.lt_size (kI _ _ (N p hp).1)
        rw [q, hC] at this
        exact Nat.lt_irrefl _ (Nat.lt_of_succ_lt this)
      · exact (hacc' p hp).2.2 (q ▸ .head _)
end
end Mine
end
section
namespace Mine
open PySem.Calls PySem.Spec LCg
section
variable {prog : Program} {w : World} {A : Around} {E : Value → Shared → Prop} {s : Shared} {h₀ : Heap} {L : Addr} {m : Str → Option Value} {env : Env} {news : List (Addr × Obj)}
/- A comprehension over the own cell q. -/
theorem comp_cell {elt iter : Expr} {ifs : List Expr} {scope : Scope} {cl : List (Str × Addr)} {pos px : Pos} {xv : Value} {n : Nat} {P : Nat → Value → Prop} {use : Option (Value → Sem Unit)} {Q : Value → Shared → Prop} {a q : Str} {rest : List (Str × NameKind)}
    (hn : scope.names = (a, .local) :: (q, .cell) :: rest) (haq : (q == a) = false) (hr : ∀ x ∈ rest, x.2 ≠ .cell) (hkind : scope.kind = .function) (S : Src prog w A h₀ L m news s xv n P)
    (G : Nat → List Value → List (Addr × Obj) → Prop) (g0 : G 0 [] [])
    (turn : ∀ C X I D i v ys acc oI oC oX m₂ h tk (E' : Value → Shared → Prop), i < n → P i v → G i ys acc → NsObj oC m₂ → oX.data = .cell (some v) → Fr h₀ L h m → News h₀ L h ((C, oC) :: (X, oX) :: (I, oI) :: (D, lst ys) :: (news ++ acc)) → (∀ p ∈ acc, p.1 ≠ I ∧ p.1 ≠ D ∧ p.1 ∉ [C, X]) →
      wpAny (model prog w) A (forIn ifs true fun c r => if r = true then do let ok ← isTrue c (compEnvC scope ((q, X) :: cl) C env) (eval c (compEnvC scope ((q, X) :: cl) C env)); pure (ForInStep.yield ok) else pure (ForInStep.yield r)) (fun ok s' => if ok = true then
        wpAny (model prog w) A (eval elt (compEnvC scope ((q, X) :: cl) C env)) (GEnd s h₀ L m I D [C, X] ((C, oC) :: (X, oX) :: (I, oI) :: (D, lst ys) :: news) acc (fun y acc' => G (i + 1) (ys ++ [y]) acc')) E' s'
        else GEnd s h₀ L m I D [C, X] ((C, oC) :: (X, oX) :: (I, oI) :: (D, lst ys) :: news) acc (fun _ acc' => G (i + 1) ys acc') Value.none s') E' { s with heap := h, toks := tk })
    (fin : ∀ C D h tk ys acc m', G n ys acc → Fr h₀ L h m → News h₀ L h ((D, lst ys) :: (news ++ acc)) → h.Ns C m' → L ≠ C → h₀.get? C = none → (∀ p ∈ (D, lst ys) :: (news ++ acc), p.1 ≠ C) → compPost (model prog w) A E use Q (.ref D) C (.ok .next) { s with heap := h, toks := tk }) :
    wpAny (model prog w) A (pyIter xv) (fun it s₂ => wpAny (model prog w) A (newList []) (fun acc s₃ =>
      wpAny (model prog w) A (newFunctionEnv scope env.globals cl [] env.qual none .none (some env)) (fun cenv s₄ =>
        codeAny (model prog w) A (.compStart (.ListComp elt [⟨.Name q px, iter, ifs, 0⟩] scope pos) 0 it acc { cenv with scope := relabel scope env }) (compPost (model prog w) A E use Q acc cenv.locals) s₄) E s₃) E s₂) E s := by
  obtain ⟨hsz, F, N, go⟩ := S
  refine go _ _ fun I h' oI St fb hI0 hI1 kI hsI W hIo hfb hfb' hst => ?_
  have hI0' : h₀.get? I = none := by
    cases e : h₀.get? I with
    | none => rfl
    | some o => rw [F.keep _ _ e] at hI0; cases hI0
  have hLI : L ≠ I := fun q => by obtain ⟨oL, _, _, hL, _⟩ := F.ns; rw [← q, hL] at hI0; cases hI0
  have hIn : ∀ p ∈ news, p.1 ≠ I := fun p hp q => by have := (N p hp).1; rw [q, hI0] at this; cases this
  refine wpAny_newObj_type (newEnv_cell hn hr ?_)
  dsimp only
  generalize hH2 : h'.push { cls := .type "list", dict := none, data := .seq ([] : List Value).toArray } = H2
  have hC : H2.objs.size = h'.objs.size + 1 := by rw [← hH2, Heap.size_push]
  have hX : (H2.push nsO).objs.size = H2.objs.size + 1 := by rw [Heap.size_push]
  generalize hh1 : (H2.push nsO).push cellO = h₁
  have old : ∀ b o, h'.get? b = some o → h₁.get? b = some o := fun b o e => hh1 ▸ Heap.get?_push_of_some _ (Heap.get?_push_of_some _ (hH2 ▸ Heap.get?_push_of_some _ e))
  have hacc : h₁.get? h'.objs.size = some (lst []) := hh1 ▸ Heap.get?_push_of_some _ (Heap.get?_push_of_some _ (hH2 ▸ Heap.get?_push_size _ rfl))
  have hoC : h₁.get? H2.objs.size = some nsO := hh1 ▸ Heap.get?_push_of_some _ (Heap.get?_push_size _ rfl)
  have hoX : h₁.get? (H2.objs.size + 1) = some cellO := hh1 ▸ hX ▸ Heap.get?_push_size _ rfl
  refine comp_go (s := { s with heap := h' }) (own := [H2.objs.size, H2.objs.size + 1]) (cenv := compEnvC scope ((q, H2.objs.size + 1) :: cl) H2.objs.size env) W hsz hIo hfb (F.keeps kI) (fun p hp => ⟨kI _ _ (N p hp).1, (N p hp).2⟩) (Heap.lt_size hI1) hIn hLI hI0' rfl
    (fun b hb => ?_) old hacc (W.frame 0 h' h₁ hst fun b hb o e => old _ _ e) (fun cs => ∃ C o m₂ X oX v, cs = [(C, o), (X, oX)] ∧ NsObj o m₂ ∧ oX.data = .cell v) (fun i v cs => ∃ C o m₂ X oX, cs = [(C, o), (X, oX)] ∧ NsObj o m₂ ∧ oX.data = .cell (some v))
    (fun i v cs ⟨C, o, m₂, X, oX, e, a, b⟩ => ⟨C, o, m₂, X, oX, _, e, a, b⟩) (fun i v cs h tk Q' E' hi hP hcs hok hat _ hst' F' N' hQ => ?_) G (fun i v ys acc oI cs h tk E' hi hP hG _ hcs hB F' N' hacc' => ?_) (fun h tk cs ys acc hG hok hcs F' N' hacc' => ?_)
    (cs₀ := [(H2.objs.size, nsO), (H2.objs.size + 1, cellO)]) rfl ⟨_, _, _, _, _, _, rfl, nsO_obj, rfl⟩ (fun p hp => ?_) g0
  · rcases List.mem_cons.mp hb with rfl | hb
    · rw [hC]; exact Nat.lt_succ_self _
    · rw [List.mem_singleton.mp hb, hC]; exact Nat.lt_succ_of_lt (Nat.lt_succ_self _)
  · obtain ⟨C, o, m₂, X, oX, v', rfl, hn', hd⟩ := hok
    have e : C = H2.objs.size := (List.cons.inj hcs).1
    have e' : X = H2.objs.size + 1 := (List.cons.inj (List.cons.inj hcs).2).1
    subst e e'
    have zX := hat (_, oX) (.tail _ (.head _))
    have zC := hat (_, o) (.head _)
    show wpAny _ A (pure ()) _ _ _
    refine wpAny_pure ?_
    refine wpAny_assign_Name (wpAny_storeName_cell (c := H2.objs.size + 1) (v₀ := v') hkind ?_ ?_ ⟨oX, zX, hd⟩ fun h₂ hc₂ hs₂ => ?_)
    · show (List.map _ scope.names).lookup q = _
      rw [hn]
      show List.lookup q ((a, NameKind.local) :: (q, NameKind.cell) :: _) = _
      rw [List.lookup_cons, haq, List.lookup_cons, beq_self_eq_true]
    · show List.lookup q ((q, H2.objs.size + 1) :: cl) = _
      rw [List.lookup_cons, beq_self_eq_true]
    · obtain ⟨o₂, e₂, d₂⟩ := hc₂
      exact hQ h₂ _ [(_, o), (_, o₂)] rfl ⟨_, _, _, _, _, rfl, hn', d₂⟩ (fun p hp => by
        rcases List.mem_cons.mp hp with rfl | hp
        · exact hs₂.extBut _ _ (Nat.ne_of_lt (Nat.lt_succ_self _)) zC
        · rw [List.mem_singleton.mp hp]; exact e₂) fun b o hb e => hs₂.extBut b o (fun q => hb (q ▸ .tail _ (.head _))) e
  · obtain ⟨C, o, m₂, X, oX, rfl, hn', hd⟩ := hB
    have e : C = H2.objs.size := (List.cons.inj hcs).1
    have e' : X = H2.objs.size + 1 := (List.cons.inj (List.cons.inj hcs).2).1
    subst e e'
    exact turn _ _ I _ i v ys acc oI o oX m₂ h tk E' hi hP hG hn' hd F' N' hacc'
  · obtain ⟨C, o, m₂, X, oX, v', rfl, hn', hd⟩ := hok
    have e : C = H2.objs.size := (List.cons.inj hcs).1
    subst e
    have z := N' (_, o) (.head _)
    refine fin _ _ h tk ys acc m₂ hG F' (fun p hp => N' p (.tail _ (.tail _ hp))) (hn'.ns z.1) (Ne.symm z.2.1) z.2.2 fun p hp q => ?_
    rcases List.mem_cons.mp hp with rfl | hp
    · have q' : h'.objs.size = H2.objs.size := q
      rw [hC] at q'
      exact Nat.ne_of_lt (Nat.lt_succ_self _) q'
    · rcases List.mem_append.mp hp with hp | hp
      · have := Heap.lt_size (kI _ _ (N p hp).1)
        rw [q, hC] at this
        exact Nat.lt_irrefl _ (Nat.lt_of_succ_lt this)
      · exact (hacc' p hp).2.2 (q ▸ .head _)
  · rcases List.mem_cons.mp hp with rfl | hp
    · exact hoC
    · rw [List.mem_singleton.mp hp]; exact hoX
theorem fin_none {G : List Value → List (Addr × Obj) → Prop} {Q : Value → Shared → Prop}
    (H : ∀ D h tk ys acc, G ys acc → Fr h₀ L h m → News h₀ L h ((D, lst ys) :: (news ++ acc)) → Q (.ref D) { s with heap := h, toks := tk }) :
    ∀ C D h tk ys acc m', G ys acc → Fr h₀ L h m → News h₀ L h ((D, lst ys) :: (news ++ acc)) → h.Ns C m' → L ≠ C → h₀.get? C = none → (∀ p ∈ (D, lst ys) :: (news ++ acc), p.1 ≠ C) → compPost (model prog w) A E none Q (.ref D) C (.ok .next) { s with heap := h, toks := tk } := by
  intro C D h tk ys acc m' hG F N hn hLC hC0 off
  exact ⟨m', hn, fun h' hs => H D h' tk ys acc hG (F.change hs (Ne.symm hLC) hC0) fun p hp => ⟨hs.extBut _ _ (off p hp) (N p hp).1, (N p hp).2⟩⟩
theorem fin_some {G : List Value → List (Addr × Obj) → Prop} {Q : Value → Shared → Prop} {y : Str} {py : Pos} (hL : env.locals = L) (hk : env.kindOf y = some .local) (hp : (env.scope.kind == .class || (env.scope.kind == .module && env.locals != env.globals)) = false)
    (H : ∀ D h tk ys acc, G ys acc → Fr h₀ L h (fun x => if x = y then some (.ref D) else m x) → News h₀ L h ((D, lst ys) :: (news ++ acc)) → Q .none { s with heap := h, toks := tk }) :
    ∀ C D h tk ys acc m', G ys acc → Fr h₀ L h m → News h₀ L h ((D, lst ys) :: (news ++ acc)) → h.Ns C m' → L ≠ C → h₀.get? C = none → (∀ p ∈ (D, lst ys) :: (news ++ acc), p.1 ≠ C) → compPost (model prog w) A E (some (assign (.Name y py) env)) Q (.ref D) C (.ok .next) { s with heap := h, toks := tk } := by
  intro C D h tk ys acc m' hG F N hn hLC hC0 off
  subst hL
  refine wpAny_assign_Name (wpAny_storeName_local hk F.ns (fun h₂ hn₂ hs₂ => ?_) hp)
  refine ⟨m', hn.sameBut hs₂ (Ne.symm hLC), fun h' hs => H D h' _ ys acc hG ⟨hn₂.at' fun o e => hs.extBut _ _ hLC e, fun b o e => ?_, F.above⟩ fun p hp => ⟨hs.extBut _ _ (off p hp) (hs₂.extBut _ _ ?_ (N p hp).1), (N p hp).2⟩⟩
  · refine hs.extBut _ _ (fun q => by rw [q, hC0] at e; cases e) (hs₂.extBut _ _ (fun q => ?_) (F.keep _ _ e))
    have := Heap.lt_size e
    rw [q] at this
    exact Nat.lt_irrefl _ (Nat.lt_of_lt_of_le this F.above)
  · exact (N p hp).2.1
theorem bind_name {scope : Scope} {cl : List (Str × Addr)} {x : Str} {px : Pos} {n : Nat} {P : Nat → Value → Prop} (hkind : scope.kind = .function) (hx : scope.names.lookup x = some .local) :
    ∀ C I i v h tk m₂ (Q : Unit → Shared → Prop) (E' : Value → Shared → Prop), i < n → P i v → h.Ns C m₂ → (∃ o, h.get? I = some o ∧ ItO o) → News h₀ L h news →
      (∀ h' tk' m₃, h'.Ns C m₃ → m₃ x = some v → (∀ b o, b ≠ C → h.get? b = some o → h'.get? b = some o) → Q () { s with heap := h', toks := tk' }) →
      wpAny (model prog w) A (letOwnedTupleGo (.Name x px) (.ref I) v) (fun _ s₀ => wpAny (model prog w) A (assign (.Name x px) (compEnvC scope cl C env) v) Q E' s₀) E' { s with heap := h, toks := tk } := by
  intro C I i v h tk m₂ Q E' hi hP hn _ _ hQ
  show wpAny _ A (pure ()) _ _ _
  refine wpAny_pure (wpAny_assign_Name (wpAny_storeName_local (lookup_relabel_local hx) hn (fun h₂ hn₂ hs₂ => hQ h₂ _ _ hn₂ (by simp) fun b o hb e => hs₂.extBut b o hb e) (by simp [compEnvC, relabel, hkind])))
theorem bind_tuple {scope : Scope} {cl : List (Str × Addr)} {x y z : Str} {px py pz pt : Pos} {k : Nat} {n : Nat} {P : Nat → Value → Prop} {V : Nat → Value → Value → Value → Prop} (hh : A.handled = none) (hkind : scope.kind = .function) (hx : scope.names.lookup x = some .local) (hy : scope.names.lookup y = some .local) (hz : scope.names.lookup z = some .local)
    (hxy : x ≠ y) (hxz : x ≠ z) (hyz : y ≠ z) (hP : ∀ i v, P i v → ∃ T o a b c k, v = .ref T ∧ (T, o) ∈ news ∧ o.cls = .type "tuple" ∧ o.data = .seq #[a, b, c] k ∧ V i a b c) :
    ∀ C I i v h tk m₂ (Q : Unit → Shared → Prop) (E' : Value → Shared → Prop), i < n → P i v → h.Ns C m₂ → (∃ o, h.get? I = some o ∧ ItO o) → News h₀ L h news →
      (∀ h' tk' m₃, h'.Ns C m₃ → (∃ a b c, V i a b c ∧ m₃ x = some a ∧ m₃ y = some b ∧ m₃ z = some c) → (∀ b o, b ≠ C → h.get? b = some o → h'.get? b = some o) → Q () { s with heap := h', toks := tk' }) →
      wpAny (model prog w) A (letOwnedTupleGo (.Tuple [.Name x px, .Name y py, .Name z pz] k pt) (.ref I) v) (fun _ s₀ => wpAny (model prog w) A (assign (.Tuple [.Name x px, .Name y py, .Name z pz] k pt) (compEnvC scope cl C env) v) Q E' s₀) E' { s with heap := h, toks := tk } := by
  intro C I i v h tk m₂ Q E' hi hPv hn ⟨oI, eI, hI⟩ N hQ
  obtain ⟨T, o, a, b, c, kk, rfl, hm, hc, hd, hV⟩ := hP i v hPv
  have hkk : ((compEnvC scope cl C env).scope.kind == .class || ((compEnvC scope cl C env).scope.kind == .module && (compEnvC scope cl C env).locals != (compEnvC scope cl C env).globals)) = false := by simp [compEnvC, relabel, hkind]
  have hT : h.IsTuple T #[a, b, c] := ⟨o, (N _ hm).1, hc, _, hd⟩
  have go : wpAny (model prog w) A (assign (.Tuple [.Name x px, .Name y py, .Name z pz] k pt) (compEnvC scope cl C env) (.ref T)) Q E' { s with heap := h, toks := tk } := by
    refine wpAny_assign_Tuple hh hT rfl rfl fun h₁ he₁ => ?_
    have hL : C ≠ h.objs.size := Nat.ne_of_lt hn.lt
    have hn₁ : h₁.Ns C m₂ := hn.at' fun o e => he₁ _ o hL e
    have up₁ : ∀ c o, h.get? c = some o → h₁.get? c = some o := fun c o e => he₁ c o (Nat.ne_of_lt (Heap.lt_size e)) e
    show wpAny _ _ (assignInOrder [assign (.Name x px) _, assign (.Name y py) _, assign (.Name z pz) _] [a, b, c]) _ _ _
    refine assignInOrder_cons (wpAny_assign_Name (wpAny_storeName_local (lookup_relabel_local hx) hn₁ (fun h₂ hn₂ hs₂ => ?_) hkk))
    refine assignInOrder_cons (wpAny_assign_Name (wpAny_storeName_local (lookup_relabel_local hy) hn₂ (fun h₃ hn₃ hs₃ => ?_) hkk))
    refine assignInOrder_cons (wpAny_assign_Name (wpAny_storeName_local (lookup_relabel_local hz) hn₃ (fun h₄ hn₄ hs₄ => ?_) hkk))
    refine assignInOrder_nil ?_
    exact hQ h₄ _ _ hn₄ ⟨a, b, c, hV, by simp [hxy, hxz], by simp [hyz], by simp⟩ fun d o hd e => hs₄.extBut d o hd (hs₃.extBut d o hd (hs₂.extBut d o hd (up₁ d o e)))
  show wpAny _ A (load I >>= _) _ _ _
  refine wpAny_bind (wpAny_load eI ?_)
  have off : ∀ t, o.cls = o.cls → (["enumerate", "zip", "dict_itemiterator", "dict_reverseitemiterator", "odict_iterator", "itertools.zip_longest", "itertools.pairwise"].contains t) = false → oI.cls = .type t → wpAny (model prog w) A (match oI.cls, oI.data with
      | .type n, .fields vs =>
        if ["enumerate", "zip", "dict_itemiterator", "dict_reverseitemiterator", "odict_iterator", "itertools.zip_longest", "itertools.pairwise"].contains n && vs[0]? == some (rawInt T) then do
          rule "for.unpacks-the-owned-tuple"
          updateField I 0 .none
        else pure ()
      | _, _ => pure () : Sem Unit) (fun _ s₀ => wpAny (model prog w) A (assign (.Tuple [.Name x px, .Name y py, .Name z pz] k pt) (compEnvC scope cl C env) (.ref T)) Q E' s₀) E' { s with heap := h, toks := tk } := by
    intro t _ ht e
    rw [e]
    cases oI.data <;> first | exact wpAny_pure go | skip
    simp only [ht, Bool.false_and, Bool.false_eq_true, if_false]
    exact wpAny_pure go
  rcases hI with hI | hI
  · exact off _ rfl (by decide) hI
  · exact off _ rfl (by decide) hI
end
end Mine
end
section
namespace Mine
open PySem.Calls PySem.Spec LCg
noncomputable abbrev FT := Int × Int × Int
/- v is a tuple of the file's three numbers, which stands in nw. -/
noncomputable def FileAt (nw : List (Addr × Obj)) (v : Value) (x : FT) : Prop := ∃ T t1 t2 t3 c, v = .ref T ∧ (T, tupObj [.int x.1 t1, .int x.2.1 t2, .int x.2.2 t3] c) ∈ nw
theorem FileAt.mono {nw nw' : List (Addr × Obj)} {v : Value} {x : FT} (h : FileAt nw v x) (hs : ∀ p ∈ nw, p ∈ nw') : FileAt nw' v x := by
  obtain ⟨T, t1, t2, t3, c, e, hm⟩ := h
  exact ⟨T, t1, t2, t3, c, e, hs _ hm⟩
noncomputable def fileOf (x : Int) : FT := (20 * x.fmod 3, (x.fdiv 3).fmod 300, (x.fdiv 900).fmod 300)
inductive FilesIn (nw : List (Addr × Obj)) : List Value → List FT → Prop
  | nil : FilesIn nw [] []
  | cons {v : Value} {x : FT} {vs : List Value} {xs : List FT} (h : FileAt nw v x) (t : FilesIn nw vs xs) : FilesIn nw (v :: vs) (x :: xs)
theorem FilesIn.mono {nw nw' : List (Addr × Obj)} {vs : List Value} {xs : List FT} (h : FilesIn nw vs xs) (hs : ∀ p ∈ nw, p ∈ nw') : FilesIn nw' vs xs := by
  induction h with
  | nil => exact .nil
  | cons h _ ih => exact .cons (h.mono hs) ih
theorem FilesIn.snoc {nw : List (Addr × Obj)} {vs : List Value} {xs : List FT} {v : Value} {x : FT} (h : FilesIn nw vs xs) (hv : FileAt nw v x) : FilesIn nw (vs ++ [v]) (xs ++ [x]) := by
  induction h with
  | nil => exact .cons hv .nil
  | cons h _ ih => exact .cons h ih
theorem FilesIn.len {nw : List (Addr × Obj)} {vs : List Value} {xs : List FT} (h : FilesIn nw vs xs) : vs.length = xs.length := by
  induction h with
  | nil => rfl
  | cons _ _ ih => simp [ih]
theorem FilesIn.at {nw : List (Addr × Obj)} {vs : List Value} {xs : List FT} (h : FilesIn nw vs xs) : ∀ {i : Nat} {v : Value}, vs[i]? = some v → ∃ x, xs[i]? = some x ∧ FileAt nw v x := by
  induction h with
  | nil => intro i v e; simp at e
  | cons h _ ih =>
    intro i v e
    cases i with
    | zero => simp at e; subst e; exact ⟨_, rfl, h⟩
    | succ i => simpa using ih (i := i) (by simpa using e)
noncomputable def FileOk (x : FT) : Prop := 0 ≤ x.1 ∧ x.1 ≤ 40 ∧ 0 ≤ x.2.1 ∧ x.2.1 < 300 ∧ 0 ≤ x.2.2 ∧ x.2.2 < 300
theorem fileOf_ok (x : Int) : FileOk (fileOf x) := by
  have a := Int.fmod_nonneg_of_pos x (b := 3) (by decide)
  have b := Int.fmod_lt_of_pos x (b := 3) (by decide)
  have c := Int.fmod_nonneg_of_pos (x.fdiv 3) (b := 300) (by decide)
  have d := Int.fmod_lt_of_pos (x.fdiv 3) (b := 300) (by decide)
  have e := Int.fmod_nonneg_of_pos (x.fdiv 900) (b := 300) (by decide)
  have f := Int.fmod_lt_of_pos (x.fdiv 900) (b := 300) (by decide)
  exact ⟨by show 0 ≤ 20 * _; lia, by show 20 * _ ≤ 40; lia, c, d, e, f⟩
/- A new list of eight new files. -/
noncomputable def RFiles : Heap → Heap → Value → Prop := fun h h' v => ∃ D ys fs nw, v = .ref D ∧ fs.length = 8 ∧ (∀ p ∈ (D, lst ys) :: nw, h.get? p.1 = none ∧ h'.get? p.1 = some p.2) ∧ FilesIn nw ys fs ∧ ∀ t ∈ fs, FileOk t
section
variable {s : Shared} {h₀ h' : Heap} {L I D T : Addr} {m : Str → Option Value} {own : List Addr} {base acc : List (Addr × Obj)} {Gn : Value → List (Addr × Obj) → Prop} {o : Obj} {tk : Nat} {y : Value}
theorem gend_new (F : Fr h₀ L h' m) (N : News h₀ L h' ((T, o) :: (base ++ acc))) (hI : I < T) (hD : D < T) (ho : ∀ b ∈ own, b < T) (hG : Gn y ((T, o) :: acc)) : GEnd s h₀ L m I D own base acc Gn y { s with heap := h', toks := tk } :=
  ⟨h', tk, [(T, o)], rfl, F, fun p hp => N p (by
      rcases List.mem_append.mp hp with hp | hp
      · exact .tail _ (List.mem_append_left _ hp)
      · rcases List.mem_cons.mp hp with rfl | hp
        · exact .head _
        · exact .tail _ (List.mem_append_right _ hp)), fun p hp => by
      rw [List.mem_singleton.mp hp]
      exact ⟨Nat.ne_of_gt hI, Nat.ne_of_gt hD, fun z => Nat.lt_irrefl _ (ho _ z)⟩, hG⟩
end
theorem files_step {ns : List Int} {i : Nat} {n : Int} {ys : List Value} {acc : List (Addr × Obj)} {T : Addr} {t1 t2 t3 : Tok} {c : Nat} (hn : ns[i]? = some n) (h : FilesIn acc ys ((ns.take i).map fileOf)) :
    FilesIn ((T, tupObj [.int (20 * n.fmod 3) t1, .int ((n.fdiv 3).fmod 300) t2, .int ((n.fdiv 900).fmod 300) t3] c) :: acc) (ys ++ [.ref T]) ((ns.take (i + 1)).map fileOf) := by
  have e : ns.take (i + 1) = ns.take i ++ [n] := by rw [List.take_add_one, hn]; rfl
  rw [e, List.map_append]
  exact (h.mono fun _ hp => .tail _ hp).snoc ⟨T, t1, t2, t3, c, rfl, .head _⟩
end Mine
end
section
theorem Mine.c_files (w : World) (ls : PySem.Addr) (vs : List Value) (ns : List Int) (hi : IntsAre vs ns) (hlen : ns.length ≤ 1048576) : Mine.Told w 188 [.ref ls] 10 (fun h => h.IsList ls vs.toArray) Mine.RFiles := by
  unfold Mine.Told
  k_with_none
  (k_with "call type:type" => ((k_here; (with_reducible show wpAny _ _ (call (Value.type "type") [Value.bytes _ _]) _ _ _); refine Mine.type_bytes ?_)))
  (k_with "call builtin:issubclass" => ((k_here; k_dflt (refine' Mine.issub_bytes ?zqk1 ?_; (case zqk1 => exact News.isTup (by k_asm) (by k_mem)); k_whole))))
  (k_with "getMethod bytes" => ((k_here; (with_reducible first | refine Mine.method_rfind ?_ | refine Mine.method_rstrip ?_ | refine Mine.method_starts ?_ | refine Mine.method_ends ?_))))
  (k_with "call builtin:bytes.rfind" => ((k_here; refine Mine.call_rfind ?_)))
  (k_with "call builtin:bytes.startswith" => ((k_here; refine Mine.call_starts ?_)))
  (k_with "call builtin:bytes.endswith" => ((k_here; refine Mine.call_ends ?_)))
  (k_with "call builtin:bytes.rstrip" => ((k_here; refine Mine.call_rstrip (by k_extra "kaf") ?_; intro zzt8 zzk8)))
  (k_with "subscriptTail" => ((k_here; (with_reducible show wpAny _ _ (subscriptTail _ (Expr.Slice _ _ none _) (Value.bytes _ _) (Value.ref _)) _ _ _); (with_reducible rename Fr _ _ _ _ => zzFq); (with_reducible rename News _ _ _ _ => zzNq); (refine Mine.slice_B (s := ⟨_, _, _, _, _⟩) zzFq zzNq (by constructor) (by constructor) (by k_extra "kaf") ?_); intro _ _ _ _ _; (try k_sweep))))
  (k_with "truthy bytes" => ((k_here; (refine Mine.truthy_B (by k_extra "kaf") ?_); intro _)))
  (k_with "call builtin:len" => ((k_here; (with_reducible show wpAny _ _ (call (Value.builtin "len") [Value.bytes _ _]) _ _ _); (refine Mine.len_B (by k_extra "kaf") ?_); intro _ _)))
  (k_with "binaryOp Mult bytes int" => ((k_here; (refine Mine.mul_B (by k_extra "kaf") ?_); intro _ _)))
  (k_with "exec While Name" => ((k_here; refine whl_start 5 ?_)))
  (k_with "WhlIf" => ((first | (refine WhlIf.yes (by with_unfolding_all rfl) ?_) | (refine WhlIf.no (by with_unfolding_all rfl) ?_) | (refine Mine.whl_split ?_ ?_ <;> intro zzhw8 <;> (first | done | (exfalso; (try simp only [bne_iff_ne, ne_eq, bne_eq_false_iff_eq, decide_eq_true_eq, decide_eq_false_iff_not] at *); omega) | skip)))))
  (k_with "binaryOp Add bytes bytes" => ((k_here; (refine Mine.add_B (by k_extra "kaf") ?_); intro _ _)))
  (k_with "kaf" => (first | (with_reducible assumption) | ((with_reducible refine Mine.sz_cut ?_); k_extra "kaf") | ((with_reducible refine Mine.small_rstrip ?_); k_extra "kaf") | ((with_reducible refine Mine.sz_app ?_ ?_) <;> k_extra "kaf") | exact Nat.le_of_ble_eq_true rfl | exact Nat.le_trans (by with_reducible assumption) (by decide) | assumption | ((try simp only [Mine.Small, Array.size_append, List.size_toArray, List.length_cons, List.length_nil] at *); omega)))
  (k_with "inplaceOp Add bytes bytes" => ((k_here; (refine Mine.iadd_B (by k_extra "kaf") ?_); intro _ _)))
  (k_with "WhlIf" => ((refine WhlIf.no (Mine.ap_three (by assumption) (by assumption)) ?_)))
  (k_with "kaf" => (first | (with_reducible assumption) | ((with_reducible refine Mine.sz_word ?_); exact Nat.le_of_ble_eq_true rfl) | ((with_reducible refine Mine.sz_frontB ?_); k_extra "kaf") | ((with_reducible refine Mine.sz_endB ?_); k_extra "kaf") | ((with_reducible refine Mine.sz_baseB ?_); k_extra "kaf") | ((with_reducible refine Mine.sz_dirB ?_); k_extra "kaf")))
  (k_with "compareOp Gt bytes bytes" => ((k_here; refine Mine.gt_bytes ?_)))
  (k_with "eval Name" => ((k_here; k_dflt (refine nameX_L (by k_asm) (by assumption) ?_))))
  (k_with "setItem ref int" => ((k_here; (with_reducible show wpAny _ _ (setItem (Value.ref _) (Value.int _ _) (Value.int _ _)) _ _ _); k_dflt (refine' ksa_set ?zqk1 ?zqk2 ?zqk3 ?zqk4 ?zqk5 ?zqk6 ?zqk7 ?_; (case zqk1 => k_asm); (case zqk2 => k_asm); (case zqk3 => exact Upd.head (by assumption)); (case zqk4 => with_reducible assumption); (case zqk5 => ksa_idx); (case zqk6 => ksa_idx); (case zqk7 => ksa_idx); k_whole); intro zzhq zzFq zzNq zzhiq zzhlq zzhsq)))
  (k_with "eval ListComp" => ((k_here; k_dflt (refine Mine.comp_enter (by with_unfolding_all rfl) (by rfl) (by decide) ?_))))
  w_top off
  k_fill
  intro p loose mean mg mb dp un gd cn cs a ccd cl outer A₀ base h₀ L m s Q E B F X T hk hpre hdp hun hret
  refine wpAny_call ?_
  k_dflt ((refine' Mine.code_defP ?zqk1 ?zqk2 ?zqk3 ?zqk5 ?zqkA ?zqkF ?zqkK ?zqk6 ?zqk7 ?zqk8 ?zqk9 ?zqkB ?_ ?zqc2 ?zqc3 ?zqc4 ?zqc5; (case zqkA => exact rfl); (case zqkF => exact rfl); (case zqkK => assumption); (case zqk1 => k_asm); (case zqk2 => k_asm); (case zqk3 => k_asm); (case zqk5 => k_asm); (case zqk6 => k_is); (case zqk7 => k_is); (case zqk8 => ktr_room); (case zqk9 => exact BindsTo.of_eq rfl); (case zqc5 => decide); (case zqkB => exact locs rfl); (case zqc2 => exact rfl); (case zqc3 => exact rfl); (case zqc4 => exact rfl); k_whole))
  intro g' L' h' hg' F' N' B' X' T'
  clear B F X T
  (try rw [← hg'] at hpre)
  rw [← hg'] at hret
  (try dsimp only at hret)
  (try dsimp only at hpre)
  (try dsimp only)
  k_fold
  (repeat' (first | (k_unfold; (try dsimp only)) | (k_end; kc_close) | (dsimp only; walk1) | walk1 | (leave1; try dsimp only)))
  (with_reducible rename News _ _ _ _ => N1)
  (with_reducible rename Fr _ _ _ _ => F1)
  (with_reducible rename IntsAre _ _ => hi2)
  (with_reducible rename List.length (List.take 63 ns) ≤ _ => hl2)
  (with_reducible rename (_ : PySem.Addr) < _ => hlt2)
  refine Mine.pair_enum rfl F1 N1 hi2 hlt2 (fun i m₁ o₁ => ∃ vs₁ ns₁ c, o₁ = PySem.W.listOf (List.toArray vs₁) c ∧ IntsAre vs₁ ns₁ ∧ ns₁.length = 8 ∧ m₁ (PySem.Str.ofString "cells") = some (.ref _)) ⟨_, [15379, 14479, 4500, 15, 23402, 15379, 1846, 0], _, rfl, by repeat constructor, rfl, rfl⟩ ?turn ?done
  case turn =>
    rintro i n t9 t8 m₁ o₁ h1 tk1 own hn ⟨vs₁, ns₁, c, rfl, hi1, hl1, hm1⟩ hoff F₁ N₁
    have e1 : (fun y => if y = PySem.Str.ofString "x" then some (Value.int n t9) else if y = PySem.Str.ofString "k" then some (.int (i : Int) t8) else m₁ y) (PySem.Str.ofString "cells") = some _ := (if_neg (by decide)).trans ((if_neg (by decide)).trans hm1)
    have e2 : (fun y => if y = PySem.Str.ofString "x" then some (Value.int n t9) else if y = PySem.Str.ofString "k" then some (.int (i : Int) t8) else m₁ y) (PySem.Str.ofString "k") = some (.int (i : Int) t8) := (if_neg (by decide)).trans (if_pos rfl)
    have e3 : (fun y => if y = PySem.Str.ofString "x" then some (Value.int n t9) else if y = PySem.Str.ofString "k" then some (.int (i : Int) t8) else m₁ y) (PySem.Str.ofString "x") = some (.int n t9) := if_pos rfl
    generalize (fun y => if y = PySem.Str.ofString "x" then some (Value.int n t9) else if y = PySem.Str.ofString "k" then some (.int (i : Int) t8) else m₁ y) = m₂ at F₁ e1 e2 e3
    clear F1 N1 hm1
    (repeat' (first | (k_unfold; (try dsimp only)) | (k_end; kc_close) | (dsimp only; walk1) | walk1 | (leave1; try dsimp only)))
    all_goals (repeat (first | k_unfold | dsimp only | dsimp +zetaDelta only))
    (with_reducible rename Fr _ _ _ _ => F3)
    (with_reducible rename News _ _ _ _ => N3)
    (with_reducible rename IntsAre _ _ => hi3)
    (with_reducible rename List.length _ = List.length ns₁ => hl3)
    exact ⟨rfl, _, _, _, _, rfl, F3, N3, _, _, _, rfl, hi3, hl3.trans hl1, e1⟩
  case done =>
    rintro h3 tk3 m3 o3 F3 N3 ⟨vs₁, ns₁, c, rfl, hi1, hl1, hm1⟩
    clear F1 N1 hi2 hlt2
    dsimp only
    (repeat' (first | (k_unfold; (try dsimp only)) | (k_end; kc_close) | (dsimp only; walk1) | walk1 | (leave1; try dsimp only)))
    unfold Mine.Stop
    refine Mine.comp_free (by decide) rfl (Mine.src_list rfl (by rw [IntsAre.length hi1, hl1]; exact Nat.le_of_ble_eq_true rfl) F3 N3 (.head _) rfl rfl) (fun _ v m => m (PySem.Str.ofString "cell") = some v) (Mine.bind_name rfl rfl) (fun i ys acc => Mine.FilesIn acc ys ((ns₁.take i).map Mine.fileOf)) .nil ?turn2 (Mine.fin_none ?fin2)
    case turn2 =>
      intro C I D i v ys acc oI oC m₂ h4 tk4 E' hlt hv hG hoC hm2 F4 N4 hacc
      obtain ⟨n, t, rfl, hn⟩ := IntsAre.at hi1 i v hv
      rw [List.forIn_nil]
      refine wpAny_pure ?_
      rw [if_pos rfl]
      clear F3 N3
      (repeat' (first | (k_unfold; (try dsimp only)) | (k_end; kc_close) | (dsimp only; walk1) | walk1 | (leave1; try dsimp only)))
      (with_reducible rename _ ∧ _ => l1)
      refine Mine.gend_new (by assumption) (by assumption) l1.2.1 l1.2.2.1 (fun b hb => by rw [List.mem_singleton.mp hb]; exact l1.1) (Mine.files_step hn hG)
    case fin2 =>
      intro D h4 tk4 ys acc hG F4 N4
      rw [IntsAre.length hi1, List.take_length] at hG
      clear F3 N3
      (repeat (first | k_unfold | dsimp only | dsimp +zetaDelta only))
      unfold Mine.EndP
      dsimp only
      refine hret _ _ _ (Fr.keep (by assumption)) (Mine.fr_size (by assumption)) ?_
      exact ⟨D, ys, _, acc, rfl, by rw [List.length_map]; exact hl1, fun p hp => ⟨(N4 p (by
        rcases List.mem_cons.mp hp with rfl | hp
        · exact .head _
        · exact .tail _ (List.mem_append_right _ hp))).2.2, (N4 p (by
        rcases List.mem_cons.mp hp with rfl | hp
        · exact .head _
        · exact .tail _ (List.mem_append_right _ hp))).1⟩, hG, fun t ht => by
          obtain ⟨x, _, rfl⟩ := List.mem_map.mp ht
          exact Mine.fileOf_ok x⟩
end
section
namespace Mine
open PySem.Calls PySem.Spec LCg
section
variable {prog : Program} {w : World} {A : Around} {E : Value → Shared → Prop} {s : Shared}
theorem collect_range {R : List Value → Shared → Prop} {r : Addr} {a b : Int} {t u v : Tok} {n : Nat} (hh : A.handled = none) (hr : IsRange s.heap r a b 1 t u v) (hsmall : Builtin.Range.small a b 1 = true) (hn : Builtin.Range.rangeSize a b 1 = n) (hz : n ≤ 2 ^ 24)
    (h : ∀ (h' : Heap) (tk : Nat) (acc : Array Value), (∀ b o, s.heap.get? b = some o → h'.get? b = some o) → ItemsOf (fun i v => ∃ t, v = .int (a + i * 1) t) acc n → R acc.toList { s with heap := h', toks := tk }) :
    wpAny (model prog w) A (collect (.ref r)) R E s := by
  unfold collect
  refine wpAny_bind (wpAny_runValue (codeAny_builtin entry_proto_collect' ?_))
  rw [Around.under_plainId PySem.F.plain_proto_collect _]
  show wpAny _ A.in1 (newList [] >>= fun l => again (.builtin "list.__iadd__" ⟨[l, .ref r], []⟩)) _ _ s
  refine wpAny_bind (wpAny_newObj_type ?_)
  refine wpAny_pure ⟨plainId_quiet PySem.F.plain_list_iadd _, codeAny_builtin entry_list_iadd' ?_⟩
  rw [Around.under_plainId PySem.F.plain_list_iadd _]
  have hS₁ : (s.heap.push { cls := .type "list", data := .seq ([] : List Value).toArray }).get? s.heap.objs.size = some { cls := .type "list", data := .seq #[] } := Heap.get?_push_size _ rfl
  show wpAny _ A.in1 (Builtin.List.listExtendWith (.ref s.heap.objs.size) (.ref r) (.ref s.heap.objs.size)) _ _ _
  have hr' : IsRange (s.heap.push { cls := .type "list", data := .seq ([] : List Value).toArray }) r a b 1 t u v := Heap.get?_push_of_some _ hr
  have key := wpAny_extend_range (prog := prog) (w := w) (A := A) (s := { s with heap := s.heap.push { cls := .type "list", data := .seq ([] : List Value).toArray } })
    (R := fun (q : Result) (s' : Shared) => ∃ (h' : Heap) (tk : Nat) (acc' : Array Value) (c' : Nat), q = .ok (.ret (.ref s.heap.objs.size)) ∧ s' = { s with heap := h', toks := tk } ∧
      (∀ b o, s.heap.get? b = some o → h'.get? b = some o) ∧ h'.get? s.heap.objs.size = some { cls := .type "list", dict := none, data := .seq acc' c', slots := #[] } ∧ ItemsOf (fun i v => ∃ t, v = .int (a + i * 1) t) acc' n)
    hh hr' hsmall hn hz s.heap.objs.size (.ref s.heap.objs.size) 0 hS₁
    (fun h' tk acc' c' hk hS' hacc => ⟨h', tk, acc', c', rfl, rfl, fun b o e => hk b o (Nat.ne_of_lt (Heap.lt_size e)) (Heap.get?_push_of_some _ e), hS', hacc⟩)
  refine wpAny_mono key (fun fin s' x => ?_) fun e s' x => ?_
  · cases fin with
    | done f =>
      obtain ⟨h', tk, acc', c', e, rfl, hk, hS', hacc⟩ := x
      cases e
      show wpAny _ A (load s.heap.objs.size >>= _) _ _ _
      refine wpAny_bind (wpAny_load hS' ?_)
      exact wpAny_pure (h h' tk acc' hk hacc)
    | again c₁ =>
      refine ⟨x.1, codeAny_mono x.2 fun q s₂ y => ?_⟩
      obtain ⟨h', tk, acc', c', rfl, rfl, hk, hS', hacc⟩ := y
      show wpAny _ A (load s.heap.objs.size >>= _) _ _ _
      refine wpAny_bind (wpAny_load hS' ?_)
      exact wpAny_pure (h h' tk acc' hk hacc)
  · obtain ⟨_, _, _, _, e', _⟩ := x
    cases e'
end
noncomputable abbrev Ext (g h : Heap) : Prop := ∀ b o, g.get? b = some o → h.get? b = some o
theorem InstOf.but {h h' : Heap} {κ x kS : Addr} {v : Value} {its : Array Value} {e : Nat} (i : InstOf h κ x v) (hs : Heap.SameBut kS h h') (hk : h.get? kS = some (seqObj "list" its e)) : InstOf h' κ x v := by
  obtain ⟨dx, a, b⟩ := i
  refine ⟨dx, hs.extBut _ _ (fun q => ?_) a, hs.extBut _ _ (fun q => ?_) b⟩
  · rw [q, hk] at a
    have := congrArg Obj.cls (Option.some.inj a)
    exact nomatch this
  · rw [q, hk] at b
    have z := congrArg Obj.data (Option.some.inj b)
    exact nomatch z
/- What the answers of the comparison make of the sorting tree. -/
noncomputable def KEval {α : Type} (lt : Nat → Nat → Bool) : KasT α → α
  | .ret a => a
  | .ask i j k => KEval lt (k (lt i j))
noncomputable def KIn {α : Type} (n : Nat) : KasT α → Prop
  | .ret _ => True
  | .ask i j k => i < n ∧ j < n ∧ ∀ b, KIn n (k b)
theorem k_wp {α : Type} {cmp : Nat → Nat → (Bool → Shared → Prop) → Shared → Prop} {n : Nat} {lt : Nat → Nat → Bool} {I : Shared → Prop} (hc : ∀ i j (C : Bool → Shared → Prop) s, i < n → j < n → I s → (∀ s', I s' → C (lt i j) s') → cmp i j C s) {G : α → Shared → Prop} :
    ∀ (t : KasT α) (s : Shared), KIn n t → I s → (∀ s', I s' → G (KEval lt t) s') → t.kasWp cmp G s
  | .ret a, s, _, hI, h => h s hI
  | .ask i j k, s, hin, hI, h => hc i j _ s hin.1 hin.2.1 hI fun s' hI' => k_wp hc (k (lt i j)) s' (hin.2.2 _) hI' h
section
variable {w : World} {A : Around} {E : Value → Shared → Prop} {s : Shared} {κ fl : Addr} {d : KD} {H : Heap} {vs : List Value} {lt : Nat → Nat → Bool}
/- One question of the sort. -/
theorem k_ask (KI : KIs w H κ fl d) (hu : A.units < cLine)
    (cturn : ∀ (i j : Nat) (x y : Addr) (u v : Value), vs[i]? = some u → vs[j]? = some v → ∀ h tk (Q : Value → Shared → Prop), Ext H h → InstOf h κ x u → InstOf h κ y v → (∀ h' tk', Ext h h' → Q (.bool (lt i j)) { s with heap := h', toks := tk' }) → wpAny (MD w) A (call (.ref d.f1) [.ref x, .ref y]) Q (fun _ _ => False) { s with heap := h, toks := tk })
    {xs : List Addr} (hxl : xs.length = vs.length) {i j : Nat} {C : Bool → Shared → Prop} {h : Heap} {tk : Nat} (hi : i < vs.length) (hj : j < vs.length) (hE : Ext H h) (hx : ∀ (j : Nat) (x : Addr) (v : Value), xs[j]? = some x → vs[j]? = some v → InstOf h κ x v)
    (hC : ∀ h' tk', Ext h h' → C (lt i j) { s with heap := h', toks := tk' }) :
    kas_cmp PySem.Challenge.rw_ij0209_01.row.prog w A oneType' (((xs.map Value.ref).toArray).zip vs.toArray) i j C { s with heap := h, toks := tk } := by
  have it : ∀ k (hk : k < vs.length), (kas_item (((xs.map Value.ref).toArray).zip vs.toArray) k).1 = .ref (xs[k]'(by rw [hxl]; exact hk)) := fun k hk => by
    have hk' : k < xs.length := by rw [hxl]; exact hk
    unfold kas_item
    simp only [Array.getD, Array.size_zip, List.size_toArray, List.length_map]
    rw [dif_pos (Nat.lt_min.mpr ⟨hk', hk⟩)]
    simp
  unfold kas_cmp
  rw [it i hi, it j hj, keyLt'_oneType, oneLt'_eq]
  simp only [if_true]
  refine wpAny_bind (wpAny_cRoomFor hu ?_)
  have hi' : i < xs.length := by rw [hxl]; exact hi
  have hj' : j < xs.length := by rw [hxl]; exact hj
  have Ii := hx i _ vs[i] (List.getElem?_eq_getElem hi') (List.getElem?_eq_getElem hi)
  have Ij := hx j _ vs[j] (List.getElem?_eq_getElem hj') (List.getElem?_eq_getElem hj)
  obtain ⟨dx, IA⟩ := Ii.at
  have KI' := KI.keeps hE
  refine wpAny_bind (ifBound_K KI'.isIn IA KI'.fLt KI'.isFn1 ?_)
  refine cturn i j _ _ _ _ (List.getElem?_eq_getElem hi) (List.getElem?_eq_getElem hj) h tk _ hE Ii Ij fun h' tk' e => ?_
  exact wpAny_truthy_bool (hC h' tk' e)
end
end Mine
end
section
namespace Mine
open PySem.Calls PySem.Spec LCg
section
variable {w : World} {A : Around} {E : Value → Shared → Prop} {s : Shared} {κ fl a kS : Addr} {d : KD} {H : Heap} {vs : List Value} {lt : Nat → Nat → Bool} {P : PySem.Fin → Shared → Prop} {e1 : Nat}
/- The tail of a sort whose keys are instances. -/
theorem ks_tail {h : Heap} {tk e : Nat} {keys : Array Value} {p : Array Nat} {st : SortSt} (hp : p.size = vs.length) (hst : arrOf st = p.map (kas_item (keys.zip vs.toArray))) (hf : failedOf st = none) (hks : keys.size = vs.length) (h64 : vs.length < 64) (hin : ∀ i ∈ p.toList, i < vs.length)
    (hE : Ext H h) (hH : H.get? kS = none ∧ H.get? a = none) (hka : kS ≠ a) (hk : h.get? kS = some (seqObj "list" keys e)) (ha : h.get? a = some (seqObj "list" #[] e1))
    (fin : ∀ h' tk' c, Ext H h' → h'.get? a = some (seqObj "list" (p.toList.map fun i => vs.getD i Value.none).toArray c) → P (.done (.ret .none)) { s with heap := h', toks := tk' }) :
    wpAny (MD w) A (ksk_tail a false e1 (.ref kS) st) P E { s with heap := h, toks := tk } := by
  have hout : (arrOf st).map (·.2) = (p.toList.map fun i => vs.getD i Value.none).toArray := by
    apply Array.toList_inj.mp
    rw [hst, Array.map_map, Array.toList_map]
    show _ = p.toList.map fun i => vs.getD i Value.none
    refine List.map_congr_left fun i hi => ?_
    have h1 := hin i hi
    have h2 : i < keys.size := by rw [hks]; exact h1
    show (kas_item _ i).2 = _
    unfold kas_item
    simp only [Array.getD, Array.size_zip, List.size_toArray]
    rw [dif_pos (Nat.lt_min.mpr ⟨h2, h1⟩)]
    simp [h1]
  have hsz : (p.toList.map fun i => vs.getD i Value.none).toArray.size = vs.length := by rw [List.size_toArray, List.length_map, Array.length_toList, hp]
  have s1 := Heap.SameBut.update h kS (Obj.mapSeq fun _ => (#[] : Array Value))
  have na1 : (h.update kS (Obj.mapSeq fun _ => (#[] : Array Value))).get? a = some (seqObj "list" #[] e1) := (s1.2 a hka.symm).trans ha
  have s2 := Heap.SameBut.update (h.update kS (Obj.mapSeq fun _ => (#[] : Array Value))) a (Obj.mapSeq fun _ => (p.toList.map fun i => vs.getD i Value.none).toArray)
  obtain ⟨c2, hc2⟩ : ∃ c2, ((h.update kS (Obj.mapSeq fun _ => (#[] : Array Value))).update a (Obj.mapSeq fun _ => (p.toList.map fun i => vs.getD i Value.none).toArray)).get? a = some (seqObj "list" (p.toList.map fun i => vs.getD i Value.none).toArray c2) :=
    ⟨_, get?_update_seq na1 fun _ => (p.toList.map fun i => vs.getD i Value.none).toArray⟩
  unfold ksk_tail
  dsimp only
  rw [hout]
  refine wpAny_bind (listUpdate_at hk rfl ?_ (by rw [hks, sizeLine_eq]; lia) (Nat.zero_le _))
  refine wpAny_bind (wpAny_letGo ?_)
  refine wpAny_bind (seqEpoch_at na1 rfl ?_)
  simp only [Bool.false_eq_true, if_false]
  refine wpAny_bind (listUpdate_at na1 rfl ?_ (Nat.zero_le _) (Nat.le_trans (Nat.le_of_eq hsz) (by rw [sizeLine_eq]; lia)))
  rw [hf]
  simp only [bne_self_eq_false, Bool.false_eq_true, if_false]
  refine wpAny_pure (fin _ _ c2 (fun b o eb => ?_) hc2)
  exact s2.extBut _ _ (fun q => by rw [q, hH.2] at eb; cases eb) (s1.extBut _ _ (fun q => by rw [q, hH.1] at eb; cases eb) (hE _ _ eb))

theorem ks_end (KI : KIs w H κ fl d) (hu : A.units < cLine)
    (cturn : ∀ (i j : Nat) (x y : Addr) (u v : Value), vs[i]? = some u → vs[j]? = some v → ∀ h tk (Q : Value → Shared → Prop), Ext H h → InstOf h κ x u → InstOf h κ y v → (∀ h' tk', Ext h h' → Q (.bool (lt i j)) { s with heap := h', toks := tk' }) → wpAny (MD w) A (call (.ref d.f1) [.ref x, .ref y]) Q (fun _ _ => False) { s with heap := h, toks := tk })
    {xs : List Addr} (hxl : xs.length = vs.length) {h : Heap} {tk e : Nat} (h2 : 2 ≤ vs.length) (h64 : vs.length < 64) (hin : KIn vs.length (kas_sort vs.length)) (hp2 : ∀ i ∈ (KEval lt (kas_sort vs.length)).toList, i < vs.length)
    (hE : Ext H h) (hx : ∀ (j : Nat) (x : Addr) (v : Value), xs[j]? = some x → vs[j]? = some v → InstOf h κ x v) (hH : H.get? kS = none ∧ H.get? a = none) (hka : kS ≠ a) (hk : h.get? kS = some (seqObj "list" (xs.map Value.ref).toArray e)) (ha : h.get? a = some (seqObj "list" #[] e1))
    (fin : ∀ h' tk' c, Ext H h' → h'.get? a = some (seqObj "list" ((KEval lt (kas_sort vs.length)).toList.map fun i => vs.getD i Value.none).toArray c) → P (.done (.ret .none)) { s with heap := h', toks := tk' }) :
    wpAny (MD w) A (ksk_end a false vs.toArray e1 (.ref kS) (xs.map Value.ref).toArray) P E { s with heap := h, toks := tk } := by
  have hks : ((xs.map Value.ref).toArray).size = vs.length := by rw [List.size_toArray, List.length_map, hxl]
  unfold ksk_end
  dsimp only
  rw [if_neg Bool.false_ne_true]
  have hn2 : ¬ vs.toArray.size < 2 := by rw [List.size_toArray]; exact Nat.not_lt.mpr h2
  rw [if_neg hn2, if_neg hn2]
  refine wpAny_bind (kas_kind (vs := xs.map Value.ref) (T := .ref κ) (by rw [List.length_map, hxl]; exact h2) (fun v hv => ?_) rfl ?_ ?_)
  · obtain ⟨x, hxm, rfl⟩ := List.mem_map.mp hv
    obtain ⟨j, hj, e⟩ := List.getElem_of_mem hxm
    have hj' : j < vs.length := by rw [← hxl]; exact hj
    obtain ⟨dx, IA⟩ := (hx j x vs[j] (by rw [List.getElem?_eq_getElem hj, e]) (List.getElem?_eq_getElem hj')).at
    exact IA.type
  · exact beq_self_eq_true _
  · rw [if_neg Bool.false_ne_true]
    have zsz : (((xs.map Value.ref).toArray).zip vs.toArray).size = vs.length := by rw [Array.size_zip, hks, List.size_toArray, Nat.min_self]
    have est : SortSt.mk' oneType' (((xs.map Value.ref).toArray).zip vs.toArray) #[] 7 none = kas_st oneType' (((xs.map Value.ref).toArray).zip vs.toArray) (List.toArray (List.range vs.length)) := by
      have e := kas_range (((xs.map Value.ref).toArray).zip vs.toArray)
      rw [zsz] at e
      show _ = SortSt.mk' oneType' ((List.toArray (List.range vs.length)).map (kas_item (((xs.map Value.ref).toArray).zip vs.toArray))) #[] 7 none
      rw [e]
    have ask := k_wp (cmp := kas_cmp PySem.Challenge.rw_ij0209_01.row.prog w A oneType' (((xs.map Value.ref).toArray).zip vs.toArray)) (n := vs.length) (lt := lt)
      (I := fun s' => ∃ h' tk', s' = { s with heap := h', toks := tk' } ∧ Ext h h') (fun i j C s' hi hj ⟨h', tk', es, hE'⟩ hC => by
        subst es
        exact k_ask KI hu cturn hxl hi hj (fun b o e => hE' _ _ (hE _ _ e)) (fun j x v e1 e2 => (hx j x v e1 e2).keeps hE') fun h'' tk'' e'' => hC _ ⟨h'', tk'', rfl, fun b o e => e'' _ _ (hE' _ _ e)⟩)
      (G := fun p s' => p = KEval lt (kas_sort vs.length) ∧ ∃ h' tk', s' = { s with heap := h', toks := tk' } ∧ Ext h h') (kas_sort vs.length) { s with heap := h, toks := tk } hin ⟨h, tk, rfl, fun _ _ e => e⟩ fun s' hI => ⟨rfl, hI⟩
    have run := kas_runs (E := E) (Q := fun _ st' s' => ∃ p : Array Nat, p.size = vs.length ∧ arrOf st' = p.map (kas_item (((xs.map Value.ref).toArray).zip vs.toArray)) ∧ failedOf st' = none ∧ p = KEval lt (kas_sort vs.length) ∧ ∃ h' tk', s' = { s with heap := h', toks := tk' } ∧ Ext h h')
      h2 h64 (fun p' st' s' a1 a2 a3 a4 => ⟨p', a1, a2, a3, a4⟩) ask
    rw [← est] at run
    refine wpAny_bind (wpAny_mono run ?_ fun _ _ e => e)
    rintro ⟨⟨⟩, st'⟩ s' ⟨p, hp, har, hf, rfl, h', tk', rfl, hE'⟩
    exact ks_tail hp har hf hks h64 hp2 (fun b o e => hE' _ _ (hE _ _ e)) hH hka (hE' _ _ hk) (hE' _ _ ha) fin

theorem ks_rest (KI : KIs w H κ fl d) (hu : A.units < cLine)
    (kturn : ∀ v ∈ vs, ∀ h tk (Q : Value → Shared → Prop), Ext H h → (∀ r h' tk', Ext h h' → RInst κ v h h' r → Q r { s with heap := h', toks := tk' }) → wpAny (MD w) A (call (.ref κ) [v]) Q (fun _ _ => False) { s with heap := h, toks := tk })
    (cturn : ∀ (i j : Nat) (x y : Addr) (u v : Value), vs[i]? = some u → vs[j]? = some v → ∀ h tk (Q : Value → Shared → Prop), Ext H h → InstOf h κ x u → InstOf h κ y v → (∀ h' tk', Ext h h' → Q (.bool (lt i j)) { s with heap := h', toks := tk' }) → wpAny (MD w) A (call (.ref d.f1) [.ref x, .ref y]) Q (fun _ _ => False) { s with heap := h, toks := tk })
    {h : Heap} {tk : Nat} (h2 : 2 ≤ vs.length) (h64 : vs.length < 64) (hin : KIn vs.length (kas_sort vs.length)) (hp2 : ∀ i ∈ (KEval lt (kas_sort vs.length)).toList, i < vs.length)
    (hE : Ext H h) (hH : H.get? kS = none ∧ H.get? a = none) (hka : kS ≠ a) (hk : h.get? kS = some (seqObj "list" #[] 0)) (ha : h.get? a = some (seqObj "list" #[] e1))
    (fin : ∀ h' tk' c, Ext H h' → h'.get? a = some (seqObj "list" ((KEval lt (kas_sort vs.length)).toList.map fun i => vs.getD i Value.none).toArray c) → P (.done (.ret .none)) { s with heap := h', toks := tk' }) :
    wpAny (MD w) A (ksk_rest a (.ref κ) false vs.toArray e1 (.ref kS)) P E { s with heap := h, toks := tk } := by
  unfold ksk_rest
  refine wpAny_bind (wpAny_rule ?_)
  rw [List.forIn_toArray]
  refine wpAny_bind (ksk_fold (fun i s' => ∃ h' tk' xs e, s' = { s with heap := h', toks := tk' } ∧ Ext H h' ∧ h'.get? kS = some (seqObj "list" (xs.map Value.ref).toArray e) ∧ h'.get? a = some (seqObj "list" #[] e1) ∧ xs.length = i ∧ i ≤ vs.length ∧ ∀ (j : Nat) (x : Addr) (v : Value), xs[j]? = some x → vs[j]? = some v → InstOf h' κ x v) vs 0 { s with heap := h, toks := tk }
    ⟨h, tk, [], 0, rfl, hE, hk, ha, rfl, Nat.zero_le _, fun j x v e => by simp at e⟩ ?step ?done)
  case step =>
    rintro j v s' hv ⟨h', tk', xs, e, rfl, hE', hk', ha', hxl, hjl, hx⟩
    simp only [Nat.zero_add] at hxl ⊢
    have hjv : j < vs.length := (List.getElem?_eq_some_iff.mp hv).1
    refine wpAny_bind (wpAny_attempt (wpAny_mono (kturn v (List.mem_of_getElem? hv) h' tk' (fun r s'' => ∃ h3 tk3, s'' = { s with heap := h3, toks := tk3 } ∧ Ext h' h3 ∧ RInst κ v h' h3 r) hE' fun r h3 tk3 hE3 hr => ⟨h3, tk3, rfl, hE3, hr⟩) (fun r s'' hq => ?_) fun _ _ hF => hF.elim))
    obtain ⟨h3, tk3, rfl, hE3, hr⟩ := hq
    obtain ⟨x, dx, rfl, hx0, hd0, hne, gx, gd⟩ := hr
    dsimp only
    have nk := hE3 _ _ hk'
    have na := hE3 _ _ ha'
    have s1 := Heap.SameBut.update h3 kS (Obj.mapSeq (·.push (.ref x)))
    obtain ⟨c2, hc2⟩ : ∃ c2, (h3.update kS (Obj.mapSeq (·.push (.ref x)))).get? kS = some (seqObj "list" ((xs.map Value.ref).toArray.push (.ref x)) c2) := ⟨_, get?_update_seq nk (·.push (.ref x))⟩
    have ea : (xs.map Value.ref).toArray.push (.ref x) = ((xs ++ [x]).map Value.ref).toArray := by simp
    have hz : (xs.map Value.ref).toArray.size ≤ 63 := by rw [List.size_toArray, List.length_map, hxl]; lia
    refine wpAny_bind (listUpdate_at nk rfl ?_ (Nat.le_trans hz (by rw [sizeLine_eq]; lia)) (Nat.le_trans (Nat.le_of_eq (Array.size_push ..)) (Nat.le_trans (Nat.succ_le_succ hz) (by rw [sizeLine_eq]; lia))))
    refine wpAny_pure ⟨rfl, _, _, xs ++ [x], c2, rfl, fun b o eb => s1.extBut _ _ (fun q => by rw [q, hH.1] at eb; cases eb) (hE3 _ _ (hE' _ _ eb)), by rw [← ea]; exact hc2, (s1.2 a hka.symm).trans na, by rw [List.length_append, hxl, List.length_singleton], hjv, fun k y u ey eu => ?_⟩
    by_cases hkj : k < xs.length
    · rw [List.getElem?_append_left hkj] at ey
      exact ((hx k y u ey eu).keeps hE3).but s1 nk
    · have hkl : k = xs.length := by
        have := (List.getElem?_eq_some_iff.mp ey).1
        rw [List.length_append, List.length_singleton] at this
        lia
      subst hkl
      rw [List.getElem?_append_right (Nat.le_refl _), Nat.sub_self] at ey
      cases ey
      rw [hxl, hv] at eu
      cases eu
      exact InstOf.but (⟨dx, gx, gd⟩ : InstOf h3 κ x v) s1 nk
  case done =>
    rintro s' ⟨h', tk', xs, e, rfl, hE', hk', ha', hxl, hjl, hx⟩
    refine wpAny_bind (listItems_at hk' rfl ?_)
    exact ks_end KI hu cturn (by rw [hxl, Nat.zero_add]) h2 h64 hin hp2 hE' hx hH hka hk' ha' fin

/- sorted(range(n), key=K). -/
theorem ks_sorted {Q : Value → Shared → Prop} {r : Addr} {b : Int} {t u v : Tok} {n : Nat} (KI : KIs w H κ fl d) (hu : A.units + 2 < cLine) (hh : A.handled = none) (hr : IsRange H r 0 b 1 t u v) (hsmall : Builtin.Range.small 0 b 1 = true) (hn : Builtin.Range.rangeSize 0 b 1 = (n : Int)) (h2 : 2 ≤ n) (h64 : n < 64)
    (hin : KIn n (kas_sort n)) (hp2 : ∀ i ∈ (KEval lt (kas_sort n)).toList, i < n)
    (kturn : ∀ (k : Nat) (t : Tok), k < n → ∀ h tk (Q : Value → Shared → Prop), Ext H h → (∀ r h' tk', Ext h h' → RInst κ (.int k t) h h' r → Q r { s with heap := h', toks := tk' }) → wpAny (MD w) A.in1.in1 (call (.ref κ) [.int k t]) Q (fun _ _ => False) { s with heap := h, toks := tk })
    (cturn : ∀ (i j : Nat) (ti tj : Tok) (x y : Addr), i < n → j < n → ∀ h tk (Q : Value → Shared → Prop), Ext H h → InstOf h κ x (.int i ti) → InstOf h κ y (.int j tj) → (∀ h' tk', Ext h h' → Q (.bool (lt i j)) { s with heap := h', toks := tk' }) → wpAny (MD w) A.in1.in1 (call (.ref d.f1) [.ref x, .ref y]) Q (fun _ _ => False) { s with heap := h, toks := tk })
    (hsH : s.heap = H)
    (fin : ∀ D h' tk' c us, Ext H h' → H.get? D = none → h'.get? D = some (seqObj "list" us.toArray c) → IntsAre us ((KEval lt (kas_sort n)).toList.map Int.ofNat) → Q (.ref D) { s with heap := h', toks := tk' }) :
    wpAny (MD w) A (call (.builtin "sorted") [.ref r] [(PySem.Str.ofString "key", .ref κ)]) Q E s := by
  subst hsH
  refine call_function_entry_kw kind_sorted plain_sorted entry_sorted (ksk_s1 _ _) ?_
  unfold Builtin.«sorted»
  refine wpAny_bind (m := checkCount "sorted" 1 1 _) (wpAny_pure ?_)
  refine wpAny_bind (collect_range (n := n) hh hr hsmall hn (Nat.le_trans (Nat.le_of_lt h64) (by decide)) fun h1 tk1 acc hE1 hacc => ?_)
  have hl : acc.toList.length = n := by rw [Array.length_toList]; exact hacc.1
  have hat : ∀ (k : Nat) (x : Value), acc.toList[k]? = some x → ∃ t, x = .int k t := fun k x e => by
    obtain ⟨t, et⟩ := hacc.2 k x (by rw [← e, Array.getElem?_toList])
    exact ⟨t, by rw [et]; simp⟩
  generalize acc.toList = vs at hl hat
  clear hacc
  refine wpAny_bind (wpAny_newList ?_ (by rw [hl, sizeLine_eq]; lia))
  have hoL : (h1.push (seqObj "list" vs.toArray 0)).get? h1.objs.size = some (seqObj "list" vs.toArray 0) := Heap.get?_push_size _ rfl
  have keep : Ext s.heap (h1.push (seqObj "list" vs.toArray 0)) := fun b o q => Heap.get?_push_of_some _ (hE1 _ _ q)
  have hD0 : s.heap.get? h1.objs.size = none := by
    cases q : s.heap.get? h1.objs.size with
    | none => rfl
    | some o => exact absurd (Heap.lt_size (hE1 _ _ q)) (Nat.lt_irrefl _)
  refine wpAny_bind (wpAny_holding (wpAny_call_entry_kw slot_list_sort ⟨_, hoL, rfl⟩ entry_list_sort ?body (ksk_l1 _ _)))
  case body =>
    show wpAny _ A.in1.in1 (Builtin.«list.sort» ⟨[.ref h1.objs.size], [(PySem.Str.ofString "key", .ref κ)]⟩) _ _ _
    rw [ksk_t1]
    have ha : h1.objs.size < (h1.push (seqObj "list" vs.toArray 0)).objs.size := Heap.lt_size hoL
    generalize h1.push (seqObj "list" vs.toArray 0) = h2' at *
    have s1 := Heap.SameBut.update h2' h1.objs.size (Obj.mapSeq fun _ => (#[] : Array Value))
    obtain ⟨e1, ho1⟩ : ∃ e1, (h2'.update h1.objs.size (Obj.mapSeq fun _ => (#[] : Array Value))).get? h1.objs.size = some (seqObj "list" #[] e1) := ⟨_, get?_update_seq hoL fun _ => #[]⟩
    have hkS : ((h2'.update h1.objs.size (Obj.mapSeq fun _ => (#[] : Array Value))).push (seqObj "tuple" vs.toArray 0)).objs.size = h2'.objs.size + 1 := by rw [size_push', Heap.size_update]
    have hk0 : s.heap.get? (h2'.objs.size + 1) = none := by
      cases q : s.heap.get? (h2'.objs.size + 1) with
      | none => rfl
      | some o => exact absurd (Heap.lt_size (keep _ _ q)) (Nat.not_lt.mpr (Nat.le_succ _))
    have vsz : vs.length ≤ sizeLine := by rw [hl, sizeLine_eq]; lia
    unfold ksk_tree
    refine wpAny_bind (listItems_at hoL rfl ?_)
    refine wpAny_bind (listUpdate_at hoL rfl ?_ (by rw [List.size_toArray]; exact vsz) (Nat.zero_le _))
    refine wpAny_bind (seqEpoch_at ho1 rfl ?_)
    refine wpAny_bind (wpAny_newTuple ?_ (by show vs.length ≤ _; exact vsz))
    refine wpAny_bind (wpAny_newList ?_ (Nat.zero_le _))
    refine wpAny_holding ?_
    rw [← hl] at hin hp2
    rw [hkS]
    refine ks_rest (s := s) (H := s.heap) (vs := vs) KI (by show A.units + 1 + 1 < _; exact hu) (fun x hx h tk Q' he hq => ?_) (fun i j x y u' v' hu' hv' h tk Q' he iu iv hq => ?_) (by rw [hl]; exact h2) (by rw [hl]; exact h64) hin hp2 (fun b o q => ?_) ⟨hk0, hD0⟩ (Nat.ne_of_gt (Nat.lt_succ_of_lt ha)) ?_ ?_ fun h' tk' c he hD => ⟨_, rfl, wpAny_pure ⟨_, rfl, ?_⟩⟩
    · obtain ⟨k, hk, e⟩ := List.getElem_of_mem hx
      obtain ⟨t', rfl⟩ := hat k x (by rw [List.getElem?_eq_getElem hk, e])
      exact kturn k t' (by rw [← hl]; exact hk) h tk Q' he hq
    · obtain ⟨ti, rfl⟩ := hat i u' hu'
      obtain ⟨tj, rfl⟩ := hat j v' hv'
      exact cturn i j ti tj x y (by rw [← hl]; exact (List.getElem?_eq_some_iff.mp hu').1) (by rw [← hl]; exact (List.getElem?_eq_some_iff.mp hv').1) h tk Q' he iu iv hq
    · exact Heap.get?_push_of_some _ (Heap.get?_push_of_some _ (s1.extBut _ _ (fun z => by rw [z, hD0] at q; cases q) (keep _ _ q)))
    · rw [← hkS]; exact Heap.get?_push_size _ rfl
    · exact Heap.get?_push_of_some _ (Heap.get?_push_of_some _ ho1)
    · refine fin _ h' tk' c _ he hD0 hD ?_
      rw [hl] at hp2 ⊢
      have go : ∀ (l : List Nat), (∀ i ∈ l, i < n) → IntsAre (l.map fun i => vs.getD i Value.none) (l.map Int.ofNat) := by
        intro l
        induction l with
        | nil => intro _; exact .nil
        | cons i l ih =>
          intro hl'
          have hi : i < vs.length := by rw [hl]; exact hl' i (.head _)
          obtain ⟨t', et⟩ := hat i vs[i] (List.getElem?_eq_getElem hi)
          rw [List.map_cons, List.map_cons]
          have e : vs.getD i Value.none = .int (Int.ofNat i) t' := by simp [hi, et]
          rw [e]
          exact .cons _ _ (ih fun k hk => hl' k (.tail _ hk))
      exact go _ hp2
end
end Mine
end
section
namespace Mine
section
/- All questions of the tree are about places below n, and all its ends are so. -/
noncomputable def KAll {α : Type} (n : Nat) (P : α → Prop) : KasT α → Prop
  | .ret a => P a
  | .ask i j k => i < n ∧ j < n ∧ ∀ b, KAll n P (k b)
theorem KAll.kin {α : Type} {n : Nat} {P : α → Prop} : ∀ {t : KasT α}, KAll n P t → KIn n t
  | .ret _, _ => trivial
  | .ask _ _ _, h => ⟨h.1, h.2.1, fun b => (h.2.2 b).kin⟩
theorem KAll.end {α : Type} {n : Nat} {P : α → Prop} {lt : Nat → Nat → Bool} : ∀ {t : KasT α}, KAll n P t → P (KEval lt t)
  | .ret _, h => h
  | .ask i j _, h => (h.2.2 (lt i j)).end
theorem KAll.bind {α β : Type} {n : Nat} {P : α → Prop} {P' : β → Prop} {f : α → KasT β} (hf : ∀ a, P a → KAll n P' (f a)) : ∀ {t : KasT α}, KAll n P t → KAll n P' (t.bind f)
  | .ret _, h => hf _ h
  | .ask _ _ _, h => ⟨h.1, h.2.1, fun b => (h.2.2 b).bind hf⟩
theorem keval_bind {α β : Type} {lt : Nat → Nat → Bool} {f : α → KasT β} : ∀ (t : KasT α), KEval lt (t.bind f) = KEval lt (f (KEval lt t))
  | .ret _ => rfl
  | .ask i j k => keval_bind (k (lt i j))
theorem KAll.ite {α : Type} {n : Nat} {P : α → Prop} {c : Prop} [Decidable c] {t u : KasT α} (h1 : KAll n P t) (h2 : KAll n P u) : KAll n P (if c then t else u) := by
  split
  · exact h1
  · exact h2
noncomputable abbrev PermN (n : Nat) (p : Array Nat) : Prop := p.Perm (List.toArray (List.range n))
theorem PermN.lt {n : Nat} {p : Array Nat} (h : PermN n p) {i : Nat} (hi : i ∈ p.toList) : i < n := by
  have := (Array.perm_iff_toList_perm.mp h).mem_iff.mp hi
  simpa using this
theorem PermN.size {n : Nat} {p : Array Nat} (h : PermN n p) : p.size = n := by
  have := h.size_eq
  simpa using this
theorem PermN.get {n : Nat} {p : Array Nat} (h : PermN n p) (h0 : 0 < n) (k : Nat) : p.getD k 0 < n := by
  rw [Array.getD_eq_getD_getElem?]
  by_cases hk : k < p.size
  · rw [Array.getElem?_eq_getElem hk]
    exact h.lt (by simp)
  · rw [Array.getElem?_eq_none (by lia)]
    exact h0
theorem PermN.rev {n : Nat} {p : Array Nat} (h : PermN n p) (i j : Nat) : PermN n (kas_rev p i j) := (mirror_perm _ _ _ _).trans h
theorem PermN.bub {n : Nat} {p : Array Nat} (h : PermN n p) (i j : Nat) : PermN n (bubble p i j) := (bubble_perm _ _ _).trans h
variable {N : Nat}
theorem all_asc (h0 : 0 < N) {p : Array Nat} (hp : PermN N p) : ∀ f n, KAll N (fun _ => True) (kas_asc p f n)
  | 0, _ => trivial
  | f + 1, n => ⟨hp.get h0 _, hp.get h0 _, fun _ => KAll.ite trivial (all_asc h0 hp f (n + 1))⟩
theorem all_desc (h0 : 0 < N) : ∀ f {p : Array Nat} n q, PermN N p → KAll N (fun r : Array Nat × Nat × Nat => PermN N r.1) (kas_desc f p n q)
  | 0, _, _, _, hp => hp
  | f + 1, _, _, _, hp => ⟨hp.get h0 _, hp.get h0 _, fun _ => KAll.ite (KAll.ite (all_desc h0 f _ _ (hp.rev _ _)) (all_desc h0 f _ _ hp)) ⟨hp.get h0 _, hp.get h0 _, fun _ => KAll.ite hp (all_desc h0 f _ _ hp)⟩⟩
theorem all_tail3 (h0 : 0 < N) {p : Array Nat} (hp : PermN N p) (n nrem : Nat) : KAll N (fun r : Nat × Array Nat => PermN N r.2) (kas_tail3 n nrem p) :=
  by
  unfold kas_tail3
  refine KAll.bind (P := fun _ => True) (fun m _ => ?_) (all_asc h0 (hp.rev _ _) _ _)
  exact hp.rev _ _
theorem all_descPart (h0 : 0 < N) {p : Array Nat} (hp : PermN N p) (n nrem : Nat) : KAll N (fun r : Nat × Array Nat => PermN N r.2) (kas_descPart n nrem p) :=
  by
  unfold kas_descPart
  refine KAll.bind (P := fun r : Array Nat × Nat × Nat => PermN N r.1) (fun r hr => ?_) (all_desc h0 _ _ _ hp)
  exact KAll.ite (all_tail3 h0 (PermN.rev hr _ _) _ _) (all_tail3 h0 hr _ _)
theorem all_count (h0 : 0 < N) {p : Array Nat} (hp : PermN N p) (nrem : Nat) : KAll N (fun r : Nat × Array Nat => PermN N r.2) (kas_count nrem p) :=
  by
  unfold kas_count
  refine KAll.bind (P := fun _ => True) (fun n _ => ?_) (all_asc h0 hp _ _)
  refine KAll.ite (show KAll N _ (KasT.ret _) from hp) (KAll.ite ?_ (all_descPart h0 hp _ _))
  exact ⟨hp.get h0 _, hp.get h0 _, fun _ => KAll.ite (show KAll N _ (KasT.ret _) from hp) (all_descPart h0 (hp.rev _ _) _ _)⟩
theorem all_place (h0 : 0 < N) {p : Array Nat} (hp : PermN N p) (k : Nat) : ∀ f l r, KAll N (fun _ => True) (kas_place p k f l r)
  | 0, _, _ => trivial
  | f + 1, _, _ => KAll.ite trivial ⟨hp.get h0 _, hp.get h0 _, fun _ => KAll.ite (all_place h0 hp k f _ _) (all_place h0 hp k f _ _)⟩
theorem all_bin (h0 : 0 < N) : ∀ f {p : Array Nat} k, PermN N p → KAll N (PermN N) (kas_bin f p k)
  | 0, _, _, hp => hp
  | f + 1, _, k, hp => KAll.bind (P := fun _ => True) (fun _ _ => all_bin h0 f _ (hp.bub _ _)) (all_place h0 hp k _ _ _)
theorem all_sort (h0 : 0 < N) : KAll N (PermN N) (kas_sort N) :=
  by
  unfold kas_sort
  refine KAll.bind (P := fun r : Nat × Array Nat => PermN N r.2) (fun r hr => ?_) (all_count h0 (Array.Perm.refl _) _)
  exact KAll.ite (all_bin h0 _ _ hr) (show KAll N _ (KasT.ret _) from hr)
end
/- i stands ahead of j. -/
noncomputable def Bf (K : Nat → Int) (i j : Nat) : Prop := K i < K j ∨ (K i = K j ∧ i < j)
theorem Bf.trans {K : Nat → Int} {i j k : Nat} (a : Bf K i j) (b : Bf K j k) : Bf K i k := by unfold Bf at *; lia
theorem g_rev {p : Array Nat} {i j : Nat} (hj : j ≤ p.size) (k : Nat) : (kas_rev p i j).getD k 0 = if i ≤ k ∧ k < j then p.getD (i + j - 1 - k) 0 else p.getD k 0 := by
  rw [Array.getD_eq_getD_getElem?]
  unfold kas_rev
  rw [getElem?_mirror_all hj k]
  split <;> rw [Array.getD_eq_getD_getElem?]
theorem g_bub {p : Array Nat} {src d : Nat} (hs : src < p.size) (hd : d ≤ src) (k : Nat) : (bubble p src d).getD k 0 = if k = src - d then p.getD src 0 else if src - d < k ∧ k ≤ src then p.getD (k - 1) 0 else p.getD k 0 := by
  rw [Array.getD_eq_getD_getElem?, getElem?_bubble hs d hd k]
  by_cases c : k = src - d
  · rw [if_pos c, if_pos c, Array.getD_eq_getD_getElem?]
  · rw [if_neg c, if_neg c]
    by_cases c2 : src - d < k ∧ k ≤ src
    · rw [if_pos c2, if_pos c2, Array.getD_eq_getD_getElem?]
    · rw [if_neg c2, if_neg c2, Array.getD_eq_getD_getElem?]
section
variable {K : Nat → Int} {N : Nat}
noncomputable abbrev ltK (K : Nat → Int) (i j : Nat) : Bool := decide (K i < K j)
/- Behind n the places hold themselves. -/
noncomputable def IdFrom (p : Array Nat) (n N : Nat) : Prop := ∀ k, n ≤ k → k < N → p.getD k 0 = k
noncomputable def LoTo (p : Array Nat) (n : Nat) : Prop := ∀ k, k < n → p.getD k 0 < n
noncomputable def UpTo (K : Nat → Int) (p : Array Nat) (n : Nat) : Prop := ∀ i j, i < j → j < n → Bf K (p.getD i 0) (p.getD j 0)
theorem up_snoc {p : Array Nat} {n : Nat} (h : UpTo K p n) (h0 : 0 < n) (hb : Bf K (p.getD (n - 1) 0) (p.getD n 0)) : UpTo K p (n + 1) := by
  intro i j hij hj
  by_cases e : j = n
  · subst e
    by_cases e2 : i = j - 1
    · subst e2; exact hb
    · exact (h i (j - 1) (by lia) (by lia)).trans hb
  · exact h i j hij (by lia)
theorem asc_ok : ∀ f {p : Array Nat} n, 0 < n → n + f ≤ N → IdFrom p n N → LoTo p n → UpTo K p n →
    n ≤ KEval (ltK K) (kas_asc p f n) ∧ KEval (ltK K) (kas_asc p f n) ≤ n + f ∧ UpTo K p (KEval (ltK K) (kas_asc p f n)) ∧ LoTo p (KEval (ltK K) (kas_asc p f n)) ∧
      (KEval (ltK K) (kas_asc p f n) < n + f → K (p.getD (KEval (ltK K) (kas_asc p f n)) 0) < K (p.getD (KEval (ltK K) (kas_asc p f n) - 1) 0))
  | 0, _, n, _, _, _, hl, hu => ⟨Nat.le_refl _, Nat.le_refl _, hu, hl, fun h => absurd h (by show ¬ n < n + 0; lia)⟩
  | f + 1, p, n, h0, hN, hid, hl, hu => by
    show n ≤ KEval (ltK K) (if ltK K (p.getD n 0) (p.getD (n - 1) 0) = true then KasT.ret n else kas_asc p f (n + 1)) ∧ _
    have step : KEval (ltK K) (kas_asc p (f + 1) n) = KEval (ltK K) (if ltK K (p.getD n 0) (p.getD (n - 1) 0) = true then KasT.ret n else kas_asc p f (n + 1)) := rfl
    rw [step]
    by_cases c : K (p.getD n 0) < K (p.getD (n - 1) 0)
    · rw [if_pos (decide_eq_true c)]
      exact ⟨Nat.le_refl _, by show n ≤ _; lia, hu, hl, fun _ => c⟩
    · rw [if_neg (by simpa using c)]
      have en := hid n (Nat.le_refl _) (by lia)
      have el := hl (n - 1) (by lia)
      have hb : Bf K (p.getD (n - 1) 0) (p.getD n 0) := by
        unfold Bf
        rw [en] at c ⊢
        lia
      have r := asc_ok f (p := p) (n + 1) (by lia) (by lia) (fun k a b => hid k (by lia) b) (fun k hk => by
        by_cases e : k = n
        · subst e; rw [en]; lia
        · have := hl k (by lia); lia) (up_snoc hu h0 hb)
      exact ⟨by lia, by lia, r.2.2.1, r.2.2.2.1, fun h => r.2.2.2.2 (by lia)⟩
end
end Mine
end
section
namespace Mine
section
variable {K : Nat → Int} {N : Nat}
noncomputable def DnTo (K : Nat → Int) (p : Array Nat) (n : Nat) : Prop := ∀ i j, i < j → j < n → Bf K (p.getD j 0) (p.getD i 0)
structure DI (K : Nat → Int) (N : Nat) (p : Array Nat) (n q : Nat) : Prop where
  sz : p.size = N
  hn : n ≤ N
  hq : q + 1 ≤ n
  id : IdFrom p n N
  lo : LoTo p n
  a : ∀ i j, i < j → j < n - (q + 1) → Bf K (p.getD j 0) (p.getD i 0)
  b : ∀ i j, i < n - (q + 1) → n - (q + 1) ≤ j → j < n → K (p.getD j 0) < K (p.getD i 0)
  c : ∀ i j, n - (q + 1) ≤ i → i < j → j < n → K (p.getD i 0) = K (p.getD j 0) ∧ p.getD i 0 < p.getD j 0
theorem rev_id {p : Array Nat} {i n : Nat} (hs : n ≤ p.size) (h : IdFrom p n N) : IdFrom (kas_rev p i n) n N := fun k a b => by
  rw [g_rev hs, if_neg (by lia)]; exact h k a b
theorem rev_lo {p : Array Nat} {i n : Nat} (hs : n ≤ p.size) (h : LoTo p n) : LoTo (kas_rev p i n) n := fun k a => by
  rw [g_rev hs]
  by_cases c : i ≤ k ∧ k < n
  · rw [if_pos c]; exact h _ (by lia)
  · rw [if_neg c]; exact h _ a
theorem rev_up {p : Array Nat} {n : Nat} (hs : n ≤ p.size) (h : DnTo K p n) : UpTo K (kas_rev p 0 n) n := fun i j hij hj => by
  rw [g_rev hs, g_rev hs, if_pos (by lia), if_pos (by lia)]
  exact h _ _ (by lia) (by lia)
theorem rev_dn {p : Array Nat} {n : Nat} (hs : n ≤ p.size) (h : UpTo K p n) : DnTo K (kas_rev p 0 n) n := fun i j hij hj => by
  rw [g_rev hs, g_rev hs, if_pos (by lia), if_pos (by lia)]
  exact h _ _ (by lia) (by lia)
theorem DI.close {p : Array Nat} {n q : Nat} (d : DI K N p n q) : DnTo K (kas_rev p (n - (q + 1)) n) n ∧ ∀ x, (∀ i, i < n → x < K (p.getD i 0)) → ∀ i, i < n → x < K ((kas_rev p (n - (q + 1)) n).getD i 0) := by
  have hs : n ≤ p.size := by rw [d.sz]; exact d.hn
  have hq := d.hq
  refine ⟨fun i j hij hj => ?_, fun x hx i hi => ?_⟩
  · rw [g_rev hs, g_rev hs]
    by_cases c1 : n - (q + 1) ≤ j ∧ j < n
    · rw [if_pos c1]
      by_cases c2 : n - (q + 1) ≤ i ∧ i < n
      · rw [if_pos c2]
        have z := d.c (n - (q + 1) + n - 1 - j) (n - (q + 1) + n - 1 - i) (by lia) (by lia) (by lia)
        unfold Bf; lia
      · rw [if_neg c2]
        have z := d.b i (n - (q + 1) + n - 1 - j) (by lia) (by lia) (by lia)
        unfold Bf; lia
    · rw [if_neg c1, if_neg (by lia)]
      exact d.a i j hij (by lia)
  · rw [g_rev hs]
    by_cases c2 : n - (q + 1) ≤ i ∧ i < n
    · rw [if_pos c2]; exact hx _ (by lia)
    · rw [if_neg c2]; exact hx _ hi
theorem DI.dn {p : Array Nat} {n : Nat} (d : DI K N p n 0) : DnTo K p n := fun i j hij hj => by
  have hq := d.hq
  by_cases c : j < n - (0 + 1)
  · exact d.a i j hij c
  · have z := d.b i j (by lia) (by lia) hj
    unfold Bf; lia
theorem DI.next {p : Array Nat} {n : Nat} (hs : p.size = N) (hn : n < N) (h0 : 0 < n) (hid : IdFrom p n N) (hl : LoTo p n) (hd : DnTo K p n) (hk : ∀ i, i < n → K (p.getD n 0) < K (p.getD i 0)) : DI K N p (n + 1) 0 where
  sz := hs
  hn := hn
  hq := by lia
  id := fun k a b => hid k (by lia) b
  lo := fun k a => by
    by_cases e : k = n
    · subst e; rw [hid k (Nat.le_refl _) hn]; lia
    · have := hl k (by lia); lia
  a := fun i j hij hj => hd i j hij (by lia)
  b := fun i j hi hj hj2 => by
    have e : j = n := by lia
    subst e
    exact hk i (by lia)
  c := fun i j hi hij hj => by lia
theorem DI.low {p : Array Nat} {n q : Nat} (d : DI K N p n q) {x : Int} (hx : x < K (p.getD (n - 1) 0)) : ∀ i, i < n → x < K (p.getD i 0) := fun i hi => by
  have hq := d.hq
  by_cases c : i < n - (q + 1)
  · have := d.b i (n - 1) c (by lia) (by lia)
    lia
  · by_cases e : i = n - 1
    · subst e; exact hx
    · have := d.c i (n - 1) (by lia) (by lia) (by lia)
      lia
theorem DI.more {p : Array Nat} {n q : Nat} (d : DI K N p n q) (hn : n < N) (eq : K (p.getD n 0) = K (p.getD (n - 1) 0)) : DI K N p (n + 1) (q + 1) := by
  have en := d.id n (Nat.le_refl _) hn
  have hq := d.hq
  refine ⟨d.sz, hn, by lia, fun k a b => d.id k (by lia) b, fun k a => ?_, fun i j hij hj => d.a i j hij (by lia), fun i j hi hj hj2 => ?_, fun i j hi hij hj => ?_⟩
  · by_cases e : k = n
    · subst e; rw [en]; lia
    · have := d.lo k (by lia); lia
  · by_cases e : j = n
    · subst e
      have := d.b i (j - 1) (by lia) (by lia) (by lia)
      lia
    · exact d.b i j (by lia) (by lia) (by lia)
  · by_cases e : j = n
    · subst e
      refine ⟨?_, ?_⟩
      · by_cases e2 : i = j - 1
        · subst e2; lia
        · have := d.c i (j - 1) (by lia) (by lia) (by lia); lia
      · rw [en]; exact d.lo i (by lia)
    · exact d.c i j (by lia) hij (by lia)
theorem desc_ok : ∀ f {p : Array Nat} n q, n + f ≤ N → DI K N p n q → n ≤ (KEval (ltK K) (kas_desc f p n q)).2.1 ∧ DI K N (KEval (ltK K) (kas_desc f p n q)).1 (KEval (ltK K) (kas_desc f p n q)).2.1 (KEval (ltK K) (kas_desc f p n q)).2.2
  | 0, _, _, _, _, d => ⟨Nat.le_refl _, d⟩
  | f + 1, p, n, q, hN, d => by
    have step : KEval (ltK K) (kas_desc (f + 1) p n q) = KEval (ltK K) (if ltK K (p.getD n 0) (p.getD (n - 1) 0) = true then (if q > 0 then kas_desc f (kas_rev p (n - (q + 1)) n) (n + 1) 0 else kas_desc f p (n + 1) 0)
      else .ask (p.getD (n - 1) 0) (p.getD n 0) fun d => if d = true then .ret (p, n, q) else kas_desc f p (n + 1) (q + 1)) := rfl
    rw [step]
    have hq := d.hq
    have hs : n ≤ p.size := by rw [d.sz]; exact d.hn
    have en := d.id n (Nat.le_refl _) (by lia)
    by_cases c : K (p.getD n 0) < K (p.getD (n - 1) 0)
    · rw [if_pos (decide_eq_true c)]
      have low := d.low c
      by_cases hq0 : q > 0
      · rw [if_pos hq0]
        have cl := d.close
        have e : (kas_rev p (n - (q + 1)) n).getD n 0 = p.getD n 0 := by rw [g_rev hs, if_neg (by lia)]
        have r := desc_ok f (p := kas_rev p (n - (q + 1)) n) (n + 1) 0 (by lia) (DI.next (by rw [kas_rev_size, d.sz]) (by lia) (by lia) (rev_id hs d.id) (rev_lo hs d.lo) cl.1 (by rw [e]; exact cl.2 _ low))
        exact ⟨by lia, r.2⟩
      · rw [if_neg hq0]
        have e : q = 0 := by lia
        subst e
        have r := desc_ok f (p := p) (n + 1) 0 (by lia) (DI.next d.sz (by lia) (by lia) d.id d.lo d.dn low)
        exact ⟨by lia, r.2⟩
    · rw [if_neg (by simpa using c)]
      show n ≤ (KEval (ltK K) (if ltK K (p.getD (n - 1) 0) (p.getD n 0) = true then KasT.ret (p, n, q) else kas_desc f p (n + 1) (q + 1))).2.1 ∧ DI K N (KEval (ltK K) (if ltK K (p.getD (n - 1) 0) (p.getD n 0) = true then KasT.ret (p, n, q) else kas_desc f p (n + 1) (q + 1))).1 (KEval (ltK K) (if ltK K (p.getD (n - 1) 0) (p.getD n 0) = true then KasT.ret (p, n, q) else kas_desc f p (n + 1) (q + 1))).2.1 (KEval (ltK K) (if ltK K (p.getD (n - 1) 0) (p.getD n 0) = true then KasT.ret (p, n, q) else kas_desc f p (n + 1) (q + 1))).2.2
      by_cases c2 : K (p.getD (n - 1) 0) < K (p.getD n 0)
      · rw [if_pos (decide_eq_true c2)]
        exact ⟨Nat.le_refl _, d⟩
      · rw [if_neg (by simpa using c2)]
        have eq : K (p.getD n 0) = K (p.getD (n - 1) 0) := by lia
        have r := desc_ok f (p := p) (n + 1) (q + 1) (by lia) (d.more (by lia) eq)
        exact ⟨by lia, r.2⟩
/- What the count of the first run leaves. -/
structure RunOk (K : Nat → Int) (N : Nat) (m : Nat) (p : Array Nat) : Prop where
  sz : p.size = N
  h0 : 0 < m
  hm : m ≤ N
  id : IdFrom p m N
  lo : LoTo p m
  up : UpTo K p m
theorem tail3_ok {p : Array Nat} {n : Nat} (hs : p.size = N) (h0 : 0 < n) (hn : n ≤ N) (hid : IdFrom p n N) (hl : LoTo p n) (hd : DnTo K p n) : RunOk K N (KEval (ltK K) (kas_tail3 n N p)).1 (KEval (ltK K) (kas_tail3 n N p)).2 := by
  have hs' : n ≤ p.size := by rw [hs]; exact hn
  unfold kas_tail3
  rw [keval_bind]
  have r := asc_ok (K := K) (N := N) (N - n) (p := kas_rev p 0 n) n h0 (by lia) (rev_id hs' hid) (rev_lo hs' hl) (rev_up hs' hd)
  generalize KEval (ltK K) (kas_asc (kas_rev p 0 n) (N - n) n) = m at *
  show RunOk K N m (kas_rev p 0 n)
  exact ⟨by rw [kas_rev_size, hs], by lia, by lia, fun k a b => rev_id hs' hid k (by lia) b, r.2.2.2.1, r.2.2.1⟩
theorem descPart_ok {p : Array Nat} {n : Nat} (hs : p.size = N) (h0 : 0 < n) (hn : n < N) (hid : IdFrom p n N) (hl : LoTo p n) (hd : DnTo K p n) (hk : ∀ i, i < n → K (p.getD n 0) < K (p.getD i 0)) :
    RunOk K N (KEval (ltK K) (kas_descPart n N p)).1 (KEval (ltK K) (kas_descPart n N p)).2 := by
  unfold kas_descPart
  rw [keval_bind]
  have r := desc_ok (K := K) (N := N) (N - (n + 1)) (n + 1) 0 (by lia) (DI.next hs hn h0 hid hl hd hk)
  generalize KEval (ltK K) (kas_desc (N - (n + 1)) p (n + 1) 0) = r' at *
  obtain ⟨p', n', q'⟩ := r'
  obtain ⟨hn', d⟩ := r
  dsimp only at hn' d ⊢
  have hs' : n' ≤ p'.size := by rw [d.sz]; exact d.hn
  by_cases c : q' > 0
  · rw [if_pos c]
    exact tail3_ok (by rw [kas_rev_size, d.sz]) (by lia) d.hn (rev_id hs' d.id) (rev_lo hs' d.lo) d.close.1
  · rw [if_neg c]
    have e : q' = 0 := by lia
    subst e
    exact tail3_ok d.sz (by lia) d.hn d.id d.lo d.dn
theorem g_range {k : Nat} (h : k < N) : (List.toArray (List.range N)).getD k 0 = k := by simp [Array.getD, h]
theorem count_ok (h1 : 2 ≤ N) : RunOk K N (KEval (ltK K) (kas_count N (List.toArray (List.range N)))).1 (KEval (ltK K) (kas_count N (List.toArray (List.range N)))).2 := by
  have hs : (List.toArray (List.range N)).size = N := by simp
  have hid : IdFrom (List.toArray (List.range N)) 0 N := fun k _ hk => g_range hk
  unfold kas_count
  rw [keval_bind]
  have r := asc_ok (K := K) (N := N) (N - 1) (p := List.toArray (List.range N)) 1 (by lia) (by lia) (fun k _ hk => g_range hk) (fun k hk => by
    have e : k = 0 := by lia
    subst e; rw [g_range (by lia)]; lia) (fun i j hij hj => by lia)
  generalize KEval (ltK K) (kas_asc (List.toArray (List.range N)) (N - 1) 1) = m at *
  generalize List.toArray (List.range N) = p at *
  obtain ⟨r1, r2, r3, r4, r5⟩ := r
  have idm : IdFrom p m N := fun k a b => hid k (by lia) b
  by_cases c : (m == N) = true
  · rw [if_pos c]
    have e : m = N := by simpa using c
    exact ⟨hs, by show 0 < m; lia, by show m ≤ N; lia, idm, r4, r3⟩
  · rw [if_neg c]
    have e : m ≠ N := by simpa using c
    have c3 := r5 (by lia)
    by_cases c1 : m > 1
    · rw [if_pos c1]
      show RunOk K N (KEval (ltK K) (if ltK K (p.getD 0 0) (p.getD (m - 1) 0) = true then KasT.ret (m, p) else kas_descPart m N (kas_rev p 0 m))).1 (KEval (ltK K) (if ltK K (p.getD 0 0) (p.getD (m - 1) 0) = true then KasT.ret (m, p) else kas_descPart m N (kas_rev p 0 m))).2
      by_cases c2 : K (p.getD 0 0) < K (p.getD (m - 1) 0)
      · rw [if_pos (decide_eq_true c2)]
        exact ⟨hs, by show 0 < m; lia, by show m ≤ N; lia, idm, r4, r3⟩
      · rw [if_neg (by simpa using c2)]
        have hs' : m ≤ p.size := by lia
        refine descPart_ok (by rw [kas_rev_size, hs]) (by lia) (by lia) (rev_id hs' idm) (rev_lo hs' r4) (rev_dn hs' r3) fun i hi => ?_
        rw [g_rev hs', g_rev hs', if_neg (by lia), if_pos (by lia)]
        by_cases e0 : 0 + m - 1 - i = 0
        · rw [e0]; lia
        · have z := r3 0 (0 + m - 1 - i) (by lia) (by lia)
          unfold Bf at z; lia
    · rw [if_neg c1]
      have e1 : m = 1 := by lia
      subst e1
      refine descPart_ok hs (by lia) (by lia) idm r4 (fun i j hij hj => by lia) fun i hi => ?_
      have e0 : i = 0 := by lia
      subst e0
      exact c3
theorem place_ok {p : Array Nat} {k : Nat} (hu : UpTo K p k) : ∀ f l r, l ≤ r → r ≤ k → r - l ≤ f → (∀ i, i < l → K (p.getD i 0) ≤ K (p.getD k 0)) → (∀ i, r ≤ i → i < k → K (p.getD k 0) < K (p.getD i 0)) →
    KEval (ltK K) (kas_place p k f l r) ≤ k ∧ (∀ i, i < KEval (ltK K) (kas_place p k f l r) → K (p.getD i 0) ≤ K (p.getD k 0)) ∧ ∀ i, KEval (ltK K) (kas_place p k f l r) ≤ i → i < k → K (p.getD k 0) < K (p.getD i 0)
  | 0, l, r, hlr, hr, hf, a, b => by
    have e : l = r := by lia
    subst e
    exact ⟨hr, a, b⟩
  | f + 1, l, r, hlr, hr, hf, a, b => by
    have step : KEval (ltK K) (kas_place p k (f + 1) l r) = KEval (ltK K) (if l ≥ r then .ret l else .ask (p.getD k 0) (p.getD ((l + r) / 2) 0) fun c => if c = true then kas_place p k f l ((l + r) / 2) else kas_place p k f ((l + r) / 2 + 1) r) := rfl
    rw [step]
    by_cases c : l ≥ r
    · rw [if_pos c]
      have e : l = r := by lia
      subst e
      exact ⟨hr, a, b⟩
    · rw [if_neg c]
      have step2 : KEval (ltK K) (KasT.ask (p.getD k 0) (p.getD ((l + r) / 2) 0) fun c => if c = true then kas_place p k f l ((l + r) / 2) else kas_place p k f ((l + r) / 2 + 1) r) = KEval (ltK K) (if ltK K (p.getD k 0) (p.getD ((l + r) / 2) 0) = true then kas_place p k f l ((l + r) / 2) else kas_place p k f ((l + r) / 2 + 1) r) := rfl
      rw [step2]
      by_cases c2 : K (p.getD k 0) < K (p.getD ((l + r) / 2) 0)
      · rw [if_pos (decide_eq_true c2)]
        refine place_ok hu f l ((l + r) / 2) (by lia) (by lia) (by lia) a fun i hi hik => ?_
        by_cases e : i = (l + r) / 2
        · rw [e]; exact c2
        · have z := hu ((l + r) / 2) i (by lia) hik
          unfold Bf at z; lia
      · rw [if_neg (by simpa using c2)]
        refine place_ok hu f ((l + r) / 2 + 1) r (by lia) hr (by lia) (fun i hi => ?_) b
        by_cases e : i = (l + r) / 2
        · rw [e]; lia
        · have z := hu i ((l + r) / 2) (by lia) (by lia)
          unfold Bf at z; lia
theorem bin_ok : ∀ f {p : Array Nat} k, RunOk K N k p → k + f = N → UpTo K (KEval (ltK K) (kas_bin f p k)) N
  | 0, p, k, r, e => by
    have e' : k = N := by lia
    subst e'
    exact r.up
  | f + 1, p, k, r, e => by
    unfold kas_bin
    rw [keval_bind]
    have hk := r.id k (Nat.le_refl _) (by lia)
    have pl := place_ok r.up k 0 k (by lia) (Nat.le_refl _) (by lia) (fun i hi => by lia) (fun i hi hik => by lia)
    generalize KEval (ltK K) (kas_place p k k 0 k) = l at *
    obtain ⟨p1, p2, p3⟩ := pl
    have hsz : k < p.size := by rw [r.sz]; lia
    have G : ∀ i, (bubble p k (k - l)).getD i 0 = if i = l then p.getD k 0 else if l < i ∧ i ≤ k then p.getD (i - 1) 0 else p.getD i 0 := fun i => by
      have := g_bub hsz (Nat.sub_le k l) i
      rw [show k - (k - l) = l by lia] at this
      exact this
    refine bin_ok f (k + 1) ⟨by rw [bubble_size, r.sz], by lia, by lia, fun i a b => ?_, fun i a => ?_, fun i j hij hj => ?_⟩ (by lia)
    · rw [G, if_neg (by lia), if_neg (by lia)]
      exact r.id i (by lia) b
    · rw [G]
      by_cases c : i = l
      · rw [if_pos c, hk]; lia
      · rw [if_neg c]
        by_cases c2 : l < i ∧ i ≤ k
        · rw [if_pos c2]; have := r.lo (i - 1) (by lia); lia
        · rw [if_neg c2]; have := r.lo i (by lia); lia
    · rw [G, G]
      by_cases ci : i = l
      · rw [if_pos ci, if_neg (by lia), if_pos (by lia)]
        exact .inl (p3 _ (by lia) (by lia))
      · rw [if_neg ci]
        by_cases ci2 : l < i ∧ i ≤ k
        · rw [if_pos ci2, if_neg (by lia), if_pos (by lia)]
          exact r.up _ _ (by lia) (by lia)
        · rw [if_neg ci2]
          by_cases cj : j = l
          · rw [if_pos cj, hk]
            have := p2 i (by lia)
            have := r.lo i (by lia)
            unfold Bf
            rw [hk] at *
            lia
          · rw [if_neg cj]
            by_cases cj2 : l < j ∧ j ≤ k
            · rw [if_pos cj2]
              exact r.up _ _ (by lia) (by lia)
            · rw [if_neg cj2]
              exact r.up _ _ hij (by lia)
/- The sort is the stable one. -/
theorem sort_ok (h2 : 2 ≤ N) : UpTo K (KEval (ltK K) (kas_sort N)) N := by
  unfold kas_sort
  rw [keval_bind]
  have r := count_ok (K := K) h2
  generalize KEval (ltK K) (kas_count N (List.toArray (List.range N))) = r' at *
  obtain ⟨m, p⟩ := r'
  dsimp only at r ⊢
  by_cases c : m < N
  · rw [if_pos c]
    have h0 := r.h0
    have e : max m 1 = m := by lia
    rw [e]
    exact bin_ok _ m r (by lia)
  · rw [if_neg c]
    have e : m = N := by have := r.hm; lia
    subst e
    exact r.up
theorem sort_list (h2 : 2 ≤ N) : (KEval (ltK K) (kas_sort N)).toList.Perm (List.range N) ∧ (KEval (ltK K) (kas_sort N)).toList.Pairwise (Bf K) := by
  have hp := (all_sort (N := N) (by lia)).end (lt := ltK K)
  refine ⟨by simpa using Array.perm_iff_toList_perm.mp hp, ?_⟩
  have u := sort_ok (K := K) h2
  rw [List.pairwise_iff_getElem]
  intro i j hi hj hij
  have hsz := PermN.size hp
  have hj' : j < N := by rw [Array.length_toList, hsz] at hj; exact hj
  have z := u i j hij hj'
  rw [Array.getD_eq_getD_getElem?, Array.getD_eq_getD_getElem?, Array.getElem?_eq_getElem (by lia), Array.getElem?_eq_getElem (by lia)] at z
  simpa using z
end
end Mine
end
section
namespace Mine
open PySem.Calls PySem.Spec LCg
section
variable {w : World} {f : Addr} {vs : List Value} {n : Nat} {Pre : Heap → Prop}
  {p : Program} {loose : List Str} {mean : ExcName → Option Value} {mg mb : Str → Option Value} {dp un : Nat} {gd : Option (List Code)} {cn : Str} {cs : Scope} {a : Addr} {ccd : Value}
  {cl : List (Str × Addr)} {outer : List Env} {A₀ : Around} {base h₀ : Heap} {L : Addr} {m : Str → Option Value} {s : Shared} {news : List (Addr × Obj)} {Q E : Value → Shared → Prop}
theorem useFiles (C : Told w f vs n Pre RFiles) (B : Below A₀ base outer h₀) (F : Fr h₀ L s.heap m) (X : (hd.heap_39 w.params).In h₀) (N : News h₀ L s.heap news) (T : Top p loose mean mg mb h₀) (hk : cs.kind = .function)
    (hpre : Pre s.heap) (hdp : dp + n < recursionLimit) (hun : un + 8 * n < cLine)
    (h : ∀ D ys fs nw h' tk', Fr h₀ L h' m → News h₀ L h' (((D, lst ys) :: news) ++ nw) → FilesIn nw ys fs → fs.length = 8 → (∀ t ∈ fs, FileOk t) → Q (.ref D) { s with heap := h', toks := tk' }) :
    wpAny (model PySem.Challenge.rw_ij0209_01.row.prog w) (ktrTop dp un gd cn cs L a ccd cl outer) (call (.ref f) vs) Q E s := by
  refine use C B F X N T hk hpre hdp hun fun v h' tk' F' N' st sz r => ?_
  obtain ⟨D, ys, fs, nw, rfl, h8, hn, hf, hok⟩ := r
  refine h D ys fs nw h' tk' F' (fun q hq => ?_) hf h8 hok
  have z := news_more hn F N' q
  rcases List.mem_append.mp hq with hq | hq
  · rcases List.mem_cons.mp hq with rfl | hq
    · exact z (List.mem_append_left _ (.head _))
    · exact z (List.mem_append_right _ hq)
  · exact z (List.mem_append_left _ (.tail _ hq))
end
section
variable {prog : Program} {w : World} {A : Around} {E : Value → Shared → Prop} {s : Shared} {env : Env} {h₀ : Heap} {L : Addr} {m : Str → Option Value} {news : List (Addr × Obj)}
theorem for_enter {M : Model} {target : Expr} {iter : Expr} {body orelse : List Stmt} {pos : Pos} {Q : Flow → Shared → Prop}
    (h : wpAny M A (eval iter env) (Stop fun x s₁ => wpAny M A (pyIter x) (fun it s₂ =>
      codeAny M A (.forLoop target it body orelse env) (fun r s' => match r with | .ok f => Q f s' | .error e => cameBackBy M A env E e s') s₂) E s₁) E s)
    (hs : ∀ x, foldedSetIterable iter env x = pure x := by intro _; rfl) :
    wpAny M A (exec (.For target iter body orelse pos) env) Q E s := wpAny_For h hs
noncomputable abbrev rio (i n : Nat) : Obj := { cls := .type "range_iterator", data := .fields #[rawInt (0 + (i : Nat) * 1), rawInt ((n : Int) - (i : Nat)), rawInt 1] }
noncomputable def REnd (s : Shared) (h₀ : Heap) (L : Addr) (I : Addr) (o : Obj) (J : (Str → Option Value) → List (Addr × Obj) → Prop) (f : Flow) (s₂ : Shared) : Prop :=
  f = .next ∧ ∃ h' tk m₂ news₂, s₂ = { s with heap := h', toks := tk } ∧ Fr h₀ L h' m₂ ∧ News h₀ L h' ((I, o) :: news₂) ∧ (∀ p ∈ news₂, p.1 ≠ I) ∧ J m₂ news₂
theorem for_range {x : Str} {px : Pos} {body : List Stmt} {R : Result → Shared → Prop} {r : Addr} {b : Int} {t u v : Tok} {n : Nat} (hh : A.handled = none) (hL : env.locals = L) (hx : env.kindOf x = some .local) (hp : (env.scope.kind == .class || (env.scope.kind == .module && env.locals != env.globals)) = false)
    (F : Fr h₀ L s.heap m) (N : News h₀ L s.heap news) (hr : IsRange s.heap r 0 b 1 t u v) (hsm : Builtin.Range.small 0 b 1 = true) (hn : Builtin.Range.rangeSize 0 b 1 = ((n : Nat) : Int))
    (J : Nat → (Str → Option Value) → List (Addr × Obj) → Prop) (h0 : J 0 m news)
    (turn : ∀ i t m₁ news₁ I h tk (E' : Value → Shared → Prop), i < n → J i m₁ news₁ → Fr h₀ L h (fun y => if y = x then some (.int (i : Int) t) else m₁ y) → News h₀ L h ((I, rio (i + 1) n) :: news₁) → (∀ p ∈ news₁, p.1 ≠ I) →
      wpAny (model prog w) A (execs body env) (REnd s h₀ L I (rio (i + 1) n) (J (i + 1))) E' { s with heap := h, toks := tk })
    (done : ∀ h tk m' news', J n m' news' → Fr h₀ L h m' → News h₀ L h news' → R (.ok .next) { s with heap := h, toks := tk }) :
    wpAny (model prog w) A (pyIter (.ref r)) (fun it s₂ => codeAny (model prog w) A (.forLoop (.Name x px) it body [] env) R s₂) E s := by
  subst hL
  refine wpAny_pyIter_range hr hsm ?_
  generalize hI : s.heap.objs.size = I
  have hI0 : s.heap.get? I = none := Heap.get?_none_of_le (Nat.le_of_eq hI)
  have hLI : env.locals ≠ I := fun q => by have := F.ns.lt; rw [q, hI] at this; exact Nat.lt_irrefl _ this
  have hI0' : h₀.get? I = none := by
    cases e : h₀.get? I with
    | none => rfl
    | some o => rw [F.keep _ _ e] at hI0; cases hI0
  have W := range_walks (prog := prog) (w := w) (I := I) hh 0 n
  have hoff0 : ∀ p ∈ news, p.1 ≠ I := fun p hp q => by
    have := (N p hp).1
    rw [q, hI0] at this; cases this
  refine codeAny_forLoop (fun k s' => ∃ h' tk m' news' i, s' = { s with heap := h', toks := tk } ∧ h'.get? I = some (rio i n) ∧ Fr h₀ env.locals h' m' ∧ News h₀ env.locals h' news' ∧ (∀ p ∈ news', p.1 ≠ I) ∧ J i m' news' ∧ i ≤ n ∧ k = n + 1 - i) ?_ (n + 1)
    ⟨_, s.toks, m, news, 0, rfl, ?_, F.keeps fun _ _ e => Heap.get?_push_of_some _ e, fun p hp => ⟨Heap.get?_push_of_some _ (N p hp).1, (N p hp).2⟩, hoff0, h0, Nat.zero_le _, rfl⟩
  case refine_2 =>
    rw [hn, ← hI]
    have e : rio 0 n = { cls := .type "range_iterator", data := .fields #[rawInt 0, rawInt (n : Int), rawInt 1] } := by simp [rio]
    rw [e]
    exact Heap.get?_push_size _ rfl
  rintro k s' ⟨h', tk, m', news', i, rfl, hst', F', N', hoff, hJ, hi, rfl⟩
  have next : ∀ h₁ : Heap, (∀ b o, b ∉ [I] → h'.get? b = some o → h₁.get? b = some o) → Fr h₀ env.locals h₁ m' ∧ News h₀ env.locals h₁ news' := fun h₁ hk₁ =>
    ⟨⟨F'.ns.at' fun o e => hk₁ _ o (by simpa using hLI) e, fun b o e => hk₁ b o (by simpa using fun q => by rw [q, hI0'] at e; cases e) (F'.keep b o e), F'.above⟩, fun p hp => ⟨hk₁ _ _ (by simpa using hoff p hp) (N' p hp).1, (N' p hp).2⟩⟩
  by_cases hlt : i < n
  · refine W.item i _ _ _ hlt hst' fun v h₁ tk₁ hP hst₁ hk₁ => ?_
    obtain ⟨F₁, N₁⟩ := next h₁ hk₁
    obtain ⟨t', rfl⟩ := hP
    refine wpAny_assign_Name (wpAny_storeName_local hx F₁.ns (fun h₂ hn₂ hs₂ => ?_) hp)
    have F₂ := F₁.set hn₂ hs₂
    have hst₂ : h₂.get? I = some (rio (i + 1) n) := (hs₂.2 I (Ne.symm hLI)).trans hst₁
    have N₂ : News h₀ env.locals h₂ ((I, rio (i + 1) n) :: news') := fun p hp => by
      rcases List.mem_cons.mp hp with rfl | hp
      · exact ⟨hst₂, Ne.symm hLI, hI0'⟩
      · exact N₁.set hs₂ p hp
    rw [Int.zero_add] at F₂
    refine wpAny_mono (turn i t' m' news' I h₂ _ _ hlt hJ F₂ N₂ hoff) (fun f s₃ h₃ => ?_) fun _ _ e => e
    obtain ⟨rfl, h₃', tk₃, m₂, news₂, rfl, F₃, N₃, ho₃, hJ₃⟩ := h₃
    exact ⟨n + 1 - (i + 1), Nat.sub_lt_sub_left (Nat.lt_succ_of_lt hlt) (Nat.lt_succ_self i), h₃', tk₃, m₂, news₂, i + 1, rfl, (N₃ _ (.head _)).1, F₃, fun p hp => N₃ p (.tail _ hp), ho₃, hJ₃, hlt, rfl⟩
  · have hin : i = n := Nat.le_antisymm hi (Nat.not_lt.mp hlt)
    subst hin
    refine W.done _ _ _ hst' fun h₁ tk₁ hk₁ => wpAny_execs_nil ?_
    obtain ⟨F₁, N₁⟩ := next h₁ hk₁
    exact done h₁ tk₁ m' news' hJ F₁ N₁
end
end Mine
end
section
namespace Mine
open PySem.Calls PySem.Spec LCg
/- How a turn ends that keeps nothing new. -/
noncomputable def NEnd (s : Shared) (h₀ : Heap) (L : Addr) (m : Str → Option Value) (base : List (Addr × Obj)) (Gn : Value → Prop) (y : Value) (s₂ : Shared) : Prop :=
  ∃ h' tk, s₂ = { s with heap := h', toks := tk } ∧ Fr h₀ L h' m ∧ News h₀ L h' base ∧ Gn y
theorem NEnd.intro {s : Shared} {h₀ h' : Heap} {L : Addr} {m : Str → Option Value} {base all : List (Addr × Obj)} {Gn : Value → Prop} {y : Value} {tk : Nat} (F : Fr h₀ L h' m) (N : News h₀ L h' all) (hs : ∀ p ∈ base, p ∈ all) (hG : Gn y) : NEnd s h₀ L m base Gn y { s with heap := h', toks := tk } := ⟨h', tk, rfl, F, fun p hp => N p (hs p hp), hG⟩
section
variable {M : Model} {A : Around} {E : Value → Shared → Prop} {s : Shared} {env : Env}
theorem ifs_nil {K : Bool → Shared → Prop} (h : K true s) : wpAny M A (forIn ([] : List Expr) true fun c r => if r = true then do let ok ← isTrue c env (eval c env); pure (ForInStep.yield ok) else pure (ForInStep.yield r)) K E s := by
  rw [List.forIn_nil]; exact wpAny_pure h
theorem ifs_one {c : Expr} {K : Bool → Shared → Prop} (h : wpAny M A (isTrue c env (eval c env)) K E s) : wpAny M A (forIn [c] true fun c r => if r = true then do let ok ← isTrue c env (eval c env); pure (ForInStep.yield ok) else pure (ForInStep.yield r)) K E s := by
  rw [List.forIn_cons, if_pos rfl]
  refine wpAny_bind (wpAny_bind (wpAny_mono h (fun b s' hb => wpAny_pure ?_) fun _ _ e => e))
  show wpAny M A (forIn ([] : List Expr) b _) K E s'
  rw [List.forIn_nil]
  exact wpAny_pure hb
end
section
variable {prog : Program} {w : World} {A : Around} {E : Value → Shared → Prop} {s : Shared} {h₀ : Heap} {L : Addr} {m : Str → Option Value} {env : Env} {news : List (Addr × Obj)}
theorem comp_freeN {elt target iter : Expr} {ifs : List Expr} {scope : Scope} {cl : List (Str × Addr)} {pos : Pos} {xv : Value} {n : Nat} {P : Nat → Value → Prop} {use : Option (Value → Sem Unit)} {Q : Value → Shared → Prop}
    (hcell : ∀ y ∈ scope.names, y.2 ≠ .cell) (hkind : scope.kind = .function) (S : Src prog w A h₀ L m news s xv n P)
    (Bv : Nat → Value → (Str → Option Value) → Prop)
    (bindS : ∀ C I i v h tk m₂ (Q : Unit → Shared → Prop) (E' : Value → Shared → Prop), i < n → P i v → h.Ns C m₂ → (∃ o, h.get? I = some o ∧ ItO o) → News h₀ L h news →
      (∀ h' tk' m₃, h'.Ns C m₃ → Bv i v m₃ → (∀ b o, b ≠ C → h.get? b = some o → h'.get? b = some o) → Q () { s with heap := h', toks := tk' }) →
      wpAny (model prog w) A (letOwnedTupleGo target (.ref I) v) (fun _ s₀ => wpAny (model prog w) A (assign target (compEnvC scope cl C env) v) Q E' s₀) E' { s with heap := h, toks := tk })
    (G : Nat → List Value → Prop) (g0 : G 0 [])
    (turn : ∀ C I D i v ys oI oC m₂ h tk (E' : Value → Shared → Prop), i < n → P i v → G i ys → NsObj oC m₂ → Bv i v m₂ → Fr h₀ L h m → News h₀ L h ((C, oC) :: (I, oI) :: (D, lst ys) :: news) →
      wpAny (model prog w) A (forIn ifs true fun c r => if r = true then do let ok ← isTrue c (compEnvC scope cl C env) (eval c (compEnvC scope cl C env)); pure (ForInStep.yield ok) else pure (ForInStep.yield r)) (fun ok s' => if ok = true then
        wpAny (model prog w) A (eval elt (compEnvC scope cl C env)) (NEnd s h₀ L m ((C, oC) :: (I, oI) :: (D, lst ys) :: news) (fun y => G (i + 1) (ys ++ [y]))) E' s'
        else NEnd s h₀ L m ((C, oC) :: (I, oI) :: (D, lst ys) :: news) (fun _ => G (i + 1) ys) Value.none s') E' { s with heap := h, toks := tk })
    (fin : ∀ C D h tk ys acc m', (G n ys ∧ acc = []) → Fr h₀ L h m → News h₀ L h ((D, lst ys) :: (news ++ acc)) → h.Ns C m' → L ≠ C → h₀.get? C = none → (∀ p ∈ (D, lst ys) :: (news ++ acc), p.1 ≠ C) → compPost (model prog w) A E use Q (.ref D) C (.ok .next) { s with heap := h, toks := tk }) :
    wpAny (model prog w) A (pyIter xv) (fun it s₂ => wpAny (model prog w) A (newList []) (fun acc s₃ =>
      wpAny (model prog w) A (newFunctionEnv scope env.globals cl [] env.qual none .none (some env)) (fun cenv s₄ =>
        codeAny (model prog w) A (.compStart (.ListComp elt [⟨target, iter, ifs, 0⟩] scope pos) 0 it acc { cenv with scope := relabel scope env }) (compPost (model prog w) A E use Q acc cenv.locals) s₄) E s₃) E s₂) E s := by
  refine comp_free hcell hkind S Bv bindS (fun i ys acc => G i ys ∧ acc = []) ⟨g0, rfl⟩ (fun C I D i v ys acc oI oC m₂ h tk E' hi hP hG hC hB F N _ => ?_) fin
  obtain ⟨hG, rfl⟩ := hG
  rw [List.append_nil] at N
  refine wpAny_mono (turn C I D i v ys oI oC m₂ h tk E' hi hP hG hC hB F N) (fun ok s' hq => ?_) fun _ _ e => e
  have conv : ∀ {Gn : Value → Prop} {y : Value} {s₂ : Shared}, NEnd s h₀ L m ((C, oC) :: (I, oI) :: (D, lst ys) :: news) Gn y s₂ → GEnd s h₀ L m I D [C] ((C, oC) :: (I, oI) :: (D, lst ys) :: news) [] (fun y acc => Gn y ∧ acc = []) y s₂ := fun ⟨h', tk', e, F', N', g⟩ =>
    ⟨h', tk', [], e, F', by simpa using N', (fun _ hp => nomatch hp), g, rfl⟩
  cases ok with
  | false => simp only [Bool.false_eq_true, if_false] at hq ⊢; exact conv hq
  | true => simp only [if_true] at hq ⊢; exact wpAny_mono hq (fun y s₂ hy => conv hy) fun _ _ e => e
theorem comp_cellN {elt iter : Expr} {ifs : List Expr} {scope : Scope} {cl : List (Str × Addr)} {pos px : Pos} {xv : Value} {n : Nat} {P : Nat → Value → Prop} {use : Option (Value → Sem Unit)} {Q : Value → Shared → Prop} {a q : Str} {rest : List (Str × NameKind)}
    (hn : scope.names = (a, .local) :: (q, .cell) :: rest) (haq : (q == a) = false) (hr : ∀ x ∈ rest, x.2 ≠ .cell) (hkind : scope.kind = .function) (S : Src prog w A h₀ L m news s xv n P)
    (G : Nat → List Value → Prop) (g0 : G 0 [])
    (turn : ∀ C X I D i v ys oI oC oX m₂ h tk (E' : Value → Shared → Prop), i < n → P i v → G i ys → NsObj oC m₂ → oX.data = .cell (some v) → Fr h₀ L h m → News h₀ L h ((C, oC) :: (X, oX) :: (I, oI) :: (D, lst ys) :: news) →
      wpAny (model prog w) A (forIn ifs true fun c r => if r = true then do let ok ← isTrue c (compEnvC scope ((q, X) :: cl) C env) (eval c (compEnvC scope ((q, X) :: cl) C env)); pure (ForInStep.yield ok) else pure (ForInStep.yield r)) (fun ok s' => if ok = true then
        wpAny (model prog w) A (eval elt (compEnvC scope ((q, X) :: cl) C env)) (NEnd s h₀ L m ((C, oC) :: (X, oX) :: (I, oI) :: (D, lst ys) :: news) (fun y => G (i + 1) (ys ++ [y]))) E' s'
        else NEnd s h₀ L m ((C, oC) :: (X, oX) :: (I, oI) :: (D, lst ys) :: news) (fun _ => G (i + 1) ys) Value.none s') E' { s with heap := h, toks := tk })
    (fin : ∀ C D h tk ys acc m', (G n ys ∧ acc = []) → Fr h₀ L h m → News h₀ L h ((D, lst ys) :: (news ++ acc)) → h.Ns C m' → L ≠ C → h₀.get? C = none → (∀ p ∈ (D, lst ys) :: (news ++ acc), p.1 ≠ C) → compPost (model prog w) A E use Q (.ref D) C (.ok .next) { s with heap := h, toks := tk }) :
    wpAny (model prog w) A (pyIter xv) (fun it s₂ => wpAny (model prog w) A (newList []) (fun acc s₃ =>
      wpAny (model prog w) A (newFunctionEnv scope env.globals cl [] env.qual none .none (some env)) (fun cenv s₄ =>
        codeAny (model prog w) A (.compStart (.ListComp elt [⟨.Name q px, iter, ifs, 0⟩] scope pos) 0 it acc { cenv with scope := relabel scope env }) (compPost (model prog w) A E use Q acc cenv.locals) s₄) E s₃) E s₂) E s := by
  refine comp_cell hn haq hr hkind S (fun i ys acc => G i ys ∧ acc = []) ⟨g0, rfl⟩ (fun C X I D i v ys acc oI oC oX m₂ h tk E' hi hP hG hC hX F N _ => ?_) fin
  obtain ⟨hG, rfl⟩ := hG
  rw [List.append_nil] at N
  refine wpAny_mono (turn C X I D i v ys oI oC oX m₂ h tk E' hi hP hG hC hX F N) (fun ok s' hq => ?_) fun _ _ e => e
  have conv : ∀ {Gn : Value → Prop} {y : Value} {s₂ : Shared}, NEnd s h₀ L m ((C, oC) :: (X, oX) :: (I, oI) :: (D, lst ys) :: news) Gn y s₂ → GEnd s h₀ L m I D [C, X] ((C, oC) :: (X, oX) :: (I, oI) :: (D, lst ys) :: news) [] (fun y acc => Gn y ∧ acc = []) y s₂ := fun ⟨h', tk', e, F', N', g⟩ =>
    ⟨h', tk', [], e, F', by simpa using N', (fun _ hp => nomatch hp), g, rfl⟩
  cases ok with
  | false => simp only [Bool.false_eq_true, if_false] at hq ⊢; exact conv hq
  | true => simp only [if_true] at hq ⊢; exact wpAny_mono hq (fun y s₂ hy => conv hy) fun _ _ e => e
theorem finN {G : List Value → Prop} {Q : Value → Shared → Prop}
    (H : ∀ D h tk ys, G ys → Fr h₀ L h m → News h₀ L h ((D, lst ys) :: news) → Q (.ref D) { s with heap := h, toks := tk }) :
    ∀ C D h tk ys acc m', (G ys ∧ acc = []) → Fr h₀ L h m → News h₀ L h ((D, lst ys) :: (news ++ acc)) → h.Ns C m' → L ≠ C → h₀.get? C = none → (∀ p ∈ (D, lst ys) :: (news ++ acc), p.1 ≠ C) → compPost (model prog w) A E none Q (.ref D) C (.ok .next) { s with heap := h, toks := tk } :=
  fin_none (G := fun ys acc => G ys ∧ acc = []) fun D h tk ys acc hG F N => by
    obtain ⟨hG, rfl⟩ := hG
    rw [List.append_nil] at N
    exact H D h tk ys hG F N
theorem finS {G : List Value → Prop} {Q : Value → Shared → Prop} {y : Str} {py : Pos} (hL : env.locals = L) (hk : env.kindOf y = some .local) (hp : (env.scope.kind == .class || (env.scope.kind == .module && env.locals != env.globals)) = false)
    (H : ∀ D h tk ys, G ys → Fr h₀ L h (fun x => if x = y then some (.ref D) else m x) → News h₀ L h ((D, lst ys) :: news) → Q .none { s with heap := h, toks := tk }) :
    ∀ C D h tk ys acc m', (G ys ∧ acc = []) → Fr h₀ L h m → News h₀ L h ((D, lst ys) :: (news ++ acc)) → h.Ns C m' → L ≠ C → h₀.get? C = none → (∀ p ∈ (D, lst ys) :: (news ++ acc), p.1 ≠ C) → compPost (model prog w) A E (some (assign (.Name y py) env)) Q (.ref D) C (.ok .next) { s with heap := h, toks := tk } :=
  fin_some (G := fun ys acc => G ys ∧ acc = []) hL hk hp fun D h tk ys acc hG F N => by
    obtain ⟨hG, rfl⟩ := hG
    rw [List.append_nil] at N
    exact H D h tk ys hG F N
end
/- What the three names of a file are. -/
noncomputable def FileV (fs : List FT) (i : Nat) (a b c : Value) : Prop := ∃ f s e t1 t2 t3, fs[i]? = some (f, s, e) ∧ a = .int f t1 ∧ b = .int s t2 ∧ c = .int e t3
theorem files_bind {nw news : List (Addr × Obj)} {ys : List Value} {fs : List FT} (hf : FilesIn nw ys fs) (hs : ∀ p ∈ nw, p ∈ news) (i : Nat) (v : Value) (h : ys[i]? = some v) :
    ∃ T o a b c k, v = .ref T ∧ (T, o) ∈ news ∧ o.cls = .type "tuple" ∧ o.data = .seq #[a, b, c] k ∧ FileV fs i a b c := by
  obtain ⟨⟨f, s, e⟩, hx, T, t1, t2, t3, k, rfl, hm⟩ := hf.at h
  exact ⟨T, _, _, _, _, k, rfl, hs _ hm, rfl, rfl, f, s, e, t1, t2, t3, hx, rfl, rfl, rfl⟩
noncomputable def wayF (x : FT) : Array UInt8 := wayB x.1 x.2.1 x.2.2
/- The ways, so far. -/
noncomputable def WaysIn (fs : List FT) (i : Nat) (ys : List Value) : Prop := ys.length = i ∧ ∀ (j : Nat) (v : Value), ys[j]? = some v → ∃ t, v = .bytes (wayF (fs.getD j (0, 0, 0))) t
theorem WaysIn.next {fs : List FT} {i : Nat} {ys : List Value} {f s e : Int} {t : Tok} (h : WaysIn fs i ys) (hx : fs[i]? = some (f, s, e)) : WaysIn fs (i + 1) (ys ++ [.bytes (wayB f s e) t]) := by
  obtain ⟨hl, ha⟩ := h
  refine ⟨by rw [List.length_append, hl]; rfl, fun j v hv => ?_⟩
  by_cases c : j < ys.length
  · rw [List.getElem?_append_left c] at hv
    exact ha j v hv
  · have e1 : j = ys.length := by
      have := (List.getElem?_eq_some_iff.mp hv).1
      rw [List.length_append, List.length_singleton] at this
      lia
    subst e1
    rw [List.getElem?_append_right (Nat.le_refl _), Nat.sub_self] at hv
    cases hv
    rw [hl]
    exact ⟨t, by simp [List.getD, hx, wayF]⟩
theorem WaysIn.all {fs : List FT} {ys : List Value} (h : WaysIn fs 8 ys) : ∃ T, ys = waysL (fun i => wayF (fs.getD i (0, 0, 0))) T := by
  obtain ⟨hl, ha⟩ := h
  refine ⟨fun i => match ys[i]? with | some (.bytes _ t) => t | _ => 0, ?_⟩
  refine List.ext_getElem? fun j => ?_
  by_cases c : j < 8
  · have e := List.getElem?_eq_getElem (l := ys) (i := j) (by lia)
    obtain ⟨t, et⟩ := ha j _ e
    rw [waysL_get c, e]
    simp only [e, et]
  · rw [List.getElem?_eq_none (by lia), List.getElem?_eq_none (by unfold waysL; simp; lia)]
end Mine
end
section
namespace Mine
open PySem.Calls PySem.Spec LCg
theorem c_ap (w : World) (n : Int) (t : Tok) (h0 : 0 ≤ n) (h1 : n < 4096) : Told w 183 [.int n t] 4 (fun _ => True) (RB (wordB n)) := by
  have z := c_int2ap w n t (by lia) h1
  rwa [show absI n = n by unfold absI; rw [if_neg (by lia)]] at z
theorem c_apn (w : World) (n : Int) (t : Tok) (h0 : 0 ≤ n) (h1 : n < 4096) : Told w 183 [.int (-n) t] 4 (fun _ => True) (RB (wordB n)) := by
  have z := c_int2ap w (-n) t (by lia) (by lia)
  rwa [show absI (-n) = n by unfold absI; split <;> lia] at z
theorem c_way (w : World) (f s e : Int) (t t1 : Tok) : Told w 129 [.bytes (wordB f) t, .bytes (wordB s ++ #[46] ++ wordB e) t1] 6 (fun _ => True) (RB (wayB f s e)) :=
  c_join w (wordB f) (nmB s e) t t1 (Nat.le_trans dig_size (by decide)) (Nat.le_trans nm_small (by decide)) starts_nm ends_word
end Mine
end
section
namespace Mine
open PySem.Calls PySem.Spec LCg
noncomputable def lawB (w : World) : List Stmt := bodyOf ((hd.heap_39 w.params).lookup 233)
noncomputable def scopeOf (o : Option Obj) : Option Scope := match o with
  | some ⟨_, _, .func fd, _⟩ => some fd.scope
  | _ => none
noncomputable def lawS (w : World) : Option Scope := scopeOf ((hd.heap_39 w.params).lookup 233)
noncomputable abbrev lawEnv (sc : Scope) (L fa : Addr) : Env := envOfC (Str.ofString "law") sc L fa (.ref 232)
/- The frame's ground. -/
structure LawF (w : World) (p : Program) (loose : List Str) (mean : ExcName → Option Value) (mg mb : Str → Option Value) (base g : Heap) : Prop where
  B : Below callerA base [] g
  X : (hd.heap_39 w.params).In g
  T : Top p loose mean mg mb g
  c1 : CodeHd g 199 195
  c2 : CodeHd g 166 162
  c3 : CodeHd g 232 230
end Mine
end
section
namespace Mine
open PySem.Calls PySem.Spec LCg
noncomputable def SeqAll (nw : List (Addr × Obj)) : Prop := ∀ p ∈ nw, ∃ vs c, p.2.data = .seq vs c
theorem files_seq {nw : List (Addr × Obj)} {ys : List Value} {fs : List FT} (h : FilesIn nw ys fs) : ∃ nw', (∀ p ∈ nw', p ∈ nw) ∧ SeqAll nw' ∧ FilesIn nw' ys fs := by
  induction h with
  | nil => exact ⟨[], (fun _ hp => nomatch hp), (fun _ hp => nomatch hp), .nil⟩
  | cons h _ ih =>
    obtain ⟨nw', a, b, c⟩ := ih
    obtain ⟨T, t1, t2, t3, k, e, hm⟩ := h
    refine ⟨(T, _) :: nw', fun p hp => ?_, fun p hp => ?_, .cons ⟨T, t1, t2, t3, k, e, .head _⟩ (c.mono fun _ hp => .tail _ hp)⟩
    · rcases List.mem_cons.mp hp with rfl | hp
      · exact hm
      · exact a p hp
    · rcases List.mem_cons.mp hp with rfl | hp
      · exact ⟨_, _, rfl⟩
      · exact b p hp
/- A cell of the ledger is set. -/
theorem cell_upd {g h h' : Heap} {L c : Addr} {o : Obj} {v v' : Option Value} {news rest : List (Addr × Obj)} (N : News g L h news) (hm : (c, o) ∈ news) (hd : o.data = .cell v) (hs : Heap.SameBut c h h') (hc : h'.IsCell c v')
    (hrest : ∀ p ∈ rest, p ∈ news ∧ ((∀ v, p.2.data ≠ .cell v) ∨ p.1 ≠ c)) : ∃ o', o'.data = .cell v' ∧ News g L h' ((c, o') :: rest) := by
  obtain ⟨o', e, d⟩ := hc
  have z := N _ hm
  refine ⟨o', d, fun p hp => ?_⟩
  rcases List.mem_cons.mp hp with rfl | hp
  · exact ⟨e, z.2⟩
  · obtain ⟨hp1, hp2⟩ := hrest p hp
    have y := N _ hp1
    refine ⟨hs.extBut _ _ (fun q => ?_) y.1, y.2⟩
    rcases hp2 with hp2 | hp2
    · have y1 := y.1
      rw [q, z.1] at y1
      exact hp2 v (by rw [← Option.some.inj y1]; exact hd)
    · exact hp2 q
end Mine
end
section
namespace Mine
noncomputable def Halt (p : Prop) : Prop := p
theorem Halt.go {p : Prop} (h : Halt p) : p := h
open PySem.Calls PySem.Spec LCg
section
variable {prog : Program} {w : World} {A : Around} {E : Value → Shared → Prop} {s : Shared} {h₀ : Heap} {L : Addr} {m : Str → Option Value} {news : List (Addr × Obj)}
theorem item_news {value slice : Expr} {l : Addr} {o : Obj} {vs : List Value} {c : Nat} {v : Value} {i : Nat} {u : Tok} {Q : Value → Shared → Prop} (N : News h₀ L s.heap news) (hm : (l, o) ∈ news) (hc : o.cls = .type "list") (hd : o.data = .seq vs.toArray c) (hv : vs[i]? = some v) (h8 : i < 8) (h : Q v s)
    (hs : subscripted slice false (.ref l) (.int (i : Int) u) = operate [.ref l, .int (i : Int) u] (getItem (.ref l) (.int (i : Int) u)) := by with_unfolding_all rfl) :
    wpAny (model prog w) A (subscriptTail value slice (.ref l) (.int (i : Int) u)) Q E s := by
  have hL : s.heap.IsList l vs.toArray := ⟨o, (N _ hm).1, hc, _, hd⟩
  refine tail_any hL.typeIs slot_list_getitem.lookup (wpAny_getItem_list hL (Int.natCast_nonneg i) (by lia) ?_ h) hs
  simpa using hv
end
section
variable {w : World} {f : Addr} {vs : List Value} {n : Nat} {R : Value → Prop} {ps₀ : Array Value} {tl fx : List (Addr × Obj)}
  {p : Program} {loose : List Str} {mean : ExcName → Option Value} {mg mb : Str → Option Value} {dp un : Nat} {gd : Option (List Code)} {cn : Str} {cs : Scope} {a : Addr} {ccd : Value}
  {cl : List (Str × Addr)} {outer : List Env} {A₀ : Around} {base h₀ : Heap} {L : Addr} {m : Str → Option Value} {s : Shared} {Q E : Value → Shared → Prop} {q : Addr × Obj}
theorem useK (C : ToldT w 199 195 f vs n TabN (fun h h' v => TabNext h h' ∧ R v)) (B : Below A₀ base outer h₀) (F : Fr h₀ L s.heap m) (X : (hd.heap_39 w.params).In h₀) (N : News h₀ L s.heap (q :: (fx ++ tl))) (T : Top p loose mean mg mb h₀) (hk : cs.kind = .function)
    (hT : TabT h₀ ps₀ tl) (hfx : ∀ p ∈ fx, p.1 ≠ 195) (hcode : CodeHd h₀ 199 195) (hdp : dp + n < recursionLimit) (hun : un + 8 * n < cLine)
    (h : ∀ v h' tk' tl', R v → Fr h₀ L h' m → News h₀ L h' (fx ++ tl') → TabF h₀ ps₀ tl' → Q v { s with heap := h', toks := tk' }) :
    wpAny (model PySem.Challenge.rw_ij0209_01.row.prog w) (ktrTop dp un gd cn cs L a ccd cl outer) (call (.ref f) vs) Q E s :=
  useN C B F X N T hk hT (fun p hp => .tail _ (List.mem_append_right _ hp)) hcode hdp hun fun v h' tk' tl' r F' N' T' k => h v h' tk' tl' r F' (fun p hp => by
    rcases List.mem_append.mp hp with hp | hp
    · have z := N p (.tail _ (List.mem_append_left _ hp))
      exact ⟨k _ _ (hfx p hp) z.1, z.2⟩
    · exact N' p hp) T'
end
theorem tab_off {g h : Heap} {ps₀ : Array Value} {tl : List (Addr × Obj)} {I : Addr} {i n : Nat} (x : TabF g ps₀ tl) (hI : h.get? I = some (rio i n)) (h195 : I ≠ 195) (N : ∀ p ∈ tl, h.get? p.1 = some p.2) : ∀ p ∈ tl, p.1 ≠ I := by
  cases x with
  | made e1 e2 =>
    intro p hp q
    rcases List.mem_cons.mp hp with rfl | hp
    · exact h195 q.symm
    · have z := N p (.tail _ hp)
      rw [List.mem_singleton.mp hp] at z q
      rw [show _ = I from q, hI] at z
      cases z
      cases e1
      simp [rawInt] at e2
  | old e0 e1 e2 e3 =>
    intro p hp q
    rw [List.mem_singleton.mp hp] at q
    exact h195 q.symm
/- The ledger of the law's loop. -/
noncomputable def ForL (g : Heap) (base : List (Addr × Obj)) (news : List (Addr × Obj)) : Prop := ∃ tl, news = base ++ tl ∧ TabT g #[] tl
theorem news_mid {g h : Heap} {L R : Addr} {o : Obj} {q : Addr × Obj} {l : List (Addr × Obj)} (hr : h.get? R = some o) (hL : R ≠ L) (h0 : g.get? R = none) (N : News g L h (q :: l)) : News g L h (q :: (R, o) :: l) := fun p hp => by
  rcases List.mem_cons.mp hp with rfl | hp
  · exact N _ (.head _)
  rcases List.mem_cons.mp hp with rfl | hp
  · exact ⟨hr, hL, h0⟩
  · exact N p (.tail _ hp)
theorem h230_of {g h : Heap} {L R : Addr} {o q t : Obj} {bs : List (Addr × Obj)} (_N : News g L h ((230, q) :: (R, o) :: (162, t) :: bs)) (hR : R ≠ 230) (hb : ∀ p ∈ bs, p.1 ≠ 230) : ∀ p ∈ (R, o) :: (162, t) :: bs, p.1 ≠ 230 := fun p hp => by
  rcases List.mem_cons.mp hp with rfl | hp
  · exact hR
  rcases List.mem_cons.mp hp with rfl | hp
  · exact (by decide : (162 : Nat) ≠ 230)
  · exact hb p hp
theorem news_drop {g h h' : Heap} {L f c R : Addr} {o1 o2 o3 o4 o5 : Obj} {bs : List (Addr × Obj)} (N : News g L h ((f, o1) :: (c, o2) :: (230, o3) :: (R, o4) :: (162, o5) :: bs)) (k : ∀ b o, b ≠ 162 → h.get? b = some o → h'.get? b = some o)
    (h1 : f ≠ 162) (h2 : c ≠ 162) (h3 : (230 : Nat) ≠ 162) (h4 : R ≠ 162) (hb : ∀ p ∈ bs, p.1 ≠ 162) : News g L h' ((f, o1) :: (c, o2) :: (230, o3) :: (R, o4) :: bs) := fun p hp => by
  have z : p ∈ (f, o1) :: (c, o2) :: (230, o3) :: (R, o4) :: (162, o5) :: bs ∧ p.1 ≠ 162 := by
    rcases List.mem_cons.mp hp with rfl | hp
    · exact ⟨.head _, h1⟩
    rcases List.mem_cons.mp hp with rfl | hp
    · exact ⟨.tail _ (.head _), h2⟩
    rcases List.mem_cons.mp hp with rfl | hp
    · exact ⟨.tail _ (.tail _ (.head _)), h3⟩
    rcases List.mem_cons.mp hp with rfl | hp
    · exact ⟨.tail _ (.tail _ (.tail _ (.head _))), h4⟩
    · exact ⟨.tail _ (.tail _ (.tail _ (.tail _ (.tail _ hp)))), hb p hp⟩
  exact ⟨k _ _ z.2 (N p z.1).1, (N p z.1).2⟩
theorem news_ins {g h : Heap} {L P : Addr} {o : Obj} {a b : Addr × Obj} {l : List (Addr × Obj)} (N : News g L h (a :: b :: l)) (h1 : h.get? P = some o) (h2 : P ≠ L) (h3 : g.get? P = none) : News g L h (a :: b :: (P, o) :: l) := fun q hq => by
  rcases List.mem_cons.mp hq with rfl | hq
  · exact N _ (.head _)
  rcases List.mem_cons.mp hq with rfl | hq
  · exact N _ (.tail _ (.head _))
  rcases List.mem_cons.mp hq with rfl | hq
  · exact ⟨h1, h2, h3⟩
  · exact N _ (.tail _ (.tail _ hq))
theorem row_news {g h8 h9 h' : Heap} {L Dr f c R : Addr} {o1 o2 o3 o4 oD : Obj} {bs : List (Addr × Obj)} (N8 : News g L h8 ((f, o1) :: (c, o2) :: (230, o3) :: (R, o4) :: bs)) (hs : Heap.SameBut L h9 h') (hE9 : Ext h8 h9) (hDr : h9.get? Dr = some oD) (hDL : Dr ≠ L) (hgD : g.get? Dr = none) :
    News g L h' ((Dr, oD) :: (230, o3) :: bs) := fun q hq => by
  rcases List.mem_cons.mp hq with rfl | hq
  · exact ⟨hs.extBut _ _ hDL hDr, hDL, hgD⟩
  rcases List.mem_cons.mp hq with rfl | hq
  · have z := N8 _ (.tail _ (.tail _ (.head _)))
    exact ⟨hs.extBut _ _ z.2.1 (hE9 _ _ z.1), z.2⟩
  · have z := N8 _ (.tail _ (.tail _ (.tail _ (.tail _ hq))))
    exact ⟨hs.extBut _ _ z.2.1 (hE9 _ _ z.1), z.2⟩
end Mine
end
section
namespace Mine
open PySem.Calls PySem.Spec LCg
section
variable {w : World} {f : Addr} {vs : List Value} {n : Nat} {Pre : Heap → Prop} {ns : List Int}
  {p : Program} {loose : List Str} {mean : ExcName → Option Value} {mg mb : Str → Option Value} {dp un : Nat} {gd : Option (List Code)} {cn : Str} {cs : Scope} {a : Addr} {ccd : Value}
  {cl : List (Str × Addr)} {outer : List Env} {A₀ : Around} {base h₀ : Heap} {L : Addr} {m : Str → Option Value} {s : Shared} {news : List (Addr × Obj)} {Q E : Value → Shared → Prop}
theorem useRT (C : Told w f vs n Pre (RTup ns)) (B : Below A₀ base outer h₀) (F : Fr h₀ L s.heap m) (X : (hd.heap_39 w.params).In h₀) (N : News h₀ L s.heap news) (T : Top p loose mean mg mb h₀) (hk : cs.kind = .function)
    (hpre : Pre s.heap) (hdp : dp + n < recursionLimit) (hun : un + 8 * n < cLine)
    (h : ∀ D us c h' tk', IntsAre us ns → Fr h₀ L h' m → News h₀ L h' ((D, tupObj us c) :: news) → (∀ q ∈ news, q.1 ≠ D) → Q (.ref D) { s with heap := h', toks := tk' }) :
    wpAny (model PySem.Challenge.rw_ij0209_01.row.prog w) (ktrTop dp un gd cn cs L a ccd cl outer) (call (.ref f) vs) Q E s := by
  refine use C B F X N T hk hpre hdp hun fun v h' tk' F' N' st sz r => ?_
  obtain ⟨D, us, c, rfl, h0, hD, hi⟩ := r
  refine h D us c h' tk' hi F' (fun q hq => ?_) fun q hq e => by have := (N q hq).1; rw [e, h0] at this; cases this
  exact news_more (news₂ := [(D, tupObj us c)]) (fun q hq => by rw [List.mem_singleton.mp hq]; exact ⟨h0, hD⟩) F N' q hq
end
theorem gend_far {s : Shared} {h₀ h' : Heap} {L I D T : Addr} {m : Str → Option Value} {own : List Addr} {base acc : List (Addr × Obj)} {Gn : Value → List (Addr × Obj) → Prop} {o : Obj} {tk : Nat} {y : Value} (F : Fr h₀ L h' m) (N : News h₀ L h' ((T, o) :: (base ++ acc))) (hf : ∀ q ∈ base ++ acc, q.1 ≠ T) (hI : ∃ o, (I, o) ∈ base) (hD : ∃ o, (D, o) ∈ base) (ho : ∀ b ∈ own, ∃ o, (b, o) ∈ base)
    (hG : Gn y ((T, o) :: acc)) : GEnd s h₀ L m I D own base acc Gn y { s with heap := h', toks := tk } :=
  ⟨h', tk, [(T, o)], rfl, F, fun p hp => N p (by
      rcases List.mem_append.mp hp with hp | hp
      · exact .tail _ (List.mem_append_left _ hp)
      · rcases List.mem_cons.mp hp with rfl | hp
        · exact .head _
        · exact .tail _ (List.mem_append_right _ hp)), fun p hp => by
      rw [List.mem_singleton.mp hp]
      obtain ⟨o1, h1⟩ := hI
      obtain ⟨o2, h2⟩ := hD
      exact ⟨fun q => hf _ (List.mem_append_left _ h1) q.symm, fun q => hf _ (List.mem_append_left _ h2) q.symm, fun z => by
        obtain ⟨o3, h3⟩ := ho _ z
        exact hf _ (List.mem_append_left _ h3) rfl⟩, hG⟩
/- v is a tuple of the file's rank, which stands in nw. -/
noncomputable def RankAt (nw : List (Addr × Obj)) (v : Value) (x : FT) : Prop := ∃ T vs c, v = .ref T ∧ (T, tupObj vs c) ∈ nw ∧ IntsAre vs (rankL x.1 x.2.1 x.2.2)
noncomputable def RanksIn (nw : List (Addr × Obj)) (ys : List Value) (fs : List FT) (i : Nat) : Prop := ys.length = i ∧ ∀ (j : Nat) (v : Value), ys[j]? = some v → ∃ x, fs[j]? = some x ∧ RankAt nw v x
theorem RanksIn.next {nw : List (Addr × Obj)} {ys : List Value} {fs : List FT} {i : Nat} {f s e : Int} {T : Addr} {vs : List Value} {c : Nat} (h : RanksIn nw ys fs i) (hx : fs[i]? = some (f, s, e)) (hi : IntsAre vs (rankL f s e)) : RanksIn ((T, tupObj vs c) :: nw) (ys ++ [.ref T]) fs (i + 1) := by
  obtain ⟨hl, ha⟩ := h
  refine ⟨by rw [List.length_append, hl]; rfl, fun j v hv => ?_⟩
  by_cases q : j < ys.length
  · rw [List.getElem?_append_left q] at hv
    obtain ⟨x, h1, T', vs', c', e1, h2, h3⟩ := ha j v hv
    exact ⟨x, h1, T', vs', c', e1, .tail _ h2, h3⟩
  · have e1 : j = ys.length := by
      have := (List.getElem?_eq_some_iff.mp hv).1
      rw [List.length_append, List.length_singleton] at this
      lia
    subst e1
    rw [List.getElem?_append_right (Nat.le_refl _), Nat.sub_self] at hv
    cases hv
    rw [hl]
    exact ⟨_, hx, T, vs, c, rfl, .head _, hi⟩
theorem ranks_filter {nw : List (Addr × Obj)} {ys : List Value} {fs : List FT} {i : Nat} {a : Addr} (h : RanksIn nw ys fs i) (hn : ∀ T vs c, (T, tupObj vs c) ∈ nw → T ≠ a) : RanksIn (nw.filter fun p => decide (p.1 ≠ a)) ys fs i := by
  obtain ⟨hl, ha⟩ := h
  refine ⟨hl, fun j v hv => ?_⟩
  obtain ⟨x, h1, T, vs, c, e1, h2, h3⟩ := ha j v hv
  exact ⟨x, h1, T, vs, c, e1, List.mem_filter.mpr ⟨h2, by simpa using hn T vs c h2⟩, h3⟩
end Mine
end
section
namespace Mine
open PySem.SeqAt
/- What two tuples of one length give, from place j on, k places left. -/
noncomputable def lexB (e lt : Nat → Bool) : Nat → Nat → Bool
  | _, 0 => false
  | j, k + 1 => if e j = true then lexB e lt (j + 1) k else lt j
noncomputable def RcAt (op : CmpOp) (A : Around) (s : Shared) (x y : Value) (r : Bool) : Prop := ∀ (prog : Program) (w : World) (E Q : Value → Shared → Prop), Q (.bool r) s → wpAny (model prog w) A (richCompare op x y) Q E s
theorem tuple_ltAt (l b : Addr) (items items2 : Array Value) (n n2 : Nat) (dd dd2 : Option Addr) (sl sl2 : Array (Option Value)) (e lt : Nat → Bool) (hsz : items.size = items2.size) :
    Meets (Builtin.«tuple.__lt__» ⟨[.ref l, .ref b], []⟩)
      (fun A R s => s.heap.get? l = some { cls := .type "tuple", dict := dd, data := .seq items n, slots := sl } ∧ s.heap.get? b = some { cls := .type "tuple", dict := dd2, data := .seq items2 n2, slots := sl2 } ∧
        (∀ j (h1 : j < items.size) (h2 : j < items2.size), EqAt A.in1 s items[j] items2[j] (e j)) ∧ (∀ j (h1 : j < items.size) (h2 : j < items2.size), e j = false → RcAt .Lt A.in1 s items[j] items2[j] (lt j)) ∧
        R (.ok (.ret (.bool (lexB e lt 0 items.size)))) s) :=
  .of_wp fun prog w A R s h => by
    obtain ⟨hp, g, d, tk, os⟩ := s; obtain ⟨hl, hb, he, hlt', h⟩ := h
    have f2 := AutoSeq1.sub_tuple_tuple
    have hZ : (items.toList.zip items2.toList).length = items.size := by simp [hsz]
    wp_walk using wpAny_loadPart' hl, wpAny_loadPart' hb, wpAny_forIn_list _ (fun rest b s' => b.1 = none ∧ s' = ⟨hp, g, d, tk, os⟩ ∧ ∃ i, rest = (items.toList.zip items2.toList).drop i ∧ i ≤ items.size ∧
      R (.ok (.ret (.bool (lexB e lt i (items.size - i))))) ⟨hp, g, d, tk, os⟩) _
    case turn =>
      rintro ⟨y, x⟩ rest b s' ⟨hb', rfl, i, hz, hi, hR⟩
      have hlt : i < (items.toList.zip items2.toList).length := by
        rcases Nat.lt_or_ge i (items.toList.zip items2.toList).length with h' | h'
        · exact h'
        · rw [List.drop_of_length_le h'] at hz; cases hz
      have h1 : i < items.size := hZ ▸ hlt
      have h2 : i < items2.size := hsz ▸ h1
      rw [List.drop_eq_getElem_cons hlt] at hz
      injection hz with hyx hrest
      have hy : y = items[i] := by have := congrArg Prod.fst hyx; simpa using this
      have hx : x = items2[i] := by have := congrArg Prod.snd hyx; simpa using this
      subst hy hx
      have ek : items.size - i = (items.size - (i + 1)) + 1 := by lia
      rw [ek] at hR
      unfold lexB at hR
      refine wpAny_bind (he i h1 h2 prog w _ _ ?_)
      cases hy : e i with
      | true =>
        rw [hy, if_pos rfl] at hR
        wp_walk
        exact ⟨rfl, rfl, i + 1, hrest, h1, hR⟩
      | false =>
        rw [hy, if_neg Bool.false_ne_true] at hR
        rw [if_pos (show (!false) = true from rfl)]
        refine wpAny_bind (wpAny_rule (wpAny_bind (hlt' i h1 h2 hy prog w _ _ ?_)))
        wp_walk
        exact ⟨_, rfl, hR⟩
    case fin =>
      rintro ⟨b1, b2⟩ s' ⟨hb', rfl, i, hz, hi, hR⟩
      simp only at hb'
      subst hb'
      have hge : items.size ≤ i := by
        rcases Nat.lt_or_ge i (items.toList.zip items2.toList).length with h' | h'
        · rw [List.drop_eq_getElem_cons h'] at hz; cases hz
        · exact hZ ▸ h'
      have e0 : items.size - i = 0 := by lia
      rw [e0] at hR
      wp_walk
      exact ⟨_, rfl, by simpa [Builtin.Tuple.tupleCompareSizes, hsz, lexB] using hR⟩
    case h =>
      exact ⟨rfl, rfl, 0, rfl, Nat.zero_le _, h⟩
theorem tuple_gtAt (l b : Addr) (items items2 : Array Value) (n n2 : Nat) (dd dd2 : Option Addr) (sl sl2 : Array (Option Value)) (e lt : Nat → Bool) (hsz : items.size = items2.size) :
    Meets (Builtin.«tuple.__gt__» ⟨[.ref l, .ref b], []⟩)
      (fun A R s => s.heap.get? l = some { cls := .type "tuple", dict := dd, data := .seq items n, slots := sl } ∧ s.heap.get? b = some { cls := .type "tuple", dict := dd2, data := .seq items2 n2, slots := sl2 } ∧
        (∀ j (h1 : j < items.size) (h2 : j < items2.size), EqAt A.in1 s items[j] items2[j] (e j)) ∧ (∀ j (h1 : j < items.size) (h2 : j < items2.size), e j = false → RcAt .Gt A.in1 s items[j] items2[j] (lt j)) ∧
        R (.ok (.ret (.bool (lexB e lt 0 items.size)))) s) :=
  .of_wp fun prog w A R s h => by
    obtain ⟨hp, g, d, tk, os⟩ := s; obtain ⟨hl, hb, he, hlt', h⟩ := h
    have f2 := AutoSeq1.sub_tuple_tuple
    have hZ : (items.toList.zip items2.toList).length = items.size := by simp [hsz]
    wp_walk using wpAny_loadPart' hl, wpAny_loadPart' hb, wpAny_forIn_list _ (fun rest b s' => b.1 = none ∧ s' = ⟨hp, g, d, tk, os⟩ ∧ ∃ i, rest = (items.toList.zip items2.toList).drop i ∧ i ≤ items.size ∧
      R (.ok (.ret (.bool (lexB e lt i (items.size - i))))) ⟨hp, g, d, tk, os⟩) _
    case turn =>
      rintro ⟨y, x⟩ rest b s' ⟨hb', rfl, i, hz, hi, hR⟩
      have hlt : i < (items.toList.zip items2.toList).length := by
        rcases Nat.lt_or_ge i (items.toList.zip items2.toList).length with h' | h'
        · exact h'
        · rw [List.drop_of_length_le h'] at hz; cases hz
      have h1 : i < items.size := hZ ▸ hlt
      have h2 : i < items2.size := hsz ▸ h1
      rw [List.drop_eq_getElem_cons hlt] at hz
      injection hz with hyx hrest
      have hy : y = items[i] := by have := congrArg Prod.fst hyx; simpa using this
      have hx : x = items2[i] := by have := congrArg Prod.snd hyx; simpa using this
      subst hy hx
      have ek : items.size - i = (items.size - (i + 1)) + 1 := by lia
      rw [ek] at hR
      unfold lexB at hR
      refine wpAny_bind (he i h1 h2 prog w _ _ ?_)
      cases hy : e i with
      | true =>
        rw [hy, if_pos rfl] at hR
        wp_walk
        exact ⟨rfl, rfl, i + 1, hrest, h1, hR⟩
      | false =>
        rw [hy, if_neg Bool.false_ne_true] at hR
        rw [if_pos (show (!false) = true from rfl)]
        refine wpAny_bind (wpAny_rule (wpAny_bind (hlt' i h1 h2 hy prog w _ _ ?_)))
        wp_walk
        exact ⟨_, rfl, hR⟩
    case fin =>
      rintro ⟨b1, b2⟩ s' ⟨hb', rfl, i, hz, hi, hR⟩
      simp only at hb'
      subst hb'
      have hge : items.size ≤ i := by
        rcases Nat.lt_or_ge i (items.toList.zip items2.toList).length with h' | h'
        · rw [List.drop_eq_getElem_cons h'] at hz; cases hz
        · exact hZ ▸ h'
      have e0 : items.size - i = 0 := by lia
      rw [e0] at hR
      wp_walk
      exact ⟨_, rfl, by simpa [Builtin.Tuple.tupleCompareSizes, hsz, lexB] using hR⟩
    case h =>
      exact ⟨rfl, rfl, 0, rfl, Nat.zero_le _, h⟩

section
variable {A : Around} {s : Shared} {l b : Addr} {items items2 : Array Value} {e lt : Nat → Bool}
theorem rc_lt_tuples (hl : s.heap.IsTuple l items) (hb : s.heap.IsTuple b items2) (hu : A.units < cLine) (hsz : items.size = items2.size) (he : ∀ j (h1 : j < items.size) (h2 : j < items2.size), EqAt A.in1 s items[j] items2[j] (e j)) (hlt : ∀ j (h1 : j < items.size) (h2 : j < items2.size), e j = false → RcAt .Lt A.in1 s items[j] items2[j] (lt j)) :
    RcAt .Lt A s (.ref l) (.ref b) (lexB e lt 0 items.size) := fun prog w E Q h => by
  obtain ⟨⟨cls, dd, data, sl⟩, ho, hc, n, hd⟩ := id hl
  obtain ⟨⟨cls2, dd2, data2, sl2⟩, ho2, hc2, n2, hd2⟩ := id hb
  simp only at hc hd hc2 hd2
  subst hc hd hc2 hd2
  exact richCompare_meets_room (op := .Lt) ⟨_, ho, rfl⟩ ⟨_, ho2, rfl⟩ F.slot_tuple_lt F.entry_tuple_lt (F.args_tuple_lt_2 _ _) (tuple_ltAt l b items items2 n n2 dd dd2 sl sl2 e lt hsz)
    ⟨ho, ho2, he, hlt, show Value.bool (lexB e lt 0 items.size) ≠ Value.notImplemented ∧ Q (.bool (lexB e lt 0 items.size)) s from ⟨(fun x => nomatch x), h⟩⟩ hu
end

section
variable {A : Around} {s : Shared} {l b : Addr} {items items2 : Array Value} {e lt : Nat → Bool}
theorem rc_gt_tuples (hl : s.heap.IsTuple l items) (hb : s.heap.IsTuple b items2) (hu : A.units < cLine) (hsz : items.size = items2.size) (he : ∀ j (h1 : j < items.size) (h2 : j < items2.size), EqAt A.in1 s items[j] items2[j] (e j)) (hlt : ∀ j (h1 : j < items.size) (h2 : j < items2.size), e j = false → RcAt .Gt A.in1 s items[j] items2[j] (lt j)) :
    RcAt .Gt A s (.ref l) (.ref b) (lexB e lt 0 items.size) := fun prog w E Q h => by
  obtain ⟨⟨cls, dd, data, sl⟩, ho, hc, n, hd⟩ := id hl
  obtain ⟨⟨cls2, dd2, data2, sl2⟩, ho2, hc2, n2, hd2⟩ := id hb
  simp only at hc hd hc2 hd2
  subst hc hd hc2 hd2
  exact richCompare_meets_room (op := .Gt) ⟨_, ho, rfl⟩ ⟨_, ho2, rfl⟩ F.slot_tuple_gt F.entry_tuple_gt (F.args_tuple_gt_2 _ _) (tuple_gtAt l b items items2 n n2 dd dd2 sl sl2 e lt hsz)
    ⟨ho, ho2, he, hlt, show Value.bool (lexB e lt 0 items.size) ≠ Value.notImplemented ∧ Q (.bool (lexB e lt 0 items.size)) s from ⟨(fun x => nomatch x), h⟩⟩ hu
end
end Mine
end
section
namespace Mine
open PySem.SeqAt
/- Two lists of one length, in the order of words. -/
noncomputable def lexI : List Int → List Int → Bool
  | a :: as, b :: bs => if (a == b) = true then lexI as bs else decide (a < b)
  | _, _ => false
theorem lexB_lexI (as bs : List Int) (hl : as.length = bs.length) : ∀ (k j : Nat), j + k = as.length → lexB (fun j => as.getD j 0 == bs.getD j 0) (fun j => decide (as.getD j 0 < bs.getD j 0)) j k = lexI (as.drop j) (bs.drop j)
  | 0, j, h => by
    rw [List.drop_eq_nil_of_le (by lia)]
    rfl
  | k + 1, j, h => by
    have h1 : j < as.length := by lia
    have h2 : j < bs.length := by lia
    rw [List.drop_eq_getElem_cons h1, List.drop_eq_getElem_cons h2]
    unfold lexB lexI
    have e1 : as.getD j 0 = as[j] := by simp [h1]
    have e2 : bs.getD j 0 = bs[j] := by simp [h2]
    rw [lexB_lexI as bs hl k (j + 1) (by lia), e1, e2]
theorem lexB_congr {e e' lt lt' : Nat → Bool} : ∀ (k j : Nat), (∀ i, j ≤ i → i < j + k → e i = e' i) → (∀ i, j ≤ i → i < j + k → e i = false → lt i = lt' i) → lexB e lt j k = lexB e' lt' j k
  | 0, _, _, _ => rfl
  | k + 1, j, he, hl => by
    unfold lexB
    rw [he j (Nat.le_refl _) (by lia)]
    by_cases c : e' j = true
    · rw [if_pos c, if_pos c]
      exact lexB_congr k (j + 1) (fun i a b => he i (by lia) (by lia)) fun i a b => hl i (by lia) (by lia)
    · rw [if_neg c, if_neg c]
      exact hl j (Nat.le_refl _) (by lia) (by rw [he j (Nat.le_refl _) (by lia)]; simpa using c)
section
variable {A : Around} {s : Shared} {D1 D2 T1 T2 : Addr} {vs1 vs2 : List Value} {ns1 ns2 : List Int} {c1 c2 k1 k2 : Nat}
theorem rc_int (a b : Int) (t u : Tok) : RcAt .Lt A s (.int a t) (.int b u) (decide (a < b)) := fun prog w E Q h => by
  have z := lt_int (prog := prog) (w := w) (A := A) (E := E) (s := s) (a := a) (b := b) (t := t) (u := u) (Q := Q) h
  exact z
theorem rc_int_gt (a b : Int) (t u : Tok) : RcAt .Gt A s (.int a t) (.int b u) (decide (b < a)) := fun prog w E Q h => by
  have z := gt_int (prog := prog) (w := w) (A := A) (E := E) (s := s) (a := a) (b := b) (t := t) (u := u) (Q := Q) h
  exact z
theorem int_item (h : IntsAre vs1 ns1) (j : Nat) (hj : j < vs1.toArray.size) : ∃ t, vs1.toArray[j] = .int (ns1.getD j 0) t := by
  have hj' : j < vs1.length := by simpa using hj
  obtain ⟨n, t, e, hn⟩ := h.at j vs1[j] (List.getElem?_eq_getElem hj')
  exact ⟨t, by simp [e, List.getD, hn]⟩
theorem tup_lt (h1 : s.heap.get? T1 = some (tupObj vs1 c1)) (h2 : s.heap.get? T2 = some (tupObj vs2 c2)) (i1 : IntsAre vs1 ns1) (i2 : IntsAre vs2 ns2) (hl : ns1.length = ns2.length) (hu : A.units < cLine) : RcAt .Lt A s (.ref T1) (.ref T2) (lexI ns1 ns2) := by
  have l1 := i1.length
  have l2 := i2.length
  have z := rc_lt_tuples (A := A) (e := fun j => ns1.getD j 0 == ns2.getD j 0) (lt := fun j => decide (ns1.getD j 0 < ns2.getD j 0)) ⟨_, h1, rfl, _, rfl⟩ ⟨_, h2, rfl, _, rfl⟩ hu (by rw [List.size_toArray, List.size_toArray, l1, l2, hl]) (fun j a b => by
    obtain ⟨t, e⟩ := int_item i1 j a
    obtain ⟨u, e'⟩ := int_item i2 j b
    rw [e, e']
    exact EqAt.int_int _ _ _ _) (fun j a b _ => by
    obtain ⟨t, e⟩ := int_item i1 j a
    obtain ⟨u, e'⟩ := int_item i2 j b
    rw [e, e']
    exact rc_int _ _ _ _)
  rw [List.size_toArray, l1, lexB_lexI ns1 ns2 hl ns1.length 0 (by lia)] at z
  simpa using z
theorem lexB_gt (as bs : List Int) (hl : as.length = bs.length) (k j : Nat) (h : j + k = as.length) : lexB (fun j => as.getD j 0 == bs.getD j 0) (fun j => decide (bs.getD j 0 < as.getD j 0)) j k = lexI (bs.drop j) (as.drop j) := by
  rw [← lexB_lexI bs as hl.symm k j (by lia)]
  refine lexB_congr k j (fun i _ _ => ?_) fun i _ _ _ => rfl
  rw [Bool.eq_iff_iff]; simp only [beq_iff_eq]; exact eq_comm
theorem tup_gt (h1 : s.heap.get? T1 = some (tupObj vs1 c1)) (h2 : s.heap.get? T2 = some (tupObj vs2 c2)) (i1 : IntsAre vs1 ns1) (i2 : IntsAre vs2 ns2) (hl : ns1.length = ns2.length) (hu : A.units < cLine) : RcAt .Gt A s (.ref T1) (.ref T2) (lexI ns2 ns1) := by
  have l1 := i1.length
  have l2 := i2.length
  have z := rc_gt_tuples (A := A) (e := fun j => ns1.getD j 0 == ns2.getD j 0) (lt := fun j => decide (ns2.getD j 0 < ns1.getD j 0)) ⟨_, h1, rfl, _, rfl⟩ ⟨_, h2, rfl, _, rfl⟩ hu (by rw [List.size_toArray, List.size_toArray, l1, l2, hl]) (fun j a b => by
    obtain ⟨t, e⟩ := int_item i1 j a
    obtain ⟨u, e'⟩ := int_item i2 j b
    rw [e, e']
    exact EqAt.int_int _ _ _ _) (fun j a b _ => by
    obtain ⟨t, e⟩ := int_item i1 j a
    obtain ⟨u, e'⟩ := int_item i2 j b
    rw [e, e']
    exact rc_int_gt _ _ _ _)
  rw [List.size_toArray, l1, lexB_gt ns1 ns2 hl ns1.length 0 (by lia)] at z
  simpa using z
end
end Mine
end
section
namespace Mine
open PySem.SeqAt
section
variable {A : Around} {s : Shared} {D1 D2 T1 T2 : Addr} {vs1 vs2 : List Value} {ns1 ns2 : List Int} {c1 c2 k1 k2 : Nat} {p q : Int} {t u : Tok}
theorem all_beq (as bs : List Int) (hl : as.length = bs.length) : ((List.range (min as.length bs.length)).all (fun j => as.getD j 0 == bs.getD j 0) && as.length == bs.length) = (as == bs) := by
  rw [Bool.eq_iff_iff]
  simp only [Bool.and_eq_true, List.all_eq_true, List.mem_range, beq_iff_eq]
  constructor
  · rintro ⟨h, _⟩
    refine List.ext_getElem hl fun i h1 h2 => ?_
    have z := h i (by lia)
    simpa [h1, h2] using z
  · rintro rfl
    exact ⟨fun _ _ => rfl, rfl⟩
theorem eq_tups (h1 : s.heap.get? T1 = some (tupObj vs1 c1)) (h2 : s.heap.get? T2 = some (tupObj vs2 c2)) (i1 : IntsAre vs1 ns1) (i2 : IntsAre vs2 ns2) (hl : ns1.length = ns2.length) (hu : A.units < cLine) : EqAt A s (.ref T1) (.ref T2) (ns1 == ns2) := by
  by_cases hT : T1 = T2
  · subst hT
    rw [h1] at h2
    have e1 : vs1 = vs2 := by
      have := congrArg Obj.data (Option.some.inj h2)
      simpa using (Data.seq.inj this).1
    subst e1
    have e2 : ns1 = ns2 := by rw [← i1.nums, ← i2.nums]
    subst e2
    rw [beq_self_eq_true]
    exact EqAt.same _
  · refine EqAt.of_refs hT fun prog w E Q h => ?_
    have l1 := i1.length
    have l2 := i2.length
    have hz : ((List.range (min vs1.toArray.size vs2.toArray.size)).all (fun j => ns1.getD j 0 == ns2.getD j 0) && vs1.toArray.size == vs2.toArray.size) = (ns1 == ns2) := by
      rw [List.size_toArray, List.size_toArray, l1, l2]
      exact all_beq ns1 ns2 hl
    rw [← hz] at h
    exact richCompare_meets_room (op := .Eq) ⟨_, h1, rfl⟩ ⟨_, h2, rfl⟩ F.slot_tuple_eq F.entry_tuple_eq (F.args_tuple_eq_2 _ _) (tuple_eqAt T1 T2 vs1.toArray vs2.toArray c1 c2 none none #[] #[] (fun j => ns1.getD j 0 == ns2.getD j 0))
      ⟨h1, h2, fun j a b => by
        obtain ⟨t, e⟩ := int_item i1 j a
        obtain ⟨u, e'⟩ := int_item i2 j b
        rw [e, e']
        exact EqAt.int_int _ _ _ _, ⟨(fun x => nomatch x), h⟩⟩ hu
/- (a tuple of ints, an int) < (another, another). -/
noncomputable def pairB (ns1 : List Int) (p : Int) (ns2 : List Int) (q : Int) : Bool := if (ns1 == ns2) = true then decide (p < q) else lexI ns1 ns2
theorem pair_lt (hD1 : s.heap.get? D1 = some (tupObj [.ref T1, .int p t] k1)) (hD2 : s.heap.get? D2 = some (tupObj [.ref T2, .int q u] k2)) (h1 : s.heap.get? T1 = some (tupObj vs1 c1)) (h2 : s.heap.get? T2 = some (tupObj vs2 c2)) (i1 : IntsAre vs1 ns1) (i2 : IntsAre vs2 ns2) (hl : ns1.length = ns2.length) (hu : A.units + 1 < cLine) :
    RcAt .Lt A s (.ref D1) (.ref D2) (pairB ns1 p ns2 q) := by
  have z := rc_lt_tuples (A := A) (e := fun j => match j with | 0 => ns1 == ns2 | _ => p == q) (lt := fun j => match j with | 0 => lexI ns1 ns2 | _ => decide (p < q)) ⟨_, hD1, rfl, _, rfl⟩ ⟨_, hD2, rfl, _, rfl⟩ (Nat.lt_of_succ_lt hu) rfl (fun j a b => by
    match j, a with
    | 0, _ => exact eq_tups h1 h2 i1 i2 hl hu
    | 1, _ => exact EqAt.int_int _ _ _ _) (fun j a b _ => by
    match j, a with
    | 0, _ => exact tup_lt h1 h2 i1 i2 hl hu
    | 1, _ => exact rc_int _ _ _ _)
  have e : lexB (fun j => match j with | 0 => ns1 == ns2 | _ => p == q) (fun j => match j with | 0 => lexI ns1 ns2 | _ => decide (p < q)) 0 2 = pairB ns1 p ns2 q := by
    unfold pairB
    show (if (ns1 == ns2) = true then (if (p == q) = true then false else decide (p < q)) else lexI ns1 ns2) = _
    by_cases c : (ns1 == ns2) = true
    · rw [if_pos c, if_pos c]
      by_cases c2 : p = q
      · subst c2; simp
      · rw [if_neg (by simpa using c2)]
    · rw [if_neg c, if_neg c]
  rw [← e]; exact z
theorem pair_gt (hD1 : s.heap.get? D1 = some (tupObj [.ref T1, .int p t] k1)) (hD2 : s.heap.get? D2 = some (tupObj [.ref T2, .int q u] k2)) (h1 : s.heap.get? T1 = some (tupObj vs1 c1)) (h2 : s.heap.get? T2 = some (tupObj vs2 c2)) (i1 : IntsAre vs1 ns1) (i2 : IntsAre vs2 ns2) (hl : ns1.length = ns2.length) (hu : A.units + 1 < cLine) :
    RcAt .Gt A s (.ref D1) (.ref D2) (pairB ns2 q ns1 p) := by
  have z := rc_gt_tuples (A := A) (e := fun j => match j with | 0 => ns1 == ns2 | _ => p == q) (lt := fun j => match j with | 0 => lexI ns2 ns1 | _ => decide (q < p)) ⟨_, hD1, rfl, _, rfl⟩ ⟨_, hD2, rfl, _, rfl⟩ (Nat.lt_of_succ_lt hu) rfl (fun j a b => by
    match j, a with
    | 0, _ => exact eq_tups h1 h2 i1 i2 hl hu
    | 1, _ => exact EqAt.int_int _ _ _ _) (fun j a b _ => by
    match j, a with
    | 0, _ => exact tup_gt h1 h2 i1 i2 hl hu
    | 1, _ => exact rc_int_gt _ _ _ _)
  have e : lexB (fun j => match j with | 0 => ns1 == ns2 | _ => p == q) (fun j => match j with | 0 => lexI ns2 ns1 | _ => decide (q < p)) 0 2 = pairB ns2 q ns1 p := by
    unfold pairB
    show (if (ns1 == ns2) = true then (if (p == q) = true then false else decide (q < p)) else lexI ns2 ns1) = _
    by_cases c : ns1 = ns2
    · subst c
      have eb : (ns1 == ns1) = true := beq_self_eq_true _
      rw [eb]
      simp only [if_true]
      by_cases c2 : p = q
      · subst c2; simp
      · have ec : (p == q) = false := by simpa using c2
        rw [ec]; rfl
    · have eb : (ns1 == ns2) = false := by simpa using c
      have eb2 : (ns2 == ns1) = false := by simpa using fun q => c q.symm
      rw [eb, eb2]; rfl
  rw [← e]; exact z
end
end Mine
end
section
namespace Mine
open PySem.Calls PySem.Spec LCg
noncomputable def rkF (fs : List FT) (p : Nat) : List Int := rankL (fs.getD p (0, 0, 0)).1 (fs.getD p (0, 0, 0)).2.1 (fs.getD p (0, 0, 0)).2.2
noncomputable def ltR (fs : List FT) (p q : Nat) : Bool := pairB (rkF fs p) (p : Int) (rkF fs q) (q : Int)
noncomputable def cntR (fs : List FT) (q : Nat) : Nat := ((List.range 8).filter fun p => ltR fs p q).length
noncomputable def plcR (fs : List FT) (k : Nat) : Nat := ((List.range 8).filter fun q => cntR fs q == k).headD 0
/- A list that holds the first n of f. -/
noncomputable def IntsOf (f : Nat → Int) (n : Nat) (ys : List Value) : Prop := IntsAre ys ((List.range n).map f)
theorem IntsOf.next {f : Nat → Int} {n : Nat} {ys : List Value} {t : Tok} (h : IntsOf f n ys) : IntsOf f (n + 1) (ys ++ [.int (f n) t]) := by
  unfold IntsOf at *
  rw [List.range_succ, List.map_append]
  exact ksk_snoc h
/- A list that holds those of the first n that are meant. -/
noncomputable def FiltOf (P : Nat → Bool) (n : Nat) (ys : List Value) : Prop := IntsAre ys (((List.range n).filter P).map fun (i : Nat) => (i : Int))
theorem FiltOf.yes {P : Nat → Bool} {n : Nat} {ys : List Value} {t : Tok} (h : FiltOf P n ys) (hp : P n = true) : FiltOf P (n + 1) (ys ++ [.int (n : Int) t]) := by
  unfold FiltOf at *
  rw [List.range_succ, List.filter_append, List.map_append]
  simp only [List.filter_cons, hp, if_true, List.filter_nil, List.map_cons, List.map_nil]
  exact ksk_snoc h
theorem FiltOf.no {P : Nat → Bool} {n : Nat} {ys : List Value} (h : FiltOf P n ys) (hp : P n = false) : FiltOf P (n + 1) ys := by
  unfold FiltOf at *
  rw [List.range_succ, List.filter_append]
  simp only [List.filter_cons, hp, Bool.false_eq_true, if_false, List.filter_nil, List.append_nil]
  exact h
theorem rankL_len (f s e : Int) : (rankL f s e).length = 5 := by
  unfold rankL
  split <;> rfl
theorem rkF_at {fs : List FT} {a : Nat} {x : FT} (h : fs[a]? = some x) : rkF fs a = rankL x.1 x.2.1 x.2.2 := by simp [rkF, List.getD, h]
theorem ltR_at {fs : List FT} {a q : Nat} {x y : FT} (h : fs[a]? = some x) (h' : fs[q]? = some y) : pairB (rankL x.1 x.2.1 x.2.2) (a : Int) (rankL y.1 y.2.1 y.2.2) (q : Int) = ltR fs a q := by
  unfold ltR
  rw [rkF_at h, rkF_at h']
theorem filt_len {P : Nat → Bool} {n : Nat} {ys : List Value} (h : FiltOf P n ys) : ys.length = ((List.range n).filter P).length ∧ ys.length ≤ n := by
  have e : ys.length = ((List.range n).filter P).length := by
    have := IntsAre.length h
    rwa [List.length_map] at this
  refine ⟨e, ?_⟩
  rw [e]
  have := List.length_filter_le P (List.range n)
  rwa [List.length_range] at this
theorem cnt_eq {fs : List FT} {q i : Nat} {ys : List Value} (h : FiltOf (fun a => ltR fs a q) 8 ys) : ((ys.toArray.size : Int) == (i : Int)) = (cntR fs q == i) := by
  have e : ys.toArray.size = cntR fs q := by rw [List.size_toArray, (filt_len h).1]; rfl
  rw [e, Bool.eq_iff_iff]
  simp only [beq_iff_eq]
  lia
theorem filt_head {P : Nat → Bool} {n : Nat} {ys : List Value} (h : FiltOf P n ys) (hne : (List.range n).filter P ≠ []) : ∃ t, ys[0]? = some (.int ((((List.range n).filter P).headD 0 : Nat) : Int) t) := by
  unfold FiltOf at h
  cases e : (List.range n).filter P with
  | nil => exact absurd e hne
  | cons q r =>
    rw [e] at h
    cases h with
    | cons m t _ => exact ⟨t, rfl⟩
end Mine
end
section
namespace Mine
open PySem.SeqAt
section
variable {A : Around} {s : Shared} {l b : Addr} {vs1 vs2 : List Value} {ns : List Int}
theorem ne_ints (h1 : s.heap.IsList l vs1.toArray) (h2 : s.heap.IsList b vs2.toArray) (i1 : IntsAre vs1 ns) (i2 : IntsAre vs2 ns) (hu : A.units < cLine) : RcNeAt A s (.ref l) (.ref b) false := by
  have l1 := i1.length
  have l2 := i2.length
  have z := RcNeAt.lists (A := A) (e := fun _ => true) h1 h2 (by rw [List.size_toArray, List.size_toArray, l1, l2]) hu (fun j a c => by
    obtain ⟨t, e⟩ := int_item i1 j a
    obtain ⟨u, e'⟩ := int_item i2 j c
    rw [e, e']
    have z := EqAt.int_int (A := A.in1) (s := s) (ns.getD j 0) t (ns.getD j 0) u
    rwa [beq_self_eq_true] at z)
  have e : (!(List.range vs1.toArray.size).all fun _ => true) = false := by simp
  rw [e] at z
  exact z
end
end Mine
end
section
namespace Mine
theorem newer_len (W : Nat → Array UInt8) (ns : List Int) (p : Int) : (newerL W ns p).length ≤ ns.length + 1 := by
  unfold newerL
  split
  · rw [List.length_append, List.length_dropLast, List.length_singleton]; lia
  · rw [List.length_append, List.length_singleton]; lia
theorem newer_mem {W : Nat → Array UInt8} {ns : List Int} {p n : Int} (h : n ∈ newerL W ns p) : n ∈ ns ∨ n = p := by
  unfold newerL at h
  split at h
  · rcases List.mem_append.mp h with h | h
    · exact .inl (List.dropLast_subset _ h)
    · exact .inr (List.mem_singleton.mp h)
  · rcases List.mem_append.mp h with h | h
    · exact .inl h
    · exact .inr (List.mem_singleton.mp h)
/- What is kept of the first i of a row. -/
noncomputable def keptL (W : Nat → Array UInt8) (ns : List Int) (i : Nat) : List Int := (ns.take i).foldl (newerL W) []
theorem kept_next {W : Nat → Array UInt8} {ns : List Int} {i : Nat} {n : Int} (h : ns[i]? = some n) : keptL W ns (i + 1) = newerL W (keptL W ns i) n := by
  unfold keptL
  rw [List.take_add_one, h, Option.toList_some, List.foldl_append]
  rfl
theorem kept_ok {W : Nat → Array UInt8} {ns : List Int} (hr : ∀ n ∈ ns, 0 ≤ n ∧ n < 8) : ∀ i, i ≤ ns.length → (keptL W ns i).length ≤ i ∧ ∀ n ∈ keptL W ns i, 0 ≤ n ∧ n < 8
  | 0, _ => ⟨Nat.le_refl _, fun _ h => nomatch h⟩
  | i + 1, hi => by
    have r := kept_ok (W := W) hr i (by lia)
    have e := List.getElem?_eq_getElem (l := ns) (i := i) (by lia)
    rw [kept_next e]
    refine ⟨Nat.le_trans (newer_len W _ _) (Nat.succ_le_succ r.1), fun n hn => ?_⟩
    rcases newer_mem hn with h | h
    · exact r.2 n h
    · exact h ▸ hr _ (List.getElem_mem _)
end Mine
end
section
namespace Mine
open PySem.Calls PySem.Spec
/- reduce with the law's second lambda along a row of ints. -/
theorem c_rkept (w : World) (W : Nat → Array UInt8) (T₀ : Nat → Tok) (hW : ∀ i, Small (W i)) (hF : ∀ i, FirstOk (W i)) (f cw lr l0 : Addr) (us : List Value) (ns : List Int) (hi : IntsAre us ns) (h8 : ns.length = 8) (hr : ∀ n ∈ ns, 0 ≤ n ∧ n < 8) (hl0 : l0 ≠ 168) :
    Told w 176 [.ref f, .ref lr, .ref l0] 20 (fun h => LamAt w 233 7 h f [(Str.ofString "ways", cw)] ∧ WaysAt h cw W T₀ ∧ h.IsList lr us.toArray ∧ h.IsList l0 ([] : List Value).toArray ∧ ∃ o, h.get? 168 = some o) (RList (keptL W ns 8)) := by
  have hul : us.length = 8 := by rw [hi.length, h8]
  have R := c_reduce w f (.ref lr) (.ref l0) 16 us.length (fun h => LamAt w 233 7 h f [(Str.ofString "ways", cw)] ∧ WaysAt h cw W T₀ ∧ h.IsList lr us.toArray ∧ h.IsList l0 ([] : List Value).toArray ∧ ∃ o, h.get? 168 = some o) [lr] (fun i v => us[i]? = some v)
    (fun i v news => (i = 0 ∧ v = .ref l0 ∧ news = []) ∨ (0 < i ∧ ∃ D vs c, v = .ref D ∧ news = [(D, ({ cls := .type "list", data := .seq vs.toArray c } : Obj))] ∧ IntsAre vs (keptL W ns i)))
    (iters_list w lr us fun h hp => hp.2.2.1) (fun h h' k hp => ⟨hp.1.keeps k, hp.2.1.keeps k, isList_keeps hp.2.2.1 k, isList_keeps hp.2.2.2.1 k, let ⟨o, ho⟩ := hp.2.2.2.2; ⟨o, k _ _ ho⟩⟩) (fun h hp => hp.1.fnAt)
    (fun A s Q E hp _ q => by
      obtain ⟨ox, hx, hc, _⟩ := hp.2.2.2.1
      obtain ⟨oy, hy⟩ := hp.2.2.2.2
      exact PySem.W.kto_is hx hy hl0 (by rw [hc]; exact fun q => nomatch q) q) (.inl ⟨rfl, rfl, rfl⟩) ?_
  · intro p loose mean mg mb dp un gd cn cs a ccd cl outer A₀ base h₀ L m s Q E B F X T hk hpre hdp hun hret
    refine R p loose mean mg mb dp un gd cn cs a ccd cl outer A₀ base h₀ L m s Q E B F X T hk hpre hdp hun fun v h' tk' st sz r => hret v h' tk' st sz ?_
    obtain ⟨n2, hn, hv⟩ := r
    rw [hul] at hv
    rcases hv with ⟨e, _⟩ | ⟨_, D, vs, c, rfl, rfl, hI⟩
    · exact absurd e (by decide)
    · have z := hn _ (.head _)
      exact ⟨D, vs, c, rfl, z.1, z.2, hI⟩
  · rintro i v x news hlt hx hV
    obtain ⟨n, t, rfl, hn⟩ := hi.at i x hx
    have hn8 := hr n (List.mem_of_getElem? hn)
    have ko := kept_ok (W := W) hr i (by rw [h8]; lia)
    have step : ∀ (lk : Addr) (kvs : List Value), IntsAre kvs (keptL W ns i) → v = .ref lk → (∀ h : Heap, h.IsList l0 ([] : List Value).toArray → (∀ p ∈ news, h.get? p.1 = some p.2) → h.IsList lk kvs.toArray) → Told w f [v, .int n t] 16 (fun h => (LamAt w 233 7 h f [(Str.ofString "ways", cw)] ∧ WaysAt h cw W T₀ ∧ h.IsList lr us.toArray ∧ h.IsList l0 ([] : List Value).toArray ∧ ∃ o, h.get? 168 = some o) ∧ ∀ p ∈ news, h.get? p.1 = some p.2)
        (fun h h' r => ∃ news₂, (∀ p ∈ news₂, h.get? p.1 = none ∧ h'.get? p.1 = some p.2) ∧ ((i + 1 = 0 ∧ r = .ref l0 ∧ news₂ = []) ∨ (0 < i + 1 ∧ ∃ D vs c, r = .ref D ∧ news₂ = [(D, ({ cls := .type "list", data := .seq vs.toArray c } : Obj))] ∧ IntsAre vs (keptL W ns (i + 1))))) := by
      intro lk kvs hk hv hl
      subst hv
      have C := c_lam3 w W T₀ hW hF f cw lk kvs (keptL W ns i) hk (by lia) ko.2 n t hn8.1 hn8.2
      intro p loose mean mg mb dp un gd cn cs a ccd cl outer A₀ base h₀ L m s Q E B F X T hk' hpre hdp hun hret
      refine C p loose mean mg mb dp un gd cn cs a ccd cl outer A₀ base h₀ L m s Q E B F X T hk' ⟨hpre.1.1, hpre.1.2.1, hl _ hpre.1.2.2.2.1 hpre.2⟩ hdp hun fun r h' tk' st sz q => hret r h' tk' st sz ?_
      obtain ⟨D, vs, c, rfl, h0, h1, hI⟩ := q
      exact ⟨[(D, _)], fun p hp => by rw [List.mem_singleton.mp hp]; exact ⟨h0, h1⟩, .inr ⟨Nat.succ_pos i, D, vs, c, rfl, rfl, by rw [kept_next hn]; exact hI⟩⟩
    rcases hV with ⟨rfl, rfl, rfl⟩ | ⟨_, D, vs, c, rfl, rfl, hI⟩
    · exact step l0 [] .nil rfl fun h hl _ => hl
    · exact step D vs hI rfl fun h _ hnw => ⟨_, hnw _ (.head _), rfl, _, rfl⟩
end Mine
end
section
namespace Mine
open PySem.SeqAt
theorem adjust_to (a n : Nat) (ha : a ≤ n) : Builtin.Slice.sliceAdjust none (some (a : Int)) 1 (n : Int) = (0, (a : Int)) := by
  unfold Builtin.Slice.sliceAdjust
  have h1 : ¬ ((1 : Int) < 0) := by lia
  have h2 : ¬ ((a : Int) < 0) := by lia
  simp only [h1, h2, if_false]
  congr 1
  lia
theorem places_to (a : Nat) : Builtin.Slice.slicePlaces (0 : Int) (a : Int) 1 = a := by
  unfold Builtin.Slice.slicePlaces
  have h1 : (1 : Int) > 0 := by lia
  simp only [h1, if_true, Int.ediv_one]
  split <;> lia
theorem pick_to (xs : Array Value) (a : Nat) : ((List.range a).filterMap fun (k : Nat) => xs[((0 : Int) + (k : Int) * 1).toNat]?).toArray = (xs.toList.take a).toArray := by
  have e : (fun (k : Nat) => xs[((0 : Int) + (k : Int) * 1).toNat]?) = fun k => xs[0 + k]? := by
    funext k
    have : ((0 : Int) + (k : Int) * 1).toNat = 0 + k := by lia
    rw [this]
  rw [e]
  have := pick_run xs 0 a
  rw [List.filterMap_map] at this
  have e2 : ((fun x => xs[x]?) ∘ fun x => 0 + x) = fun k => xs[0 + k]? := rfl
  rw [e2] at this
  rw [this, List.drop_zero]
section
variable {prog : Program} {w : World} {A : Around} {E : Value → Shared → Prop} {s : Shared} {h₀ : Heap} {L : Addr} {m : Str → Option Value} {news : List (Addr × Obj)}
theorem sliceApplied_to {sl : Addr} {a n : Nat} {u : Tok} {Q : Int × Int × Nat → Shared → Prop} (hs : s.heap.IsSliceOf sl .none (.int a u) .none) (ha : a ≤ n) (h : Q (0, 1, a) s) :
    wpAny (model prog w) A (Builtin.Slice.sliceApplied (.ref sl) (pure (n : Int))) Q E s := by
  obtain ⟨os, hos, hcs, hds⟩ := id hs
  unfold Builtin.Slice.sliceApplied Builtin.Slice.sliceFields
  refine wpAny_bind (wpAny_bind (wpAny_field hos hds (x := .none) rfl (wpAny_bind (wpAny_field hos hds (x := .int a u) rfl (wpAny_bind (wpAny_field hos hds (x := .none) rfl (wpAny_pure ?_)))))))
  refine wpAny_bind (slicePart_none ?_)
  show wpAny _ _ (if ((1 : Int) == 0) = true then _ else _) _ _ s
  rw [if_neg (by decide)]
  refine wpAny_bind (slicePart_none (wpAny_bind (slicePart_int (wpAny_bind (wpAny_pure ?_)))))
  show wpAny _ _ (match Builtin.Slice.sliceAdjust none (some (a : Int)) 1 (n : Int) with | (lo, hi) => pure (lo, (1 : Int), Builtin.Slice.slicePlaces lo hi 1)) _ _ s
  rw [adjust_to a n ha]
  show wpAny _ _ (pure ((0 : Int), (1 : Int), Builtin.Slice.slicePlaces (0 : Int) (a : Int) 1)) _ _ s
  rw [places_to a]
  exact wpAny_pure h
theorem getItem_tuple_to {t sl : Addr} {items : Array Value} {a : Nat} {u : Tok} {Q : Value → Shared → Prop} (ht : IsTup s.heap t items) (hs : s.heap.IsSliceOf sl .none (.int a u) .none) (ha : a < items.size)
    (h : Q (.ref s.heap.objs.size) { s with heap := s.heap.push { cls := .type "tuple", data := .seq (items.toList.take a).toArray } })
    (hsz : items.size ≤ sizeLine) : wpAny (model prog w) A (getItem (.ref t) (.ref sl)) Q E s := by
  have hdrop : sizeOk (.seq (items.toList.take a).toArray) := by
    show (items.toList.take a).toArray.size ≤ sizeLine
    rw [List.size_toArray, List.length_take, Array.length_toList]
    exact Nat.le_trans (Nat.min_le_right _ _) hsz
  obtain ⟨os, hos, hcs, hds⟩ := id hs
  have hTs : s.TypeIs (.ref sl) "slice" := ⟨os, hos, hcs⟩
  unfold getItem
  try with_reducible refine wpAny_holding ?_
  first | refine wpAny_bind (wpAny_pure ?_) | skip
  refine wpAny_bind (wpAny_sequenceKey ht.typeIs (by decide) ?_)
  refine wpAny_bind (wpAny_callSpecial?_slot (name := Str.ofString "__getitem__") ht.typeIs slot_tuple_getitem
    (wpAny_call_entry slot_tuple_getitem ht.typeIs entry_tuple_getitem ?_ (args_tuple_getitem _ _)))
  show wpAny _ _ (Builtin.Tuple.tupleItemsOf (.ref t) >>= _) _ _ s
  refine wpAny_bind (tupleItemsOf_ ht ?_)
  refine wpAny_bind (wpAny_typeOf hTs ?_)
  rw [if_pos (by decide)]
  refine wpAny_bind (sliceApplied_to hs (Nat.le_of_lt ha) ?_)
  have hno : ¬ (((0 : Int) == 0 && (1 : Int) == 1 && a == items.size) = true) := by
    have : (a == items.size) = false := by rw [beq_eq_false_iff_ne]; exact Nat.ne_of_lt ha
    rw [this]; decide
  show wpAny _ _ (if ((0 : Int) == 0 && (1 : Int) == 1 && a == items.size) = true then _ else _) _ _ s
  rw [if_neg hno, pick_to items a]
  first
    | exact wpAny_bind (m := Builtin.Tuple.tupleExact _) (wpAny_newObj_type (wpAny_pure ⟨_, rfl, wpAny_pure h⟩) hdrop)
    | exact wpAny_bind (m := Builtin.Tuple.tupleExact _) (wpAny_newObj_type (wpAny_bind (wpAny_pure (wpAny_pure ⟨_, rfl, wpAny_pure h⟩))) hdrop)
    | exact wpAny_bind (wpAny_bind (m := Builtin.Tuple.tupleExact _) (wpAny_newObj_type (wpAny_pure (wpAny_pure ⟨_, rfl, wpAny_pure h⟩)) hdrop))
    | exact wpAny_bind (wpAny_bind (m := Builtin.Tuple.tupleExact _) (wpAny_newObj_type (wpAny_pure ⟨_, rfl, wpAny_pure h⟩) hdrop))
/- t[:a] of a tuple of ints that holds more than a. -/
theorem slice_tup_to {value slice : Expr} {t : Addr} {vs : List Value} {ns : List Int} {a c : Nat} {u : Tok} {Q : Value → Shared → Prop}
    (F : Fr h₀ L s.heap m) (N : News h₀ L s.heap news) (hm : (t, tupObj vs c) ∈ news) (hi : IntsAre vs ns) (ha : a < ns.length) (hsz : ns.length ≤ 100)
    (h : ∀ h' D vs', IntsAre vs' (ns.take a) → Fr h₀ L h' m → News h₀ L h' ((D, { cls := .type "tuple", data := .seq vs'.toArray }) :: news) → Q (.ref D) { s with heap := h' })
    (hs : subscripted slice false (.ref t) (.ref s.heap.objs.size) = operate [.ref s.heap.objs.size, .ref t] (getItem (.ref t) (.ref s.heap.objs.size)) := by with_unfolding_all rfl)
    (hg : ∀ r, letTemporaryGo value (.ref t) r = pure () := by intro _; with_unfolding_all rfl) :
    wpAny (model prog w) A (subscriptTail value slice (.ref t) (.ref s.heap.objs.size)) Q E { s with heap := s.heap.push { cls := .type "slice", data := .fields #[.none, .int a u, .none] } } := by
  have ht : IsTup s.heap t vs.toArray := ⟨_, (N _ hm).1, rfl, _, rfl⟩
  have ht' : IsTup (s.heap.push { cls := .type "slice", data := .fields #[.none, .int a u, .none] }) t vs.toArray := ht.keeps fun _ _ e => Heap.get?_push_of_some _ e
  have hl := hi.length
  refine subscriptTail_ops (s := { s with heap := s.heap.push { cls := .type "slice", data := .fields #[.none, .int a u, .none] } }) ht'.typeIs slot_tuple_getitem.lookup
    (getItem_tuple_to ht' (Heap.IsSliceOf.new ..) (by rw [List.size_toArray, hl]; exact ha) ?_ (by rw [List.size_toArray, hl]; exact Nat.le_trans hsz (Nat.le_of_ble_eq_true rfl))) hs hg
  have N1 := News.push (F.push { cls := .type "slice", data := .fields #[.none, .int a u, .none] }) (N.grown fun _ _ e => Heap.get?_push_of_some _ e) { cls := .type "tuple", data := .seq (vs.toArray.toList.take a).toArray }
  refine h _ _ (vs.take a) ?_ ((F.push _).push _) N1
  exact hi.take a
theorem eq_ints {l b : Addr} {vs1 vs2 : List Value} {ns1 ns2 : List Int} {Q : Value → Shared → Prop} (h1 : s.heap.IsList l vs1.toArray) (h2 : s.heap.IsList b vs2.toArray) (i1 : IntsAre vs1 ns1) (i2 : IntsAre vs2 ns2) (hu : A.units < cLine) (h : Q (.bool (ns1 == ns2)) s) :
    wpAny (model prog w) A (compareOp .Eq (.ref l) (.ref b)) Q E s := by
  have l1 := i1.length
  have l2 := i2.length
  by_cases hl : ns1.length = ns2.length
  · refine eq_listAt (e := fun j => ns1.getD j 0 == ns2.getD j 0) h1 h2 (by rw [List.size_toArray, List.size_toArray, l1, l2, hl]) hu (fun j a b => ?_) ?_
    · obtain ⟨t, e⟩ := int_item i1 j a
      obtain ⟨u, e'⟩ := int_item i2 j b
      rw [e, e']
      exact EqAt.int_int _ _ _ _
    · have e := all_beq ns1 ns2 hl
      rw [← hl, Nat.min_self, beq_self_eq_true, Bool.and_true] at e
      rw [List.size_toArray, l1, e]; exact h
  · have e : (ns1 == ns2) = false := by rw [beq_eq_false_iff_ne]; intro q; exact hl (by rw [q])
    rw [e] at h
    exact eq_list_lengthsAt h1 h2 (by rw [List.size_toArray, List.size_toArray, l1, l2, bne_iff_ne]; exact hl) hu h
theorem eq_tup_ints {T1 T2 : Addr} {vs1 vs2 : List Value} {ns1 ns2 : List Int} {c1 c2 : Nat} {Q : Value → Shared → Prop} (h1 : s.heap.get? T1 = some (tupObj vs1 c1)) (h2 : s.heap.get? T2 = some (tupObj vs2 c2)) (i1 : IntsAre vs1 ns1) (i2 : IntsAre vs2 ns2) (hl : ns1.length = ns2.length) (hu : A.units < cLine) (h : Q (.bool (ns1 == ns2)) s) :
    wpAny (model prog w) A (compareOp .Eq (.ref T1) (.ref T2)) Q E s := by
  have l1 := i1.length
  have l2 := i2.length
  refine eq_tupleAt (e := fun j => ns1.getD j 0 == ns2.getD j 0) ⟨_, h1, rfl, _, rfl⟩ ⟨_, h2, rfl, _, rfl⟩ hu (fun j a b => ?_) ?_
  · obtain ⟨t, e⟩ := int_item i1 j a
    obtain ⟨u, e'⟩ := int_item i2 j b
    rw [e, e']
    exact EqAt.int_int _ _ _ _
  · have e := all_beq ns1 ns2 hl
    rw [List.size_toArray, List.size_toArray, l1, l2, e]; exact h
end
end Mine
end
section
namespace Mine
open PySem.Builtin
noncomputable def lenZ (n : Int) : Int := if 256 ≤ n then 3 else if 16 ≤ n then 2 else if 1 ≤ n then 1 else 0
theorem lenZ_le {a b : Int} (h : a ≤ b) : lenZ a ≤ lenZ b := by unfold lenZ; (repeat' split) <;> lia
theorem lenZ_rng (a : Int) : 0 ≤ lenZ a ∧ lenZ a ≤ 3 := by unfold lenZ; (repeat' split) <;> lia
theorem lz3 (n : Int) : 256 ≤ n ↔ 3 ≤ lenZ n := by unfold lenZ; (repeat' split) <;> lia
theorem lz2 (n : Int) : 16 ≤ n ↔ 2 ≤ lenZ n := by unfold lenZ; (repeat' split) <;> lia
theorem lz1 (n : Int) : 1 ≤ n ↔ 1 ≤ lenZ n := by unfold lenZ; (repeat' split) <;> lia
theorem wl_def (n : Int) : wl n = if 256 ≤ n then [dig (n.fdiv 256), dig (n.fdiv 16), dig n] else if 16 ≤ n then [dig (n.fdiv 16), dig n] else if 1 ≤ n then [dig n] else [] := by
  unfold wl wordB
  (repeat' split) <;> rfl
theorem wl_len (n : Int) : ((wl n).length : Int) = lenZ n := by
  rw [wl_def]; unfold lenZ
  (repeat' split) <;> rfl
theorem word_size (n : Int) : ((wordB n).size : Int) = lenZ n := by rw [← wl_len]; unfold wl; rw [Array.length_toList]
theorem dig_lt (x y : Int) : dig x < dig y ↔ x % 16 < y % 16 := by
  have h1 := Int.emod_nonneg x (show (16 : Int) ≠ 0 by decide)
  have h2 := Int.emod_nonneg y (show (16 : Int) ≠ 0 by decide)
  rw [UInt8.lt_iff_toNat_lt, dig_nat, dig_nat, Int.fmod_eq_emod_of_nonneg _ (by decide), Int.fmod_eq_emod_of_nonneg _ (by decide)]
  lia
theorem wl_inj {a b : Int} (ha : 0 ≤ a ∧ a < 4096) (hb : 0 ≤ b ∧ b < 4096) (h : wl a = wl b) : a = b := by
  have e : wordB a = wordB b := by rw [← wl_to, ← wl_to, h]
  have := congrArg numB e
  rwa [num_word ha.1 ha.2, num_word hb.1 hb.2] at this
theorem order_cons (x y : Int) (u v : List UInt8) : (Bytes.order (dig x :: u) (dig y :: v) == .gt) = true ↔ y % 16 < x % 16 ∨ (x % 16 = y % 16 ∧ (Bytes.order u v == .gt) = true) := by
  have key : Bytes.order (dig x :: u) (dig y :: v) = if dig x < dig y then .lt else if dig y < dig x then .gt else Bytes.order u v := by rw [Bytes.order]
  rw [key]
  clear key
  by_cases h1 : dig x < dig y
  · rw [if_pos h1]
    have := (dig_lt x y).mp h1
    exact ⟨fun q => absurd q (by decide), fun q => by lia⟩
  · rw [if_neg h1]
    have h1' : ¬ x % 16 < y % 16 := fun q => h1 ((dig_lt x y).mpr q)
    by_cases h2 : dig y < dig x
    · rw [if_pos h2]
      exact ⟨fun _ => .inl ((dig_lt y x).mp h2), fun _ => by decide⟩
    · rw [if_neg h2]
      have h2' : ¬ y % 16 < x % 16 := fun q => h2 ((dig_lt y x).mpr q)
      constructor
      · exact fun q => .inr ⟨by lia, q⟩
      · rintro (q | q)
        · exact absurd q h2'
        · exact q.2
theorem order_nil : (Bytes.order [] [] == .gt) = true ↔ False := ⟨fun q => absurd q (by decide), fun q => q.elim⟩
theorem order_wl {a b : Int} (ha : 0 ≤ a ∧ a < 4096) (hb : 0 ≤ b ∧ b < 4096) (h : lenZ a = lenZ b) : (Bytes.order (wl a) (wl b) == .gt) = decide (b < a) := by
  have e1 : a.fdiv 16 = a / 16 := Int.fdiv_eq_ediv_of_nonneg _ (by decide)
  have e2 : a.fdiv 256 = a / 256 := Int.fdiv_eq_ediv_of_nonneg _ (by decide)
  have e3 : b.fdiv 16 = b / 16 := Int.fdiv_eq_ediv_of_nonneg _ (by decide)
  have e4 : b.fdiv 256 = b / 256 := Int.fdiv_eq_ediv_of_nonneg _ (by decide)
  rw [wl_def, wl_def, e1, e2, e3, e4, Bool.eq_iff_iff, decide_eq_true_iff]
  clear e1 e2 e3 e4
  have d3 : 256 ≤ a ↔ 256 ≤ b := by rw [lz3, lz3, h]
  have d2 : 16 ≤ a ↔ 16 ≤ b := by rw [lz2, lz2, h]
  have d1 : 1 ≤ a ↔ 1 ≤ b := (lz1 a).trans (by rw [h]; exact (lz1 b).symm)
  clear h
  by_cases c1 : 256 ≤ a
  · have c2 := d3.mp c1
    clear d1 d2 d3
    rw [if_pos c1, if_pos c2, order_cons, order_cons, order_cons, order_nil]
    simp only [and_false, or_false]
    lia
  · have k1 := fun q => c1 (d3.mpr q)
    by_cases c2 : 16 ≤ a
    · have k2 := d2.mp c2
      rw [if_neg c1, if_pos c2, if_neg k1, if_pos k2, order_cons, order_cons, order_nil]
      have k1' : ¬ 256 ≤ b := k1
      clear d1 d2 d3 k1
      simp only [and_false, or_false]
      lia
    · have k2 := fun q => c2 (d2.mpr q)
      have k2' : ¬ 16 ≤ b := k2
      by_cases c4 : 1 ≤ a
      · have k3 := d1.mp c4
        rw [if_neg c1, if_neg c2, if_pos c4, if_neg k1, if_neg k2, if_pos k3, order_cons, order_nil]
        clear d1 d2 d3 k1 k2
        simp only [and_false, or_false]
        lia
      · have k3 := fun q => c4 (d1.mpr q)
        have k3' : ¬ 1 ≤ b := k3
        rw [if_neg c1, if_neg c2, if_neg c4, if_neg k1, if_neg k2, if_neg k3, order_nil]
        clear d1 d2 d3 k1 k2 k3
        simp only [false_iff]
        lia
end Mine
end
section
namespace Mine
open PySem.Builtin
theorem order_dot (x y : List UInt8) : Bytes.order (46 :: x) (46 :: y) = Bytes.order x y := by
  simp [Bytes.order]
theorem dw_list (n : Int) : (#[46] ++ wordB n).toList = 46 :: wl n := by simp [wl]
theorem dw_size (n : Int) : ((#[46] ++ wordB n).size : Int) = 1 + lenZ n := by
  rw [Array.size_append, ← word_size]; simp
noncomputable def cmpN (a b r : Int) : Int := if lenZ a ≠ lenZ b then 11 * (lenZ a - lenZ b) else if a = b then r else if b < a then 11 else -11
section
variable {a b : Int} (ha : 0 ≤ a ∧ a < 4096) (hb : 0 ≤ b ∧ b < 4096)
include ha hb
theorem cmp_w (r : Int) : cmp1 (wordB a) (wordB b) r = cmpN a b r := by
  unfold cmp1 cmpN
  rw [word_size, word_size]
  by_cases h : lenZ a = lenZ b
  · rw [if_neg (not_not_intro h), if_neg (not_not_intro h)]
    show (if (wl a != wl b) = true then if (Bytes.order (wl a) (wl b) == .gt) = true then 11 else -11 else r) = _
    rw [order_wl ha hb h]
    by_cases e : a = b
    · subst e; simp
    · have e2 : wl a ≠ wl b := fun q => e (wl_inj ha hb q)
      rw [if_pos (bne_iff_ne.mpr e2), if_neg e]
      simp only [decide_eq_true_eq]
  · rw [if_pos h, if_pos h]
theorem cmp_dot (r : Int) : cmp1 (#[46] ++ wordB a) (#[46] ++ wordB b) r = cmpN a b r := by
  unfold cmp1 cmpN
  rw [dw_size, dw_size, dw_list, dw_list, order_dot]
  by_cases h : lenZ a = lenZ b
  · rw [if_neg (by lia), if_neg (not_not_intro h)]
    rw [order_wl ha hb h]
    by_cases e : a = b
    · subst e; simp
    · have e2 : (46 :: wl a) ≠ (46 :: wl b) := fun q => e (wl_inj ha hb (List.cons.inj q).2)
      rw [if_pos (bne_iff_ne.mpr e2), if_neg e]
      simp only [decide_eq_true_eq]
  · rw [if_pos (by lia), if_pos h]
    congr 1; lia
end
theorem wl_cons {b : Int} (hb : 1 ≤ b) : ∃ o r, wl b = o :: r ∧ 65 ≤ o.toNat := by
  obtain ⟨o, r, e⟩ := List.exists_cons_of_ne_nil (wl_ne hb)
  exact ⟨o, r, e, (wl_mem (n := b) (o := o) (by rw [e]; simp)).1⟩
theorem cmp_dw {a b : Int} (hb : 1 ≤ b) (r : Int) : cmp1 (#[46] ++ wordB a) (wordB b) r = if 1 + lenZ a ≠ lenZ b then 11 * (1 + lenZ a - lenZ b) else -11 := by
  unfold cmp1
  rw [dw_size, dw_list, word_size]
  by_cases h : 1 + lenZ a = lenZ b
  · rw [if_neg (not_not_intro h), if_neg (not_not_intro h)]
    obtain ⟨o, q, e, ho⟩ := wl_cons hb
    have ew : (wordB b).toList = o :: q := e
    have h1 : (46 : UInt8) < o := by rw [UInt8.lt_iff_toNat_lt]; exact Nat.lt_of_lt_of_le (by decide) ho
    have h2 : (46 : UInt8) ≠ o := fun q => by rw [← q] at ho; exact absurd ho (by decide)
    rw [ew, if_pos (bne_iff_ne.mpr (fun q => h2 (List.cons.inj q).1))]
    unfold Bytes.order
    rw [if_pos h1]; rfl
  · rw [if_pos h, if_pos h]
theorem cmp_wd {a b : Int} (ha : 1 ≤ a) (r : Int) : cmp1 (wordB a) (#[46] ++ wordB b) r = if lenZ a ≠ 1 + lenZ b then 11 * (lenZ a - (1 + lenZ b)) else 11 := by
  unfold cmp1
  rw [dw_size, dw_list, word_size]
  by_cases h : lenZ a = 1 + lenZ b
  · rw [if_neg (not_not_intro h), if_neg (not_not_intro h)]
    obtain ⟨o, q, e, ho⟩ := wl_cons ha
    have ew : (wordB a).toList = o :: q := e
    have h1 : (46 : UInt8) < o := by rw [UInt8.lt_iff_toNat_lt]; exact Nat.lt_of_lt_of_le (by decide) ho
    have h1' : ¬ o < (46 : UInt8) := by rw [UInt8.lt_iff_toNat_lt] at h1 ⊢; lia
    have h2 : o ≠ (46 : UInt8) := fun q => by rw [q] at ho; exact absurd ho (by decide)
    rw [ew, if_pos (bne_iff_ne.mpr (fun q => h2 (List.cons.inj q).1))]
    unfold Bytes.order
    rw [if_neg h1', if_pos h1]; rfl
  · rw [if_pos h, if_pos h]
noncomputable def gk (f l z a : Int) : Int := ((f * 8 + l) * 2 + z) * 512 + a
theorem lx8 {a b c d : Int} (h : 0 ≤ b ∧ b < 8) (h' : 0 ≤ d ∧ d < 8) : (a * 8 + b < c * 8 + d ↔ a < c ∨ (a = c ∧ b < d)) ∧ (a * 8 + b = c * 8 + d ↔ a = c ∧ b = d) := by lia
theorem lx2 {a b c d : Int} (h : 0 ≤ b ∧ b < 2) (h' : 0 ≤ d ∧ d < 2) : (a * 2 + b < c * 2 + d ↔ a < c ∨ (a = c ∧ b < d)) ∧ (a * 2 + b = c * 2 + d ↔ a = c ∧ b = d) := by lia
theorem lx512 {a b c d : Int} (h : 0 ≤ b ∧ b < 512) (h' : 0 ≤ d ∧ d < 512) : (a * 512 + b < c * 512 + d ↔ a < c ∨ (a = c ∧ b < d)) ∧ (a * 512 + b = c * 512 + d ↔ a = c ∧ b = d) := by lia
section
variable {f l z a b f' l' z' a' b' : Int} (hl : 0 ≤ l ∧ l < 8) (hl' : 0 ≤ l' ∧ l' < 8) (hz : 0 ≤ z ∧ z < 2) (hz' : 0 ≤ z' ∧ z' < 2) (ha : 0 ≤ a ∧ a < 512) (ha' : 0 ≤ a' ∧ a' < 512)
include hl hl' hz hz' ha ha'
theorem gk_eq : gk f l z a = gk f' l' z' a' ↔ f = f' ∧ l = l' ∧ z = z' ∧ a = a' := by
  unfold gk
  rw [(lx512 ha ha').2, (lx2 hz hz').2, (lx8 hl hl').2, and_assoc, and_assoc]
theorem gk_lt : gk f l z a < gk f' l' z' a' ↔ f < f' ∨ (f = f' ∧ (l < l' ∨ (l = l' ∧ (z < z' ∨ (z = z' ∧ a < a'))))) := by
  unfold gk
  rw [(lx512 ha ha').1, (lx2 hz hz').1, (lx2 hz hz').2, (lx8 hl hl').1, (lx8 hl hl').2]
  constructor
  · rintro (((h | h) | h) | h)
    · exact .inl h
    · exact .inr ⟨h.1, .inl h.2⟩
    · exact .inr ⟨h.1.1, .inr ⟨h.1.2, .inl h.2⟩⟩
    · exact .inr ⟨h.1.1.1, .inr ⟨h.1.1.2, .inr ⟨h.1.2, h.2⟩⟩⟩
  · rintro (h | ⟨h1, h | ⟨h2, h | ⟨h3, h⟩⟩⟩)
    · exact .inl (.inl (.inl h))
    · exact .inl (.inl (.inr ⟨h1, h⟩))
    · exact .inl (.inr ⟨⟨h1, h2⟩, h⟩)
    · exact .inr ⟨⟨⟨h1, h2⟩, h3⟩, h⟩
end
noncomputable def xL (x : FT) : Int := if x.2.1 < 1 then 1 + lenZ x.2.2 else lenZ x.2.1
noncomputable def xZ (x : FT) : Int := if x.2.1 < 1 then 0 else 1
noncomputable def xA (x : FT) : Int := if x.2.1 < 1 then x.2.2 else x.2.1
noncomputable def xB (x : FT) : Int := if x.2.1 < 1 then 0 else x.2.2 + 1
noncomputable def gkey (x : FT) : Int := gk x.1 (xL x) (xZ x) (xA x)
noncomputable def keyF (x : FT) : Int := gkey x * 512 + xB x
theorem xL_rng (x : FT) : 0 ≤ xL x ∧ xL x < 8 := by
  unfold xL
  have h1 := lenZ_rng x.2.2
  have h2 := lenZ_rng x.2.1
  split <;> lia
theorem xZ_rng (x : FT) : 0 ≤ xZ x ∧ xZ x < 2 := by unfold xZ; split <;> lia
theorem xA_rng {x : FT} (h : FileOk x) : 0 ≤ xA x ∧ xA x < 512 := by
  unfold xA
  obtain ⟨_, _, a3, a4, a5, a6⟩ := h
  split <;> lia
theorem xB_rng {x : FT} (h : FileOk x) : 0 ≤ xB x ∧ xB x < 512 := by
  unfold xB
  obtain ⟨_, _, _, _, a5, a6⟩ := h
  split <;> lia
theorem gkey_eq {x y : FT} (hx : FileOk x) (hy : FileOk y) : gkey x = gkey y ↔ x.1 = y.1 ∧ xL x = xL y ∧ xZ x = xZ y ∧ xA x = xA y := gk_eq (xL_rng x) (xL_rng y) (xZ_rng x) (xZ_rng y) (xA_rng hx) (xA_rng hy)
theorem key_eq {x y : FT} (hx : FileOk x) (hy : FileOk y) : keyF x = keyF y ↔ gkey x = gkey y ∧ xB x = xB y := (lx512 (xB_rng hx) (xB_rng hy)).2
theorem key_lt {x y : FT} (hx : FileOk x) (hy : FileOk y) : keyF x < keyF y ↔ x.1 < y.1 ∨ (x.1 = y.1 ∧ (xL x < xL y ∨ (xL x = xL y ∧ (xZ x < xZ y ∨ (xZ x = xZ y ∧ (xA x < xA y ∨ (xA x = xA y ∧ xB x < xB y))))))) := by
  unfold keyF
  rw [(lx512 (xB_rng hx) (xB_rng hy)).1, gkey_eq hx hy]
  unfold gkey
  rw [gk_lt (xL_rng x) (xL_rng y) (xZ_rng x) (xZ_rng y) (xA_rng hx) (xA_rng hy)]
  constructor
  · rintro ((h | ⟨h1, h | ⟨h2, h | ⟨h3, h⟩⟩⟩) | ⟨⟨h1, h2, h3, h4⟩, h⟩)
    · exact .inl h
    · exact .inr ⟨h1, .inl h⟩
    · exact .inr ⟨h1, .inr ⟨h2, .inl h⟩⟩
    · exact .inr ⟨h1, .inr ⟨h2, .inr ⟨h3, .inl h⟩⟩⟩
    · exact .inr ⟨h1, .inr ⟨h2, .inr ⟨h3, .inr ⟨h4, h⟩⟩⟩⟩
  · rintro (h | ⟨h1, h | ⟨h2, h | ⟨h3, h | ⟨h4, h⟩⟩⟩⟩)
    · exact .inl (.inl h)
    · exact .inl (.inr ⟨h1, .inl h⟩)
    · exact .inl (.inr ⟨h1, .inr ⟨h2, .inl h⟩⟩)
    · exact .inl (.inr ⟨h1, .inr ⟨h2, .inr ⟨h3, h⟩⟩⟩)
    · exact .inr ⟨⟨h1, h2, h3, h4⟩, h⟩
theorem cmpN_neg {a b r : Int} : cmpN a b r < 0 ↔ a < b ∨ (a = b ∧ r < 0) := by
  have m1 := @lenZ_le a b
  have m2 := @lenZ_le b a
  unfold cmpN
  by_cases h : lenZ a = lenZ b
  · rw [if_neg (not_not_intro h)]
    clear h m1 m2
    (repeat' split) <;> lia
  · rw [if_pos h]; lia
theorem front_way (f s e : Int) : frontB (baseB (wayB f s e)) = if s < 1 then #[46] ++ wordB e else wordB s := by
  rw [base_way]
  split
  · rename_i h
    rw [(nm_0 h).1]
    unfold nmB
    have : wordB s = #[] := by rw [← wl_to, wl_nil h]
    rw [this]; simp
  · rename_i h
    exact (nm_1 (by lia)).1
theorem end_way (f s e : Int) : endB (wayB f s e) = if s < 1 then #[] else #[46] ++ wordB e := by
  have h0 : endB (wayB f s e) = endB (nmB s e) := by
    by_cases h : f < 1
    · rw [way_front0 h]
    · exact (way_front1 (by lia)).2
  rw [h0]
  split
  · rename_i h
    exact (nm_0 h).2
  · rename_i h
    exact (nm_1 (by lia)).2
theorem cmpZ_key {x y : FT} (hx : FileOk x) (hy : FileOk y) : cmpZ (wayF x) (wayF y) < 0 ↔ keyF x < keyF y := by
  rw [key_lt hx hy]
  obtain ⟨f, s, e⟩ := x
  obtain ⟨g, t, d⟩ := y
  obtain ⟨a1, a2, a3, a4, a5, a6⟩ := hx
  obtain ⟨b1, b2, b3, b4, b5, b6⟩ := hy
  dsimp only at a1 a2 a3 a4 a5 a6 b1 b2 b3 b4 b5 b6
  unfold cmpZ wayF xL xZ xA xB
  dsimp only
  rw [dir_way, dir_way, front_way, front_way, end_way, end_way, cmp_w ⟨a1, by lia⟩ ⟨b1, by lia⟩, cmpN_neg]
  refine or_congr Iff.rfl (and_congr_right fun _ => ?_)
  by_cases hs : s < 1
  · by_cases ht : t < 1
    · simp only [if_pos hs, if_pos ht]
      rw [cmp_dot ⟨a5, by lia⟩ ⟨b5, by lia⟩, cmpN_neg, show cmp1 #[] #[] 0 = 0 from rfl]
      have m3 := @lenZ_le e d
      have m4 := @lenZ_le d e
      clear a1 a2 a3 a4 a5 a6 b1 b2 b3 b4 b5 b6 hs ht
      simp only [Int.lt_irrefl, true_and, false_or, and_false, or_false]
      lia
    · simp only [if_pos hs, if_neg ht]
      rw [cmp_dw (by lia)]
      clear a1 a2 a3 a4 a5 a6 b1 b2 b3 b4 b5 b6 hs ht
      split <;> (simp; lia)
  · by_cases ht : t < 1
    · simp only [if_neg hs, if_pos ht]
      rw [cmp_wd (by lia)]
      clear a1 a2 a3 a4 a5 a6 b1 b2 b3 b4 b5 b6 hs ht
      split <;> (simp; lia)
    · simp only [if_neg hs, if_neg ht]
      rw [cmp_w ⟨a3, by lia⟩ ⟨b3, by lia⟩, cmp_dot ⟨a5, by lia⟩ ⟨b5, by lia⟩, cmpN_neg, cmpN_neg]
      have m5 := @lenZ_le s t
      have m6 := @lenZ_le t s
      clear a1 a2 a3 a4 a5 a6 b1 b2 b3 b4 b5 b6 hs ht
      simp only [Int.lt_irrefl, true_and, false_or, and_false, or_false]
      lia
end Mine
end
section
namespace Mine
theorem cut_uniq {c : UInt8} : ∀ {x x' y y' : List UInt8}, c ∉ x → c ∉ x' → x ++ c :: y = x' ++ c :: y' → x = x' ∧ y = y'
  | [], [], _, _, _, _, h => ⟨rfl, (List.cons.inj h).2⟩
  | [], a :: x', _, _, _, h', h => absurd ((List.cons.inj h).1 ▸ List.mem_cons_self) h'
  | a :: x, [], _, _, h', _, h => absurd ((List.cons.inj h).1 ▸ List.mem_cons_self) h'
  | a :: x, b :: x', y, y', h1, h2, h => by
    have e := List.cons.inj h
    have r := cut_uniq (fun q => h1 (List.mem_cons_of_mem _ q)) (fun q => h2 (List.mem_cons_of_mem _ q)) e.2
    exact ⟨by rw [e.1, r.1], r.2⟩
theorem no47_fr (s e : Int) : (47 : UInt8) ∉ frL (wl s) (wl e) := by
  unfold frL
  split
  · exact no47_nm (wl_clean s) (wl_clean e)
  · exact (wl_clean s).no47
theorem frL_inj {s e s' e' : Int} (hs : 0 ≤ s ∧ s < 4096) (he : 0 ≤ e ∧ e < 4096) (hs' : 0 ≤ s' ∧ s' < 4096) (he' : 0 ≤ e' ∧ e' < 4096) :
    frL (wl s) (wl e) = frL (wl s') (wl e') ↔ (s < 1 ∧ s' < 1 ∧ e = e') ∨ (1 ≤ s ∧ s = s') := by
  by_cases h : s < 1
  · by_cases h' : s' < 1
    · unfold frL
      rw [wl_nil h, wl_nil h', if_pos rfl, if_pos rfl]
      constructor
      · intro q
        exact .inl ⟨h, h', wl_inj he he' (List.cons.inj q).2⟩
      · rintro (⟨_, _, q⟩ | q)
        · rw [q]
        · lia
    · unfold frL
      rw [wl_nil h, if_pos rfl, if_neg (wl_ne (by lia))]
      constructor
      · intro q
        have q2 : (46 : UInt8) ∈ wl s' := by rw [← q]; exact List.mem_cons_self
        exact absurd q2 (wl_clean s').no46
      · lia
  · by_cases h' : s' < 1
    · unfold frL
      rw [wl_nil h', if_pos rfl, if_neg (wl_ne (by lia))]
      constructor
      · intro q
        have q2 : (46 : UInt8) ∈ wl s := by rw [q]; exact List.mem_cons_self
        exact absurd q2 (wl_clean s).no46
      · lia
    · unfold frL
      rw [if_neg (wl_ne (by lia)), if_neg (wl_ne (by lia))]
      constructor
      · intro q
        exact .inr ⟨by lia, wl_inj hs hs' q⟩
      · rintro (q | ⟨_, q⟩)
        · lia
        · rw [q]
theorem front_list (f s e : Int) : frontB (wayB f s e) = (beL (wl f) ++ frL (wl s) (wl e)).toArray := by
  rw [way_to]
  exact (split_wy (wf := wl f) (wl_clean e) (wl_clean s)).1
theorem be_inj {f f' : Int} (hf : 0 ≤ f ∧ f < 4096) (hf' : 0 ≤ f' ∧ f' < 4096) {u u' : List UInt8} (hu : (47 : UInt8) ∉ u) (hu' : (47 : UInt8) ∉ u') : beL (wl f) ++ u = beL (wl f') ++ u' ↔ f = f' ∧ u = u' := by
  unfold beL
  by_cases h : f < 1
  · by_cases h' : f' < 1
    · rw [if_pos (wl_nil h), if_pos (wl_nil h')]
      constructor
      · intro q; exact ⟨by lia, q⟩
      · rintro ⟨_, q⟩; rw [q]
    · rw [if_pos (wl_nil h), if_neg (wl_ne (by lia))]
      constructor
      · intro q
        refine absurd ?_ hu
        have q1 : u = wl f' ++ [47] ++ u' := q
        rw [q1]; simp
      · lia
  · by_cases h' : f' < 1
    · rw [if_pos (wl_nil h'), if_neg (wl_ne (by lia))]
      constructor
      · intro q
        refine absurd ?_ hu'
        have q1 : wl f ++ [47] ++ u = u' := q
        rw [← q1]; simp
      · lia
    · rw [if_neg (wl_ne (by lia)), if_neg (wl_ne (by lia)), List.append_assoc, List.append_assoc]
      constructor
      · intro q
        have r := cut_uniq (wl_clean f).no47 (wl_clean f').no47 q
        exact ⟨wl_inj hf hf' r.1, r.2⟩
      · rintro ⟨q1, q2⟩; rw [q1, q2]
theorem front_key {x y : FT} (hx : FileOk x) (hy : FileOk y) : frontB (wayF x) = frontB (wayF y) ↔ gkey x = gkey y := by
  rw [gkey_eq hx hy]
  obtain ⟨f, s, e⟩ := x
  obtain ⟨g, t, d⟩ := y
  obtain ⟨a1, a2, a3, a4, a5, a6⟩ := hx
  obtain ⟨b1, b2, b3, b4, b5, b6⟩ := hy
  dsimp only at a1 a2 a3 a4 a5 a6 b1 b2 b3 b4 b5 b6
  have z : frontB (wayF (f, s, e)) = frontB (wayF (g, t, d)) ↔ beL (wl f) ++ frL (wl s) (wl e) = beL (wl g) ++ frL (wl t) (wl d) := by
    unfold wayF
    dsimp only
    rw [front_list, front_list]
    exact ⟨fun q => by simpa using congrArg Array.toList q, fun q => by rw [q]⟩
  rw [z, be_inj ⟨a1, by lia⟩ ⟨b1, by lia⟩ (no47_fr s e) (no47_fr t d), frL_inj ⟨a3, by lia⟩ ⟨a5, by lia⟩ ⟨b3, by lia⟩ ⟨b5, by lia⟩]
  clear z a1 a2 a4 a5 a6 b1 b2 b4 b5 b6
  unfold xL xZ xA
  dsimp only
  refine and_congr_right fun _ => ?_
  by_cases hs : s < 1
  · by_cases ht : t < 1
    · simp only [if_pos hs, if_pos ht, true_and]
      refine ⟨fun q => ?_, fun q => .inl ⟨hs, ht, q.2⟩⟩
      rcases q with ⟨_, _, q⟩ | q
      · rw [q]; exact ⟨rfl, rfl⟩
      · lia
    · simp only [if_pos hs, if_neg ht]
      lia
  · by_cases ht : t < 1
    · simp only [if_neg hs, if_pos ht]
      lia
    · simp only [if_neg hs, if_neg ht, true_and]
      refine ⟨fun q => ?_, fun q => .inr ⟨by lia, q.2⟩⟩
      rcases q with q | ⟨_, q⟩
      · lia
      · rw [q]; exact ⟨rfl, rfl⟩
noncomputable def rk (x : FT) : List Int := rankL x.1 x.2.1 x.2.2
theorem rk_def {x : FT} (hx : FileOk x) : rk x = [x.1, xL x, xZ x, xA x, xB x - 1] := by
  unfold rk rankL xL xZ xA xB
  rw [word_size, word_size]
  have h0 := hx.2.2.1
  by_cases h : x.2.1 = 0
  · have h1 : x.2.1 < 1 := by lia
    rw [if_pos h, if_pos h1, if_pos h1, if_pos h1, if_pos h1]; rfl
  · have h1 : ¬ x.2.1 < 1 := by lia
    rw [if_neg h, if_neg h1, if_neg h1, if_neg h1, if_neg h1, Int.add_sub_cancel]
theorem sub1_eq {a b : Int} : a - 1 = b - 1 ↔ a = b := by lia
theorem sub1_lt {a b : Int} : a - 1 < b - 1 ↔ a < b := by lia
theorem rk_eq {x y : FT} (hx : FileOk x) (hy : FileOk y) : (rk x == rk y) = decide (keyF x = keyF y) := by
  rw [rk_def hx, rk_def hy, Bool.eq_iff_iff, decide_eq_true_iff, key_eq hx hy, gkey_eq hx hy]
  simp only [beq_iff_eq, List.cons.injEq, and_true, sub1_eq, and_assoc]
theorem rk4_eq {x y : FT} (hx : FileOk x) (hy : FileOk y) : ((rk x).take 4 == (rk y).take 4) = decide (gkey x = gkey y) := by
  rw [rk_def hx, rk_def hy, Bool.eq_iff_iff, decide_eq_true_iff, gkey_eq hx hy]
  simp only [beq_iff_eq, List.take, List.cons.injEq, and_true]
theorem lexI_cons {a b : Int} {as bs : List Int} : lexI (a :: as) (b :: bs) = true ↔ a < b ∨ (a = b ∧ lexI as bs = true) := by
  show (if (a == b) = true then lexI as bs else decide (a < b)) = true ↔ _
  by_cases h : a = b
  · subst h; simp
  · have e : (a == b) = false := by simpa using h
    rw [e]; simp [h]
theorem rk_lex {x y : FT} (hx : FileOk x) (hy : FileOk y) : lexI (rk x) (rk y) = decide (keyF x < keyF y) := by
  rw [rk_def hx, rk_def hy, Bool.eq_iff_iff, decide_eq_true_iff, key_lt hx hy, lexI_cons, lexI_cons, lexI_cons, lexI_cons, lexI_cons, sub1_lt]
  have e : (lexI [] [] = true) ↔ False := by unfold lexI; simp
  rw [e, and_false, or_false]
noncomputable def fileAt (fs : List FT) (p : Nat) : FT := fs.getD p (0, 0, 0)
theorem fileAt_ok {fs : List FT} (h : ∀ t ∈ fs, FileOk t) (p : Nat) : FileOk (fileAt fs p) := by
  unfold fileAt
  rw [List.getD_eq_getElem?_getD]
  cases e : fs[p]? with
  | none => exact ⟨by decide, by decide, by decide, by decide, by decide, by decide⟩
  | some t => exact h t (List.mem_of_getElem? e)
noncomputable def keyN (fs : List FT) (p : Nat) : Int := keyF (fileAt fs p)
theorem ltR_key {fs : List FT} (h : ∀ t ∈ fs, FileOk t) (p q : Nat) : (ltR fs p q = true) ↔ Bf (keyN fs) p q := by
  have hp := fileAt_ok h p
  have hq := fileAt_ok h q
  unfold ltR pairB
  show (if (rk (fileAt fs p) == rk (fileAt fs q)) = true then decide ((p : Int) < (q : Int)) else lexI (rk (fileAt fs p)) (rk (fileAt fs q))) = true ↔ _
  rw [rk_eq hp hq, rk_lex hp hq]
  unfold Bf keyN
  simp only [decide_eq_true_eq]
  split <;> simp only [decide_eq_true_eq] <;> lia
theorem lt_ways {fs : List FT} (h : ∀ t ∈ fs, FileOk t) : (fun i j => decide (cmpZ (wayF (fs.getD i (0, 0, 0))) (wayF (fs.getD j (0, 0, 0))) < 0)) = ltK (keyN fs) := by
  funext i j
  unfold ltK keyN
  rw [Bool.eq_iff_iff]
  simp only [decide_eq_true_eq]
  exact cmpZ_key (fileAt_ok h i) (fileAt_ok h j)
end Mine
end
section
namespace Mine
section
variable {K : Nat → Int} {lt : Nat → Nat → Bool}
theorem Bf.irr (i : Nat) : ¬ Bf K i i := by unfold Bf; lia
theorem Bf.asymm {i j : Nat} (a : Bf K i j) : ¬ Bf K j i := by unfold Bf at *; lia
theorem take_drop_at {l : List Nat} {k : Nat} (h : k < l.length) : l = l.take k ++ l[k] :: l.drop (k + 1) := by
  rw [← List.drop_eq_getElem_cons h, List.take_append_drop]
theorem pair_at {l : List Nat} (hs : l.Pairwise (Bf K)) {i j : Nat} (hij : i < j) (hj : j < l.length) : Bf K (l[i]'(by lia)) l[j] := List.pairwise_iff_getElem.mp hs i j (by lia) hj hij
theorem cnt_at (hlt : ∀ p q, lt p q = true ↔ Bf K p q) {l : List Nat} (hs : l.Pairwise (Bf K)) {k : Nat} (h : k < l.length) : (l.filter fun p => lt p l[k]).length = k := by
  have e := take_drop_at h
  generalize hx : l[k] = x at e ⊢
  rw [e, List.filter_append, List.filter_cons]
  have h1 : (l.take k).filter (fun p => lt p x) = l.take k := by
    refine List.filter_eq_self.mpr fun a ha => ?_
    obtain ⟨i, hi, rfl⟩ := List.mem_take_iff_getElem.mp ha
    rw [hlt, ← hx]
    exact pair_at hs (by lia) h
  have h2 : (l.drop (k + 1)).filter (fun p => lt p x) = [] := by
    refine List.filter_eq_nil_iff.mpr fun a ha => ?_
    obtain ⟨i, hi, rfl⟩ := List.mem_drop_iff_getElem.mp ha
    rw [hlt, ← hx]
    exact Bf.asymm (pair_at hs (by lia) (by lia))
  have h3 : ¬ lt x x = true := by rw [hlt]; exact Bf.irr _
  rw [h1, h2, if_neg h3, List.append_nil, List.length_take]
  lia
theorem only_at {c : Nat → Nat} {l : List Nat} (hc : ∀ k (h : k < l.length), c l[k] = k) {k : Nat} (h : k < l.length) : (l.filter fun q => c q == k) = [l[k]] := by
  have e := take_drop_at h
  generalize hx : l[k] = x at e ⊢
  rw [e, List.filter_append, List.filter_cons]
  have h1 : (l.take k).filter (fun q => c q == k) = [] := by
    refine List.filter_eq_nil_iff.mpr fun a ha => ?_
    obtain ⟨i, hi, rfl⟩ := List.mem_take_iff_getElem.mp ha
    rw [hc]
    simp; lia
  have h2 : (l.drop (k + 1)).filter (fun q => c q == k) = [] := by
    refine List.filter_eq_nil_iff.mpr fun a ha => ?_
    obtain ⟨i, hi, rfl⟩ := List.mem_drop_iff_getElem.mp ha
    rw [hc]
    simp; lia
  have h3 : (c x == k) = true := by rw [← hx, hc]; simp
  rw [h1, h2, if_pos h3, List.nil_append]
end
section
variable {fs : List FT} (hok : ∀ t ∈ fs, FileOk t) {l : List Nat} (hp : l.Perm (List.range 8)) (hs : l.Pairwise (Bf (keyN fs)))
include hok hp hs
theorem cntR_at (k : Nat) (h : k < l.length) : cntR fs l[k] = k := by
  have z := cnt_at (lt := ltR fs) (ltR_key hok) hs h
  unfold cntR
  rw [← (hp.filter _).length_eq]
  exact z
theorem filt_at (k : Nat) (h : k < l.length) : ((List.range 8).filter fun q => cntR fs q == k) = [l[k]] := by
  have z := only_at (c := cntR fs) (cntR_at hok hp hs) h
  have y := hp.filter fun q => cntR fs q == k
  rw [z] at y
  exact (List.singleton_perm.mp y).symm
omit hok hs in
theorem len8 : l.length = 8 := by rw [hp.length_eq, List.length_range]
theorem places_ne (k : Nat) (h : k < 8) : ((List.range 8).filter fun q => cntR fs q == k) ≠ [] := by
  rw [filt_at hok hp hs k (by rw [len8 hp]; exact h)]; simp
theorem places_eq : (List.range 8).map (plcR fs) = l := by
  have h8 := len8 hp
  refine List.ext_getElem (by rw [List.length_map, List.length_range, h8]) fun k h1 h2 => ?_
  rw [List.getElem_map, List.getElem_range]
  unfold plcR
  rw [filt_at hok hp hs k h2]
  rfl
end
/- q's place is the last of those that have its way ahead of the ending. -/
noncomputable def lateR (fs : List FT) (q p : Nat) : Bool := ((rkF fs p).take 4 == (rkF fs q).take 4) && ltR fs q p
noncomputable def endR (fs : List FT) (q : Nat) : Bool := ((List.range 8).filter (lateR fs q)).map (fun (i : Nat) => (i : Int)) == []
noncomputable def gN (fs : List FT) (p : Nat) : Int := gkey (fileAt fs p)
theorem lateR_key {fs : List FT} (h : ∀ t ∈ fs, FileOk t) (q p : Nat) : lateR fs q p = (decide (gN fs p = gN fs q) && ltR fs q p) := by
  unfold lateR
  show ((rk (fileAt fs p)).take 4 == (rk (fileAt fs q)).take 4 && _) = _
  rw [rk4_eq (fileAt_ok h p) (fileAt_ok h q)]
  rfl
theorem bf_g {fs : List FT} (h : ∀ t ∈ fs, FileOk t) {p q : Nat} (b : Bf (keyN fs) p q) : gN fs p ≤ gN fs q := by
  have hp := xB_rng (fileAt_ok h p)
  have hq := xB_rng (fileAt_ok h q)
  have b' : keyF (fileAt fs p) ≤ keyF (fileAt fs q) := by
    rcases b with b | b
    · exact Int.le_of_lt b
    · exact Int.le_of_eq b.1
  unfold keyF at b'
  unfold gN
  generalize gkey (fileAt fs p) = x at *
  generalize gkey (fileAt fs q) = y at *
  clear b
  lia
/- Those of S that no later one of their kind follows. -/
noncomputable def lastOf (fs : List FT) (S : List Nat) : List Nat := S.filter fun q => S.all fun p => !(lateR fs q p)
section
variable {fs : List FT} (hok : ∀ t ∈ fs, FileOk t)
include hok
theorem last_snoc {T : List Nat} {x : Nat} (hT : ∀ q ∈ T, Bf (keyN fs) q x) : lastOf fs (T ++ [x]) = (lastOf fs T).filter (fun q => !(decide (gN fs x = gN fs q))) ++ [x] := by
  unfold lastOf
  rw [List.filter_append, List.filter_filter]
  congr 1
  · refine List.filter_congr fun q hq => ?_
    rw [List.all_append, List.all_cons, List.all_nil, Bool.and_true, Bool.and_comm]
    congr 1
    rw [lateR_key hok, (ltR_key hok q x).mpr (hT q hq), Bool.and_true]
  · rw [List.filter_cons, if_pos]
    · rfl
    · rw [List.all_append, List.all_cons, List.all_nil, Bool.and_true, Bool.and_eq_true]
      constructor
      · rw [List.all_eq_true]
        intro p hp
        have z : ¬ ltR fs x p = true := by rw [ltR_key hok]; exact Bf.asymm (hT p hp)
        unfold lateR
        rw [show ltR fs x p = false by simpa using z, Bool.and_false]; rfl
      · have z : ¬ ltR fs x x = true := by rw [ltR_key hok]; exact Bf.irr _
        unfold lateR
        rw [show ltR fs x x = false by simpa using z, Bool.and_false]; rfl
theorem newer_last {T : List Nat} {x : Nat} (hs : (T ++ [x]).Pairwise (Bf (keyN fs))) :
    newerL (fun i => wayF (fs.getD i (0, 0, 0))) ((lastOf fs T).map fun (i : Nat) => (i : Int)) (x : Int) = (lastOf fs (T ++ [x])).map fun (i : Nat) => (i : Int) := by
  have hsp := List.pairwise_append.mp hs
  have hTx : ∀ q ∈ T, Bf (keyN fs) q x := fun q hq => hsp.2.2 q hq x (by simp)
  rw [last_snoc hok hTx]
  rcases List.eq_nil_or_concat T with rfl | ⟨U, z, rfl⟩
  · rfl
  · rw [List.concat_eq_append] at *
    have hsT := hsp.1
    have hUz : ∀ q ∈ U, Bf (keyN fs) q z := fun q hq => (List.pairwise_append.mp hsT).2.2 q hq z (by simp)
    have hzx := hTx z (by simp)
    have eU := last_snoc hok hUz
    unfold newerL
    have hne : (lastOf fs (U ++ [z])).map (fun (i : Nat) => (i : Int)) ≠ [] := by rw [eU]; simp
    have hlast : ((lastOf fs (U ++ [z])).map (fun (i : Nat) => (i : Int))).getLastD 0 = (z : Int) := by rw [eU]; simp
    rw [hlast]
    have hfr : frontB (wayF (fs.getD ((z : Int)).toNat (0, 0, 0))) = frontB (wayF (fs.getD ((x : Int)).toNat (0, 0, 0))) ↔ gN fs z = gN fs x := by
      rw [Int.toNat_natCast, Int.toNat_natCast]
      exact front_key (fileAt_ok hok z) (fileAt_ok hok x)
    by_cases c : gN fs z = gN fs x
    · rw [if_pos ⟨hne, hfr.mpr c⟩, eU]
      rw [List.filter_append, List.filter_filter]
      have e1 : List.filter (fun q => !decide (gN fs x = gN fs q)) [z] = [] := by simp [c]
      rw [e1, List.append_nil, List.map_append, List.map_append, List.map_cons, List.map_nil, List.dropLast_concat]
      congr 2
      refine List.filter_congr fun q _ => ?_
      rw [c, Bool.and_self]
    · rw [if_neg (fun q => c (hfr.mp q.2))]
      rw [List.map_append]
      congr 2
      symm
      refine List.filter_eq_self.mpr fun q hq => ?_
      have hqm : q ∈ U ++ [z] := (List.mem_filter.mp hq).1
      have hqz : gN fs q ≤ gN fs z := by
        rcases List.mem_append.mp hqm with h | h
        · exact bf_g hok (hUz q h)
        · rw [List.mem_singleton.mp h]; exact Int.le_refl _
      have hzx2 := bf_g hok hzx
      simp; lia
theorem kept_last {l : List Nat} (hs : l.Pairwise (Bf (keyN fs))) : ∀ i, i ≤ l.length → keptL (fun i => wayF (fs.getD i (0, 0, 0))) (l.map fun (i : Nat) => (i : Int)) i = (lastOf fs (l.take i)).map fun (i : Nat) => (i : Int)
  | 0, _ => rfl
  | i + 1, hi => by
    have e := List.getElem?_eq_getElem (l := l) (i := i) (by lia)
    have e2 : (l.map fun (i : Nat) => (i : Int))[i]? = some ((l[i] : Nat) : Int) := by rw [List.getElem?_map, e]; rfl
    rw [kept_next e2, kept_last hs i (by lia), List.take_add_one, e, Option.toList_some]
    refine newer_last hok ?_
    have h2 : l.take i ++ [l[i]] = l.take (i + 1) := by rw [List.take_add_one, e, Option.toList_some]
    rw [h2]
    exact hs.sublist (List.take_sublist _ _)
theorem kept_eq {l : List Nat} (hp : l.Perm (List.range 8)) (hs : l.Pairwise (Bf (keyN fs))) : keptL (fun i => wayF (fs.getD i (0, 0, 0))) (l.map fun (i : Nat) => (i : Int)) 8 = (l.filter (endR fs)).map fun (i : Nat) => (i : Int) := by
  have h8 : l.length = 8 := by rw [hp.length_eq, List.length_range]
  have z := kept_last hok hs 8 (by lia)
  rw [List.take_of_length_le (by lia)] at z
  rw [z]
  congr 1
  unfold lastOf
  refine List.filter_congr fun q _ => ?_
  unfold endR
  rw [Bool.eq_iff_iff]
  simp only [List.all_eq_true, beq_iff_eq, List.map_eq_nil_iff, List.filter_eq_nil_iff, Bool.not_eq_true', Bool.not_eq_true]
  exact ⟨fun h p hp' => h p (hp.mem_iff.mpr hp'), fun h p hp' => h p (hp.mem_iff.mp hp')⟩
end
/- The law of the sorted places and of what is kept. -/
theorem plain_law {fs : List FT} (hok : ∀ t ∈ fs, FileOk t) :
    (∀ k, k < 8 → ((List.range 8).filter fun q => cntR fs q == k) ≠ []) ∧
    (KEval (fun i j => decide (cmpZ (wayF (fs.getD i (0, 0, 0))) (wayF (fs.getD j (0, 0, 0))) < 0)) (kas_sort 8)).toList.map Int.ofNat = (List.range 8).map (fun k => (plcR fs k : Int)) ∧
    keptL (fun i => wayF (fs.getD i (0, 0, 0))) ((List.range 8).map (fun k => (plcR fs k : Int))) 8 = ((((List.range 8).map (plcR fs)).filter (endR fs)).map fun (i : Nat) => (i : Int)) := by
  rw [lt_ways hok]
  obtain ⟨hp, hs⟩ := sort_list (N := 8) (K := keyN fs) (by decide)
  generalize (KEval (ltK (keyN fs)) (kas_sort 8)).toList = l at *
  have hl := places_eq hok hp hs
  have e : (List.range 8).map (fun k => (plcR fs k : Int)) = l.map fun (i : Nat) => (i : Int) := by
    rw [← hl, List.map_map]; rfl
  refine ⟨places_ne hok hp hs, e.symm, ?_⟩
  rw [e, hl]
  exact kept_eq hok hp hs
end Mine
end
section
section
theorem Mine.law_files (w : World) (p : Program) (loose : List Str) (mean : ExcName → Option Value) (mg mb : Str → Option Value) (base g : Heap) (L fa : PySem.Addr) (m : Str → Option Value) (s : Shared) (Q : Flow → Shared → Prop) (E : Value → Shared → Prop) (st : Stmt) (sc : Scope)
    (hst : (Mine.lawB w)[0]? = some st) (hsc : Mine.lawS w = some sc) (LF : Mine.LawF w p loose mean mg mb base g) (F : Fr g L s.heap m) (ls : PySem.Addr) (vs : List Value) (ns : List Int) (bs : List (PySem.Addr × Obj))
    (hi : IntsAre vs ns) (hlen : ns.length ≤ 1048576) (hls : g.IsList ls vs.toArray) (hm : m (PySem.Str.ofString "script") = some (.ref ls)) (N : News g L s.heap bs)
    (hret : Mine.Halt (∀ D ys fs nw h' tk', Mine.FilesIn nw ys fs → fs.length = 8 → (∀ t ∈ fs, Mine.FileOk t) → Fr g L h' (fun x => if x = PySem.Str.ofString "files" then some (.ref D) else m x) → News g L h' (((D, LCg.lst ys) :: bs) ++ nw) → Q .next { s with heap := h', toks := tk' })) :
    wpAny (model PySem.Challenge.rw_ij0209_01.row.prog w) (PySem.callerA.deeper (Mine.lawEnv sc L fa)) (exec st (Mine.lawEnv sc L fa)) Q E s := by
  obtain ⟨B, X, T, c1, c2, c3⟩ := LF
  obtain ⟨hh, gn, dr, tk, os⟩ := s
  dsimp only at F N hret
  unfold Mine.lawB at hst
  with_unfolding_all change some _ = _ at hst
  cases hst
  unfold Mine.lawS at hsc
  with_unfolding_all change some _ = _ at hsc
  cases hsc
  revert X
  k_with_none
  (k_with "call type:type" => ((k_here; (with_reducible show wpAny _ _ (call (Value.type "type") [Value.bytes _ _]) _ _ _); refine Mine.type_bytes ?_)))
  (k_with "call builtin:issubclass" => ((k_here; k_dflt (refine' Mine.issub_bytes ?zqk1 ?_; (case zqk1 => exact News.isTup (by k_asm) (by k_mem)); k_whole))))
  (k_with "getMethod bytes" => ((k_here; (with_reducible first | refine Mine.method_rfind ?_ | refine Mine.method_rstrip ?_ | refine Mine.method_starts ?_ | refine Mine.method_ends ?_))))
  (k_with "call builtin:bytes.rfind" => ((k_here; refine Mine.call_rfind ?_)))
  (k_with "call builtin:bytes.startswith" => ((k_here; refine Mine.call_starts ?_)))
  (k_with "call builtin:bytes.endswith" => ((k_here; refine Mine.call_ends ?_)))
  (k_with "call builtin:bytes.rstrip" => ((k_here; refine Mine.call_rstrip (by k_extra "kaf") ?_; intro zzt8 zzk8)))
  (k_with "subscriptTail" => ((k_here; (with_reducible show wpAny _ _ (subscriptTail _ (Expr.Slice _ _ none _) (Value.bytes _ _) (Value.ref _)) _ _ _); (with_reducible rename Fr _ _ _ _ => zzFq); (with_reducible rename News _ _ _ _ => zzNq); (refine Mine.slice_B (s := ⟨_, _, _, _, _⟩) zzFq zzNq (by constructor) (by constructor) (by k_extra "kaf") ?_); intro _ _ _ _ _; (try k_sweep))))
  (k_with "truthy bytes" => ((k_here; (refine Mine.truthy_B (by k_extra "kaf") ?_); intro _)))
  (k_with "call builtin:len" => ((k_here; (with_reducible show wpAny _ _ (call (Value.builtin "len") [Value.bytes _ _]) _ _ _); (refine Mine.len_B (by k_extra "kaf") ?_); intro _ _)))
  (k_with "binaryOp Mult bytes int" => ((k_here; (refine Mine.mul_B (by k_extra "kaf") ?_); intro _ _)))
  (k_with "exec While Name" => ((k_here; refine whl_start 5 ?_)))
  (k_with "WhlIf" => ((first | (refine WhlIf.yes (by with_unfolding_all rfl) ?_) | (refine WhlIf.no (by with_unfolding_all rfl) ?_) | (refine Mine.whl_split ?_ ?_ <;> intro zzhw8 <;> (first | done | (exfalso; (try simp only [bne_iff_ne, ne_eq, bne_eq_false_iff_eq, decide_eq_true_eq, decide_eq_false_iff_not] at *); omega) | skip)))))
  (k_with "binaryOp Add bytes bytes" => ((k_here; (refine Mine.add_B (by k_extra "kaf") ?_); intro _ _)))
  (k_with "kaf" => (first | (with_reducible assumption) | ((with_reducible refine Mine.sz_cut ?_); k_extra "kaf") | ((with_reducible refine Mine.small_rstrip ?_); k_extra "kaf") | ((with_reducible refine Mine.sz_app ?_ ?_) <;> k_extra "kaf") | exact Nat.le_of_ble_eq_true rfl | exact Nat.le_trans (by with_reducible assumption) (by decide) | assumption | ((try simp only [Mine.Small, Array.size_append, List.size_toArray, List.length_cons, List.length_nil] at *); omega)))
  (k_with "inplaceOp Add bytes bytes" => ((k_here; (refine Mine.iadd_B (by k_extra "kaf") ?_); intro _ _)))
  (k_with "WhlIf" => ((refine WhlIf.no (Mine.ap_three (by assumption) (by assumption)) ?_)))
  (k_with "kaf" => (first | (with_reducible assumption) | ((with_reducible refine Mine.sz_word ?_); exact Nat.le_of_ble_eq_true rfl) | ((with_reducible refine Mine.sz_frontB ?_); k_extra "kaf") | ((with_reducible refine Mine.sz_endB ?_); k_extra "kaf") | ((with_reducible refine Mine.sz_baseB ?_); k_extra "kaf") | ((with_reducible refine Mine.sz_dirB ?_); k_extra "kaf")))
  (k_with "compareOp Gt bytes bytes" => ((k_here; refine Mine.gt_bytes ?_)))
  (k_with "call ref" => ((k_here; (with_reducible show wpAny _ _ (call (Value.ref 188) [Value.ref _]) _ _ _); k_dflt (refine' Mine.useFiles (Mine.c_files _ _ _ _ (by assumption) ?zqk0) ?zqk1 ?zqk2 ?zqk3 ?zqk4 ?zqk5 ?zqk6 ?zqk7 ?zqk8 ?zqk9 ?_; (case zqk0 => omega); (case zqk1 => k_asm); (case zqk2 => k_asm); (case zqk3 => k_asm); (case zqk4 => k_asm); (case zqk5 => k_asm); (case zqk6 => exact rfl); (case zqk7 => exact Mine.isList_keeps (by assumption) (Fr.keep (by assumption))); (case zqk8 => ktr_room); (case zqk9 => ktr_units)); intro zzD8 zzys8 zzfs8 zznw8 zzh8 zztk8 zzF8 zzN8 zzhf8 zzhl8 zzhb8; (try simp only [List.cons_append, List.nil_append] at zzN8))))
  (k_with "call ref" => ((k_here; (with_reducible show wpAny _ _ (call (Value.ref 183) [Value.int _ _]) _ _ _); k_dflt (first | (refine' Mine.useB (Mine.c_apn _ _ _ ?zqka ?zqkb) ?zqk1 ?zqk2 ?zqk3 ?zqk4 ?zqk5 ?zqk6 ?zqk7 ?zqk8 ?zqk9 ?_; (case zqka => omega); (case zqkb => omega); ((case zqk1 => k_asm); (case zqk2 => k_asm); (case zqk3 => k_asm); (case zqk4 => k_asm); (case zqk5 => k_asm); (case zqk6 => first | exact rfl | assumption); (case zqk7 => first | exact True.intro | assumption); (case zqk8 => ktr_room); (case zqk9 => ktr_units))) | (refine' Mine.useB (Mine.c_ap _ _ _ ?zqka ?zqkb) ?zqk1 ?zqk2 ?zqk3 ?zqk4 ?zqk5 ?zqk6 ?zqk7 ?zqk8 ?zqk9 ?_; (case zqka => omega); (case zqkb => omega); ((case zqk1 => k_asm); (case zqk2 => k_asm); (case zqk3 => k_asm); (case zqk4 => k_asm); (case zqk5 => k_asm); (case zqk6 => first | exact rfl | assumption); (case zqk7 => first | exact True.intro | assumption); (case zqk8 => ktr_room); (case zqk9 => ktr_units)))); intro zzt8 zzh8 zztk8 zzF8 zzN8; (try k_sweep); (try k_fold))))
  (k_with "call ref" => ((k_here; (with_reducible show wpAny _ _ (call (Value.ref 129) [Value.bytes _ _, Value.bytes _ _]) _ _ _); k_dflt (refine' Mine.useB (Mine.c_way _ _ _ _ _ _) ?zqk1 ?zqk2 ?zqk3 ?zqk4 ?zqk5 ?zqk6 ?zqk7 ?zqk8 ?zqk9 ?_; ((case zqk1 => k_asm); (case zqk2 => k_asm); (case zqk3 => k_asm); (case zqk4 => k_asm); (case zqk5 => k_asm); (case zqk6 => first | exact rfl | assumption); (case zqk7 => first | exact True.intro | assumption); (case zqk8 => ktr_room); (case zqk9 => ktr_units))); intro zzt8 zzh8 zztk8 zzF8 zzN8; (try k_sweep); (try k_fold))))
  (k_with "eval ListComp" => ((k_here; k_dflt (refine Mine.comp_enter (by with_unfolding_all rfl) (by rfl) (by decide) ?_))))
  (k_with "exec For Name Call" => ((k_here; k_dflt (refine Mine.for_enter ?_))))
  (k_with "exec Assign" => ((k_here; (with_reducible show wpAny _ _ (exec (Stmt.Assign [Expr.Name _ _] _ _) _) _ _ _); refine wpAny_Assign_Name ?_)))
  (k_with "eval Name" => ((k_here; k_dflt (refine nameX_L (by k_asm) (by assumption) ?_))))
  w_top off
  k_fill
  intro X
  unfold Mine.lawEnv
  dsimp only
  (repeat' (first | (k_unfold; (try dsimp only)) | (k_end; kc_close) | (dsimp only; walk1) | walk1 | (leave1; try dsimp only)))
  (with_reducible rename Mine.FilesIn _ _ _ => z1)
  (with_reducible rename List.length _ = 8 => z2)
  (rename ∀ t ∈ _, Mine.FileOk t => z3)
  (with_reducible rename Fr _ _ _ _ => z4)
  (with_reducible rename News _ _ _ _ => z5)
  exact hret.go _ _ _ _ _ _ z1 z2 z3 z4 z5
end
section
theorem Mine.law_ways (w : World) (p : Program) (loose : List Str) (mean : ExcName → Option Value) (mg mb : Str → Option Value) (base g : Heap) (L fa : PySem.Addr) (m : Str → Option Value) (s : Shared) (Q : Flow → Shared → Prop) (E : Value → Shared → Prop) (st : Stmt) (sc : Scope)
    (hst : (Mine.lawB w)[1]? = some st) (hsc : Mine.lawS w = some sc) (LF : Mine.LawF w p loose mean mg mb base g) (F : Fr g L s.heap m) (D : PySem.Addr) (ys : List Value) (fs : List Mine.FT) (oA oB : Obj) (vA vB : Option Value) (nw : List (PySem.Addr × Obj))
    (N : News g L s.heap ((D, LCg.lst ys) :: (L + 1 + 1, oA) :: (L + 1, oB) :: (195, tabObj #[]) :: (162, tabObj #[]) :: (230, tabObj #[]) :: nw)) (hA : oA.data = .cell vA) (hB : oB.data = .cell vB) (hm : m (PySem.Str.ofString "files") = some (.ref D))
    (hf : Mine.FilesIn nw ys fs) (h8 : fs.length = 8) (hok : ∀ t ∈ fs, Mine.FileOk t) (hnw : Mine.SeqAll nw)
    (hret : ∀ Dw T oA' h' tk', oA'.data = .cell (some (.ref Dw)) → Fr g L h' m → News g L h' ((L + 1 + 1, oA') :: (Dw, LCg.lst (Mine.waysL (fun i => Mine.wayF (fs.getD i (0, 0, 0))) T)) :: (D, LCg.lst ys) :: (L + 1, oB) :: (195, tabObj #[]) :: (162, tabObj #[]) :: (230, tabObj #[]) :: nw) → Q .next { s with heap := h', toks := tk' }) : wpAny (model PySem.Challenge.rw_ij0209_01.row.prog w) (PySem.callerA.deeper (Mine.lawEnv sc L fa)) (exec st (Mine.lawEnv sc L fa)) Q E s := by
  obtain ⟨B, X, T, c1, c2, c3⟩ := LF
  obtain ⟨hh, gn, dr, tk, os⟩ := s
  dsimp only at F N hret
  unfold Mine.lawB at hst
  with_unfolding_all change some _ = _ at hst
  cases hst
  unfold Mine.lawS at hsc
  with_unfolding_all change some _ = _ at hsc
  cases hsc
  revert X
  k_with_none
  (k_with "call type:type" => ((k_here; (with_reducible show wpAny _ _ (call (Value.type "type") [Value.bytes _ _]) _ _ _); refine Mine.type_bytes ?_)))
  (k_with "call builtin:issubclass" => ((k_here; k_dflt (refine' Mine.issub_bytes ?zqk1 ?_; (case zqk1 => exact News.isTup (by k_asm) (by k_mem)); k_whole))))
  (k_with "getMethod bytes" => ((k_here; (with_reducible first | refine Mine.method_rfind ?_ | refine Mine.method_rstrip ?_ | refine Mine.method_starts ?_ | refine Mine.method_ends ?_))))
  (k_with "call builtin:bytes.rfind" => ((k_here; refine Mine.call_rfind ?_)))
  (k_with "call builtin:bytes.startswith" => ((k_here; refine Mine.call_starts ?_)))
  (k_with "call builtin:bytes.endswith" => ((k_here; refine Mine.call_ends ?_)))
  (k_with "call builtin:bytes.rstrip" => ((k_here; refine Mine.call_rstrip (by k_extra "kaf") ?_; intro zzt8 zzk8)))
  (k_with "subscriptTail" => ((k_here; (with_reducible show wpAny _ _ (subscriptTail _ (Expr.Slice _ _ none _) (Value.bytes _ _) (Value.ref _)) _ _ _); (with_reducible rename Fr _ _ _ _ => zzFq); (with_reducible rename News _ _ _ _ => zzNq); (refine Mine.slice_B (s := ⟨_, _, _, _, _⟩) zzFq zzNq (by constructor) (by constructor) (by k_extra "kaf") ?_); intro _ _ _ _ _; (try k_sweep))))
  (k_with "truthy bytes" => ((k_here; (refine Mine.truthy_B (by k_extra "kaf") ?_); intro _)))
  (k_with "call builtin:len" => ((k_here; (with_reducible show wpAny _ _ (call (Value.builtin "len") [Value.bytes _ _]) _ _ _); (refine Mine.len_B (by k_extra "kaf") ?_); intro _ _)))
  (k_with "binaryOp Mult bytes int" => ((k_here; (refine Mine.mul_B (by k_extra "kaf") ?_); intro _ _)))
  (k_with "exec While Name" => ((k_here; refine whl_start 5 ?_)))
  (k_with "WhlIf" => ((first | (refine WhlIf.yes (by with_unfolding_all rfl) ?_) | (refine WhlIf.no (by with_unfolding_all rfl) ?_) | (refine Mine.whl_split ?_ ?_ <;> intro zzhw8 <;> (first | done | (exfalso; (try simp only [bne_iff_ne, ne_eq, bne_eq_false_iff_eq, decide_eq_true_eq, decide_eq_false_iff_not] at *); omega) | skip)))))
  (k_with "binaryOp Add bytes bytes" => ((k_here; (refine Mine.add_B (by k_extra "kaf") ?_); intro _ _)))
  (k_with "kaf" => (first | (with_reducible assumption) | ((with_reducible refine Mine.sz_cut ?_); k_extra "kaf") | ((with_reducible refine Mine.small_rstrip ?_); k_extra "kaf") | ((with_reducible refine Mine.sz_app ?_ ?_) <;> k_extra "kaf") | exact Nat.le_of_ble_eq_true rfl | exact Nat.le_trans (by with_reducible assumption) (by decide) | assumption | ((try simp only [Mine.Small, Array.size_append, List.size_toArray, List.length_cons, List.length_nil] at *); omega)))
  (k_with "inplaceOp Add bytes bytes" => ((k_here; (refine Mine.iadd_B (by k_extra "kaf") ?_); intro _ _)))
  (k_with "WhlIf" => ((refine WhlIf.no (Mine.ap_three (by assumption) (by assumption)) ?_)))
  (k_with "kaf" => (first | (with_reducible assumption) | ((with_reducible refine Mine.sz_word ?_); exact Nat.le_of_ble_eq_true rfl) | ((with_reducible refine Mine.sz_frontB ?_); k_extra "kaf") | ((with_reducible refine Mine.sz_endB ?_); k_extra "kaf") | ((with_reducible refine Mine.sz_baseB ?_); k_extra "kaf") | ((with_reducible refine Mine.sz_dirB ?_); k_extra "kaf")))
  (k_with "compareOp Gt bytes bytes" => ((k_here; refine Mine.gt_bytes ?_)))
  (k_with "call ref" => ((k_here; (with_reducible show wpAny _ _ (call (Value.ref 188) [Value.ref _]) _ _ _); k_dflt (refine' Mine.useFiles (Mine.c_files _ _ _ _ (by assumption) ?zqk0) ?zqk1 ?zqk2 ?zqk3 ?zqk4 ?zqk5 ?zqk6 ?zqk7 ?zqk8 ?zqk9 ?_; (case zqk0 => omega); (case zqk1 => k_asm); (case zqk2 => k_asm); (case zqk3 => k_asm); (case zqk4 => k_asm); (case zqk5 => k_asm); (case zqk6 => exact rfl); (case zqk7 => exact Mine.isList_keeps (by assumption) (Fr.keep (by assumption))); (case zqk8 => ktr_room); (case zqk9 => ktr_units)); intro zzD8 zzys8 zzfs8 zznw8 zzh8 zztk8 zzF8 zzN8 zzhf8 zzhl8 zzhb8; (try simp only [List.cons_append, List.nil_append] at zzN8))))
  (k_with "call ref" => ((k_here; (with_reducible show wpAny _ _ (call (Value.ref 183) [Value.int _ _]) _ _ _); k_dflt (first | (refine' Mine.useB (Mine.c_apn _ _ _ ?zqka ?zqkb) ?zqk1 ?zqk2 ?zqk3 ?zqk4 ?zqk5 ?zqk6 ?zqk7 ?zqk8 ?zqk9 ?_; (case zqka => omega); (case zqkb => omega); ((case zqk1 => k_asm); (case zqk2 => k_asm); (case zqk3 => k_asm); (case zqk4 => k_asm); (case zqk5 => k_asm); (case zqk6 => first | exact rfl | assumption); (case zqk7 => first | exact True.intro | assumption); (case zqk8 => ktr_room); (case zqk9 => ktr_units))) | (refine' Mine.useB (Mine.c_ap _ _ _ ?zqka ?zqkb) ?zqk1 ?zqk2 ?zqk3 ?zqk4 ?zqk5 ?zqk6 ?zqk7 ?zqk8 ?zqk9 ?_; (case zqka => omega); (case zqkb => omega); ((case zqk1 => k_asm); (case zqk2 => k_asm); (case zqk3 => k_asm); (case zqk4 => k_asm); (case zqk5 => k_asm); (case zqk6 => first | exact rfl | assumption); (case zqk7 => first | exact True.intro | assumption); (case zqk8 => ktr_room); (case zqk9 => ktr_units)))); intro zzt8 zzh8 zztk8 zzF8 zzN8; (try k_sweep); (try k_fold))))
  (k_with "call ref" => ((k_here; (with_reducible show wpAny _ _ (call (Value.ref 129) [Value.bytes _ _, Value.bytes _ _]) _ _ _); k_dflt (refine' Mine.useB (Mine.c_way _ _ _ _ _ _) ?zqk1 ?zqk2 ?zqk3 ?zqk4 ?zqk5 ?zqk6 ?zqk7 ?zqk8 ?zqk9 ?_; ((case zqk1 => k_asm); (case zqk2 => k_asm); (case zqk3 => k_asm); (case zqk4 => k_asm); (case zqk5 => k_asm); (case zqk6 => first | exact rfl | assumption); (case zqk7 => first | exact True.intro | assumption); (case zqk8 => ktr_room); (case zqk9 => ktr_units))); intro zzt8 zzh8 zztk8 zzF8 zzN8; (try k_sweep); (try k_fold))))
  (k_with "eval ListComp" => ((k_here; k_dflt (refine Mine.comp_enter (by with_unfolding_all rfl) (by rfl) (by decide) ?_))))
  (k_with "exec For Name Call" => ((k_here; k_dflt (refine Mine.for_enter ?_))))
  (k_with "exec Assign" => ((k_here; (with_reducible show wpAny _ _ (exec (Stmt.Assign [Expr.Name _ _] _ _) _) _ _ _); refine wpAny_Assign_Name ?_)))
  (k_with "eval Name" => ((k_here; k_dflt (refine nameX_L (by k_asm) (by assumption) ?_))))
  w_top off
  k_fill
  intro X
  unfold Mine.lawEnv
  dsimp only
  (repeat' (first | (k_unfold; (try dsimp only)) | (k_end; kc_close) | (dsimp only; walk1) | walk1 | (leave1; try dsimp only)))
  unfold Mine.Stop
  refine Mine.comp_freeN (by decide) rfl (Mine.src_list (vs := ys) rfl (by rw [hf.len, h8]; exact Nat.le_of_ble_eq_true rfl) F N (.head _) rfl rfl) (fun i _ m₃ => ∃ a b c, Mine.FileV fs i a b c ∧ m₃ (PySem.Str.ofString "folder") = some a ∧ m₃ (PySem.Str.ofString "stem") = some b ∧ m₃ (PySem.Str.ofString "edition") = some c)
    (Mine.bind_tuple rfl rfl rfl rfl rfl (by decide) (by decide) (by decide) (Mine.files_bind hf fun p hp => ?mem)) (fun i ys' => Mine.WaysIn fs i ys') ⟨rfl, fun j v e => by simp at e⟩ ?turn (Mine.finN ?fin)
  case mem => exact .tail _ (.tail _ (.tail _ (.tail _ (.tail _ (.tail _ hp)))))
  case turn =>
    intro C I D2 i v ys2 oI oC m₂ h4 tk4 E' hlt hv hG hoC hB2 F4 N4
    obtain ⟨_, _, _, ⟨f, s0, e, t1, t2, t3, hx, rfl, rfl, rfl⟩, hm1, hm2, hm3⟩ := hB2
    have hok1 := hok _ (List.mem_of_getElem? hx)
    obtain ⟨b1, b2, b3, b4, b5, b6⟩ := hok1
    dsimp only at b1 b2 b3 b4 b5 b6
    refine Mine.ifs_nil ?_
    rw [if_pos rfl]
    clear F N
    (repeat' (first | (k_unfold; (try dsimp only)) | (k_end; kc_close) | (dsimp only; walk1) | walk1 | (leave1; try dsimp only)))
    exact Mine.NEnd.intro (by assumption) (by assumption) (fun _ hp => hp) (hG.next hx)
  case fin =>
    intro Dw h4 tk4 ys2 hG F4 N4
    rw [hf.len, h8] at hG
    obtain ⟨T2, rfl⟩ := hG.all
    clear F N
    have hz := N4 (L + 1 + 1, oA) (.tail _ (.tail _ (.head _)))
    refine wpAny_storeName_cell (c := L + 1 + 1) (v₀ := vA) rfl rfl rfl ⟨oA, hz.1, hA⟩ fun h' hc hs => ?_
    obtain ⟨oA', hA', N5⟩ := Mine.cell_upd (rest := (Dw, LCg.lst (Mine.waysL (fun i => Mine.wayF (fs.getD i (0, 0, 0))) T2)) :: (D, LCg.lst ys) :: (L + 1, oB) :: (195, tabObj #[]) :: (162, tabObj #[]) :: (230, tabObj #[]) :: nw) N4 (.tail _ (.tail _ (.head _))) hA hs hc (fun p hp => by
      rcases List.mem_cons.mp hp with rfl | hp
      · exact ⟨.head _, .inl fun v => nofun⟩
      rcases List.mem_cons.mp hp with rfl | hp
      · exact ⟨.tail _ (.head _), .inl fun v => nofun⟩
      rcases List.mem_cons.mp hp with rfl | hp
      · exact ⟨.tail _ (.tail _ (.tail _ (.head _))), .inr (Nat.ne_of_lt (Nat.lt_succ_self _))⟩
      rcases List.mem_cons.mp hp with rfl | hp
      · exact ⟨.tail _ (.tail _ (.tail _ (.tail _ (.head _)))), .inl fun v => nofun⟩
      rcases List.mem_cons.mp hp with rfl | hp
      · exact ⟨.tail _ (.tail _ (.tail _ (.tail _ (.tail _ (.head _))))), .inl fun v => nofun⟩
      rcases List.mem_cons.mp hp with rfl | hp
      · exact ⟨.tail _ (.tail _ (.tail _ (.tail _ (.tail _ (.tail _ (.head _)))))), .inl fun v => nofun⟩
      · refine ⟨.tail _ (.tail _ (.tail _ (.tail _ (.tail _ (.tail _ (.tail _ hp)))))), .inl fun v e => ?_⟩
        obtain ⟨us, k, e2⟩ := hnw p hp
        rw [e2] at e; cases e)
    exact hret Dw T2 oA' h' _ hA' (F4.change hs hz.2.1 hz.2.2) N5
end
section
theorem Mine.law_for (w : World) (p : Program) (loose : List Str) (mean : ExcName → Option Value) (mg mb : Str → Option Value) (base g : Heap) (L fa : PySem.Addr) (m : Str → Option Value) (s : Shared) (Q : Flow → Shared → Prop) (E : Value → Shared → Prop) (st : Stmt) (sc : Scope)
    (hst : (Mine.lawB w)[2]? = some st) (hsc : Mine.lawS w = some sc) (LF : Mine.LawF w p loose mean mg mb base g) (F : Fr g L s.heap m) (D Dw : PySem.Addr) (ys : List Value) (fs : List Mine.FT) (oW : Obj) (T2 : Nat → Tok) (bs : List (PySem.Addr × Obj))
    (N : News g L s.heap (bs ++ [(195, tabObj #[])])) (hbs : ∀ p ∈ bs, p.1 ≠ 195) (mD : (D, LCg.lst ys) ∈ bs) (mW : (L + 1 + 1, oW) ∈ bs) (hW : oW.data = .cell (some (.ref Dw))) (mWl : (Dw, LCg.lst (Mine.waysL (fun i => Mine.wayF (fs.getD i (0, 0, 0))) T2)) ∈ bs)
    (hf : Mine.FilesIn bs ys fs) (h8 : fs.length = 8) (hok : ∀ t ∈ fs, Mine.FileOk t) (hm : m (PySem.Str.ofString "files") = some (.ref D))
    (hret : ∀ h' tk' m' tl, Mine.TabT g #[] tl → m' (PySem.Str.ofString "files") = some (.ref D) → Fr g L h' m' → News g L h' (bs ++ tl) → Q .next { s with heap := h', toks := tk' }) :
    wpAny (model PySem.Challenge.rw_ij0209_01.row.prog w) (PySem.callerA.deeper (Mine.lawEnv sc L fa)) (exec st (Mine.lawEnv sc L fa)) Q E s := by
  obtain ⟨B, X, T, c1, c2, c3⟩ := LF
  obtain ⟨hh, gn, dr, tk, os⟩ := s
  dsimp only at F N hret
  unfold Mine.lawB at hst
  with_unfolding_all change some _ = _ at hst
  cases hst
  unfold Mine.lawS at hsc
  with_unfolding_all change some _ = _ at hsc
  cases hsc
  revert X
  k_with_none
  (k_with "call type:type" => ((k_here; (with_reducible show wpAny _ _ (call (Value.type "type") [Value.bytes _ _]) _ _ _); refine Mine.type_bytes ?_)))
  (k_with "call builtin:issubclass" => ((k_here; k_dflt (refine' Mine.issub_bytes ?zqk1 ?_; (case zqk1 => exact News.isTup (by k_asm) (by k_mem)); k_whole))))
  (k_with "getMethod bytes" => ((k_here; (with_reducible first | refine Mine.method_rfind ?_ | refine Mine.method_rstrip ?_ | refine Mine.method_starts ?_ | refine Mine.method_ends ?_))))
  (k_with "call builtin:bytes.rfind" => ((k_here; refine Mine.call_rfind ?_)))
  (k_with "call builtin:bytes.startswith" => ((k_here; refine Mine.call_starts ?_)))
  (k_with "call builtin:bytes.endswith" => ((k_here; refine Mine.call_ends ?_)))
  (k_with "call builtin:bytes.rstrip" => ((k_here; refine Mine.call_rstrip (by k_extra "kaf") ?_; intro zzt8 zzk8)))
  (k_with "subscriptTail" => ((k_here; (with_reducible show wpAny _ _ (subscriptTail _ (Expr.Slice _ _ none _) (Value.bytes _ _) (Value.ref _)) _ _ _); (with_reducible rename Fr _ _ _ _ => zzFq); (with_reducible rename News _ _ _ _ => zzNq); (refine Mine.slice_B (s := ⟨_, _, _, _, _⟩) zzFq zzNq (by constructor) (by constructor) (by k_extra "kaf") ?_); intro _ _ _ _ _; (try k_sweep))))
  (k_with "truthy bytes" => ((k_here; (refine Mine.truthy_B (by k_extra "kaf") ?_); intro _)))
  (k_with "call builtin:len" => ((k_here; (with_reducible show wpAny _ _ (call (Value.builtin "len") [Value.bytes _ _]) _ _ _); (refine Mine.len_B (by k_extra "kaf") ?_); intro _ _)))
  (k_with "binaryOp Mult bytes int" => ((k_here; (refine Mine.mul_B (by k_extra "kaf") ?_); intro _ _)))
  (k_with "exec While Name" => ((k_here; refine whl_start 5 ?_)))
  (k_with "WhlIf" => ((first | (refine WhlIf.yes (by with_unfolding_all rfl) ?_) | (refine WhlIf.no (by with_unfolding_all rfl) ?_) | (refine Mine.whl_split ?_ ?_ <;> intro zzhw8 <;> (first | done | (exfalso; (try simp only [bne_iff_ne, ne_eq, bne_eq_false_iff_eq, decide_eq_true_eq, decide_eq_false_iff_not] at *); omega) | skip)))))
  (k_with "binaryOp Add bytes bytes" => ((k_here; (refine Mine.add_B (by k_extra "kaf") ?_); intro _ _)))
  (k_with "kaf" => (first | (with_reducible assumption) | ((with_reducible refine Mine.sz_cut ?_); k_extra "kaf") | ((with_reducible refine Mine.small_rstrip ?_); k_extra "kaf") | ((with_reducible refine Mine.sz_app ?_ ?_) <;> k_extra "kaf") | exact Nat.le_of_ble_eq_true rfl | exact Nat.le_trans (by with_reducible assumption) (by decide) | assumption | ((try simp only [Mine.Small, Array.size_append, List.size_toArray, List.length_cons, List.length_nil] at *); omega)))
  (k_with "inplaceOp Add bytes bytes" => ((k_here; (refine Mine.iadd_B (by k_extra "kaf") ?_); intro _ _)))
  (k_with "WhlIf" => ((refine WhlIf.no (Mine.ap_three (by assumption) (by assumption)) ?_)))
  (k_with "kaf" => (first | (with_reducible assumption) | ((with_reducible refine Mine.sz_word ?_); exact Nat.le_of_ble_eq_true rfl) | ((with_reducible refine Mine.sz_frontB ?_); k_extra "kaf") | ((with_reducible refine Mine.sz_endB ?_); k_extra "kaf") | ((with_reducible refine Mine.sz_baseB ?_); k_extra "kaf") | ((with_reducible refine Mine.sz_dirB ?_); k_extra "kaf")))
  (k_with "compareOp Gt bytes bytes" => ((k_here; refine Mine.gt_bytes ?_)))
  (k_with "call ref" => ((k_here; (with_reducible show wpAny _ _ (call (Value.ref 188) [Value.ref _]) _ _ _); k_dflt (refine' Mine.useFiles (Mine.c_files _ _ _ _ (by assumption) ?zqk0) ?zqk1 ?zqk2 ?zqk3 ?zqk4 ?zqk5 ?zqk6 ?zqk7 ?zqk8 ?zqk9 ?_; (case zqk0 => omega); (case zqk1 => k_asm); (case zqk2 => k_asm); (case zqk3 => k_asm); (case zqk4 => k_asm); (case zqk5 => k_asm); (case zqk6 => exact rfl); (case zqk7 => exact Mine.isList_keeps (by assumption) (Fr.keep (by assumption))); (case zqk8 => ktr_room); (case zqk9 => ktr_units)); intro zzD8 zzys8 zzfs8 zznw8 zzh8 zztk8 zzF8 zzN8 zzhf8 zzhl8 zzhb8; (try simp only [List.cons_append, List.nil_append] at zzN8))))
  (k_with "call ref" => ((k_here; (with_reducible show wpAny _ _ (call (Value.ref 183) [Value.int _ _]) _ _ _); k_dflt (first | (refine' Mine.useB (Mine.c_apn _ _ _ ?zqka ?zqkb) ?zqk1 ?zqk2 ?zqk3 ?zqk4 ?zqk5 ?zqk6 ?zqk7 ?zqk8 ?zqk9 ?_; (case zqka => omega); (case zqkb => omega); ((case zqk1 => k_asm); (case zqk2 => k_asm); (case zqk3 => k_asm); (case zqk4 => k_asm); (case zqk5 => k_asm); (case zqk6 => first | exact rfl | assumption); (case zqk7 => first | exact True.intro | assumption); (case zqk8 => ktr_room); (case zqk9 => ktr_units))) | (refine' Mine.useB (Mine.c_ap _ _ _ ?zqka ?zqkb) ?zqk1 ?zqk2 ?zqk3 ?zqk4 ?zqk5 ?zqk6 ?zqk7 ?zqk8 ?zqk9 ?_; (case zqka => omega); (case zqkb => omega); ((case zqk1 => k_asm); (case zqk2 => k_asm); (case zqk3 => k_asm); (case zqk4 => k_asm); (case zqk5 => k_asm); (case zqk6 => first | exact rfl | assumption); (case zqk7 => first | exact True.intro | assumption); (case zqk8 => ktr_room); (case zqk9 => ktr_units)))); intro zzt8 zzh8 zztk8 zzF8 zzN8; (try k_sweep); (try k_fold))))
  (k_with "call ref" => ((k_here; (with_reducible show wpAny _ _ (call (Value.ref 129) [Value.bytes _ _, Value.bytes _ _]) _ _ _); k_dflt (refine' Mine.useB (Mine.c_way _ _ _ _ _ _) ?zqk1 ?zqk2 ?zqk3 ?zqk4 ?zqk5 ?zqk6 ?zqk7 ?zqk8 ?zqk9 ?_; ((case zqk1 => k_asm); (case zqk2 => k_asm); (case zqk3 => k_asm); (case zqk4 => k_asm); (case zqk5 => k_asm); (case zqk6 => first | exact rfl | assumption); (case zqk7 => first | exact True.intro | assumption); (case zqk8 => ktr_room); (case zqk9 => ktr_units))); intro zzt8 zzh8 zztk8 zzF8 zzN8; (try k_sweep); (try k_fold))))
  (k_with "eval ListComp" => ((k_here; k_dflt (refine Mine.comp_enter (by with_unfolding_all rfl) (by rfl) (by decide) ?_))))
  (k_with "exec For Name Call" => ((k_here; k_dflt (refine Mine.for_enter ?_))))
  (k_with "exec Assign" => ((k_here; (with_reducible show wpAny _ _ (exec (Stmt.Assign [Expr.Name _ _] _ _) _) _ _ _); refine wpAny_Assign_Name ?_)))
  (k_with "eval Name" => ((k_here; k_dflt (refine nameX_L (by k_asm) (by assumption) ?_))))
  (k_with "eval Name" => ((k_here; (with_reducible show wpAny _ _ (eval (Expr.Name (PySem.Str.ofString "ways") _) _) _ _ _); k_dflt (refine nameX_C (by k_asm) (by rfl) (by assumption) (by assumption) ?_))))
  (k_with "subscriptTail" => ((k_here; (with_reducible show wpAny _ _ (subscriptTail _ _ (Value.ref _) (Value.int _ _)) _ _ _); k_dflt (refine Mine.item_news (by k_asm) (by assumption) rfl rfl (by assumption) (by assumption) ?_))))
  (k_with "call ref" => ((k_here; (with_reducible show wpAny _ _ (call (Value.ref 207) _) _ _ _); k_dflt (refine' Mine.useK (Mine.c_kept _ _ _ _ _ _ _ _ ?zqka ?zqkb ?zqkc ?zqkd ?zqke ?zqkf) ?zqk1 ?zqk2 ?zqk3 ?zqk4 ?zqk5 ?zqk6 ?zqkT ?zqks ?zqkg ?zqk8 ?zqk9 ?_; (case zqka => omega); (case zqkb => omega); (case zqkc => omega); (case zqkd => omega); (case zqke => omega); (case zqkf => omega); (case zqk1 => k_asm); (case zqk2 => k_asm); (case zqk3 => k_asm); (case zqk4 => k_asm); (case zqk5 => k_asm); (case zqk6 => exact rfl); (case zqkT => assumption); (case zqks => assumption); (case zqkg => assumption); (case zqk8 => ktr_room); (case zqk9 => ktr_units)); intro zzv8 zzh8 zztk8 zztl8 zzr8 zzF8 zzN8 zzT8; subst zzr8; (try k_fold))))
  w_top off
  k_fill
  intro X
  unfold Mine.lawEnv
  dsimp only
  (repeat' (first | (k_unfold; (try dsimp only)) | (k_end; kc_close) | (dsimp only; walk1) | walk1 | (leave1; try dsimp only)))
  unfold Mine.Stop
  (with_reducible rename News _ _ _ _ => N2)
  (with_reducible rename Fr _ _ _ _ => F2)
  (with_reducible rename PySem.IsRange _ _ _ _ _ _ _ _ => hr2)
  refine Mine.for_range rfl rfl rfl rfl F2 N2 hr2 (n := 8) (by decide) (by decide) (fun _ m₁ news₁ => Mine.ForL g bs news₁ ∧ m₁ (PySem.Str.ofString "files") = some (.ref D)) ⟨⟨_, rfl, .empty⟩, hm⟩ ?turn ?done
  case turn =>
    intro i t m₁ news₁ I h4 tk4 E' hlt hJ F4 N4 hoff
    obtain ⟨⟨tl, rfl, hT⟩, hm1⟩ := hJ
    clear N2 F2
    have e1 : (fun y => if y = PySem.Str.ofString "k" then some (Value.int (i : Int) t) else m₁ y) (PySem.Str.ofString "files") = some (.ref D) := (if_neg (by decide)).trans hm1
    have hlen : ys.length = 8 := by rw [hf.len, h8]
    obtain ⟨v, hv⟩ : ∃ v, ys[i]? = some v := ⟨_, List.getElem?_eq_getElem (by rw [hlen]; exact hlt)⟩
    obtain ⟨⟨f, s0, e⟩, hx, Tp, t1, t2, t3, kc, rfl, hTm⟩ := hf.at hv
    have hok1 := hok _ (List.mem_of_getElem? hx)
    obtain ⟨b1, b2, b3, b4, b5, b6⟩ := hok1
    dsimp only at b1 b2 b3 b4 b5 b6 hTm
    have hway : (Mine.waysL (fun i => Mine.wayF (fs.getD i (0, 0, 0))) T2)[i]? = some (.bytes (Mine.wayB f s0 e) (T2 i)) := by
      rw [Mine.waysL_get hlt]
      have e9 : fs.getD i (0, 0, 0) = (f, s0, e) := by simp [List.getD, hx]
      rw [e9]; rfl
    have hI195 : I ≠ 195 := fun q => by
      obtain ⟨o9, h9⟩ := hT.at
      exact hoff _ (List.mem_append_right _ h9) q.symm
    have hfx : ∀ p ∈ ((I, Mine.rio (i + 1) 8) :: bs), p.1 ≠ 195 := fun p hp => by
      rcases List.mem_cons.mp hp with rfl | hp
      · exact hI195
      · exact hbs p hp
    have N5 : News g L h4 ((Tp, Mine.tupObj [.int f t1, .int s0 t2, .int e t3] kc) :: (((I, Mine.rio (i + 1) 8) :: bs) ++ tl)) := fun p hp => by
      rcases List.mem_cons.mp hp with rfl | hp
      · exact N4 _ (.tail _ (List.mem_append_left _ hTm))
      · exact N4 p hp
    have q1 : (D, LCg.lst ys) ∈ ((Tp, Mine.tupObj [.int f t1, .int s0 t2, .int e t3] kc) :: (((I, Mine.rio (i + 1) 8) :: bs) ++ tl)) := .tail _ (.tail _ (List.mem_append_left _ mD))
    have q2 : (L + 1 + 1, oW) ∈ ((Tp, Mine.tupObj [.int f t1, .int s0 t2, .int e t3] kc) :: (((I, Mine.rio (i + 1) 8) :: bs) ++ tl)) := .tail _ (.tail _ (List.mem_append_left _ mW))
    have q3 : (Dw, LCg.lst (Mine.waysL (fun i => Mine.wayF (fs.getD i (0, 0, 0))) T2)) ∈ ((Tp, Mine.tupObj [.int f t1, .int s0 t2, .int e t3] kc) :: (((I, Mine.rio (i + 1) 8) :: bs) ++ tl)) := .tail _ (.tail _ (List.mem_append_left _ mWl))
    clear N4
    (repeat' (first | (k_unfold; (try dsimp only)) | (k_end; kc_close) | (dsimp only; walk1) | walk1 | (leave1; try dsimp only)))
    (with_reducible rename Mine.TabF _ _ _ => T8)
    (with_reducible rename News _ _ _ _ => N8)
    (with_reducible rename Fr _ _ _ _ => F8)
    refine ⟨rfl, _, _, _, _, rfl, F8, N8, fun p hp => ?_, ⟨_, rfl, .full T8⟩, ?_⟩
    · rcases List.mem_append.mp hp with hp | hp
      · exact hoff p (List.mem_append_left _ hp)
      · exact Mine.tab_off T8 (N8 _ (.head _)).1 hI195 (fun p hp => (N8 p (.tail _ (List.mem_append_right _ hp))).1) p hp
    · exact (if_neg (by decide)).trans ((if_neg (by decide)).trans ((if_neg (by decide)).trans e1))
  case done =>
    intro h4 tk4 m4 news4 hJ F4 N4
    obtain ⟨⟨tl, rfl, hT⟩, hm1⟩ := hJ
    exact hret h4 tk4 m4 tl hT hm1 F4 N4
end
section
theorem Mine.law_row (w : World) (p : Program) (loose : List Str) (mean : ExcName → Option Value) (mg mb : Str → Option Value) (base g : Heap) (L fa : PySem.Addr) (m : Str → Option Value) (s : Shared) (Q : Flow → Shared → Prop) (E : Value → Shared → Prop) (st : Stmt) (sc : Scope)
    (hst : (Mine.lawB w)[3]? = some st) (hsc : Mine.lawS w = some sc) (LF : Mine.LawF w p loose mean mg mb base g) (F : Fr g L s.heap m) (Dw : PySem.Addr) (W : Nat → Array UInt8) (oW : Obj) (T2 : Nat → Tok) (bs : List (PySem.Addr × Obj))
    (N : News g L s.heap ((230, tabObj #[]) :: (162, tabObj #[]) :: bs)) (hb2 : ∀ p ∈ bs, p.1 ≠ 162) (hb3 : ∀ p ∈ bs, p.1 ≠ 230) (mW : (L + 1 + 1, oW) ∈ bs) (hW : oW.data = .cell (some (.ref Dw))) (mWl : (Dw, LCg.lst (Mine.waysL W T2)) ∈ bs)
    (hS : ∀ i, Mine.Small (W i)) (hF1 : ∀ i, Mine.FirstOk (W i)) (hF2 : ∀ i, Mine.FirstOk (Mine.baseB (W i))) (hsm : ∃ o, g.get? PySem.sysModules = some o)
    (hret : ∀ Dr h' tk' us c c5 p2, Fr g L h' (fun x => if x = PySem.Str.ofString "row" then some (.ref Dr) else m x) → News g L h' ((Dr, seqObj "list" us.toArray c) :: (230, tabObj #[rawInt 262, rawInt 42, .ref c5]) :: (162, tabObj p2) :: bs) →
      IntsAre us ((Mine.KEval (fun i j => decide (Mine.cmpZ (W i) (W j) < 0)) (kas_sort 8)).toList.map Int.ofNat) → Q .next { s with heap := h', toks := tk' }) :
    wpAny (model PySem.Challenge.rw_ij0209_01.row.prog w) (PySem.callerA.deeper (Mine.lawEnv sc L fa)) (exec st (Mine.lawEnv sc L fa)) Q E s := by
  obtain ⟨B, X, T, c1, c2, c3⟩ := LF
  obtain ⟨hh, gn, dr, tk, os⟩ := s
  dsimp only at F N hret
  have hR0 : hh.get? hh.objs.size = none := Heap.get?_none_of_le (Nat.le_refl _)
  have hgR : g.get? hh.objs.size = none := by
    cases z : g.get? hh.objs.size with
    | none => rfl
    | some o => have := F.keep _ _ z; rw [hR0] at this; cases this
  have hLR : hh.objs.size ≠ L := fun q => Nat.lt_irrefl _ (by have := F.ns.lt; rw [← q] at this; exact this)
  have off : ∀ p ∈ ((230, tabObj #[]) :: (162, tabObj #[]) :: bs : List (PySem.Addr × PySem.Obj)), p.1 ≠ hh.objs.size := fun p hp q => by
    have := (N p hp).1
    rw [q, hR0] at this; cases this
  unfold Mine.lawB at hst
  with_unfolding_all change some _ = _ at hst
  cases hst
  unfold Mine.lawS at hsc
  with_unfolding_all change some _ = _ at hsc
  cases hsc
  revert X
  k_with_none
  (k_with "call type:type" => ((k_here; (with_reducible show wpAny _ _ (call (Value.type "type") [Value.bytes _ _]) _ _ _); refine Mine.type_bytes ?_)))
  (k_with "call builtin:issubclass" => ((k_here; k_dflt (refine' Mine.issub_bytes ?zqk1 ?_; (case zqk1 => exact News.isTup (by k_asm) (by k_mem)); k_whole))))
  (k_with "getMethod bytes" => ((k_here; (with_reducible first | refine Mine.method_rfind ?_ | refine Mine.method_rstrip ?_ | refine Mine.method_starts ?_ | refine Mine.method_ends ?_))))
  (k_with "call builtin:bytes.rfind" => ((k_here; refine Mine.call_rfind ?_)))
  (k_with "call builtin:bytes.startswith" => ((k_here; refine Mine.call_starts ?_)))
  (k_with "call builtin:bytes.endswith" => ((k_here; refine Mine.call_ends ?_)))
  (k_with "call builtin:bytes.rstrip" => ((k_here; refine Mine.call_rstrip (by k_extra "kaf") ?_; intro zzt8 zzk8)))
  (k_with "subscriptTail" => ((k_here; (with_reducible show wpAny _ _ (subscriptTail _ (Expr.Slice _ _ none _) (Value.bytes _ _) (Value.ref _)) _ _ _); (with_reducible rename Fr _ _ _ _ => zzFq); (with_reducible rename News _ _ _ _ => zzNq); (refine Mine.slice_B (s := ⟨_, _, _, _, _⟩) zzFq zzNq (by constructor) (by constructor) (by k_extra "kaf") ?_); intro _ _ _ _ _; (try k_sweep))))
  (k_with "truthy bytes" => ((k_here; (refine Mine.truthy_B (by k_extra "kaf") ?_); intro _)))
  (k_with "call builtin:len" => ((k_here; (with_reducible show wpAny _ _ (call (Value.builtin "len") [Value.bytes _ _]) _ _ _); (refine Mine.len_B (by k_extra "kaf") ?_); intro _ _)))
  (k_with "binaryOp Mult bytes int" => ((k_here; (refine Mine.mul_B (by k_extra "kaf") ?_); intro _ _)))
  (k_with "exec While Name" => ((k_here; refine whl_start 5 ?_)))
  (k_with "WhlIf" => ((first | (refine WhlIf.yes (by with_unfolding_all rfl) ?_) | (refine WhlIf.no (by with_unfolding_all rfl) ?_) | (refine Mine.whl_split ?_ ?_ <;> intro zzhw8 <;> (first | done | (exfalso; (try simp only [bne_iff_ne, ne_eq, bne_eq_false_iff_eq, decide_eq_true_eq, decide_eq_false_iff_not] at *); omega) | skip)))))
  (k_with "binaryOp Add bytes bytes" => ((k_here; (refine Mine.add_B (by k_extra "kaf") ?_); intro _ _)))
  (k_with "kaf" => (first | (with_reducible assumption) | ((with_reducible refine Mine.sz_cut ?_); k_extra "kaf") | ((with_reducible refine Mine.small_rstrip ?_); k_extra "kaf") | ((with_reducible refine Mine.sz_app ?_ ?_) <;> k_extra "kaf") | exact Nat.le_of_ble_eq_true rfl | exact Nat.le_trans (by with_reducible assumption) (by decide) | assumption | ((try simp only [Mine.Small, Array.size_append, List.size_toArray, List.length_cons, List.length_nil] at *); omega)))
  (k_with "inplaceOp Add bytes bytes" => ((k_here; (refine Mine.iadd_B (by k_extra "kaf") ?_); intro _ _)))
  (k_with "WhlIf" => ((refine WhlIf.no (Mine.ap_three (by assumption) (by assumption)) ?_)))
  (k_with "kaf" => (first | (with_reducible assumption) | ((with_reducible refine Mine.sz_word ?_); exact Nat.le_of_ble_eq_true rfl) | ((with_reducible refine Mine.sz_frontB ?_); k_extra "kaf") | ((with_reducible refine Mine.sz_endB ?_); k_extra "kaf") | ((with_reducible refine Mine.sz_baseB ?_); k_extra "kaf") | ((with_reducible refine Mine.sz_dirB ?_); k_extra "kaf")))
  (k_with "compareOp Gt bytes bytes" => ((k_here; refine Mine.gt_bytes ?_)))
  (k_with "call ref" => ((k_here; (with_reducible show wpAny _ _ (call (Value.ref 188) [Value.ref _]) _ _ _); k_dflt (refine' Mine.useFiles (Mine.c_files _ _ _ _ (by assumption) ?zqk0) ?zqk1 ?zqk2 ?zqk3 ?zqk4 ?zqk5 ?zqk6 ?zqk7 ?zqk8 ?zqk9 ?_; (case zqk0 => omega); (case zqk1 => k_asm); (case zqk2 => k_asm); (case zqk3 => k_asm); (case zqk4 => k_asm); (case zqk5 => k_asm); (case zqk6 => exact rfl); (case zqk7 => exact Mine.isList_keeps (by assumption) (Fr.keep (by assumption))); (case zqk8 => ktr_room); (case zqk9 => ktr_units)); intro zzD8 zzys8 zzfs8 zznw8 zzh8 zztk8 zzF8 zzN8 zzhf8 zzhl8 zzhb8; (try simp only [List.cons_append, List.nil_append] at zzN8))))
  (k_with "call ref" => ((k_here; (with_reducible show wpAny _ _ (call (Value.ref 183) [Value.int _ _]) _ _ _); k_dflt (first | (refine' Mine.useB (Mine.c_apn _ _ _ ?zqka ?zqkb) ?zqk1 ?zqk2 ?zqk3 ?zqk4 ?zqk5 ?zqk6 ?zqk7 ?zqk8 ?zqk9 ?_; (case zqka => omega); (case zqkb => omega); ((case zqk1 => k_asm); (case zqk2 => k_asm); (case zqk3 => k_asm); (case zqk4 => k_asm); (case zqk5 => k_asm); (case zqk6 => first | exact rfl | assumption); (case zqk7 => first | exact True.intro | assumption); (case zqk8 => ktr_room); (case zqk9 => ktr_units))) | (refine' Mine.useB (Mine.c_ap _ _ _ ?zqka ?zqkb) ?zqk1 ?zqk2 ?zqk3 ?zqk4 ?zqk5 ?zqk6 ?zqk7 ?zqk8 ?zqk9 ?_; (case zqka => omega); (case zqkb => omega); ((case zqk1 => k_asm); (case zqk2 => k_asm); (case zqk3 => k_asm); (case zqk4 => k_asm); (case zqk5 => k_asm); (case zqk6 => first | exact rfl | assumption); (case zqk7 => first | exact True.intro | assumption); (case zqk8 => ktr_room); (case zqk9 => ktr_units)))); intro zzt8 zzh8 zztk8 zzF8 zzN8; (try k_sweep); (try k_fold))))
  (k_with "call ref" => ((k_here; (with_reducible show wpAny _ _ (call (Value.ref 129) [Value.bytes _ _, Value.bytes _ _]) _ _ _); k_dflt (refine' Mine.useB (Mine.c_way _ _ _ _ _ _) ?zqk1 ?zqk2 ?zqk3 ?zqk4 ?zqk5 ?zqk6 ?zqk7 ?zqk8 ?zqk9 ?_; ((case zqk1 => k_asm); (case zqk2 => k_asm); (case zqk3 => k_asm); (case zqk4 => k_asm); (case zqk5 => k_asm); (case zqk6 => first | exact rfl | assumption); (case zqk7 => first | exact True.intro | assumption); (case zqk8 => ktr_room); (case zqk9 => ktr_units))); intro zzt8 zzh8 zztk8 zzF8 zzN8; (try k_sweep); (try k_fold))))
  (k_with "eval ListComp" => ((k_here; k_dflt (refine Mine.comp_enter (by with_unfolding_all rfl) (by rfl) (by decide) ?_))))
  (k_with "exec For Name Call" => ((k_here; k_dflt (refine Mine.for_enter ?_))))
  (k_with "exec Assign" => ((k_here; (with_reducible show wpAny _ _ (exec (Stmt.Assign [Expr.Name _ _] _ _) _) _ _ _); refine wpAny_Assign_Name ?_)))
  (k_with "call ref" => ((k_here; (with_reducible show wpAny _ _ (call (Value.ref 167) _) _ _ _); refine Mine.Halt.go ?_)))
  (k_with "call builtin:sorted" => ((refine Mine.Halt.go ?_)))
  (k_with "eval Lambda" => ((k_here; kn_here; k_dflt (refine' kla_eval ?zqd0 ?_; (case zqd0 => exact rfl)); (k_dflt (refine' kla_nest ?zqF ?zqN ?zqT ?zqC ?zqcd ?zqU ?zqt ?zqn ?zqcl ?_; (case zqF => k_asm); (case zqN => k_asm); (case zqT => k_asm); (case zqcd => exact rfl); (case zqC => kn_code); (case zqU => exact PySem.W.UpdF.head (by assumption)); (case zqt => kn_triples); (case zqn => kn_among); (case zqcl => exact rfl); k_whole); intro zzfq zzcq zzocq zzvsq zztq zzctq zzhq zztkq zzFq zzNq zzd1q zzd2q zzl1 zzl2; (try dsimp only at zzNq)))))
  w_top off
  k_fill
  intro X
  unfold Mine.lawEnv
  dsimp only
  (iterate 16 (all_goals (first | (k_unfold; (try dsimp only)) | (k_end; wrow_close) | walk1 | (dsimp only; walk1) | (leave1; walk_say "STEP leave1"; try dsimp only) | skip)))
  (with_reducible rename PySem.IsRange _ _ _ _ _ _ _ _ => hr2)
  (with_reducible rename News _ _ _ _ => N2)
  (with_reducible rename Fr _ _ _ _ => F2)
  have N3 := Mine.news_mid hr2 hLR hgR N2
  dsimp only at N3
  have h230 := Mine.h230_of N3 (fun q => off _ (.head _) q.symm) hb3
  clear N2
  (repeat' (first | (k_unfold; (try dsimp only)) | (k_end; kc_close) | (dsimp only; walk1) | walk1 | (leave1; try dsimp only)))
  unfold Mine.Halt
  (with_reducible rename News _ _ _ _ => N5)
  (with_reducible rename Fr _ _ _ _ => F5)
  (with_reducible rename (_ : Array Value)[1]? = _ => v5)
  (with_reducible rename PySem.Obj.data _ = _ => d5)
  (rename ∀ q : PySem.Addr × PySem.Obj, q ∈ (_ : List (PySem.Addr × PySem.Obj)) → (q.1 : Nat) < _ => l5)
  (with_reducible rename (_ : Nat) < _ => l6)
  refine Mine.c_ctk w _ p loose mean mg mb _ [] PySem.callerA base g L m _ _ _ (by assumption) F5 (by assumption) (by assumption) rfl rfl rfl (N5 _ (.tail _ (.tail _ (.tail _ (.tail _ (.head _)))))).1 (by obtain ⟨o, ho⟩ := hsm; exact ⟨o, F5.keep _ _ ho⟩) ?_
  intro κ d h8 tk8 KI k8 sz8 e162
  obtain ⟨ps2, e162⟩ := e162
  have z162 := (N5 _ (.tail _ (.tail _ (.tail _ (.tail _ (.head _)))))).2
  have l162 := l5 _ (.tail _ (.tail _ (.head _)))
  have F8 : Fr g L h8 m := ⟨F5.ns.at' fun o e => k8 _ o (fun q => z162.1 q.symm) e, fun b o e => k8 b o (fun q => by rw [q, z162.2] at e; cases e) (F5.keep b o e), F5.above⟩
  have N8 := Mine.news_drop N5 k8 (Nat.ne_of_gt (Nat.lt_trans l162 l6)) (Nat.ne_of_gt l162) (by decide) (fun q => off _ (.tail _ (.head _)) q.symm) hb2
  have hLam := Mine.LamAt.mk (w := w) (a := 233) (i := 3) (cl := [(PySem.Str.ofString "ways", L + 1 + 1)]) ⟨_, _, _, _, _, _, _, (by unfold Mine.ltx; with_unfolding_all rfl), (N8 _ (List.Mem.head _)).1, codeRec_news N8 (List.Mem.tail _ (List.Mem.head _)) d5 v5⟩
  have hWays : Mine.WaysAt h8 (L + 1 + 1) W T2 := ⟨oW, Dw, (N8 _ (.tail _ (.tail _ (.tail _ (.tail _ mW))))).1, hW, ⟨_, (N8 _ (.tail _ (.tail _ (.tail _ (.tail _ mWl))))).1, rfl, _, rfl⟩⟩
  have hR8 := (N8 _ (.tail _ (.tail _ (.tail _ (.head _))))).1
  clear N5 F5 k8 N3
  (repeat' (first | (k_unfold; (try dsimp only)) | (k_end; kc_close) | (dsimp only; walk1) | walk1 | (leave1; try dsimp only)))
  unfold Mine.Halt
  have al := Mine.all_sort (N := 8) (by decide)
  refine Mine.ks_sorted (H := h8) (n := 8) (lt := fun i j => decide (Mine.cmpZ (W i) (W j) < 0)) KI ?hu rfl hR8 (by decide) (by decide) (by decide) (by decide) al.kin (fun i hi => Mine.PermN.lt al.end hi) ?kt ?ct rfl ?fin
  case hu => ktr_units
  case kt =>
    intro k t hk h tk1 Q1 hE hq
    refine Mine.c_kmake w κ _ d (.int k t) p loose mean mg mb _ _ _ _ _ _ _ _ [] PySem.callerA base g L m _ Q1 _ (by assumption) (F8.keeps hE) (by assumption) (by assumption) rfl (KI.keeps hE) ?r1 ?r2 (fun v h' tk' st sz r => hq v h' tk' st r)
    case r1 => ktr_room
    case r2 => ktr_units
  case ct =>
    intro i j ti tj x y hi hj h tk1 Q1 hE ix iy hq
    refine Mine.c_klt w κ _ x y d (.int i ti) (.int j tj) 16 (fun h => Mine.LamAt w 233 3 h _ [(PySem.Str.ofString "ways", L + 1 + 1)] ∧ Mine.WaysAt h (L + 1 + 1) W T2) _ (Mine.c_lam2 w W T2 hS hF1 hF2 _ (L + 1 + 1) i j ti tj (Int.natCast_nonneg i) (Int.ofNat_lt.mpr hi) (Int.natCast_nonneg j) (Int.ofNat_lt.mpr hj)) (fun h h' k hp => ⟨hp.1.keeps k, hp.2.keeps k⟩) (fun h hp => hp.1.fnAt) rfl rfl
      p loose mean mg mb _ _ _ _ _ _ _ _ [] PySem.callerA base g L m _ Q1 _ (by assumption) (F8.keeps hE) (by assumption) (by assumption) rfl ⟨KI.keeps hE, ix, iy, hLam.keeps hE, hWays.keeps hE⟩ ?r1 ?r2 (fun v h' tk' st sz r => ?r3)
    case r1 => ktr_room
    case r2 => ktr_units
    case r3 =>
      have r' : v = .bool (decide (Mine.cmpZ (W i) (W j) < 0)) := r
      rw [r']
      exact hq h' tk' st
  case fin =>
    intro Dr h9 tk9 c9 us hE9 hD9 hDr hI9
    dsimp only
    have F9 := F8.keeps hE9
    refine wpAny_storeName_local rfl F9.ns fun h' hn hs => ?_
    have hDL : Dr ≠ L := fun q => by
      obtain ⟨oL, _, _, hL, _⟩ := F8.ns
      rw [q, hL] at hD9; cases hD9
    have hgD : g.get? Dr = none := by
      cases z : g.get? Dr with
      | none => rfl
      | some o => have := F8.keep _ _ z; rw [hD9] at this; cases this
    exact hret Dr h' _ us c9 _ ps2 (F9.set hn hs) (Mine.news_ins (Mine.row_news N8 hs hE9 hDr hDL hgD) (hs.extBut _ _ z162.1 (hE9 _ _ e162)) z162.1 z162.2) hI9
end
section
theorem Mine.law_ranks (w : World) (p : Program) (loose : List Str) (mean : ExcName → Option Value) (mg mb : Str → Option Value) (base g : Heap) (L fa : PySem.Addr) (m : Str → Option Value) (s : Shared) (Q : Flow → Shared → Prop) (E : Value → Shared → Prop) (st : Stmt) (sc : Scope)
    (hst : (Mine.lawB w)[4]? = some st) (hsc : Mine.lawS w = some sc) (LF : Mine.LawF w p loose mean mg mb base g) (F : Fr g L s.heap m) (D : PySem.Addr) (ys : List Value) (fs : List Mine.FT) (oB : Obj) (vB : Option Value) (bs : List (PySem.Addr × Obj))
    (N : News g L s.heap ((L + 1, oB) :: bs)) (hB : oB.data = .cell vB) (hbs : ∀ p ∈ bs, (∀ v, p.2.data ≠ .cell v) ∨ p.1 ≠ L + 1) (mD : (D, LCg.lst ys) ∈ bs) (hm : m (PySem.Str.ofString "files") = some (.ref D))
    (hf : Mine.FilesIn bs ys fs) (h8 : fs.length = 8)
    (hret : ∀ Dk rs nw oB' h' tk', oB'.data = .cell (some (.ref Dk)) → Mine.RanksIn nw rs fs 8 → Fr g L h' m → News g L h' ((L + 1, oB') :: (Dk, LCg.lst rs) :: (bs ++ nw)) → Q .next { s with heap := h', toks := tk' }) :
    wpAny (model PySem.Challenge.rw_ij0209_01.row.prog w) (PySem.callerA.deeper (Mine.lawEnv sc L fa)) (exec st (Mine.lawEnv sc L fa)) Q E s := by
  obtain ⟨B, X, T, c1, c2, c3⟩ := LF
  obtain ⟨hh, gn, dr, tk, os⟩ := s
  dsimp only at F N hret
  unfold Mine.lawB at hst
  with_unfolding_all change some _ = _ at hst
  cases hst
  unfold Mine.lawS at hsc
  with_unfolding_all change some _ = _ at hsc
  cases hsc
  revert X
  k_with_none
  (k_with "call type:type" => ((k_here; (with_reducible show wpAny _ _ (call (Value.type "type") [Value.bytes _ _]) _ _ _); refine Mine.type_bytes ?_)))
  (k_with "call builtin:issubclass" => ((k_here; k_dflt (refine' Mine.issub_bytes ?zqk1 ?_; (case zqk1 => exact News.isTup (by k_asm) (by k_mem)); k_whole))))
  (k_with "getMethod bytes" => ((k_here; (with_reducible first | refine Mine.method_rfind ?_ | refine Mine.method_rstrip ?_ | refine Mine.method_starts ?_ | refine Mine.method_ends ?_))))
  (k_with "call builtin:bytes.rfind" => ((k_here; refine Mine.call_rfind ?_)))
  (k_with "call builtin:bytes.startswith" => ((k_here; refine Mine.call_starts ?_)))
  (k_with "call builtin:bytes.endswith" => ((k_here; refine Mine.call_ends ?_)))
  (k_with "call builtin:bytes.rstrip" => ((k_here; refine Mine.call_rstrip (by k_extra "kaf") ?_; intro zzt8 zzk8)))
  (k_with "subscriptTail" => ((k_here; (with_reducible show wpAny _ _ (subscriptTail _ (Expr.Slice _ _ none _) (Value.bytes _ _) (Value.ref _)) _ _ _); (with_reducible rename Fr _ _ _ _ => zzFq); (with_reducible rename News _ _ _ _ => zzNq); (refine Mine.slice_B (s := ⟨_, _, _, _, _⟩) zzFq zzNq (by constructor) (by constructor) (by k_extra "kaf") ?_); intro _ _ _ _ _; (try k_sweep))))
  (k_with "truthy bytes" => ((k_here; (refine Mine.truthy_B (by k_extra "kaf") ?_); intro _)))
  (k_with "call builtin:len" => ((k_here; (with_reducible show wpAny _ _ (call (Value.builtin "len") [Value.bytes _ _]) _ _ _); (refine Mine.len_B (by k_extra "kaf") ?_); intro _ _)))
  (k_with "binaryOp Mult bytes int" => ((k_here; (refine Mine.mul_B (by k_extra "kaf") ?_); intro _ _)))
  (k_with "exec While Name" => ((k_here; refine whl_start 5 ?_)))
  (k_with "WhlIf" => ((first | (refine WhlIf.yes (by with_unfolding_all rfl) ?_) | (refine WhlIf.no (by with_unfolding_all rfl) ?_) | (refine Mine.whl_split ?_ ?_ <;> intro zzhw8 <;> (first | done | (exfalso; (try simp only [bne_iff_ne, ne_eq, bne_eq_false_iff_eq, decide_eq_true_eq, decide_eq_false_iff_not] at *); omega) | skip)))))
  (k_with "binaryOp Add bytes bytes" => ((k_here; (refine Mine.add_B (by k_extra "kaf") ?_); intro _ _)))
  (k_with "kaf" => (first | (with_reducible assumption) | ((with_reducible refine Mine.sz_cut ?_); k_extra "kaf") | ((with_reducible refine Mine.small_rstrip ?_); k_extra "kaf") | ((with_reducible refine Mine.sz_app ?_ ?_) <;> k_extra "kaf") | exact Nat.le_of_ble_eq_true rfl | exact Nat.le_trans (by with_reducible assumption) (by decide) | assumption | ((try simp only [Mine.Small, Array.size_append, List.size_toArray, List.length_cons, List.length_nil] at *); omega)))
  (k_with "inplaceOp Add bytes bytes" => ((k_here; (refine Mine.iadd_B (by k_extra "kaf") ?_); intro _ _)))
  (k_with "WhlIf" => ((refine WhlIf.no (Mine.ap_three (by assumption) (by assumption)) ?_)))
  (k_with "kaf" => (first | (with_reducible assumption) | ((with_reducible refine Mine.sz_word ?_); exact Nat.le_of_ble_eq_true rfl) | ((with_reducible refine Mine.sz_frontB ?_); k_extra "kaf") | ((with_reducible refine Mine.sz_endB ?_); k_extra "kaf") | ((with_reducible refine Mine.sz_baseB ?_); k_extra "kaf") | ((with_reducible refine Mine.sz_dirB ?_); k_extra "kaf")))
  (k_with "compareOp Gt bytes bytes" => ((k_here; refine Mine.gt_bytes ?_)))
  (k_with "call ref" => ((k_here; (with_reducible show wpAny _ _ (call (Value.ref 188) [Value.ref _]) _ _ _); k_dflt (refine' Mine.useFiles (Mine.c_files _ _ _ _ (by assumption) ?zqk0) ?zqk1 ?zqk2 ?zqk3 ?zqk4 ?zqk5 ?zqk6 ?zqk7 ?zqk8 ?zqk9 ?_; (case zqk0 => omega); (case zqk1 => k_asm); (case zqk2 => k_asm); (case zqk3 => k_asm); (case zqk4 => k_asm); (case zqk5 => k_asm); (case zqk6 => exact rfl); (case zqk7 => exact Mine.isList_keeps (by assumption) (Fr.keep (by assumption))); (case zqk8 => ktr_room); (case zqk9 => ktr_units)); intro zzD8 zzys8 zzfs8 zznw8 zzh8 zztk8 zzF8 zzN8 zzhf8 zzhl8 zzhb8; (try simp only [List.cons_append, List.nil_append] at zzN8))))
  (k_with "call ref" => ((k_here; (with_reducible show wpAny _ _ (call (Value.ref 183) [Value.int _ _]) _ _ _); k_dflt (first | (refine' Mine.useB (Mine.c_apn _ _ _ ?zqka ?zqkb) ?zqk1 ?zqk2 ?zqk3 ?zqk4 ?zqk5 ?zqk6 ?zqk7 ?zqk8 ?zqk9 ?_; (case zqka => omega); (case zqkb => omega); ((case zqk1 => k_asm); (case zqk2 => k_asm); (case zqk3 => k_asm); (case zqk4 => k_asm); (case zqk5 => k_asm); (case zqk6 => first | exact rfl | assumption); (case zqk7 => first | exact True.intro | assumption); (case zqk8 => ktr_room); (case zqk9 => ktr_units))) | (refine' Mine.useB (Mine.c_ap _ _ _ ?zqka ?zqkb) ?zqk1 ?zqk2 ?zqk3 ?zqk4 ?zqk5 ?zqk6 ?zqk7 ?zqk8 ?zqk9 ?_; (case zqka => omega); (case zqkb => omega); ((case zqk1 => k_asm); (case zqk2 => k_asm); (case zqk3 => k_asm); (case zqk4 => k_asm); (case zqk5 => k_asm); (case zqk6 => first | exact rfl | assumption); (case zqk7 => first | exact True.intro | assumption); (case zqk8 => ktr_room); (case zqk9 => ktr_units)))); intro zzt8 zzh8 zztk8 zzF8 zzN8; (try k_sweep); (try k_fold))))
  (k_with "call ref" => ((k_here; (with_reducible show wpAny _ _ (call (Value.ref 129) [Value.bytes _ _, Value.bytes _ _]) _ _ _); k_dflt (refine' Mine.useB (Mine.c_way _ _ _ _ _ _) ?zqk1 ?zqk2 ?zqk3 ?zqk4 ?zqk5 ?zqk6 ?zqk7 ?zqk8 ?zqk9 ?_; ((case zqk1 => k_asm); (case zqk2 => k_asm); (case zqk3 => k_asm); (case zqk4 => k_asm); (case zqk5 => k_asm); (case zqk6 => first | exact rfl | assumption); (case zqk7 => first | exact True.intro | assumption); (case zqk8 => ktr_room); (case zqk9 => ktr_units))); intro zzt8 zzh8 zztk8 zzF8 zzN8; (try k_sweep); (try k_fold))))
  (k_with "eval ListComp" => ((k_here; k_dflt (refine Mine.comp_enter (by with_unfolding_all rfl) (by rfl) (by decide) ?_))))
  (k_with "exec For Name Call" => ((k_here; k_dflt (refine Mine.for_enter ?_))))
  (k_with "exec Assign" => ((k_here; (with_reducible show wpAny _ _ (exec (Stmt.Assign [Expr.Name _ _] _ _) _) _ _ _); refine wpAny_Assign_Name ?_)))
  (k_with "eval Name" => ((k_here; k_dflt (refine nameX_L (by k_asm) (by assumption) ?_))))
  (k_with "call ref" => ((k_here; (with_reducible show wpAny _ _ (call (Value.ref 228) [Value.int _ _, Value.int _ _, Value.int _ _]) _ _ _); k_dflt (refine' Mine.useRT (Mine.c_rank _ _ _ _ _ _ _) ?zqk1 ?zqk2 ?zqk3 ?zqk4 ?zqk5 ?zqk6 ?zqk7 ?zqk8 ?zqk9 ?_; ((case zqk1 => k_asm); (case zqk2 => k_asm); (case zqk3 => k_asm); (case zqk4 => k_asm); (case zqk5 => k_asm); (case zqk6 => first | exact rfl | assumption); (case zqk7 => first | exact True.intro | assumption); (case zqk8 => ktr_room); (case zqk9 => ktr_units))); intro zzD8 zzu8 zzc8 zzh8 zztk8 zzi8 zzF8 zzN8 zzl8)))
  w_top off
  k_fill
  intro X
  unfold Mine.lawEnv
  dsimp only
  with_reducible refine wpAny_Assign_Name ?_ ?_
  rotate_left
  · rfl
  refine Mine.comp_enter (by with_unfolding_all rfl) (by rfl) (by decide) ?_
  refine nameX_L F hm ?_
  unfold Mine.Stop
  refine Mine.comp_free (by decide) rfl (Mine.src_list (vs := ys) rfl (by rw [hf.len, h8]; exact Nat.le_of_ble_eq_true rfl) F N (.tail _ mD) rfl rfl) (fun i _ m₃ => ∃ a b c, Mine.FileV fs i a b c ∧ m₃ (PySem.Str.ofString "folder") = some a ∧ m₃ (PySem.Str.ofString "stem") = some b ∧ m₃ (PySem.Str.ofString "edition") = some c)
    (Mine.bind_tuple rfl rfl rfl rfl rfl (by decide) (by decide) (by decide) (Mine.files_bind hf fun p hp => .tail _ hp)) (fun i ys' acc => Mine.RanksIn acc ys' fs i) ⟨rfl, fun j v e => by simp at e⟩ ?turn (Mine.fin_none ?fin)
  case turn =>
    intro C I D2 i v ys2 acc oI oC m₂ h4 tk4 E' hlt hv hG hoC hB2 F4 N4 hacc
    obtain ⟨_, _, _, ⟨f, s0, e, t1, t2, t3, hx, rfl, rfl, rfl⟩, hm1, hm2, hm3⟩ := hB2
    refine Mine.ifs_nil ?_
    rw [if_pos rfl]
    clear F N hret hbs
    (repeat' (first | (k_unfold; (try dsimp only)) | (k_end; kc_close) | (dsimp only; walk1) | walk1 | (leave1; try dsimp only)))
    (with_reducible rename IntsAre _ _ => i8)
    (rename ∀ q : PySem.Addr × PySem.Obj, q ∈ (_ : List (PySem.Addr × PySem.Obj)) → q.1 ≠ _ => l8)
    exact Mine.gend_far (by assumption) (by assumption) l8 ⟨_, .tail _ (.head _)⟩ ⟨_, .tail _ (.tail _ (.head _))⟩ (fun b hb => by rw [List.mem_singleton.mp hb]; exact ⟨_, .head _⟩) (hG.next hx i8)
  case fin =>
    intro Dk h4 tk4 ys2 acc hG F4 N4
    rw [hf.len, h8] at hG
    clear F N
    have hz := N4 (L + 1, oB) (.tail _ (.head _))
    refine wpAny_storeName_cell (c := L + 1) (v₀ := vB) rfl rfl rfl ⟨oB, hz.1, hB⟩ fun h' hc hs => ?_
    obtain ⟨oB', hB', N5⟩ := Mine.cell_upd (rest := (Dk, LCg.lst ys2) :: (bs ++ (acc.filter fun p => decide (p.1 ≠ L + 1)))) N4 (.tail _ (.head _)) hB hs hc (fun p hp => by
      rcases List.mem_cons.mp hp with rfl | hp
      · exact ⟨.head _, .inl fun v => nofun⟩
      rcases List.mem_append.mp hp with hp | hp
      · exact ⟨.tail _ (.tail _ (List.mem_append_left _ hp)), hbs p hp⟩
      · have z := List.mem_filter.mp hp
        exact ⟨.tail _ (.tail _ (List.mem_append_right _ z.1)), .inr (by simpa using z.2)⟩)
    refine hret Dk ys2 _ oB' h' _ hB' (Mine.ranks_filter hG fun T vs c hm2 q => ?_) (F4.change hs hz.2.1 hz.2.2) N5
    have z := (N4 _ (.tail _ (List.mem_append_right _ hm2))).1
    rw [show (T, Mine.tupObj vs c).1 = L + 1 from q, hz.1] at z
    cases z
    cases hB
end
section
theorem Mine.law_places (w : World) (p : Program) (loose : List Str) (mean : ExcName → Option Value) (mg mb : Str → Option Value) (base g : Heap) (L fa : PySem.Addr) (m : Str → Option Value) (s : Shared) (Q : Flow → Shared → Prop) (E : Value → Shared → Prop) (st : Stmt) (sc : Scope)
    (hst : (Mine.lawB w)[5]? = some st) (hsc : Mine.lawS w = some sc) (LF : Mine.LawF w p loose mean mg mb base g) (F : Fr g L s.heap m) (Dk : PySem.Addr) (rs : List Value) (fs : List Mine.FT) (oK : Obj) (bs : List (PySem.Addr × Obj))
    (N : News g L s.heap bs) (mK : (L + 1, oK) ∈ bs) (hK : oK.data = .cell (some (.ref Dk))) (mR : (Dk, LCg.lst rs) ∈ bs) (hR : Mine.RanksIn bs rs fs 8) (hne : Mine.Halt (∀ k, k < 8 → ((List.range 8).filter fun q => Mine.cntR fs q == k) ≠ []))
    (hret : Mine.Halt (∀ Dp ps h' tk', Mine.IntsOf (fun k => (Mine.plcR fs k : Int)) 8 ps → Fr g L h' (fun x => if x = PySem.Str.ofString "places" then some (.ref Dp) else m x) → News g L h' ((Dp, LCg.lst ps) :: bs) → Q .next { s with heap := h', toks := tk' })) :
    wpAny (model PySem.Challenge.rw_ij0209_01.row.prog w) (PySem.callerA.deeper (Mine.lawEnv sc L fa)) (exec st (Mine.lawEnv sc L fa)) Q E s := by
  obtain ⟨B, X, T, c1, c2, c3⟩ := LF
  obtain ⟨hh, gn, dr, tk, os⟩ := s
  dsimp only at F N hret
  unfold Mine.lawB at hst
  with_unfolding_all change some _ = _ at hst
  cases hst
  unfold Mine.lawS at hsc
  with_unfolding_all change some _ = _ at hsc
  cases hsc
  revert X
  k_with_none
  (k_with "call type:type" => ((k_here; (with_reducible show wpAny _ _ (call (Value.type "type") [Value.bytes _ _]) _ _ _); refine Mine.type_bytes ?_)))
  (k_with "call builtin:issubclass" => ((k_here; k_dflt (refine' Mine.issub_bytes ?zqk1 ?_; (case zqk1 => exact News.isTup (by k_asm) (by k_mem)); k_whole))))
  (k_with "getMethod bytes" => ((k_here; (with_reducible first | refine Mine.method_rfind ?_ | refine Mine.method_rstrip ?_ | refine Mine.method_starts ?_ | refine Mine.method_ends ?_))))
  (k_with "call builtin:bytes.rfind" => ((k_here; refine Mine.call_rfind ?_)))
  (k_with "call builtin:bytes.startswith" => ((k_here; refine Mine.call_starts ?_)))
  (k_with "call builtin:bytes.endswith" => ((k_here; refine Mine.call_ends ?_)))
  (k_with "call builtin:bytes.rstrip" => ((k_here; refine Mine.call_rstrip (by k_extra "kaf") ?_; intro zzt8 zzk8)))
  (k_with "subscriptTail" => ((k_here; (with_reducible show wpAny _ _ (subscriptTail _ (Expr.Slice _ _ none _) (Value.bytes _ _) (Value.ref _)) _ _ _); (with_reducible rename Fr _ _ _ _ => zzFq); (with_reducible rename News _ _ _ _ => zzNq); (refine Mine.slice_B (s := ⟨_, _, _, _, _⟩) zzFq zzNq (by constructor) (by constructor) (by k_extra "kaf") ?_); intro _ _ _ _ _; (try k_sweep))))
  (k_with "truthy bytes" => ((k_here; (refine Mine.truthy_B (by k_extra "kaf") ?_); intro _)))
  (k_with "call builtin:len" => ((k_here; (with_reducible show wpAny _ _ (call (Value.builtin "len") [Value.bytes _ _]) _ _ _); (refine Mine.len_B (by k_extra "kaf") ?_); intro _ _)))
  (k_with "binaryOp Mult bytes int" => ((k_here; (refine Mine.mul_B (by k_extra "kaf") ?_); intro _ _)))
  (k_with "exec While Name" => ((k_here; refine whl_start 5 ?_)))
  (k_with "WhlIf" => ((first | (refine WhlIf.yes (by with_unfolding_all rfl) ?_) | (refine WhlIf.no (by with_unfolding_all rfl) ?_) | (refine Mine.whl_split ?_ ?_ <;> intro zzhw8 <;> (first | done | (exfalso; (try simp only [bne_iff_ne, ne_eq, bne_eq_false_iff_eq, decide_eq_true_eq, decide_eq_false_iff_not] at *); omega) | skip)))))
  (k_with "binaryOp Add bytes bytes" => ((k_here; (refine Mine.add_B (by k_extra "kaf") ?_); intro _ _)))
  (k_with "kaf" => (first | (with_reducible assumption) | ((with_reducible refine Mine.sz_cut ?_); k_extra "kaf") | ((with_reducible refine Mine.small_rstrip ?_); k_extra "kaf") | ((with_reducible refine Mine.sz_app ?_ ?_) <;> k_extra "kaf") | exact Nat.le_of_ble_eq_true rfl | exact Nat.le_trans (by with_reducible assumption) (by decide) | assumption | ((try simp only [Mine.Small, Array.size_append, List.size_toArray, List.length_cons, List.length_nil] at *); omega)))
  (k_with "inplaceOp Add bytes bytes" => ((k_here; (refine Mine.iadd_B (by k_extra "kaf") ?_); intro _ _)))
  (k_with "WhlIf" => ((refine WhlIf.no (Mine.ap_three (by assumption) (by assumption)) ?_)))
  (k_with "kaf" => (first | (with_reducible assumption) | ((with_reducible refine Mine.sz_word ?_); exact Nat.le_of_ble_eq_true rfl) | ((with_reducible refine Mine.sz_frontB ?_); k_extra "kaf") | ((with_reducible refine Mine.sz_endB ?_); k_extra "kaf") | ((with_reducible refine Mine.sz_baseB ?_); k_extra "kaf") | ((with_reducible refine Mine.sz_dirB ?_); k_extra "kaf")))
  (k_with "compareOp Gt bytes bytes" => ((k_here; refine Mine.gt_bytes ?_)))
  (k_with "call ref" => ((k_here; (with_reducible show wpAny _ _ (call (Value.ref 188) [Value.ref _]) _ _ _); k_dflt (refine' Mine.useFiles (Mine.c_files _ _ _ _ (by assumption) ?zqk0) ?zqk1 ?zqk2 ?zqk3 ?zqk4 ?zqk5 ?zqk6 ?zqk7 ?zqk8 ?zqk9 ?_; (case zqk0 => omega); (case zqk1 => k_asm); (case zqk2 => k_asm); (case zqk3 => k_asm); (case zqk4 => k_asm); (case zqk5 => k_asm); (case zqk6 => exact rfl); (case zqk7 => exact Mine.isList_keeps (by assumption) (Fr.keep (by assumption))); (case zqk8 => ktr_room); (case zqk9 => ktr_units)); intro zzD8 zzys8 zzfs8 zznw8 zzh8 zztk8 zzF8 zzN8 zzhf8 zzhl8 zzhb8; (try simp only [List.cons_append, List.nil_append] at zzN8))))
  (k_with "call ref" => ((k_here; (with_reducible show wpAny _ _ (call (Value.ref 183) [Value.int _ _]) _ _ _); k_dflt (first | (refine' Mine.useB (Mine.c_apn _ _ _ ?zqka ?zqkb) ?zqk1 ?zqk2 ?zqk3 ?zqk4 ?zqk5 ?zqk6 ?zqk7 ?zqk8 ?zqk9 ?_; (case zqka => omega); (case zqkb => omega); ((case zqk1 => k_asm); (case zqk2 => k_asm); (case zqk3 => k_asm); (case zqk4 => k_asm); (case zqk5 => k_asm); (case zqk6 => first | exact rfl | assumption); (case zqk7 => first | exact True.intro | assumption); (case zqk8 => ktr_room); (case zqk9 => ktr_units))) | (refine' Mine.useB (Mine.c_ap _ _ _ ?zqka ?zqkb) ?zqk1 ?zqk2 ?zqk3 ?zqk4 ?zqk5 ?zqk6 ?zqk7 ?zqk8 ?zqk9 ?_; (case zqka => omega); (case zqkb => omega); ((case zqk1 => k_asm); (case zqk2 => k_asm); (case zqk3 => k_asm); (case zqk4 => k_asm); (case zqk5 => k_asm); (case zqk6 => first | exact rfl | assumption); (case zqk7 => first | exact True.intro | assumption); (case zqk8 => ktr_room); (case zqk9 => ktr_units)))); intro zzt8 zzh8 zztk8 zzF8 zzN8; (try k_sweep); (try k_fold))))
  (k_with "call ref" => ((k_here; (with_reducible show wpAny _ _ (call (Value.ref 129) [Value.bytes _ _, Value.bytes _ _]) _ _ _); k_dflt (refine' Mine.useB (Mine.c_way _ _ _ _ _ _) ?zqk1 ?zqk2 ?zqk3 ?zqk4 ?zqk5 ?zqk6 ?zqk7 ?zqk8 ?zqk9 ?_; ((case zqk1 => k_asm); (case zqk2 => k_asm); (case zqk3 => k_asm); (case zqk4 => k_asm); (case zqk5 => k_asm); (case zqk6 => first | exact rfl | assumption); (case zqk7 => first | exact True.intro | assumption); (case zqk8 => ktr_room); (case zqk9 => ktr_units))); intro zzt8 zzh8 zztk8 zzF8 zzN8; (try k_sweep); (try k_fold))))
  (k_with "eval ListComp" => ((k_here; k_dflt (refine Mine.comp_enter (by with_unfolding_all rfl) (by rfl) (by decide) ?_))))
  (k_with "exec For Name Call" => ((k_here; k_dflt (refine Mine.for_enter ?_))))
  (k_with "exec Assign" => ((k_here; (with_reducible show wpAny _ _ (exec (Stmt.Assign [Expr.Name _ _] _ _) _) _ _ _); refine wpAny_Assign_Name ?_)))
  (k_with "eval Name" => ((k_here; (with_reducible show wpAny _ _ (eval (Expr.Name _ _) (compEnvC _ _ _ _)) _ _ _); k_dflt (refine' lcf_cell ?zqN ?zqc ?zqm ?zqd ?_ ?zqa ?zqb; (case zqa => rfl); (case zqb => rfl); (case zqN => k_asm); (case zqc => rfl); (case zqm => first | k_mem | (repeat (first | assumption | apply List.mem_cons_of_mem))); (case zqd => assumption); k_whole))))
  (k_with "subscriptTail" => ((k_here; (with_reducible show wpAny _ _ (subscriptTail _ _ (Value.ref _) (Value.int _ _)) _ _ _); k_dflt (refine Mine.item_news (by k_asm) (by repeat (first | assumption | apply List.mem_cons_of_mem)) rfl rfl (by assumption) (by assumption) ?_))))
  (k_with "compareOp Lt ref ref" => ((refine Mine.Halt.go ?_)))
  (k_with "compareOp Eq int int" => ((refine Mine.Halt.go ?_)))
  w_top off
  k_fill
  intro X
  unfold Mine.lawEnv
  dsimp only
  refine Mine.comp_enterA (by rfl) (by with_unfolding_all rfl) (by rfl) (by decide) ?_
  (repeat' (first | (k_unfold; (try dsimp only)) | (k_end; kc_close) | (dsimp only; walk1) | walk1 | (leave1; try dsimp only)))
  (with_reducible rename News _ _ _ _ => N2)
  (with_reducible rename Fr _ _ _ _ => F2)
  (with_reducible rename PySem.IsRange _ _ _ _ _ _ _ _ => hr2)
  unfold Mine.Stop
  refine Mine.comp_cellN rfl (by decide) (by decide) rfl (Mine.src_range (n := 8) rfl (Nat.le_of_ble_eq_true rfl) F2 N2 hr2 (by decide) (by decide)) (fun i ys' => Mine.IntsOf (fun k => (Mine.plcR fs k : Int)) i ys') .nil ?turn (Mine.finS rfl rfl rfl ?fin)
  case turn =>
    intro C X1 I D i v ys oI oC oX m₂ h4 tk4 E' hlt hv hG hoC hX F4 N4
    refine Mine.ifs_nil ?_
    rw [if_pos rfl]
    clear F2 N2 hr2
    obtain ⟨t1, rfl⟩ := hv
    rw [Int.zero_add] at hX
    (repeat' (first | (k_unfold; (try dsimp only)) | (k_end; kc_close) | (dsimp only; walk1) | walk1 | (leave1; try dsimp only)))
    (with_reducible rename News _ _ _ _ => N5)
    (with_reducible rename Fr _ _ _ _ => F5)
    (with_reducible rename PySem.IsRange _ _ _ _ _ _ _ _ => hr5)
    unfold Mine.Stop
    refine Mine.comp_cellN rfl (by decide) (by decide) rfl (Mine.src_range (n := 8) rfl (Nat.le_of_ble_eq_true rfl) F5 N5 hr5 (by decide) (by decide)) (fun j ys' => Mine.FiltOf (fun q => Mine.cntR fs q == i) j ys') .nil ?turn2 (Mine.finN ?fin2)
    case turn2 =>
      intro C2 X2 I2 D2 q v2 ys2 oI2 oC2 oX2 m₃ h6 tk6 E2 hlt2 hv2 hG2 hoC2 hX2 F6 N6
      obtain ⟨t2, rfl⟩ := hv2
      rw [Int.zero_add] at hX2
      refine Mine.ifs_one ?_
      clear F5 N5 hr5
      (repeat' (first | (k_unfold; (try dsimp only)) | (k_end; kc_close) | (dsimp only; walk1) | walk1 | (leave1; try dsimp only)))
      (with_reducible rename News _ _ _ _ => N7)
      (with_reducible rename Fr _ _ _ _ => F7)
      (with_reducible rename PySem.IsRange _ _ _ _ _ _ _ _ => hr7)
      unfold Mine.Stop
      refine Mine.comp_freeN (by decide) rfl (Mine.src_range (n := 8) rfl (Nat.le_of_ble_eq_true rfl) F7 N7 hr7 (by decide) (by decide)) (fun _ v m => m (PySem.Str.ofString "p") = some v) (Mine.bind_name rfl rfl) (fun j ys' => Mine.FiltOf (fun a => Mine.ltR fs a q) j ys') .nil ?turn3 (Mine.finN ?fin3)
      case turn3 =>
        intro C3 I3 D3 a v3 ys3 oI3 oC3 m₄ h8 tk8 E3 hlt3 hv3 hG3 hoC3 hm3 F8 N8
        obtain ⟨t3, rfl⟩ := hv3
        rw [Int.zero_add] at hm3
        refine Mine.ifs_one ?_
        clear F7 N7 hr7
        obtain ⟨va, ea⟩ : ∃ v, rs[a]? = some v := ⟨_, List.getElem?_eq_getElem (by rw [hR.1]; exact hlt3)⟩
        obtain ⟨vq, eq⟩ : ∃ v, rs[q]? = some v := ⟨_, List.getElem?_eq_getElem (by rw [hR.1]; exact hlt2)⟩
        obtain ⟨xa, fa1, Ta, ua, ca, rfl, ma, ia⟩ := hR.2 a va ea
        obtain ⟨xq, fq1, Tq, uq, cq, rfl, mq, iq⟩ := hR.2 q vq eq
        (repeat' (first | (k_unfold; (try dsimp only)) | (k_end; kc_close) | (dsimp only; walk1) | walk1 | (leave1; try dsimp only)))
        unfold Mine.Halt
        (with_reducible rename News _ _ _ _ => N9)
        (with_reducible rename Fr _ _ _ _ => F9)
        refine (Mine.pair_lt (N9 _ (.tail _ (.head _))).1 (N9 _ (.head _)).1 (N9 _ (by repeat (first | exact ma | apply List.mem_cons_of_mem))).1 (N9 _ (by repeat (first | exact mq | apply List.mem_cons_of_mem))).1 ia iq (by rw [Mine.rankL_len, Mine.rankL_len]) ?hu) _ w _ _ ?_
        case hu => ktr_units
        rw [Mine.ltR_at fa1 fq1]
        cases h9 : Mine.ltR fs a q
        · (repeat' (first | (k_unfold; (try dsimp only)) | (k_end; kc_close) | (dsimp only; walk1) | walk1 | (leave1; try dsimp only)))
          exact Mine.NEnd.intro (by assumption) (by assumption) (fun p hp => .tail _ (.tail _ hp)) (hG3.no h9)
        · (repeat' (first | (k_unfold; (try dsimp only)) | (k_end; kc_close) | (dsimp only; walk1) | walk1 | (leave1; try dsimp only)))
          exact Mine.NEnd.intro (by assumption) (by assumption) (fun p hp => .tail _ (.tail _ hp)) (hG3.yes h9)
      case fin3 =>
        intro D3 h8 tk8 ys3 hG3 F8 N8
        clear F7 N7 hr7
        (repeat' (first | (k_unfold; (try dsimp only)) | (k_end; kc_close) | (dsimp only; walk1) | walk1 | (leave1; try dsimp only)))
        (with_reducible rename News _ _ _ _ => N10)
        refine len_list ⟨_, (N10 _ (.head _)).1, rfl, _, rfl⟩ (by have := (Mine.filt_len hG3).2; rw [List.size_toArray]; omega) ?_
        (repeat' (first | (k_unfold; (try dsimp only)) | (k_end; kc_close) | (dsimp only; walk1) | walk1 | (leave1; try dsimp only)))
        unfold Mine.Halt
        refine eq_int ?_
        rw [Mine.cnt_eq hG3]
        cases h10 : Mine.cntR fs q == i
        · (repeat' (first | (k_unfold; (try dsimp only)) | (k_end; kc_close) | (dsimp only; walk1) | walk1 | (leave1; try dsimp only)))
          exact Mine.NEnd.intro (by assumption) (by assumption) (fun p hp => .tail _ hp) (hG2.no h10)
        · (repeat' (first | (k_unfold; (try dsimp only)) | (k_end; kc_close) | (dsimp only; walk1) | walk1 | (leave1; try dsimp only)))
          exact Mine.NEnd.intro (by assumption) (by assumption) (fun p hp => .tail _ hp) (hG2.yes h10)
    case fin2 =>
      intro D2 h6 tk6 ys2 hG2 F6 N6
      clear F5 N5 hr5
      (repeat' (first | (k_unfold; (try dsimp only)) | (k_end; kc_close) | (dsimp only; walk1) | walk1 | (leave1; try dsimp only)))
      obtain ⟨t9, e9⟩ := Mine.filt_head hG2 (hne i hlt)
      refine Mine.item_news (i := 0) N6 (.head _) rfl rfl e9 (by decide) ?_
      exact Mine.NEnd.intro F6 N6 (fun p hp => .tail _ hp) hG.next
  case fin =>
    intro Dp h4 tk4 ys hG F4 N4
    exact hret Dp ys h4 tk4 hG F4 N4
end
section
theorem Mine.law_if (w : World) (p : Program) (loose : List Str) (mean : ExcName → Option Value) (mg mb : Str → Option Value) (base g : Heap) (L fa : PySem.Addr) (m : Str → Option Value) (s : Shared) (Q : Flow → Shared → Prop) (E : Value → Shared → Prop) (st : Stmt) (sc : Scope)
    (hst : (Mine.lawB w)[6]? = some st) (hsc : Mine.lawS w = some sc) (LF : Mine.LawF w p loose mean mg mb base g) (F : Fr g L s.heap m) (Dr Dp : PySem.Addr) (us ps : List Value) (ns : List Int)
    (h1 : s.heap.IsList Dr us.toArray) (h2 : s.heap.IsList Dp ps.toArray) (i1 : IntsAre us ns) (i2 : IntsAre ps ns) (hm1 : m (PySem.Str.ofString "row") = some (.ref Dr)) (hm2 : m (PySem.Str.ofString "places") = some (.ref Dp))
    (hret : ∀ tk', Q .next { s with toks := tk' }) :
    wpAny (model PySem.Challenge.rw_ij0209_01.row.prog w) (PySem.callerA.deeper (Mine.lawEnv sc L fa)) (exec st (Mine.lawEnv sc L fa)) Q E s := by
  obtain ⟨B, X, T, c1, c2, c3⟩ := LF
  obtain ⟨hh, gn, dr, tk, os⟩ := s
  dsimp only at F h1 h2 hret
  unfold Mine.lawB at hst
  with_unfolding_all change some _ = _ at hst
  cases hst
  unfold Mine.lawS at hsc
  with_unfolding_all change some _ = _ at hsc
  cases hsc
  revert X
  k_with_none
  (k_with "call type:type" => ((k_here; (with_reducible show wpAny _ _ (call (Value.type "type") [Value.bytes _ _]) _ _ _); refine Mine.type_bytes ?_)))
  (k_with "call builtin:issubclass" => ((k_here; k_dflt (refine' Mine.issub_bytes ?zqk1 ?_; (case zqk1 => exact News.isTup (by k_asm) (by k_mem)); k_whole))))
  (k_with "getMethod bytes" => ((k_here; (with_reducible first | refine Mine.method_rfind ?_ | refine Mine.method_rstrip ?_ | refine Mine.method_starts ?_ | refine Mine.method_ends ?_))))
  (k_with "call builtin:bytes.rfind" => ((k_here; refine Mine.call_rfind ?_)))
  (k_with "call builtin:bytes.startswith" => ((k_here; refine Mine.call_starts ?_)))
  (k_with "call builtin:bytes.endswith" => ((k_here; refine Mine.call_ends ?_)))
  (k_with "call builtin:bytes.rstrip" => ((k_here; refine Mine.call_rstrip (by k_extra "kaf") ?_; intro zzt8 zzk8)))
  (k_with "subscriptTail" => ((k_here; (with_reducible show wpAny _ _ (subscriptTail _ (Expr.Slice _ _ none _) (Value.bytes _ _) (Value.ref _)) _ _ _); (with_reducible rename Fr _ _ _ _ => zzFq); (with_reducible rename News _ _ _ _ => zzNq); (refine Mine.slice_B (s := ⟨_, _, _, _, _⟩) zzFq zzNq (by constructor) (by constructor) (by k_extra "kaf") ?_); intro _ _ _ _ _; (try k_sweep))))
  (k_with "truthy bytes" => ((k_here; (refine Mine.truthy_B (by k_extra "kaf") ?_); intro _)))
  (k_with "call builtin:len" => ((k_here; (with_reducible show wpAny _ _ (call (Value.builtin "len") [Value.bytes _ _]) _ _ _); (refine Mine.len_B (by k_extra "kaf") ?_); intro _ _)))
  (k_with "binaryOp Mult bytes int" => ((k_here; (refine Mine.mul_B (by k_extra "kaf") ?_); intro _ _)))
  (k_with "exec While Name" => ((k_here; refine whl_start 5 ?_)))
  (k_with "WhlIf" => ((first | (refine WhlIf.yes (by with_unfolding_all rfl) ?_) | (refine WhlIf.no (by with_unfolding_all rfl) ?_) | (refine Mine.whl_split ?_ ?_ <;> intro zzhw8 <;> (first | done | (exfalso; (try simp only [bne_iff_ne, ne_eq, bne_eq_false_iff_eq, decide_eq_true_eq, decide_eq_false_iff_not] at *); omega) | skip)))))
  (k_with "binaryOp Add bytes bytes" => ((k_here; (refine Mine.add_B (by k_extra "kaf") ?_); intro _ _)))
  (k_with "kaf" => (first | (with_reducible assumption) | ((with_reducible refine Mine.sz_cut ?_); k_extra "kaf") | ((with_reducible refine Mine.small_rstrip ?_); k_extra "kaf") | ((with_reducible refine Mine.sz_app ?_ ?_) <;> k_extra "kaf") | exact Nat.le_of_ble_eq_true rfl | exact Nat.le_trans (by with_reducible assumption) (by decide) | assumption | ((try simp only [Mine.Small, Array.size_append, List.size_toArray, List.length_cons, List.length_nil] at *); omega)))
  (k_with "inplaceOp Add bytes bytes" => ((k_here; (refine Mine.iadd_B (by k_extra "kaf") ?_); intro _ _)))
  (k_with "WhlIf" => ((refine WhlIf.no (Mine.ap_three (by assumption) (by assumption)) ?_)))
  (k_with "kaf" => (first | (with_reducible assumption) | ((with_reducible refine Mine.sz_word ?_); exact Nat.le_of_ble_eq_true rfl) | ((with_reducible refine Mine.sz_frontB ?_); k_extra "kaf") | ((with_reducible refine Mine.sz_endB ?_); k_extra "kaf") | ((with_reducible refine Mine.sz_baseB ?_); k_extra "kaf") | ((with_reducible refine Mine.sz_dirB ?_); k_extra "kaf")))
  (k_with "compareOp Gt bytes bytes" => ((k_here; refine Mine.gt_bytes ?_)))
  (k_with "call ref" => ((k_here; (with_reducible show wpAny _ _ (call (Value.ref 188) [Value.ref _]) _ _ _); k_dflt (refine' Mine.useFiles (Mine.c_files _ _ _ _ (by assumption) ?zqk0) ?zqk1 ?zqk2 ?zqk3 ?zqk4 ?zqk5 ?zqk6 ?zqk7 ?zqk8 ?zqk9 ?_; (case zqk0 => omega); (case zqk1 => k_asm); (case zqk2 => k_asm); (case zqk3 => k_asm); (case zqk4 => k_asm); (case zqk5 => k_asm); (case zqk6 => exact rfl); (case zqk7 => exact Mine.isList_keeps (by assumption) (Fr.keep (by assumption))); (case zqk8 => ktr_room); (case zqk9 => ktr_units)); intro zzD8 zzys8 zzfs8 zznw8 zzh8 zztk8 zzF8 zzN8 zzhf8 zzhl8 zzhb8; (try simp only [List.cons_append, List.nil_append] at zzN8))))
  (k_with "call ref" => ((k_here; (with_reducible show wpAny _ _ (call (Value.ref 183) [Value.int _ _]) _ _ _); k_dflt (first | (refine' Mine.useB (Mine.c_apn _ _ _ ?zqka ?zqkb) ?zqk1 ?zqk2 ?zqk3 ?zqk4 ?zqk5 ?zqk6 ?zqk7 ?zqk8 ?zqk9 ?_; (case zqka => omega); (case zqkb => omega); ((case zqk1 => k_asm); (case zqk2 => k_asm); (case zqk3 => k_asm); (case zqk4 => k_asm); (case zqk5 => k_asm); (case zqk6 => first | exact rfl | assumption); (case zqk7 => first | exact True.intro | assumption); (case zqk8 => ktr_room); (case zqk9 => ktr_units))) | (refine' Mine.useB (Mine.c_ap _ _ _ ?zqka ?zqkb) ?zqk1 ?zqk2 ?zqk3 ?zqk4 ?zqk5 ?zqk6 ?zqk7 ?zqk8 ?zqk9 ?_; (case zqka => omega); (case zqkb => omega); ((case zqk1 => k_asm); (case zqk2 => k_asm); (case zqk3 => k_asm); (case zqk4 => k_asm); (case zqk5 => k_asm); (case zqk6 => first | exact rfl | assumption); (case zqk7 => first | exact True.intro | assumption); (case zqk8 => ktr_room); (case zqk9 => ktr_units)))); intro zzt8 zzh8 zztk8 zzF8 zzN8; (try k_sweep); (try k_fold))))
  (k_with "call ref" => ((k_here; (with_reducible show wpAny _ _ (call (Value.ref 129) [Value.bytes _ _, Value.bytes _ _]) _ _ _); k_dflt (refine' Mine.useB (Mine.c_way _ _ _ _ _ _) ?zqk1 ?zqk2 ?zqk3 ?zqk4 ?zqk5 ?zqk6 ?zqk7 ?zqk8 ?zqk9 ?_; ((case zqk1 => k_asm); (case zqk2 => k_asm); (case zqk3 => k_asm); (case zqk4 => k_asm); (case zqk5 => k_asm); (case zqk6 => first | exact rfl | assumption); (case zqk7 => first | exact True.intro | assumption); (case zqk8 => ktr_room); (case zqk9 => ktr_units))); intro zzt8 zzh8 zztk8 zzF8 zzN8; (try k_sweep); (try k_fold))))
  (k_with "eval ListComp" => ((k_here; k_dflt (refine Mine.comp_enter (by with_unfolding_all rfl) (by rfl) (by decide) ?_))))
  (k_with "exec For Name Call" => ((k_here; k_dflt (refine Mine.for_enter ?_))))
  (k_with "exec Assign" => ((k_here; (with_reducible show wpAny _ _ (exec (Stmt.Assign [Expr.Name _ _] _ _) _) _ _ _); refine wpAny_Assign_Name ?_)))
  (k_with "eval Name" => ((k_here; k_dflt (refine nameX_L (by k_asm) (by assumption) ?_))))
  (k_with "compareOp NotEq ref ref" => ((refine Mine.Halt.go ?_)))
  w_top off
  k_fill
  intro X
  unfold Mine.lawEnv
  dsimp only
  (repeat' (first | (k_unfold; (try dsimp only)) | (k_end; kc_close) | (dsimp only; walk1) | walk1 | (leave1; try dsimp only)))
  unfold Mine.Halt
  refine (Mine.ne_ints h1 h2 i1 i2 ?hu) _ w _ _ ?_
  case hu => ktr_units
  (repeat' (first | (k_unfold; (try dsimp only)) | (k_end; kc_close) | (dsimp only; walk1) | walk1 | (leave1; try dsimp only)))
  exact hret _
end
section
theorem Mine.law_kept (w : World) (p : Program) (loose : List Str) (mean : ExcName → Option Value) (mg mb : Str → Option Value) (base g : Heap) (L fa : PySem.Addr) (m : Str → Option Value) (s : Shared) (Q : Flow → Shared → Prop) (E : Value → Shared → Prop) (st : Stmt) (sc : Scope)
    (hst : (Mine.lawB w)[7]? = some st) (hsc : Mine.lawS w = some sc) (LF : Mine.LawF w p loose mean mg mb base g) (F : Fr g L s.heap m) (Dr Dw c5 : PySem.Addr) (us : List Value) (oW : Obj) (bs : List (PySem.Addr × Obj))
    (N : News g L s.heap ((230, tabObj #[rawInt 262, rawInt 42, .ref c5]) :: bs)) (hb3 : ∀ p ∈ bs, p.1 ≠ 230) (mW : (L + 1 + 1, oW) ∈ bs) (hW : oW.data = .cell (some (.ref Dw))) (hm : m (PySem.Str.ofString "row") = some (.ref Dr)) (W : Nat → Array UInt8) (T2 : Nat → Tok) (oR : Obj) (cR : Nat) (ns : List Int) (hi : IntsAre us ns) (h8 : ns.length = 8) (hr : Mine.Halt (∀ n ∈ ns, 0 ≤ n ∧ n < 8)) (mR : (Dr, oR) ∈ bs) (hoR : oR.cls = .type "list") (hdR : oR.data = .seq us.toArray cR) (mWl : (Dw, LCg.lst (Mine.waysL W T2)) ∈ bs)
    (hS : ∀ i, Mine.Small (W i)) (hF1 : ∀ i, Mine.FirstOk (W i)) (h168 : ∃ o, g.get? 168 = some o)
    (hret : Mine.Halt (∀ Dt vs c p3 h' tk', IntsAre vs (Mine.keptL W ns 8) → Fr g L h' (fun x => if x = PySem.Str.ofString "kept" then some (.ref Dt) else m x) → News g L h' ((Dt, ({ cls := .type "list", data := .seq vs.toArray c } : Obj)) :: (230, tabObj p3) :: bs) → Q .next { s with heap := h', toks := tk' })) :
    wpAny (model PySem.Challenge.rw_ij0209_01.row.prog w) (PySem.callerA.deeper (Mine.lawEnv sc L fa)) (exec st (Mine.lawEnv sc L fa)) Q E s := by
  obtain ⟨B, X, T, c1, c2, c3⟩ := LF
  obtain ⟨hh, gn, dr, tk, os⟩ := s
  dsimp only at F N hret
  unfold Mine.lawB at hst
  with_unfolding_all change some _ = _ at hst
  cases hst
  unfold Mine.lawS at hsc
  with_unfolding_all change some _ = _ at hsc
  cases hsc
  revert X
  k_with_none
  (k_with "call type:type" => ((k_here; (with_reducible show wpAny _ _ (call (Value.type "type") [Value.bytes _ _]) _ _ _); refine Mine.type_bytes ?_)))
  (k_with "call builtin:issubclass" => ((k_here; k_dflt (refine' Mine.issub_bytes ?zqk1 ?_; (case zqk1 => exact News.isTup (by k_asm) (by k_mem)); k_whole))))
  (k_with "getMethod bytes" => ((k_here; (with_reducible first | refine Mine.method_rfind ?_ | refine Mine.method_rstrip ?_ | refine Mine.method_starts ?_ | refine Mine.method_ends ?_))))
  (k_with "call builtin:bytes.rfind" => ((k_here; refine Mine.call_rfind ?_)))
  (k_with "call builtin:bytes.startswith" => ((k_here; refine Mine.call_starts ?_)))
  (k_with "call builtin:bytes.endswith" => ((k_here; refine Mine.call_ends ?_)))
  (k_with "call builtin:bytes.rstrip" => ((k_here; refine Mine.call_rstrip (by k_extra "kaf") ?_; intro zzt8 zzk8)))
  (k_with "subscriptTail" => ((k_here; (with_reducible show wpAny _ _ (subscriptTail _ (Expr.Slice _ _ none _) (Value.bytes _ _) (Value.ref _)) _ _ _); (with_reducible rename Fr _ _ _ _ => zzFq); (with_reducible rename News _ _ _ _ => zzNq); (refine Mine.slice_B (s := ⟨_, _, _, _, _⟩) zzFq zzNq (by constructor) (by constructor) (by k_extra "kaf") ?_); intro _ _ _ _ _; (try k_sweep))))
  (k_with "truthy bytes" => ((k_here; (refine Mine.truthy_B (by k_extra "kaf") ?_); intro _)))
  (k_with "call builtin:len" => ((k_here; (with_reducible show wpAny _ _ (call (Value.builtin "len") [Value.bytes _ _]) _ _ _); (refine Mine.len_B (by k_extra "kaf") ?_); intro _ _)))
  (k_with "binaryOp Mult bytes int" => ((k_here; (refine Mine.mul_B (by k_extra "kaf") ?_); intro _ _)))
  (k_with "exec While Name" => ((k_here; refine whl_start 5 ?_)))
  (k_with "WhlIf" => ((first | (refine WhlIf.yes (by with_unfolding_all rfl) ?_) | (refine WhlIf.no (by with_unfolding_all rfl) ?_) | (refine Mine.whl_split ?_ ?_ <;> intro zzhw8 <;> (first | done | (exfalso; (try simp only [bne_iff_ne, ne_eq, bne_eq_false_iff_eq, decide_eq_true_eq, decide_eq_false_iff_not] at *); omega) | skip)))))
  (k_with "binaryOp Add bytes bytes" => ((k_here; (refine Mine.add_B (by k_extra "kaf") ?_); intro _ _)))
  (k_with "kaf" => (first | (with_reducible assumption) | ((with_reducible refine Mine.sz_cut ?_); k_extra "kaf") | ((with_reducible refine Mine.small_rstrip ?_); k_extra "kaf") | ((with_reducible refine Mine.sz_app ?_ ?_) <;> k_extra "kaf") | exact Nat.le_of_ble_eq_true rfl | exact Nat.le_trans (by with_reducible assumption) (by decide) | assumption | ((try simp only [Mine.Small, Array.size_append, List.size_toArray, List.length_cons, List.length_nil] at *); omega)))
  (k_with "inplaceOp Add bytes bytes" => ((k_here; (refine Mine.iadd_B (by k_extra "kaf") ?_); intro _ _)))
  (k_with "WhlIf" => ((refine WhlIf.no (Mine.ap_three (by assumption) (by assumption)) ?_)))
  (k_with "kaf" => (first | (with_reducible assumption) | ((with_reducible refine Mine.sz_word ?_); exact Nat.le_of_ble_eq_true rfl) | ((with_reducible refine Mine.sz_frontB ?_); k_extra "kaf") | ((with_reducible refine Mine.sz_endB ?_); k_extra "kaf") | ((with_reducible refine Mine.sz_baseB ?_); k_extra "kaf") | ((with_reducible refine Mine.sz_dirB ?_); k_extra "kaf")))
  (k_with "compareOp Gt bytes bytes" => ((k_here; refine Mine.gt_bytes ?_)))
  (k_with "call ref" => ((k_here; (with_reducible show wpAny _ _ (call (Value.ref 188) [Value.ref _]) _ _ _); k_dflt (refine' Mine.useFiles (Mine.c_files _ _ _ _ (by assumption) ?zqk0) ?zqk1 ?zqk2 ?zqk3 ?zqk4 ?zqk5 ?zqk6 ?zqk7 ?zqk8 ?zqk9 ?_; (case zqk0 => omega); (case zqk1 => k_asm); (case zqk2 => k_asm); (case zqk3 => k_asm); (case zqk4 => k_asm); (case zqk5 => k_asm); (case zqk6 => exact rfl); (case zqk7 => exact Mine.isList_keeps (by assumption) (Fr.keep (by assumption))); (case zqk8 => ktr_room); (case zqk9 => ktr_units)); intro zzD8 zzys8 zzfs8 zznw8 zzh8 zztk8 zzF8 zzN8 zzhf8 zzhl8 zzhb8; (try simp only [List.cons_append, List.nil_append] at zzN8))))
  (k_with "call ref" => ((k_here; (with_reducible show wpAny _ _ (call (Value.ref 183) [Value.int _ _]) _ _ _); k_dflt (first | (refine' Mine.useB (Mine.c_apn _ _ _ ?zqka ?zqkb) ?zqk1 ?zqk2 ?zqk3 ?zqk4 ?zqk5 ?zqk6 ?zqk7 ?zqk8 ?zqk9 ?_; (case zqka => omega); (case zqkb => omega); ((case zqk1 => k_asm); (case zqk2 => k_asm); (case zqk3 => k_asm); (case zqk4 => k_asm); (case zqk5 => k_asm); (case zqk6 => first | exact rfl | assumption); (case zqk7 => first | exact True.intro | assumption); (case zqk8 => ktr_room); (case zqk9 => ktr_units))) | (refine' Mine.useB (Mine.c_ap _ _ _ ?zqka ?zqkb) ?zqk1 ?zqk2 ?zqk3 ?zqk4 ?zqk5 ?zqk6 ?zqk7 ?zqk8 ?zqk9 ?_; (case zqka => omega); (case zqkb => omega); ((case zqk1 => k_asm); (case zqk2 => k_asm); (case zqk3 => k_asm); (case zqk4 => k_asm); (case zqk5 => k_asm); (case zqk6 => first | exact rfl | assumption); (case zqk7 => first | exact True.intro | assumption); (case zqk8 => ktr_room); (case zqk9 => ktr_units)))); intro zzt8 zzh8 zztk8 zzF8 zzN8; (try k_sweep); (try k_fold))))
  (k_with "call ref" => ((k_here; (with_reducible show wpAny _ _ (call (Value.ref 129) [Value.bytes _ _, Value.bytes _ _]) _ _ _); k_dflt (refine' Mine.useB (Mine.c_way _ _ _ _ _ _) ?zqk1 ?zqk2 ?zqk3 ?zqk4 ?zqk5 ?zqk6 ?zqk7 ?zqk8 ?zqk9 ?_; ((case zqk1 => k_asm); (case zqk2 => k_asm); (case zqk3 => k_asm); (case zqk4 => k_asm); (case zqk5 => k_asm); (case zqk6 => first | exact rfl | assumption); (case zqk7 => first | exact True.intro | assumption); (case zqk8 => ktr_room); (case zqk9 => ktr_units))); intro zzt8 zzh8 zztk8 zzF8 zzN8; (try k_sweep); (try k_fold))))
  (k_with "eval ListComp" => ((k_here; k_dflt (refine Mine.comp_enter (by with_unfolding_all rfl) (by rfl) (by decide) ?_))))
  (k_with "exec For Name Call" => ((k_here; k_dflt (refine Mine.for_enter ?_))))
  (k_with "exec Assign" => ((k_here; (with_reducible show wpAny _ _ (exec (Stmt.Assign [Expr.Name _ _] _ _) _) _ _ _); refine wpAny_Assign_Name ?_)))
  (k_with "eval Name" => ((k_here; k_dflt (refine nameX_L (by k_asm) (by assumption) ?_))))
  (k_with "call ref" => ((k_here; (with_reducible show wpAny _ _ (call (Value.ref 176) _) _ _ _); refine Mine.Halt.go ?_)))
  (k_with "eval Lambda" => ((k_here; kn_here; k_dflt (refine' kla_eval ?zqd0 ?_; (case zqd0 => exact rfl)); (k_dflt (refine' kla_nest ?zqF ?zqN ?zqT ?zqC ?zqcd ?zqU ?zqt ?zqn ?zqcl ?_; (case zqF => k_asm); (case zqN => k_asm); (case zqT => k_asm); (case zqcd => exact rfl); (case zqC => kn_code); (case zqU => exact PySem.W.UpdF.head (by assumption)); (case zqt => kn_triples); (case zqn => kn_among); (case zqcl => exact rfl); k_whole); intro zzfq zzcq zzocq zzvsq zztq zzctq zzhq zztkq zzFq zzNq zzd1q zzd2q zzl1 zzl2; (try dsimp only at zzNq)))))
  w_top off
  k_fill
  intro X
  unfold Mine.lawEnv
  dsimp only
  (repeat' (first | (k_unfold; (try dsimp only)) | (k_end; kc_close) | (dsimp only; walk1) | walk1 | (leave1; try dsimp only)))
  unfold Mine.Halt
  (with_reducible rename News _ _ _ _ => N5)
  (with_reducible rename Fr _ _ _ _ => F5)
  (with_reducible rename (_ : Array Value)[1]? = _ => v5)
  have hLam := Mine.LamAt.mk (w := w) (a := 233) (i := 7) (cl := [(PySem.Str.ofString "ways", L + 1 + 1)]) ⟨_, _, _, _, _, _, _, (by unfold Mine.ltx; with_unfolding_all rfl), (N5 _ (.tail _ (.head _))).1, codeRec_news N5 (.tail _ (.tail _ (.head _))) (by assumption) v5⟩
  have hWays : Mine.WaysAt _ (L + 1 + 1) W T2 := ⟨oW, Dw, (N5 _ (.tail _ (.tail _ (.tail _ (.tail _ mW))))).1, hW, ⟨_, (N5 _ (.tail _ (.tail _ (.tail _ (.tail _ mWl))))).1, rfl, _, rfl⟩⟩
  have hRow := (N5 _ (.tail _ (.tail _ (.tail _ (.tail _ mR))))).1
  have h0 := (N5 _ (.head _))
  obtain ⟨o8, e8⟩ := h168
  refine Mine.use (Mine.c_rkept w W T2 hS hF1 _ (L + 1 + 1) Dr _ us ns hi h8 hr (fun q => by have := h0.2.2; rw [show (168 : PySem.Addr) = _ from q.symm] at e8; rw [e8] at this; cases this)) (by assumption) F5 (by assumption) N5 (by assumption) rfl ⟨hLam, hWays, ⟨_, hRow, hoR, _, hdR⟩, ⟨_, h0.1, rfl, _, rfl⟩, o8, F5.keep _ _ e8⟩ ?r1 ?r2 fun v h' tk' F9 N9 st sz r => ?_
  case r1 => ktr_room
  case r2 => ktr_units
  obtain ⟨Dt, vs, c, rfl, hD0, hD1, hI⟩ := r
  dsimp only
  refine wpAny_storeName_local rfl F9.ns fun h2 hn hs => ?_
  have hDL : Dt ≠ L := fun q => by
    obtain ⟨oL, _, _, hL, _⟩ := F5.ns
    rw [q] at hD0
    have hL' := hL
    rw [hD0] at hL'; cases hL'
  have hgD : g.get? Dt = none := by
    cases z : g.get? Dt with
    | none => rfl
    | some o => have := F5.keep _ _ z; rw [hD0] at this; cases this
  obtain ⟨p3, e3⟩ : ∃ p3, h'.get? 230 = some (tabObj p3) ∧ (230 : Nat) ≠ L ∧ g.get? 230 = none := ⟨_, N9 _ (.tail _ (.tail _ (.tail _ (.head _))))⟩
  refine hret Dt vs c p3 h2 _ hI (F9.set hn hs) (fun q hq => ?_)
  rcases List.mem_cons.mp hq with rfl | hq
  · exact ⟨hs.extBut _ _ hDL hD1, hDL, hgD⟩
  rcases List.mem_cons.mp hq with rfl | hq
  · exact ⟨hs.extBut _ _ e3.2.1 e3.1, e3.2⟩
  · have z := N9 _ (.tail _ (.tail _ (.tail _ (.tail _ hq))))
    exact ⟨hs.extBut _ _ z.2.1 z.1, z.2⟩
end
section
namespace Mine
theorem Halt.mk {p : Prop} (h : p) : Halt p := h
/- The last ones of the first i places. -/
noncomputable def LastOf (fs : List FT) (i : Nat) (ys : List Value) : Prop := IntsAre ys ((((List.range i).map (plcR fs)).filter (endR fs)).map fun (i : Nat) => (i : Int))
theorem LastOf.nil {fs : List FT} : LastOf fs 0 [] := IntsAre.nil
theorem LastOf.yes {fs : List FT} {n : Nat} {ys : List Value} {t : Tok} (h : LastOf fs n ys) (hp : endR fs (plcR fs n) = true) : LastOf fs (n + 1) (ys ++ [.int (plcR fs n : Int) t]) := by
  unfold LastOf at *
  rw [List.range_succ, List.map_append, List.filter_append, List.map_append]
  simp only [List.map_cons, List.map_nil, List.filter_cons, hp, if_true, List.filter_nil]
  exact ksk_snoc h
theorem LastOf.no {fs : List FT} {n : Nat} {ys : List Value} (h : LastOf fs n ys) (hp : endR fs (plcR fs n) = false) : LastOf fs (n + 1) ys := by
  unfold LastOf at *
  rw [List.range_succ, List.map_append, List.filter_append, List.map_append]
  simp only [List.map_cons, List.map_nil, List.filter_cons, hp, Bool.false_eq_true, if_false, List.filter_nil, List.append_nil]
  exact h
end Mine
theorem Mine.law_ret (w : World) (p : Program) (loose : List Str) (mean : ExcName → Option Value) (mg mb : Str → Option Value) (base g : Heap) (L fa : PySem.Addr) (m : Str → Option Value) (s : Shared) (Q : Flow → Shared → Prop) (E : Value → Shared → Prop) (st : Stmt) (sc : Scope)
    (hst : (Mine.lawB w)[8]? = some st) (hsc : Mine.lawS w = some sc) (LF : Mine.LawF w p loose mean mg mb base g) (F : Fr g L s.heap m) (Dk Dp Dt : PySem.Addr) (rs ps ks : List Value) (fs : List Mine.FT) (oK oP oT : Obj) (cP cT : Nat) (bs : List (PySem.Addr × Obj))
    (N : News g L s.heap bs) (mK : (L + 1, oK) ∈ bs) (hK : oK.data = .cell (some (.ref Dk))) (mR : (Dk, LCg.lst rs) ∈ bs) (hR : Mine.RanksIn bs rs fs 8)
    (mP : (Dp, LCg.lst ps) ∈ bs) (hP : Mine.IntsOf (fun k => (Mine.plcR fs k : Int)) 8 ps) (hm1 : m (PySem.Str.ofString "places") = some (.ref Dp)) (hp8 : ∀ k, k < 8 → Mine.plcR fs k < 8)
    (mT : (Dt, oT) ∈ bs) (hoT : oT.cls = .type "list") (hdT : oT.data = .seq ks.toArray cT) (hm2 : m (PySem.Str.ofString "kept") = some (.ref Dt)) (hT : IntsAre ks ((((List.range 8).map (Mine.plcR fs)).filter (Mine.endR fs)).map fun (i : Nat) => (i : Int)))
    (hret : ∀ h' tk', Fr g L h' m → News g L h' bs → Q (.ret (.bool true)) { s with heap := h', toks := tk' }) :
    wpAny (model PySem.Challenge.rw_ij0209_01.row.prog w) (PySem.callerA.deeper (Mine.lawEnv sc L fa)) (exec st (Mine.lawEnv sc L fa)) Q E s := by
  obtain ⟨B, X, T, c1, c2, c3⟩ := LF
  obtain ⟨hh, gn, dr, tk, os⟩ := s
  dsimp only at F N hret
  unfold Mine.lawB at hst
  with_unfolding_all change some _ = _ at hst
  cases hst
  unfold Mine.lawS at hsc
  with_unfolding_all change some _ = _ at hsc
  cases hsc
  revert X
  k_with_none
  (k_with "call type:type" => ((k_here; (with_reducible show wpAny _ _ (call (Value.type "type") [Value.bytes _ _]) _ _ _); refine Mine.type_bytes ?_)))
  (k_with "call builtin:issubclass" => ((k_here; k_dflt (refine' Mine.issub_bytes ?zqk1 ?_; (case zqk1 => exact News.isTup (by k_asm) (by k_mem)); k_whole))))
  (k_with "getMethod bytes" => ((k_here; (with_reducible first | refine Mine.method_rfind ?_ | refine Mine.method_rstrip ?_ | refine Mine.method_starts ?_ | refine Mine.method_ends ?_))))
  (k_with "call builtin:bytes.rfind" => ((k_here; refine Mine.call_rfind ?_)))
  (k_with "call builtin:bytes.startswith" => ((k_here; refine Mine.call_starts ?_)))
  (k_with "call builtin:bytes.endswith" => ((k_here; refine Mine.call_ends ?_)))
  (k_with "call builtin:bytes.rstrip" => ((k_here; refine Mine.call_rstrip (by k_extra "kaf") ?_; intro zzt8 zzk8)))
  (k_with "subscriptTail" => ((k_here; (with_reducible show wpAny _ _ (subscriptTail _ (Expr.Slice _ _ none _) (Value.bytes _ _) (Value.ref _)) _ _ _); (with_reducible rename Fr _ _ _ _ => zzFq); (with_reducible rename News _ _ _ _ => zzNq); (refine Mine.slice_B (s := ⟨_, _, _, _, _⟩) zzFq zzNq (by constructor) (by constructor) (by k_extra "kaf") ?_); intro _ _ _ _ _; (try k_sweep))))
  (k_with "truthy bytes" => ((k_here; (refine Mine.truthy_B (by k_extra "kaf") ?_); intro _)))
  (k_with "call builtin:len" => ((k_here; (with_reducible show wpAny _ _ (call (Value.builtin "len") [Value.bytes _ _]) _ _ _); (refine Mine.len_B (by k_extra "kaf") ?_); intro _ _)))
  (k_with "binaryOp Mult bytes int" => ((k_here; (refine Mine.mul_B (by k_extra "kaf") ?_); intro _ _)))
  (k_with "exec While Name" => ((k_here; refine whl_start 5 ?_)))
  (k_with "WhlIf" => ((first | (refine WhlIf.yes (by with_unfolding_all rfl) ?_) | (refine WhlIf.no (by with_unfolding_all rfl) ?_) | (refine Mine.whl_split ?_ ?_ <;> intro zzhw8 <;> (first | done | (exfalso; (try simp only [bne_iff_ne, ne_eq, bne_eq_false_iff_eq, decide_eq_true_eq, decide_eq_false_iff_not] at *); omega) | skip)))))
  (k_with "binaryOp Add bytes bytes" => ((k_here; (refine Mine.add_B (by k_extra "kaf") ?_); intro _ _)))
  (k_with "kaf" => (first | (with_reducible assumption) | ((with_reducible refine Mine.sz_cut ?_); k_extra "kaf") | ((with_reducible refine Mine.small_rstrip ?_); k_extra "kaf") | ((with_reducible refine Mine.sz_app ?_ ?_) <;> k_extra "kaf") | exact Nat.le_of_ble_eq_true rfl | exact Nat.le_trans (by with_reducible assumption) (by decide) | assumption | ((try simp only [Mine.Small, Array.size_append, List.size_toArray, List.length_cons, List.length_nil] at *); omega)))
  (k_with "inplaceOp Add bytes bytes" => ((k_here; (refine Mine.iadd_B (by k_extra "kaf") ?_); intro _ _)))
  (k_with "WhlIf" => ((refine WhlIf.no (Mine.ap_three (by assumption) (by assumption)) ?_)))
  (k_with "kaf" => (first | (with_reducible assumption) | ((with_reducible refine Mine.sz_word ?_); exact Nat.le_of_ble_eq_true rfl) | ((with_reducible refine Mine.sz_frontB ?_); k_extra "kaf") | ((with_reducible refine Mine.sz_endB ?_); k_extra "kaf") | ((with_reducible refine Mine.sz_baseB ?_); k_extra "kaf") | ((with_reducible refine Mine.sz_dirB ?_); k_extra "kaf")))
  (k_with "compareOp Gt bytes bytes" => ((k_here; refine Mine.gt_bytes ?_)))
  (k_with "call ref" => ((k_here; (with_reducible show wpAny _ _ (call (Value.ref 188) [Value.ref _]) _ _ _); k_dflt (refine' Mine.useFiles (Mine.c_files _ _ _ _ (by assumption) ?zqk0) ?zqk1 ?zqk2 ?zqk3 ?zqk4 ?zqk5 ?zqk6 ?zqk7 ?zqk8 ?zqk9 ?_; (case zqk0 => omega); (case zqk1 => k_asm); (case zqk2 => k_asm); (case zqk3 => k_asm); (case zqk4 => k_asm); (case zqk5 => k_asm); (case zqk6 => exact rfl); (case zqk7 => exact Mine.isList_keeps (by assumption) (Fr.keep (by assumption))); (case zqk8 => ktr_room); (case zqk9 => ktr_units)); intro zzD8 zzys8 zzfs8 zznw8 zzh8 zztk8 zzF8 zzN8 zzhf8 zzhl8 zzhb8; (try simp only [List.cons_append, List.nil_append] at zzN8))))
  (k_with "call ref" => ((k_here; (with_reducible show wpAny _ _ (call (Value.ref 183) [Value.int _ _]) _ _ _); k_dflt (first | (refine' Mine.useB (Mine.c_apn _ _ _ ?zqka ?zqkb) ?zqk1 ?zqk2 ?zqk3 ?zqk4 ?zqk5 ?zqk6 ?zqk7 ?zqk8 ?zqk9 ?_; (case zqka => omega); (case zqkb => omega); ((case zqk1 => k_asm); (case zqk2 => k_asm); (case zqk3 => k_asm); (case zqk4 => k_asm); (case zqk5 => k_asm); (case zqk6 => first | exact rfl | assumption); (case zqk7 => first | exact True.intro | assumption); (case zqk8 => ktr_room); (case zqk9 => ktr_units))) | (refine' Mine.useB (Mine.c_ap _ _ _ ?zqka ?zqkb) ?zqk1 ?zqk2 ?zqk3 ?zqk4 ?zqk5 ?zqk6 ?zqk7 ?zqk8 ?zqk9 ?_; (case zqka => omega); (case zqkb => omega); ((case zqk1 => k_asm); (case zqk2 => k_asm); (case zqk3 => k_asm); (case zqk4 => k_asm); (case zqk5 => k_asm); (case zqk6 => first | exact rfl | assumption); (case zqk7 => first | exact True.intro | assumption); (case zqk8 => ktr_room); (case zqk9 => ktr_units)))); intro zzt8 zzh8 zztk8 zzF8 zzN8; (try k_sweep); (try k_fold))))
  (k_with "call ref" => ((k_here; (with_reducible show wpAny _ _ (call (Value.ref 129) [Value.bytes _ _, Value.bytes _ _]) _ _ _); k_dflt (refine' Mine.useB (Mine.c_way _ _ _ _ _ _) ?zqk1 ?zqk2 ?zqk3 ?zqk4 ?zqk5 ?zqk6 ?zqk7 ?zqk8 ?zqk9 ?_; ((case zqk1 => k_asm); (case zqk2 => k_asm); (case zqk3 => k_asm); (case zqk4 => k_asm); (case zqk5 => k_asm); (case zqk6 => first | exact rfl | assumption); (case zqk7 => first | exact True.intro | assumption); (case zqk8 => ktr_room); (case zqk9 => ktr_units))); intro zzt8 zzh8 zztk8 zzF8 zzN8; (try k_sweep); (try k_fold))))
  (k_with "eval ListComp" => ((k_here; k_dflt (refine Mine.comp_enter (by with_unfolding_all rfl) (by rfl) (by decide) ?_))))
  (k_with "exec For Name Call" => ((k_here; k_dflt (refine Mine.for_enter ?_))))
  (k_with "exec Assign" => ((k_here; (with_reducible show wpAny _ _ (exec (Stmt.Assign [Expr.Name _ _] _ _) _) _ _ _); refine wpAny_Assign_Name ?_)))
  (k_with "eval Name" => ((k_here; k_dflt (refine nameX_L (by k_asm) (by assumption) ?_))))
  (k_with "eval Name" => ((k_here; (with_reducible show wpAny _ _ (eval (Expr.Name _ _) (compEnvC _ _ _ _)) _ _ _); k_dflt (refine' lcf_cell ?zqN ?zqc ?zqm ?zqd ?_ ?zqa ?zqb; (case zqa => rfl); (case zqb => rfl); (case zqN => k_asm); (case zqc => rfl); (case zqm => first | k_mem | (repeat (first | assumption | apply List.mem_cons_of_mem))); (case zqd => assumption); k_whole))))
  (k_with "subscriptTail" => ((k_here; (with_reducible show wpAny _ _ (subscriptTail _ _ (Value.ref _) (Value.int _ _)) _ _ _); k_dflt (refine Mine.item_news (by k_asm) (by repeat (first | assumption | apply List.mem_cons_of_mem)) rfl rfl (by assumption) (by assumption) ?_))))
  (k_with "subscriptTail" => ((k_here; (with_reducible show wpAny _ _ (subscriptTail _ (Expr.Slice _ _ _ _) (Value.ref _) (Value.ref _)) _ _ _); (with_reducible rename Fr _ _ _ _ => zzFq); (with_reducible rename News _ _ _ _ => zzNq); (refine Mine.slice_tup_to (a := 4) (s := ⟨_, _, _, _, _⟩) zzFq zzNq (by repeat (first | assumption | apply List.mem_cons_of_mem)) (by assumption) (by rw [Mine.rankL_len]; decide) (by rw [Mine.rankL_len]; decide) ?_); intro zzh8 zzD8 zzu8 zzi8 zzF8 zzN8; (try k_sweep))))
  (k_with "compareOp Gt ref ref" => ((refine Mine.Halt.go ?_)))
  (k_with "compareOp Eq ref ref" => ((refine Mine.Halt.go ?_)))
  w_top off
  k_fill
  intro X
  unfold Mine.lawEnv
  dsimp only
  have hret := Mine.Halt.mk hret
  have hp8 := Mine.Halt.mk hp8
  have hR := Mine.Halt.mk hR
  (repeat' (first | (k_unfold; (try dsimp only)) | (k_end; kc_close) | (dsimp only; walk1) | walk1 | (leave1; try dsimp only)))
  (with_reducible rename News _ _ _ _ => N2)
  (with_reducible rename Fr _ _ _ _ => F2)
  unfold Mine.Stop
  have hpl : ps.length = 8 := by rw [IntsAre.length hP, List.length_map, List.length_range]
  refine Mine.comp_cellN rfl (by decide) (by decide) rfl (Mine.src_list (vs := ps) rfl (by rw [hpl]; exact Nat.le_of_ble_eq_true rfl) F2 N2 mP rfl rfl) (fun i ys' => Mine.LastOf fs i ys') Mine.LastOf.nil ?turn (Mine.finN ?fin)
  case turn =>
    intro C X1 I D i v ys oI oC oX m₂ h4 tk4 E' hlt hv hG hoC hX F4 N4
    refine Mine.ifs_one ?_
    clear F2 N2
    obtain ⟨n, t1, rfl, hn⟩ := IntsAre.at hP i v hv
    rw [hpl] at hlt
    obtain ⟨q, hq, hq8, rfl⟩ : ∃ q, q = Mine.plcR fs i ∧ q < 8 ∧ n = (q : Int) := ⟨_, rfl, hp8.go i hlt, by rw [List.getElem?_map, List.getElem?_range hlt] at hn; exact (Option.some.inj hn).symm⟩
    (repeat' (first | (k_unfold; (try dsimp only)) | (k_end; kc_close) | (dsimp only; walk1) | walk1 | (leave1; try dsimp only)))
    (with_reducible rename News _ _ _ _ => N5)
    (with_reducible rename Fr _ _ _ _ => F5)
    (with_reducible rename PySem.IsRange _ _ _ _ _ _ _ _ => hr5)
    unfold Mine.Stop
    refine Mine.comp_freeN (by decide) rfl (Mine.src_range (n := 8) rfl (Nat.le_of_ble_eq_true rfl) F5 N5 hr5 (by decide) (by decide)) (fun _ v m => m (PySem.Str.ofString "p") = some v) (Mine.bind_name rfl rfl) (fun j ys' => Mine.FiltOf (Mine.lateR fs q) j ys') .nil ?turn2 (Mine.finN ?fin2)
    case turn2 =>
      intro C3 I3 D3 a v3 ys3 oI3 oC3 m₄ h8 tk8 E3 hlt3 hv3 hG3 hoC3 hm3 F8 N8
      obtain ⟨t3, rfl⟩ := hv3
      rw [Int.zero_add] at hm3
      refine Mine.ifs_one ?_
      clear F5 N5 hr5
      obtain ⟨va, ea⟩ : ∃ v, rs[a]? = some v := ⟨_, List.getElem?_eq_getElem (by rw [hR.go.1]; exact hlt3)⟩
      obtain ⟨vq, eq⟩ : ∃ v, rs[q]? = some v := ⟨_, List.getElem?_eq_getElem (by rw [hR.go.1]; exact hq8)⟩
      obtain ⟨xa, fa1, Ta, ua, ca, rfl, ma, ia⟩ := hR.go.2 a va ea
      obtain ⟨xq, fq1, Tq, uq, cq, rfl, mq, iq⟩ := hR.go.2 q vq eq
      (repeat' (first | (k_unfold; (try dsimp only)) | (k_end; kc_close) | (dsimp only; walk1) | walk1 | (leave1; try dsimp only)))
      unfold Mine.Halt
      (with_reducible rename News _ _ _ _ => N9)
      (with_reducible rename Fr _ _ _ _ => F9)
      have z1 := (N9 _ (.tail _ (.head _))).1
      have z2 := (N9 _ (.head _)).1
      refine Mine.eq_tup_ints z1 z2 (by assumption) (by assumption) (by rw [List.length_take, List.length_take, Mine.rankL_len, Mine.rankL_len]) ?hu ?_
      case hu => ktr_units
      clear z1 z2
      have hlate : Mine.lateR fs q a = ((List.take 4 (Mine.rankL xa.1 xa.2.1 xa.2.2) == List.take 4 (Mine.rankL xq.1 xq.2.1 xq.2.2)) && Mine.ltR fs q a) := by
        unfold Mine.lateR
        rw [Mine.rkF_at fa1, Mine.rkF_at fq1]
      cases hb : (List.take 4 (Mine.rankL xa.1 xa.2.1 xa.2.2) == List.take 4 (Mine.rankL xq.1 xq.2.1 xq.2.2))
      · rw [hb, Bool.false_and] at hlate
        (repeat' (first | (k_unfold; (try dsimp only)) | (k_end; kc_close) | (dsimp only; walk1) | walk1 | (leave1; try dsimp only)))
        exact Mine.NEnd.intro (by assumption) (by assumption) (fun p hp => .tail _ (.tail _ hp)) (hG3.no hlate)
      · rw [hb, Bool.true_and] at hlate
        (repeat' (first | (k_unfold; (try dsimp only)) | (k_end; kc_close) | (dsimp only; walk1) | walk1 | (leave1; try dsimp only)))
        unfold Mine.Halt
        (with_reducible rename News _ _ _ _ => N10)
        (with_reducible rename Fr _ _ _ _ => F10)
        refine (Mine.pair_gt (N10 _ (.tail _ (.head _))).1 (N10 _ (.head _)).1 (N10 _ (by repeat (first | exact ma | apply List.mem_cons_of_mem))).1 (N10 _ (by repeat (first | exact mq | apply List.mem_cons_of_mem))).1 ia iq (by rw [Mine.rankL_len, Mine.rankL_len]) ?hu2) _ w _ _ ?_
        case hu2 => ktr_units
        rw [Mine.ltR_at fq1 fa1]
        cases h9 : Mine.ltR fs q a
        · rw [h9] at hlate
          (repeat' (first | (k_unfold; (try dsimp only)) | (k_end; kc_close) | (dsimp only; walk1) | walk1 | (leave1; try dsimp only)))
          exact Mine.NEnd.intro (by assumption) (by assumption) (fun p hp => .tail _ (.tail _ (.tail _ (.tail _ hp)))) (hG3.no hlate)
        · rw [h9] at hlate
          (repeat' (first | (k_unfold; (try dsimp only)) | (k_end; kc_close) | (dsimp only; walk1) | walk1 | (leave1; try dsimp only)))
          exact Mine.NEnd.intro (by assumption) (by assumption) (fun p hp => .tail _ (.tail _ (.tail _ (.tail _ hp)))) (hG3.yes hlate)
    case fin2 =>
      intro D3 h8 tk8 ys3 hG3 F8 N8
      clear F5 N5 hr5
      (repeat' (first | (k_unfold; (try dsimp only)) | (k_end; kc_close) | (dsimp only; walk1) | walk1 | (leave1; try dsimp only)))
      unfold Mine.Halt
      (with_reducible rename News _ _ _ _ => N10)
      refine Mine.eq_ints (vs2 := []) (ns2 := []) ⟨_, (N10 _ (.tail _ (.head _))).1, rfl, _, rfl⟩ ⟨_, (N10 _ (.head _)).1, rfl, _, rfl⟩ hG3 .nil ?hu3 ?_
      case hu3 => ktr_units
      have he : Mine.endR fs q = (List.map (fun (i : Nat) => (i : Int)) (List.filter (Mine.lateR fs q) (List.range 8)) == []) := rfl
      rw [← he]
      cases h10 : Mine.endR fs q
      · rw [hq] at h10
        (repeat' (first | (k_unfold; (try dsimp only)) | (k_end; kc_close) | (dsimp only; walk1) | walk1 | (leave1; try dsimp only)))
        exact Mine.NEnd.intro (by assumption) (by assumption) (fun p hp => .tail _ (.tail _ hp)) (hG.no h10)
      · have h11 := h10
        rw [hq] at h11
        (repeat' (first | (k_unfold; (try dsimp only)) | (k_end; kc_close) | (dsimp only; walk1) | walk1 | (leave1; try dsimp only)))
        have hG2 := hG.yes (t := t1) h11
        rw [← hq] at hG2
        exact Mine.NEnd.intro (by assumption) (by assumption) (fun p hp => .tail _ (.tail _ hp)) hG2
  case fin =>
    intro D3 h8 tk8 ys3 hG3 F8 N8
    clear F2 N2
    rw [hpl] at hG3
    (repeat' (first | (k_unfold; (try dsimp only)) | (k_end; kc_close) | (dsimp only; walk1) | walk1 | (leave1; try dsimp only)))
    unfold Mine.Halt
    refine Mine.eq_ints ⟨_, (N8 _ (.tail _ mT)).1, hoT, _, hdT⟩ ⟨_, (N8 _ (.head _)).1, rfl, _, rfl⟩ hT hG3 ?hu4 ?_
    case hu4 => ktr_units
    rw [beq_self_eq_true]
    (repeat' (first | (k_unfold; (try dsimp only)) | (k_end; kc_close) | (dsimp only; walk1) | walk1 | (leave1; try dsimp only)))
    exact hret.go _ _ F8 (fun q hq => N8 q (.tail _ hq))
end
end
section
namespace Mine
open PySem.Calls PySem.Spec LCg
theorem nine {α : Type} {l : List α} (h : l.length = 9) : ∃ a0 a1 a2 a3 a4 a5 a6 a7 a8, l = [a0, a1, a2, a3, a4, a5, a6, a7, a8] := by
  match l, h with
  | [a0, a1, a2, a3, a4, a5, a6, a7, a8], _ => exact ⟨a0, a1, a2, a3, a4, a5, a6, a7, a8, rfl⟩
theorem lawB_nine (w : World) : (lawB w).length = 9 := by unfold lawB; with_unfolding_all rfl
theorem cb {α : Type} {P : α → Prop} {a : α} {l : List α} (h : P a) (hl : ∀ p ∈ l, P p) : ∀ p ∈ a :: l, P p := fun p hp => (List.mem_cons.mp hp).elim (fun e => e ▸ h) (hl p)
theorem news_sub {g h : Heap} {L : Addr} {l l' : List (Addr × Obj)} (N : News g L h l) (hs : ∀ p ∈ l', p ∈ l) : News g L h l' := fun p hp => N p (hs p hp)
/- A list, a tuple or a cell. -/
noncomputable def Data1 (o : Obj) : Prop := (∃ vs c, o.data = .seq vs c) ∨ ∃ v, o.data = .cell v
theorem off_tab {g h : Heap} {L a : Addr} {ps : Array Value} {news bs : List (Addr × Obj)} (N : News g L h news) (ht : (a, tabObj ps) ∈ news) (hs : ∀ p ∈ bs, p ∈ news ∧ Data1 p.2) : ∀ p ∈ bs, p.1 ≠ a := fun p hp e => by
  obtain ⟨hm, hd⟩ := hs p hp
  have z := (N _ hm).1
  rw [e, (N _ ht).1] at z
  rw [← Option.some.inj z] at hd
  rcases hd with ⟨_, _, e1⟩ | ⟨_, e1⟩ <;> cases e1
theorem TabT.one {g : Heap} {ps₀ : Array Value} {tl : List (Addr × Obj)} (x : TabT g ps₀ tl) : ∃ ps, (195, tabObj ps) ∈ tl := by
  cases x with
  | empty => exact ⟨_, .head _⟩
  | full y => cases y with
    | made _ _ => exact ⟨_, .head _⟩
    | old _ _ _ _ => exact ⟨_, .head _⟩
theorem RanksIn.mono {nw nw' : List (Addr × Obj)} {ys : List Value} {fs : List FT} {i : Nat} (h : RanksIn nw ys fs i) (hs : ∀ p ∈ nw, p ∈ nw') : RanksIn nw' ys fs i := by
  obtain ⟨hl, ha⟩ := h
  refine ⟨hl, fun j v hv => ?_⟩
  obtain ⟨x, h1, T, vs, c, e1, h2, h3⟩ := ha j v hv
  exact ⟨x, h1, T, vs, c, e1, hs _ h2, h3⟩
theorem plc_rng {fs : List FT} (hok : ∀ t ∈ fs, FileOk t) : ∀ k, k < 8 → plcR fs k < 8 := fun k hk => by
  have hne := (plain_law hok).1 k hk
  unfold plcR
  cases e : (List.range 8).filter fun q => cntR fs q == k with
  | nil => exact absurd e hne
  | cons q r =>
    have : q ∈ (List.range 8).filter fun q => cntR fs q == k := by rw [e]; exact List.mem_cons_self
    exact List.mem_range.mp (List.mem_filter.mp this).1
theorem law_body (w : World) (p : Program) (loose : List Str) (mean : ExcName → Option Value) (mg mb : Str → Option Value) (base g : Heap) (L fa : PySem.Addr) (m : Str → Option Value) (s : Shared) (Q : Flow → Shared → Prop) (E : Value → Shared → Prop) (sc : Scope)
    (hsc : lawS w = some sc) (LF : LawF w p loose mean mg mb base g) (F : Fr g L s.heap m) (ls : PySem.Addr) (vs : List Value) (ns : List Int)
    (hi : IntsAre vs ns) (hlen : ns.length ≤ 1048576) (hls : g.IsList ls vs.toArray) (hm : m (PySem.Str.ofString "script") = some (.ref ls)) (oA oB : Obj) (vA vB : Option Value)
    (N : News g L s.heap [(L + 1 + 1, oA), (L + 1, oB), (195, tabObj #[]), (162, tabObj #[]), (230, tabObj #[])]) (hA : oA.data = .cell vA) (hB : oB.data = .cell vB)
    (hsm : ∃ o, g.get? PySem.sysModules = some o) (h168 : ∃ o, g.get? 168 = some o)
    (hret : ∀ h' tk' m' p1 p2 p3, Fr g L h' m' → h'.get? 195 = some (tabObj p1) → h'.get? 162 = some (tabObj p2) → h'.get? 230 = some (tabObj p3) → Q (.ret (.bool true)) { s with heap := h', toks := tk' }) :
    wpAny (model PySem.Challenge.rw_ij0209_01.row.prog w) (PySem.callerA.deeper (lawEnv sc L fa)) (execs (lawB w) (lawEnv sc L fa)) Q E s := by
  obtain ⟨a0, a1, a2, a3, a4, a5, a6, a7, a8, hl⟩ := nine (lawB_nine w)
  rw [hl]
  refine wpAny_execs_cons (law_files w p loose mean mg mb base g L fa m s _ E a0 sc (by rw [hl]; rfl) hsc LF F ls vs ns _ hi hlen hls hm N (Halt.mk fun D ys fs nw₀ h1 tk1 hf₀ h8 hok F1 N1 => ?_))
  obtain ⟨nw, hnw, hsq, hf⟩ := files_seq hf₀
  have Q1 : News g L h1 ((D, lst ys) :: (L + 1 + 1, oA) :: (L + 1, oB) :: (195, tabObj #[]) :: (162, tabObj #[]) :: (230, tabObj #[]) :: nw) := by
    refine news_sub N1 ?_
    (repeat (refine cb (by k_mem) ?_))
    exact fun p hp => by
      have := hnw p hp
      repeat (first | exact this | refine List.Mem.tail _ ?_)
  clear N1
  obtain ⟨PL1, PL2, PL3⟩ := plain_law hok
  have hpr := plc_rng hok
  generalize hW : (fun i => wayF (fs.getD i (0, 0, 0))) = W at *
  show wpAny _ _ (execs _ _) _ _ _
  refine wpAny_execs_cons (law_ways w p loose mean mg mb base g L fa _ _ _ E a1 sc (by rw [hl]; rfl) hsc LF F1 D ys fs oA oB vA vB nw Q1 hA hB (if_pos rfl) hf h8 hok hsq (fun Dw T2 oA' h2 tk2 hA' F2 N2 => ?_))
  rw [hW] at N2
  have hsq1 : ∀ p ∈ nw, Data1 p.2 := fun p hp => .inl (hsq p hp)
  have dA' : Data1 oA' := .inr ⟨_, hA'⟩
  have dB : Data1 oB := .inr ⟨_, hB⟩
  have dl : ∀ us, Data1 (lst us) := fun us => .inl ⟨_, _, rfl⟩
  have core : ∀ p ∈ (L + 1 + 1, oA') :: (Dw, lst (waysL W T2)) :: (D, lst ys) :: (L + 1, oB) :: nw, Data1 p.2 := cb dA' (cb (dl _) (cb (dl _) (cb dB hsq1)))
  have S2 : ∀ p ∈ (L + 1 + 1, oA') :: (Dw, lst (waysL W T2)) :: (D, lst ys) :: (L + 1, oB) :: nw, p ∈ (L + 1 + 1, oA') :: (Dw, lst (waysL W T2)) :: (D, lst ys) :: (L + 1, oB) :: (195, tabObj #[]) :: (162, tabObj #[]) :: (230, tabObj #[]) :: nw := (by (repeat (refine cb (by k_mem) ?_)); exact fun p hp => by repeat (first | exact hp | refine List.Mem.tail _ ?_))
  have S2' : ∀ p ∈ ((230, tabObj #[]) :: (162, tabObj #[]) :: (L + 1 + 1, oA') :: (Dw, lst (waysL W T2)) :: (D, lst ys) :: (L + 1, oB) :: nw) ++ [(195, tabObj #[])], p ∈ (L + 1 + 1, oA') :: (Dw, lst (waysL W T2)) :: (D, lst ys) :: (L + 1, oB) :: (195, tabObj #[]) :: (162, tabObj #[]) :: (230, tabObj #[]) :: nw := fun p hp => by
    rcases List.mem_append.mp hp with hp | hp
    · exact cb (P := (· ∈ _)) (by k_mem) (cb (by k_mem) S2) p hp
    · rw [List.mem_singleton.mp hp]; k_mem
  have o195 := off_tab (a := 195) (ps := #[]) N2 (by k_mem) fun p hp => ⟨S2 p hp, core p hp⟩
  show wpAny _ _ (execs _ _) _ _ _
  refine wpAny_execs_cons (law_for w p loose mean mg mb base g L fa _ _ _ E a2 sc (by rw [hl]; rfl) hsc LF F2 D Dw ys fs oA' T2
    ((230, tabObj #[]) :: (162, tabObj #[]) :: (L + 1 + 1, oA') :: (Dw, lst (waysL W T2)) :: (D, lst ys) :: (L + 1, oB) :: nw)
    (news_sub N2 S2') (cb (by exact (by decide : (230 : Nat) ≠ 195)) (cb (by exact (by decide : (162 : Nat) ≠ 195)) o195)) (by k_mem) (by k_mem) hA' (by rw [hW]; k_mem) (hf.mono fun p hp => by repeat (first | exact hp | refine List.Mem.tail _ ?_)) h8 hok (if_pos rfl) (fun h3 tk3 m3 tl hT hm3 F3 N3 => ?_))
  obtain ⟨p5, e5⟩ := hT.one
  have N3' : News g L h3 ((230, tabObj #[]) :: (162, tabObj #[]) :: (195, tabObj p5) :: (L + 1 + 1, oA') :: (Dw, lst (waysL W T2)) :: (D, lst ys) :: (L + 1, oB) :: nw) := by
    refine news_sub N3 ?_
    refine cb (List.mem_append_left _ (by k_mem)) (cb (List.mem_append_left _ (by k_mem)) (cb (List.mem_append_right _ e5) ?_))
    exact fun p hp => List.mem_append_left _ (.tail _ (.tail _ hp))
  show wpAny _ _ (execs _ _) _ _ _
  have hS : ∀ i, Small (W i) := fun i => by rw [← hW]; exact Nat.le_trans way_small (by decide)
  have hF1 : ∀ i, FirstOk (W i) := fun i => by rw [← hW]; exact first_way _ _ _
  have hF2 : ∀ i, FirstOk (baseB (W i)) := fun i => by rw [← hW]; unfold wayF; rw [base_way]; exact first_nmB _ _
  have o162 := off_tab (a := 162) (ps := #[]) N3' (by k_mem) fun p hp => ⟨.tail _ (.tail _ (.tail _ hp)), core p hp⟩
  have o230 := off_tab (a := 230) (ps := #[]) N3' (by k_mem) fun p hp => ⟨.tail _ (.tail _ (.tail _ hp)), core p hp⟩
  refine wpAny_execs_cons (law_row w p loose mean mg mb base g L fa _ _ _ E a3 sc (by rw [hl]; rfl) hsc LF F3 Dw W oA' T2
    ((195, tabObj p5) :: (L + 1 + 1, oA') :: (Dw, lst (waysL W T2)) :: (D, lst ys) :: (L + 1, oB) :: nw) N3'
    (cb (by exact (by decide : (195 : Nat) ≠ 162)) o162) (cb (by exact (by decide : (195 : Nat) ≠ 230)) o230) (by k_mem) hA' (by k_mem) hS hF1 hF2 hsm (fun Dr h4 tk4 us cR c5 p2 F4 N4 hus => ?_))
  rw [← hW, PL2] at hus
  show wpAny _ _ (execs _ _) _ _ _
  have hLL : L + 1 + 1 ≠ L + 1 := Nat.succ_ne_self _
  generalize hx5 : tabObj #[rawInt 262, rawInt 42, .ref c5] = x5 at *
  refine wpAny_execs_cons (law_ranks w p loose mean mg mb base g L fa _ _ _ E a4 sc (by rw [hl]; rfl) hsc LF F4 D ys fs oB vB
    ((Dr, seqObj "list" us.toArray cR) :: (230, x5) :: (162, tabObj p2) :: (195, tabObj p5) :: (L + 1 + 1, oA') :: (Dw, lst (waysL W T2)) :: (D, lst ys) :: nw)
    (news_sub N4 (by (repeat (refine cb (by k_mem) ?_)); exact fun p hp => by repeat (first | exact hp | refine List.Mem.tail _ ?_))) hB (cb (.inl fun v => nofun) (cb (.inl fun v => by rw [← hx5]; nofun) (cb (.inl fun v => nofun) (cb (.inl fun v => nofun) (cb (.inr hLL) (cb (.inl fun v => nofun) (cb (.inl fun v => nofun) fun q hq => ?hcell)))))))
    (by k_mem) ((if_neg (by decide)).trans hm3) (hf.mono fun p hp => by repeat (first | exact hp | refine List.Mem.tail _ ?_)) h8 (fun Dk rs nw2 oB' h5 tk5 hB' hR₀ F5 N5 => ?_))
  case hcell =>
    obtain ⟨us', c', e'⟩ := hsq q hq
    exact .inl fun v e => by rw [e'] at e; cases e
  have hR1 := ranks_filter (a := 230) hR₀ (fun T vs' c' hm' e => by
    have z := (N5 _ (.tail _ (.tail _ (List.mem_append_right _ hm')))).1
    have z2 := (N5 (230, x5) (by k_mem)).1
    rw [show (T, tupObj vs' c').1 = (230 : Nat) from e, z2, ← hx5] at z
    cases z)
  generalize hn2 : (nw2.filter fun p => decide (p.1 ≠ 230)) = nw3 at hR1
  have hnw3 : ∀ q ∈ nw3, q ∈ nw2 ∧ q.1 ≠ 230 := fun q hq => by
    rw [← hn2] at hq
    have z := List.mem_filter.mp hq
    exact ⟨z.1, by simpa using z.2⟩
  show wpAny _ _ (execs _ _) _ _ _
  refine wpAny_execs_cons (law_places w p loose mean mg mb base g L fa _ _ _ E a5 sc (by rw [hl]; rfl) hsc LF F5 Dk rs fs oB'
    ((L + 1, oB') :: (Dk, lst rs) :: (Dr, seqObj "list" us.toArray cR) :: (230, x5) :: (162, tabObj p2) :: (195, tabObj p5) :: (L + 1 + 1, oA') :: (Dw, lst (waysL W T2)) :: nw3)
    (news_sub N5 (by
      (repeat (refine cb (by k_mem) ?_))
      exact fun p hp => .tail _ (.tail _ (List.mem_append_right _ (hnw3 p hp).1)))) (by k_mem) hB' (by k_mem) (hR1.mono fun p hp => by repeat (first | exact hp | refine List.Mem.tail _ ?_)) (Halt.mk PL1) (Halt.mk fun Dp ps h6 tk6 hps F6 N6 => ?_))
  have tDr := (N6 (Dr, seqObj "list" us.toArray cR) (by k_mem)).1
  have tDp := (N6 (Dp, lst ps) (by k_mem)).1
  show wpAny _ _ (execs _ _) _ _ _
  refine wpAny_execs_cons (law_if w p loose mean mg mb base g L fa _ _ _ E a6 sc (by rw [hl]; rfl) hsc LF F6 Dr Dp us ps ((List.range 8).map fun k => (plcR fs k : Int))
    ⟨_, tDr, rfl, _, rfl⟩ ⟨_, tDp, rfl, _, rfl⟩ hus hps ((if_neg (by decide)).trans (if_pos rfl)) (if_pos rfl) (fun tk7 => ?_))
  have r8 : ∀ n ∈ (List.range 8).map (fun k => (plcR fs k : Int)), 0 ≤ n ∧ n < 8 := fun n hn => by
    obtain ⟨k, hk, rfl⟩ := List.mem_map.mp hn
    have := hpr k (List.mem_range.mp hk)
    omega
  have N7 : News g L h6 ((230, x5) :: (Dp, lst ps) :: (L + 1, oB') :: (Dk, lst rs) :: (Dr, seqObj "list" us.toArray cR) :: (162, tabObj p2) :: (195, tabObj p5) :: (L + 1 + 1, oA') :: (Dw, lst (waysL W T2)) :: nw3) := news_sub N6 (by (repeat (refine cb (by k_mem) ?_)); exact fun p hp => by repeat (first | exact hp | refine List.Mem.tail _ ?_))
  have o230' : ∀ q ∈ (Dp, lst ps) :: (L + 1, oB') :: (Dk, lst rs) :: (Dr, seqObj "list" us.toArray cR) :: (L + 1 + 1, oA') :: (Dw, lst (waysL W T2)) :: [], q.1 ≠ 230 := by
    rw [← hx5] at N7
    refine off_tab (a := 230) N7 (.head _) ?_
    refine cb ⟨by k_mem, dl _⟩ (cb ⟨by k_mem, .inr ⟨_, hB'⟩⟩ (cb ⟨by k_mem, dl _⟩ (cb ⟨by k_mem, .inl ⟨_, _, rfl⟩⟩ (cb ⟨by k_mem, dA'⟩ (cb ⟨by k_mem, dl _⟩ fun _ hp => nomatch hp)))))
  subst hx5
  show wpAny _ _ (execs _ _) _ _ _
  refine wpAny_execs_cons (law_kept w p loose mean mg mb base g L fa _ _ _ E a7 sc (by rw [hl]; rfl) hsc LF F6 Dr Dw c5 us oA'
    ((Dp, lst ps) :: (L + 1, oB') :: (Dk, lst rs) :: (Dr, seqObj "list" us.toArray cR) :: (162, tabObj p2) :: (195, tabObj p5) :: (L + 1 + 1, oA') :: (Dw, lst (waysL W T2)) :: nw3)
    N7 (cb (o230' _ (by k_mem)) (cb (o230' _ (by k_mem)) (cb (o230' _ (by k_mem)) (cb (o230' _ (by k_mem)) (cb (by exact (by decide : (162 : Nat) ≠ 230)) (cb (by exact (by decide : (195 : Nat) ≠ 230)) (cb (o230' _ (by k_mem)) (cb (o230' _ (by k_mem)) fun q hq => (hnw3 q hq).2))))))))
    (by k_mem) hA' ((if_neg (by decide)).trans (if_pos rfl)) W T2 (seqObj "list" us.toArray cR) cR ((List.range 8).map fun k => (plcR fs k : Int)) hus (by rw [List.length_map, List.length_range]) (Halt.mk r8) (by k_mem) rfl rfl (by k_mem) hS hF1 h168 (Halt.mk fun Dt ks cT p3 h8' tk8 hks F8 N8 => ?_))
  rw [PL3] at hks
  show wpAny _ _ (execs _ _) _ _ _
  refine wpAny_execs_cons (law_ret w p loose mean mg mb base g L fa _ _ _ E a8 sc (by rw [hl]; rfl) hsc LF F8 Dk Dp Dt rs ps ks fs oB' (lst ps) ({ cls := .type "list", data := .seq ks.toArray cT } : Obj) 0 cT _ N8 (by k_mem) hB' (by k_mem) (hR1.mono fun p hp => by repeat (first | exact hp | refine List.Mem.tail _ ?_))
    (by k_mem) hps ((if_neg (by decide)).trans (if_pos rfl)) hpr (.head _) rfl rfl (if_pos rfl) hks (fun h9 tk9 F9 N9 => ?_))
  exact hret h9 tk9 _ p5 p2 p3 F9 (N9 (195, tabObj p5) (by k_mem)).1 (N9 (162, tabObj p2) (by k_mem)).1 (N9 (230, tabObj p3) (by k_mem)).1
theorem law_body2 {w : World} {p : Program} {loose : List Str} {mean : ExcName → Option Value} {mg mb : Str → Option Value} {base g : Heap} {L fa : PySem.Addr} {m : Str → Option Value} {s : Shared} {Q : Flow → Shared → Prop} {E : Value → Shared → Prop} {sc : Scope} {body : List Stmt}
    (hb : lawB w = body) (hsc : lawS w = some sc) (LF : LawF w p loose mean mg mb base g) (F : Fr g L s.heap m) {ls : PySem.Addr} {vs : List Value} {ns : List Int} {oA oB : Obj} {vA vB : Option Value}
    (N : News g L s.heap [(L + 1 + 1, oA), (L + 1, oB), (195, tabObj #[]), (162, tabObj #[]), (230, tabObj #[])]) (hA : oA.data = .cell vA) (hB : oB.data = .cell vB)
    (hi : IntsAre vs ns) (hlen : ns.length ≤ 1048576) (hls : g.IsList ls vs.toArray) (hm : m (PySem.Str.ofString "script") = some (.ref ls))
    (hsm : ∃ o, g.get? PySem.sysModules = some o) (h168 : ∃ o, (hd.heap_39 w.params).lookup 168 = some o)
    (hret : ∀ h' tk' m' p1 p2 p3, Fr g L h' m' → h'.get? 195 = some (tabObj p1) → h'.get? 162 = some (tabObj p2) → h'.get? 230 = some (tabObj p3) → Q (.ret (.bool true)) { s with heap := h', toks := tk' }) :
    wpAny (model PySem.Challenge.rw_ij0209_01.row.prog w) (PySem.callerA.deeper (lawEnv sc L fa)) (execs body (lawEnv sc L fa)) Q E s := by
  subst hb
  obtain ⟨o, ho⟩ := h168
  exact law_body w p loose mean mg mb base g L fa m s Q E sc hsc LF F ls vs ns hi hlen hls hm oA oB vA vB N hA hB hsm ⟨o, LF.X _ _ ho⟩ hret
end Mine
end
section
theorem PySem.Challenge.cw_ij0209_01_holds : PySem.Challenge.rw_ij0209_01.Holds := by
  k_with_none
  refine Mine.hd ?_
  k_go0
  all_goals (try k_fold)
  all_goals (try dsimp only)
  (with_reducible rename Below _ _ _ _ => K9)
  (with_reducible rename (_ : Frag).In (ghostOf _ _) => X9)
  (with_reducible rename Top _ _ _ _ _ (ghostOf _ _) => T9)
  (with_reducible rename Fr _ _ _ _ => F9)
  (with_reducible rename News _ _ _ _ => N9)
  (with_reducible rename (ghostOf _ _).IsList _ _ => L9)
  (with_reducible rename IntsAre _ _ => I9)
  (with_reducible rename CodeHd _ (199, 195).fst _ => d1)
  (with_reducible rename CodeHd _ (166, 162).fst _ => d2)
  (with_reducible rename CodeHd _ (232, 230).fst _ => d3)
  (with_reducible rename Top (view _ _) _ _ _ _ _ => T8)
  obtain ⟨mm9, ⟨o9, _, _, e9, _⟩, _⟩ := (T8.seer (by kernel_rfl)).mods
  refine Mine.law_body2 (by unfold Mine.lawB; with_unfolding_all rfl) (by unfold Mine.lawS; with_unfolding_all rfl) ⟨K9, X9, T9, d1, d2, d3⟩ F9 N9 (by assumption) (by assumption) I9 (by omega) L9 (by with_unfolding_all rfl) ⟨o9, ghost_ne e9 (by decide)⟩ ⟨_, by with_unfolding_all rfl⟩ ?_
  intro h8 tk8 m8 q1 q2 q3 F8 g1 g2 g3
  clear F9 N9 T8 e9
  dsimp only
  refine ⟨?_, ⟨q1, g1⟩, ⟨q2, g2⟩, ⟨q3, g3⟩, True.intro⟩
  refine goodW_bool F8 (by assumption) (fun _ => rfl) ?_ rfl
  with_unfolding_all rfl
end
