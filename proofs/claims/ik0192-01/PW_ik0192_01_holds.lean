import PyProof.Rows.All
import Wide.All
import OpenK.AllK
import Wide.FinOn
import PyProof.Walk
import PyProof.WalkLemmas
import PyProof.TupleOfSeq
import PyProof.Rows.RaiseClass
import KE.KNest
import KE.KSuper
import PyProof.CollectIter
import PyProof.TupleCall
import PyProof.TupleOfGen
import KE.KLam
import KE.KDictList
import Lean
import PySem.Challenge.RW_ik0192_01
open PySem PySem.W PyProof.Rows
set_option Elab.async false
set_option maxRecDepth 100000
set_option maxHeartbeats 8000000
set_option linter.all false
set_option compiler.extract_closed false
section
open PySem PySem.W PyProof.Rows
namespace Mine
section
local macro_rules | `(tactic| o_head $t) => `(tactic| exact False.elim (by with_reducible assumption))
theorem hd : False → PySem.Challenge.rw_ik0192_01.Holds := by
  intro h
  refine holds_law (False.elim h) fun said => ?_
  km_head
end
end Mine
end
section
open PySem PySem.W PyProof.Rows PySem.Calls
namespace Mine
noncomputable def ob (a : Nat) (K : Frag) : Obj := (K.lookup a).getD default
noncomputable def o49s : { o : Params → Obj // ∀ P, (hd.heap_1 P).lookup 49 = some (o P) } := by
  apply Subtype.mk
  intro P
  conv => lhs; whnf
noncomputable def o50s : { o : Params → Obj // ∀ P, (hd.heap_1 P).lookup 50 = some (o P) } := by
  apply Subtype.mk
  intro P
  conv => lhs; whnf
noncomputable def o49 (P : Params) : Obj := o49s.1 P
noncomputable def o50 (P : Params) : Obj := o50s.1 P
noncomputable def w00 : World := ⟨fun _ _ => 0, ⟨fun _ => 0, fun _ => 0, fun a => a, fun _ => 0, fun _ _ => 0, fun _ => false, fun _ => 0, .refcount, .text, fun _ => 0, fun _ => none, fun _ => false, fun _ _ _ => true, fun _ _ _ => true, true, fun _ => false, fun _ => none, fun _ => none, fun _ _ _ => 0, fun _ _ => none, fun _ => none, fun _ => (0, false, "UTC"), fun _ => none, fun d => d, fun _ => false⟩⟩
noncomputable def KB (P : Params) : Frag := [(1, { cls := .type "dict", data := .dict #[{ hash := PyData.keyHash P (Str.ofString "builtins"), key := .str (Str.ofString "builtins") 162, val := .ref 4 }, { hash := PyData.keyHash P (Str.ofString "__main__"), key := .str (Str.ofString "__main__") 163, val := .ref 5 }] 2 }), (2, { cls := .none, data := .dict #[] }), (51, { cls := .type "object" })]
noncomputable def KBIn (w : World) (h : Heap) : Prop := (KB w.params).In h
theorem KBIn.keeps {w : World} {h h' : Heap} (G : KBIn w h) (k : ∀ b o, h.get? b = some o → h'.get? b = some o) : KBIn w h' := Frag.In.keeps G k
structure Gd (w : World) (h : Heap) : Prop where
  K : (Mine.hd.heap_1 w.params).In h
  B : (KB w.params).In h
theorem Gd.keeps {w : World} {h h' : Heap} (G : Gd w h) (k : ∀ b o, h.get? b = some o → h'.get? b = some o) : Gd w h' := ⟨G.K.keeps k, G.B.keeps k⟩
theorem wpAny_weak {α : Type} {M : Model} {A B : Around} {t : Sem α} {Q : α → Shared → Prop} {E : Value → Shared → Prop} {s : Shared} (h : wpAny M B t Q E s)
    (h1 : B.handled = A.handled) (h2 : A.depth ≤ B.depth) (h3 : A.units ≤ B.units) (h4 : ∀ l, B.frames = some l → A.frames = some l) (h5 : ∀ g, B.guards = some g → A.guards = some g) : wpAny M A t Q E s :=
  fun Γ p hΓ => h Γ p ⟨hΓ.1.trans h1.symm, Nat.le_trans hΓ.2.1 h2, fun l hl => hΓ.2.2.1 l (h4 l hl), fun g hg => hΓ.2.2.2.1 g (h5 g hg), Nat.le_trans hΓ.2.2.2.2 h3⟩
end Mine
namespace Mine
noncomputable abbrev AX : Around := { handled := none, depth := 690, frames := none, guards := none, units := 9000 }
noncomputable abbrev Ext (h h' : Heap) : Prop := ∀ b o, h.get? b = some o → h'.get? b = some o
theorem ext_mem {h h' : Heap} {nw : List (Addr × Obj)} (D : PySem.W.X.Mem h h' [] nw) : Ext h h' := fun b o e => D.keep b o e (by simp [PySem.W.X.away])
end Mine
end
section
open PySem PySem.W PyProof.Rows PySem.Calls
namespace Mine
noncomputable def kxHk (K : Params → Frag) (as : List Addr) (e : ∀ P, as = (K P).map (·.1)) (ts : List Addr) (K2 : Params → Frag) (as2 : List Addr) (e2 : ∀ P, as2 = (K2 P).map (·.1)) : Hook where
  α := (List (Option Obj) × List (Option Obj)) × List (Option Obj)
  obs := fun s => ((as.map s.heap.get?, ts.map s.heap.get?), as2.map s.heap.get?)
  val := fun w => (((K w.params).map fun p => some p.2, ts.map fun _ => some (tabObj #[])), (K2 w.params).map fun p => some p.2)
  says := fun w h => (kmHook K as e ts).says w h ∧ InK K2 w h
  of := fun w s x => ⟨(kmHook K as e ts).of w s (show (_, _) = (_, _) from (Prod.mk.inj x).1), InK.of e2 w s (Prod.mk.inj x).2⟩
  keeps := fun w h h' x k => ⟨(kmHook K as e ts).keeps w h h' x.1 k, InK.keeps w h h' x.2 k⟩
noncomputable def pz : Params := ⟨fun _ => 0, fun _ => 0, fun a => a, fun _ => 0, fun _ _ => 0, fun _ => false, fun _ => 0, .refcount, .text, fun _ => 0, fun _ => none, fun _ => false, fun _ _ _ => true, fun _ _ _ => true, true, fun _ => false, fun _ => none, fun _ => none, fun _ _ _ => 0, fun _ _ => none, fun _ => none, fun _ => (0, false, "UTC"), fun _ => none, fun d => d, fun _ => false⟩
noncomputable def stmtsAt (l : List Stmt) (ks : List Nat) : List Stmt := ks.filterMap fun i => l[i]?
noncomputable def hk : Hook := (kxHk hd.heap_1 (List.map (·.1) (hd.heap_1 pz)) (fun _ => by kernel_rfl) [45, 208] KB (List.map (·.1) (KB pz)) (fun _ => by kernel_rfl))
noncomputable def view : Program := { PySem.Challenge.rw_ik0192_01.prog with main := { PySem.Challenge.rw_ik0192_01.prog.main with body := stmtsAt PySem.Challenge.rw_ik0192_01.prog.main.body [0, 3, 4, 6, 7, 10, 12, 14, 15, 17, 19, 21, 22, 23, 24, 25, 27, 28, 29, 30, 31, 32, 33] } }
theorem hl : LeftO PySem.Challenge.rw_ik0192_01.row.toRowW.prog view [Str.ofString "_deduplicate", Str.ofString "_initial_missing", Str.ofString "reduce"] (fun s => xlAt view [] s && recOk (RowW.records (OpenRow.toRowW (OpenLaw.row PySem.Challenge.rw_ik0192_01))) s) (Hook.obs hk) (Hook.val hk) 2714 := by
  intro w
  kernel_rfl
theorem law_said : PySem.Challenge.rw_ik0192_01.wellSaid = true := by kernel_rfl
end Mine
end
section
set_option hygiene false
open PySem PySem.W PyProof.Rows PySem.Calls
namespace Mine
theorem hidG {P : Prop} (h : ∀ G : Prop, (P → G) → G) : P := h P id
theorem hideR {M : Model} {A : Around} {c : Code} {R : Result → Shared → Prop} {s : Shared} (h : ∀ R' : Result → Shared → Prop, (∀ r s', R r s' → R' r s') → codeAny M A c R' s) : codeAny M A c R s := h R fun _ _ x => x
theorem tok0 {α : Type} {M : Model} {A : Around} {x : Sem α} {Q : α → Shared → Prop} {E : Value → Shared → Prop} {h : Heap} {g : Array GenState} {d : Drawn} {k : Nat} {os : OsState} (H : ∀ tk, wpAny M A x Q E ⟨h, g, d, tk, os⟩) : wpAny M A x Q E ⟨h, g, d, k, os⟩ := H k
theorem sub_st {n i k : Nat} (h : n - i = k + 1) : n - (i + 1) = k := by rw [Nat.sub_add_eq, h]; rfl
theorem six {x : Int} (h0 : 0 ≤ x) (h1 : x < 6) : x = 0 ∨ x = 1 ∨ x = 2 ∨ x = 3 ∨ x = 4 ∨ x = 5 := by
  obtain ⟨n, rfl⟩ := Int.eq_ofNat_of_zero_le h0
  have h : ∀ n : Fin 6, ((n.val : Nat) : Int) = 0 ∨ ((n.val : Nat) : Int) = 1 ∨ ((n.val : Nat) : Int) = 2 ∨ ((n.val : Nat) : Int) = 3 ∨ ((n.val : Nat) : Int) = 4 ∨ ((n.val : Nat) : Int) = 5 := by decide
  exact h ⟨n, Int.ofNat_lt.mp h1⟩
theorem noraise {α : Type} {M : Model} {A : Around} {t : Sem α} {Q : α → Shared → Prop} {E : Value → Shared → Prop} {s : Shared} (h : wpAny M A t Q (fun _ _ => False) s) : wpAny M A t Q E s := wpAny_mono h (fun _ _ x => x) fun _ _ x => x.elim
noncomputable abbrev LSG : List Str := [Str.ofString "_deduplicate", Str.ofString "_initial_missing", Str.ofString "reduce", Str.ofString "_wall", Str.ofString "_deduplicate_unhashable", Str.ofString "_compare_args_orderless", Str.ofString "cmp_to_key", Str.ofString "_plain_name", Str.ofString "_abc_plain_meta", Str.ofString "fspath", Str.ofString "_check_arg_types", Str.ofString "_get_sep", Str.ofString "join", Str.ofString "splitroot", Str.ofString "normpath", Str.ofString "commonpath", Str.ofString "_law_text", Str.ofString "_law_names", Str.ofString "_law_near", Str.ofString "_law_kept", Str.ofString "_law_very", Str.ofString "_law_alone", Str.ofString "law", Str.ofString "ABCMeta", Str.ofString "_ABCLike"]
theorem fr_ext {h₀ h h' : Heap} {L : Addr} {m : Str → Option Value} (F : Fr h₀ L h m) (x : Ext h h') : Fr h₀ L h' m := ⟨F.ns.keeps x, fun b o e => x _ _ (F.keep b o e), F.above⟩
theorem news_ext {h₀ h h' : Heap} {L : Addr} {news : List (Addr × Obj)} (N : News h₀ L h news) (x : Ext h h') : News h₀ L h' news := fun p hp => ⟨x _ _ (N p hp).1, (N p hp).2⟩
theorem off1_of {I : Addr} : ∀ {l : List (Addr × Obj)}, (∀ p ∈ l, p.1 ≠ I) → LCg.Off1 I l
  | [], _ => trivial
  | p :: _, h => ⟨h p (.head _), off1_of fun q hq => h q (.tail _ hq)⟩
theorem news_lt {h₀ h : Heap} {L : Addr} {news : List (Addr × Obj)} (N : News h₀ L h news) : ∀ p ∈ news, p.1 < h.objs.size := fun p hp => Heap.lt_size (N p hp).1
noncomputable def Spec0 (w : World) (D U : Nat) (f : Addr) (args : List Value) (Pre : Heap → Prop) (Post : Heap → Value → Heap → Prop) : Prop :=
  ∀ (gd : Option (List Code)) (cn : Str) (cs : Scope) (a : Addr) (ccd : Value) (cl : List (Str × Addr)) (outer : List Env) (A₀ : Around) (base h₀ : Heap) (L : Addr) (m : Str → Option Value) (s : Shared)
    (mean : ExcName → Option Value) (mg mb : Str → Option Value) (Q E : Value → Shared → Prop),
    Below A₀ base outer h₀ → Fr h₀ L s.heap m → (Mine.hd.heap_1 w.params).In h₀ → KBIn w h₀ → Top topProg LSG mean mg mb h₀ → cs.kind = .function → Pre s.heap →
    (∀ r h' tk', Ext s.heap h' → Post s.heap r h' → Q r { s with heap := h', toks := tk' }) →
    wpAny (model PySem.Challenge.rw_ik0192_01.prog w) (ktrTop D U gd cn cs L a ccd cl outer) (call (.ref f) args) Q E s
noncomputable def LeaveX (R : Result → Shared → Prop) (v : Value) (s' : Shared) : Prop := R (.ok (.ret v)) s'
section
variable {w : World} {D U dp un : Nat} {f : Addr} {args : List Value} {news : List (Addr × Obj)} {Pre : Heap → Prop} {gd : Option (List Code)} {cn : Str} {cs : Scope} {a : Addr} {ccd : Value} {cl : List (Str × Addr)} {outer : List Env} {A₀ : Around} {base h₀ : Heap} {L : Addr}
   {m : Str → Option Value} {s : Shared} {mean : ExcName → Option Value} {mg mb : Str → Option Value} {Q E : Value → Shared → Prop}
theorem spec_val {P : Heap → Value → Heap → Prop} (S : Spec0 w D U f args Pre P)
    (B : Below A₀ base outer h₀) (F : Fr h₀ L s.heap m) (X : (Mine.hd.heap_1 w.params).In h₀) (XB : KBIn w h₀) (N : News h₀ L s.heap news) (T : Top topProg LSG mean mg mb h₀) (hk : cs.kind = .function)
    (hd : dp ≤ D) (hu : un ≤ U) (pre : Pre s.heap)
    (ret : ∀ r h' tk', Fr h₀ L h' m → News h₀ L h' news → Ext s.heap h' → P s.heap r h' → Q r { s with heap := h', toks := tk' }) :
    wpAny (model PySem.Challenge.rw_ik0192_01.prog w) (ktrTop dp un gd cn cs L a ccd cl outer) (call (.ref f) args) Q E s :=
  wpAny_weak (S gd cn cs a ccd cl outer A₀ base h₀ L m s mean mg mb Q E B F X XB T hk pre fun r h' tk' x p => ret r h' tk' (fr_ext F x) (news_ext N x) x p) rfl hd hu (fun _ e => e) (fun _ e => e)
theorem spec_new {P : Obj → Prop} (S : Spec0 w D U f args Pre (fun h r h' => ∃ b o, r = .ref b ∧ h.get? b = none ∧ h'.get? b = some o ∧ P o))
    (B : Below A₀ base outer h₀) (F : Fr h₀ L s.heap m) (X : (Mine.hd.heap_1 w.params).In h₀) (XB : KBIn w h₀) (N : News h₀ L s.heap news) (T : Top topProg LSG mean mg mb h₀) (hk : cs.kind = .function)
    (hd : dp ≤ D) (hu : un ≤ U) (pre : Pre s.heap)
    (ret : ∀ b o h' tk', Fr h₀ L h' m → News h₀ L h' ((b, o) :: news) → Ext s.heap h' → LCg.Off1 b news → P o → Q (.ref b) { s with heap := h', toks := tk' }) :
    wpAny (model PySem.Challenge.rw_ik0192_01.prog w) (ktrTop dp un gd cn cs L a ccd cl outer) (call (.ref f) args) Q E s := by
  refine wpAny_weak (S gd cn cs a ccd cl outer A₀ base h₀ L m s mean mg mb Q E B F X XB T hk pre ?_) rfl hd hu (fun _ e => e) (fun _ e => e)
  rintro r h' tk' x ⟨b, o, rfl, hb, hb', p⟩
  have nL : b ≠ L := by
    rintro rfl
    obtain ⟨oL, _, _, hL, _⟩ := F.ns
    rw [hb] at hL; cases hL
  have n0 : h₀.get? b = none := by
    cases q : h₀.get? b with
    | none => rfl
    | some o' => have := F.keep _ _ q; rw [hb] at this; cases this
  refine ret b o h' tk' (fr_ext F x) (fun q hq => ?_) x (off1_of fun q hq e => ?_) p
  · rcases List.mem_cons.mp hq with rfl | hq
    · exact ⟨hb', nL, n0⟩
    · exact news_ext N x q hq
  · have := (N q hq).1; rw [e, hb] at this; cases this
end
section
variable {prog : Program} {w : World} {A A₀ : Around} {s : Shared} {K : Frag} {L : Addr} {h₀ base : Heap} {m mg mb : Str → Option Value} {p : Program} {loose : List Str} {mean : ExcName → Option Value}
theorem hideAll_nil (h : Heap) : hideAll h ([] : List Addr) = h := rfl
theorem enter0 {env : Env} {outer : List Env} {R : Result → Shared → Prop} {name qual : Str} {params : Arguments} {body : List Stmt} {scope : Scope} {dV kV doc pm cdv ct oc : Value} {an od : Option Addr} {osl : Array (Option Value)} {f : Addr} {args : Args} {binds : List (Str × Value)}
    (B : Below A₀ base outer h₀) (F : Fr h₀ L s.heap m) (X₀ : K.In h₀) (XB : KBIn w h₀) (T : Top p loose mean mg mb h₀) (hA : A.frames = some (env :: outer)) (hf : env.frame = some L) (hke : env.scope.kind = .function)
    (ho : K.lookup f = some ⟨oc, od, .func (fnOf name qual params body scope dV kV doc pm an cdv ct), osl⟩) (hcd : codeIn K cdv qual = true) (hroom : A.depth < recursionLimit)
    (hbind : BindsTo s (fnOf name qual params body scope dV kV doc pm an cdv ct) args binds) (hloc : ∀ y ∈ binds, scope.names.lookup y.1 = some .local)
    (h : ∀ L' h₁, Fr s.heap L' h₁ (fun y => binds.reverse.lookup y) → News s.heap L' h₁ [] → Below A base (env :: outer) s.heap → K.In s.heap → KBIn w s.heap → Top p loose mean mg mb s.heap →
      let av := A.deeper (envOf qual scope L' f cdv)
      wpAny (model prog w) av (execs body (envOf qual scope L' f cdv))
        (fun fl s' => LeaveX R (match fl with | .ret v => v | _ => .none) s')
        (fun _ _ => False)
        { s with heap := h₁, toks := s.toks + binds.length })
    (hco : scope.isCoroutine = false) (hgen : scope.isGenerator = false) (hk : scope.kind = .function)
    (hcell : ∀ x ∈ scope.names, x.2 ≠ .cell) : codeAny (model prog w) A (.call (.ref f) args) R s := by
  obtain ⟨FG, BG, st, lv⟩ := groundX (R := R) (news := []) B F News.nil hA hf hke
  refine codeAny_call_def (fd := fnX name qual params body scope [] dV kV doc pm an cdv ct) (body := body) (binds := binds) hroom ((X₀.keeps F.keep) _ _ ho) rfl (T.nolimit.keeps F.keep) (codeRec_of (X₀.keeps F.keep) hcd) rfl hbind hcell hloc (fun h₁ hns hk₁ => ?_) hco hgen hk
  exact wpAny_mono (h s.heap.objs.size h₁ ⟨hns, hk₁, Nat.le_refl _⟩ News.nil BG (X₀.keeps F.keep) (XB.keeps F.keep) (T.keeps F.keep)) (fun fl s' hl => hl) fun _ _ y => y.elim
theorem enter0C {env : Env} {outer : List Env} {R : Result → Shared → Prop} {name qual : Str} {params : Arguments} {body : List Stmt} {scope : Scope} {dV kV doc pm cdv ct oc : Value} {an od : Option Addr} {osl : Array (Option Value)} {f : Addr} {args : Args} {binds : List (Str × Value)}
    (B : Below A₀ base outer h₀) (F : Fr h₀ L s.heap m) (X₀ : K.In h₀) (XB : KBIn w h₀) (T : Top p loose mean mg mb h₀) (hA : A.frames = some (env :: outer)) (hf : env.frame = some L) (hke : env.scope.kind = .function)
    (ho : K.lookup f = some ⟨oc, od, .func (fnOf name qual params body scope dV kV doc pm an cdv ct), osl⟩) (hcd : codeIn K cdv qual = true) (hroom : A.depth < recursionLimit)
    (hbind : BindsTo s (fnOf name qual params body scope dV kV doc pm an cdv ct) args binds) (hkind : (binds.all fun y => scope.names.lookup y.1 == some .local || scope.names.lookup y.1 == some .cell) = true)
    (hnd : ((cellsFrom 0 scope.names []).map (·.1)).Nodup)
    (h : ∀ L' h₁ tk cells, Fr s.heap L' h₁ (bindL (envOfC qual scope L' f cdv).kindOf binds fun _ => none) → News s.heap L' h₁ cells →
      CellsAre (bindC (envOfC qual scope L' f cdv).kindOf binds fun _ => none) (cellsFrom (L' + 1) scope.names []) cells → Below A base (env :: outer) s.heap → K.In s.heap → KBIn w s.heap → Top p loose mean mg mb s.heap →
      wpAny (model prog w) (A.deeper (envOfC qual scope L' f cdv)) (execs body (envOfC qual scope L' f cdv))
        (fun fl s' => LeaveX R (match fl with | .ret v => v | _ => .none) s')
        (fun _ _ => False)
        { s with heap := h₁, toks := tk })
    (hco : scope.isCoroutine = false) (hgen : scope.isGenerator = false) (hk : scope.kind = .function) : codeAny (model prog w) A (.call (.ref f) args) R s := by
  obtain ⟨FG, BG, st, lv⟩ := groundX (R := R) (news := []) B F News.nil hA hf hke
  refine codeAny_call_function hroom ((X₀.keeps F.keep) _ _ ho) rfl hco hgen rfl (codeRec_of (X₀.keeps F.keep) hcd) (hbind _ _ _ _ ?_)
  refine wpAny_newFunctionEnv_cells hk (kindsX hkind _) fun env' he s' x => ?_
  subst he
  refine ⟨(T.nolimit.keeps F.keep).keeps x.toInCall.keep, codeAny_func ?_⟩
  obtain ⟨h₁, tk, rfl, _⟩ := x.done
  have hk₁ := x.toInCall.keep
  obtain ⟨cells, NC, Y⟩ := Cl.news (h₀ := s.heap) (Nat.le_refl _) fun n c hm => ⟨x.cell n c (lookup_of_mem_nodup (cellsFrom_names scope.names 0 (s.heap.objs.size + 1) [] [] rfl ▸ hnd) hm), x.above n c hm⟩
  exact wpAny_mono (h s.heap.objs.size h₁ tk cells ⟨x.toInCall.ns, hk₁, Nat.le_refl _⟩ NC Y BG (X₀.keeps F.keep) (XB.keeps F.keep) (T.keeps F.keep)) (fun fl s' hl => hl) fun _ _ y => y.elim
end
section
variable {M : Model} {A : Around} {E : Value → Shared → Prop} {h₀ hp : Heap} {g : Array GenState} {d : Drawn} {t : Nat} {os : OsState} {L a : Addr} {m : Str → Option Value} {cn : Str} {cs : Scope} {ccd : Value} {cl : List (Str × Addr)}
  {x : Str} {Q : Unit → Shared → Prop} {news : List (Addr × Obj)}
theorem storeG {v : Value} (F : Fr h₀ L hp m) (N : News h₀ L hp news)
    (h : ∀ h' tk, Fr h₀ L h' (fun y => if y = x then some v else m y) → News h₀ L h' news → Q () ⟨h', g, d, tk, os⟩)
    (hk : cs.kind = .function) (hx : (envX cn cs L a ccd cl).kindOf x = some .local) : wpAny M A (storeName (envX cn cs L a ccd cl) x v) Q E ⟨hp, g, d, t, os⟩ :=
  storeX_L (s := ⟨hp, g, d, t, os⟩) F N (fun h' F' N' => h h' _ F' N') hk hx
theorem storeS {z : Str} {t0 : Tok} (F : Fr h₀ L hp m) (N : News h₀ L hp news)
    (h : ∀ h' tk tv, Fr h₀ L h' (fun y => if y = x then some (.str z tv) else m y) → News h₀ L h' news → Q () ⟨h', g, d, tk, os⟩)
    (hk : cs.kind = .function) (hx : (envX cn cs L a ccd cl).kindOf x = some .local) : wpAny M A (storeName (envX cn cs L a ccd cl) x (.str z t0)) Q E ⟨hp, g, d, t, os⟩ :=
  storeX_L (s := ⟨hp, g, d, t, os⟩) F N (fun h' F' N' => h h' _ _ F' N') hk hx
theorem storeI {z : Int} {t0 : Tok} (F : Fr h₀ L hp m) (N : News h₀ L hp news)
    (h : ∀ h' tk tv, Fr h₀ L h' (fun y => if y = x then some (.int z tv) else m y) → News h₀ L h' news → Q () ⟨h', g, d, tk, os⟩)
    (hk : cs.kind = .function) (hx : (envX cn cs L a ccd cl).kindOf x = some .local) : wpAny M A (storeName (envX cn cs L a ccd cl) x (.int z t0)) Q E ⟨hp, g, d, t, os⟩ :=
  storeX_L (s := ⟨hp, g, d, t, os⟩) F N (fun h' F' N' => h h' _ _ F' N') hk hx
end
end Mine
end
section
set_option hygiene false
open PySem PySem.W PyProof.Rows PySem.Calls
namespace Mine
noncomputable def ovm (l : List (Str × Option Value)) (m : Str → Option Value) : Str → Option Value := fun y => match l.lookup y with
  | some v => v
  | none => m y
theorem ovm_lookup {l : List Str} {u m : Str → Option Value} {y : Str} : ovm (l.map fun z => (z, u z)) m y = if y ∈ l then u y else m y := by
  unfold ovm
  induction l with
  | nil => simp
  | cons z l ih =>
    simp only [List.map_cons, List.lookup_cons]
    by_cases h : y = z
    · subst h; simp
    · have : (y == z) = false := by simpa using h
      simp only [this, ih, List.mem_cons, h, false_or]
section
variable {prog : Program} {w : World} {A : Around} {E : Value → Shared → Prop} {s : Shared} {env : Env} {h₀ : Heap} {x : Str} {body : List Stmt} {Q : Flow → Shared → Prop}
noncomputable def Lies1 (h₀ : Heap) (a : Addr) (o : Obj) (nw : List (Addr × Obj)) : Prop := h₀.get? a = some o ∨ (a, o) ∈ nw
theorem Lies1.get {h₀ h : Heap} {L a : Addr} {o : Obj} {m : Str → Option Value} {nw : List (Addr × Obj)} (x : Lies1 h₀ a o nw) (F : Fr h₀ L h m) (N : News h₀ L h nw) : h.get? a = some o :=
  x.elim (fun e => F.keep _ _ e) fun e => (N _ e).1
theorem Lies1.cons {h₀ : Heap} {a : Addr} {o : Obj} {nw : List (Addr × Obj)} (x : Lies1 h₀ a o nw) (p : Addr × Obj) : Lies1 h₀ a o (p :: nw) := x.imp id (.tail _)
theorem Lies1.app {h₀ : Heap} {a : Addr} {o : Obj} {nw : List (Addr × Obj)} (x : Lies1 h₀ a o nw) (tl : List (Addr × Obj)) : Lies1 h₀ a o (tl ++ nw) := x.imp id fun e => List.mem_append_right _ e
noncomputable abbrev lobj (its : List Value) (n : Nat) : Obj := { cls := .type "list", data := .seq its.toArray n }
noncomputable def TurnEndX (h₀ : Heap) (L : Addr) (x : Str) (zs : List Str) (m₀ : Str → Option Value) (J : (Str → Option Value) → List (Addr × Obj) → Prop) (I : Addr) (oI : Obj) (s₁ s₂ : Shared) : Prop :=
  ∃ h' tk m' nw', s₂ = { s₁ with heap := h', toks := tk } ∧ Fr h₀ L h' m' ∧ News h₀ L h' ((I, oI) :: nw') ∧ (∀ p ∈ nw', p.1 ≠ I) ∧ (∀ y, y ≠ x → y ∉ zs → m' y = m₀ y) ∧ J m' nw'
noncomputable def TurnPostX (h₀ : Heap) (L : Addr) (x : Str) (zs : List Str) (m₀ : Str → Option Value) (J : (Str → Option Value) → List (Addr × Obj) → Prop) (I : Addr) (oI : Obj) (s₁ : Shared) (Q : Flow → Shared → Prop) (f : Flow) (s₂ : Shared) : Prop :=
  match f with
  | .ret v => Q (.ret v) s₂
  | .brk => Q .next s₂
  | _ => TurnEndX h₀ L x zs m₀ J I oI s₁ s₂
theorem TurnEndX.mk {L : Addr} {zs : List Str} {m₀ m' : Str → Option Value} {J : (Str → Option Value) → List (Addr × Obj) → Prop} {I : Addr} {oI : Obj} {s₁ : Shared} {h' : Heap} {tk : Nat} {all : List (Addr × Obj)}
    (F : Fr h₀ L h' m') (N : News h₀ L h' all) (nw' : List (Addr × Obj)) (sub : ∀ p ∈ (I, oI) :: nw', p ∈ all) (off : ∀ p ∈ nw', p.1 ≠ I) (hm : ∀ y, y ≠ x → y ∉ zs → m' y = m₀ y) (hJ : J m' nw') :
    TurnEndX h₀ L x zs m₀ J I oI s₁ { s₁ with heap := h', toks := tk } := ⟨h', tk, m', nw', rfl, F, fun p hp => N p (sub p hp), off, hm, hJ⟩
theorem ovm_fix {zs : List Str} {m₀ m₁ : Str → Option Value} {o : Option Value} (hm : ∀ y, y ≠ x → y ∉ zs → m₁ y = m₀ y) :
    (fun y => if y = x then o else m₁ y) = fun y => if y = x then o else ovm (zs.map fun z => (z, m₁ z)) m₀ y := by
  funext y
  by_cases hy : y = x
  · rw [if_pos hy, if_pos hy]
  · rw [if_neg hy, if_neg hy, ovm_lookup]
    by_cases hz : y ∈ zs
    · rw [if_pos hz]
    · rw [if_neg hz]; exact hm y hy hz
theorem ovm_self {zs : List Str} {m₀ m₁ : Str → Option Value} (hm : ∀ y, y ≠ x → y ∉ zs → m₁ y = m₀ y) :
    m₁ = fun y => if y = x then m₁ x else ovm (zs.map fun z => (z, m₁ z)) m₀ y := by
  rw [← ovm_fix (o := m₁ x) hm]
  funext y
  by_cases h : y = x
  · rw [if_pos h, h]
  · rw [if_neg h]
theorem TurnPostX.step {L I : Addr} {zs : List Str} {m₀ : Str → Option Value} {J : (Str → Option Value) → List (Addr × Obj) → Prop} {J' : (Str → Option Value) → List (Addr × Obj) → Prop} {oI : Obj} {s₁ s₂ : Shared} {own : List (Addr × Obj)} {f : Flow}
    (p : TurnPostX h₀ L x zs m₀ J I oI s₁ Q f s₂) (hJ : ∀ m' nw', (∀ y, y ≠ x → y ∉ zs → m' y = m₀ y) → J m' nw' → J' m' nw')
    (hown : ∀ p ∈ own, p = (I, oI) ∨ (p.1 ≠ L ∧ h₀.get? p.1 = none ∧ ∀ h' m' nw', Fr h₀ L h' m' → News h₀ L h' nw' → J m' nw' → h'.get? p.1 = some p.2)) :
    LoopStepV h₀ L [I] own J' s₁ (fun v s' => Q (.ret v) s') (fun s' => Q .next s') f s₂ := by
  have fin : TurnEndX h₀ L x zs m₀ J I oI s₁ s₂ → LoopStepU h₀ L [I] own J' s₁ .next s₂ := by
    intro q
    obtain ⟨h', tk, m', nw', e, F', N', off', hm', hJ'⟩ := q
    exact ⟨rfl, h', tk, m', nw', e, F', fun p hp => (List.mem_append.mp hp).elim (fun hp => (hown p hp).elim (fun e => e ▸ N' _ List.mem_cons_self) fun q => ⟨q.2.2 h' m' nw' F' (fun p hp => N' p (List.mem_cons_of_mem _ hp)) hJ', q.1, q.2.1⟩) fun hp => N' p (List.mem_cons_of_mem _ hp),
      fun p hp hq => off' p hp (List.mem_singleton.mp hq), hJ _ _ hm' hJ'⟩
  cases f with
  | ret v => exact .ret p
  | brk => exact .brk p
  | next => exact .next (fin p)
  | cont => exact .cont (fin p)
theorem loopX {L I : Addr} {fp : List Addr} {n : Nat} {P : Nat → Value → Prop} {St : Nat → Heap → Prop} {m₀ : Str → Option Value} {news : List (Addr × Obj)} (zs : List Str) (Inv : Nat → (Str → Option Value) → List (Addr × Obj) → Prop)
    (W : Walks prog w A I fp [I] n P St) (hL : env.locals = L) (hI : h₀.get? I = none) (off : ∀ p ∈ news, p.1 ≠ I) (hst : St 0 s.heap) (F : Fr h₀ L s.heap m₀) (N : News h₀ L s.heap news) (h0 : Inv 0 m₀ news) (hIf : I ∈ fp)
    (hS : ∀ i h, St i h → ∃ o, h.get? I = some o)
    (hf : ∀ a ∈ fp, a ≠ L ∧ (a = I ∨ ∃ o, ∀ i u nw, Inv i u nw → Lies1 h₀ a o nw))
    (turn : ∀ i v u nw h tk oI, i < n → P i v → Inv i u nw → Fr h₀ L h (fun y => if y = x then some v else ovm (zs.map fun z => (z, u z)) m₀ y) → News h₀ L h ((I, oI) :: nw) → (∀ p ∈ nw, p.1 ≠ I) →
      wpAny (model prog w) A (execs body env) (TurnPostX h₀ L x zs m₀ (Inv (i + 1)) I oI { s with heap := h, toks := tk } Q) E { s with heap := h, toks := tk })
    (done : ∀ u nw h tk, Inv n u nw → Fr h₀ L h (fun y => if y = x then u x else ovm (zs.map fun z => (z, u z)) m₀ y) → News h₀ L h nw → Q .next { s with heap := h, toks := tk }) :
    LoopAtV prog w A h₀ env x body Q E (.ref I) s := by
  subst hL
  refine ⟨I, fp, [I], n, P, St, m₀, news, fun i m₁ nw => (∀ y, y ≠ x → y ∉ zs → m₁ y = m₀ y) ∧ Inv i m₁ nw, rfl, W, fun hm => (hf _ hm).1 rfl, fun b hb => List.mem_singleton.mp hb ▸ hI, fun p hp hb => off p hp (List.mem_singleton.mp hb), hst, F, N, ⟨fun _ _ _ => rfl, h0⟩, ?_, ?_⟩
  · intro i v m₁ nw s₁ own hs hin hP hJ hoff hown howng hall hst F₁ N₁
    obtain ⟨hh', tk', e⟩ := hs
    subst e
    obtain ⟨oI, heI⟩ := hS _ _ hst
    have hIo : (I, oI) ∈ own := hall _ hIf hI _ heI
    have N₂ : News h₀ env.locals hh' nw := fun p hp => N₁ p (List.mem_append_right _ hp)
    rw [ovm_fix hJ.1] at F₁
    refine wpAny_mono (turn i v m₁ nw hh' tk' oI hin hP hJ.2 F₁ (fun p hp => N₁ p ((List.mem_cons.mp hp).elim (fun e => List.mem_append_left _ (e ▸ hIo)) fun e => List.mem_append_right _ e)) fun p hp e => hoff p hp (List.mem_singleton.mpr e)) (fun f s₂ p => p.step (fun _ _ a b => ⟨a, b⟩) fun p hp => ?_) fun _ _ e => e
    have g := howng p hp
    have z := N₁ p (List.mem_append_left _ hp)
    rcases (hf _ (hown p hp)).2 with e | ⟨o, ho⟩
    · rw [e] at g
      exact .inl (Prod.ext e (Option.some.inj (g.symm.trans heI)))
    · refine .inr ⟨(hf _ (hown p hp)).1, z.2.2, fun h' m' nw' F' N' hJ' => ?_⟩
      rw [Option.some.inj (g.symm.trans ((ho i m₁ nw hJ.2).get F₁ N₂))]
      exact (ho _ _ _ hJ').get F' N'
  · intro h' tk m' nw' F' N' _ hJ
    refine done m' nw' h' tk hJ.2 ?_ N'
    rw [← ovm_self hJ.1]; exact F'
theorem Lies1.ne {L ax : Addr} {h : Heap} {oax : Obj} {m₀ : Str → Option Value} {news : List (Addr × Obj)} (S : Lies1 h₀ ax oax news) (F : Fr h₀ L h m₀) (N : News h₀ L h news) : ax ≠ L :=
  fun e => S.elim (fun q => absurd (Heap.lt_size q) (Nat.not_lt.mpr (e ▸ F.above))) fun q => (N _ q).2.1 e
theorem fp_new {L ax : Addr} {h : Heap} {oax : Obj} {m₀ : Str → Option Value} {news : List (Addr × Obj)} {Inv : Nat → (Str → Option Value) → List (Addr × Obj) → Prop} (S : Lies1 h₀ ax oax news) (F : Fr h₀ L h m₀) (N : News h₀ L h news) (hS : ∀ i u nw, Inv i u nw → Lies1 h₀ ax oax nw) {I : Addr} (hI : I ≠ L) :
    ∀ a ∈ [I, ax], a ≠ L ∧ (a = I ∨ ∃ o, ∀ i u nw, Inv i u nw → Lies1 h₀ a o nw) := fun a ha =>
  (List.mem_cons.mp ha).elim (fun e => ⟨e ▸ hI, .inl e⟩) fun ha => List.mem_singleton.mp ha ▸ ⟨S.ne F N, .inr ⟨oax, hS⟩⟩
theorem off_new {L : Addr} {h : Heap} {news : List (Addr × Obj)} (N : News h₀ L h news) : ∀ p ∈ news, p.1 ≠ h.objs.size := fun p hp e => absurd (Heap.lt_size (N p hp).1) (e ▸ Nat.lt_irrefl _)
theorem for_src {L ax : Addr} {its : List Value} {n : Nat} {m₀ : Str → Option Value} {news : List (Addr × Obj)} {oax : Obj} (zs : List Str) (Inv : Nat → (Str → Option Value) → List (Addr × Obj) → Prop)
    (hh : A.handled = none) (hc : oax.cls = .type "list") (hd : oax.data = .seq its.toArray n) (F : Fr h₀ L s.heap m₀) (N : News h₀ L s.heap news) (hL : env.locals = L) (S : Lies1 h₀ ax oax news) (h0 : Inv 0 m₀ news)
    (hS : ∀ i u nw, Inv i u nw → Lies1 h₀ ax oax nw)
    (turn : ∀ i v u nw h tk I oI, its[i]? = some v → Inv i u nw → Fr h₀ L h (fun y => if y = x then some v else ovm (zs.map fun z => (z, u z)) m₀ y) → News h₀ L h ((I, oI) :: nw) → (∀ p ∈ nw, p.1 ≠ I) →
      wpAny (model prog w) A (execs body env) (TurnPostX h₀ L x zs m₀ (Inv (i + 1)) I oI { s with heap := h, toks := tk } Q) E { s with heap := h, toks := tk })
    (done : ∀ u nw h tk, Inv its.length u nw → Fr h₀ L h (fun y => if y = x then u x else ovm (zs.map fun z => (z, u z)) m₀ y) → News h₀ L h nw → Q .next { s with heap := h, toks := tk }) :
    wpAny (model prog w) A (pyIter (.ref ax)) (fun it s₂ => LoopAtV prog w A h₀ env x body Q E it s₂) E s := by
  have hg := S.get F N
  have hls : s.heap.IsList ax its.toArray := ⟨_, hg, hc, n, hd⟩
  refine wpAny_pyIter_list hls ?_
  have W := Walks.list (prog := prog) (w := w) hh s.heap.objs.size ax (Nat.ne_of_lt (Heap.lt_size hg)) its.toArray
  rw [List.size_toArray] at W
  exact loopX zs Inv W hL (next_is_new F) (off_new N) ⟨⟨_, Heap.get?_push_size _ rfl, rfl, rfl⟩, hls.at fun o e => Heap.get?_push_of_some _ e⟩ (F.push _) (fun p hp => ⟨Heap.get?_push_of_some _ (N p hp).1, (N p hp).2⟩) h0 (.head _)
    (fun i h q => q.1.imp fun o e => e.1) (fp_new S F N hS (Nat.ne_of_gt F.ns.lt)) (fun i v u nw h tk oI _ q => turn i v u nw h tk _ oI (List.getElem?_toArray ▸ q)) done
noncomputable def TurnEnd1 (h₀ : Heap) (L : Addr) (x : Str) (m₀ : Str → Option Value) (J : Obj → Prop) (I : Addr) (oI : Obj) (a : Addr) (rest : List (Addr × Obj)) (s₁ s₂ : Shared) : Prop :=
  ∃ h' tk m' o', s₂ = { s₁ with heap := h', toks := tk } ∧ Fr h₀ L h' m' ∧ News h₀ L h' ((I, oI) :: (a, o') :: rest) ∧ (∀ y, y ≠ x → m' y = m₀ y) ∧ J o'
noncomputable def TurnPost1 (h₀ : Heap) (L : Addr) (x : Str) (m₀ : Str → Option Value) (J : Obj → Prop) (I : Addr) (oI : Obj) (a : Addr) (rest : List (Addr × Obj)) (s₁ : Shared) (Q : Flow → Shared → Prop) (f : Flow) (s₂ : Shared) : Prop :=
  match f with
  | .ret v => Q (.ret v) s₂
  | .brk => Q .next s₂
  | _ => TurnEnd1 h₀ L x m₀ J I oI a rest s₁ s₂
theorem TurnEnd1.mk {L : Addr} {m₀ m' : Str → Option Value} {J : Obj → Prop} {I : Addr} {oI : Obj} {a : Addr} {rest : List (Addr × Obj)} {s₁ : Shared} {h' : Heap} {tk : Nat} {all : List (Addr × Obj)} {o' : Obj}
    (F : Fr h₀ L h' m') (N : News h₀ L h' all) (sub : ∀ p ∈ (I, oI) :: (a, o') :: rest, p ∈ all) (hm : ∀ y, y ≠ x → m' y = m₀ y) (hJ : J o') :
    TurnEnd1 h₀ L x m₀ J I oI a rest s₁ { s₁ with heap := h', toks := tk } := ⟨h', tk, m', o', rfl, F, fun p hp => N p (sub p hp), hm, hJ⟩
theorem ovm_nil (m : Str → Option Value) : ovm ([].map fun z => (z, (fun _ => none : Str → Option Value) z)) m = m := rfl
theorem for_own1 {L ax : Addr} {its : List Value} {n : Nat} {m₀ : Str → Option Value} {rest : List (Addr × Obj)} {a : Addr} {o₀ oax : Obj} (Inv : Nat → Obj → Prop)
    (hh : A.handled = none) (hc : oax.cls = .type "list") (hd : oax.data = .seq its.toArray n) (F : Fr h₀ L s.heap m₀) (N : News h₀ L s.heap ((a, o₀) :: rest)) (hL : env.locals = L) (S : Lies1 h₀ ax oax rest) (h0 : Inv 0 o₀)
    (turn : ∀ i v o h tk I oI, its[i]? = some v → Inv i o → Fr h₀ L h (fun y => if y = x then some v else m₀ y) → News h₀ L h ((I, oI) :: (a, o) :: rest) → LCg.Off1 I ((a, o) :: rest) →
      wpAny (model prog w) A (execs body env) (TurnPost1 h₀ L x m₀ (Inv (i + 1)) I oI a rest { s with heap := h, toks := tk } Q) E { s with heap := h, toks := tk })
    (done : ∀ u o h tk, Inv its.length o → Fr h₀ L h (fun y => if y = x then u else m₀ y) → News h₀ L h ((a, o) :: rest) → Q .next { s with heap := h, toks := tk }) :
    wpAny (model prog w) A (pyIter (.ref ax)) (fun it s₂ => LoopAtV prog w A h₀ env x body Q E it s₂) E s := by
  subst hL
  refine for_src (oax := oax) [] (fun i _ nw => ∃ o, nw = (a, o) :: rest ∧ Inv i o) hh hc hd F N rfl (S.cons _) ⟨o₀, rfl, h0⟩ (fun i u nw ⟨o, e, _⟩ => e ▸ S.cons _) ?_ ?_
  · rintro i v u nw h tk I oI hv ⟨o, rfl, hi⟩ F' N' off
    refine wpAny_mono (turn i v o h tk I oI hv hi F' N' (off1_of off)) (fun f s₂ p => ?_) fun _ _ e => e
    have fin : TurnEnd1 h₀ env.locals x m₀ (Inv (i + 1)) I oI a rest { s with heap := h, toks := tk } s₂ → TurnEndX h₀ env.locals x [] m₀ (fun _ nw => ∃ o, nw = (a, o) :: rest ∧ Inv (i + 1) o) I oI { s with heap := h, toks := tk } s₂ := by
      rintro ⟨h', tk', m', o', e, F'', N'', hm, hJ⟩
      refine ⟨h', tk', m', (a, o') :: rest, e, F'', N'', ?_, fun y hy _ => hm y hy, o', rfl, hJ⟩
      intro p hp
      rcases List.mem_cons.mp hp with rfl | hp
      · exact (off (a, o) List.mem_cons_self : a ≠ I)
      · exact off p (List.mem_cons_of_mem _ hp)
    cases f with
    | ret v => exact p
    | brk => exact p
    | next => exact fin p
    | cont => exact fin p
  · rintro u nw h tk ⟨o, rfl, hi⟩ F' N'
    exact done (u x) o h tk hi F' N'
end
end Mine
end
section
set_option hygiene false
open PySem PySem.W PyProof.Rows PySem.Calls
namespace Mine
section
variable {prog : Program} {w : World} {A : Around} {E : Value → Shared → Prop} {s : Shared} {h₀ : Heap} {L D : Addr} {m : Str → Option Value} {news news' : List (Addr × Obj)} {n : Nat}
theorem append_L {vs : List Value} {x : Value} {Q : Value → Shared → Prop} (F : Fr h₀ L s.heap m) (N : News h₀ L s.heap news) (U : Upd D (lobj vs n) (lobj (vs ++ [x]) (n + 1)) news news') (hz : vs.length ≤ 100000)
    (h : ∀ h', Fr h₀ L h' m → News h₀ L h' news' → Q .none { s with heap := h' }) : wpAny (model prog w) A (call (.builtin "list.append") [.ref D, x]) Q E s :=
  append_K (its := vs.toArray) (n := n) F N (by rw [List.push_toArray]; exact U) h (by rw [sizeLine_eq, List.size_toArray]; omega)
theorem strs_last {vs : List Value} {ys : List Str} (h : StrsAre vs ys) : vs ≠ [] → ∃ y t, vs = vs.dropLast ++ [.str y t] ∧ ys.getLast? = some y ∧ StrsAre vs.dropLast ys.dropLast := by
  induction h with
  | nil => exact fun h => absurd rfl h
  | cons y t r ih =>
    intro _
    cases r with
    | nil => exact ⟨y, t, rfl, rfl, .nil⟩
    | cons y' t' r =>
      obtain ⟨z, u, h1, h2, h3⟩ := ih (by simp)
      refine ⟨z, u, ?_, ?_, ?_⟩
      · show _ = (Value.str y t :: (Value.str y' t' :: _).dropLast) ++ _
        rw [List.cons_append, ← h1]
      · rw [List.getLast?_cons_cons]; exact h2
      · exact .cons y t h3
theorem full_ne {vs : List Value} (h : vs.toArray.isEmpty = false) : vs ≠ [] := by rintro rfl; simp at h
theorem pop_strs {vs : List Value} {ys : List Str} {Q : Value → Shared → Prop} (F : Fr h₀ L s.heap m) (N : News h₀ L s.heap news) (U : Upd D (lobj vs n) (lobj vs.dropLast (n + 1)) news news') (hi : StrsAre vs ys) (hne : vs.toArray.isEmpty = false) (hz : vs.length ≤ 100000)
    (h : ∀ y t h', ys.getLast? = some y → Fr h₀ L h' m → News h₀ L h' news' → StrsAre vs.dropLast ys.dropLast → Q (.str y t) { s with heap := h' }) : wpAny (model prog w) A (call (.builtin "list.pop") [.ref D]) Q E s := by
  obtain ⟨y, t, h1, h2, h3⟩ := strs_last hi (full_ne hne)
  refine kl_pop F N (p := vs.dropLast) (y := .str y t) ?_ U (by rw [sizeLine_eq]; show vs.length ≤ _; omega) fun h' F' N' => h y t h' h2 F' N' h3
  have e := kpa_last (.str y t) vs.dropLast
  rw [← h1] at e
  exact e
theorem item_last {value slice : PySem.Expr} {l : Addr} {vs : List Value} {ys : List Str} {u : Tok} {Q : Value → Shared → Prop} (hl : s.heap.IsList l vs.toArray) (hi : StrsAre vs ys) (hne : vs.toArray.isEmpty = false)
    (h : ∀ y t, ys.getLast? = some y → Q (.str y t) s)
    (hs : subscripted slice false (.ref l) (.int (-1) u) = operate [.ref l, .int (-1) u] (getItem (.ref l) (.int (-1) u)) := by with_unfolding_all rfl) :
    wpAny (model prog w) A (subscriptTail value slice (.ref l) (.int (-1) u)) Q E s := by
  obtain ⟨y, t, h1, h2, h3⟩ := strs_last hi (full_ne hne)
  have hlen : 1 ≤ vs.length := by rw [h1]; simp
  refine tail_any hl.typeIs slot_list_getitem.lookup (wpAny_getItem_list_neg (x := .str y t) hl (by decide) (by rw [List.size_toArray]; omega) (by decide) ?_ (h y t h2)) hs
  have e : (-1 + ((vs.toArray.size : Nat) : Int)).toNat = vs.length - 1 := by
    rw [List.size_toArray]
    obtain ⟨k, hk⟩ : ∃ k, vs.length = k + 1 := ⟨_, (Nat.sub_add_cancel hlen).symm⟩
    rw [hk, Int.add_comm]
    exact congrArg Int.toNat (Int.add_neg_cancel_right (k : Int) 1)
  rw [e, List.getElem?_toArray, h1]
  simp
theorem truthy_L {l : Addr} {vs : List Value} {Q : Bool → Shared → Prop} (hl : s.heap.IsList l vs.toArray) (hz : vs.length ≤ 100000)
    (h : Q (!vs.toArray.isEmpty) { s with toks := s.toks + 1 + 1 }) : wpAny (model prog w) A (truthy (.ref l)) Q E s :=
  wpAny_truthy_list hl (by rw [List.size_toArray]; omega) h
theorem len_L {l : Addr} {vs : List Value} {Q : Value → Shared → Prop} (hl : s.heap.IsList l vs.toArray) (hz : vs.length ≤ 100000)
    (h : ∀ t k, Q (.int vs.length t) { s with toks := k }) : wpAny (model prog w) A (call (.builtin "len") [.ref l]) Q E s := by
  refine len_list hl (by rw [List.size_toArray]; omega) ?_
  have := h (s.toks + 1) (s.toks + 1 + 1)
  simpa using this
theorem add_S {x y : Str} {t u : Tok} {Q : Value → Shared → Prop} (hz : x.length + y.length ≤ 1000000) (h : ∀ t' tk, Q (.str (x ++ y) t') { s with toks := tk }) : wpAny (model prog w) A (binaryOp .Add (.str x t) (.str y u)) Q E s :=
  PyProof.Rows.add_str h (by rw [sizeLine_eq]; omega)
theorem iadd_S {x y : Str} {t u : Tok} {Q : Value → Shared → Prop} (hz : x.length + y.length ≤ 1000000) (h : ∀ t' tk, Q (.str (x ++ y) t') { s with toks := tk }) : wpAny (model prog w) A (inplaceOp .Add (.str x t) (.str y u)) Q E s :=
  PyProof.Rows.iadd_str h (by rw [sizeLine_eq]; omega)
theorem truthy_pos {x : Str} {t : Tok} {Q : Bool → Shared → Prop} (h0 : 0 < x.length) (hz : x.length ≤ 1000000) (h : ∀ tk, Q true { s with toks := tk }) : wpAny (model prog w) A (truthy (.str x t)) Q E s := by
  refine P.truthy_str (by omega) ?_
  have e : ((x.length : Int) != 0) = true := bne_iff_ne.mpr (by omega)
  rw [e]; exact h _
theorem len_join (sep : Str) (ys : List Str) : (Txt.join sep ys).length ≤ (ys.map (·.length)).sum + ys.length * sep.length := by
  show (Builtin.Str.glued sep ys).length ≤ _
  rw [StrLaws.glued_eq_join]
  exact StrLaws.join_length_le sep ys
theorem add_LL {l b : Addr} {vs ws : List Value} {Q : Value → Shared → Prop} (F : Fr h₀ L s.heap m) (N : News h₀ L s.heap news) (hl : s.heap.IsList l vs.toArray) (hb : s.heap.IsList b ws.toArray) (hz : vs.length ≤ 100000) (hy : ws.length ≤ 100000)
    (h : ∀ D h', Fr h₀ L h' m → News h₀ L h' ((D, lobj (vs ++ ws) 0) :: news) → (∀ p ∈ news, p.1 < D) → Q (.ref D) { s with heap := h' }) : wpAny (model prog w) A (binaryOp .Add (.ref l) (.ref b)) Q E s :=
  add_lists F N hl hb (fun h' F' N' => h _ h' F' N' (news_lt N)) (by rw [sizeLine_eq]; omega)
theorem pick_up {vs : List Value} {y : Int} (h : 0 ≤ y) : kms_pick vs.toArray.toList none (some y) = vs.take y.toNat := by
  unfold kms_pick kms_lo kms_hi
  simp only [if_neg (Int.not_lt.mpr h), List.drop_zero, Nat.sub_zero, List.toList_toArray]
  rw [← List.take_take, List.take_length]
theorem pick_from {vs : List Value} {x : Int} (h : 0 ≤ x) : kms_pick vs.toArray.toList (some x) none = vs.drop x.toNat := by
  unfold kms_pick kms_lo kms_hi
  simp only [if_neg (Int.not_lt.mpr h), List.toList_toArray]
  rcases Nat.le_total x.toNat vs.length with e | e
  · rw [Nat.min_eq_left e, List.take_of_length_le (by rw [List.length_drop]; exact Nat.le_refl _)]
  · rw [Nat.min_eq_right e, List.drop_length, List.drop_eq_nil_of_le e, List.take_nil]
theorem pick_init {vs : List Value} : kms_pick vs.toArray.toList none (some (-1)) = vs.dropLast := by
  unfold kms_pick kms_lo kms_hi
  simp only [List.toList_toArray, List.drop_zero, Nat.sub_zero]
  rw [if_pos (by decide), List.dropLast_eq_take]
  rfl
end
end Mine
end
section
set_option hygiene false
open PySem PySem.W PyProof.Rows PySem.Calls
namespace Mine
section
variable {prog : Program} {w : World} {A : Around} {E : Value → Shared → Prop} {s : Shared} {h₀ : Heap} {L : Addr} {m : Str → Option Value} {news news' : List (Addr × Obj)}
theorem extend_L {D b : Addr} {vs : List Value} {its2 : Array Value} {n n2 : Nat} {Q : Value → Shared → Prop} (F : Fr h₀ L s.heap m) (N : News h₀ L s.heap news) (hb : (b, PySem.W.listOf its2 n2) ∈ news) (hne : its2.toList.length ≠ 0)
    (U : Upd D (lobj vs n) (lobj (vs ++ its2.toList) (n + 1)) news news') (hz : vs.length ≤ 100000) (hy : its2.size ≤ 100000)
    (h : ∀ h', Fr h₀ L h' m → News h₀ L h' news' → Q .none { s with heap := h' }) : wpAny (model prog w) A (call (.builtin "list.extend") [.ref D, .ref b]) Q E s := by
  have hsz : vs.toArray.size + its2.size ≤ sizeLine := by rw [sizeLine_eq, List.size_toArray]; omega
  refine kl_extend (its := vs.toArray) (l := vs ++ its2.toList) F N hb (by simp) hne U (extend_door hsz) ?_ (Nat.le_succ_of_le hsz) h
  rw [sizeLine_eq]
  show vs.length ≤ _
  omega
end
end Mine
end
section
set_option hygiene false
open PySem PySem.W PyProof.Rows PySem.Calls
namespace Mine
section
variable {M : Model} {A : Around} {E : Value → Shared → Prop} {env : Env} {Q : Flow → Shared → Prop}
theorem execs_app_eq : ∀ (a b : List Stmt), execs (a ++ b) env = (do match ← execs a env with | .next => execs b env | f => pure f)
  | [], b => by
    show execs b env = (do match ← (pure Flow.next : Sem Flow) with | .next => execs b env | f => pure f)
    rw [pure_bind]
  | x :: r, b => by
    rw [List.cons_append, execs_cons, execs_cons, bind_assoc]
    congr 1
    funext f
    cases f with
    | next => exact execs_app_eq r b
    | _ => rw [pure_bind]
theorem execs_app {a b : List Stmt} {s : Shared} (h : wpAny M A (execs a env) (fun f s₁ => match f with | .next => wpAny M A (execs b env) Q E s₁ | f => Q f s₁) E s) : wpAny M A (execs (a ++ b) env) Q E s := by
  rw [execs_app_eq]
  refine wpAny_bind (wpAny_mono h (fun f s₁ h₁ => ?_) fun _ _ e => e)
  cases f with
  | next => exact h₁
  | _ => exact wpAny_pure h₁
theorem execs_cut {l : List Stmt} {s : Shared} (k : Nat) (h : wpAny M A (execs (l.take k) env) (fun f s₁ => match f with | .next => wpAny M A (execs (l.drop k) env) Q E s₁ | f => Q f s₁) E s) : wpAny M A (execs l env) Q E s := by
  have := execs_app h
  rwa [List.take_append_drop] at this
end
end Mine
end
section
namespace Mine
end Mine
end
section
open PySem PySem.W PyProof.Rows PySem.Calls PySem.Builtin
namespace Mine
section
variable {M : Model} {A : Around} {E : Value → Shared → Prop} {h : Heap} {g : Array GenState} {d : Drawn} {t : Nat} {os : OsState}
theorem tl_own {a : Addr} {c : Value} {dd : Option Addr} {cd : ClassData} {sl : Array (Option Value)} {od : Obj} {name : Str} {r : List Value} {v : Value} {Q : Option Value → Shared → Prop} (ho : h.get? a = some ⟨c, dd, .cls cd, sl⟩) (hm : cd.mro = .ref a :: r) (hd : h.get? cd.ns = some od)
    (hl : nsLook name od = pure (some v)) (hq : Q (some v) ⟨h, g, d, t, os⟩) : wpAny M A (typeLookup (.ref a) name) Q E ⟨h, g, d, t, os⟩ := by
  unfold typeLookup
  refine wpAny_bind ?_
  show wpAny M A (do return (← classData a).mro) _ _ _
  refine wpAny_bind ?_
  unfold classData
  refine wpAny_bind (wpAny_load ho ?_)
  refine wpAny_pure (wpAny_pure ?_)
  dsimp only
  rw [hm]
  refine wpAny_bind ?_
  rw [List.forIn_cons]
  refine wpAny_bind ?_
  refine wpAny_bind ?_
  show wpAny M A (do nsGet (← classData a).ns name) _ _ _
  refine wpAny_bind ?_
  unfold classData
  refine wpAny_bind (wpAny_load ho ?_)
  refine wpAny_pure ?_
  unfold nsGet
  refine wpAny_bind (wpAny_loadPart hd ?_)
  rw [hl]
  exact wpAny_pure (wpAny_pure (wpAny_pure (wpAny_pure hq)))
theorem tl_base {a : Addr} {c : Value} {dd : Option Addr} {cd : ClassData} {sl : Array (Option Value)} {od : Obj} {name : Str} {v : Option Value} {Q : Option Value → Shared → Prop} (ho : h.get? a = some ⟨c, dd, .cls cd, sl⟩) (hm : cd.mro = [.ref a, .type "object"]) (hd : h.get? cd.ns = some od)
    (hl : nsLook name od = pure none) (hb : builtinOwn "object" name = v) (hq : Q v ⟨h, g, d, t, os⟩) : wpAny M A (typeLookup (.ref a) name) Q E ⟨h, g, d, t, os⟩ := by
  subst hb
  unfold typeLookup
  refine wpAny_bind ?_
  show wpAny M A (do return (← classData a).mro) _ _ _
  refine wpAny_bind ?_
  unfold classData
  refine wpAny_bind (wpAny_load ho ?_)
  refine wpAny_pure (wpAny_pure ?_)
  dsimp only
  rw [hm]
  refine wpAny_bind ?_
  rw [List.forIn_cons]
  refine wpAny_bind ?_
  refine wpAny_bind ?_
  show wpAny M A (do nsGet (← classData a).ns name) _ _ _
  refine wpAny_bind ?_
  unfold classData
  refine wpAny_bind (wpAny_load ho ?_)
  refine wpAny_pure ?_
  unfold nsGet
  refine wpAny_bind (wpAny_loadPart hd ?_)
  rw [hl]
  refine wpAny_pure (wpAny_pure ?_)
  dsimp only
  rw [List.forIn_cons]
  refine wpAny_bind ?_
  refine wpAny_bind ?_
  show wpAny M A (pure (builtinOwn "object" name)) _ _ _
  refine wpAny_pure ?_
  cases e : builtinOwn "object" name with
  | some v => rw [e] at hq; exact wpAny_pure (wpAny_pure (wpAny_pure hq))
  | none => rw [e] at hq; exact wpAny_pure (wpAny_pure (wpAny_pure hq))
end
end Mine
end
section
open PySem PySem.W PyProof.Rows PySem.Calls PySem.Builtin
set_option maxHeartbeats 0
namespace Mine
section
variable {M : Model} {A : Around} {E : Value → Shared → Prop} {s : Shared} {α : Type}
theorem sub_true {T : String} {b : Value} {Q : Bool → Shared → Prop} (h : (fastBuiltinMro T).map (·.contains b) = some true) (hq : Q true s) : wpAny M A (isSubtype (.type T) b) Q E s := by
  obtain ⟨m, e, h⟩ := Option.map_eq_some_iff.mp h
  exact wpAny_of_eq (by rw [isSubtype_type, e]; exact congrArg pure h) hq
theorem sub_false {T : String} {b : Value} {Q : Bool → Shared → Prop} (h : (fastBuiltinMro T).map (·.contains b) = some false) (hq : Q false s) : wpAny M A (isSubtype (.type T) b) Q E s := by
  obtain ⟨m, e, h⟩ := Option.map_eq_some_iff.mp h
  exact wpAny_of_eq (by rw [isSubtype_type, e]; exact congrArg pure h) hq
theorem tl_none {T : String} {n : Str} {Q : Option Value → Shared → Prop} (h : fastLookup T n = some none) (hq : Q none s) : wpAny M A (typeLookup (.type T) n) Q E s :=
  wpAny_of_eq (by rw [typeLookup_type, builtinLookup_eq_fast, h]) hq
theorem tl_some {T : String} {n : Str} (v : Value) {Q : Option Value → Shared → Prop} (h : fastLookup T n = some (some v)) (hq : Q (some v) s) : wpAny M A (typeLookup (.type T) n) Q E s :=
  wpAny_of_eq (by rw [typeLookup_type, builtinLookup_eq_fast, h]) hq
theorem for_arr {β γ : Type} {l : List γ} {b : β} {f : γ → β → Sem (ForInStep β)} {Q : β → Shared → Prop} (hq : wpAny M A (forIn l b f) Q E s) : wpAny M A (forIn l.toArray b f) Q E s := by
  rw [List.forIn_toArray]; exact hq
theorem for_nil {β γ : Type} {b : β} {f : γ → β → Sem (ForInStep β)} {Q : β → Shared → Prop} (hq : Q b s) : wpAny M A (forIn ([] : List γ) b f) Q E s := wpAny_pure hq
theorem for_cons {β γ : Type} {x : γ} {l : List γ} {b : β} {f : γ → β → Sem (ForInStep β)} {Q : β → Shared → Prop} (hq : wpAny M A (f x b) (fun r s' => match r with | .done b => Q b s' | .yield b => wpAny M A (forIn l b f) Q E s') E s) : wpAny M A (forIn (x :: l) b f) Q E s := by
  rw [List.forIn_cons]
  refine wpAny_bind ?_
  revert hq
  exact fun hq => wpAny_mono hq (fun r s' h => by cases r with | done b => exact wpAny_pure h | yield b => exact h) (fun _ _ h => h)
theorem coll_list {prog : Program} {w : World} {Q : List Value → Shared → Prop} {v : Value} (it : Addr) {items : Array Value} {n : Nat} {h : Heap} {g d t os} (hv : v = .ref it) (ho : h.get? it = some { cls := .type "list", data := .seq items n }) (hsz : items.size ≤ sizeLine)
    (hQ : ∀ h', (∀ b o', h.get? b = some o' → h'.get? b = some o') → Q items.toList ⟨h', g, d, t, os⟩) : wpAny (model prog w) A (collect v) Q E ⟨h, g, d, t, os⟩ := by
  subst hv
  exact wpAny_collect_seq it (.inl rfl) ho rfl rfl hQ hsz
theorem lb_ok {h : Heap} {g : Array GenState} {d : Drawn} {t : Nat} {os : OsState} {a : Addr} {q : Option Value} {o : Obj} {Q : Unit → Shared → Prop} (ho : h.get? a = some o) (hp : o.data.pastItsLine = none) (hq : Q () ⟨h, g, d, t, os⟩) : wpAny M A (lookBehind a q) Q E ⟨h, g, d, t, os⟩ := by
  unfold lookBehind
  refine wpAny_bind (wpAny_loadPart ho ?_)
  rw [hp]
  exact wpAny_pure hq
theorem tc_sem {m : Sem α} {k : Value → Sem α} {Q : α → Shared → Prop} (h : wpAny M A m Q (fun e s' => wpAny M A (k e) Q E s') s) : wpAny M A (Sem.tryCatch m k) Q E s := wpAny_tryCatch h
theorem any_self {a : Addr} {l : List Value} {f : Value → Sem Bool} {Q : Bool → Shared → Prop} (hl : l = [.ref a, .type "object"]) (h : wpAny M A (f (.type "object")) Q E s) : wpAny M A ((l.filter (· != .ref a)).anyM f) Q E s := by
  subst hl
  have e : ([Value.ref a, .type "object"].filter (· != .ref a)) = [.type "object"] := by simp
  rw [e]
  show wpAny M A (f (.type "object") >>= fun b => match b with | true => pure true | false => pure false) Q E s
  refine wpAny_bind (wpAny_mono h (fun b s' q => ?_) fun _ _ x => x)
  cases b <;> exact wpAny_pure q
theorem coll_stop {v : Value} {Q : List Value → Shared → Prop} (h : wpAny M A (collect v) Q E s) : wpAny M A (collect v) Q E s := h
structure Hid {β : Type} (M : Model) (A : Around) (f : α → Sem β) (Q : β → Shared → Prop) (E : Value → Shared → Prop) (R : α → Shared → Prop) : Prop where
  h : ∀ v s', wpAny M A (f v) Q E s' → R v s'
theorem bind_hide {β : Type} {t : Sem α} {f : α → Sem β} {Q : β → Shared → Prop} (h : ∀ R : α → Shared → Prop, Hid M A f Q E R → wpAny M A t R E s) : wpAny M A (t >>= f) Q E s :=
  wpAny_bind (h _ ⟨fun _ _ x => x⟩)
noncomputable def Ends (v : α) (s : Shared) : α → Shared → Prop := fun v' s' => v' = v ∧ s' = s
theorem ends_refl {v : α} {s : Shared} : Ends v s v s := ⟨rfl, rfl⟩
theorem bind_seq {β : Type} {t : Sem α} {f : α → Sem β} {Q : β → Shared → Prop} {v : α} {s' : Shared} (h1 : wpAny M A t (Ends v s') E s) (h2 : wpAny M A (f v) Q E s') : wpAny M A (t >>= f) Q E s :=
  wpAny_bind (wpAny_mono h1 (fun _ _ e => by obtain ⟨rfl, rfl⟩ := e; exact h2) fun _ _ x => x)
theorem ite_t {b : Bool} {x y : Sem α} {Q : α → Shared → Prop} (h : b = true) (hq : wpAny M A x Q E s) : wpAny M A (if b = true then x else y) Q E s := by rw [if_pos h]; exact hq
theorem ite_f {b : Bool} {x y : Sem α} {Q : α → Shared → Prop} (h : b = false) (hq : wpAny M A y Q E s) : wpAny M A (if b = true then x else y) Q E s := by rw [if_neg (by rw [h]; decide)]; exact hq
theorem ite_n {c : Prop} [Decidable c] {x y : Sem α} {Q : α → Shared → Prop} (h : ¬ c) (hq : wpAny M A y Q E s) : wpAny M A (if c then x else y) Q E s := by rw [if_neg h]; exact hq
theorem ite_p {c : Prop} [Decidable c] {x y : Sem α} {Q : α → Shared → Prop} (h : c) (hq : wpAny M A x Q E s) : wpAny M A (if c then x else y) Q E s := by rw [if_pos h]; exact hq
theorem hidT {P : Prop} (h : ∀ G : Prop, (P → G) → G) : P := h P id
end
theorem id_obj : Slots.isIdentifier (Str.ofString "obj") = some true := by decide +kernel
section
variable {prog : Program} {w : World} {A : Around} {E : Value → Shared → Prop} {h₀ h : Heap} {chg news : List (Addr × Obj)} {g : Array GenState} {d : Drawn} {t : Nat} {os : OsState}
theorem m_alloc {o : Obj} {Q : Addr → Shared → Prop} (D : X.Mem h₀ h chg news) (hf : o.isFreed = false) (x : ∀ a h', X.Mem h₀ h' chg ((a, o) :: news) → Q a ⟨h', g, d, t, os⟩) : wpAny (model prog w) A (alloc o) Q E ⟨h, g, d, t, os⟩ :=
  wpAny_alloc (x _ _ (D.alloc hf))
theorem m_updateP {a : Addr} {q : Option Value} {f : Obj → Obj} {o : Obj} {Q : Unit → Shared → Prop} (D : X.Mem h₀ h chg news) (i : Nat) (hi : news[i]? = some (a, o)) (o' : Obj) (ho : f o = o') (hf : o'.isFreed = false)
    (x : ∀ h', X.Mem h₀ h' chg (news.set i (a, o')) → Q () ⟨h', g, d, t, os⟩) : wpAny (model prog w) A (updatePart a q f) Q E ⟨h, g, d, t, os⟩ := by
  subst ho
  exact wpAny_updatePart (D.at i a o hi) (x _ (D.update hi hf))
theorem m_update {a : Addr} {f : Obj → Obj} {o : Obj} {Q : Unit → Shared → Prop} (D : X.Mem h₀ h chg news) (i : Nat) (hi : news[i]? = some (a, o)) (o' : Obj) (ho : f o = o') (hf : o'.isFreed = false)
    (x : ∀ h', X.Mem h₀ h' chg (news.set i (a, o')) → Q () ⟨h', g, d, t, os⟩) : wpAny (model prog w) A (update a f) Q E ⟨h, g, d, t, os⟩ := m_updateP D i hi o' ho hf x
theorem mem_new (D : X.Mem h₀ h chg news) (i : Nat) {a : Addr} {o : Obj} (hi : news[i]? = some (a, o)) : h.get? a = some o := D.at i a o hi
theorem mem_old {a : Addr} {o : Obj} (D : X.Mem h₀ h chg news) (ho : h₀.get? a = some o) (hc : (X.hasCls o || X.away chg a) = true) : h.get? a = some o := D.keep a o ho hc
theorem mem_keeps {h' : Heap} (k : ∀ b o, h.get? b = some o → h'.get? b = some o) : X.Mem h h' [] [] :=
  ⟨fun b o e _ => k b o e, fun _ h => (nomatch h), List.nodup_nil, fun _ h => (nomatch h), List.Pairwise.nil⟩
end
theorem for_after {M : Model} {A : Around} {E : Value → Shared → Prop} {s : Shared} {β : Type} {a : Addr} {c : Value} {l : List Value} {b : β} {f : Value → β → Sem (ForInStep β)} {Q : β → Shared → Prop} (hc : c = .ref a) (hl : l = [.ref a, .type "object"])
    (hq : wpAny M A (f (.type "object") b) (fun r s' => match r with | .done b => Q b s' | .yield b => Q b s') E s) : wpAny M A (forIn ((l.dropWhile (· != c)).drop 1) b f) Q E s := by
  subst hc
  subst hl
  have e : ([Value.ref a, .type "object"].dropWhile (· != .ref a)).drop 1 = [.type "object"] := by simp
  rw [e]
  refine for_cons (wpAny_mono hq (fun r s' h => ?_) fun _ _ x => x)
  cases r with
  | done b => exact h
  | yield b => exact for_nil h
theorem bo_init : builtinOwn "object" (Str.ofString "__init_subclass__") = some (.builtin "object.__init_subclass__") := by kernel_rfl!
end Mine
end
section
set_option hygiene false
open PySem PySem.W PyProof.Rows PySem.Calls
namespace Mine
section
variable {prog : Program} {w : World} {A : Around} {E : Value → Shared → Prop}
theorem ty_str : typeOf (.type "str") = pure (.type "type") := by first | rfl | kernel_rfl
theorem isub_nest {k : Value} {dep : Int} {tk : Tok} {s : Shared} {Q : Fin → Shared → Prop} (hk : k = .int dep tk) (hq : Q (.done (.ret (.bool true))) s) :
    wpAny (model prog w) A (Builtin.«issubclass.nested» ⟨[.type "str", .type "str", k], []⟩) Q E s := by
  subst hk
  have h1 := ty_str
  have h2 : isType (.type "str") = pure true := by first | rfl | kernel_rfl | (unfold isType; rw [isSubtype_type]; kernel_rfl)
  have h3 : isSubtype (.type "str") (.type "str") = pure true := by rw [isSubtype_type]; kernel_rfl
  repeat (any_goals (first | assumption | (rw [if_pos h1]) | (rw [h3]) | wp_step))
theorem if_no {α : Type} {M : Model} {c : Prop} [Decidable c] {x y : Sem α} {s : Shared} {Q : α → Shared → Prop} (h : ¬ c) (hq : wpAny M A y Q E s) : wpAny M A (if c then x else y) Q E s := by rw [if_neg h]; exact hq
theorem isub_tup {D : Addr} {n : Nat} {s : Shared} {R : Result → Shared → Prop} (hD : s.heap.get? D = some { cls := .type "tuple", data := .seq #[.type "str", .type "bytes"] n }) (hq : R (.ok (.ret (.bool true))) s) :
    wpAny (model prog w) A.in1 (Builtin.«issubclass.nested» ⟨[.type "str", .ref D, rawInt 0], []⟩) (fun fin s' => match fin with | .done f => R (.ok f) s' | .again c' => c'.quiet = true ∧ codeAny (model prog w) A c' R s') (fun e s' => R (.error e) s') s := by
  obtain ⟨h, g, d, t, os⟩ := s
  unfold Builtin.«issubclass.nested»
  have hT : (⟨h, g, d, t, os⟩ : Shared).TypeIs (.ref D) "tuple" := ⟨_, hD, rfl⟩
  repeat (any_goals (first | assumption | wp_step))
  refine sub_true (by kernel_rfl) ?_
  rw [if_pos rfl]
  refine if_no (by decide) ?_
  dsimp only
  repeat (any_goals (first | assumption | wp_step))
  refine codeAny_call_builtin_at (Code.quiet_builtin _ (by decide +kernel)) F.entry_issubclass_nested ?_
  refine wpAny_of_eq (a := ()) (by first | rfl | kernel_rfl) ?_
  refine isub_nest rfl ?_
  dsimp only
  repeat (any_goals (first | assumption | wp_step))
theorem issub_str {D : Addr} {n : Nat} {s : Shared} {Q : Value → Shared → Prop} (hD : s.heap.get? D = some { cls := .type "tuple", data := .seq #[.type "str", .type "bytes"] n }) (hq : Q (.bool true) s) :
    wpAny (model prog w) A (call (.builtin "issubclass") [.type "str", .ref D]) Q E s :=
  call_issubclass (S := fun _ R s => s.heap.get? D = some { cls := .type "tuple", data := .seq #[.type "str", .type "bytes"] n } ∧ R (.ok (.ret (.bool true))) s) (fun _ _ _ _ _ h => issubclass_outer (isub_tup h.1 h.2)) ⟨hD, hq⟩
end
end Mine
end
section
set_option hygiene false
open PySem PySem.W PyProof.Rows PySem.Calls
namespace Mine
section
variable {prog : Program} {w : World} {A : Around} {E : Value → Shared → Prop} {s : Shared} {h₀ : Heap} {L : Addr} {m : Str → Option Value} {env : Env}
theorem CompEnd.mono {s₁ s₂ : Shared} {I C D : Addr} {oI oC oD : Obj} {S : List (Addr × Obj) → Prop} {R R' : Value → List (Addr × Obj) → Prop} {y : Value} (k : ∀ nw, R y nw → R' y nw) (h : LCg.CompEnd h₀ L m s₁ I oI C oC D oD S R y s₂) : LCg.CompEnd h₀ L m s₁ I oI C oC D oD S R' y s₂ := by
  obtain ⟨h', tk, nw, e, F, N, o, hS, r⟩ := h
  exact ⟨h', tk, nw, e, F, N, o, hS, k nw r⟩
theorem restT_ind {ct elt : Expr} {x : Str} {scope : Scope} {cl : List (Str × Addr)} {S : List (Addr × Obj) → Prop} {P : Nat → Value → Prop} {Fin : List Value → List (Addr × Obj) → Prop} {n : Nat} {news : List (Addr × Obj)} (Inv : Nat → List Value → List (Addr × Obj) → Prop)
    (h0 : Inv 0 [] news) (done : ∀ ys nw, Inv n ys nw → Fin ys nw)
    (step : ∀ i ys nw v I oI C oC D m₂ h tk (E' : Value → Shared → Prop), i < n → Inv i ys nw → P i v → LCg.NsObj oC m₂ → m₂ x = some v → Fr h₀ L h m → News h₀ L h ((I, oI) :: (C, oC) :: (D, LCg.lst ys) :: nw) → LCg.Off3 I C D nw → ((@Ne Nat I C) ∧ (@Ne Nat I D) ∧ (@Ne Nat C D)) →
      wpAny (model prog w) A (isTrue ct (compEnvC scope cl C env) (eval ct (compEnvC scope cl C env))) (fun ok s' => if ok = true then
        wpAny (model prog w) A (eval elt (compEnvC scope cl C env)) (LCg.CompEnd h₀ L m { s with heap := h, toks := tk } I oI C oC D (LCg.lst ys) S (fun y nw' => Inv (i + 1) (ys ++ [y]) nw')) E' s'
        else LCg.CompEnd h₀ L m { s with heap := h, toks := tk } I oI C oC D (LCg.lst ys) S (fun _ nw' => Inv (i + 1) ys nw') Value.none s') E' { s with heap := h, toks := tk }) :
    LCt.CompRestT prog w A h₀ L m env ct elt x scope cl s S P Fin n 0 [] news := by
  have all : ∀ k i ys nw, i + k = n → Inv i ys nw → LCt.CompRestT prog w A h₀ L m env ct elt x scope cl s S P Fin k i ys nw := by
    intro k
    induction k with
    | zero => intro i ys nw e hi; exact LCt.CompRestT.zero (done ys nw (by rw [← e]; exact hi))
    | succ k ih =>
      intro i ys nw e hi
      refine LCt.CompRestT.succ fun v I oI C oC D m₂ h tk E' hP hC hx F N off ne => ?_
      refine wpAny_mono (step i ys nw v I oI C oC D m₂ h tk E' (by omega) hi hP hC hx F N off ne) (fun ok s' q => ?_) fun _ _ q => q
      cases ok with
      | true =>
        simp only [if_true] at q ⊢
        exact wpAny_mono q (fun y s₂ z => CompEnd.mono (fun nw' r => ih (i + 1) _ _ (by omega) r) z) fun _ _ q => q
      | false =>
        simp only [Bool.false_eq_true, if_false] at q ⊢
        exact CompEnd.mono (fun nw' r => ih (i + 1) _ _ (by omega) r) q
  exact all n 0 [] news (by omega) h0
theorem rest_ind {elt : Expr} {x : Str} {scope : Scope} {cl : List (Str × Addr)} {S : List (Addr × Obj) → Prop} {P : Nat → Value → Prop} {Fin : List Value → List (Addr × Obj) → Prop} {n : Nat} {news : List (Addr × Obj)} (Inv : Nat → List Value → List (Addr × Obj) → Prop)
    (h0 : Inv 0 [] news) (done : ∀ ys nw, Inv n ys nw → Fin ys nw)
    (step : ∀ i ys nw v I oI C oC D m₂ h tk (E' : Value → Shared → Prop), i < n → Inv i ys nw → P i v → LCg.NsObj oC m₂ → m₂ x = some v → Fr h₀ L h m → News h₀ L h ((I, oI) :: (C, oC) :: (D, LCg.lst ys) :: nw) → LCg.Off3 I C D nw → ((@Ne Nat I C) ∧ (@Ne Nat I D) ∧ (@Ne Nat C D)) →
        wpAny (model prog w) A (eval elt (compEnvC scope cl C env)) (LCg.CompEnd h₀ L m { s with heap := h, toks := tk } I oI C oC D (LCg.lst ys) S (fun y nw' => Inv (i + 1) (ys ++ [y]) nw')) E' { s with heap := h, toks := tk }) :
    LCg.CompRest prog w A h₀ L m env elt x scope cl s S P Fin n 0 [] news := by
  have all : ∀ k i ys nw, i + k = n → Inv i ys nw → LCg.CompRest prog w A h₀ L m env elt x scope cl s S P Fin k i ys nw := by
    intro k
    induction k with
    | zero => intro i ys nw e hi; exact LCg.CompRest.zero (done ys nw (by rw [← e]; exact hi))
    | succ k ih =>
      intro i ys nw e hi
      refine LCg.CompRest.succ fun v I oI C oC D m₂ h tk E' hP hC hx F N off ne => ?_
      exact wpAny_mono (step i ys nw v I oI C oC D m₂ h tk E' (by omega) hi hP hC hx F N off ne) (fun y s₂ z => CompEnd.mono (fun nw' r => ih (i + 1) _ _ (by omega) r) z) fun _ _ q => q
  exact all n 0 [] news (by omega) h0
end
section
open PySem.Spec PyProof.V
noncomputable abbrev OkS (ns : List Str) : Prop := ∀ y ∈ ns, PyData.strOk y = true
theorem txt_lay : ∀ ns : List Str, OkS ns → PyData.canLayAll0 (ns.map PyData.str) = true
  | [], _ => rfl
  | y :: r, h => by simp [PyData.canLayAll0, PyData.canLay0, txt_lay r (fun z hz => h z (.tail _ hz)), h y (.head _)]
theorem txt_depth : ∀ ns : List Str, PyData.depthAll (ns.map PyData.str) = 0
  | [] => rfl
  | _ :: r => by simp [PyData.depthAll, PyData.depth, txt_depth r]
theorem txt_shaped (ns : List Str) (h : OkS ns) : SeqAt.shaped (.list (ns.map PyData.str)) = true := by
  simp [SeqAt.shaped, PyData.canLay0, PyData.depth, txt_lay ns h, txt_depth]
theorem txt_sameAll : ∀ ns ms : List Str, PySem.Spec.sameAll (ns.map PyData.str) (ms.map PyData.str) = decide (ns = ms)
  | [], [] => by simp [PySem.Spec.sameAll]
  | [], _ :: _ => by simp [PySem.Spec.sameAll]
  | _ :: _, [] => by simp [PySem.Spec.sameAll]
  | a :: r, b :: t => by
    simp only [List.map_cons, PySem.Spec.sameAll, PySem.Spec.same, txt_sameAll r t]
    by_cases h : a = b <;> by_cases h' : r = t <;> simp [h, h']
theorem txt_same (ns ms : List Str) : PySem.Spec.same (.list (ns.map PyData.str)) (.list (ms.map PyData.str)) = decide (ns = ms) := by
  simp only [PySem.Spec.same]; exact txt_sameAll ns ms
theorem txt_carried {vs : List Value} {ns : List Str} (h : StrsAre vs ns) : CarriedAll vs (ns.map PyData.str) := by
  induction h with
  | nil => exact .nil
  | cons _ t _ ih => exact .cons (.str _ t) ih
variable {prog : Program} {w : World} {A : Around} {E : Value → Shared → Prop} {s : Shared} {a b : Addr} {xs ys : List Value} {ns ms : List Str} {Q : Value → Shared → Prop}
theorem txt_eq (ha : s.heap.IsList a xs.toArray) (hb : s.heap.IsList b ys.toArray) (hi : StrsAre xs ns) (hj : StrsAre ys ms) (oi : OkS ns) (oj : OkS ms) (hu : A.units + 64 < cLine) (h : Q (.bool (decide (ns = ms))) s) :
    wpAny (model prog w) A (compareOp .Eq (.ref a) (.ref b)) Q E s :=
  eq_dataH_same (reads_newData ha (txt_carried hi)) (reads_newData hb (txt_carried hj)) (txt_shaped _ oi) (txt_shaped _ oj) hu (SeqAt.noMix_of_shape (.list .str) rfl _ _ (list_map_has fun _ => rfl) (list_map_has fun _ => rfl)) (by rw [txt_same]; exact h)
theorem oks_take {ns : List Str} (n : Nat) (h : OkS ns) : OkS (ns.take n) := fun y hy => h y (List.mem_of_mem_take hy)
theorem strs_take : ∀ {vs : List Value} {ys : List Str} (n : Nat), StrsAre vs ys → StrsAre (vs.take n) (ys.take n)
  | _, _, 0, _ => by simpa using StrsAre.nil
  | _, _, _ + 1, .nil => .nil
  | _, _, n + 1, .cons y t r => .cons y t (strs_take n r)
end
end Mine
end
section
set_option hygiene false
open PySem PySem.W PyProof.Rows PySem.Calls
namespace Mine
structure Stopped (P : Prop) : Prop where
  h : P
section
variable {prog : Program} {w : World} {A : Around} {E : Value → Shared → Prop} {s : Shared} {env : Env} {h₀ : Heap} {x : Str} {body : List Stmt} {Q : Flow → Shared → Prop}
theorem for_rng {L r : Addr} {a b : Int} {t u v : Tok} {n : Nat} {m₀ : Str → Option Value} {news : List (Addr × Obj)} (zs : List Str) (Inv : Nat → (Str → Option Value) → List (Addr × Obj) → Prop)
    (hh : A.handled = none) (hr : IsRange s.heap r a b 1 t u v) (hsm : Builtin.Range.small a b 1 = true) (hn : Builtin.Range.rangeSize a b 1 = ((n : Nat) : Int)) (F : Fr h₀ L s.heap m₀) (N : News h₀ L s.heap news) (hL : env.locals = L) (h0 : Inv 0 m₀ news)
    (turn : ∀ i t u nw h tk I oI, i < n → Inv i u nw → Fr h₀ L h (fun y => if y = x then some (.int (a + (i : Int)) t) else ovm (zs.map fun z => (z, u z)) m₀ y) → News h₀ L h ((I, oI) :: nw) → (∀ p ∈ nw, p.1 ≠ I) →
      wpAny (model prog w) A (execs body env) (TurnPostX h₀ L x zs m₀ (Inv (i + 1)) I oI { s with heap := h, toks := tk } Q) E { s with heap := h, toks := tk })
    (done : ∀ u nw h tk, Inv n u nw → Fr h₀ L h (fun y => if y = x then u x else ovm (zs.map fun z => (z, u z)) m₀ y) → News h₀ L h nw → Q .next { s with heap := h, toks := tk }) :
    wpAny (model prog w) A (pyIter (.ref r)) (fun it s₂ => LoopAtV prog w A h₀ env x body Q E it s₂) E s := by
  refine wpAny_pyIter_range hr hsm ?_
  exact loopX zs Inv (LCg.range_walks (prog := prog) (w := w) (I := s.heap.objs.size) hh a n) hL (next_is_new F) (off_new N) (by show IsRangeIter _ _ _ _ _; rw [hn]; simpa using Heap.get?_push_size _ rfl) (F.push _) (fun p hp => ⟨Heap.get?_push_of_some _ (N p hp).1, (N p hp).2⟩) h0 (.head _)
    (fun i h q => ⟨_, q⟩) (fun a ha => ⟨(List.mem_singleton.mp ha).symm ▸ Nat.ne_of_gt F.ns.lt, .inl (List.mem_singleton.mp ha)⟩) (fun i v u nw h tk oI hi q => Exists.elim q fun t e => e ▸ turn i t u nw h tk _ oI hi) done
end
theorem rng_size (n : Nat) : Builtin.Range.rangeSize 0 (n : Int) 1 = (n : Int) := by
  unfold Builtin.Range.rangeSize
  simp
  omega
theorem rng_small {n : Nat} (h : n ≤ 100000) : Builtin.Range.small 0 (n : Int) 1 = true := by
  unfold Builtin.Range.small
  rw [rng_size]
  have f : ∀ m : Int, 0 ≤ m → m ≤ 100000 → Builtin.Range.rangeFitsLong m = true := by
    intro m h0 h1
    unfold Builtin.Range.rangeFitsLong
    simp
    omega
  simp [f 0 (by omega) (by omega), f n (by omega) (by omega), f 1 (by omega) (by omega)]
section
variable {prog : Program} {w : World} {A : Around} {E : Value → Shared → Prop} {s : Shared}
theorem item_nat {value slice : PySem.Expr} {l : Addr} {vs : List Value} {i : Nat} {x : Value} {u : Tok} {Q : Value → Shared → Prop} (hl : s.heap.IsList l vs.toArray) (hz : vs.length ≤ 100000) (hx : vs[i]? = some x) (h : Q x s)
    (hs : subscripted slice false (.ref l) (.int (i : Int) u) = operate [.ref l, .int (i : Int) u] (getItem (.ref l) (.int (i : Int) u)) := by with_unfolding_all rfl) :
    wpAny (model prog w) A (subscriptTail value slice (.ref l) (.int (i : Int) u)) Q E s := by
  have hi : i < vs.length := by
    rcases Nat.lt_or_ge i vs.length with h | h
    · exact h
    · rw [List.getElem?_eq_none h] at hx; cases hx
  exact tail_any hl.typeIs slot_list_getitem.lookup (wpAny_getItem_list (x := x) hl (Int.natCast_nonneg _) (by omega) (by simpa using hx) h) hs
end
section
variable {prog : Program} {w : World} {A : Around} {E : Value → Shared → Prop} {s : Shared}
theorem nil_eq {a b : Addr} {xs : List Value} {Q : Value → Shared → Prop} (ha : s.heap.IsList a xs.toArray) (hb : s.heap.IsList b #[]) (hu : A.units + 64 < cLine) (h : Q (.bool (decide (xs.length = 0))) s) :
    wpAny (model prog w) A (compareOp .Eq (.ref a) (.ref b)) Q E s := by
  by_cases e : xs = []
  · subst e
    exact PySem.SeqAt.eq_listAt (e := fun _ => true) ha hb rfl (by omega) (fun j h1 _ => absurd h1 (by simp)) h
  · have hl : xs.length ≠ 0 := fun z => e (List.eq_nil_of_length_eq_zero z)
    refine PySem.SeqAt.eq_list_lengthsAt ha hb ?_ (by omega) ?_
    · simp [hl]
    · simpa [hl] using h
end
noncomputable def NotTup (h : Heap) (x : Addr) : Prop := ∃ o, h.get? x = some o ∧ o.cls ≠ .type "tuple"
theorem isnot_refs {prog : Program} {w : World} {A : Around} {E : Value → Shared → Prop} {s : Shared} {h₀ : Heap} {L x y : Addr} {m : Str → Option Value} {Q : Value → Shared → Prop} (F : Fr h₀ L s.heap m) (hx : NotTup h₀ x) (hy : NotTup h₀ y) (h : Q (.bool (decide (x ≠ y))) s) :
    wpAny (model prog w) A (compareOp .IsNot (.ref x) (.ref y)) Q E s := by
  obtain ⟨ox, ex, nx⟩ := hx
  obtain ⟨oy, ey, _⟩ := hy
  by_cases e : x = y
  · subst e
    exact wpAny_isNot_ref_self (by simpa using h)
  · exact wpAny_isNot_ref_other e (F.keep _ _ ex) (F.keep _ _ ey) nx (by simpa [e] using h)
end Mine
end
section
set_option hygiene false
open PySem PySem.W PyProof.Rows PySem.Calls
namespace Mine
section
variable {prog : Program} {w : World} {A A₀ : Around} {s : Shared} {K : Frag} {L : Addr} {h₀ base : Heap} {m mg mb : Str → Option Value} {p : Program} {loose : List Str} {mean : ExcName → Option Value}
theorem enterH {env : Env} {outer : List Env} {R : Result → Shared → Prop} {name qual : Str} {params : Arguments} {body : List Stmt} {scope : Scope} {clos : List (Str × Addr)} {dV kV doc pm cdv ct : Value} {an : Option Addr} {fo : Obj} {f : Addr} {args : Args} {binds : List (Str × Value)}
    (B : Below A₀ base outer h₀) (F : Fr h₀ L s.heap m) (X₀ : K.In h₀) (XB : KBIn w h₀) (T : Top p loose mean mg mb h₀) (hA : A.frames = some (env :: outer)) (hf : env.frame = some L) (hke : env.scope.kind = .function)
    (ho : s.heap.get? f = some fo) (hd : fo.data = .func (fnX name qual params body scope clos dV kV doc pm an cdv ct)) (hcd : s.heap.CodeRec cdv qual) (hroom : A.depth < recursionLimit)
    (hbind : BindsTo s (fnX name qual params body scope clos dV kV doc pm an cdv ct) args binds) (hloc : ∀ y ∈ binds, scope.names.lookup y.1 = some .local)
    (h : ∀ L' h₁, Fr s.heap L' h₁ (fun y => binds.reverse.lookup y) → News s.heap L' h₁ [] → Below A base (env :: outer) s.heap → K.In s.heap → KBIn w s.heap → Top p loose mean mg mb s.heap →
      wpAny (model prog w) (A.deeper (envX qual scope L' f cdv clos)) (execs body (envX qual scope L' f cdv clos))
        (fun fl s' => LeaveX R (match fl with | .ret v => v | _ => .none) s')
        (fun _ _ => False)
        { s with heap := h₁, toks := s.toks + binds.length })
    (hco : scope.isCoroutine = false) (hgen : scope.isGenerator = false) (hk : scope.kind = .function)
    (hcell : ∀ x ∈ scope.names, x.2 ≠ .cell) : codeAny (model prog w) A (.call (.ref f) args) R s := by
  obtain ⟨FG, BG, st, lv⟩ := groundX (R := R) (news := []) B F News.nil hA hf hke
  refine codeAny_call_def (fd := fnX name qual params body scope clos dV kV doc pm an cdv ct) (body := body) (binds := binds) hroom ho hd (T.nolimit.keeps F.keep) hcd rfl hbind hcell hloc (fun h₁ hns hk₁ => ?_) hco hgen hk
  exact wpAny_mono (h s.heap.objs.size h₁ ⟨hns, hk₁, Nat.le_refl _⟩ News.nil BG (X₀.keeps F.keep) (XB.keeps F.keep) (T.keeps F.keep)) (fun fl s' hl => hl) fun _ _ y => y.elim
theorem enterE {env : Env} {outer : List Env} {R : Result → Shared → Prop} {name qual : Str} {params : Arguments} {body : Expr} {scope : Scope} {clos : List (Str × Addr)} {pm cdv ct : Value} {fo : Obj} {f : Addr} {args : Args} {binds : List (Str × Value)}
    (B : Below A₀ base outer h₀) (F : Fr h₀ L s.heap m) (X₀ : K.In h₀) (XB : KBIn w h₀) (T : Top p loose mean mg mb h₀) (hA : A.frames = some (env :: outer)) (hf : env.frame = some L) (hke : env.scope.kind = .function)
    (ho : s.heap.get? f = some fo) (hd : fo.data = .func (kla_fn name qual params body scope clos pm cdv ct)) (hcd : s.heap.CodeRec cdv qual) (hroom : A.depth < recursionLimit)
    (hbind : bindArgs (kla_fn name qual params body scope clos pm cdv ct) args = pure binds) (hloc : ∀ y ∈ binds, scope.names.lookup y.1 = some .local)
    (h : ∀ L' h₁, Fr s.heap L' h₁ (fun y => binds.reverse.lookup y) → News s.heap L' h₁ [] → Below A base (env :: outer) s.heap → K.In s.heap → KBIn w s.heap → Top p loose mean mg mb s.heap →
      wpAny (model prog w) (A.deeper (envX qual scope L' f cdv clos)) (eval body (envX qual scope L' f cdv clos))
        (fun v s' => LeaveX R v s')
        (fun _ _ => False)
        { s with heap := h₁, toks := s.toks + binds.length })
    (hco : scope.isCoroutine = false) (hgen : scope.isGenerator = false) (hk : scope.kind = .function)
    (hcell : ∀ x ∈ scope.names, x.2 ≠ .cell) : codeAny (model prog w) A (.call (.ref f) args) R s := by
  obtain ⟨FG, BG, st, lv⟩ := groundX (R := R) (news := []) B F News.nil hA hf hke
  refine kla_callFunE hroom ho hd hco hgen rfl hcd ?_
  rw [hbind]
  refine wpAny_pure (wpAny_newFunctionEnv hcell hloc (fun h₁ hns hsb => ⟨(T.nolimit.keeps F.keep).fresh _ hsb, ?_⟩) hk)
  show codeAny _ _ (.expr body (envX qual scope s.heap.objs.size f cdv clos)) _ _
  have hk₁ : ∀ b o, s.heap.get? b = some o → h₁.get? b = some o := fun b o e => hsb.extBut b o (Nat.ne_of_lt (Heap.lt_size e)) (Heap.get?_push_of_some _ e)
  exact kla_codeExpr (wpAny_mono (h s.heap.objs.size h₁ ⟨hns, hk₁, Nat.le_refl _⟩ News.nil BG (X₀.keeps F.keep) (XB.keeps F.keep) (T.keeps F.keep)) (fun v s' hl => hl) fun _ _ y => y.elim)
end
section
variable {M : Model} {A : Around} {E : Value → Shared → Prop} {s : Shared} {h₀ : Heap} {L a : Addr} {m : Str → Option Value} {cn : Str} {cs : Scope} {ccd : Value} {cl : List (Str × Addr)} {x : Str} {pos : Pos} {v : Value} {Q : Value → Shared → Prop} {c : Addr} {o : Obj}
theorem nameX_FB (F : Fr h₀ L s.heap m) (hm : h₀.get? c = some o) (hd : o.data = .cell (some v)) (hc : cl.lookup x = some c) (h : Q v s)
    (hk : cs.kind = .function := by rfl) (hx : (envX cn cs L a ccd cl).kindOf x = some .free := by rfl) (hb : (x == ("__debug__" : Str)) = false := by decide) (hn : (x == ("__classdict__" : Str)) = false := by decide) :
    wpAny M A (eval (.Name x pos) (envX cn cs L a ccd cl)) Q E s := wpAny_Name (wpAny_loadName_free hk hx hc ⟨o, F.keep _ _ hm, hd⟩ h hn) hb
end
end Mine
end
section
set_option hygiene false
open PySem PySem.W PyProof.Rows PySem.Calls
namespace Mine
theorem wp_peek1 {α : Type} {K : Frag} {M : Model} {A : Around} {E : Value → Shared → Prop} {Q : α → Shared → Prop} {s : Shared} {o : Obj} {r : Addr → α} (X : K.In s.heap) (q : Q (r s.heap.objs.size) { s with heap := s.heap.push o }) :
    ∀ (t : Sem α) (g : Addr → Option α), peek1 K ⟨M.prog, M.w.params⟩ t = some (o, g) → (∀ D, g D = some (r D)) → wpAny M A t Q E s := by
  intro t
  induction t with
  | rule _ k ih => intro g e hg Γ p hΓ; exact ih () g e hg Γ p hΓ
  | point _ k ih => intro g e hg Γ p hΓ; exact ih () g e hg Γ p hΓ
  | ask k ih => intro g e hg Γ p hΓ; exact ih _ g e hg Γ p hΓ
  | load a _ k ih =>
    intro g e hg Γ p hΓ
    simp only [peek1] at e
    split at e
    · rename_i ob ho; exact ⟨ob, X _ _ ho, ih ob g e hg Γ p hΓ⟩
    · cases e
  | alloc ob k _ =>
    intro g e hg
    have e : some (ob, fun D => peek K ⟨M.prog, M.w.params⟩ (k D)) = some (o, g) := e
    obtain ⟨e1, e2⟩ := Prod.mk.inj (Option.some.inj e)
    subst e1
    subst e2
    have X' : K.In (s.heap.push ob) := X.keeps fun b x hb => Heap.get?_push_of_some _ hb
    show wpAny M A (alloc ob >>= k) Q E s
    refine wpAny_bind (wpAny_alloc ?_)
    exact (Looks.of_peek (M := M) (h := s.heap.push ob) X' (hg s.heap.objs.size)).here (s := { s with heap := s.heap.push ob }) q
  | _ => intro g e; cases e
section
variable {prog : Program} {w : World} {A A₀ : Around} {s : Shared} {K : Frag} {L : Addr} {h₀ base : Heap} {m mg mb : Str → Option Value} {p : Program} {loose : List Str} {mean : ExcName → Option Value}
theorem enter0R {env : Env} {outer : List Env} {R : Result → Shared → Prop} {name qual : Str} {params : Arguments} {body : List Stmt} {scope : Scope} {dV kV doc pm cdv ct oc : Value} {an od : Option Addr} {osl : Array (Option Value)} {f : Addr} {args : Args} {vs : List Value} {g₁ : Addr → Option (List (Str × Value))} {binds : Addr → List (Str × Value)}
    (B : Below A₀ base outer h₀) (F : Fr h₀ L s.heap m) (X₀ : K.In h₀) (XB : KBIn w h₀) (T : Top p loose mean mg mb h₀) (hA : A.frames = some (env :: outer)) (hf : env.frame = some L) (hke : env.scope.kind = .function)
    (ho : K.lookup f = some ⟨oc, od, .func (fnOf name qual params body scope dV kV doc pm an cdv ct), osl⟩) (hcd : codeIn K cdv qual = true) (hroom : A.depth < recursionLimit)
    (hv : args.pos.drop (params.posonlyargs.length + params.args.length) = vs)
    (hp : peek1 K ⟨prog, w.params⟩ (bindArgs (fnOf name qual params body scope dV kV doc pm an cdv ct) args) = some (({ cls := .type "tuple", data := .seq vs.toArray } : Obj), g₁))
    (hg : ∀ D, g₁ D = some (binds D)) (hloc : ∀ D, ∀ y ∈ binds D, scope.names.lookup y.1 = some .local)
    (h : ∀ D g L' h₁, (∀ b o, s.heap.get? b = some o → g.get? b = some o) → Fr g L' h₁ (fun y => (binds D).reverse.lookup y) → News g L' h₁ [(D, ({ cls := .type "tuple", data := .seq vs.toArray } : Obj))] → Below A base (env :: outer) g → K.In g → KBIn w g → Top p loose mean mg mb g →
      wpAny (model prog w) (A.deeper (envOf qual scope L' f cdv)) (execs body (envOf qual scope L' f cdv))
        (fun fl s' => LeaveX R (match fl with | .ret v => v | _ => .none) s')
        (fun _ _ => False)
        { s with heap := h₁, toks := s.toks + (binds D).length })
    (hco : scope.isCoroutine = false) (hgen : scope.isGenerator = false) (hk : scope.kind = .function)
    (hcell : ∀ x ∈ scope.names, x.2 ≠ .cell) : codeAny (model prog w) A (.call (.ref f) args) R s := by
  have _ := hv
  refine codeAny_call_function (fd := fnX name qual params body scope [] dV kV doc pm an cdv ct) (body := body) hroom ((X₀.keeps F.keep) _ _ ho) rfl hco hgen rfl (codeRec_of (X₀.keeps F.keep) hcd) ?_
  have key := wp_peek1 (M := model prog w) (A := A.in1) (s := s) (E := fun e s'' => R (.error e) s'') (Q := fun bs s₂ => wpAny (model prog w) A.in1 (newFunctionEnv scope mainGlobals [] bs (qual ++ ".<locals>.") (some f) cdv none builtinsNs) (fun env' s₂ => s₂.heap.NoLimit ∧ codeAny (model prog w) A (.func body env') R s₂) (fun e s'' => R (.error e) s'') s₂)
    (o := ({ cls := .type "tuple", data := .seq vs.toArray } : Obj)) (X₀.keeps F.keep) (r := binds) ?_ (bindArgs (fnOf name qual params body scope dV kV doc pm an cdv ct) args) g₁ hp hg
  · exact key
  · have hup : ∀ b o, s.heap.get? b = some o → (s.heap.push ({ cls := .type "tuple", data := .seq vs.toArray } : Obj)).get? b = some o := fun b o e => Heap.get?_push_of_some _ e
    have F' := F.push ({ cls := .type "tuple", data := .seq vs.toArray } : Obj)
    have N' := News.push F (News.nil (L := L)) ({ cls := .type "tuple", data := .seq vs.toArray } : Obj)
    obtain ⟨FG, BG, st, lv⟩ := groundX (s := { s with heap := s.heap.push ({ cls := .type "tuple", data := .seq vs.toArray } : Obj) }) (R := R) B F' N' hA hf hke
    have hD0 : s.heap.get? s.heap.objs.size = none := by
      cases q : s.heap.get? s.heap.objs.size with
      | none => rfl
      | some o => exact absurd (Heap.lt_size q) (Nat.lt_irrefl _)
    have hsg : ∀ b o, s.heap.get? b = some o → (hideAll (s.heap.push ({ cls := .type "tuple", data := .seq vs.toArray } : Obj)) [s.heap.objs.size]).get? b = some o := fun b o e => hideAll_get _ (hup b o e) (by
      intro hm
      have := List.mem_singleton.mp hm
      rw [this, hD0] at e; cases e)
    refine wpAny_newFunctionEnv hcell (hloc _) (fun h₁ hns hsb => ⟨((T.nolimit.keeps F.keep).keeps hup).fresh _ hsb, codeAny_func ?_⟩) hk
    have hk₁ : ∀ b o, (s.heap.push ({ cls := .type "tuple", data := .seq vs.toArray } : Obj)).get? b = some o → h₁.get? b = some o := fun b o e => hsb.extBut b o (Nat.ne_of_lt (Heap.lt_size e)) (Heap.get?_push_of_some _ e)
    refine wpAny_mono (h _ _ _ h₁ hsg ⟨hns, fun b o e => hk₁ b o (of_hideAll _ e), Nat.le_of_eq (hideAll_size _ _)⟩ (fun p hp => ?_) BG ((X₀.keeps F.keep).keeps hsg) ((XB.keeps F.keep).keeps hsg) ((T.keeps F.keep).keeps hsg)) (fun fl s' hl => hl) fun _ _ y => y.elim
    rw [List.mem_singleton.mp hp]
    exact ⟨hk₁ _ _ (Heap.get?_push_size _ rfl), by rw [Heap.size_push]; exact Nat.ne_of_lt (Nat.lt_succ_self _), hideAll_none _ (List.mem_singleton.mpr rfl)⟩
end
end Mine
end
section
open PySem PySem.W PyProof.Rows PySem.Calls PySem.W.X
namespace Mine
noncomputable def RetO (s : Shared) (Q : Value → Shared → Prop) (o : Obj) : Prop := ∀ b h' tk, X.Mem s.heap h' [] [(b, o)] → Q (.ref b) { s with heap := h', toks := tk }
local macro_rules | `(tactic| x_close) => `(tactic| first | ((rename RetO _ _ _ => hr); refine hr _ _ _ ?_; assumption))
noncomputable abbrev prepO : Obj := { cls := .type "builtin_function_or_method", data := .fields #[.builtin "type.__prepare__", .type "type"] }
theorem prep_1 {prog : Program} (w : World) (tn : Tok) (s : Shared) (Q E : Value → Shared → Prop) (gK : (KB w.params).In s.heap) (hret : RetO s Q prepO) : wpAny (model prog w) AX (call (.builtin "type.__getattribute__") [.type "type", .str (Str.ofString "__prepare__") tn]) Q E s := by
  x_run
theorem prep_2 {prog : Program} (w : World) (b bT : Addr) (t1 : Tok) (s : Shared) (Q E : Value → Shared → Prop) (gK : (KB w.params).In s.heap) (gb : s.heap.get? b = some { cls := .type "builtin_function_or_method", data := .fields #[.builtin "type.__prepare__", .type "type"] }) (hret : RetO s Q { cls := .type "dict", data := .dict #[] }) : wpAny (model prog w) AX (call (.ref b) [.str (Str.ofString "K") t1, .ref bT]) Q E s := by
  x_run
theorem prep_attr (w : World) {A : Around} (hA : A.handled = none) (hA2 : A.depth ≤ 600) (hA3 : A.units ≤ 8000) {E : Value → Shared → Prop} {s : Shared} {Q : Option Value → Shared → Prop} (gK : (KB w.params).In s.heap)
  (hq : ∀ b h' tk, X.Mem s.heap h' [] [(b, prepO)] → Q (some (.ref b)) { s with heap := h', toks := tk }) :
  wpAny (model PySem.Challenge.rw_ik0192_01.prog w) A (getAttr? (.type "type") (Str.ofString "__prepare__")) Q E s := by
  have hlk : typeLookup (.type "type") (Str.ofString "__getattribute__") = pure (some (.builtin "type.__getattribute__")) := by rw [typeLookup_type, builtinLookup_eq_fast]; kernel_rfl
  have hb : bindSpecial (.builtin "type.__getattribute__") (.type "type") = pure (.builtin "type.__getattribute__", [.type "type"]) := by kernel_rfl
  unfold getAttr? getAttrBy? getAttrBy
  refine wpAny_bind (wpAny_mkText (wpAny_bind (wpAny_attempt (wpAny_holding (wpAny_bind (wpAny_of_eq (a := Value.type "type") (by kernel_rfl) (wpAny_bind (wpAny_of_eq hlk ?_))))))))
  show wpAny _ _ (getAttrByItsOwn (.type "type") (.str (Str.ofString "__prepare__") s.toks) (.type "type") (.builtin "type.__getattribute__") false false) _ _ _
  unfold getAttrByItsOwn hookBefore callGetattribute boundAndCalled
  refine wpAny_bind (wpAny_of_eq (show (if onTheHeap (.type "type") then typeLookup (.type "type") "__getattr__" else pure none) = pure none from rfl) ?_)
  refine wpAny_bind (wpAny_attempt (wpAny_holding ?_))
  show wpAny _ _ (bindSpecial (.builtin "type.__getattribute__") (.type "type") >>= _) _ _ _
  refine wpAny_bind (wpAny_of_eq hb ?_)
  refine wpAny_weak (B := AX) (prep_1 w _ _ _ _ gK ?_) hA.symm (by show A.depth ≤ 690; omega) (by show A.units ≤ 9000; omega) (fun _ e => by cases e) (fun _ e => by cases e)
  intro b h' tk D
  exact wpAny_pure (wpAny_pure (hq b h' _ D))
theorem prep_call (w : World) {A : Around} (hA : A.handled = none) (hA2 : A.depth ≤ 600) (hA3 : A.units ≤ 8000) {E : Value → Shared → Prop} {s : Shared} {b bT : Addr} {t1 : Tok} {Q : Value → Shared → Prop} (gK : (KB w.params).In s.heap) (gb : s.heap.get? b = some prepO)
  (hq : ∀ b h' tk, X.Mem s.heap h' [] [(b, { cls := .type "dict", data := .dict #[] })] → Q (.ref b) { s with heap := h', toks := tk }) :
  wpAny (model PySem.Challenge.rw_ik0192_01.prog w) A (call (.ref b) [.str (Str.ofString "K") t1, .ref bT] []) Q E s :=
  wpAny_weak (B := AX) (prep_2 w b bT t1 s Q E gK gb hq) hA.symm (by show A.depth ≤ 690; omega) (by show A.units ≤ 9000; omega) (fun _ e => by cases e) (fun _ e => by cases e)
end Mine
end
section
open PySem PySem.W PyProof.Rows PySem.Calls PySem.Builtin
set_option maxHeartbeats 0
namespace Mine
noncomputable abbrev ExtSz (h h' : Heap) : Prop := (∀ b o, h.get? b = some o → h'.get? b = some o) ∧ h.objs.size ≤ h'.objs.size
theorem ExtSz.refl {h : Heap} : ExtSz h h := ⟨fun _ _ e => e, Nat.le_refl _⟩
theorem ExtSz.trans {h h1 h2 : Heap} (x : ExtSz h h1) (y : ExtSz h1 h2) : ExtSz h h2 := ⟨fun b o e => y.1 b o (x.1 b o e), Nat.le_trans x.2 y.2⟩
theorem ExtSz.push {h : Heap} (o : Obj) : ExtSz h (h.push o) := ⟨fun _ _ e => Heap.get?_push_of_some _ e, by rw [Heap.size_push]; exact Nat.le_succ _⟩
section
variable {M : Model} {A : Around} {E : Value → Shared → Prop} {s : Shared}
theorem text_tuple {l : List Str} {Q : Value → Shared → Prop} (h : ∀ v h' tk, ExtSz s.heap h' → Q v { s with heap := h', toks := tk }) : wpAny M A (do newTextTuple (← l.mapM mkText)) Q E s :=
  wpAny_bind (wpAny_mkStrs fun fs => wpAny_newObjAsIs_type (h _ _ _ (ExtSz.push _)))
theorem opt_tuple {l : Option (List Str × List Str)} {f : List Str × List Str → List Str} {Q : Value → Shared → Prop} (h : ∀ v h' tk, ExtSz s.heap h' → Q v { s with heap := h', toks := tk }) :
    wpAny M A (match l with | some l => do newTextTuple (← (f l).mapM mkText) | none => pure .none) Q E s := by
  cases l with
  | none => exact wpAny_pure (h _ _ _ ExtSz.refl)
  | some l => exact text_tuple h
theorem opt_func {l : Option FuncData} {Q : Value → Shared → Prop} (h : ∀ v h' tk, ExtSz s.heap h' → Q v { s with heap := h', toks := tk }) :
    wpAny M A (match l with | some fd => do pure (.ref (← alloc { cls := .none, data := .func fd })) | none => pure .none) Q E s := by
  cases l with
  | none => exact wpAny_pure (h _ _ _ ExtSz.refl)
  | some l => exact wpAny_bind (wpAny_alloc (wpAny_pure (h _ _ _ (ExtSz.push _))))
noncomputable abbrev codeObj (ctx : CodeContext) (name qualname : Str) (firstLine argc posonly kwonly flags : Nat) (isFunction : Bool) (P r1 : Addr) (x13 x14 x15 : Value) (z : Nat) (u1 u2 u3 u4 : Tok) : Obj :=
  { cls := .type "code", data := .fields #[.str name u1, .str qualname u2, .str ctx.file u3, rawInt firstLine, rawInt argc, rawInt posonly, rawInt kwonly, rawInt flags, .ref r1, .bool (isFunction || ctx.inFunction), rawInt ctx.text, .ref P, .none, x13, x14, x15, rawInt z, rawInt firstLine, .str ctx.file u4] }
theorem newCode_x {ctx : CodeContext} {name qualname : Str} {firstLine argc posonly kwonly flags : Nat} {free : List Str} {isFunction : Bool} {locals : Option (List Str × List Str)} {template : Option FuncData} {Q : Value → Shared → Prop}
    (hQ : ∀ c P r1 x13 x14 x15 z u1 u2 u3 u4 h' tk, ExtSz s.heap h' → s.heap.objs.size ≤ P → P < c → h'.get? c = some (codeObj ctx name qualname firstLine argc posonly kwonly flags isFunction P r1 x13 x14 x15 z u1 u2 u3 u4) → h'.get? P = some (tabObj #[]) →
      Q (.ref c) { s with heap := h', toks := tk }) :
    wpAny M A (newCode ctx name qualname firstLine argc posonly kwonly flags free isFunction none locals template) Q E s := by
  unfold newCode
  refine wpAny_bind (wpAny_mkText (wpAny_bind (wpAny_mkText (wpAny_bind (wpAny_mkText (wpAny_bind (wpAny_mkStrs fun fs =>
    wpAny_bind (wpAny_newObjAsIs_type (wpAny_bind (wpAny_alloc ?_))))))))))
  generalize hH : (s.heap.push { cls := .type "tuple", dict := none, data := .seq fs.toArray }) = H
  have hz : ExtSz s.heap H := hH ▸ ExtSz.push _
  have hPl : (H.push { cls := .none, data := .fields #[] }).get? H.objs.size = some { cls := .none, data := .fields #[] } := Heap.get?_push_size _ rfl
  cases locals with
  | none =>
    cases template with
    | none =>
      refine wpAny_bind (wpAny_pure ?_)
      refine wpAny_bind (wpAny_pure ?_)
      refine wpAny_bind (wpAny_pure ?_)
      refine wpAny_bind (wpAny_fresh ?_)
      refine wpAny_bind (wpAny_mkText ?_)
      refine wpAny_newObj_type ?_ (by size_fits)
      refine hQ _ H.objs.size _ _ _ _ _ _ _ _ _ _ _ ⟨fun b o e => ?_, ?_⟩ hz.2 ?_ (Heap.get?_push_size _ rfl) ?_
      · have := hz.1 _ _ e
        try dsimp only
        repeat (refine Heap.get?_push_of_some _ ?_)
        exact this
      · have := hz.2
        try dsimp only
        simp only [Heap.size_push]; omega
      · try dsimp only
        simp only [Heap.size_push]; omega
      · try dsimp only
        repeat (first | exact hPl | refine Heap.get?_push_of_some _ ?_)
    | some fd =>
      refine wpAny_bind (wpAny_pure ?_)
      refine wpAny_bind (wpAny_pure ?_)
      refine wpAny_bind (wpAny_alloc ?_)
      refine wpAny_bind (wpAny_pure ?_)
      refine wpAny_bind (wpAny_fresh ?_)
      refine wpAny_bind (wpAny_mkText ?_)
      refine wpAny_newObj_type ?_ (by size_fits)
      refine hQ _ H.objs.size _ _ _ _ _ _ _ _ _ _ _ ⟨fun b o e => ?_, ?_⟩ hz.2 ?_ (Heap.get?_push_size _ rfl) ?_
      · have := hz.1 _ _ e
        try dsimp only
        repeat (refine Heap.get?_push_of_some _ ?_)
        exact this
      · have := hz.2
        try dsimp only
        simp only [Heap.size_push]; omega
      · try dsimp only
        simp only [Heap.size_push]; omega
      · try dsimp only
        repeat (first | exact hPl | refine Heap.get?_push_of_some _ ?_)
  | some l =>
    cases template with
    | none =>
      refine wpAny_bind (wpAny_mkStrs fun _ => ?_)
      refine wpAny_bind (wpAny_newObjAsIs_type ?_)
      refine wpAny_bind (wpAny_mkStrs fun _ => ?_)
      refine wpAny_bind (wpAny_newObjAsIs_type ?_)
      refine wpAny_bind (wpAny_pure ?_)
      refine wpAny_bind (wpAny_fresh ?_)
      refine wpAny_bind (wpAny_mkText ?_)
      refine wpAny_newObj_type ?_ (by size_fits)
      refine hQ _ H.objs.size _ _ _ _ _ _ _ _ _ _ _ ⟨fun b o e => ?_, ?_⟩ hz.2 ?_ (Heap.get?_push_size _ rfl) ?_
      · have := hz.1 _ _ e
        try dsimp only
        repeat (refine Heap.get?_push_of_some _ ?_)
        exact this
      · have := hz.2
        try dsimp only
        simp only [Heap.size_push]; omega
      · try dsimp only
        simp only [Heap.size_push]; omega
      · try dsimp only
        repeat (first | exact hPl | refine Heap.get?_push_of_some _ ?_)
    | some fd =>
      refine wpAny_bind (wpAny_mkStrs fun _ => ?_)
      refine wpAny_bind (wpAny_newObjAsIs_type ?_)
      refine wpAny_bind (wpAny_mkStrs fun _ => ?_)
      refine wpAny_bind (wpAny_newObjAsIs_type ?_)
      refine wpAny_bind (wpAny_alloc ?_)
      refine wpAny_bind (wpAny_pure ?_)
      refine wpAny_bind (wpAny_fresh ?_)
      refine wpAny_bind (wpAny_mkText ?_)
      refine wpAny_newObj_type ?_ (by size_fits)
      refine hQ _ H.objs.size _ _ _ _ _ _ _ _ _ _ _ ⟨fun b o e => ?_, ?_⟩ hz.2 ?_ (Heap.get?_push_size _ rfl) ?_
      · have := hz.1 _ _ e
        try dsimp only
        repeat (refine Heap.get?_push_of_some _ ?_)
        exact this
      · have := hz.2
        try dsimp only
        simp only [Heap.size_push]; omega
      · try dsimp only
        simp only [Heap.size_push]; omega
      · try dsimp only
        repeat (first | exact hPl | refine Heap.get?_push_of_some _ ?_)
theorem codeAt_x {env : Env} {c P : Addr} {o : Obj} {vs ps : Array Value} {pos : Pos} {make : CodeContext → Sem Value} {file : Str} {tf : Tok} {flags text : Int} {tg tt : Tok} {inF : Bool} {Q : Value → Shared → Prop}
    (hc : env.code = .ref c) (ho : s.heap.get? c = some o) (hd : o.data = .fields vs) (h11 : vs.getD 11 .none = .ref P) (h18 : vs.getD 18 .none = .str file tf) (h7 : vs.getD 7 .none = .int flags tg) (h9 : vs.getD 9 .none = .bool inF) (h10 : vs.getD 10 .none = .int text tt)
    (hP : s.heap.get? P = some (tabObj ps)) (ht : TriplesOk ps.toList) (hnf : codeAmong pos ps.toList = none)
    (hmake : wpAny M A (make { file, future := flags.toNat &&& (coFutureAnnotations ||| coFutureBarry), inFunction := inF || env.scope.kind == .function, text := text.toNat })
      (fun v s1 => ∃ c' h1 tk, v = .ref c' ∧ s1 = { s with heap := h1, toks := tk } ∧ ExtSz s.heap h1 ∧
        ∀ h', (∀ b o, b ≠ P → h1.get? b = some o → h'.get? b = some o) → h1.objs.size ≤ h'.objs.size → h'.get? P = some (tabObj (ps ++ #[rawInt pos.line, rawInt pos.col, .ref c'])) → Q (.ref c') { s with heap := h', toks := tk }) E s) :
    wpAny M A (codeAt env pos make) Q E s := by
  unfold codeAt
  rw [hc, if_neg (show ¬ ((Value.ref c == Value.none) = true) from Bool.false_ne_true)]
  refine wpAny_bind (wpAny_fieldsOf ho hd ?_)
  rw [h11]
  refine wpAny_bind (wpAny_fieldsOf hP rfl ?_)
  rw [hnf, h18, h7, h9, h10]
  refine wpAny_bind (wpAny_mono hmake (fun v s1 ⟨c', h1, tk, e1, e2, hx, hq⟩ => ?_) fun _ _ x => x)
  subst e1; subst e2
  have hP' := hx.1 _ _ hP
  refine wpAny_bind (wpAny_updateFieldsOfTheText hP' rfl ?_)
  have hnew : (Obj.mapFields (fun vs => if (codeAmong pos vs.toList).isSome = true then vs else vs ++ #[rawInt pos.line, rawInt pos.col, .ref c']) (tabObj ps)) = tabObj (ps ++ #[rawInt pos.line, rawInt pos.col, .ref c']) := by
    simp only [Obj.mapFields, hnf]; rfl
  have hget : (h1.update P (Obj.mapFields fun vs => if (codeAmong pos vs.toList).isSome = true then vs else vs ++ #[rawInt pos.line, rawInt pos.col, .ref c'])).get? P = some (tabObj (ps ++ #[rawInt pos.line, rawInt pos.col, .ref c'])) := by
    rw [Heap.get?_update_self (h := h1) (Obj.mapFields fun vs => if (codeAmong pos vs.toList).isSome = true then vs else vs ++ #[rawInt pos.line, rawInt pos.col, .ref c']) hP' (by rw [hnew]; rfl), hnew]
  refine wpAny_bind (wpAny_fieldsOf hget rfl ?_)
  have hl : (ps ++ #[rawInt pos.line, rawInt pos.col, Value.ref c']).toList = ps.toList ++ [rawInt pos.line, rawInt pos.col, .ref c'] := by simp
  rw [hl, codeAmong_snoc _ ht hnf]
  exact wpAny_pure (hq _ (fun b o hb e => (Heap.SameBut.update ..).extBut b o hb e) (by rw [Heap.size_after_update]; exact Nat.le_refl _) hget)
end
end Mine
end
section
open PySem PySem.W PyProof.Rows PySem.Calls PySem.Builtin
set_option maxHeartbeats 0
namespace Mine
section
variable {M : Model} {A : Around} {E : Value → Shared → Prop} {s : Shared}
theorem nsSet_h {a : Addr} {cls : Value} {dd : Option Addr} {es : Array DictEntry} {n : Nat} {sl : Array (Option Value)} {name : Str} {v : Value} {Q : Unit → Shared → Prop} (ho : s.heap.get? a = some ⟨cls, dd, .dict es n, sl⟩) (hr : aRefKeyMayBeTheName name es = false)
    (h : ∀ hh, Q () { s with heap := s.heap.update a (Obj.putName name hh (.str name s.toks) v), toks := s.toks + 1 }) : wpAny M A (nsSet a name v) Q E s := by
  unfold nsSet strHash
  refine wpAny_bind (wpAny_bind (wpAny_askSetting (wpAny_pure (wpAny_bind (wpAny_mkText (wpAny_bind (wpAny_loadPart ho ?_)))))))
  dsimp only
  rw [hr, if_neg (by decide)]
  exact wpAny_updatePart ho (h _)
theorem put_new {name : Str} {hh : Int} {k v : Value} {cls : Value} {dd : Option Addr} {es : Array DictEntry} {n : Nat} {sl : Array (Option Value)} (hf : es.findIdx? (·.key.isStr name) = none) :
    Obj.putName name hh k v ⟨cls, dd, .dict es n, sl⟩ = ⟨cls, dd, .dict (es.push ⟨hh, k, v⟩) (n + 1), sl⟩ := by
  simp only [Obj.putName_eq, Obj.putNameByArray, hf]
theorem put_old {name : Str} {hh : Int} {k v : Value} {cls : Value} {dd : Option Addr} {es : Array DictEntry} {n i : Nat} {sl : Array (Option Value)} (hf : es.findIdx? (·.key.isStr name) = some i) :
    Obj.putName name hh k v ⟨cls, dd, .dict es n, sl⟩ = ⟨cls, dd, .dict (es.modify i fun e => { e with val := v }) n, sl⟩ := by
  simp only [Obj.putName_eq, Obj.putNameByArray, hf]
noncomputable abbrev dobj (es : Array DictEntry) (n : Nat) : Obj := { cls := .type "dict", data := .dict es n }
structure CS (hb : Heap) (ns P : Addr) (es : Array DictEntry) (n : Nat) (ps : Array Value) (fs : List (Addr × Obj)) (h : Heap) : Prop where
  dict : h.get? ns = some (dobj es n)
  tab : h.get? P = some (tabObj ps)
  own : ∀ p ∈ fs, h.get? p.1 = some p.2 ∧ p.1 ≠ ns ∧ p.1 ≠ P ∧ hb.get? p.1 = none
  old : ∀ b o, hb.get? b = some o → h.get? b = some o
  size : hb.objs.size ≤ h.objs.size
  hns : hb.get? ns = none
  hP : hb.get? P = none
  ne : ns ≠ P
theorem CS.fresh {hb h : Heap} {ns P a : Addr} {es : Array DictEntry} {n : Nat} {ps : Array Value} {fs : List (Addr × Obj)} (C : CS hb ns P es n ps fs h) (ha : h.objs.size ≤ a) : a ≠ ns ∧ a ≠ P ∧ hb.get? a = none :=
  ⟨Nat.ne_of_gt (Nat.lt_of_lt_of_le (Heap.lt_size C.dict) ha), Nat.ne_of_gt (Nat.lt_of_lt_of_le (Heap.lt_size C.tab) ha), Heap.get?_none_of_le (Nat.le_trans C.size ha)⟩
theorem CS.ext {hb h h' : Heap} {ns P : Addr} {es : Array DictEntry} {n : Nat} {ps : Array Value} {fs : List (Addr × Obj)} (C : CS hb ns P es n ps fs h) (x : ExtSz h h') : CS hb ns P es n ps fs h' :=
  ⟨x.1 _ _ C.dict, x.1 _ _ C.tab, fun p hp => ⟨x.1 _ _ (C.own p hp).1, (C.own p hp).2⟩, fun b o e => x.1 _ _ (C.old b o e), Nat.le_trans C.size x.2, C.hns, C.hP, C.ne⟩
theorem CS.add {hb h : Heap} {ns P a : Addr} {o : Obj} {es : Array DictEntry} {n : Nat} {ps : Array Value} {fs : List (Addr × Obj)} (C : CS hb ns P es n ps fs h) (ha : h.get? a = some o) (q : a ≠ ns ∧ a ≠ P ∧ hb.get? a = none) : CS hb ns P es n ps ((a, o) :: fs) h :=
  ⟨C.dict, C.tab, fun p hp => by
    rcases List.mem_cons.mp hp with rfl | hp
    · exact ⟨ha, q⟩
    · exact C.own p hp, C.old, C.size, C.hns, C.hP, C.ne⟩
theorem CS.store {hb : Heap} {ns P : Addr} {es : Array DictEntry} {n : Nat} {ps : Array Value} {fs : List (Addr × Obj)} {name : Str} {v : Value} {Q : Unit → Shared → Prop} (C : CS hb ns P es n ps fs s.heap) (hr : aRefKeyMayBeTheName name es = false) {env : Env} (hl : env.locals = ns) (hst : storeName env name v = localSet env name v)
    (h : ∀ hh tk h' es' n', Obj.putName name hh (.str name tk) v (dobj es n) = dobj es' n' → CS hb ns P es' n' ps fs h' → Q () { s with heap := h', toks := tk + 1 }) : wpAny M A (storeName env name v) Q E s := by
  rw [hst]
  unfold localSet
  rw [hl]
  refine wpAny_bind (wpAny_load C.dict ?_)
  rw [if_pos (show ((dobj es n).cls == Value.type "dict") = true from beq_self_eq_true _)]
  refine nsSet_h C.dict hr fun hh => ?_
  have hs : Heap.SameBut ns s.heap (s.heap.update ns (Obj.putName name hh (.str name s.toks) v)) := Heap.SameBut.update ..
  have hput : ∃ es' n', Obj.putName name hh (.str name s.toks) v (dobj es n) = dobj es' n' := by
    cases hf : es.findIdx? (·.key.isStr name) with
    | none => exact ⟨_, _, put_new hf⟩
    | some i => exact ⟨_, _, put_old hf⟩
  obtain ⟨es', n', hput⟩ := hput
  have hget : (s.heap.update ns (Obj.putName name hh (.str name s.toks) v)).get? ns = some (dobj es' n') := by
    rw [Heap.get?_update_self (h := s.heap) (Obj.putName name hh (.str name s.toks) v) C.dict (by rw [hput]; rfl), hput]
  refine h hh s.toks _ es' n' hput ⟨hget, (hs.2 _ C.ne.symm).trans C.tab, fun p hp => ⟨(hs.2 _ (C.own p hp).2.1).trans (C.own p hp).1, (C.own p hp).2⟩, fun b o e => (hs.2 b (fun q => ?_)).trans (C.old b o e), ?_, C.hns, C.hP, C.ne⟩
  · rw [q, C.hns] at e; cases e
  · rw [Heap.size_after_update]; exact C.size
theorem mkFun_x {env : Env} {c P : Addr} {o : Obj} {vs ps : Array Value} {pos : Pos} {name qual : Str} {params : Arguments} {body : List Stmt} {scope : Scope} {firstLine : Nat} {file : Str} {tf : Tok} {flags text : Int} {tg tt : Tok} {inF : Bool} {clos : List (Str × Addr)} {mg : Str → Option Value} {Q : Value → Shared → Prop}
    (hcl : closureFor scope env = pure clos) (hge0 : env.globals = mainGlobals) (hdoc : docOf body = none) (hg : s.heap.Ns mainGlobals mg)
    (hc : env.code = .ref c) (ho : s.heap.get? c = some o) (hd : o.data = .fields vs) (h11 : vs.getD 11 .none = .ref P) (h18 : vs.getD 18 .none = .str file tf) (h7 : vs.getD 7 .none = .int flags tg) (h9 : vs.getD 9 .none = .bool inF) (h10 : vs.getD 10 .none = .int text tt)
    (hP : s.heap.get? P = some (tabObj ps)) (ht : TriplesOk ps.toList) (hnf : codeAmong pos ps.toList = none) (hb : s.heap.BuiltinsAt mg P) (hgP : mainGlobals ≠ P)
    (h : ∀ f c' P' r1 x13 x14 x15 z u1 u2 u3 u4 ctv h' tk, (∀ b o, b ≠ P → s.heap.get? b = some o → h'.get? b = some o) → s.heap.objs.size ≤ h'.objs.size → s.heap.objs.size ≤ c' → s.heap.objs.size ≤ f →
      h'.get? P = some (tabObj (ps ++ #[rawInt pos.line, rawInt pos.col, .ref c'])) →
      h'.get? c' = some (codeObj { file, future := flags.toNat &&& (coFutureAnnotations ||| coFutureBarry), inFunction := inF || env.scope.kind == .function, text := text.toNat } name qual firstLine (params.posonlyargs.length + params.args.length) params.posonlyargs.length params.kwonlyargs.length
        (functionFlags params.vararg.isSome params.kwarg.isSome scope { file, future := flags.toNat &&& (coFutureAnnotations ||| coFutureBarry), inFunction := inF || env.scope.kind == .function, text := text.toNat }) true P' r1 x13 x14 x15 z u1 u2 u3 u4) →
      (clos = [] → ctv = .none) → h'.get? f = some (fnMade name qual params body scope clos .none ((mg "__name__").getD .none) c' ctv) → Q (.ref f) { s with heap := h', toks := tk }) :
    wpAny M A (makeFunction name qual params (.stmts body) scope env [] [] [] pos firstLine) Q E s := by
  obtain ⟨bm, ob, hbm, hne0, hneG, hneP, hbo, hcls, hdict, hdata⟩ := hb
  rw [makeFunction_eq]
  simp only [List.zip_nil_right, List.filterMap_nil, List.isEmpty_nil, if_true, pure_bind]
  unfold makeTail
  rw [hcl, hge0]
  refine wpAny_bind (wpAny_pure ?_)
  have key : ∀ (ctv : Value) (h0 : Heap) (tk0 : Nat), (clos = [] → ctv = .none) → ExtSz s.heap h0 → wpAny M A (functionCode env pos firstLine name qual params scope (.stmts body)) (fun code s1 => wpAny M A (do
      let builtins ← builtinsFor mainGlobals env.builtins
      let nm ← nsGet mainGlobals "__name__"
      let dc ← (match docOf body with | some s => mkText s | none => pure .none)
      newObj (.type "function") (.func { name, qualname := qual, params, body := .stmts body, scope, globals := mainGlobals, closure := clos, closureTuple := ctv, code := code, builtins := builtins, defaults := .none, kwdefaults := .none, annotations := none, pyModule := nm.getD .none, doc := dc })) Q E s1) E { s with heap := h0, toks := tk0 } := by
    intro ctv h0 tk0 hctv hx0
    unfold functionCode
    refine codeAt_x (s := { s with heap := h0, toks := tk0 }) hc (hx0.1 _ _ ho) hd h11 h18 h7 h9 h10 (hx0.1 _ _ hP) ht hnf ?_
    refine newCode_x fun c' P' r1 x13 x14 x15 z u1 u2 u3 u4 h1 tk1 hx1 hP1 hc1 hco hcP => ?_
    refine ⟨c', h1, tk1, rfl, rfl, hx1, fun h2 hk2 hs2 htb => ?_⟩
    have sz : s.heap.objs.size ≤ h2.objs.size := Nat.le_trans hx0.2 (Nat.le_trans hx1.2 hs2)
    have keep : ∀ b o, b ≠ P → s.heap.get? b = some o → h2.get? b = some o := fun b o q e => hk2 b o q (hx1.1 _ _ (hx0.1 _ _ e))
    have hg2 : h2.Ns mainGlobals mg := hg.extBut keep hgP
    have hPlt : P < c' := Nat.lt_of_lt_of_le (Heap.lt_size hP) (Nat.le_trans hx0.2 (Nat.le_trans hP1 (Nat.le_of_lt hc1)))
    refine wpAny_bind (wpAny_builtinsFor hg2 hbm hne0 (keep _ _ hneP hbo) hcls hdict hdata ?_)
    refine wpAny_bind (wpAny_nsGet hg2 ?_)
    rw [hdoc]
    refine wpAny_bind (wpAny_pure (wpAny_newObj_type (h _ c' P' r1 x13 x14 x15 z u1 u2 u3 u4 ctv _ _ (fun b o q e => Heap.get?_push_of_some _ (keep b o q e)) (by rw [Heap.size_push]; exact Nat.le_succ_of_le sz) (Nat.le_trans hx0.2 (Nat.le_trans hP1 (Nat.le_of_lt hc1))) sz (Heap.get?_push_of_some _ htb) (Heap.get?_push_of_some _ (hk2 _ _ (Nat.ne_of_gt hPlt) hco)) hctv (Heap.get?_push_size _ rfl)) (by size_fits)))
  cases clos with
  | nil =>
    simp only [List.isEmpty_nil, if_true]
    refine wpAny_bind (wpAny_pure ?_)
    exact wpAny_bind (key .none s.heap s.toks (fun _ => rfl) ExtSz.refl)
  | cons q r =>
    simp only [List.isEmpty_cons, Bool.false_eq_true, if_false]
    refine wpAny_bind (wpAny_newTextTuple ?_)
    exact wpAny_bind (key _ _ s.toks (fun e => nomatch e) (ExtSz.push _))
end
end Mine
end
section
open PySem PySem.W PyProof.Rows PySem.Calls PySem.Builtin
set_option maxHeartbeats 0
namespace Mine
section
variable {M : Model} {A : Around} {E : Value → Shared → Prop} {s : Shared}
theorem classDef_x {name bind : Str} {b : Expr} {body : List Stmt} {scope : Scope} {x1 : Option Scope} {statics : List Str} {pos : Pos} {env : Env} {mb : Str → Option Value} {Q : Flow → Shared → Prop}
    (hb : s.heap.Ns env.builtins mb) (hbc : mb (Str.ofString "__build_class__") = some (.builtin "__build_class__"))
    (hstar : starEach [b] env = (false, eval b env) :: [])
    (h : wpAny M A (eval b env) (fun v s1 => wpAny M A (buildClass name (qualnameIn env name bind) [v] [] body scope statics (firstLineOf [] pos) env pos none) (fun c s2 => wpAny M A (storeName env bind c) (fun _ s3 => Q .next s3) E s2) E s1) E s) :
    wpAny M A (exec (.ClassDef name [b] [] body [] [] scope x1 bind statics pos) env) Q E s := by
  rw [arm_exec_ClassDef]
  refine wpAny_bind (wpAny_pure (wpAny_bind (wpAny_standAt (wpAny_bind ?_))))
  unfold buildClassGuard
  refine wpAny_bind (wpAny_nsGet hb ?_)
  rw [hbc]
  refine wpAny_pure (wpAny_bind (wpAny_holding (wpAny_bind ?_)))
  rw [hstar]
  have hbk : backTo pos [(false, eval b env)] = [(false, eval b env)] := rfl
  rw [hbk]
  unfold evalArgs
  show wpAny M A (spliced [(false, eval b env)] >>= _) _ _ _
  refine wpAny_bind (spliced_cons (wpAny_mono h (fun v s1 h1 => ?_) fun _ _ x => x))
  refine spliced_nil (wpAny_bind (wpAny_pure (wpAny_holding ?_)))
  refine wpAny_bind (wpAny_pure (wpAny_bind (wpAny_pure (wpAny_pure ?_))))
  refine wpAny_bind (wpAny_standAt (wpAny_holding (wpAny_mono h1 (fun c s2 h2 => ?_) fun _ _ x => x)))
  refine wpAny_bind (wpAny_pure (wpAny_bind (wpAny_standAt (wpAny_bind (wpAny_bindName (wpAny_mono h2 (fun _ s3 h3 => wpAny_pure h3) fun _ _ x => x))))))
end
end Mine
end
section
open PySem PySem.W PyProof.Rows PySem.Calls PySem.W.X
namespace Mine
noncomputable def clsBody (P : Params) : List Stmt := match (o50 P).data with
  | .func fd => (match fd.body with
    | .stmts (.ClassDef _ _ _ body _ _ _ _ _ _ _ :: _) => body
    | _ => [])
  | _ => []
end Mine
end
section
open PySem PySem.W PyProof.Rows PySem.Calls PySem.Builtin
set_option maxHeartbeats 0
namespace Mine
noncomputable def clsScope (P : Params) : Scope := match (o50 P).data with
  | .func fd => (match fd.body with
    | .stmts (.ClassDef _ _ _ _ _ _ scope _ _ _ _ :: _) => scope
    | _ => default)
  | _ => default
noncomputable def st (P : Params) (i : Nat) : Stmt := (clsBody P).getD i default
noncomputable def fdName : Stmt → Str
  | .FunctionDef n .. => n
  | _ => default
noncomputable def fdArgs : Stmt → Arguments
  | .FunctionDef _ a .. => a
  | _ => default
noncomputable def fdBody : Stmt → List Stmt
  | .FunctionDef _ _ b .. => b
  | _ => []
noncomputable def fdScope : Stmt → Scope
  | .FunctionDef _ _ _ _ _ _ s .. => s
  | _ => default
noncomputable def fdPos : Stmt → Pos
  | .FunctionDef _ _ _ _ _ _ _ _ _ p => p
  | _ => default
theorem body_eq (P : Params) : clsBody P = [st P 0, st P 1, st P 2, st P 3, st P 4, st P 5, st P 6, st P 7, st P 8] := by kernel_rfl
noncomputable abbrev fdOf (s : Stmt) : Stmt := .FunctionDef (fdName s) (fdArgs s) (fdBody s) [] none [] (fdScope s) none (fdName s) (fdPos s)
theorem st2 (P : Params) : st P 2 = fdOf (st P 2) := by kernel_rfl
theorem st3 (P : Params) : st P 3 = fdOf (st P 3) := by kernel_rfl
theorem st4 (P : Params) : st P 4 = fdOf (st P 4) := by kernel_rfl
theorem st5 (P : Params) : st P 5 = fdOf (st P 5) := by kernel_rfl
theorem st6 (P : Params) : st P 6 = fdOf (st P 6) := by kernel_rfl
theorem st7 (P : Params) : st P 7 = fdOf (st P 7) := by kernel_rfl
noncomputable abbrev cenv (P : Params) (ns c fr cm : Addr) : Env := { scope := clsScope P, locals := ns, globals := mainGlobals, qual := Str.ofString "cmp_to_key.<locals>.K" ++ Str.ofString ".", code := .ref c, frame := some fr, builtins := builtinsNs, cells := [(Str.ofString "mycmp", cm)] }
section
variable {w : World} {A : Around} {E : Value → Shared → Prop} {s : Shared}
noncomputable abbrev kctx : CodeContext := { file := Str.ofString "/claim/cut.py", future := 0, inFunction := true, text := 181 }
noncomputable abbrev kcode (P r1 : Addr) (x13 x14 x15 : Value) (z : Nat) (u1 u2 u3 u4 : Tok) : Obj := codeObj kctx (Str.ofString "K") (Str.ofString "cmp_to_key.<locals>.K") 31 0 0 0 0 false P r1 x13 x14 x15 z u1 u2 u3 u4
theorem cs_def {hb : Heap} {ns P c fr cm r1 : Addr} {x13 x14 x15 : Value} {z : Nat} {u1 u2 u3 u4 : Tok} {es : Array DictEntry} {n : Nat} {ps : Array Value} {fs : List (Addr × Obj)} {mg : Str → Option Value} {Q : Flow → Shared → Prop} {sd : Stmt} {clos : List (Str × Addr)} {qual : Str}
    (C : CS hb ns P es n ps fs s.heap) (hco : hb.get? c = some (kcode P r1 x13 x14 x15 z u1 u2 u3 u4)) (hg : hb.Ns mainGlobals mg) (hbm : hb.BuiltinsAt mg P) (hgP : mainGlobals ≠ P) (gn : mainGlobals ≠ ns)
    (hq : qualnameIn (cenv w.params ns c fr cm) (fdName sd) (fdName sd) = qual)
    (hd0 : (fdArgs sd).defaults = []) (hk0 : (fdArgs sd).kw_defaults = []) (ha : annTrees (fdArgs sd) none (cenv w.params ns c fr cm) = [])
    (hst : ∀ v, storeName (cenv w.params ns c fr cm) (fdName sd) v = localSet (cenv w.params ns c fr cm) (fdName sd) v) (hcl : closureFor (fdScope sd) (cenv w.params ns c fr cm) = pure clos) (hdoc : docOf (fdBody sd) = none)
    (ht : TriplesOk ps.toList) (hnf : codeAmong (fdPos sd) ps.toList = none) (hr : aRefKeyMayBeTheName (fdName sd) es = false) (hfi : es.findIdx? (·.key.isStr (fdName sd)) = none)
    (h : ∀ f c' P' r1 x13 x14 x15 z u1 u2 u3 u4 ctv hh kt h' tk, (clos = [] → ctv = .none) →
      CS hb ns P (es.push ⟨hh, .str (fdName sd) kt, .ref f⟩) (n + 1) (ps ++ #[rawInt (fdPos sd).line, rawInt (fdPos sd).col, .ref c'])
        ((f, fnMade (fdName sd) qual (fdArgs sd) (fdBody sd) (fdScope sd) clos .none ((mg "__name__").getD .none) c' ctv) ::
         (c', codeObj kctx (fdName sd) qual (fdPos sd).line ((fdArgs sd).posonlyargs.length + (fdArgs sd).args.length) (fdArgs sd).posonlyargs.length (fdArgs sd).kwonlyargs.length (functionFlags (fdArgs sd).vararg.isSome (fdArgs sd).kwarg.isSome (fdScope sd) kctx) true P' r1 x13 x14 x15 z u1 u2 u3 u4) :: fs) h' →
      Q .next { s with heap := h', toks := tk }) :
    wpAny (model PySem.Challenge.rw_ik0192_01.prog w) A (exec (fdOf sd) (cenv w.params ns c fr cm)) Q E s := by
  refine nestDef_K hd0 hk0 ha ?_
  rw [hq]
  have hnP : ∀ b o, hb.get? b = some o → b ≠ P := fun b o e q => by rw [q, C.hP] at e; cases e
  have hbm' : s.heap.BuiltinsAt mg P := by
    obtain ⟨bm, o, b1, b2, b3, b4, b5, r⟩ := hbm
    exact ⟨bm, o, b1, b2, b3, b4, C.old _ _ b5, r⟩
  refine mkFun_x (c := c) (P := P) (tf := u4) (tg := 0) (tt := 0) (flags := 0) (text := 181) (inF := true) (file := Str.ofString "/claim/cut.py") hcl rfl hdoc (hg.keeps C.old) rfl (C.old _ _ hco) rfl rfl rfl rfl rfl rfl C.tab ht hnf hbm' hgP ?_
  intro f c' P' r1 x13 x14 x15 z u1 u2 u3 u4 ctv h1 tk hk hs hc' hf htb hco' hctv hfo
  have C0 : CS hb ns P es n (ps ++ #[rawInt (fdPos sd).line, rawInt (fdPos sd).col, .ref c']) fs h1 :=
    ⟨hk _ _ C.ne C.dict, htb, fun p hp => ⟨hk _ _ (C.own p hp).2.2.1 (C.own p hp).1, (C.own p hp).2⟩, fun b o e => hk _ _ (hnP _ _ e) (C.old _ _ e), Nat.le_trans C.size hs, C.hns, C.hP, C.ne⟩
  have C1 := CS.add (CS.add C0 hco' (C.fresh hc')) hfo (C.fresh hf)
  refine CS.store (s := { s with heap := h1, toks := tk }) C1 hr rfl (hst _) fun hh kt h2 es' n' hput C2 => ?_
  rw [put_new hfi] at hput
  obtain ⟨rfl, rfl⟩ : es.push ⟨hh, .str (fdName sd) kt, .ref f⟩ = es' ∧ n + 1 = n' := by
    have := congrArg Obj.data hput
    injection this with q1 q2
    exact ⟨q1, q2⟩
  exact h f c' P' r1 x13 x14 x15 z u1 u2 u3 u4 ctv hh kt h2 _ hctv C2
end
end Mine
end
section
open PySem PySem.W PyProof.Rows PySem.Calls PySem.Builtin
set_option maxHeartbeats 0
namespace Mine
noncomputable def asName : Stmt → Str
  | .Assign (.Name n _ :: _) _ _ => n
  | _ => default
noncomputable def asP : Stmt → Pos
  | .Assign (.Name _ p :: _) _ _ => p
  | _ => default
noncomputable def asVal : Stmt → Expr
  | .Assign _ v _ => v
  | _ => .Constant .none 0 default
noncomputable def asPos : Stmt → Pos
  | .Assign _ _ p => p
  | _ => default
noncomputable def exPos : Expr → Pos
  | .List _ p => p
  | _ => default
noncomputable abbrev asOf (s : Stmt) : Stmt := .Assign [.Name (asName s) (asP s)] (asVal s) (asPos s)
theorem st0 (P : Params) : st P 0 = asOf (st P 0) := by kernel_rfl
theorem st1 (P : Params) : st P 1 = asOf (st P 1) := by kernel_rfl
theorem st8 (P : Params) : st P 8 = asOf (st P 8) := by kernel_rfl
theorem ev0 (P : Params) (env : Env) : eval (asVal (st P 0)) env = constValue env (.str (Str.ofString "cpy313.functools")) := by kernel_rfl
theorem ev1 (P : Params) (env : Env) : eval (asVal (st P 1)) env = (do standAt (exPos (asVal (st P 1))); newList (← spliced [(false, constValue env (.str (Str.ofString "obj")))])) := by kernel_rfl
theorem ev8 (P : Params) (env : Env) : eval (asVal (st P 8)) env = constValue env .none := by kernel_rfl
noncomputable abbrev lobjV (v4 : Tok) : Obj := { cls := .type "list", data := .seq #[.str (Str.ofString "obj") v4] }
noncomputable abbrev kq (n : Str) : Str := Str.ofString "cmp_to_key.<locals>.K." ++ n
noncomputable abbrev fnOfSt (P : Params) (i : Nat) (clos : List (Str × Addr)) (mg : Str → Option Value) (c : Addr) (ct : Value) : Obj :=
  fnMade (fdName (st P i)) (kq (fdName (st P i))) (fdArgs (st P i)) (fdBody (st P i)) (fdScope (st P i)) clos .none ((mg "__name__").getD .none) c ct
noncomputable abbrev cdOfSt (P : Params) (i : Nat) (T r : Addr) (x y z : Value) (n : Nat) (u1 u2 u3 u4 : Tok) : Obj :=
  codeObj kctx (fdName (st P i)) (kq (fdName (st P i))) (fdPos (st P i)).line ((fdArgs (st P i)).posonlyargs.length + (fdArgs (st P i)).args.length) (fdArgs (st P i)).posonlyargs.length (fdArgs (st P i)).kwonlyargs.length (functionFlags (fdArgs (st P i)).vararg.isSome (fdArgs (st P i)).kwarg.isSome (fdScope (st P i)) kctx) true T r x y z n u1 u2 u3 u4
section
variable {w : World} {A : Around} {E : Value → Shared → Prop} {s : Shared}
theorem const_str {M : Model} {env : Env} {x : Str} {Q : Value → Shared → Prop} (h : Q (.str x s.toks) { s with toks := s.toks + 1 }) : wpAny M A (constValue env (.str x)) Q E s := fun _ _ _ => h
theorem const_none {M : Model} {env : Env} {Q : Value → Shared → Prop} (h : Q .none s) : wpAny M A (constValue env .none) Q E s := fun _ _ _ => h
theorem dobj_inj {es es' : Array DictEntry} {n n' : Nat} (h : dobj es n = dobj es' n') : es = es' ∧ n = n' := by
  have := congrArg Obj.data h
  injection this with q1 q2
  exact ⟨q1, q2⟩
end
namespace BK
noncomputable abbrev V := World × Around × Shared × Heap × Addr × Addr × Addr × Addr × Addr × Addr × Value × Value × Value × Nat × Tok × Tok × Tok × Tok × (Str → Option Value) × (Result → Shared → Prop) × Int × Int × Int × Tok × Tok × Tok × Tok × Tok × Value
noncomputable def S (w : World) (A : Around) (s : Shared) (hb : Heap) (ns : Addr) (P : Addr) (c : Addr) (fr : Addr) (cm : Addr) (r1 : Addr) (x13 : Value) (x14 : Value) (x15 : Value) (z : Nat) (u1 : Tok) (u2 : Tok) (u3 : Tok) (u4 : Tok) (mg : Str → Option Value) (R : Result → Shared → Prop) (h1 : Int) (h2 : Int) (h3 : Int) (k1 : Tok) (k2 : Tok) (k3 : Tok) (v2 : Tok) (v3 : Tok) (vn : Value) : Prop :=
  (CS hb ns P #[⟨h1, .str (Str.ofString "__module__") k1, vn⟩, ⟨h2, .str (Str.ofString "__qualname__") k2, .str (Str.ofString "cmp_to_key.<locals>.K") v2⟩, ⟨h3, .str (Str.ofString "__firstlineno__") k3, .int 31 v3⟩] 3 #[] [] s.heap) →
  (hb.get? c = some (kcode P r1 x13 x14 x15 z u1 u2 u3 u4)) →
  (hb.Ns mainGlobals mg) →
  (hb.BuiltinsAt mg P) →
  (mainGlobals ≠ P) →
  (mainGlobals ≠ ns) →
  (∀ (f1 f2 f3 f4 f5 f6 sl : Addr) (h4 h5 h6 h7 h8 h9 h10 h11 : Int) (k4 k5 k6 k7 k8 k9 k10 k11 v1 v4 : Tok) (c1 P1 a1 : Addr) (y1 z1 w1 : Value) (n1 : Nat) (t1 s1 q1 b1 : Tok) (c2 P2 a2 : Addr) (y2 z2 w2 : Value) (n2 : Nat) (t2 s2 q2 b2 : Tok) (c3 P3 a3 : Addr) (y3 z3 w3 : Value) (n3 : Nat) (t3 s3 q3 b3 : Tok) (c4 P4 a4 : Addr) (y4 z4 w4 : Value) (n4 : Nat) (t4 s4 q4 b4 : Tok) (c5 P5 a5 : Addr) (y5 z5 w5 : Value) (n5 : Nat) (t5 s5 q5 b5 : Tok) (c6 P6 a6 : Addr) (y6 z6 w6 : Value) (n6 : Nat) (t6 s6 q6 b6 : Tok) (ct2 ct3 ct4 ct5 ct6 : Value) h' tk n ps, CS hb ns P #[⟨h1, .str (Str.ofString "__module__") k1, .str (Str.ofString "cpy313.functools") v1⟩, ⟨h2, .str (Str.ofString "__qualname__") k2, .str (Str.ofString "cmp_to_key.<locals>.K") v2⟩, ⟨h3, .str (Str.ofString "__firstlineno__") k3, .int 31 v3⟩, ⟨h4, .str (Str.ofString "__slots__") k4, .ref sl⟩, ⟨h5, .str (Str.ofString "__init__") k5, .ref f1⟩, ⟨h6, .str (Str.ofString "__lt__") k6, .ref f2⟩, ⟨h7, .str (Str.ofString "__gt__") k7, .ref f3⟩, ⟨h8, .str (Str.ofString "__eq__") k8, .ref f4⟩, ⟨h9, .str (Str.ofString "__le__") k9, .ref f5⟩, ⟨h10, .str (Str.ofString "__ge__") k10, .ref f6⟩, ⟨h11, .str (Str.ofString "__hash__") k11, .none⟩] n ps [(f6, fnOfSt w.params 7 [(Str.ofString "mycmp", cm)] mg c6 ct6), (c6, cdOfSt w.params 7 P6 a6 y6 z6 w6 n6 t6 s6 q6 b6), (f5, fnOfSt w.params 6 [(Str.ofString "mycmp", cm)] mg c5 ct5), (c5, cdOfSt w.params 6 P5 a5 y5 z5 w5 n5 t5 s5 q5 b5), (f4, fnOfSt w.params 5 [(Str.ofString "mycmp", cm)] mg c4 ct4), (c4, cdOfSt w.params 5 P4 a4 y4 z4 w4 n4 t4 s4 q4 b4), (f3, fnOfSt w.params 4 [(Str.ofString "mycmp", cm)] mg c3 ct3), (c3, cdOfSt w.params 4 P3 a3 y3 z3 w3 n3 t3 s3 q3 b3), (f2, fnOfSt w.params 3 [(Str.ofString "mycmp", cm)] mg c2 ct2), (c2, cdOfSt w.params 3 P2 a2 y2 z2 w2 n2 t2 s2 q2 b2), (f1, fnOfSt w.params 2 [] mg c1 .none), (c1, cdOfSt w.params 2 P1 a1 y1 z1 w1 n1 t1 s1 q1 b1), (sl, lobjV v4)] h' → R (.ok .next) { s with heap := h', toks := tk }) →
  codeAny (model PySem.Challenge.rw_ik0192_01.prog w) A (.body (clsBody w.params) (cenv w.params ns c fr cm)) R s
noncomputable def SV (v : V) : Prop := S v.1 v.2.1 v.2.2.1 v.2.2.2.1 v.2.2.2.2.1 v.2.2.2.2.2.1 v.2.2.2.2.2.2.1 v.2.2.2.2.2.2.2.1 v.2.2.2.2.2.2.2.2.1 v.2.2.2.2.2.2.2.2.2.1 v.2.2.2.2.2.2.2.2.2.2.1 v.2.2.2.2.2.2.2.2.2.2.2.1 v.2.2.2.2.2.2.2.2.2.2.2.2.1 v.2.2.2.2.2.2.2.2.2.2.2.2.2.1 v.2.2.2.2.2.2.2.2.2.2.2.2.2.2.1 v.2.2.2.2.2.2.2.2.2.2.2.2.2.2.2.1 v.2.2.2.2.2.2.2.2.2.2.2.2.2.2.2.2.1 v.2.2.2.2.2.2.2.2.2.2.2.2.2.2.2.2.2.1 v.2.2.2.2.2.2.2.2.2.2.2.2.2.2.2.2.2.2.1 v.2.2.2.2.2.2.2.2.2.2.2.2.2.2.2.2.2.2.2.1 v.2.2.2.2.2.2.2.2.2.2.2.2.2.2.2.2.2.2.2.2.1 v.2.2.2.2.2.2.2.2.2.2.2.2.2.2.2.2.2.2.2.2.2.1 v.2.2.2.2.2.2.2.2.2.2.2.2.2.2.2.2.2.2.2.2.2.2.1 v.2.2.2.2.2.2.2.2.2.2.2.2.2.2.2.2.2.2.2.2.2.2.2.1 v.2.2.2.2.2.2.2.2.2.2.2.2.2.2.2.2.2.2.2.2.2.2.2.2.1 v.2.2.2.2.2.2.2.2.2.2.2.2.2.2.2.2.2.2.2.2.2.2.2.2.2.1 v.2.2.2.2.2.2.2.2.2.2.2.2.2.2.2.2.2.2.2.2.2.2.2.2.2.2.1 v.2.2.2.2.2.2.2.2.2.2.2.2.2.2.2.2.2.2.2.2.2.2.2.2.2.2.2.1 v.2.2.2.2.2.2.2.2.2.2.2.2.2.2.2.2.2.2.2.2.2.2.2.2.2.2.2.2
noncomputable def v : V := @Classical.epsilon V ⟨⟨w00, {}, {}, {}, 0, 0, 0, 0, 0, 0, .none, .none, .none, 0, 0, 0, 0, 0, fun _ => none, fun _ _ => True, 0, 0, 0, 0, 0, 0, 0, 0, .none⟩⟩ fun v => ¬ SV v
@[irreducible] noncomputable def w : World := v.1
@[irreducible] noncomputable def A : Around := v.2.1
@[irreducible] noncomputable def s : Shared := v.2.2.1
@[irreducible] noncomputable def hb : Heap := v.2.2.2.1
@[irreducible] noncomputable def ns : Addr := v.2.2.2.2.1
@[irreducible] noncomputable def P : Addr := v.2.2.2.2.2.1
@[irreducible] noncomputable def c : Addr := v.2.2.2.2.2.2.1
@[irreducible] noncomputable def fr : Addr := v.2.2.2.2.2.2.2.1
@[irreducible] noncomputable def cm : Addr := v.2.2.2.2.2.2.2.2.1
@[irreducible] noncomputable def r1 : Addr := v.2.2.2.2.2.2.2.2.2.1
@[irreducible] noncomputable def x13 : Value := v.2.2.2.2.2.2.2.2.2.2.1
@[irreducible] noncomputable def x14 : Value := v.2.2.2.2.2.2.2.2.2.2.2.1
@[irreducible] noncomputable def x15 : Value := v.2.2.2.2.2.2.2.2.2.2.2.2.1
@[irreducible] noncomputable def z : Nat := v.2.2.2.2.2.2.2.2.2.2.2.2.2.1
@[irreducible] noncomputable def u1 : Tok := v.2.2.2.2.2.2.2.2.2.2.2.2.2.2.1
@[irreducible] noncomputable def u2 : Tok := v.2.2.2.2.2.2.2.2.2.2.2.2.2.2.2.1
@[irreducible] noncomputable def u3 : Tok := v.2.2.2.2.2.2.2.2.2.2.2.2.2.2.2.2.1
@[irreducible] noncomputable def u4 : Tok := v.2.2.2.2.2.2.2.2.2.2.2.2.2.2.2.2.2.1
@[irreducible] noncomputable def mg : Str → Option Value := v.2.2.2.2.2.2.2.2.2.2.2.2.2.2.2.2.2.2.1
@[irreducible] noncomputable def R : Result → Shared → Prop := v.2.2.2.2.2.2.2.2.2.2.2.2.2.2.2.2.2.2.2.1
@[irreducible] noncomputable def h1 : Int := v.2.2.2.2.2.2.2.2.2.2.2.2.2.2.2.2.2.2.2.2.1
@[irreducible] noncomputable def h2 : Int := v.2.2.2.2.2.2.2.2.2.2.2.2.2.2.2.2.2.2.2.2.2.1
@[irreducible] noncomputable def h3 : Int := v.2.2.2.2.2.2.2.2.2.2.2.2.2.2.2.2.2.2.2.2.2.2.1
@[irreducible] noncomputable def k1 : Tok := v.2.2.2.2.2.2.2.2.2.2.2.2.2.2.2.2.2.2.2.2.2.2.2.1
@[irreducible] noncomputable def k2 : Tok := v.2.2.2.2.2.2.2.2.2.2.2.2.2.2.2.2.2.2.2.2.2.2.2.2.1
@[irreducible] noncomputable def k3 : Tok := v.2.2.2.2.2.2.2.2.2.2.2.2.2.2.2.2.2.2.2.2.2.2.2.2.2.1
@[irreducible] noncomputable def v2 : Tok := v.2.2.2.2.2.2.2.2.2.2.2.2.2.2.2.2.2.2.2.2.2.2.2.2.2.2.1
@[irreducible] noncomputable def v3 : Tok := v.2.2.2.2.2.2.2.2.2.2.2.2.2.2.2.2.2.2.2.2.2.2.2.2.2.2.2.1
@[irreducible] noncomputable def vn : Value := v.2.2.2.2.2.2.2.2.2.2.2.2.2.2.2.2.2.2.2.2.2.2.2.2.2.2.2.2
theorem all : S w A s hb ns P c fr cm r1 x13 x14 x15 z u1 u2 u3 u4 mg R h1 h2 h3 k1 k2 k3 v2 v3 vn := by
  unfold S
  intro C hco hg hbm hgP gn hq
  refine codeAny_body (by kernel_rfl) (by kernel_rfl) (wpAny_mono (E := fun _ _ => False) (Q := fun f s' => R (.ok f) s') ?_ (fun _ _ x => x) fun _ _ x => x.elim)
  rw [body_eq]
  refine wpAny_execs_cons ?_
  rw [st0]
  refine wpAny_Assign_Name ?_ (by kernel_rfl)
  rw [ev0]
  refine const_str ?_
  refine' CS.store (env := cenv w.params ns c fr cm) (name := asName (st w.params 0)) ?C ?hr rfl ?hst ?_
  case C => exact C
  case hr => kernel_rfl
  case hst => kernel_rfl
  intro hh kt g1 es' n' hput C1
  obtain ⟨rfl, rfl⟩ := dobj_inj (hput.symm.trans (show _ = dobj #[⟨h1, .str (Str.ofString "__module__") k1, .str (Str.ofString "cpy313.functools") s.toks⟩, ⟨h2, .str (Str.ofString "__qualname__") k2, .str (Str.ofString "cmp_to_key.<locals>.K") v2⟩, ⟨h3, .str (Str.ofString "__firstlineno__") k3, .int 31 v3⟩] 3 by kernel_rfl))
  try dsimp only
  refine wpAny_execs_cons ?_
  rw [st1]
  refine wpAny_Assign_Name ?_ (by kernel_rfl)
  rw [ev1]
  refine wpAny_bind (wpAny_standAt (wpAny_bind (spliced_cons (const_str (spliced_nil ?_)))))
  refine wpAny_newObj_type ?_ (by size_fits)
  have C2 := CS.add (C1.ext (ExtSz.push (lobjV (kt + 1)))) (Heap.get?_push_size _ rfl) (C1.fresh (Nat.le_refl _))
  refine' CS.store (env := cenv w.params ns c fr cm) (name := asName (st w.params 1)) ?C ?hr rfl ?hst ?_
  case C => exact C2
  case hr => kernel_rfl
  case hst => kernel_rfl
  intro hh kt2 g2 es' n' hput C3
  obtain ⟨rfl, rfl⟩ := dobj_inj (hput.symm.trans (put_new (by kernel_rfl)))
  try dsimp only
  refine wpAny_execs_cons ?_
  rw [st2]
  refine cs_def (sd := st w.params 2) (clos := []) (qual := kq (fdName (st w.params 2))) (show CS _ _ _ _ _ _ _ (Shared.heap _) from C3) hco hg hbm hgP gn (by kernel_rfl) (by kernel_rfl) (by kernel_rfl) (by kernel_rfl) (fun v => by kernel_rfl) (by kernel_rfl) (by kernel_rfl) (by exact trivial) (by kernel_rfl) (by kernel_rfl) (by kernel_rfl) ?_
  intro f1 c1 P1 a1 y1 z1 w1 n1 t1 s1 q1 b1 ctv2 hh2 kt2 g2 tk2 hctv2 D2
  try dsimp only
  obtain rfl := hctv2 rfl
  refine wpAny_execs_cons ?_
  rw [st3]
  refine cs_def (sd := st w.params 3) (clos := [(Str.ofString "mycmp", cm)]) (qual := kq (fdName (st w.params 3))) (show CS _ _ _ _ _ _ _ (Shared.heap _) from D2) hco hg hbm hgP gn (by kernel_rfl) (by kernel_rfl) (by kernel_rfl) (by kernel_rfl) (fun v => by kernel_rfl) (by kernel_rfl) (by kernel_rfl) (by simp [TriplesOk, rawInt]) (by kernel_rfl) (by kernel_rfl) (by kernel_rfl) ?_
  intro f2 c2 P2 a2 y2 z2 w2 n2 t2 s2 q2 b2 ctv3 hh3 kt3 g3 tk3 hctv3 D3
  try dsimp only
  refine wpAny_execs_cons ?_
  rw [st4]
  refine cs_def (sd := st w.params 4) (clos := [(Str.ofString "mycmp", cm)]) (qual := kq (fdName (st w.params 4))) (show CS _ _ _ _ _ _ _ (Shared.heap _) from D3) hco hg hbm hgP gn (by kernel_rfl) (by kernel_rfl) (by kernel_rfl) (by kernel_rfl) (fun v => by kernel_rfl) (by kernel_rfl) (by kernel_rfl) (by simp [TriplesOk, rawInt]) (by kernel_rfl) (by kernel_rfl) (by kernel_rfl) ?_
  intro f3 c3 P3 a3 y3 z3 w3 n3 t3 s3 q3 b3 ctv4 hh4 kt4 g4 tk4 hctv4 D4
  try dsimp only
  refine wpAny_execs_cons ?_
  rw [st5]
  refine cs_def (sd := st w.params 5) (clos := [(Str.ofString "mycmp", cm)]) (qual := kq (fdName (st w.params 5))) (show CS _ _ _ _ _ _ _ (Shared.heap _) from D4) hco hg hbm hgP gn (by kernel_rfl) (by kernel_rfl) (by kernel_rfl) (by kernel_rfl) (fun v => by kernel_rfl) (by kernel_rfl) (by kernel_rfl) (by simp [TriplesOk, rawInt]) (by kernel_rfl) (by kernel_rfl) (by kernel_rfl) ?_
  intro f4 c4 P4 a4 y4 z4 w4 n4 t4 s4 q4 b4 ctv5 hh5 kt5 g5 tk5 hctv5 D5
  try dsimp only
  refine wpAny_execs_cons ?_
  rw [st6]
  refine cs_def (sd := st w.params 6) (clos := [(Str.ofString "mycmp", cm)]) (qual := kq (fdName (st w.params 6))) (show CS _ _ _ _ _ _ _ (Shared.heap _) from D5) hco hg hbm hgP gn (by kernel_rfl) (by kernel_rfl) (by kernel_rfl) (by kernel_rfl) (fun v => by kernel_rfl) (by kernel_rfl) (by kernel_rfl) (by simp [TriplesOk, rawInt]) (by kernel_rfl) (by kernel_rfl) (by kernel_rfl) ?_
  intro f5 c5 P5 a5 y5 z5 w5 n5 t5 s5 q5 b5 ctv6 hh6 kt6 g6 tk6 hctv6 D6
  try dsimp only
  refine wpAny_execs_cons ?_
  rw [st7]
  refine cs_def (sd := st w.params 7) (clos := [(Str.ofString "mycmp", cm)]) (qual := kq (fdName (st w.params 7))) (show CS _ _ _ _ _ _ _ (Shared.heap _) from D6) hco hg hbm hgP gn (by kernel_rfl) (by kernel_rfl) (by kernel_rfl) (by kernel_rfl) (fun v => by kernel_rfl) (by kernel_rfl) (by kernel_rfl) (by simp [TriplesOk, rawInt]) (by kernel_rfl) (by kernel_rfl) (by kernel_rfl) ?_
  intro f6 c6 P6 a6 y6 z6 w6 n6 t6 s6 q6 b6 ctv7 hh7 kt7 g7 tk7 hctv7 D7
  try dsimp only
  refine wpAny_execs_cons ?_
  rw [st8]
  refine wpAny_Assign_Name ?_ (by kernel_rfl)
  rw [ev8]
  refine const_none ?_
  refine' CS.store (env := cenv w.params ns c fr cm) (name := asName (st w.params 8)) ?C ?hr rfl ?hst ?_
  case C => exact D7
  case hr => kernel_rfl
  case hst => kernel_rfl
  intro hh kt9 g9 es' n' hput C9
  obtain ⟨rfl, rfl⟩ := dobj_inj (hput.symm.trans (put_new (by kernel_rfl)))
  try dsimp only
  refine wpAny_execs_nil ?_
  exact hq _ _ _ _ _ _ _ _ _ _ _ _ _ _ _ _ _ _ _ _ _ _ _ _ _ _ _ _ _ _ _ _ _ _ _ _ _ _ _ _ _ _ _ _ _ _ _ _ _ _ _ _ _ _ _ _ _ _ _ _ _ _ _ _ _ _ _ _ _ _ _ _ _ _ _ _ _ _ _ _ _ _ _ _ _ _ _ _ _ _ _ _ _ _ _ _ _ _ _ _ C9
theorem fin (v' : V) : SV v' := Classical.byContradiction fun n => @Classical.epsilon_spec V (fun v => ¬ SV v) ⟨v', n⟩ (by with_unfolding_all exact all)
end BK
theorem bodyK {w : World} {A : Around} {s : Shared} {hb : Heap} {ns P c fr cm r1 : Addr} {x13 x14 x15 : Value} {z : Nat} {u1 u2 u3 u4 : Tok} {mg : Str → Option Value} {R : Result → Shared → Prop} {h1 h2 h3 : Int} {k1 k2 k3 v2 v3 : Tok} {vn : Value}
    (C : CS hb ns P #[⟨h1, .str (Str.ofString "__module__") k1, vn⟩, ⟨h2, .str (Str.ofString "__qualname__") k2, .str (Str.ofString "cmp_to_key.<locals>.K") v2⟩, ⟨h3, .str (Str.ofString "__firstlineno__") k3, .int 31 v3⟩] 3 #[] [] s.heap) (hco : hb.get? c = some (kcode P r1 x13 x14 x15 z u1 u2 u3 u4)) (hg : hb.Ns mainGlobals mg) (hbm : hb.BuiltinsAt mg P) (hgP : mainGlobals ≠ P) (gn : mainGlobals ≠ ns)
    (hq : ∀ (f1 f2 f3 f4 f5 f6 sl : Addr) (h4 h5 h6 h7 h8 h9 h10 h11 : Int) (k4 k5 k6 k7 k8 k9 k10 k11 v1 v4 : Tok) (c1 P1 a1 : Addr) (y1 z1 w1 : Value) (n1 : Nat) (t1 s1 q1 b1 : Tok) (c2 P2 a2 : Addr) (y2 z2 w2 : Value) (n2 : Nat) (t2 s2 q2 b2 : Tok) (c3 P3 a3 : Addr) (y3 z3 w3 : Value) (n3 : Nat) (t3 s3 q3 b3 : Tok) (c4 P4 a4 : Addr) (y4 z4 w4 : Value) (n4 : Nat) (t4 s4 q4 b4 : Tok) (c5 P5 a5 : Addr) (y5 z5 w5 : Value) (n5 : Nat) (t5 s5 q5 b5 : Tok) (c6 P6 a6 : Addr) (y6 z6 w6 : Value) (n6 : Nat) (t6 s6 q6 b6 : Tok) (ct2 ct3 ct4 ct5 ct6 : Value) h' tk n ps, CS hb ns P #[⟨h1, .str (Str.ofString "__module__") k1, .str (Str.ofString "cpy313.functools") v1⟩, ⟨h2, .str (Str.ofString "__qualname__") k2, .str (Str.ofString "cmp_to_key.<locals>.K") v2⟩, ⟨h3, .str (Str.ofString "__firstlineno__") k3, .int 31 v3⟩, ⟨h4, .str (Str.ofString "__slots__") k4, .ref sl⟩, ⟨h5, .str (Str.ofString "__init__") k5, .ref f1⟩, ⟨h6, .str (Str.ofString "__lt__") k6, .ref f2⟩, ⟨h7, .str (Str.ofString "__gt__") k7, .ref f3⟩, ⟨h8, .str (Str.ofString "__eq__") k8, .ref f4⟩, ⟨h9, .str (Str.ofString "__le__") k9, .ref f5⟩, ⟨h10, .str (Str.ofString "__ge__") k10, .ref f6⟩, ⟨h11, .str (Str.ofString "__hash__") k11, .none⟩] n ps [(f6, fnOfSt w.params 7 [(Str.ofString "mycmp", cm)] mg c6 ct6), (c6, cdOfSt w.params 7 P6 a6 y6 z6 w6 n6 t6 s6 q6 b6), (f5, fnOfSt w.params 6 [(Str.ofString "mycmp", cm)] mg c5 ct5), (c5, cdOfSt w.params 6 P5 a5 y5 z5 w5 n5 t5 s5 q5 b5), (f4, fnOfSt w.params 5 [(Str.ofString "mycmp", cm)] mg c4 ct4), (c4, cdOfSt w.params 5 P4 a4 y4 z4 w4 n4 t4 s4 q4 b4), (f3, fnOfSt w.params 4 [(Str.ofString "mycmp", cm)] mg c3 ct3), (c3, cdOfSt w.params 4 P3 a3 y3 z3 w3 n3 t3 s3 q3 b3), (f2, fnOfSt w.params 3 [(Str.ofString "mycmp", cm)] mg c2 ct2), (c2, cdOfSt w.params 3 P2 a2 y2 z2 w2 n2 t2 s2 q2 b2), (f1, fnOfSt w.params 2 [] mg c1 .none), (c1, cdOfSt w.params 2 P1 a1 y1 z1 w1 n1 t1 s1 q1 b1), (sl, lobjV v4)] h' → R (.ok .next) { s with heap := h', toks := tk }) :
    codeAny (model PySem.Challenge.rw_ik0192_01.prog w) A (.body (clsBody w.params) (cenv w.params ns c fr cm)) R s :=
  BK.fin ⟨w, A, s, hb, ns, P, c, fr, cm, r1, x13, x14, x15, z, u1, u2, u3, u4, mg, R, h1, h2, h3, k1, k2, k3, v2, v3, vn⟩ C hco hg hbm hgP gn hq
end Mine
end
section
open PySem PySem.W PyProof.Rows PySem.Calls PySem.W.X
namespace Mine
noncomputable def RetS (s : Shared) (Q : Value → Shared → Prop) (a : Addr) : Prop := ∀ sup h' tk, X.Mem s.heap h' [] [(sup, { cls := .type "super", data := .fields #[.ref a, .ref a, .ref a] })] → Q (.ref sup) { s with heap := h', toks := tk }
local macro_rules | `(tactic| x_close) => `(tactic| ((rename RetS _ _ _ => hr); refine hr _ _ _ ?_; assumption))
theorem super_made {prog : Program} (w : World) (a ns bT sl f1 f2 f3 f4 f5 f6 tu md : Addr) (t1 v2 v1 v3 k1 k3 k4 k5 k6 k7 k8 k9 k10 k11 k12 k13 k14 : Tok) (h1 h3 h4 h5 h6 h7 h8 h9 h10 h11 h12 h13 h14 : Int) (s : Shared) (Q E : Value → Shared → Prop) (gK : (KB w.params).In s.heap) (ga : s.heap.get? a = some { cls := .type "type", data := .cls { name := Str.ofString "K", bases := [.type "object"], mro := [.ref a, .type "object"], ns := ns, qualname := Str.ofString "cmp_to_key.<locals>.K", hasDict := false, slotNames := [Str.ofString "obj"] }, slots := #[some (.ref bT), none, some (.str (Str.ofString "K") t1), some (.str (Str.ofString "cmp_to_key.<locals>.K") v2), some (.builtin "object.__new__"), some (.bool false)] })
  (gn : s.heap.get? ns = some { cls := .type "dict", data := .dict #[⟨h1, .str (Str.ofString "__module__") k1, .str (Str.ofString "cpy313.functools") v1⟩, ⟨h3, .str (Str.ofString "__firstlineno__") k3, .int 31 v3⟩, ⟨h4, .str (Str.ofString "__slots__") k4, .ref sl⟩, ⟨h5, .str (Str.ofString "__init__") k5, .ref f1⟩, ⟨h6, .str (Str.ofString "__lt__") k6, .ref f2⟩, ⟨h7, .str (Str.ofString "__gt__") k7, .ref f3⟩, ⟨h8, .str (Str.ofString "__eq__") k8, .ref f4⟩, ⟨h9, .str (Str.ofString "__le__") k9, .ref f5⟩, ⟨h10, .str (Str.ofString "__ge__") k10, .ref f6⟩, ⟨h11, .str (Str.ofString "__hash__") k11, .none⟩, ⟨h12, .str (Str.ofString "__static_attributes__") k12, .ref tu⟩, ⟨h13, .str (Str.ofString "obj") k13, .ref md⟩, ⟨h14, .str (Str.ofString "__doc__") k14, .none⟩] 3 }) (hret : RetS s Q a) : wpAny (model prog w) AX (call (.type "super") [.ref a, .ref a]) Q E s := by
  x_run
end Mine
end
section
open PySem PySem.W PyProof.Rows PySem.Calls PySem.Builtin Mine
local macro_rules | `(tactic| walk_at "MGET") => `(tactic| first
  | assumption
  | (rename X.Mem _ _ _ _ => D9; first | exact mem_new D9 0 rfl | exact mem_new D9 1 rfl | exact mem_new D9 2 rfl | exact mem_old D9 (by assumption) ((Bool.or_eq_true _ _).mpr (.inr rfl))))
local macro_rules | `(tactic| walk_at "TH") => `(tactic| focus ((case' h => first | with_reducible assumption | kernel_rfl!); skip))
local macro_rules | `(tactic| walk_at "TO") => `(tactic| focus ((case' ho => walk_at "MGET"); skip))
local macro_rules | `(tactic| walk_at "TN") => `(tactic| first
  | (with_reducible first | apply wpAny_pure | apply wpAny_bind | apply for_arr | apply for_nil | apply for_cons | apply tc_sem | apply wpAny_askSetting)
  | ((with_reducible apply for_after); (case' hc => exact rfl); (case' hl => exact rfl))
  | ((with_reducible apply lb_ok); (case' ho => walk_at "MGET"); (case' hp => kernel_rfl!))
  | wp_delta
  | (with_reducible apply ite_f; walk_at "TH")
  | (with_reducible apply ite_t; walk_at "TH")
  | (with_reducible apply sub_true; walk_at "TH")
  | (with_reducible apply sub_false; walk_at "TH")
  | (with_reducible apply tl_none; walk_at "TH")
  | (with_reducible first | apply wpAny_rule | apply wpAny_holding | apply wpAny_standAt | apply wpAny_point)
  | ((with_reducible first | apply wpAny_load' | apply wpAny_loadPart'); walk_at "TO")
  | ((with_reducible apply wpAny_ite_false); focus (rfl; done))
  | ((with_reducible apply wpAny_ite_true); focus (rfl; done))
  | (with_reducible first | apply wpAny_fresh' | apply wpAny_attempt | apply wpAny_run | apply wpAny_runValue)
  | (with_reducible apply tl_some (.builtin "classmethod_descriptor.__get__"); walk_at "TH")
  | (with_reducible apply tl_some (.builtin "dict.__iter__"); walk_at "TH")
  | (with_reducible apply tl_some (.builtin "type.mro"); walk_at "TH")
  | (with_reducible apply tl_some (.builtin "object.__new__"); walk_at "TH")
  | (first | rw [bo_init] | rw [id_obj]))
local macro_rules | `(tactic| walk_at "UPD0") => `(tactic| (rename X.Mem _ _ _ _ => D9; refine m_updateP D9 0 rfl _ rfl ?hf ?_; (case' hf => exact rfl); clear D9; intro H9 D9))
local macro_rules | `(tactic| walk_at "TLB") => `(tactic| (refine' tl_base ?ho ?hm ?hd ?hl ?hb ?_; (case' ho => walk_at "MGET"); (case' hm => exact rfl); (case' hd => walk_at "MGET"); (case' hl => kernel_rfl!); (case' hb => exact rfl)))
section
open PySem PySem.W PyProof.Rows PySem.Calls PySem.Builtin
set_option maxHeartbeats 0
namespace Mine

theorem call_args {M : Model} {A : Around} {E : Value → Shared → Prop} {s : Shared} {f : Value} {vs vs' : List Value} {Q : Value → Shared → Prop} (e : vs = vs') (h : wpAny M A (call f vs') Q E s) : wpAny M A (call f vs) Q E s := e ▸ h
theorem three {a b c a' b' c' : Value} (h1 : a = a') (h2 : b = b') (h3 : c = c') : [a, b, c] = [a', b', c'] := by rw [h1, h2, h3]
namespace SG
noncomputable abbrev V := World × Around × (Value → Shared → Prop) × Heap × (Array GenState) × Drawn × Nat × OsState × Addr × Addr × Addr × Addr × Tok × Tok × Tok × (PySem.Fin → Shared → Prop)
noncomputable def S (w : World) (A : Around) (E : Value → Shared → Prop) (h : Heap) (g : Array GenState) (d : Drawn) (t : Nat) (os : OsState) (so : Addr) (a : Addr) (ns : Addr) (bT : Addr) (t1 : Tok) (v2 : Tok) (tk : Tok) (Q : PySem.Fin → Shared → Prop) : Prop :=
  (h.get? so = some { cls := .type "super", data := .fields #[.ref a, .ref a, .ref a] }) →
  (h.get? a = some { cls := .type "type", data := .cls { name := Str.ofString "K", bases := [.type "object"], mro := [.ref a, .type "object"], ns := ns, qualname := Str.ofString "cmp_to_key.<locals>.K", hasDict := false, slotNames := [Str.ofString "obj"] }, slots := #[some (.ref bT), none, some (.str (Str.ofString "K") t1), some (.str (Str.ofString "cmp_to_key.<locals>.K") v2), some (.builtin "object.__new__"), some (.bool false)] }) →
  (h.get? 2 = some { cls := .none, data := .dict #[] 0 }) →
  (wpAny (model PySem.Challenge.rw_ik0192_01.prog w) A (call (.builtin "classmethod_descriptor.__get__") [.builtin "object.__init_subclass__", .none, .ref a]) (fun v s' => Q (.done (.ret v)) s') E ⟨h, g, d, t, os⟩) →
  wpAny (model PySem.Challenge.rw_ik0192_01.prog w) A (Builtin.«super.__getattribute__» ⟨[.ref so, .str (Str.ofString "__init_subclass__") tk], []⟩) Q E ⟨h, g, d, t, os⟩
noncomputable def SV (v : V) : Prop := S v.1 v.2.1 v.2.2.1 v.2.2.2.1 v.2.2.2.2.1 v.2.2.2.2.2.1 v.2.2.2.2.2.2.1 v.2.2.2.2.2.2.2.1 v.2.2.2.2.2.2.2.2.1 v.2.2.2.2.2.2.2.2.2.1 v.2.2.2.2.2.2.2.2.2.2.1 v.2.2.2.2.2.2.2.2.2.2.2.1 v.2.2.2.2.2.2.2.2.2.2.2.2.1 v.2.2.2.2.2.2.2.2.2.2.2.2.2.1 v.2.2.2.2.2.2.2.2.2.2.2.2.2.2.1 v.2.2.2.2.2.2.2.2.2.2.2.2.2.2.2
noncomputable def v : V := @Classical.epsilon V ⟨⟨w00, {}, fun _ _ => True, {}, #[], {}, 0, {}, 0, 0, 0, 0, 0, 0, 0, fun _ _ => True⟩⟩ fun v => ¬ SV v
@[irreducible] noncomputable def w : World := v.1
@[irreducible] noncomputable def A : Around := v.2.1
@[irreducible] noncomputable def E : Value → Shared → Prop := v.2.2.1
@[irreducible] noncomputable def h : Heap := v.2.2.2.1
@[irreducible] noncomputable def g : Array GenState := v.2.2.2.2.1
@[irreducible] noncomputable def d : Drawn := v.2.2.2.2.2.1
@[irreducible] noncomputable def t : Nat := v.2.2.2.2.2.2.1
@[irreducible] noncomputable def os : OsState := v.2.2.2.2.2.2.2.1
@[irreducible] noncomputable def so : Addr := v.2.2.2.2.2.2.2.2.1
@[irreducible] noncomputable def a : Addr := v.2.2.2.2.2.2.2.2.2.1
@[irreducible] noncomputable def ns : Addr := v.2.2.2.2.2.2.2.2.2.2.1
@[irreducible] noncomputable def bT : Addr := v.2.2.2.2.2.2.2.2.2.2.2.1
@[irreducible] noncomputable def t1 : Tok := v.2.2.2.2.2.2.2.2.2.2.2.2.1
@[irreducible] noncomputable def v2 : Tok := v.2.2.2.2.2.2.2.2.2.2.2.2.2.1
@[irreducible] noncomputable def tk : Tok := v.2.2.2.2.2.2.2.2.2.2.2.2.2.2.1
@[irreducible] noncomputable def Q : PySem.Fin → Shared → Prop := v.2.2.2.2.2.2.2.2.2.2.2.2.2.2.2
theorem all : S w A E h g d t os so a ns bT t1 v2 tk Q := by
  unfold S
  intro hso ga hS hq
  unfold Builtin.«super.__getattribute__»
  repeat (first
    | (with_reducible refine bind_hide fun R hR => ?_; (repeat walk_at "TN"); refine hR.h _ _ ?_; clear hR)
    | (walk_at "TN"))
  refine call_args (vs' := [.builtin "object.__init_subclass__", .none, .ref a]) ?e ?_
  case e => exact three (by kernel_rfl!) (by simp) rfl
  refine wpAny_mono hq (fun v s' hv => ?_) fun _ _ x => x
  repeat walk_at "TN"
  exact hv
theorem fin (v' : V) : SV v' := by
  apply Classical.byContradiction
  intro n
  exact @Classical.epsilon_spec V (fun v => ¬ SV v) ⟨v', n⟩ (by with_unfolding_all exact all)
end SG
theorem sup_ga (w : World) (A : Around) {E : Value → Shared → Prop} {h : Heap} {g : Array GenState} {d : Drawn} {t : Nat} {os : OsState} (so : Addr) (a ns bT : Addr) (t1 v2 tk : Tok) (Q : PySem.Fin → Shared → Prop)
   (hso : h.get? so = some { cls := .type "super", data := .fields #[.ref a, .ref a, .ref a] }) (ga : h.get? a = some { cls := .type "type", data := .cls { name := Str.ofString "K", bases := [.type "object"], mro := [.ref a, .type "object"], ns := ns, qualname := Str.ofString "cmp_to_key.<locals>.K", hasDict := false, slotNames := [Str.ofString "obj"] }, slots := #[some (.ref bT), none, some (.str (Str.ofString "K") t1), some (.str (Str.ofString "cmp_to_key.<locals>.K") v2), some (.builtin "object.__new__"), some (.bool false)] }) (hS : h.get? 2 = some { cls := .none, data := .dict #[] 0 })
   (hq : wpAny (model PySem.Challenge.rw_ik0192_01.prog w) A (call (.builtin "classmethod_descriptor.__get__") [.builtin "object.__init_subclass__", .none, .ref a]) (fun v s' => Q (.done (.ret v)) s') E ⟨h, g, d, t, os⟩) :
   wpAny (model PySem.Challenge.rw_ik0192_01.prog w) A (Builtin.«super.__getattribute__» ⟨[.ref so, .str (Str.ofString "__init_subclass__") tk], []⟩) Q E ⟨h, g, d, t, os⟩ :=
  SG.fin ⟨w, A, E, h, g, d, t, os, so, a, ns, bT, t1, v2, tk, Q⟩ hso ga hS hq
end Mine
end
section
open PySem PySem.W PyProof.Rows PySem.Calls PySem.W.X
namespace Mine
noncomputable def RetB (s : Shared) (Q : Value → Shared → Prop) (o : Obj) : Prop := ∀ b h' tk, X.Mem s.heap h' [] [(b, o)] → Q (.ref b) { s with heap := h', toks := tk }
noncomputable def RetN (s : Shared) (Q : Value → Shared → Prop) : Prop := ∀ h' tk, X.Mem s.heap h' [] [] → Q .none { s with heap := h', toks := tk }
local macro_rules | `(tactic| x_close) => `(tactic| first | ((rename RetB _ _ _ => hr); refine hr _ _ _ ?_; assumption) | ((rename RetN _ _ => hr); refine hr _ _ ?_; first | assumption | exact X.Mem.start _))
theorem get_call {prog : Program} (w : World) (a ns bT sl f1 f2 f3 f4 f5 f6 tu md : Addr) (t1 v2 v1 v3 k1 k3 k4 k5 k6 k7 k8 k9 k10 k11 k12 k13 k14 : Tok) (h1 h3 h4 h5 h6 h7 h8 h9 h10 h11 h12 h13 h14 : Int) (s : Shared) (Q E : Value → Shared → Prop) (gK : (KB w.params).In s.heap) (ga : s.heap.get? a = some { cls := .type "type", data := .cls { name := Str.ofString "K", bases := [.type "object"], mro := [.ref a, .type "object"], ns := ns, qualname := Str.ofString "cmp_to_key.<locals>.K", hasDict := false, slotNames := [Str.ofString "obj"] }, slots := #[some (.ref bT), none, some (.str (Str.ofString "K") t1), some (.str (Str.ofString "cmp_to_key.<locals>.K") v2), some (.builtin "object.__new__"), some (.bool false)] })
  (gn : s.heap.get? ns = some { cls := .type "dict", data := .dict #[⟨h1, .str (Str.ofString "__module__") k1, .str (Str.ofString "cpy313.functools") v1⟩, ⟨h3, .str (Str.ofString "__firstlineno__") k3, .int 31 v3⟩, ⟨h4, .str (Str.ofString "__slots__") k4, .ref sl⟩, ⟨h5, .str (Str.ofString "__init__") k5, .ref f1⟩, ⟨h6, .str (Str.ofString "__lt__") k6, .ref f2⟩, ⟨h7, .str (Str.ofString "__gt__") k7, .ref f3⟩, ⟨h8, .str (Str.ofString "__eq__") k8, .ref f4⟩, ⟨h9, .str (Str.ofString "__le__") k9, .ref f5⟩, ⟨h10, .str (Str.ofString "__ge__") k10, .ref f6⟩, ⟨h11, .str (Str.ofString "__hash__") k11, .none⟩, ⟨h12, .str (Str.ofString "__static_attributes__") k12, .ref tu⟩, ⟨h13, .str (Str.ofString "obj") k13, .ref md⟩, ⟨h14, .str (Str.ofString "__doc__") k14, .none⟩] 3 }) (hret : RetB s Q { cls := .type "builtin_function_or_method", data := .fields #[.builtin "object.__init_subclass__", .ref a] }) : wpAny (model prog w) AX (call (.builtin "classmethod_descriptor.__get__") [.builtin "object.__init_subclass__", .none, .ref a]) Q E s := by
  x_run
theorem init_call {prog : Program} (w : World) (b : Addr) (a ns bT sl f1 f2 f3 f4 f5 f6 tu md : Addr) (t1 v2 v1 v3 k1 k3 k4 k5 k6 k7 k8 k9 k10 k11 k12 k13 k14 : Tok) (h1 h3 h4 h5 h6 h7 h8 h9 h10 h11 h12 h13 h14 : Int) (s : Shared) (Q E : Value → Shared → Prop) (gK : (KB w.params).In s.heap) (gb : s.heap.get? b = some { cls := .type "builtin_function_or_method", data := .fields #[.builtin "object.__init_subclass__", .ref a] }) (ga : s.heap.get? a = some { cls := .type "type", data := .cls { name := Str.ofString "K", bases := [.type "object"], mro := [.ref a, .type "object"], ns := ns, qualname := Str.ofString "cmp_to_key.<locals>.K", hasDict := false, slotNames := [Str.ofString "obj"] }, slots := #[some (.ref bT), none, some (.str (Str.ofString "K") t1), some (.str (Str.ofString "cmp_to_key.<locals>.K") v2), some (.builtin "object.__new__"), some (.bool false)] })
  (gn : s.heap.get? ns = some { cls := .type "dict", data := .dict #[⟨h1, .str (Str.ofString "__module__") k1, .str (Str.ofString "cpy313.functools") v1⟩, ⟨h3, .str (Str.ofString "__firstlineno__") k3, .int 31 v3⟩, ⟨h4, .str (Str.ofString "__slots__") k4, .ref sl⟩, ⟨h5, .str (Str.ofString "__init__") k5, .ref f1⟩, ⟨h6, .str (Str.ofString "__lt__") k6, .ref f2⟩, ⟨h7, .str (Str.ofString "__gt__") k7, .ref f3⟩, ⟨h8, .str (Str.ofString "__eq__") k8, .ref f4⟩, ⟨h9, .str (Str.ofString "__le__") k9, .ref f5⟩, ⟨h10, .str (Str.ofString "__ge__") k10, .ref f6⟩, ⟨h11, .str (Str.ofString "__hash__") k11, .none⟩, ⟨h12, .str (Str.ofString "__static_attributes__") k12, .ref tu⟩, ⟨h13, .str (Str.ofString "obj") k13, .ref md⟩, ⟨h14, .str (Str.ofString "__doc__") k14, .none⟩] 3 }) (hret : RetN s Q) : wpAny (model prog w) AX (call (.ref b) []) Q E s := by
  x_run
end Mine
end
section
open PySem PySem.W PyProof.Rows PySem.Calls PySem.W.X
namespace Mine
theorem mem_up {h₀ h : Heap} {news : List (Addr × Obj)} (D : X.Mem h₀ h [] news) : ∀ b o, h₀.get? b = some o → h.get? b = some o := fun b o e => D.keep b o e ((Bool.or_eq_true _ _).mpr (.inr rfl))
theorem sup_attr (w : World) (A : Around) (hA : A.handled = none) (hA2 : A.depth ≤ 680) (hA3 : A.units ≤ 8900) {E : Value → Shared → Prop} {h : Heap} {g : Array GenState} {d : Drawn} {t : Nat} {os : OsState} (so : Addr) (a ns bT sl f1 f2 f3 f4 f5 f6 tu md : Addr) (t1 v2 v1 v3 k1 k3 k4 k5 k6 k7 k8 k9 k10 k11 k12 k13 k14 : Tok) (h1 h3 h4 h5 h6 h7 h8 h9 h10 h11 h12 h13 h14 : Int) (Q : Value → Shared → Prop)
  (hso : h.get? so = some { cls := .type "super", data := .fields #[.ref a, .ref a, .ref a] }) (gK : (KB w.params).In h) (ga : h.get? a = some { cls := .type "type", data := .cls { name := Str.ofString "K", bases := [.type "object"], mro := [.ref a, .type "object"], ns := ns, qualname := Str.ofString "cmp_to_key.<locals>.K", hasDict := false, slotNames := [Str.ofString "obj"] }, slots := #[some (.ref bT), none, some (.str (Str.ofString "K") t1), some (.str (Str.ofString "cmp_to_key.<locals>.K") v2), some (.builtin "object.__new__"), some (.bool false)] }) (gn : h.get? ns = some { cls := .type "dict", data := .dict #[⟨h1, .str (Str.ofString "__module__") k1, .str (Str.ofString "cpy313.functools") v1⟩, ⟨h3, .str (Str.ofString "__firstlineno__") k3, .int 31 v3⟩, ⟨h4, .str (Str.ofString "__slots__") k4, .ref sl⟩, ⟨h5, .str (Str.ofString "__init__") k5, .ref f1⟩, ⟨h6, .str (Str.ofString "__lt__") k6, .ref f2⟩, ⟨h7, .str (Str.ofString "__gt__") k7, .ref f3⟩, ⟨h8, .str (Str.ofString "__eq__") k8, .ref f4⟩, ⟨h9, .str (Str.ofString "__le__") k9, .ref f5⟩, ⟨h10, .str (Str.ofString "__ge__") k10, .ref f6⟩, ⟨h11, .str (Str.ofString "__hash__") k11, .none⟩, ⟨h12, .str (Str.ofString "__static_attributes__") k12, .ref tu⟩, ⟨h13, .str (Str.ofString "obj") k13, .ref md⟩, ⟨h14, .str (Str.ofString "__doc__") k14, .none⟩] 3 }) (hS : h.get? 2 = some { cls := .none, data := .dict #[] 0 })
  (hq : ∀ b h' tk, X.Mem h h' [] [(b, { cls := .type "builtin_function_or_method", data := .fields #[.builtin "object.__init_subclass__", .ref a] })] → Q (.ref b) ⟨h', g, d, tk, os⟩) :
  wpAny (model PySem.Challenge.rw_ik0192_01.prog w) A (getAttr (.ref so) (Str.ofString "__init_subclass__")) Q E ⟨h, g, d, t, os⟩ := by
  have hlk := F.ks_slot_super_ga.lookup
  have hT : ∀ t', (⟨h, g, d, t', os⟩ : Shared).TypeIs (.ref so) "super" := fun _ => ⟨_, hso, rfl⟩
  unfold getAttr getAttrBy
  refine wpAny_bind (wpAny_mkText (wpAny_holding (wpAny_bind (wpAny_typeOf (hT _) (wpAny_bind (wpAny_of_eq hlk ?_))))))
  show wpAny _ _ (getAttrByItsOwn (.ref so) (.str (Str.ofString "__init_subclass__") t) (.type "super") (.builtin "super.__getattribute__") true false) _ _ _
  unfold getAttrByItsOwn hookBefore callGetattribute boundAndCalled
  refine wpAny_bind (wpAny_of_eq (show (if onTheHeap (.type "super") then typeLookup (.type "super") "__getattr__" else pure none) = pure none from rfl) ?_)
  refine wpAny_bind (wpAny_attempt (wpAny_holding ?_))
  show wpAny _ _ (bindSpecial (.builtin "super.__getattribute__") (.ref so) >>= _) _ _ _
  refine wpAny_bind (wpAny_of_eq (F.ks_slot_super_ga.bind _) ?_)
  refine wpAny_mono (Q := fun v s' => ∃ b h' tk, X.Mem h h' [] [(b, { cls := .type "builtin_function_or_method", data := .fields #[.builtin "object.__init_subclass__", .ref a] })] ∧ v = .ref b ∧ s' = ⟨h', g, d, tk, os⟩) (E := fun _ _ => False)
    (wpAny_call_entry F.ks_slot_super_ga (hT _) F.ks_entry_super_ga (sup_ga w A.in1 so a ns bT t1 v2 t _ hso ga hS ?_) (F.ks_gaArgs_super _ _)) (fun v s' hv => ?_) fun _ _ z => z.elim
  · refine wpAny_weak (B := AX) (get_call w a ns bT sl f1 f2 f3 f4 f5 f6 tu md t1 v2 v1 v3 k1 k3 k4 k5 k6 k7 k8 k9 k10 k11 k12 k13 k14 h1 h3 h4 h5 h6 h7 h8 h9 h10 h11 h12 h13 h14 _ _ _ gK ga gn ?_) hA.symm (by show A.depth ≤ 690; omega) (by show A.units + 1 ≤ 9000; omega) (fun _ e => by cases e) (fun _ e => by cases e)
    intro b h' tk D
    exact ⟨_, rfl, b, h', tk, D, rfl, rfl⟩
  · obtain ⟨b, h', tk, D, rfl, rfl⟩ := hv
    exact wpAny_pure (hq b h' tk D)
end Mine
end
section
open PySem PySem.W PyProof.Rows PySem.Calls PySem.Builtin
set_option maxHeartbeats 0
namespace Mine

namespace TK
noncomputable abbrev V := World × Around × Heap × Array GenState × Drawn × Nat × OsState × (Nat → Addr) × (Nat → Tok) × (Nat → Int) × (Nat → Nat) × (Nat → Option Addr) × (Nat → Data) × (Nat → Array (Option Value)) × (PySem.Fin → Shared → Prop) × (Value → Shared → Prop)
noncomputable def S (w : World) (A : Around) (h : Heap) (g : Array GenState) (d : Drawn) (t : Nat) (os : OsState) (cF : Nat → Addr) (cK : Nat → Tok) (cH : Nat → Int) (cZ : Nat → Nat) (cQ : Nat → Option Addr) (cX : Nat → Data) (cY : Nat → Array (Option Value)) (Q : PySem.Fin → Shared → Prop) (E : Value → Shared → Prop) : Prop :=
  (h.get? (cF 0) = some { cls := .type "tuple", data := .seq #[.type "object"] (cZ 0) }) →
  (h.get? (cF 8) = some { cls := .type "dict", data := .dict (#[⟨(cH 1), .str (Str.ofString "__module__") (cK 1), .str (Str.ofString "cpy313.functools") (cK 16)⟩, ⟨(cH 2), .str (Str.ofString "__qualname__") (cK 2), .str (Str.ofString "cmp_to_key.<locals>.K") (cK 17)⟩, ⟨(cH 3), .str (Str.ofString "__firstlineno__") (cK 3), .int 31 (cK 18)⟩,
    ⟨(cH 4), .str (Str.ofString "__slots__") (cK 4), .ref (cF 9)⟩, ⟨(cH 5), .str (Str.ofString "__init__") (cK 5), .ref (cF 1)⟩, ⟨(cH 6), .str (Str.ofString "__lt__") (cK 6), .ref (cF 2)⟩, ⟨(cH 7), .str (Str.ofString "__gt__") (cK 7), .ref (cF 3)⟩, ⟨(cH 8), .str (Str.ofString "__eq__") (cK 8), .ref (cF 4)⟩, ⟨(cH 9), .str (Str.ofString "__le__") (cK 9), .ref (cF 5)⟩, ⟨(cH 10), .str (Str.ofString "__ge__") (cK 10), .ref (cF 6)⟩, ⟨(cH 11), .str (Str.ofString "__hash__") (cK 11), .none⟩, ⟨(cH 12), .str (Str.ofString "__static_attributes__") (cK 12), .ref (cF 7)⟩]) (cZ 1) }) →
  (h.get? (cF 9) = some { cls := .type "list", data := .seq #[.str (Str.ofString "obj") (cK 19)] (cZ 2) }) →
  (h.get? (cF 1) = some ⟨.type "function", (cQ 1), (cX 1), (cY 1)⟩) →
  (h.get? (cF 2) = some ⟨.type "function", (cQ 2), (cX 2), (cY 2)⟩) →
  (h.get? (cF 3) = some ⟨.type "function", (cQ 3), (cX 3), (cY 3)⟩) →
  (h.get? (cF 4) = some ⟨.type "function", (cQ 4), (cX 4), (cY 4)⟩) →
  (h.get? (cF 5) = some ⟨.type "function", (cQ 5), (cX 5), (cY 5)⟩) →
  (h.get? (cF 6) = some ⟨.type "function", (cQ 6), (cX 6), (cY 6)⟩) →
  (h.get? (cF 7) = some ⟨.type "tuple", (cQ 7), (cX 7), (cY 7)⟩) →
  (h.get? 2 = some { cls := .none, data := .dict #[] 0 }) →
  (((cF 8) == sysModules) = false) →
  (A.handled = none) →
  (A.depth ≤ 600) →
  (A.units ≤ 8000) →
  ((KB w.params).In h) →
  (∀ (a ns md : Addr) (h' : Heap) (tk : Nat) (k13 k14 k15 : Tok) (h13 h14 : Int), (∀ b o, h.get? b = some o → h'.get? b = some o) → h.get? a = none → h.get? ns = none → h.get? md = none → h'.get? a = some { cls := .type "type", data := .cls { name := Str.ofString "K", bases := [.type "object"], mro := [.ref a, .type "object"], ns := ns, qualname := Str.ofString "cmp_to_key.<locals>.K", hasDict := false, slotNames := [Str.ofString "obj"] }, slots := #[some (.ref (cF 0)), none, some (.str (Str.ofString "K") (cK 20)), some (.str (Str.ofString "cmp_to_key.<locals>.K") (cK 17)), some (.builtin "object.__new__"), some (.bool false)] } → h'.get? ns = some { cls := .type "dict", data := .dict #[⟨(cH 1), .str (Str.ofString "__module__") (cK 1), .str (Str.ofString "cpy313.functools") (cK 16)⟩, ⟨(cH 3), .str (Str.ofString "__firstlineno__") (cK 3), .int 31 (cK 18)⟩, ⟨(cH 4), .str (Str.ofString "__slots__") (cK 4), .ref (cF 9)⟩, ⟨(cH 5), .str (Str.ofString "__init__") (cK 5), .ref (cF 1)⟩, ⟨(cH 6), .str (Str.ofString "__lt__") (cK 6), .ref (cF 2)⟩, ⟨(cH 7), .str (Str.ofString "__gt__") (cK 7), .ref (cF 3)⟩, ⟨(cH 8), .str (Str.ofString "__eq__") (cK 8), .ref (cF 4)⟩, ⟨(cH 9), .str (Str.ofString "__le__") (cK 9), .ref (cF 5)⟩, ⟨(cH 10), .str (Str.ofString "__ge__") (cK 10), .ref (cF 6)⟩, ⟨(cH 11), .str (Str.ofString "__hash__") (cK 11), .none⟩, ⟨(cH 12), .str (Str.ofString "__static_attributes__") (cK 12), .ref (cF 7)⟩, ⟨h13, .str (Str.ofString "obj") k13, .ref md⟩, ⟨h14, .str (Str.ofString "__doc__") k14, .none⟩] 3 } → h'.get? md = some { cls := .type "member_descriptor", data := .fields #[.str (Str.ofString "obj") k15, .ref a, .builtin "proto.slot", .builtin "proto.slot#set", .int 0 0] } → Q (.done (.ret (.ref a))) ⟨h', g, d, tk, os⟩) →
  wpAny (model PySem.Challenge.rw_ik0192_01.prog w) A («type.__new__» ⟨[.type "type", .str (Str.ofString "K") (cK 20), .ref (cF 0), .ref (cF 8)], []⟩) Q E ⟨h, g, d, t, os⟩
noncomputable def SV (v : V) : Prop := S v.1 v.2.1 v.2.2.1 v.2.2.2.1 v.2.2.2.2.1 v.2.2.2.2.2.1 v.2.2.2.2.2.2.1 v.2.2.2.2.2.2.2.1 v.2.2.2.2.2.2.2.2.1 v.2.2.2.2.2.2.2.2.2.1 v.2.2.2.2.2.2.2.2.2.2.1 v.2.2.2.2.2.2.2.2.2.2.2.1 v.2.2.2.2.2.2.2.2.2.2.2.2.1 v.2.2.2.2.2.2.2.2.2.2.2.2.2.1 v.2.2.2.2.2.2.2.2.2.2.2.2.2.2.1 v.2.2.2.2.2.2.2.2.2.2.2.2.2.2.2
noncomputable def v : V := @Classical.epsilon V ⟨⟨w00, {}, {}, #[], {}, 0, {}, fun _ => 0, fun _ => 0, fun _ => 0, fun _ => 0, fun _ => none, fun _ => default, fun _ => #[], fun _ _ => True, fun _ _ => True⟩⟩ fun v => ¬ SV v
@[irreducible] noncomputable def w : World := v.1
@[irreducible] noncomputable def A : Around := v.2.1
@[irreducible] noncomputable def h : Heap := v.2.2.1
@[irreducible] noncomputable def g : Array GenState := v.2.2.2.1
@[irreducible] noncomputable def d : Drawn := v.2.2.2.2.1
@[irreducible] noncomputable def t : Nat := v.2.2.2.2.2.1
@[irreducible] noncomputable def os : OsState := v.2.2.2.2.2.2.1
@[irreducible] noncomputable def cF : (Nat → Addr) := v.2.2.2.2.2.2.2.1
@[irreducible] noncomputable def cK : (Nat → Tok) := v.2.2.2.2.2.2.2.2.1
@[irreducible] noncomputable def cH : (Nat → Int) := v.2.2.2.2.2.2.2.2.2.1
@[irreducible] noncomputable def cZ : (Nat → Nat) := v.2.2.2.2.2.2.2.2.2.2.1
@[irreducible] noncomputable def cQ : (Nat → Option Addr) := v.2.2.2.2.2.2.2.2.2.2.2.1
@[irreducible] noncomputable def cX : (Nat → Data) := v.2.2.2.2.2.2.2.2.2.2.2.2.1
@[irreducible] noncomputable def cY : (Nat → Array (Option Value)) := v.2.2.2.2.2.2.2.2.2.2.2.2.2.1
@[irreducible] noncomputable def Q : (PySem.Fin → Shared → Prop) := v.2.2.2.2.2.2.2.2.2.2.2.2.2.2.1
@[irreducible] noncomputable def E : (Value → Shared → Prop) := v.2.2.2.2.2.2.2.2.2.2.2.2.2.2.2
theorem all : S w A h g d t os cF cK cH cZ cQ cX cY Q E := by
  unfold S
  intro hT hN hsl hf1 hf2 hf3 hf4 hf5 hf6 hf7 hS hns hA hA2 hA3 gK hq
  unfold «type.__new__»
  repeat ((fail_if_success (with_reducible show wpAny _ _ (collect _) _ _ _)); first
    | (with_reducible refine' bind_seq ?hb_ ?_; (case' hb_ => ((repeat walk_at "TN"); exact ends_refl)))
    | (walk_at "TN"))
  refine coll_list (cF 9) ?hv hsl (Nat.le_of_ble_eq_true rfl) ?_
  case hv => kernel_rfl!
  intro h' hk
  replace hT := hk _ _ hT
  replace hN := hk _ _ hN
  replace hsl := hk _ _ hsl
  replace hS := hk _ _ hS
  replace hf1 := hk _ _ hf1
  replace hf2 := hk _ _ hf2
  replace hf3 := hk _ _ hf3
  replace hf4 := hk _ _ hf4
  replace hf5 := hk _ _ hf5
  replace hf6 := hk _ _ hf6
  replace hf7 := hk _ _ hf7
  have D := X.Mem.start h'
  repeat (first
    | (with_reducible refine' bind_seq ?hb_ ?_; (case' hb_ => ((repeat walk_at "TN"); exact ends_refl)))
    | (walk_at "TN"))
  refine m_alloc D ?hf ?_
  case hf => exact rfl
  clear D
  intro ns H1 D
  repeat (first
    | (with_reducible refine' bind_seq ?hb_ ?_; (case' hb_ => ((repeat walk_at "TN"); exact ends_refl)))
    | (walk_at "TN"))
  refine m_alloc D ?hf ?_
  case hf => exact rfl
  clear D
  intro a H2 D
  repeat (first
    | (with_reducible refine' bind_seq ?hb_ ?_; (case' hb_ => ((repeat walk_at "TN"); exact ends_refl)))
    | (walk_at "TN"))
  walk_at "UPD0"
  repeat (first
    | (with_reducible refine' bind_seq ?hb_ ?_; (case' hb_ => ((repeat walk_at "TN"); exact ends_refl)))
    | (walk_at "TN"))
  walk_at "UPD0"
  repeat (first
    | (with_reducible refine' bind_seq ?hb_ ?_; (case' hb_ => ((repeat walk_at "TN"); exact ends_refl)))
    | (walk_at "TN"))
  walk_at "UPD0"
  repeat (first
    | (with_reducible refine' bind_seq ?hb_ ?_; (case' hb_ => ((repeat walk_at "TN"); exact ends_refl)))
    | (walk_at "TN"))
  rename X.Mem _ _ _ _ => D9
  refine m_updateP D9 1 rfl { cls := .type "dict", data := .dict #[⟨(cH 1), .str (Str.ofString "__module__") (cK 1), .str (Str.ofString "cpy313.functools") (cK 16)⟩, ⟨(cH 3), .str (Str.ofString "__firstlineno__") (cK 3), .int 31 (cK 18)⟩, ⟨(cH 4), .str (Str.ofString "__slots__") (cK 4), .ref (cF 9)⟩, ⟨(cH 5), .str (Str.ofString "__init__") (cK 5), .ref (cF 1)⟩, ⟨(cH 6), .str (Str.ofString "__lt__") (cK 6), .ref (cF 2)⟩, ⟨(cH 7), .str (Str.ofString "__gt__") (cK 7), .ref (cF 3)⟩, ⟨(cH 8), .str (Str.ofString "__eq__") (cK 8), .ref (cF 4)⟩, ⟨(cH 9), .str (Str.ofString "__le__") (cK 9), .ref (cF 5)⟩, ⟨(cH 10), .str (Str.ofString "__ge__") (cK 10), .ref (cF 6)⟩, ⟨(cH 11), .str (Str.ofString "__hash__") (cK 11), .none⟩, ⟨(cH 12), .str (Str.ofString "__static_attributes__") (cK 12), .ref (cF 7)⟩] 1 } ?ho rfl ?_
  case ho => kernel_rfl!
  clear D9
  intro H9 D9
  repeat (first
    | (with_reducible refine' bind_seq ?hb_ ?_; (case' hb_ => ((repeat walk_at "TN"); exact ends_refl)))
    | (walk_at "TN"))
  refine any_self (a := a) ?hl ?_
  case hl => kernel_rfl!
  repeat (first
    | (with_reducible refine' bind_seq ?hb_ ?_; (case' hb_ => ((repeat walk_at "TN"); exact ends_refl)))
    | (walk_at "TN"))
  rename X.Mem _ _ _ _ => D9
  refine m_update D9 0 rfl { cls := .type "type", data := .cls { name := Str.ofString "K", bases := [.type "object"], mro := [.ref a, .type "object"], ns := ns, qualname := Str.ofString "cmp_to_key.<locals>.K" }, slots := #[some (.ref (cF 0)), none, some (.str (Str.ofString "K") (cK 20)), some (.str (Str.ofString "cmp_to_key.<locals>.K") (cK 17))] } ?ho rfl ?_
  case ho => kernel_rfl!
  clear D9
  intro H9 D9
  repeat (first
    | (with_reducible refine' bind_seq ?hb_ ?_; (case' hb_ => ((repeat walk_at "TN"); exact ends_refl)))
    | (walk_at "TN"))
  walk_at "UPD0"
  repeat (first
    | (with_reducible refine' bind_seq ?hb_ ?_; (case' hb_ => ((repeat walk_at "TN"); exact ends_refl)))
    | (walk_at "TN"))
  rename X.Mem _ _ _ _ => D9
  refine' tl_base ?ho ?hm ?hd ?hl ?hb ?_
  case ho => exact mem_new D9 0 rfl
  case hm => exact rfl
  case hd => exact mem_new D9 1 rfl
  case hl => kernel_rfl!
  case hb => exact rfl
  repeat (first
    | (with_reducible refine' bind_seq ?hb_ ?_; (case' hb_ => ((repeat walk_at "TN"); exact ends_refl)))
    | (walk_at "TN"))
  rename X.Mem _ _ _ _ => D9
  refine m_alloc D9 ?hf ?_
  case hf => exact rfl
  clear D9
  intro md H9 D9
  repeat (first
    | (with_reducible refine' bind_seq ?hb_ ?_; (case' hb_ => ((repeat walk_at "TN"); exact ends_refl)))
    | (walk_at "TN"))
  rename X.Mem _ _ _ _ => D9
  refine m_updateP D9 2 rfl { cls := .type "dict", data := .dict #[⟨(cH 1), .str (Str.ofString "__module__") (cK 1), .str (Str.ofString "cpy313.functools") (cK 16)⟩, ⟨(cH 3), .str (Str.ofString "__firstlineno__") (cK 3), .int 31 (cK 18)⟩, ⟨(cH 4), .str (Str.ofString "__slots__") (cK 4), .ref (cF 9)⟩, ⟨(cH 5), .str (Str.ofString "__init__") (cK 5), .ref (cF 1)⟩, ⟨(cH 6), .str (Str.ofString "__lt__") (cK 6), .ref (cF 2)⟩, ⟨(cH 7), .str (Str.ofString "__gt__") (cK 7), .ref (cF 3)⟩, ⟨(cH 8), .str (Str.ofString "__eq__") (cK 8), .ref (cF 4)⟩, ⟨(cH 9), .str (Str.ofString "__le__") (cK 9), .ref (cF 5)⟩, ⟨(cH 10), .str (Str.ofString "__ge__") (cK 10), .ref (cF 6)⟩, ⟨(cH 11), .str (Str.ofString "__hash__") (cK 11), .none⟩, ⟨(cH 12), .str (Str.ofString "__static_attributes__") (cK 12), .ref (cF 7)⟩, ⟨reduceHash (w.params.strHash (Str.ofString "obj").cps), .str (Str.ofString "obj") (t + 1), .ref md⟩] 2 } ?ho rfl ?_
  case ho => kernel_rfl!
  clear D9
  intro H9 D9
  repeat (first
    | (with_reducible refine' bind_seq ?hb_ ?_; (case' hb_ => ((repeat walk_at "TN"); exact ends_refl)))
    | (walk_at "TN"))
  rename X.Mem _ _ _ _ => D9
  refine m_update D9 1 rfl { cls := .type "type", data := .cls { name := Str.ofString "K", bases := [.type "object"], mro := [.ref a, .type "object"], ns := ns, qualname := Str.ofString "cmp_to_key.<locals>.K", hasDict := false, slotNames := [Str.ofString "obj"] }, slots := #[some (.ref (cF 0)), none, some (.str (Str.ofString "K") (cK 20)), some (.str (Str.ofString "cmp_to_key.<locals>.K") (cK 17)), some (.builtin "object.__new__")] } ?ho rfl ?_
  case ho => kernel_rfl!
  clear D9
  intro H9 D9
  repeat (first
    | (with_reducible refine' bind_seq ?hb_ ?_; (case' hb_ => ((repeat walk_at "TN"); exact ends_refl)))
    | (walk_at "TN"))
  rename X.Mem _ _ _ _ => D9
  refine m_updateP D9 1 rfl _ rfl ?hf ?_
  case hf => exact rfl
  clear D9
  intro H9 D9
  repeat (first
    | (with_reducible refine' bind_seq ?hb_ ?_; (case' hb_ => ((repeat walk_at "TN"); exact ends_refl)))
    | (walk_at "TN"))
  rename X.Mem _ _ _ _ => D9
  refine m_updateP D9 2 rfl { cls := .type "dict", data := .dict #[⟨(cH 1), .str (Str.ofString "__module__") (cK 1), .str (Str.ofString "cpy313.functools") (cK 16)⟩, ⟨(cH 3), .str (Str.ofString "__firstlineno__") (cK 3), .int 31 (cK 18)⟩, ⟨(cH 4), .str (Str.ofString "__slots__") (cK 4), .ref (cF 9)⟩, ⟨(cH 5), .str (Str.ofString "__init__") (cK 5), .ref (cF 1)⟩, ⟨(cH 6), .str (Str.ofString "__lt__") (cK 6), .ref (cF 2)⟩, ⟨(cH 7), .str (Str.ofString "__gt__") (cK 7), .ref (cF 3)⟩, ⟨(cH 8), .str (Str.ofString "__eq__") (cK 8), .ref (cF 4)⟩, ⟨(cH 9), .str (Str.ofString "__le__") (cK 9), .ref (cF 5)⟩, ⟨(cH 10), .str (Str.ofString "__ge__") (cK 10), .ref (cF 6)⟩, ⟨(cH 11), .str (Str.ofString "__hash__") (cK 11), .none⟩, ⟨(cH 12), .str (Str.ofString "__static_attributes__") (cK 12), .ref (cF 7)⟩, ⟨reduceHash (w.params.strHash (Str.ofString "obj").cps), .str (Str.ofString "obj") (t + 1), .ref md⟩, ⟨reduceHash (w.params.strHash (Str.ofString "__doc__").cps), .str (Str.ofString "__doc__") (t + 2), .none⟩] 3 } ?ho rfl ?_
  case ho => kernel_rfl!
  clear D9
  intro H9 D9
  repeat (first
    | (with_reducible refine' bind_seq ?hb_ ?_; (case' hb_ => ((repeat walk_at "TN"); exact ends_refl)))
    | (walk_at "TN"))
  rename X.Mem _ _ _ _ => D9
  have up9 := mem_up D9
  have ga : _ = some _ := (D9.at 1 a _ rfl).trans (b := some _) (c := some { cls := .type "type", data := .cls { name := Str.ofString "K", bases := [.type "object"], mro := [.ref a, .type "object"], ns := ns, qualname := Str.ofString "cmp_to_key.<locals>.K", hasDict := false, slotNames := [Str.ofString "obj"] }, slots := #[some (.ref (cF 0)), none, some (.str (Str.ofString "K") (cK 20)), some (.str (Str.ofString "cmp_to_key.<locals>.K") (cK 17)), some (.builtin "object.__new__"), some (.bool false)] }) (by kernel_rfl!)
  have gn := D9.at 2 ns _ rfl
  have na := (D9.nw _ (List.mem_cons_of_mem _ List.mem_cons_self)).2
  have nmd := (D9.nw _ List.mem_cons_self).2
  have nns := (D9.nw _ (List.mem_cons_of_mem _ (List.mem_cons_of_mem _ List.mem_cons_self))).2
  have gmd : _ = some _ := (D9.at 0 md _ rfl).trans (b := some _) (c := some { cls := .type "member_descriptor", data := .fields #[.str (Str.ofString "obj") t, .ref a, .builtin "proto.slot", .builtin "proto.slot#set", .int 0 0] }) (by kernel_rfl!)
  have gK9 := Frag.In.keeps gK (fun b o e => up9 _ _ (hk b o e))
  have gS := up9 _ _ hS
  refine wpAny_weak (B := AX) (super_made w a ns (cF 0) (cF 9) (cF 1) (cF 2) (cF 3) (cF 4) (cF 5) (cF 6) (cF 7) md (cK 20) (cK 17) (cK 16) (cK 18) (cK 1) (cK 3) (cK 4) (cK 5) (cK 6) (cK 7) (cK 8) (cK 9) (cK 10) (cK 11) (cK 12) _ _ (cH 1) (cH 3) (cH 4) (cH 5) (cH 6) (cH 7) (cH 8) (cH 9) (cH 10) (cH 11) (cH 12) _ _ _ _ _ gK9 ga gn ?_) hA.symm (by show A.depth ≤ 690; omega) (by show A.units ≤ 9000; omega) (fun _ e => by cases e) (fun _ e => by cases e)
  intro sup hp2 tk2 D2
  have up2 := mem_up D2
  have gK2 := Frag.In.keeps gK9 up2
  refine wpAny_bind (wpAny_holding (sup_attr w A hA (by omega) (by omega) sup a ns (cF 0) (cF 9) (cF 1) (cF 2) (cF 3) (cF 4) (cF 5) (cF 6) (cF 7) md (cK 20) (cK 17) (cK 16) (cK 18) (cK 1) (cK 3) (cK 4) (cK 5) (cK 6) (cK 7) (cK 8) (cK 9) (cK 10) (cK 11) (cK 12) _ _ (cH 1) (cH 3) (cH 4) (cH 5) (cH 6) (cH 7) (cH 8) (cH 9) (cH 10) (cH 11) (cH 12) _ _ _ (D2.at 0 _ _ rfl) gK2 (up2 _ _ ga) (up2 _ _ gn) (up2 _ _ gS) ?_))
  intro b3 h3' tk3 D3
  have up3 := mem_up D3
  refine wpAny_bind (wpAny_weak (B := AX) (init_call w b3 a ns (cF 0) (cF 9) (cF 1) (cF 2) (cF 3) (cF 4) (cF 5) (cF 6) (cF 7) md (cK 20) (cK 17) (cK 16) (cK 18) (cK 1) (cK 3) (cK 4) (cK 5) (cK 6) (cK 7) (cK 8) (cK 9) (cK 10) (cK 11) (cK 12) _ _ (cH 1) (cH 3) (cH 4) (cH 5) (cH 6) (cH 7) (cH 8) (cH 9) (cH 10) (cH 11) (cH 12) _ _ _ _ _ (Frag.In.keeps gK2 up3) (D3.at 0 _ _ rfl) (up3 _ _ (up2 _ _ ga)) (up3 _ _ (up2 _ _ gn)) ?_) hA.symm (by show A.depth ≤ 690; omega) (by show A.units ≤ 9000; omega) (fun _ e => by cases e) (fun _ e => by cases e))
  intro h4' tk4 D4
  have up4 := mem_up D4
  repeat walk_at "TN"
  exact hq a ns md _ _ _ _ _ _ _ (fun b o e => up4 _ _ (up3 _ _ (up2 _ _ (up9 _ _ (hk b o e))))) (by cases q : h.get? a with | none => rfl | some o => (have := hk _ _ q; rw [na] at this; cases this)) (by cases q : h.get? ns with | none => rfl | some o => (have := hk _ _ q; rw [nns] at this; cases this)) (by cases q : h.get? md with | none => rfl | some o => (have := hk _ _ q; rw [nmd] at this; cases this)) (up4 _ _ (up3 _ _ (up2 _ _ ga))) (up4 _ _ (up3 _ _ (up2 _ _ gn))) (up4 _ _ (up3 _ _ (up2 _ _ gmd)))
theorem fin (v' : V) : SV v' := Classical.byContradiction fun n => @Classical.epsilon_spec V (fun v => ¬ SV v) ⟨v', n⟩ (by with_unfolding_all exact all)
end TK
theorem tnew (w : World) (A : Around) (h : Heap) (g : Array GenState) (d : Drawn) (t : Nat) (os : OsState) (bT nsA sl f1 f2 f3 f4 f5 f6 tu : Addr) (t1 : Tok) (sz1 sz2 : Nat) (es : Array DictEntry) (h1 h2 h3 h4 h5 h6 h7 h8 h9 h10 h11 h12 : Int) (k1 k2 k3 k4 k5 k6 k7 k8 k9 k10 k11 k12 v1 v2 v3 v4 : Tok) (sz3 : Nat)
  (hT : h.get? bT = some { cls := .type "tuple", data := .seq #[.type "object"] sz1 })
  (hN : h.get? nsA = some { cls := .type "dict", data := .dict (#[⟨h1, .str (Str.ofString "__module__") k1, .str (Str.ofString "cpy313.functools") v1⟩, ⟨h2, .str (Str.ofString "__qualname__") k2, .str (Str.ofString "cmp_to_key.<locals>.K") v2⟩, ⟨h3, .str (Str.ofString "__firstlineno__") k3, .int 31 v3⟩,
    ⟨h4, .str (Str.ofString "__slots__") k4, .ref sl⟩, ⟨h5, .str (Str.ofString "__init__") k5, .ref f1⟩, ⟨h6, .str (Str.ofString "__lt__") k6, .ref f2⟩, ⟨h7, .str (Str.ofString "__gt__") k7, .ref f3⟩, ⟨h8, .str (Str.ofString "__eq__") k8, .ref f4⟩, ⟨h9, .str (Str.ofString "__le__") k9, .ref f5⟩, ⟨h10, .str (Str.ofString "__ge__") k10, .ref f6⟩, ⟨h11, .str (Str.ofString "__hash__") k11, .none⟩, ⟨h12, .str (Str.ofString "__static_attributes__") k12, .ref tu⟩]) sz2 })
  (hsl : h.get? sl = some { cls := .type "list", data := .seq #[.str (Str.ofString "obj") v4] sz3 }) (q1 q2 q3 q4 q5 q6 q7 : Option Addr) (x1 x2 x3 x4 x5 x6 x7 : Data) (y1 y2 y3 y4 y5 y6 y7 : Array (Option Value)) (hf1 : h.get? f1 = some ⟨.type "function", q1, x1, y1⟩) (hf2 : h.get? f2 = some ⟨.type "function", q2, x2, y2⟩) (hf3 : h.get? f3 = some ⟨.type "function", q3, x3, y3⟩) (hf4 : h.get? f4 = some ⟨.type "function", q4, x4, y4⟩) (hf5 : h.get? f5 = some ⟨.type "function", q5, x5, y5⟩) (hf6 : h.get? f6 = some ⟨.type "function", q6, x6, y6⟩) (hf7 : h.get? tu = some ⟨.type "tuple", q7, x7, y7⟩) (hS : h.get? 2 = some { cls := .none, data := .dict #[] 0 }) (hns : (nsA == sysModules) = false) (hA : A.handled = none) (hA2 : A.depth ≤ 600) (hA3 : A.units ≤ 8000) (gK : (KB w.params).In h) (Q : PySem.Fin → Shared → Prop) (E : Value → Shared → Prop)
  (hq : ∀ (a ns md : Addr) (h' : Heap) (tk : Nat) (k13 k14 k15 : Tok) (h13 h14 : Int), (∀ b o, h.get? b = some o → h'.get? b = some o) → h.get? a = none → h.get? ns = none → h.get? md = none → h'.get? a = some { cls := .type "type", data := .cls { name := Str.ofString "K", bases := [.type "object"], mro := [.ref a, .type "object"], ns := ns, qualname := Str.ofString "cmp_to_key.<locals>.K", hasDict := false, slotNames := [Str.ofString "obj"] }, slots := #[some (.ref bT), none, some (.str (Str.ofString "K") t1), some (.str (Str.ofString "cmp_to_key.<locals>.K") v2), some (.builtin "object.__new__"), some (.bool false)] } → h'.get? ns = some { cls := .type "dict", data := .dict #[⟨h1, .str (Str.ofString "__module__") k1, .str (Str.ofString "cpy313.functools") v1⟩, ⟨h3, .str (Str.ofString "__firstlineno__") k3, .int 31 v3⟩, ⟨h4, .str (Str.ofString "__slots__") k4, .ref sl⟩, ⟨h5, .str (Str.ofString "__init__") k5, .ref f1⟩, ⟨h6, .str (Str.ofString "__lt__") k6, .ref f2⟩, ⟨h7, .str (Str.ofString "__gt__") k7, .ref f3⟩, ⟨h8, .str (Str.ofString "__eq__") k8, .ref f4⟩, ⟨h9, .str (Str.ofString "__le__") k9, .ref f5⟩, ⟨h10, .str (Str.ofString "__ge__") k10, .ref f6⟩, ⟨h11, .str (Str.ofString "__hash__") k11, .none⟩, ⟨h12, .str (Str.ofString "__static_attributes__") k12, .ref tu⟩, ⟨h13, .str (Str.ofString "obj") k13, .ref md⟩, ⟨h14, .str (Str.ofString "__doc__") k14, .none⟩] 3 } → h'.get? md = some { cls := .type "member_descriptor", data := .fields #[.str (Str.ofString "obj") k15, .ref a, .builtin "proto.slot", .builtin "proto.slot#set", .int 0 0] } → Q (.done (.ret (.ref a))) ⟨h', g, d, tk, os⟩)
  : wpAny (model PySem.Challenge.rw_ik0192_01.prog w) A («type.__new__» ⟨[.type "type", .str (Str.ofString "K") t1, .ref bT, .ref nsA], []⟩) Q E ⟨h, g, d, t, os⟩ :=
  TK.fin ⟨w, A, h, g, d, t, os, fun i => [bT, f1, f2, f3, f4, f5, f6, tu, nsA, sl].getD i 0, fun i => [0, k1, k2, k3, k4, k5, k6, k7, k8, k9, k10, k11, k12, 0, 0, 0, v1, v2, v3, v4, t1].getD i 0, fun i => [0, h1, h2, h3, h4, h5, h6, h7, h8, h9, h10, h11, h12].getD i 0, fun i => [sz1, sz2, sz3].getD i 0, fun i => [none, q1, q2, q3, q4, q5, q6, q7].getD i none, fun i => [default, x1, x2, x3, x4, x5, x6, x7].getD i default, fun i => [#[], y1, y2, y3, y4, y5, y6, y7].getD i #[], Q, E⟩ hT hN hsl hf1 hf2 hf3 hf4 hf5 hf6 hf7 hS hns hA hA2 hA3 gK hq
end Mine
end
section
open PySem PySem.W PyProof.Rows PySem.Calls PySem.Builtin
set_option maxHeartbeats 0
namespace Mine
section
variable {prog : Program} {w : World} {A : Around} {E : Value → Shared → Prop} {s : Shared}
theorem made_type : Bind.madeBy (.type "type") = pure (some "type.__new__") := by kernel_rfl
theorem entry_type_new : entryFor table "type.__new__" = some Builtin.«type.__new__» := entryFor_of_tree (by kernel_rfl)
theorem entry_type_init : entryFor table "type.__init__" = some Builtin.«type.__init__» := entryFor_of_tree (by kernel_rfl)
theorem plain_type_new : plainId "type.__new__" = true := by decide +kernel
theorem mro_type : mroOf (.type "type") = pure [.type "type", .type "object"] := by rw [mroOf_type]; kernel_rfl
theorem sub_type : isSubtype (.type "type") (.type "type") = pure true := by rw [isSubtype_type]; kernel_rfl
theorem slot_type_init : Slot "type" "__init__" "type.__init__" := by
  exact Slot.of (owner := "type") (n := "__init__") (by rw [typeLookup_type, builtinLookup_eq_fast]; kernel_rfl) (by kernel_rfl) (by kernel_rfl) (by kernel_rfl) (.inl (by kernel_rfl)) sub_type
theorem call_type3 {a b c : Value} {Q : Value → Shared → Prop}
    (hnew : wpAny (model prog w) A.in1.in1 (Builtin.«type.__new__» ⟨[.type "type", a, b, c], []⟩) (fun fin s' => ∃ k, fin = .done (.ret (.ref k)) ∧ s'.TypeIs (.ref k) "type" ∧ Q (.ref k) s') E s) :
    wpAny (model prog w) A (call (.type "type") [a, b, c]) Q E s := by
  refine wpAny_call (codeAny_of_tree ?_)
  show wpAny _ _ (callAny (.type "type") _) _ _ _
  refine wpAny_pure ⟨Code.quiet_builtin _ (by decide +kernel), codeAny_builtin F.entry_type_call ?_⟩
  rw [Around.under_plain (weight_type_call_type "type" [a, b, c] []) rfl]
  have h1 : (Value.type "type" == Value.type "type") = true := beq_self_eq_true _
  have hmro := mro_type
  have hmade := made_type
  have hsub := sub_type
  have h2 : ((Manifest.find? "type").bind (·.mro.findSome? fun t => (Manifest.find? t).bind fun b => if b.noNew then some true else if b.attrs.any (·.1 == "__new__") then some false else none)).getD false = false := by kernel_rfl
  have hct : checkTypeCall "type" ⟨[a, b, c], []⟩ = pure () := by kernel_rfl
  repeat (any_goals (first | assumption | wp_step))
  have hcn : checkBuiltinCall "type.__new__" ⟨[.type "type", a, b, c], []⟩ = pure () := by kernel_rfl
  refine codeAny_mono (R := wants (fun obj s' => ∃ k, obj = .ref k ∧ s'.TypeIs (.ref k) "type" ∧ Q (.ref k) s') E) (codeAny_call_builtin plain_type_new entry_type_new (wpAny_of_eq hcn (wpAny_mono hnew (fun fin s' ⟨k, e1, hT, hq⟩ => ?_) fun _ _ x => x))) fun r s1 hr => ?_
  · subst e1
    exact ⟨k, rfl, hT, hq⟩
  cases r with
  | error e => exact hr
  | ok fl =>
    cases fl with
    | ret obj =>
      obtain ⟨k, rfl, hT, hq⟩ := hr
      have hli := slot_type_init.lookup
      have hbi := slot_type_init.bind (.ref k)
      have hok : argsOk "type.__init__" ⟨[.ref k, a, b, c], []⟩ := by unfold argsOk; kernel_rfl
      repeat (any_goals (first | assumption | wp_step))
      refine codeAny_mono (R := wants (fun r s' => r = .none ∧ Q (.ref k) s') E) (codeAny_call_builtin slot_type_init.plain entry_type_init (slot_type_init.check _ _ _ _ _ _ _ _ hT hok ?_)) fun r2 s2 hr2 => ?_
      · exact wpAny_pure ⟨rfl, hq⟩
      · cases r2 with
        | error e => exact hr2
        | ok fl2 =>
          cases fl2 with
          | ret r =>
            obtain ⟨rfl, hq⟩ := hr2
            repeat (any_goals (first | assumption | wp_step))
          | _ => exact hr2.elim
    | _ => exact hr.elim
end
end Mine
end
section
open PySem PySem.W PyProof.Rows PySem.Calls PySem.Builtin
set_option maxHeartbeats 0
namespace Mine

local macro_rules | `(tactic| walk_at "TP") => `(tactic| fail)
local macro_rules | `(tactic| walk_at "GO") => `(tactic| (repeat (first
    | (walk_at "TP")
    | (with_reducible refine' bind_seq ?h1 ?_; (case' h1 => ((repeat walk_at "TN"); exact ends_refl)))
    | (with_reducible refine bind_hide fun R hR => ?_; (repeat (first | walk_at "TP" | walk_at "TN")); refine hR.h _ _ ?_; clear hR)
    | (walk_at "TN"))))
local macro_rules | `(tactic| walk_at "AL") => `(tactic| (rename X.Mem _ _ _ _ => D9; refine m_alloc D9 ?hf ?_; (case' hf => exact rfl); clear D9))
noncomputable abbrev ckScope : Scope := { kind := .function, names := [(Str.ofString "mycmp", .cell), (Str.ofString "K", .local), (Str.ofString "object", .globalImplicit)], isGenerator := false, isCoroutine := false }
local macro_rules | `(tactic| walk_at "TP") => `(tactic| first
  | ((with_reducible show wpAny _ _ (alloc _) _ _ _); walk_at "AL"; intro a9 H9 D9))
theorem prep_attr2 (w : World) {A : Around} (hA : A.handled = none) (hA2 : A.depth ≤ 600) (hA3 : A.units ≤ 8000) {E : Value → Shared → Prop} {s : Shared} {v : Value} {Q : Option Value → Shared → Prop} (gK : (KB w.params).In s.heap) (hv : v = .type "type")
  (hq : ∀ b h' tk, X.Mem s.heap h' [] [(b, prepO)] → Q (some (.ref b)) { s with heap := h', toks := tk }) :
  wpAny (model PySem.Challenge.rw_ik0192_01.prog w) A (getAttr? v (Str.ofString "__prepare__")) Q E s := by subst hv; exact prep_attr w hA hA2 hA3 gK hq
noncomputable def vs49 (P : Params) : Array Value := match (o49 P).data with
  | .fields vs => vs
  | _ => #[]
theorem mem_up' {h₀ h : Heap} {news : List (Addr × Obj)} (D : X.Mem h₀ h [] news) : ∀ b o, h₀.get? b = some o → h.get? b = some o := fun b o e => D.keep b o e ((Bool.or_eq_true _ _).mpr (.inr rfl))
noncomputable abbrev fnOfVn (P : Params) (i : Nat) (clos : List (Str × Addr)) (vn : Value) (c : Addr) (ct : Value) : Obj :=
  fnMade (fdName (st P i)) (kq (fdName (st P i))) (fdArgs (st P i)) (fdBody (st P i)) (fdScope (st P i)) clos .none vn c ct
noncomputable abbrev kcO (a : Addr) (f : Nat → Addr) (k : Nat → Tok) : Obj := { cls := .type "type", data := .cls { name := Str.ofString "K", bases := [.type "object"], mro := [.ref a, .type "object"], ns := (f 0), qualname := Str.ofString "cmp_to_key.<locals>.K", hasDict := false, slotNames := [Str.ofString "obj"] }, slots := #[some (.ref (f 7)), none, some (.str (Str.ofString "K") (k 19)), some (.str (Str.ofString "cmp_to_key.<locals>.K") (k 17)), some (.builtin "object.__new__"), some (.bool false)] }
noncomputable abbrev knO (f : Nat → Addr) (k : Nat → Tok) (h : Nat → Int) : Obj := { cls := .type "dict", data := .dict #[⟨(h 1), .str (Str.ofString "__module__") (k 1), .str (Str.ofString "cpy313.functools") (k 16)⟩, ⟨(h 3), .str (Str.ofString "__firstlineno__") (k 3), .int 31 (k 18)⟩, ⟨(h 4), .str (Str.ofString "__slots__") (k 4), .ref (f 8)⟩, ⟨(h 5), .str (Str.ofString "__init__") (k 5), .ref (f 1)⟩, ⟨(h 6), .str (Str.ofString "__lt__") (k 6), .ref (f 2)⟩, ⟨(h 7), .str (Str.ofString "__gt__") (k 7), .ref (f 3)⟩, ⟨(h 8), .str (Str.ofString "__eq__") (k 8), .ref (f 4)⟩, ⟨(h 9), .str (Str.ofString "__le__") (k 9), .ref (f 5)⟩, ⟨(h 10), .str (Str.ofString "__ge__") (k 10), .ref (f 6)⟩, ⟨(h 11), .str (Str.ofString "__hash__") (k 11), .none⟩, ⟨(h 12), .str (Str.ofString "__static_attributes__") (k 12), .ref (f 10)⟩, ⟨(h 13), .str (Str.ofString "obj") (k 13), .ref (f 9)⟩, ⟨(h 14), .str (Str.ofString "__doc__") (k 14), .none⟩] 3 }
noncomputable abbrev kmO (a : Addr) (k : Nat → Tok) : Obj := { cls := .type "member_descriptor", data := .fields #[.str (Str.ofString "obj") (k 15), .ref a, .builtin "proto.slot", .builtin "proto.slot#set", .int 0 0] }
noncomputable def FnK (w : World) (b0 : Bool) (i : Nat) (clos : List (Str × Addr)) (vn : Value) (f : Addr) (g : Heap) : Prop := ∃ (c : Nat → Addr) (y : Nat → Value) (n : Nat) (t : Nat → Tok), g.get? f = some (fnOfVn w.params i clos vn (c 0) (cond b0 .none (y 3))) ∧ g.get? (c 0) = some (cdOfSt w.params i (c 1) (c 2) (y 0) (y 1) (y 2) n (t 0) (t 1) (t 2) (t 3))
theorem FnK.mk {w : World} {b0 : Bool} {i : Nat} {clos : List (Str × Addr)} {vn : Value} {f : Addr} {g : Heap} {c P a : Addr} {y z v ct : Value} {n : Nat} {t s q b : Tok} (h1 : g.get? f = some (fnOfVn w.params i clos vn c (cond b0 .none ct))) (h2 : g.get? c = some (cdOfSt w.params i P a y z v n t s q b)) : FnK w b0 i clos vn f g :=
  ⟨fun i => [c, P, a].getD i 0, fun i => [y, z, v, ct].getD i .none, n, fun i => [t, s, q, b].getD i 0, h1, h2⟩
theorem FnK.keeps {w : World} {b0 : Bool} {i : Nat} {clos : List (Str × Addr)} {vn : Value} {f : Addr} {h h' : Heap} (x : FnK w b0 i clos vn f h) (e : ∀ b o, h.get? b = some o → h'.get? b = some o) : FnK w b0 i clos vn f h' := by
  obtain ⟨c, y, n, t, h1, h2⟩ := x
  exact ⟨c, y, n, t, e _ _ h1, e _ _ h2⟩
noncomputable def KAt (w : World) (vn : Value) (cm a : Addr) (g : Heap) : Prop := ∃ (f : Nat → Addr) (k : Nat → Tok) (h : Nat → Int),
  g.get? a = some (kcO a f k) ∧ g.get? (f 0) = some (knO f k h) ∧ g.get? (f 9) = some (kmO a k) ∧ FnK w true 2 [] vn (f 1) g ∧ FnK w false 5 [(Str.ofString "mycmp", cm)] vn (f 4) g
theorem KAt.mk {w : World} {vn : Value} {cm a : Addr} {g : Heap} {ns bT sl f1 f2 f3 f4 f5 f6 tu md : Addr} {t1 v2 v1 v3 k1 k3 k4 k5 k6 k7 k8 k9 k10 k11 k12 k13 k14 k15 : Tok} {h1 h3 h4 h5 h6 h7 h8 h9 h10 h11 h12 h13 h14 : Int}
  (ga : g.get? a = some { cls := .type "type", data := .cls { name := Str.ofString "K", bases := [.type "object"], mro := [.ref a, .type "object"], ns := ns, qualname := Str.ofString "cmp_to_key.<locals>.K", hasDict := false, slotNames := [Str.ofString "obj"] }, slots := #[some (.ref bT), none, some (.str (Str.ofString "K") t1), some (.str (Str.ofString "cmp_to_key.<locals>.K") v2), some (.builtin "object.__new__"), some (.bool false)] })
  (gn : g.get? ns = some { cls := .type "dict", data := .dict #[⟨h1, .str (Str.ofString "__module__") k1, .str (Str.ofString "cpy313.functools") v1⟩, ⟨h3, .str (Str.ofString "__firstlineno__") k3, .int 31 v3⟩, ⟨h4, .str (Str.ofString "__slots__") k4, .ref sl⟩, ⟨h5, .str (Str.ofString "__init__") k5, .ref f1⟩, ⟨h6, .str (Str.ofString "__lt__") k6, .ref f2⟩, ⟨h7, .str (Str.ofString "__gt__") k7, .ref f3⟩, ⟨h8, .str (Str.ofString "__eq__") k8, .ref f4⟩, ⟨h9, .str (Str.ofString "__le__") k9, .ref f5⟩, ⟨h10, .str (Str.ofString "__ge__") k10, .ref f6⟩, ⟨h11, .str (Str.ofString "__hash__") k11, .none⟩, ⟨h12, .str (Str.ofString "__static_attributes__") k12, .ref tu⟩, ⟨h13, .str (Str.ofString "obj") k13, .ref md⟩, ⟨h14, .str (Str.ofString "__doc__") k14, .none⟩] 3 }) (gm : g.get? md = some { cls := .type "member_descriptor", data := .fields #[.str (Str.ofString "obj") k15, .ref a, .builtin "proto.slot", .builtin "proto.slot#set", .int 0 0] }) (x1 : FnK w true 2 [] vn f1 g) (x4 : FnK w false 5 [(Str.ofString "mycmp", cm)] vn f4 g) : KAt w vn cm a g :=
  ⟨fun i => [ns, f1, f2, f3, f4, f5, f6, bT, sl, md, tu].getD i 0, fun i => [0, k1, 0, k3, k4, k5, k6, k7, k8, k9, k10, k11, k12, k13, k14, k15, v1, v2, v3, t1].getD i 0, fun i => [0, h1, 0, h3, h4, h5, h6, h7, h8, h9, h10, h11, h12, h13, h14].getD i 0, ga, gn, gm, x1, x4⟩
namespace CK
noncomputable abbrev V := World × Around × Heap × (Array GenState) × Drawn × Nat × OsState × (Str → Option Value) × Value × Addr × Pos × (Value → Shared → Prop) × (Value → Shared → Prop)
noncomputable def S (w : World) (A : Around) (h : Heap) (g : Array GenState) (d : Drawn) (t : Nat) (os : OsState) (mg : Str → Option Value) (vn : Value) (L : Addr) (pos : Pos) (Q : Value → Shared → Prop) (E : Value → Shared → Prop) : Prop :=
  (A.handled = none) →
  (A.depth ≤ 590) →
  (A.units ≤ 7900) →
  ((KB w.params).In h) →
  (h.get? 49 = some (o49 w.params)) →
  (h.Ns mainGlobals mg) →
  (h.BuiltinsAt mg 45) →
  (mg (Str.ofString "__name__") = some vn) →
  (h.NoLimit) →
  (h.get? 45 = some (tabObj #[])) →
  (∀ a h' tk, (∀ b o, b ≠ 45 → h.get? b = some o → h'.get? b = some o) → (∃ ps, h'.get? 45 = some (tabObj ps)) → h.get? a = none → (∀ g', (∀ b o, h.get? b = none → h'.get? b = some o → g'.get? b = some o) → KAt w vn (L + 1) a g') → Q (.ref a) ⟨h', g, d, tk, os⟩) →
  wpAny (model PySem.Challenge.rw_ik0192_01.prog w) A (buildClass (Str.ofString "K") (Str.ofString "cmp_to_key.<locals>.K") [.type "object"] [] (clsBody w.params) (clsScope w.params) [Str.ofString "obj"] 31 (envOfC (Str.ofString "cmp_to_key") ckScope L 50 (.ref 49)) pos none) Q E ⟨h, g, d, t, os⟩
noncomputable def SV (v : V) : Prop := S v.1 v.2.1 v.2.2.1 v.2.2.2.1 v.2.2.2.2.1 v.2.2.2.2.2.1 v.2.2.2.2.2.2.1 v.2.2.2.2.2.2.2.1 v.2.2.2.2.2.2.2.2.1 v.2.2.2.2.2.2.2.2.2.1 v.2.2.2.2.2.2.2.2.2.2.1 v.2.2.2.2.2.2.2.2.2.2.2.1 v.2.2.2.2.2.2.2.2.2.2.2.2
noncomputable def v : V := @Classical.epsilon V ⟨⟨w00, {}, {}, #[], {}, 0, {}, fun _ => none, .none, 0, default, fun _ _ => True, fun _ _ => True⟩⟩ fun v => ¬ SV v
@[irreducible] noncomputable def w : World := v.1
@[irreducible] noncomputable def A : Around := v.2.1
@[irreducible] noncomputable def h : Heap := v.2.2.1
@[irreducible] noncomputable def g : Array GenState := v.2.2.2.1
@[irreducible] noncomputable def d : Drawn := v.2.2.2.2.1
@[irreducible] noncomputable def t : Nat := v.2.2.2.2.2.1
@[irreducible] noncomputable def os : OsState := v.2.2.2.2.2.2.1
@[irreducible] noncomputable def mg : Str → Option Value := v.2.2.2.2.2.2.2.1
@[irreducible] noncomputable def vn : Value := v.2.2.2.2.2.2.2.2.1
@[irreducible] noncomputable def L : Addr := v.2.2.2.2.2.2.2.2.2.1
@[irreducible] noncomputable def pos : Pos := v.2.2.2.2.2.2.2.2.2.2.1
@[irreducible] noncomputable def Q : Value → Shared → Prop := v.2.2.2.2.2.2.2.2.2.2.2.1
@[irreducible] noncomputable def E : Value → Shared → Prop := v.2.2.2.2.2.2.2.2.2.2.2.2
theorem all : S w A h g d t os mg vn L pos Q E := by
  unfold S
  intro hA hA2 hA3 gK g49 hg hbm hnm hlim g45 hq
  obtain ⟨bm, bo, b1, b2, b3, b4, b5, b6⟩ := id hbm
  have hs1 : ((clsScope w.params).names.lookup (Str.ofString "__class__") == some NameKind.cell) = false := by kernel_rfl
  have hs2 : ((clsScope w.params).names.lookup (Str.ofString "__classdict__") == some NameKind.cell) = false := by kernel_rfl
  have hcl : closureFor (clsScope w.params) (envOfC (Str.ofString "cmp_to_key") ckScope L 50 (.ref 49)) = pure [(Str.ofString "mycmp", L + 1)] := by kernel_rfl
  unfold buildClass
  have D := X.Mem.start h
  refine bind_hide fun R hR => ?_
  walk_at "GO"
  refine hR.h _ _ ?_; clear hR
  dsimp only
  refine' bind_seq ?h1 ?_
  case' h1 => ((walk_at "GO"); exact ends_refl)
  dsimp only
  show wpAny _ _ (typeOf (.type "object") >>= _) _ _ _
  refine wpAny_bind (wpAny_of_eq (a := Value.type "type") (by kernel_rfl) ?_)
  try dsimp only
  refine bind_seq (wpAny_of_eq (a := true) (by kernel_rfl) ends_refl) ?_
  refine ite_p rfl ?_
  refine bind_hide fun R hR => ?_
  walk_at "GO"
  refine hR.h _ _ ?_; clear hR
  try dsimp only
  refine wpAny_bind (wpAny_mkText ?_)
  refine ite_n (by decide) ?_
  refine wpAny_bind (wpAny_pure ?_)
  rename X.Mem _ _ _ _ => D1
  have up1 := mem_up' D1
  have gT := D1.at 0 _ _ rfl
  have fT := (D1.nw _ List.mem_cons_self).2
  clear D1
  rename Addr => bT
  refine wpAny_holding (wpAny_bind (prep_attr2 w hA (by omega) (by omega) (Frag.In.keeps gK up1) rfl fun b h2 tk2 D2 => ?_))
  have up2 := mem_up' D2
  have gb := D2.at 0 _ _ rfl
  clear D2
  try dsimp only
  refine wpAny_bind (prep_call w hA (by omega) (by omega) (Frag.In.keeps gK fun b o e => up2 _ _ (up1 _ _ e)) gb fun ns h3 tk3 D3 => ?_)
  have up3 := mem_up' D3
  have gns := D3.at 0 _ _ rfl
  have fns := (D3.nw _ List.mem_cons_self).2
  clear D3
  try dsimp only
  have gK2 := Frag.In.keeps gK fun b o e => up2 _ _ (up1 _ _ e)
  have nsm : (ns == sysModules) = false := by
    apply beq_false_of_ne
    rintro rfl
    have := gK2 1 _ rfl
    rw [show (1 : Nat) = sysModules from rfl, fns] at this
    cases this
  have n45 : ns ≠ 45 := by
    rintro rfl
    rw [up2 _ _ (up1 _ _ g45)] at fns; cases fns
  refine wpAny_bind ?_
  unfold notTheModulesDict
  refine ite_n (by rw [nsm]; decide) ?_
  refine wpAny_pure ?_
  have hT : ∀ t', (⟨h3, g, d, t', os⟩ : Shared).TypeIs (.ref ns) "dict" := fun _ => ⟨_, gns, rfl⟩
  refine wpAny_bind ?_
  unfold specialOf
  refine wpAny_bind (wpAny_typeOf (hT _) (wpAny_of_eq (a := some (.builtin "dict.__getitem__")) (by rw [typeLookup_type, builtinLookup_eq_fast]; kernel_rfl) ?_))
  refine ite_n (by decide) ?_
  refine wpAny_holding ?_
  refine ite_n (by rw [hs1]; decide) ?_
  refine wpAny_bind (wpAny_pure ?_)
  refine ite_n (by rw [hs2]; decide) ?_
  refine wpAny_bind (wpAny_pure ?_)
  try dsimp only
  have up13 : ∀ b o, h.get? b = some o → h3.get? b = some o := fun b o e => up3 _ _ (up2 _ _ (up1 _ _ e))
  refine wpAny_bind ?_
  unfold classCode
  refine codeAt_x (c := 49) (P := 45) (vs := vs49 w.params) (file := Str.ofString "/claim/cut.py") (flags := 3) (inF := true) (text := 181) (tf := 235) (tg := 0) (tt := 0) rfl (up13 _ _ g49) (by kernel_rfl) (by kernel_rfl) (by kernel_rfl) (by kernel_rfl) (by kernel_rfl) (by kernel_rfl) (up13 _ _ g45) trivial rfl ?_
  refine newCode_x fun c P r1 x13 x14 x15 z u1 u2 u3 u4 h4 tk4 xs hP hc gc gP => ?_
  refine ⟨c, h4, tk4, rfl, rfl, xs, fun h5 k5' s5 g45' => ?_⟩
  have n45P : (45 : Nat) < P := Nat.lt_of_lt_of_le (Heap.lt_size (up13 _ _ g45)) hP
  have gc5 : h5.get? c = some (kcode P r1 x13 x14 x15 z u1 u2 u3 u4) := k5' _ _ (Nat.ne_of_gt (Nat.lt_trans n45P hc)) gc
  have k15 : ∀ b o, b ≠ 45 → h.get? b = some o → h5.get? b = some o := fun b o q e => k5' _ _ q (xs.1 _ _ (up13 _ _ e))
  have gP5 : h5.get? P = some (tabObj #[]) := k5' _ _ (Nat.ne_of_gt n45P) gP
  have gns5 := k5' _ _ n45 (xs.1 _ _ gns)
  have nsP : ns < P := Nat.lt_of_lt_of_le (Heap.lt_size gns) hP
  have hgm : mainGlobals ≠ 45 := by decide
  have hg5 := hg.extBut k15 hgm
  refine wpAny_bind (wpAny_builtinsFor hg5 b1 b2 (k15 _ _ b4 b5) b6.1 b6.2.1 b6.2.2 ?_)
  refine wpAny_bind ?_
  unfold newBodyFrame
  refine wpAny_bind (wpAny_nsGet hg5 ?_)
  refine wpAny_alloc ?_
  refine wpAny_bind (wpAny_of_eq hcl ?_)
  refine wpAny_holding ?_
  generalize hfr : Heap.push h5 _ = H6
  generalize hfra : h5.objs.size = fr
  have x56 : ExtSz h5 H6 := hfr ▸ ExtSz.push _
  have k16 : ∀ b o, b ≠ 45 → h.get? b = some o → H6.get? b = some o := fun b o q e => x56.1 _ _ (k15 b o q e)
  have hPns : P ≠ ns := Nat.ne_of_gt nsP
  have hbk : ∀ b o, b ≠ ns → b ≠ P → H6.get? b = some o → (hideAll H6 [ns, P]).get? b = some o := fun b o q1 q2 e => hideAll_get _ e (by simp [q1, q2])
  have C0 : CS (hideAll H6 [ns, P]) ns P #[] 0 #[] [] H6 := ⟨x56.1 _ _ gns5, x56.1 _ _ gP5, fun p hp => (nomatch hp), fun b o e => of_hideAll _ e, Nat.le_of_eq (hideAll_size _ _), hideAll_none _ (.head _), hideAll_none _ (.tail _ (.head _)), hPns.symm⟩
  have fns0 : h.get? ns = none := by
    cases q : h.get? ns with
    | none => rfl
    | some o => rw [up2 _ _ (up1 _ _ q)] at fns; cases fns
  have fP3 : h.get? P = none := by
    cases q : h.get? P with
    | none => rfl
    | some o => exact absurd (Heap.lt_size (up13 _ _ q)) (Nat.not_lt.mpr hP)
  have hgns : mainGlobals ≠ ns := by
    rintro rfl
    obtain ⟨o, es, ep, e, _⟩ := hg
    rw [up2 _ _ (up1 _ _ e)] at fns; cases fns
  have hgP : mainGlobals ≠ P := by
    rintro rfl
    exact absurd n45P (by decide)
  have hg6 := hg.extBut k16 hgm
  have hgb : (hideAll H6 [ns, P]).Ns mainGlobals mg := by
    obtain ⟨o, es, ep, e, r⟩ := hg6
    exact ⟨o, es, ep, hbk _ _ hgns hgP e, r⟩
  have hlim6 : H6.NoLimit := by
    obtain ⟨mc, a, b⟩ := hlim
    exact ⟨mc, a.extBut k16 (by decide), b⟩
  refine wpAny_bind (wpAny_enterFrame hlim6 (by show A.depth < 1000; omega) ?_)
  refine wpAny_bind (wpAny_onRaise ?_)
  have eL : loadName (cenv w.params ns c fr (L + 1)) (Str.ofString "__name__") = (do
      if let some v ← localGet (cenv w.params ns c fr (L + 1)) (Str.ofString "__name__") then return v
      loadGlobal (cenv w.params ns c fr (L + 1)) (Str.ofString "__name__")) := by kernel_rfl
  refine wpAny_bind ?_
  show wpAny _ _ (loadName (cenv w.params ns c fr (L + 1)) (Str.ofString "__name__")) _ _ _
  rw [eL]
  refine wpAny_bind ?_
  unfold localGet
  refine wpAny_bind (wpAny_load C0.dict ?_)
  refine ite_p (show ((dobj #[] 0).cls == Value.type "dict") = true from beq_self_eq_true _) ?_
  refine wpAny_nsGet (m := fun _ => none) ⟨_, _, _, C0.dict, rfl, fun e he => absurd he (by simp), fun x => rfl⟩ ?_
  unfold loadGlobal
  refine wpAny_bind (wpAny_nsGet hg6 ?_)
  rw [hnm]
  refine wpAny_pure ?_
  try dsimp only
  refine wpAny_bind ?_
  refine' CS.store (env := cenv w.params ns c fr (L + 1)) (name := Str.ofString "__module__") ?C ?hr rfl ?hst ?_
  case C => exact C0
  case hr => kernel_rfl
  case hst => kernel_rfl
  intro hh1 kt1 g1 es' n' hput C1
  refine hidT fun G_ hG_ => ?_
  obtain ⟨rfl, rfl⟩ := dobj_inj (hput.symm.trans (put_new (by kernel_rfl)))
  refine hG_ ?_
  clear hG_ G_
  try dsimp only
  refine wpAny_bind (wpAny_mkText ?_)
  refine wpAny_bind ?_
  refine' CS.store (env := cenv w.params ns c fr (L + 1)) (name := Str.ofString "__qualname__") ?C ?hr rfl ?hst ?_
  case C => exact C1
  case hr => kernel_rfl
  case hst => kernel_rfl
  intro hh2 kt2 g2 es' n' hput C2
  refine hidT fun G_ hG_ => ?_
  obtain ⟨rfl, rfl⟩ := dobj_inj (hput.symm.trans (put_new (by kernel_rfl)))
  refine hG_ ?_
  clear hG_ G_
  try dsimp only
  refine wpAny_bind (wpAny_mkInt ?_)
  refine wpAny_bind ?_
  refine' CS.store (env := cenv w.params ns c fr (L + 1)) (name := Str.ofString "__firstlineno__") ?C ?hr rfl ?hst ?_
  case C => exact C2
  case hr => kernel_rfl
  case hst => kernel_rfl
  intro hh3 kt3 g3 es' n' hput C3
  refine hidT fun G_ hG_ => ?_
  obtain ⟨rfl, rfl⟩ := dobj_inj (hput.symm.trans (put_new (by kernel_rfl)))
  refine hG_ ?_
  clear hG_ G_
  try dsimp only
  refine wpAny_pure ?_
  refine wpAny_bind (wpAny_run ?_)
  refine' bodyK (w := w) (c := c) (fr := fr) (cm := L + 1) (mg := mg) ?C ?hco ?hg ?hbm ?hgP ?gn ?_
  case C => exact C3
  case hco => exact hbk _ _ (Nat.ne_of_gt (Nat.lt_trans nsP hc)) (Nat.ne_of_gt hc) (x56.1 _ _ gc5)
  case hg => exact hgb
  case hbm => exact ⟨bm, bo, b1, b2, b3, (fun q => by rw [q, fP3] at b5; cases b5), hbk _ _ (fun q => by rw [q, fns0] at b5; cases b5) (fun q => by rw [q, fP3] at b5; cases b5) (k16 _ _ b4 b5), b6⟩
  case hgP => exact hgP
  case gn => exact hgns
  intro f1 f2 f3 f4 f5 f6 sl h4 h5 h6 h7 h8 h9 h10 h11 k4 k5 k6 k7 k8 k9 k10 k11 v1 v4 c1 P1 a1 y1 z1 w1 n1 t1 s1 q1 b1 c2 P2 a2 y2 z2 w2 n2 t2 s2 q2 b2 c3 P3 a3 y3 z3 w3 n3 t3 s3 q3 b3 c4 P4 a4 y4 z4 w4 n4 t4 s4 q4 b4 c5 P5 a5 y5 z5 w5 n5 t5 s5 q5 b5 c6 P6 a6 y6 z6 w6 n6 t6 s6 q6 b6 ct2 ct3 ct4 ct5 ct6 hB tkB nB psB CB
  try dsimp only
  refine wpAny_bind (wpAny_onRaise ?_)
  refine wpAny_bind (wpAny_mkStrs fun vsT => ?_)
  refine wpAny_bind (wpAny_newObjAsIs_type ?_)
  have CB2 := CS.add (CB.ext (ExtSz.push { cls := .type "tuple", data := .seq vsT.toArray })) (Heap.get?_push_size _ rfl) (CB.fresh (Nat.le_refl _))
  refine wpAny_bind ?_
  refine' CS.store (env := cenv w.params ns c fr (L + 1)) (name := Str.ofString "__static_attributes__") ?C ?hr rfl ?hst ?_
  case C => exact CB2
  case hr => kernel_rfl
  case hst => kernel_rfl
  intro hhS ktS gS es' n' hput CE
  refine hidT fun G_ hG_ => ?_
  obtain ⟨rfl, rfl⟩ := dobj_inj (hput.symm.trans (put_new (by kernel_rfl)))
  refine hG_ ?_
  clear hG_ G_
  try dsimp only
  refine wpAny_pure ?_
  refine ite_n (by decide) ?_
  have nT45 : bT ≠ 45 := fun q => by rw [q, g45] at fT; cases fT
  have gT3 := up3 _ _ (up2 _ _ gT)
  have nTns : bT ≠ ns := fun q => by rw [q] at gT; rw [up2 _ _ gT] at fns; cases fns
  have nTP : bT ≠ P := Nat.ne_of_lt (Nat.lt_of_lt_of_le (Heap.lt_size gT3) hP)
  have gTS := CE.old _ _ (hbk _ _ nTns nTP (x56.1 _ _ (k5' _ _ nT45 (xs.1 _ _ gT3))))
  have keep : ∀ b o, b ≠ 45 → h.get? b = some o → gS.get? b = some o := fun b o q e => CE.old _ _ (hbk _ _ (fun q => by rw [q, fns0] at e; cases e) (fun q => by rw [q, fP3] at e; cases e) (k16 _ _ q e))
  have gS45 := CE.old _ _ (hbk _ _ n45.symm (Nat.ne_of_lt n45P) (x56.1 _ _ g45'))
  have gKS : (KB w.params).In gS := fun b o e => keep b o (fun q => by rw [q] at e; exact absurd (show (KB w.params).lookup 45 = none by rfl) (by rw [e]; exact fun z => nomatch z)) (gK b o e)
  have o1 := CE.own (f1, _) (by repeat (first | exact List.mem_cons_self | apply List.mem_cons_of_mem))
  have o2 := CE.own (f2, _) (by repeat (first | exact List.mem_cons_self | apply List.mem_cons_of_mem))
  have o3 := CE.own (f3, _) (by repeat (first | exact List.mem_cons_self | apply List.mem_cons_of_mem))
  have o4 := CE.own (f4, _) (by repeat (first | exact List.mem_cons_self | apply List.mem_cons_of_mem))
  have o5 := CE.own (f5, _) (by repeat (first | exact List.mem_cons_self | apply List.mem_cons_of_mem))
  have o6 := CE.own (f6, _) (by repeat (first | exact List.mem_cons_self | apply List.mem_cons_of_mem))
  have oc1 := CE.own (c1, _) (by repeat (first | exact List.mem_cons_self | apply List.mem_cons_of_mem))
  have oc4 := CE.own (c4, _) (by repeat (first | exact List.mem_cons_self | apply List.mem_cons_of_mem))
  have osl := CE.own (sl, _) (by repeat (first | exact List.mem_cons_self | apply List.mem_cons_of_mem))
  have otu := CE.own _ List.mem_cons_self
  refine wpAny_bind (call_type3 ?_)
  refine tnew w A.in1.in1 gS g d (ktS + 1) os bT ns sl f1 f2 f3 f4 f5 f6 _ t 0 _ #[] _ _ _ _ _ _ _ _ _ _ _ _ _ _ _ _ _ _ _ _ _ _ _ _ _ _ _ _ 0 gTS CE.dict osl.1 _ _ _ _ _ _ _ _ _ _ _ _ _ _ _ _ _ _ _ _ _ o1.1 o2.1 o3.1 o4.1 o5.1 o6.1 otu.1 ((gKS 2 _ rfl).trans (by kernel_rfl!)) nsm hA (by show A.depth ≤ 600; omega) (by show A.units + 1 + 1 ≤ 8000; omega) gKS _ _ ?_
  intro a ns' md h' tk k13 k14 k15 h13 h14 up fa fns' fmd ga gn gm
  refine ⟨a, rfl, ⟨_, ga, rfl⟩, wpAny_pure ?_⟩
  have fresh : ∀ x, gS.get? x = none → h.get? x = none := fun x fx => by
    cases q : h.get? x with
    | none => rfl
    | some o =>
      by_cases q5 : x = 45
      · rw [q5, gS45] at fx; cases fx
      · rw [keep x o q5 q] at fx; cases fx
  have fresh2 : ∀ x o, gS.get? x = some o → x ≠ 45 → (hideAll H6 [ns, P]).get? x = none → x ≠ ns → x ≠ P → h.get? x = none := fun x o e q5 fx q1 q2 => by
    cases q : h.get? x with
    | none => rfl
    | some o' => rw [hbk _ _ q1 q2 (k16 _ _ q5 q)] at fx; cases fx
  have ne45 : ∀ x, (hideAll H6 [ns, P]).get? x = none → x ≠ 45 := fun x fx q => by rw [q, hbk _ _ n45.symm (Nat.ne_of_lt n45P) (x56.1 _ _ g45')] at fx; cases fx
  have own : ∀ x o, gS.get? x = some o → x ≠ ns → x ≠ P → (hideAll H6 [ns, P]).get? x = none → h.get? x = none := fun x o e q1 q2 fx => fresh2 x o e (ne45 x fx) fx q1 q2
  refine hq a h' tk (fun b o q e => up _ _ (keep b o q e)) ⟨_, up _ _ gS45⟩ (fresh _ fa) fun g' hg' => ?_
  have hnm2 : (mg (Str.ofString "__name__")).getD .none = vn := by rw [hnm]; rfl
  have e1 : fnOfSt w.params 2 [] mg c1 .none = fnOfVn w.params 2 [] vn c1 .none := by unfold fnOfSt fnOfVn; rw [hnm2]
  have e4 : fnOfSt w.params 5 [(Str.ofString "mycmp", L + 1)] mg c4 ct4 = fnOfVn w.params 5 [(Str.ofString "mycmp", L + 1)] vn c4 ct4 := by unfold fnOfSt fnOfVn; rw [hnm2]
  refine KAt.mk (hg' _ _ (fresh _ fa) ga) (hg' _ _ (fresh _ fns') gn) (hg' _ _ (fresh _ fmd) gm) ?_ ?_
  · exact FnK.mk (ct := .none) (hg' _ _ (own _ _ o1.1 o1.2.1 o1.2.2.1 o1.2.2.2) ((up _ _ o1.1).trans (congrArg some e1))) (hg' _ _ (own _ _ oc1.1 oc1.2.1 oc1.2.2.1 oc1.2.2.2) (up _ _ oc1.1))
  · exact FnK.mk (ct := ct4) (hg' _ _ (own _ _ o4.1 o4.2.1 o4.2.2.1 o4.2.2.2) ((up _ _ o4.1).trans (congrArg some e4))) (hg' _ _ (own _ _ oc4.1 oc4.2.1 oc4.2.2.1 oc4.2.2.2) (up _ _ oc4.1))
theorem fin (v' : V) : SV v' := Classical.byContradiction fun n => @Classical.epsilon_spec V (fun v => ¬ SV v) ⟨v', n⟩ (by with_unfolding_all exact all)
end CK
theorem bcK (w : World) (A : Around) (hA : A.handled = none) (hA2 : A.depth ≤ 590) (hA3 : A.units ≤ 7900) (h : Heap) (g : Array GenState) (d : Drawn) (t : Nat) (os : OsState) (gK : (KB w.params).In h) (g49 : h.get? 49 = some (o49 w.params)) (mg : Str → Option Value) (hg : h.Ns mainGlobals mg) (hbm : h.BuiltinsAt mg 45)
  (vn : Value) (hnm : mg (Str.ofString "__name__") = some vn) (hlim : h.NoLimit) (g45 : h.get? 45 = some (tabObj #[])) (L : Addr) (pos : Pos)
  (Q E : Value → Shared → Prop)
  (hq : ∀ a h' tk, (∀ b o, b ≠ 45 → h.get? b = some o → h'.get? b = some o) → (∃ ps, h'.get? 45 = some (tabObj ps)) → h.get? a = none → (∀ g', (∀ b o, h.get? b = none → h'.get? b = some o → g'.get? b = some o) → KAt w vn (L + 1) a g') → Q (.ref a) ⟨h', g, d, tk, os⟩) :
  wpAny (model PySem.Challenge.rw_ik0192_01.prog w) A (buildClass (Str.ofString "K") (Str.ofString "cmp_to_key.<locals>.K") [.type "object"] [] (clsBody w.params) (clsScope w.params) [Str.ofString "obj"] 31 (envOfC (Str.ofString "cmp_to_key") ckScope L 50 (.ref 49)) pos none) Q E ⟨h, g, d, t, os⟩ :=
  CK.fin ⟨w, A, h, g, d, t, os, mg, vn, L, pos, Q, E⟩ hA hA2 hA3 gK g49 hg hbm hnm hlim g45 hq
end Mine
end
end
section
open PySem PySem.W PyProof.Rows PySem.Calls PySem.W.X
namespace Mine
noncomputable def RetM (s : Shared) (Q : Value → Shared → Prop) (f l : Addr) : Prop := ∀ mp tp it h' tk, X.Mem s.heap h' [] [(mp, { cls := .type "map", data := .fields #[.ref tp, .ref f] }), (tp, { cls := .type "tuple", data := .seq #[.ref it] }), (it, { cls := .type "list_iterator", data := .fields #[.ref l, .int 0 0] })] → Q (.ref mp) { s with heap := h', toks := tk }
local macro_rules | `(tactic| x_close) => `(tactic| first | ((rename RetM _ _ _ _ => hr); (rename X.Mem _ _ _ _ => DD); exact hr _ _ _ _ _ DD))
theorem map_x {prog : Program} (w : World) (l : Addr) (x y : Str) (t u : Tok) (n : Nat) (s : Shared) (Q E : Value → Shared → Prop) (X : (KB w.params).In s.heap) (gl : s.heap.get? l = some { cls := .type "list", data := .seq #[.str x t, .str y u] n })
   (hret : RetM s Q 132 l) : wpAny (model prog w) AX (call (.type "map") [.ref 132, .ref l]) Q E s := by
  x_run
end Mine
namespace Mine
theorem slot_map_next : Slot "map" "__next__" "map.__next__" :=
  .of (owner := "map") (n := "__next__") (by rw [typeLookup_type, builtinLookup_eq_fast]; kernel_rfl) (by decide +kernel) (by decide +kernel) (by decide +kernel)
    (by first | exact .inl (by decide +kernel) | exact .inr (by decide +kernel)) (by rw [isSubtype_type]; kernel_rfl)
theorem slot_map_iter : Slot "map" "__iter__" "map.__iter__" :=
  .of (owner := "map") (n := "__iter__") (by rw [typeLookup_type, builtinLookup_eq_fast]; kernel_rfl) (by decide +kernel) (by decide +kernel) (by decide +kernel)
    (by first | exact .inl (by decide +kernel) | exact .inr (by decide +kernel)) (by rw [isSubtype_type]; kernel_rfl)
theorem entry_map_next : entryFor table "map.__next__" = some Builtin.«map.__next__» := entryFor_of_fast (by kernel_rfl)
theorem entry_map_iter : entryFor table "map.__iter__" = some Builtin.«dict_keyiterator.__iter__» :=
  entryFor_alias (id' := "dict_keyiterator.__iter__") (by kernel_rfl) rfl (by decide +kernel) (by kernel_rfl)
theorem args_map_next (a : Value) : argsOk "map.__next__" ⟨[a], []⟩ := by unfold argsOk; kernel_rfl
theorem args_map_iter (a : Value) : argsOk "map.__iter__" ⟨[a], []⟩ := by unfold argsOk; kernel_rfl
theorem map_no_len : typeLookup (.type "map") "__len__" = pure none := by rw [typeLookup_type, builtinLookup_eq_fast]; kernel_rfl
theorem map_no_hint : typeLookup (.type "map") "__length_hint__" = pure none := by rw [typeLookup_type, builtinLookup_eq_fast]; kernel_rfl
end Mine
end
section
open PySem PySem.W PyProof.Rows PySem.Calls
namespace Mine
noncomputable abbrev mapO (tp f : Addr) : Obj := { cls := .type "map", data := .fields #[.ref tp, .ref f] }
noncomputable def PCall (w : World) (A : Around) (K : Heap → Prop) : Prop := ∀ (x : Str) (t : Tok) (s : Shared) (Q E : Value → Shared → Prop), K s.heap → (∀ h' tk, Ext s.heap h' → K h' → Q (.str x t) { s with heap := h', toks := tk }) → wpAny (model PySem.Challenge.rw_ik0192_01.prog w) A (call (.ref 132) [.str x t]) Q E s
structure MapSt (K : Heap → Prop) (mp tp it l : Addr) (items : Array Value) (i : Nat) (h : Heap) : Prop where
  m : h.get? mp = some (mapO tp 132)
  t : h.get? tp = some { cls := .type "tuple", data := .seq #[.ref it] }
  li : h.IsListIter it l i
  ll : h.IsList l items
  kb : K h
  ne : mp ≠ it ∧ tp ≠ it ∧ l ≠ it
theorem kb_mem {w : World} {a : Addr} {o : Obj} (h : (KB w.params).lookup a = some o) : a ∈ (KB w.params).map (·.1) := List.mem_map_of_mem (mem_of_lookupK h)
section
variable {w : World} {A : Around} {E : Value → Shared → Prop} {s : Shared}
theorem nextOf_item {it l : Addr} {i : Nat} {items : Array Value} {x : Value} {Q : Value → Shared → Prop} {prog : Program} (hit : s.heap.IsListIter it l i) (hl : s.heap.IsList l items) (hx : items[i]? = some x)
    (hQ : ∀ h', h'.IsListIter it l (i + 1) → Heap.SameBut it s.heap h' → Q x { s with heap := h' }) : wpAny (model prog w) A (Builtin.SmallTypes.nextOf (.ref it)) Q E s := by
  obtain ⟨o, ho, hc, hd⟩ := id hit
  obtain ⟨ol, hol, _, nl, hdl⟩ := hl
  unfold Builtin.SmallTypes.nextOf
  refine wpAny_bind (wpAny_callSpecial?_slot (name := Str.ofString "__next__") hit.typeIs slot_listiter_next (wpAny_call_entry slot_listiter_next hit.typeIs entry_listiter_next ?_ (args_listiter_next _)))
  show wpAny _ _ (field (.ref it) 0 >>= _) _ _ s
  refine wpAny_bind (wpAny_field ho hd (x := .ref l) rfl ?_)
  show wpAny _ _ (if (Value.ref l == Value.none) = true then _ else _) _ _ s
  rw [if_neg (show ¬ ((Value.ref l == Value.none) = true) from Bool.false_ne_true)]
  show wpAny _ _ (field (.ref it) 1 >>= _) _ _ s
  refine wpAny_bind (wpAny_field ho hd (x := .int i 0) rfl ?_)
  show wpAny _ _ (seqItems? (.ref l) >>= _) _ _ s
  refine wpAny_bind (wpAny_seqItems hol hdl ?_)
  simp only [Int.toNat_natCast, hx]
  refine wpAny_bind (wpAny_setField ho hd (by simp) (wpAny_pure ⟨x, rfl, wpAny_pure (hQ _ ?_ (Heap.SameBut.update ..))⟩))
  exact ⟨_, Heap.get?_update_self _ ho (Obj.isFreed_of_fields (Obj.data_mapFields hd _)), (Obj.cls_mapFields ..).trans hc, by
    rw [Obj.data_mapFields hd]; simp [rawInt]⟩
theorem nextOf_end {it l : Addr} {i : Nat} {items : Array Value} {Q : Value → Shared → Prop} {prog : Program} (hh : A.handled = none) (hit : s.heap.IsListIter it l i) (hl : s.heap.IsList l items) (hx : items[i]? = none)
    (hE : ∀ e h', Heap.ExtBut it s.heap h' → (∃ o, h'.get? e = some o ∧ o.cls = .type "StopIteration") → E (.ref e) { s with heap := h' }) : wpAny (model prog w) A (Builtin.SmallTypes.nextOf (.ref it)) Q E s := by
  obtain ⟨o, ho, hc, hd⟩ := id hit
  obtain ⟨ol, hol, _, nl, hdl⟩ := hl
  unfold Builtin.SmallTypes.nextOf
  refine wpAny_bind (wpAny_callSpecial?_slot (name := Str.ofString "__next__") hit.typeIs slot_listiter_next (wpAny_call_entry slot_listiter_next hit.typeIs entry_listiter_next ?_ (args_listiter_next _)))
  show wpAny _ _ (field (.ref it) 0 >>= _) _ _ s
  refine wpAny_bind (wpAny_field ho hd (x := .ref l) rfl ?_)
  show wpAny _ _ (if (Value.ref l == Value.none) = true then _ else _) _ _ s
  rw [if_neg (show ¬ ((Value.ref l == Value.none) = true) from Bool.false_ne_true)]
  show wpAny _ _ (field (.ref it) 1 >>= _) _ _ s
  refine wpAny_bind (wpAny_field ho hd (x := .int i 0) rfl ?_)
  show wpAny _ _ (seqItems? (.ref l) >>= _) _ _ s
  refine wpAny_bind (wpAny_seqItems hol hdl ?_)
  simp only [Int.toNat_natCast, hx]
  refine wpAny_bind (wpAny_rule (wpAny_bind (wpAny_setField ho hd (by simp) ?_)))
  show wpAny _ _ (newExc (.type "StopIteration") [] >>= _) _ _ _
  refine wpAny_bind ?_
  simp only [newExc, newTuple]
  refine wpAny_bind (wpAny_newObj_type ?_ (by size_fits))
  refine wpAny_bind (m := firstArgMember _ _) (wpAny_of_eq (a := Value.none) (by first | rfl | (simp only [firstArgMember]; rfl)) ?_)
  refine wpAny_newObj_type ?_ (by size_fits)
  simp only [raiseNew]
  refine wpAny_bind (wpAny_handled ?_)
  rw [show A.in1.handled = none from hh]
  refine wpAny_bind (wpAny_pure (wpAny_throw ?_))
  exact hE _ _ (((Heap.SameBut.update ..).extBut.push _).push _) ⟨_, Heap.get?_push_size _ rfl, rfl⟩
theorem map_item {mp tp it l : Addr} {i : Nat} {items : Array Value} {x : Str} {t : Tok} {Q : Option Value → Shared → Prop} {K : Heap → Prop} (hp : PCall w A.in1 K) (S : MapSt K mp tp it l items i s.heap) (hx : items[i]? = some (.str x t)) (hkb : ∀ h', Heap.SameBut it s.heap h' → K h')
    (hQ : ∀ h' tk, MapSt K mp tp it l items (i + 1) h' → (∀ b o, b ≠ it → s.heap.get? b = some o → h'.get? b = some o) → Q (some (.str x t)) { s with heap := h', toks := tk }) :
    wpAny (model PySem.Challenge.rw_ik0192_01.prog w) A (pyNext (.ref mp)) Q E s := by
  have hT : s.TypeIs (.ref mp) "map" := ⟨_, S.m, rfl⟩
  unfold pyNext
  refine wpAny_bind (wpAny_attempt (wpAny_callSpecial?_slot (name := Str.ofString "__next__") hT slot_map_next (wpAny_call_entry slot_map_next hT entry_map_next ?_ (args_map_next _))))
  show wpAny _ _ (field (.ref mp) 0 >>= _) _ _ s
  refine wpAny_bind (wpAny_field S.m rfl (x := .ref tp) rfl ?_)
  show wpAny _ _ (seqItems? (.ref tp) >>= _) _ _ s
  refine wpAny_bind (wpAny_seqItems S.t rfl ?_)
  dsimp only
  refine wpAny_bind ?_
  rw [List.forIn_toArray]
  refine for_cons (wpAny_bind (wpAny_holding (nextOf_item S.li S.ll hx fun h1 hi1 hs1 => wpAny_pure ?_)))
  dsimp only
  refine for_nil ?_
  have kb1 := hkb _ hs1
  have gm : h1.get? mp = some (mapO tp 132) := (hs1.2 _ S.ne.1).trans S.m
  have gt := (hs1.2 _ S.ne.2.1).trans S.t
  have gl : h1.IsList l items := by
    obtain ⟨o, e, r⟩ := S.ll
    exact ⟨o, (hs1.2 _ S.ne.2.2).trans e, r⟩
  refine wpAny_bind (wpAny_field gm rfl (x := .ref 132) rfl ?_)
  refine wpAny_bind (wpAny_holding ?_)
  refine hp x t _ _ _ kb1 ?_
  intro h2 tk2 x2 k2
  refine wpAny_bind (wpAny_bind (wpAny_holding (wpAny_point (wpAny_pure (wpAny_pure ⟨_, rfl, wpAny_pure (hQ _ _ ⟨x2 _ _ gm, x2 _ _ gt, ?_, ?_, k2, S.ne⟩ fun b o q e => x2 _ _ ((hs1.2 _ q).trans e))⟩)))))
  · obtain ⟨o, e, r⟩ := hi1
    exact ⟨o, x2 _ _ e, r⟩
  · obtain ⟨o, e, r⟩ := gl
    exact ⟨o, x2 _ _ e, r⟩
end
end Mine
end
section
open PySem PySem.W PyProof.Rows PySem.Calls
namespace Mine
section
variable {w : World} {A : Around} {E : Value → Shared → Prop} {s : Shared}
theorem map_done {K : Heap → Prop} {mp tp it l : Addr} {i : Nat} {items : Array Value} {Q : Option Value → Shared → Prop} (hA : A.handled = none) (S : MapSt K mp tp it l items i s.heap) (hx : items[i]? = none)
    (hQ : ∀ h' tk, (∀ b o, b ≠ it → s.heap.get? b = some o → h'.get? b = some o) → Q none { s with heap := h', toks := tk }) :
    wpAny (model PySem.Challenge.rw_ik0192_01.prog w) A (pyNext (.ref mp)) Q E s := by
  have hT : s.TypeIs (.ref mp) "map" := ⟨_, S.m, rfl⟩
  unfold pyNext
  refine wpAny_bind (wpAny_attempt (wpAny_callSpecial?_slot (name := Str.ofString "__next__") hT slot_map_next (wpAny_call_entry slot_map_next hT entry_map_next ?_ (args_map_next _))))
  show wpAny _ _ (field (.ref mp) 0 >>= _) _ _ s
  refine wpAny_bind (wpAny_field S.m rfl (x := .ref tp) rfl ?_)
  show wpAny _ _ (seqItems? (.ref tp) >>= _) _ _ s
  refine wpAny_bind (wpAny_seqItems S.t rfl ?_)
  dsimp only
  refine wpAny_bind ?_
  rw [List.forIn_toArray]
  refine for_cons (wpAny_bind (wpAny_holding (nextOf_end hA S.li S.ll hx fun e h1 hb ⟨oe, ge, ce⟩ => ?_)))
  refine wpAny_bind (wpAny_isInstance (T := "StopIteration") (b := true) ⟨_, ge, ce⟩ isSubtype_stop ?_)
  exact wpAny_pure (hQ _ _ fun b o q e => hb b o q e)
theorem map_self {K : Heap → Prop} {mp tp it l : Addr} {i : Nat} {items : Array Value} {Q : Value → Shared → Prop} (S : MapSt K mp tp it l items i s.heap) (h : Q (.ref mp) s) :
    wpAny (model PySem.Challenge.rw_ik0192_01.prog w) A (pyIter (.ref mp)) Q E s := by
  have hT : s.TypeIs (.ref mp) "map" := ⟨_, S.m, rfl⟩
  refine wpAny_pyIter_slot hT slot_map_iter (wpAny_call_entry slot_map_iter hT entry_map_iter ?_ (args_map_iter _))
  show wpAny _ _ (ret (.ref mp)) _ _ s
  exact wpAny_pure ⟨_, rfl, "map", _, hT, slot_map_next.lookup, h⟩
end
theorem walks_map {w : World} {A : Around} {K : Heap → Prop} {KS : List Addr} (hK : ∀ h h', K h → (∀ a ∈ KS, ∀ o, h.get? a = some o → h'.get? a = some o) → K h') (hA : A.handled = none) (hp : PCall w A.in1 K) (mp tp it l : Addr) (items : Array Value) (hit : ∀ (j : Nat) (v : Value), items[j]? = some v → ∃ (x : Str) (t : Tok), v = Value.str x t) (hni : it ∉ KS) :
    Walks PySem.Challenge.rw_ik0192_01.prog w A mp (mp :: tp :: it :: l :: KS) [it] items.size (fun i v => items[i]? = some v) (fun i h => MapSt K mp tp it l items i h) where
  sub := fun b hb => by rw [List.mem_singleton.mp hb]; simp
  frame := fun i h h' st hk => by
    refine ⟨hk _ (by simp) _ st.m, hk _ (by simp) _ st.t, ?_, ?_, hK _ _ st.kb fun a ha o e => hk a (by simp only [List.mem_cons]; exact .inr (.inr (.inr (.inr ha)))) o e, st.ne⟩
    · exact st.li.at fun o e => hk it (by simp) o e
    · exact st.ll.at fun o e => hk l (by simp) o e
  item := fun i s Q E hi st hQ => by
    have hx : items[i]? = some items[i] := by simp [hi]
    obtain ⟨x, t, e⟩ := hit _ _ hx
    rw [e] at hx
    refine map_item hp st hx (fun h' hs => hK _ _ st.kb fun a ha o e' => (hs.2 a (fun q => hni (q ▸ ha))).trans e') fun h' tk st' hk => ?_
    exact hQ _ _ _ hx st' fun b o hb e' => hk b o (fun q => hb (by rw [q]; exact .head _)) e'
  done := fun s Q E st hQ => map_done hA st (by simp) fun h' tk hk => hQ _ _ fun b o hb e => hk b o (fun q => hb (by rw [q]; exact .head _)) e
  self := fun _ _ _ _ st hQ => map_self st hQ
section
variable {prog : Program} {w : World} {A : Around} {E : Value → Shared → Prop} {s : Shared}
variable {I : Addr} {fp wr : List Addr} {G : Array GenState → Array GenState → Prop} {n : Nat} {P : Nat → Value → Prop} {St : Nat → Shared → Prop}
theorem collect_map {Q : List Value → Shared → Prop} (W : WalksS prog w A.in1 I fp wr G n P St) (hT : ∀ i s, St i s → s.TypeIs (.ref I) "map") (hst : St 0 s) (hfp : ∀ b ∈ fp, b < s.heap.objs.size) (hI : I ∈ fp)
    (hQ : ∀ s' acc, Moved wr G s s' → ItemsOf P acc n → Q acc.toList s') (hn : n ≤ sizeLine) : wpAny (model prog w) A (collect (.ref I)) Q E s := by
  have hSf : s.heap.objs.size ∉ fp := fun hm => Nat.lt_irrefl _ (hfp _ hm)
  have hSI : s.heap.objs.size ≠ I := fun e => hSf (e ▸ hI)
  unfold collect
  refine wpAny_bind (wpAny_runValue (codeAny_builtin PySem.F.entry_proto_collect ?_))
  rw [Around.under_plainId PySem.F.plain_proto_collect _]
  show wpAny _ A.in1 (newList [] >>= fun l => again (.builtin "list.__iadd__" ⟨[l, .ref I], []⟩)) _ _ s
  refine wpAny_bind (wpAny_newObj_type ?_)
  refine wpAny_pure ⟨plainId_quiet PySem.F.plain_list_iadd _, codeAny_builtin PySem.F.entry_list_iadd ?_⟩
  rw [Around.under_plainId PySem.F.plain_list_iadd _]
  have hst₁ := W.frame 0 s (s.heap.push { cls := .type "list", data := .seq ([] : List Value).toArray }) s.toks hst (Nat.le_refl _) fun b _ o e => Heap.get?_push_of_some _ e
  have hS₁ : (s.heap.push { cls := .type "list", data := .seq ([] : List Value).toArray }).get? s.heap.objs.size = some { cls := .type "list", data := .seq ([] : List Value).toArray } := Heap.get?_push_size _ rfl
  show wpAny _ A.in1 (Builtin.List.listExtendWith (.ref s.heap.objs.size) (.ref I) (.ref s.heap.objs.size)) _ _ _
  unfold Builtin.List.listExtendWith
  refine wpAny_bind (wpAny_typeOf (hT 0 _ hst₁) ?_)
  have h1 : Builtin.List.listSameRef (.ref s.heap.objs.size) (.ref I) = false := by simp [Builtin.List.listSameRef, hSI]
  have h2 : (Value.type "map" == Value.type "list") = false := by decide
  have h3 : (Value.type "map" == Value.type "tuple") = false := by decide
  simp only [h1, h2, h3, Bool.or_false, Bool.false_eq_true, if_false]
  refine wpAny_bind (W.self 0 _ _ _ hst₁ ?_)
  refine wpAny_bind (wpAny_holding ?_)
  unfold Builtin.List.listLengthHint
  refine wpAny_bind (wpAny_specialOf (hT 0 _ hst₁) map_no_len ?_)
  show wpAny _ A.in1 (specialOf (Value.ref I) (Str.ofString "__length_hint__") >>= _) _ _ _
  refine wpAny_bind (wpAny_specialOf (hT 0 _ hst₁) map_no_hint ?_)
  refine wpAny_pure ?_
  rw [if_pos (by rfl)]
  refine wpAny_bind (wpAny_rule ?_)
  refine wpAny_bind ?_
  show wpAny _ A.in1 (updateSeq s.heap.objs.size (·.push .none) >>= fun _ => updateSeq s.heap.objs.size (·.pop)) _ _ _
  refine wpAny_bind (wpAny_updateSeq hS₁ rfl ?_)
  have hS₂ := Heap.get?_update_self (Obj.mapSeq (·.push Value.none)) hS₁ rfl
  refine wpAny_updateSeq hS₂ rfl ?_
  have hS₃ := Heap.get?_update_self (Obj.mapSeq (·.pop)) hS₂ rfl
  have oth : ∀ b o, b ≠ s.heap.objs.size → (s.heap.push { cls := .type "list", data := .seq ([] : List Value).toArray }).get? b = some o →
      (((s.heap.push { cls := .type "list", data := .seq ([] : List Value).toArray }).update s.heap.objs.size (Obj.mapSeq (·.push Value.none))).update s.heap.objs.size (Obj.mapSeq (·.pop))).get? b = some o :=
    fun b o hb e => (Heap.get?_update_other _ _ (Ne.symm hb)).trans ((Heap.get?_update_other _ _ (Ne.symm hb)).trans e)
  refine wpAny_pure ⟨plainId_quiet PySem.F.plain_extend_loop _, codeAny_extend_loopS W hn _ hSf _ n 0 _ _ _ rfl (Nat.zero_le _)
    (W.frame 0 ({ s with heap := s.heap.push { cls := .type "list", data := .seq ([] : List Value).toArray } } : Shared) _ s.toks hst₁ (Nat.le_refl _) fun b hb o e => oth b o (fun h => hSf (h ▸ hb)) e) hS₃ (ItemsOf.nil P) fun s' acc' c' hm hS' hacc => ?_⟩
  show wpAny _ A (load s.heap.objs.size >>= _) _ _ s'
  refine wpAny_bind (wpAny_load hS' ?_)
  refine wpAny_pure (hQ s' acc' (Moved.drop_new (o := { cls := .type "list", data := .seq ([] : List Value).toArray }) (tk := s.toks) (Moved.trans W.gtrans ((Moved.refl W.grefl).then_heap (Nat.le_refl _) fun b o hb e => ?_) hm) (Nat.le_refl _)) hacc)
  exact oth b o (fun h => hb (h ▸ List.mem_cons_self)) e
theorem tuple_map_code {Q₁ : Value → Shared → Prop} (W : WalksS prog w A.in1.in1 I fp wr G n P St) (hT : ∀ i s, St i s → s.TypeIs (.ref I) "map") (hst : St 0 s) (hfp : ∀ b ∈ fp, b < s.heap.objs.size) (hI : I ∈ fp) (hsz : n ≤ sizeLine)
    (h : ∀ s' acc, Moved wr G s s' → ItemsOf P acc n → Q₁ (.ref s'.heap.objs.size) { s' with heap := s'.heap.push { cls := .type "tuple", data := .seq acc } }) :
    codeAny (model prog w) A (.call (.builtin "tuple.__new__") ⟨[.type "tuple", .ref I], []⟩) (wants Q₁ E) s := by
  refine codeAny_of_tree ?_
  show wpAny _ A.in1 (do checkBuiltinCall "tuple.__new__" ⟨[.type "tuple", .ref I], []⟩; again (.builtin "tuple.__new__" ⟨[.type "tuple", .ref I], []⟩)) _ _ s
  refine wpAny_bind (wpAny_of_eq (PySem.F.newCall_tuple_1 _) (wpAny_pure ⟨plainId_quiet PySem.F.plain_tuple_new _, codeAny_builtin PySem.F.entry_tuple_new ?_⟩))
  rw [Around.under_plainId PySem.F.plain_tuple_new _]
  have hsub := sub_tuple_self
  have hinit := init_tuple_lookup
  have hmh := madeHere_tuple
  have hTI := hT 0 s hst
  wp_walk using wpAny_typeOf hTI, collect_map (hn := hsz) W hT hst hfp hI
  intro s' acc hm hacc
  show wpAny _ _ (Builtin.Tuple.tupleExact acc.toList.toArray >>= fun v => ret v) _ _ _
  unfold Builtin.Tuple.tupleExact
  refine wpAny_bind (wpAny_newObj_type ?_ (by show acc.toList.toArray.size ≤ sizeLine; simp only [Array.toArray_toList]; rw [hacc.1]; exact hsz))
  refine wpAny_pure ?_
  have e : acc.toList.toArray = acc := by simp
  rw [e]
  exact h s' acc hm hacc
end
theorem tuple_map {w : World} {A : Around} {E : Value → Shared → Prop} {s : Shared} {Q : Value → Shared → Prop} {K : Heap → Prop} {KS : List Addr} (hK : ∀ h h', K h → (∀ a ∈ KS, ∀ o, h.get? a = some o → h'.get? a = some o) → K h') (hA : A.handled = none) (hp : PCall w A.in1.in1.in1.in1 K) {mp tp it l : Addr} {x y : Str} {t u : Tok} (S : MapSt K mp tp it l #[.str x t, .str y u] 0 s.heap) (hni : it ∉ KS) (hin : ∀ a ∈ KS, a < s.heap.objs.size)
    (h : ∀ b h' tk, (∀ b o, b ≠ it → s.heap.get? b = some o → h'.get? b = some o) → (b = it ∨ s.heap.get? b = none) → h'.get? b = some { cls := .type "tuple", data := .seq #[.str x t, .str y u] } → Q (.ref b) { s with heap := h', toks := tk }) :
    wpAny (model PySem.Challenge.rw_ik0192_01.prog w) A (call (.type "tuple") [.ref mp]) Q E s := by
  have W := (walks_map (w := w) (A := A.in1.in1.in1) hK hA hp mp tp it l #[.str x t, .str y u] (fun j v e => by
    match j, e with
    | 0, e => cases e; exact ⟨x, t, rfl⟩
    | 1, e => cases e; exact ⟨y, u, rfl⟩
    | j + 2, e => simp at e) hni).toS
  refine callType_codes (Q₁ := fun obj s₁ => s₁.TypeIs obj "tuple" ∧ Q obj s₁) PySem.F.called_tuple (PySem.F.typeCall_tuple_1 _) PySem.F.entry_object_init
    (tuple_map_code W (fun i s st => ⟨_, st.m, rfl⟩) S (fun b hb => ?_) (.head _) (by show 2 ≤ sizeLine; rw [PySem.sizeLine_eq]; decide) fun s' acc hm hacc => ⟨⟨_, Heap.get?_push_size _ rfl, rfl⟩, ?_⟩) fun obj s₁ h₁ => ?_
  · simp only [List.mem_cons] at hb
    rcases hb with rfl | rfl | rfl | rfl | hb
    · exact Heap.lt_size S.m
    · exact Heap.lt_size S.t
    · exact Heap.lt_size S.li.choose_spec.1
    · exact Heap.lt_size S.ll.choose_spec.1
    · exact hin b hb
  · obtain ⟨hp', g', d', tk', os'⟩ := s'
    obtain ⟨m1, m2, m3, m4, m5⟩ := hm
    dsimp only at m1 m2 m3 m4 m5
    subst m2 m3 m4
    have ha : acc = #[.str x t, .str y u] := by
      apply Array.ext
      · exact hacc.1
      · intro j h1 h2
        have e : (#[.str x t, .str y u] : Array Value)[j]? = some acc[j] := hacc.2 j acc[j] (by simp [h1])
        rw [Array.getElem?_eq_getElem h2] at e
        exact (Option.some.inj e).symm
    rw [ha]
    refine h _ _ _ (fun b o q e => Heap.get?_push_of_some _ (m1 b o (fun hb => q (List.mem_singleton.mp hb)) e)) ?_ (Heap.get?_push_size _ rfl)
    by_cases e : hp'.objs.size = it
    · exact .inl e
    · refine .inr ?_
      cases q : s.heap.get? hp'.objs.size with
      | none => rfl
      | some o => exact absurd (Heap.lt_size (m1 _ _ (fun hb => e (List.mem_singleton.mp hb)) q)) (Nat.lt_irrefl _)
  · exact ⟨h₁.1, PySem.F.args_object_init_2 obj _, object_init_meets PySem.F.called_tuple.init.lookup PySem.F.called_tuple.made (by decide) _ w A.in1 _ s₁ ⟨h₁.1, rfl, h₁.2⟩⟩
end Mine
end
section
open PySem PySem.W PyProof.Rows PySem.Calls
namespace Mine
noncomputable def kfr (a : Addr) (f : Nat → Addr) (k : Nat → Tok) (hh : Nat → Int) : Frag := [(a, kcO a f k), (f 0, knO f k hh), (f 9, kmO a k)]
section
variable {h : Heap} {a : Addr} {f : Nat → Addr} {k : Nat → Tok} {hh : Nat → Int}
theorem kfr_a : (kfr a f k hh).lookup a = some (kcO a f k) := by simp [kfr]
theorem kfr_n (n : f 0 ≠ a) : (kfr a f k hh).lookup (f 0) = some (knO f k hh) := by
  unfold kfr
  rw [List.lookup_cons, beq_false_of_ne n, List.lookup_cons, beq_self_eq_true]
theorem kfr_m (n : f 9 ≠ a) (n2 : f 9 ≠ f 0) : (kfr a f k hh).lookup (f 9) = some (kmO a k) := by
  unfold kfr
  rw [List.lookup_cons, beq_false_of_ne n, List.lookup_cons, beq_false_of_ne n2, List.lookup_cons, beq_self_eq_true]
theorem ty_ne {x y : Addr} {o1 o2 : Obj} (e1 : h.get? x = some o1) (e2 : h.get? y = some o2) (hne : o1.cls ≠ o2.cls) : x ≠ y := by
  rintro rfl
  rw [e1] at e2
  cases e2
  exact hne rfl
theorem kfr_in (ga : h.get? a = some (kcO a f k)) (gn : h.get? (f 0) = some (knO f k hh)) (gm : h.get? (f 9) = some (kmO a k)) : (kfr a f k hh).In h := by
  intro b o e
  unfold kfr at e
  rw [List.lookup_cons] at e
  split at e
  · rename_i q; cases e; rw [eq_of_beq q]; exact ga
  rw [List.lookup_cons] at e
  split at e
  · rename_i q; cases e; rw [eq_of_beq q]; exact gn
  rw [List.lookup_cons] at e
  split at e
  · rename_i q; cases e; rw [eq_of_beq q]; exact gm
  cases e
theorem kf_cls : clsIn (kfr a f k hh) a = some { name := Str.ofString "K", bases := [.type "object"], mro := [.ref a, .type "object"], ns := f 0, qualname := Str.ofString "cmp_to_key.<locals>.K", hasDict := false, slotNames := [Str.ofString "obj"] } := by
  unfold clsIn; rw [kfr_a]
theorem kf_find (n : f 0 ≠ a) {name : Str} {r : Option Value} (e : (match lookIn name (knO f k hh) with | some (some v) => some (some v) | some none => some (fastBuiltinOwn "object" name) | none => none) = some r) : findIn (kfr a f k hh) (.ref a) name = some r := by
  unfold findIn
  dsimp only
  rw [kfr_a]
  show alongIn _ name [.ref a, .type "object"] = _
  have h1 : ownIn (kfr a f k hh) name (.ref a) = lookIn name (knO f k hh) := by
    unfold ownIn
    dsimp only
    rw [kfr_a]
    show nsIn _ (f 0) name = _
    unfold nsIn
    rw [kfr_n n]
    rfl
  rw [← e]
  unfold alongIn
  rw [h1]
  rcases lookIn name (knO f k hh) with _ | _ | v
  · rfl
  · show alongIn _ name [.type "object"] = _
    unfold alongIn ownIn
    dsimp only
    cases fastBuiltinOwn "object" name <;> rfl
  · rfl
theorem kf_setattr (n : f 0 ≠ a) : findIn (kfr a f k hh) (.ref a) "__setattr__" = some (some (.builtin "object.__setattr__")) := kf_find n (by kernel_rfl!)
theorem kf_obj (n : f 0 ≠ a) : findIn (kfr a f k hh) (.ref a) "obj" = some (some (.ref (f 9))) := kf_find n (by kernel_rfl!)
theorem kf_init (n : f 0 ≠ a) : findIn (kfr a f k hh) (.ref a) "__init__" = some (some (.ref (f 1))) := kf_find n (by kernel_rfl!)
theorem kf_over : plainOver (kfr a f k hh) a = true := by unfold plainOver; rw [kf_cls]; kernel_rfl!
theorem kf_md (m1 : f 9 ≠ a) (m2 : f 9 ≠ f 0) : typeIn (kfr a f k hh) (.ref (f 9)) = some (.type "member_descriptor") := by
  unfold typeIn; dsimp only; rw [kfr_m m1 m2]; rfl
theorem kf_takes (n : f 0 ≠ a) (m1 : f 9 ≠ a) (m2 : f 9 ≠ f 0) : takerIn (kfr a f k hh) a "obj" = some (some (.ref (f 9))) := by
  unfold takerIn
  rw [kf_obj n]
  have e : takesIn (kfr a f k hh) (.ref (f 9)) = some true := by
    unfold takesIn specialIn
    rw [kf_md m1 m2]
    kernel_rfl!
  show (takesIn _ _).map _ = _
  rw [e]; rfl
theorem kf_slot (m1 : f 9 ≠ a) (m2 : f 9 ≠ f 0) : slotIn (kfr a f k hh) (f 9) a = some 0 := by
  unfold slotIn recIn
  rw [kfr_m m1 m2, kf_cls]
  simp
theorem kf_getattr (n : f 0 ≠ a) : findIn (kfr a f k hh) (.ref a) "__getattribute__" = some (some (.builtin "object.__getattribute__")) := kf_find n (by kernel_rfl!)
theorem kf_nogetattr (n : f 0 ≠ a) : findIn (kfr a f k hh) (.ref a) "__getattr__" = some none := kf_find n (by kernel_rfl!)
theorem kf_get (m1 : f 9 ≠ a) (m2 : f 9 ≠ f 0) : specialIn (kfr a f k hh) (.ref (f 9)) "__get__" = some (some (.builtin "member_descriptor.__get__")) := by
  unfold specialIn; rw [kf_md m1 m2]; kernel_rfl!
theorem kf_taken (m1 : f 9 ≠ a) (m2 : f 9 ≠ f 0) : takesIn (kfr a f k hh) (.ref (f 9)) = some true := by
  unfold takesIn specialIn
  rw [kf_md m1 m2]
  kernel_rfl!
theorem kf_makes (n : f 0 ≠ a) : makesIn (kfr a f k hh) a = true := by
  unfold makesIn
  rw [kfr_a]
  dsimp only
  have e1 : specialIn (kfr a f k hh) (.ref a) "__call__" = some (some (.builtin "type.__call__")) := by
    unfold specialIn typeIn; dsimp only; rw [kfr_a]; kernel_rfl!
  have e2 : instIn (kfr a f k hh) (.ref a) (.type "type") = some true := by
    unfold instIn typeIn; dsimp only; rw [kfr_a]; kernel_rfl!
  rw [e1, e2]
  simp
end
end Mine
end
section
set_option hygiene false
open PySem PySem.W PyProof.Rows PySem.Calls
namespace Mine
local macro_rules | `(tactic| walk_at "ENT") => `(tactic| ((case kA => exact rfl); (case kF => exact rfl); (case kK => assumption); (case k1 => k_asm); (case k2 => k_asm); (case k3 => k_asm); (case kX => k_asm); (case k5 => k_asm); (case k6 => k_is); (case k7 => k_is); (case k8 => exact Nat.le_of_ble_eq_true rfl)))
local macro_rules | `(tactic| walk_at "ENT9") => `(tactic| ((case k9 => first | exact BindsTo.of_eq rfl | exact binds_K (by k_in) rfl (by k_is) rfl rfl rfl | (refine' kp_binds ?kx ?ke; (case kx => k_in); (case ke => exact fun _ => rfl)))))
local macro_rules | `(tactic| walk_at "ENTER0") => `(tactic| (k_dflt (refine' enter0 ?k1 ?k2 ?k3 ?kX ?k5 ?kA ?kF ?kK ?k6 ?k7 ?k8 ?k9 ?kB ?_ ?c2 ?c3 ?c4 ?c5; (walk_at "ENT"); (walk_at "ENT9"); (case c5 => decide); (case kB => exact locs rfl); (case c2 => exact rfl); (case c3 => exact rfl); (case c4 => exact rfl); k_whole)))
local macro_rules | `(tactic| walk_at "ENTER0C") => `(tactic| (k_dflt (refine' enter0C ?k1 ?k2 ?k3 ?kX ?k5 ?kA ?kF ?kK ?k6 ?k7 ?k8 ?k9 ?kB ?kD ?_ ?c2 ?c3 ?c4; (walk_at "ENT"); (walk_at "ENT9"); (case kB => exact rfl); (case kD => decide +kernel); (case c2 => exact rfl); (case c3 => exact rfl); (case c4 => exact rfl); k_whole)))
local macro_rules | `(tactic| walk_at "PREM") => `(tactic| ((case B => k_asm); (case F => k_asm); (case X => k_asm); (case XB => k_asm); (case N => k_asm); (case T => k_asm); (case hk => first | exact rfl | assumption); (case hd => exact Nat.le_of_ble_eq_true rfl); (case hu => exact Nat.le_of_ble_eq_true rfl)))
local macro_rules | `(tactic| walk_at "NE1") => `(tactic| (with_reducible first | assumption | exact Nat.ne_of_lt (by assumption) | exact Nat.ne_of_gt (by assumption) | exact And.left (by assumption) | exact And.left (And.right (by assumption)) | exact And.right (And.right (by assumption)) | exact And.right (by assumption)))
local macro_rules | `(tactic| walk_at "NE") => `(tactic| ((try dsimp only); first | (walk_at "NE1") | (refine Ne.symm ?_; (walk_at "NE1")) | exact (by decide)))
local macro_rules | `(tactic| k_ne) => `(tactic| first | (walk_at "NE") | (refine neN ?_; (try dsimp only); omega))
local macro_rules | `(tactic| k_all) => `(tactic| first | with_reducible assumption | exact List.forall_mem_nil _ | (refine List.forall_mem_cons.mpr ⟨?_, ?_⟩; k_ne; k_all))
local macro_rules | `(tactic| walk_at "STG") => `(tactic| (refine' storeG (by k_asm) (by k_asm) ?_ (by rfl) (by rfl); k_whole; intro h' t' F' N'))
local macro_rules | `(tactic| walk_at "STS") => `(tactic| (refine' storeS (by k_asm) (by k_asm) ?_ (by rfl) (by rfl); k_whole; intro h' t' u' F' N'))
local macro_rules | `(tactic| walk_at "STI") => `(tactic| (refine' storeI (by k_asm) (by k_asm) ?_ (by rfl) (by rfl); k_whole; intro h' t' u' F' N'))
local macro_rules | `(tactic| walk_at "storeName") => `(tactic| (k_here; k_dflt (first | ((with_reducible show wpAny _ _ (storeName _ _ (Value.str _ (Shared.toks _))) _ _ _); (walk_at "STS")) | ((with_reducible show wpAny _ _ (storeName _ _ (Value.str _ (_ + _))) _ _ _); (walk_at "STS")) | ((with_reducible show wpAny _ _ (storeName _ _ (Value.int _ (Shared.toks _))) _ _ _); (walk_at "STI")) | ((with_reducible show wpAny _ _ (storeName _ _ (Value.int _ (_ + _))) _ _ _); (walk_at "STI")) | (walk_at "STG")); (try dsimp only at F' N'); (try dsimp only); (try k_sweep)))
local macro_rules | `(tactic| walk_at "exec For") => `(tactic| ((with_reducible show wpAny _ _ (exec (Stmt.For (Expr.Name _ _) _ _ [] _) _) _ _ _); with_unfolding_all ((rename Fr _ _ _ _ => F'); (refine For_invVF F' (by rfl) (by rfl) ?_))))
local macro_rules | `(tactic| walk_at "call builtin:list.append") => `(tactic| (k_dflt (refine' append_L (by k_asm) (by k_asm) (by k_upd) (by first | assumption | omega) ?_); intro h9 F9 N9))
local macro_rules | `(tactic| walk_at "call builtin:list.pop") => `(tactic| (k_dflt (refine' pop_strs (by k_asm) (by k_asm) (by k_upd) (by assumption) (by assumption) (by first | assumption | omega) ?_); intro y9 t9 h9 g9 F9 N9 i9))
local macro_rules | `(tactic| walk_at "subscriptTail Name UnaryOp ref int") => `(tactic| ((with_reducible show wpAny _ _ (subscriptTail _ _ (Value.ref _) (Value.int _ _)) _ _ _); k_dflt (refine' item_last (by is_list) (by assumption) (by assumption) ?_); intro y9 t9 g9))
local macro_rules | `(tactic| walk_at "truthy ref") => `(tactic| ((with_reducible show wpAny _ _ (truthy (Value.ref _)) _ _ _); k_dflt (refine' truthy_L (by is_list) (by first | assumption | omega) ?_)))
local macro_rules | `(tactic| walk_at "binaryOp Add str str") => `(tactic| (k_dflt (refine' add_S (by with_reducible assumption) ?_); intro t9 k9))
local macro_rules | `(tactic| walk_at "inplaceOp Add str str") => `(tactic| (k_dflt (refine' iadd_S (by with_reducible assumption) ?_); intro t9 k9))
local macro_rules | `(tactic| walk_at "truthy str") => `(tactic| (k_dflt (refine' truthy_pos (by with_reducible assumption) (by with_reducible assumption) ?_); intro k9))
local macro_rules | `(tactic| walk_at "binaryOp Add ref ref") => `(tactic| (k_dflt (refine' add_LL (by k_asm) (by k_asm) (by is_list) (by is_list) (by first | assumption | omega | exact Nat.le_of_ble_eq_true rfl) (by first | assumption | omega | exact Nat.le_of_ble_eq_true rfl) ?_); intro D9 h9 F9 N9 l9; (try k_lt l9)))
local macro_rules | `(tactic| walk_at "subscriptTail Name Slice ref ref") => `(tactic| (k_dflt (refine' kms_slice_lit (by k_asm) (by k_asm) (by is_list) (by constructor) (by constructor) (by first | exact pick_init | exact pick_up (by first | assumption | omega | exact Int.natCast_nonneg _) | exact pick_from (by first | assumption | omega | exact Int.natCast_nonneg _)) ?_ (by with_unfolding_all rfl) (by intro _; with_unfolding_all rfl) (by (rw [PySem.sizeLine_eq, List.size_toArray]; first | omega | assumption))); intro D9 h9 F9 N9 l9; (try k_lt l9)))
local macro_rules | `(tactic| walk_at "call builtin:len") => `(tactic| (k_dflt (refine' len_L (by is_list) (by first | assumption | omega) ?_); intro t9 k9))
section
local macro_rules | `(tactic| walk_at "call builtin:issubclass") => `(tactic| (k_dflt (refine' issub_str (News.get (by k_asm) (by k_mem)) ?_)))
theorem fspath0 (w : World) (x : Str) (t : Tok) : Spec0 w 690 9000 132 [.str x t] (fun _ => True) (fun _ r _ => r = .str x t) := by
  unfold Spec0
  k_fill
  intro gd cn cs a ccd cl outer A₀ base h₀ L m s mean mg mb Q E B F X XB T hk _ hret
  refine wpAny_call ?_
  refine hideR fun R9 hR9 => ?_
  replace hret := fun r h' tk' x p => hR9 (.ok (.ret r)) _ (hret r h' tk' x p)
  walk_at "ENTER0"
  intro L' h' F' N' B' X' XB' T' av
  replace F' : Fr _ L' h' (fun y => ([(Str.ofString "path", .str x t)] : List (Str × Value)).lookup y) := F'
  refine tok0 fun tk0 => ?_
  k_steps
  all_goals ((try refine leaveX ?_); (try dsimp only); exact hret _ _ _ (Fr.keep (by assumption)) rfl)
end
section
local macro_rules | `(tactic| walk_at "ZZ") => `(tactic| skip)
local macro_rules | `(tactic| walk_at "call ref") => `(tactic| ((k_dflt (refine' spec_val (fspath0 _ _ _) ?B ?F ?X ?XB ?N ?T ?hk ?hd ?hu ?pre ?_; (walk_at "PREM"); (case pre => trivial))); intro r9 h9 tk9 F9 N9 E9 e9; subst e9))
noncomputable abbrev tobj (its : List Value) : Obj := { cls := .type "tuple", data := .seq its.toArray }
@[irreducible] noncomputable def tot (ys : List Str) : Nat := (ys.map (·.length)).sum + ys.length * (Str.ofString "/").length
noncomputable def Rooted (x : Str) : Prop := Txt.slice x none (some 1) = Str.ofString "/" ∧ Txt.slice x (some 1) (some 2) ≠ Str.ofString "/" ∧ x.length ≤ 100 ∧ 0 < x.length ∧ tot (Txt.split (Txt.slice x (some 1) none) (Str.ofString "/")) ≤ 10000
theorem new_head {h₀ h : Heap} {L b : Addr} {o : Obj} {r : List (Addr × Obj)} (N : News h₀ L h ((b, o) :: r)) : h₀.get? b = none ∧ h.get? b = some o := ⟨(N _ List.mem_cons_self).2.2, (N _ List.mem_cons_self).1⟩
theorem leaveX {R : Result → Shared → Prop} {v : Value} {s' : Shared} (h : R (.ok (.ret v)) s') : LeaveX R v s' := h
theorem splitroot0 (w : World) (x : Str) (t : Tok) (hx : Rooted x) : Spec0 w 680 8900 160 [.str x t] (fun _ => True)
    (fun h r h' => ∃ b o, r = .ref b ∧ h.get? b = none ∧ h'.get? b = some o ∧ ∃ t1 t2 t3, o = tobj [.str (Str.ofString "") t1, .str (Str.ofString "/") t2, .str (Txt.slice x (some 1) none) t3]) := by
  refine hidG fun G_ hG_ => ?_
  obtain ⟨hx1, hx2, hx3, hx4, _⟩ := hx
  refine hG_ ?_
  clear hG_
  unfold Spec0
  k_fill
  intro gd cn cs a ccd cl outer A₀ base h₀ L m s mean mg mb Q E B F X XB T hk _ hret
  refine wpAny_call ?_
  refine hideR fun R9 hR9 => ?_
  replace hret := fun r h' tk' x p => hR9 (.ok (.ret r)) _ (hret r h' tk' x p)
  walk_at "ENTER0"
  intro L' h' F' N' B' X' XB' T' av
  replace F' : Fr _ L' h' (fun y => ([(Str.ofString "p", .str x t)] : List (Str × Value)).lookup y) := F'
  refine tok0 fun tk0 => ?_
  k_steps
  all_goals first
    | (exfalso; simp_all; done)
    | ((rename News _ _ _ _ => N9); obtain ⟨e1, e2⟩ := new_head N9; (try refine leaveX ?_); (try dsimp only); exact hret _ _ _ (Fr.keep (by assumption)) ⟨_, _, rfl, e1, e2, _, _, _, rfl⟩)
end
section
theorem tot_nil : tot [] = 0 := by unfold tot; rfl
theorem tot_append (a b : List Str) : tot (a ++ b) = tot a + tot b := by
  unfold tot; simp only [List.map_append, List.sum_append, List.length_append, Nat.add_mul]; omega
theorem tot_dropLast (a : List Str) : tot a.dropLast ≤ tot a := by
  rcases List.eq_nil_or_concat a with rfl | ⟨r, c, rfl⟩
  · exact Nat.le_refl _
  · rw [List.concat_eq_append, List.dropLast_concat, tot_append]; omega
theorem tot_foldG {f : List Str → Str → List Str} (hf : ∀ acc c, tot (f acc c) ≤ tot acc + tot [c]) (l : List Str) : ∀ acc, tot (l.foldl f acc) ≤ tot acc + tot l := by
  induction l with
  | nil => intro acc; exact Nat.le_add_right _ _
  | cons c l ih =>
    intro acc
    rw [List.foldl_cons]
    have h1 := ih (f acc c)
    have h2 := hf acc c
    have h3 : tot (c :: l) = tot [c] + tot l := tot_append [c] l
    omega
theorem tot_mem {l : List Str} {c : Str} (h : c ∈ l) : c.length ≤ tot l := by
  obtain ⟨a, b, rfl⟩ := List.append_of_mem h
  have h3 : tot (c :: b) = tot [c] + tot b := tot_append [c] b
  have h4 : c.length ≤ tot [c] := by unfold tot; simp
  rw [tot_append, h3]; omega
theorem tot_take (l : List Str) (n : Nat) : tot (l.take n) ≤ tot l := by
  have := tot_append (l.take n) (l.drop n)
  rw [List.take_append_drop] at this; omega
theorem len_tot (l : List Str) : l.length ≤ tot l := by
  have h : (Str.ofString "/").length = 1 := by decide +kernel
  unfold tot; simp only [h]; omega
theorem tot_takeG {f : List Str → Str → List Str} (hf : ∀ acc c, tot (f acc c) ≤ tot acc + tot [c]) {l : List Str} {i : Nat} {vs : List Value} {B : Nat} (h : StrsAre vs ((l.take i).foldl f [])) (hB : tot l ≤ B) : vs.length ≤ B := by
  have h1 := h.len_eq
  have h2 := len_tot ((l.take i).foldl f [])
  have h3 := tot_foldG hf (l.take i) []
  have h4 := tot_take l i
  have h5 := tot_nil
  omega
theorem str_len0 {c : Str} (h : (c.length : Int) = 0) : c = Str.ofString "" := by
  have h' : c.cps.size = 0 := by have : c.length = c.cps.size := rfl; omega
  have e : c.cps = #[] := Array.eq_empty_of_size_eq_zero h'
  cases c; cases e; decide +kernel
theorem take_step {α β : Type} {f : β → α → β} {z : β} {l : List α} {i : Nat} {c : α} (h : l[i]? = some c) : (l.take (i + 1)).foldl f z = f ((l.take i).foldl f z) c := by
  rw [List.take_add_one, h]; simp
end
section
local macro_rules | `(tactic| walk_at "ZZ") => `(tactic| skip)
local macro_rules | `(tactic| walk_at "compareOp Eq ref ref") => `(tactic| ((with_reducible show wpAny _ _ (compareOp CmpOp.Eq (Value.ref _) (Value.ref _)) _ _ _); k_dflt (refine' txt_eq (by is_list) (by is_list) (by first | assumption | exact strs_take _ (by assumption)) (by first | assumption | exact strs_take _ (by assumption)) (by first | assumption | exact oks_take _ (by assumption)) (by first | assumption | exact oks_take _ (by assumption)) (by units_room) ?_)))
local macro_rules | `(tactic| walk_at "eval ListComp") => `(tactic| (k_dflt (refine LCt.ListComp_T (F₀ := by k_asm) (by with_unfolding_all rfl) (by decide) (by rfl) (by decide) (by rfl) ?_)))
noncomputable def RowV (h : Heap) (v : Value) (r : List Str) : Prop := ∃ a vs n, v = .ref a ∧ h.get? a = some (lobj vs n) ∧ StrsAre vs r
noncomputable def RowsV (h : Heap) (os : List Value) (rs : List (List Str)) : Prop := os.length = rs.length ∧ ∀ (i : Nat) v r, os[i]? = some v → rs[i]? = some r → RowV h v r
noncomputable def nearB (row one : List Str) : Bool := one.take row.length == row.take one.length
theorem near_yes {vs ov : List Value} {row one : List Str} (h1 : vs.length = row.length) (h2 : ov.length = one.length) (e : List.take ((vs.length : Int)).toNat one = List.take ((ov.length : Int)).toNat row) : nearB row one = true := by
  unfold nearB
  rw [h1, h2] at e
  simpa using e
theorem near_no {vs ov : List Value} {row one : List Str} (h1 : vs.length = row.length) (h2 : ov.length = one.length) (e : ¬ List.take ((vs.length : Int)).toNat one = List.take ((ov.length : Int)).toNat row) : nearB row one = false := by
  unfold nearB
  rw [h1, h2] at e
  simpa using e
theorem near_step1 {rows : List (List Str)} {row : List Str} {i : Nat} (hi : i < rows.length) (h : nearB row rows[i] = true) : ((rows.take (i + 1)).filter (nearB row)).length = ((rows.take i).filter (nearB row)).length + 1 := by
  rw [List.take_add_one, List.getElem?_eq_getElem hi, List.filter_append, List.length_append]
  simp [h]
theorem near_step0 {rows : List (List Str)} {row : List Str} {i : Nat} (hi : i < rows.length) (h : nearB row rows[i] = false) : ((rows.take (i + 1)).filter (nearB row)).length = ((rows.take i).filter (nearB row)).length := by
  rw [List.take_add_one, List.getElem?_eq_getElem hi, List.filter_append, List.length_append]
  simp [h]
theorem lawnear0 (w : World) (ra oa : Addr) (row : List Str) (rows : List (List Str)) (hr : row.length ≤ 100) (hrs : rows.length ≤ 100) (hrr : ∀ r ∈ rows, r.length ≤ 100) (hok : OkS row) (hoks : ∀ r ∈ rows, OkS r) : Spec0 w 680 8900 191 [.ref ra, .ref oa]
    (fun h => (∃ vs n, h.get? ra = some (lobj vs n) ∧ StrsAre vs row) ∧ ∃ os n, h.get? oa = some (lobj os n) ∧ RowsV h os rows)
    (fun h r h' => ∃ b o, r = .ref b ∧ h.get? b = none ∧ h'.get? b = some o ∧ ∃ vs n, o = lobj vs n ∧ vs.length = (rows.filter (nearB row)).length) := by
  unfold Spec0
  k_fill
  intro gd cn cs a ccd cl outer A₀ base h₀ L m s mean mg mb Q E B F X XB T hk pre hret
  refine hidG fun G_ hG_ => ?_
  obtain ⟨⟨vs, nr, gr, hvs⟩, os, no, go, hos⟩ := pre
  refine hG_ ?_
  clear hG_
  refine wpAny_call ?_
  refine hideR fun R9 hR9 => ?_
  replace hret := fun r h' tk' x p => hR9 (.ok (.ret r)) _ (hret r h' tk' x p)
  walk_at "ENTER0C"
  intro L' h' tk cells F' N' Y B' X' XB' T'
  replace F' : Fr _ L' h' (fun y => if y = Str.ofString "others" then some (.ref oa) else none) := F'
  k_cells Y
  have hl : s.heap.IsList oa os.toArray := ⟨_, go, rfl, no, rfl⟩
  have hlr : s.heap.IsList ra vs.toArray := ⟨_, gr, rfl, _, rfl⟩
  have hzr : vs.length ≤ 100000 := by rw [hvs.len_eq]; omega
  k_steps
  refine LCt.CompSrcT.base (by rfl) (by k_asm) (by k_asm) hl ?_ ?_
  · rw [sizeLine_eq, List.size_toArray, hos.1]; omega
  intro g'
  refine restT_ind (fun i ys nw => nw = [_] ∧ ys.length = ((rows.take i).filter (nearB row)).length) ⟨rfl, rfl⟩ ?_ ?_
  · intro ys nw ip2_
    refine hidG fun G_ hG_ => ?_
    obtain ⟨enw, hy⟩ := ip2_
    refine hG_ ?_
    clear hG_
    subst enw
    rw [List.size_toArray, hos.1, List.take_length] at hy
    unfold LCg.FinE
    intro D h tk F1 N1 o1
    clear F' N'
    try dsimp only
    k_steps
    all_goals ((try refine leaveX ?_); (try dsimp only); exact hret _ _ _ (Fr.keep (by assumption)) ⟨_, _, rfl, (new_head (by assumption)).1, (new_head (by assumption)).2, _, _, rfl, hy⟩)
  · intro i ys nw v I oI C oC D m₂ h tk E' hi ip14_ hv hC hx F1 N1 off1 ne1
    refine hidG fun G_ hG_ => ?_
    obtain ⟨enw, hy⟩ := ip14_
    refine hG_ ?_
    clear hG_
    subst enw
    have hv' : os[i]? = some v := by simpa using hv
    have hi' : i < rows.length := by rw [← hos.1]; simpa using hi
    refine hidG fun G_ hG_ => ?_
    obtain ⟨oa', ov, on, rfl, gone, hvo⟩ := hos.2 i v _ hv' (List.getElem?_eq_getElem hi')
    refine hG_ ?_
    clear hG_
    have hzo : ov.length ≤ 100000 := by rw [hvo.len_eq]; have := hrr _ (List.getElem_mem hi'); omega
    have hlo : s.heap.IsList oa' ov.toArray := ⟨_, gone, rfl, _, rfl⟩
    have hok1 : OkS (rows[i]) := hoks _ (List.getElem_mem hi')
    clear F' N' hos
    k_steps
    · refine LCg.CompEnd.intro (by k_asm) (by k_asm) [_] (by lcg_sub) off1 (.inl hl) ⟨rfl, ?_⟩
      rw [near_step1 hi' (near_yes hvs.len_eq hvo.len_eq (by assumption)), List.length_append, hy]; rfl
    · refine LCg.CompEnd.intro (by k_asm) (by k_asm) [_] (by lcg_sub) off1 (.inl hl) ⟨rfl, ?_⟩
      rw [near_step0 hi' (near_no hvs.len_eq hvo.len_eq (by assumption)), hy]
end
section
local macro_rules | `(tactic| walk_at "ZZ") => `(tactic| skip)
local macro_rules | `(tactic| walk_at "call ref") => `(tactic| ((k_dflt (refine' spec_new (splitroot0 _ _ _ (by assumption)) ?B ?F ?X ?XB ?N ?T ?hk ?hd ?hu ?pre ?_; (walk_at "PREM"); (case pre => trivial))); intro b9 o9 h9 tk9 F9 N9 E9 off9 ⟨t9, u9, v9, e9⟩; subst e9; (try simp only [LCg.Off1, and_true] at off9)))
local macro_rules | `(tactic| walk_at "call ref") => `(tactic| ((k_dflt (refine' spec_val (fspath0 _ _ _) ?B ?F ?X ?XB ?N ?T ?hk ?hd ?hu ?pre ?_; (walk_at "PREM"); (case pre => trivial))); intro r9 h9 tk9 F9 N9 E9 e9; subst e9))
noncomputable def npStep (acc : List Str) (c : Str) : List Str :=
  if c = Str.ofString "" ∨ c = Str.ofString "." then acc else if c ≠ Str.ofString ".." ∨ acc.getLast? = some (Str.ofString "..") then acc ++ [c] else acc.dropLast
noncomputable def npNames (x : Str) : List Str := (Txt.split (Txt.slice x (some 1) none) (Str.ofString "/")).foldl npStep []
local macro_rules | `(tactic| walk_at "call builtin:str.join") => `(tactic| (k_dflt (refine join_list (News.isList (by k_asm) (by k_mem)) (by assumption) (by assumption) ?_); intro t9 k9))
theorem tot_step (acc : List Str) (c : Str) : tot (npStep acc c) ≤ tot acc + tot [c] := by
  unfold npStep
  split
  · omega
  · split
    · rw [tot_append]; exact Nat.le_refl _
    · have := tot_dropLast acc; omega
theorem tot_fold (l : List Str) : ∀ acc, tot (l.foldl npStep acc) ≤ tot acc + tot l := tot_foldG tot_step l
theorem np_skip1 {acc : List Str} {c : Str} (h : (c.length : Int) = 0) : npStep acc c = acc := if_pos (.inl (str_len0 h))
theorem np_skip2 {acc : List Str} {c : Str} (h : (c == Str.ofString ".") = true) : npStep acc c = acc := if_pos (.inr (eq_of_beq h))
theorem np_no {c : Str} (h0 : (c.length : Int) ≠ 0) (h1 : (c == Str.ofString ".") = false) : ¬ (c = Str.ofString "" ∨ c = Str.ofString ".") := by
  rintro (rfl | rfl)
  · exact h0 (by decide +kernel)
  · simp at h1
theorem np_app1 {acc : List Str} {c : Str} (h0 : (c.length : Int) ≠ 0) (h1 : (c == Str.ofString ".") = false) (h : (c != Str.ofString "..") = true) : npStep acc c = acc ++ [c] := by
  unfold npStep; rw [if_neg (np_no h0 h1), if_pos (.inl (bne_iff_ne.mp h))]
theorem np_app2 {acc : List Str} {c y : Str} (h0 : (c.length : Int) ≠ 0) (h1 : (c == Str.ofString ".") = false) (hy : (y == Str.ofString "..") = true) (g : acc.getLast? = some y) : npStep acc c = acc ++ [c] := by
  unfold npStep; rw [if_neg (np_no h0 h1), if_pos (.inr (by rw [g, eq_of_beq hy]))]
theorem np_pop {acc : List Str} {c y : Str} (h0 : (c.length : Int) ≠ 0) (h1 : (c == Str.ofString ".") = false) (h : (c != Str.ofString "..") = false) (hy : (y == Str.ofString "..") = false) (g : acc.getLast? = some y) : npStep acc c = acc.dropLast := by
  unfold npStep; rw [if_neg (np_no h0 h1), if_neg]
  rintro (e | e)
  · exact e (by simpa using h)
  · rw [g] at e; cases e; simp at hy
theorem np_none {acc : List Str} {c : Str} {vs : List Value} (h0 : (c.length : Int) ≠ 0) (h1 : (c == Str.ofString ".") = false) (h : (c != Str.ofString "..") = false) (hv : StrsAre vs acc) (he : vs.toArray.isEmpty = true) : npStep acc c = acc := by
  have : vs = [] := by simpa using he
  subst this
  cases hv
  unfold npStep; rw [if_neg (np_no h0 h1), if_neg]
  · rfl
  · rintro (e | e)
    · exact e (by simpa using h)
    · cases e
theorem normpath0 (w : World) (x : Str) (t : Tok) (hx : Rooted x) : Spec0 w 670 8800 167 [.str x t] (fun _ => True) (fun _ r _ => ∃ t, r = .str (Str.ofString "/" ++ Txt.join (Str.ofString "/") (npNames x)) t) := by
  have hx3 := hx.2.2.1
  have hx4 := hx.2.2.2.1
  have hx5 := hx.2.2.2.2
  unfold Spec0
  k_fill
  intro gd cn cs a ccd cl outer A₀ base h₀ L m s mean mg mb Q E B F X XB T hk _ hret
  refine wpAny_call ?_
  refine hideR fun R9 hR9 => ?_
  replace hret := fun r h' tk' x p => hR9 (.ok (.ret r)) _ (hret r h' tk' x p)
  walk_at "ENTER0"
  intro L' h' F' N' B' X' XB' T' av
  replace F' : Fr _ L' h' (fun y => ([(Str.ofString "path", .str x t)] : List (Str × Value)).lookup y) := F'
  refine tok0 fun tk0 => ?_
  k_steps
  all_goals try (exfalso; omega; done)
  rename StrsAre _ _ => hsa
  rename (List.map _ _ = Txt.split _ _) => hsp
  rw [hsp] at hsa
  rename Fr _ _ _ _ => Fl
  rename News _ _ _ _ => Nl
  refine for_own1 (fun i o => ∃ vs n, o = lobj vs n ∧ StrsAre vs (((Txt.split (Txt.slice x (some 1) none) (Str.ofString "/")).take i).foldl npStep [])) rfl rfl rfl Fl Nl rfl (.inr List.mem_cons_self) ⟨[], 0, rfl, .nil⟩ ?_ ?_
  · intro i v o h tk I oI hv hi F1 N1 off1
    refine hidG fun G_ hG_ => ?_
    obtain ⟨vs, n, rfl, hvs⟩ := hi
    refine hG_ ?_
    clear hG_
    refine hidG fun G_ hG_ => ?_
    obtain ⟨c, tc, rfl, hc⟩ := hsa.item i v hv
    refine hG_ ?_
    clear hG_
    simp only [LCg.Off1, and_true] at off1
    have hvl : vs.length ≤ 10000 := by
      have h1 := hvs.len_eq
      have h2 := len_tot (((Txt.split (Txt.slice x (some 1) none) (Str.ofString "/")).take i).foldl npStep [])
      have h3 := tot_fold ((Txt.split (Txt.slice x (some 1) none) (Str.ofString "/")).take i) []
      have h4 := tot_take (Txt.split (Txt.slice x (some 1) none) (Str.ofString "/")) i
      have h5 : tot [] = 0 := tot_nil
      omega
    have hcl : c.length ≤ 10000 := Nat.le_trans (tot_mem (List.mem_of_getElem? hc)) hx5
    clear Fl Nl
    try dsimp only
    try k_fold
    k_steps
    all_goals (
      (try dsimp only)
      (try dsimp only [TurnPost1])
      refine TurnEnd1.mk (by k_asm) (by k_asm) (fun p hp => hp) (fun y hy => if_neg hy) ⟨_, _, rfl, ?_⟩
      rw [take_step hc]
      first
        | (rw [np_skip1 (by assumption)]; exact hvs)
        | (rw [np_skip2 (by assumption)]; exact hvs)
        | (rw [np_app1 (by assumption) (by assumption) (by assumption)]; exact StrsAre.append' hvs (.cons _ _ .nil))
        | (rw [np_app2 (by assumption) (by assumption) (by assumption) (by assumption)]; exact StrsAre.append' hvs (.cons _ _ .nil))
        | (rw [np_pop (by assumption) (by assumption) (by assumption) (by assumption) (by assumption)]; assumption)
        | (rw [np_none (by assumption) (by assumption) (by assumption) hvs (by assumption)]; exact hvs))
  · intro u o h tk hi F1 N1
    refine hidG fun G_ hG_ => ?_
    obtain ⟨vs, n, rfl, hvs⟩ := hi
    refine hG_ ?_
    clear hG_
    have hlen : (strValues ‹_›).length = (Txt.split (Txt.slice x (some 1) none) (Str.ofString "/")).length := hsa.len_eq
    rw [hlen, List.take_length] at hvs
    have hvs' : StrsAre vs (npNames x) := hvs
    have hl1 : (Str.ofString "/").length = 1 := by decide +kernel
    have hjoin : tot (npNames x) ≤ 10000 := Nat.le_trans (tot_fold _ []) (by have := tot_nil; omega)
    unfold tot at hjoin
    have hj2 := len_join (Str.ofString "/") (npNames x)
    have hadd : (Str.ofString "/").length + (Txt.join (Str.ofString "/") (npNames x)).length ≤ 1000000 := by omega
    have hpos : 0 < (Str.ofString "/" ++ Txt.join (Str.ofString "/") (npNames x)).length := by rw [Str.length_append]; omega
    have hmax : (Str.ofString "/" ++ Txt.join (Str.ofString "/") (npNames x)).length ≤ 1000000 := by rw [Str.length_append]; omega
    have hjoin' : ((npNames x).map (·.length)).sum + (npNames x).length * (Str.ofString "/").length ≤ 16777216 := Nat.le_trans hjoin (by decide)
    clear hvs hjoin hj2
    clear Fl Nl
    try dsimp only
    try k_fold
    k_steps
    all_goals ((try refine leaveX ?_); (try dsimp only); exact hret _ _ _ (Fr.keep (by assumption)) ⟨_, rfl⟩)
end
section
theorem getsep0 (w : World) (x : Str) (t : Tok) : Spec0 w 690 9000 146 [.str x t] (fun _ => True) (fun _ r _ => ∃ t, r = .str (Str.ofString "/") t) := by
  unfold Spec0
  k_fill
  intro gd cn cs a ccd cl outer A₀ base h₀ L m s mean mg mb Q E B F X XB T hk _ hret
  refine wpAny_call ?_
  refine hideR fun R9 hR9 => ?_
  replace hret := fun r h' tk' x p => hR9 (.ok (.ret r)) _ (hret r h' tk' x p)
  walk_at "ENTER0"
  intro L' h' F' N' B' X' XB' T' av
  replace F' : Fr _ L' h' (fun y => ([(Str.ofString "path", .str x t)] : List (Str × Value)).lookup y) := F'
  refine tok0 fun tk0 => ?_
  k_steps
  all_goals ((try refine leaveX ?_); (try dsimp only); exact hret _ _ _ (Fr.keep (by assumption)) ⟨_, rfl⟩)
end
section
local macro_rules | `(tactic| walk_at "call ref") => `(tactic| ((k_dflt (refine' spec_val (fspath0 _ _ _) ?B ?F ?X ?XB ?N ?T ?hk ?hd ?hu ?pre ?_; (walk_at "PREM"); (case pre => trivial))); intro r9 h9 tk9 F9 N9 E9 e9; subst e9))
local macro_rules | `(tactic| walk_at "ENTER0R") => `(tactic| (k_dflt (refine' enter0R ?k1 ?k2 ?k3 ?kX ?k5 ?kA ?kF ?kK ?k6 ?k7 ?k8 ?kV ?kP ?kG ?kB ?_ ?c2 ?c3 ?c4 ?c5; (walk_at "ENT"); (case kV => kl_lit); (case kP => exact rfl); (case kG => exact fun _ => rfl); (case kB => exact fun _ => locs rfl); (case c5 => decide); (case c2 => exact rfl); (case c3 => exact rfl); (case c4 => exact rfl); k_whole)))
local macro_rules | `(tactic| walk_at "exec Try") => `(tactic| (refine wpAny_Try_except ?_; refine noraise ?_))
local macro_rules | `(tactic| walk_at "call ref") => `(tactic| ((k_dflt (refine' spec_val (getsep0 _ _ _) ?B ?F ?X ?XB ?N ?T ?hk ?hd ?hu ?pre ?_; (walk_at "PREM"); (case pre => trivial))); intro r9 h9 tk9 F9 N9 E9 e9; (obtain ⟨t9, e9⟩ := e9); subst e9))
noncomputable def joinR (x y : Str) : Str := if Txt.startswith y (Str.ofString "/") = true then y else if Txt.endswith x (Str.ofString "/") = true then x ++ y else x ++ (Str.ofString "/" ++ y)
theorem joinR1 {x y : Str} (h : Txt.startswith y (Str.ofString "/") = true) : joinR x y = y := if_pos h
theorem joinR2 {x y : Str} (h : Txt.startswith y (Str.ofString "/") = false) (h2 : Txt.endswith x (Str.ofString "/") = true) : joinR x y = x ++ y := by unfold joinR; rw [if_neg (by rw [h]; decide), if_pos h2]
theorem joinR3 {x y : Str} (h : Txt.startswith y (Str.ofString "/") = false) (h2 : Txt.endswith x (Str.ofString "/") = false) : joinR x y = x ++ (Str.ofString "/" ++ y) := by unfold joinR; rw [if_neg (by rw [h]; decide), if_neg (by rw [h2]; decide)]
theorem join0 (w : World) (x y : Str) (t u : Tok) (hx : 0 < x.length) (hx1 : x.length ≤ 1000) (hy : y.length ≤ 1000) : Spec0 w 680 8900 153 [.str x t, .str y u] (fun _ => True)
    (fun _ r _ => ∃ t, r = .str (joinR x y) t) := by
  unfold Spec0
  k_fill
  intro gd cn cs a ccd cl outer A₀ base h₀ L m s mean mg mb Q E B F X XB T hk pre hret
  refine wpAny_call ?_
  refine hideR fun R9 hR9 => ?_
  replace hret := fun r h' tk' x p => hR9 (.ok (.ret r)) _ (hret r h' tk' x p)
  walk_at "ENTER0R"
  intro D g L' h' hsg F' N' B' X' XB' T'
  replace F' : Fr _ L' h' (fun y => ([(Str.ofString "p", .ref D), (Str.ofString "a", .str x t)] : List (Str × Value)).lookup y) := F'
  refine tok0 fun tk0 => ?_
  have hx2 : x.length ≤ 1000000 := by omega
  have hxy : x.length + y.length ≤ 1000000 := by omega
  k_steps
  · (try refine leaveX ?_); (try dsimp only); exact hret _ _ _ (fun b o e => Fr.keep (by assumption) _ _ (hsg _ _ e)) ⟨_, by rw [joinR1 (by assumption)]⟩
  · (try refine leaveX ?_); (try dsimp only); exact hret _ _ _ (fun b o e => Fr.keep (by assumption) _ _ (hsg _ _ e)) ⟨_, by rw [joinR2 (by assumption) (by assumption)]⟩
  · (try refine leaveX ?_); (try dsimp only); exact hret _ _ _ (fun b o e => Fr.keep (by assumption) _ _ (hsg _ _ e)) ⟨_, by rw [joinR3 (by assumption) (by assumption)]⟩
end
section
section
variable {prog : Program} {w : World} {A : Around} {E : Value → Shared → Prop} {s : Shared} {env : Env} {h₀ : Heap} {x : Str} {body : List Stmt} {L : Addr} {m : Str → Option Value} {news : List (Addr × Obj)}
noncomputable abbrev liter (l : Addr) : Obj := { cls := .type "list_iterator", data := .fields #[.ref l, .int 0 0] }
theorem iter_list {l : Addr} {its : Array Value} {Q : Value → Shared → Prop} (F : Fr h₀ L s.heap m) (N : News h₀ L s.heap news) (hl : s.heap.IsList l its)
    (h : ∀ D h', Fr h₀ L h' m → News h₀ L h' ((D, liter l) :: news) → (∀ p ∈ news, p.1 < D) → Q (.ref D) { s with heap := h' }) : wpAny (model prog w) A (call (.builtin "iter") [.ref l]) Q E s := by
  refine call_function_entry (by decide +kernel) (by decide +kernel) kdk_entry_iter (kdk_args_iter _) ?_
  unfold Builtin.«iter»
  refine wpAny_bind (m := someArgs "iter" 1 2 _) (wpAny_of_eq (a := [Value.ref l]) (by first | rfl | kernel_rfl!) ?_)
  show wpAny _ _ (pyIter (.ref l) >>= _) _ _ _
  refine wpAny_bind (wpAny_pyIter_list hl ?_)
  exact wpAny_pure ⟨_, rfl, h _ _ (F.push _) (News.push F N _ rfl) (news_lt N)⟩
variable {Q : Flow → Shared → Prop}
theorem for_it {ax it : Addr} {its : List Value} {n : Nat} {m₀ : Str → Option Value} {oax : Obj} (zs : List Str) (Inv : Nat → (Str → Option Value) → List (Addr × Obj) → Prop)
    (hh : A.handled = none) (hc : oax.cls = .type "list") (hd : oax.data = .seq its.toArray n) (F : Fr h₀ L s.heap m₀) (N : News h₀ L s.heap ((it, liter ax) :: news)) (off : ∀ p ∈ news, p.1 ≠ it) (hL : env.locals = L) (S : Lies1 h₀ ax oax news) (h0 : Inv 0 m₀ news)
    (hS : ∀ i u nw, Inv i u nw → Lies1 h₀ ax oax nw)
    (turn : ∀ i v u nw h tk oI, its[i]? = some v → Inv i u nw → Fr h₀ L h (fun y => if y = x then some v else ovm (zs.map fun z => (z, u z)) m₀ y) → News h₀ L h ((it, oI) :: nw) → (∀ p ∈ nw, p.1 ≠ it) →
      wpAny (model prog w) A (execs body env) (TurnPostX h₀ L x zs m₀ (Inv (i + 1)) it oI { s with heap := h, toks := tk } Q) E { s with heap := h, toks := tk })
    (done : ∀ u nw h tk, Inv its.length u nw → Fr h₀ L h (fun y => if y = x then u x else ovm (zs.map fun z => (z, u z)) m₀ y) → News h₀ L h nw → Q .next { s with heap := h, toks := tk }) :
    wpAny (model prog w) A (pyIter (.ref it)) (fun it s₂ => LoopAtV prog w A h₀ env x body Q E it s₂) E s := by
  have Nr : News h₀ L s.heap news := fun p hp => N p (List.mem_cons_of_mem _ hp)
  have hg := S.get F Nr
  have hit := (N _ List.mem_cons_self)
  have hls : s.heap.IsList ax its.toArray := ⟨_, hg, hc, n, hd⟩
  have hne : ax ≠ it := by
    rintro rfl
    have := hit.1
    rw [hg] at this
    have e := Option.some.inj this
    rw [e] at hc; exact absurd (Value.type.inj hc) (by decide)
  have hli : s.heap.IsListIter it ax 0 := ⟨_, hit.1, rfl, rfl⟩
  refine wpAny_pyIter_listiter hli ?_
  have W := Walks.list (prog := prog) (w := w) hh it ax hne its.toArray
  rw [List.size_toArray] at W
  exact loopX zs Inv W hL hit.2.2 off ⟨hli, hls⟩ F Nr h0 (.head _) (fun i h q => q.1.imp fun o e => e.1) (fp_new S F Nr hS hit.2.1) (fun i v u nw h tk oI _ q => turn i v u nw h tk oI (List.getElem?_toArray ▸ q)) done
end
end
section
noncomputable def lnStep (acc : List Str) (c : Str) : List Str :=
  if c = Str.ofString ".." then acc.dropLast else if c = Str.ofString "" then acc else acc ++ [c]
noncomputable def lnNames (x : Str) : List Str := (Txt.split x (Str.ofString "/")).foldl lnStep []
noncomputable def Short (x : Str) : Prop := x.length ≤ 100 ∧ tot (Txt.split x (Str.ofString "/")) ≤ 10000
theorem ln_step (acc : List Str) (c : Str) : tot (lnStep acc c) ≤ tot acc + tot [c] := by
  unfold lnStep
  split
  · have := tot_dropLast acc; omega
  · split
    · omega
    · rw [tot_append]; exact Nat.le_refl _
theorem ovm1_off {z y : Str} {v : Option Value} {m : Str → Option Value} (h : y ≠ z) : ovm [(z, v)] m y = m y := by
  unfold ovm
  have : (y == z) = false := by simpa using h
  simp only [List.lookup_cons, this, List.lookup_nil]
theorem strs_dropLast {vs : List Value} {ys : List Str} (h : StrsAre vs ys) : StrsAre vs.dropLast ys.dropLast := by
  by_cases e : vs = []
  · subst e; cases h; exact .nil
  · obtain ⟨_, _, _, _, r⟩ := strs_last h e; exact r
theorem ln_up {acc : List Str} {c : Str} (h : (c == Str.ofString "..") = true) : lnStep acc c = acc.dropLast := if_pos (eq_of_beq h)
theorem ln_skip {acc : List Str} {c : Str} (h : (c == Str.ofString "..") = false) (h1 : (c != Str.ofString "") = false) : lnStep acc c = acc := by
  unfold lnStep; rw [if_neg (by simpa using h), if_pos (by simpa using h1)]
theorem ln_app {acc : List Str} {c : Str} (h : (c == Str.ofString "..") = false) (h1 : (c != Str.ofString "") = true) : lnStep acc c = acc ++ [c] := by
  unfold lnStep; rw [if_neg (by simpa using h), if_neg (by simpa using h1)]
theorem off_of {I : Addr} {l : List (Addr × Obj)} (h : LCg.Off1 I l) : ∀ p ∈ l, p.1 ≠ I := by
  induction l with
  | nil => intro p hp; cases hp
  | cons q r ih =>
    intro p hp
    rcases List.mem_cons.mp hp with e | hp
    · rw [e]; exact h.1
    · exact ih h.2 p hp
theorem new_mem {h₀ h : Heap} {L b : Addr} {o : Obj} {r : List (Addr × Obj)} (N : News h₀ L h r) (m : (b, o) ∈ r) : h₀.get? b = none ∧ h.get? b = some o := ⟨(N _ m).2.2, (N _ m).1⟩
theorem TurnEndX.mk1 {h₀ : Heap} {x z : Str} {L : Addr} {m₀ m' : Str → Option Value} {src : Addr × Obj} {P : List Value → Prop} {I : Addr} {oI : Obj} {s₁ : Shared} {h' : Heap} {tk : Nat} {all : List (Addr × Obj)} {a' : Addr} {vs' : List Value} {n' : Nat}
    (F : Fr h₀ L h' m') (N : News h₀ L h' all) (hz : m' z = some (.ref a')) (s1 : (I, oI) ∈ all) (s2 : src ∈ all) (s3 : (a', lobj vs' n') ∈ all) (o1 : @Ne Nat src.1 I) (o2 : @Ne Nat a' I) (hm : ∀ y, y ≠ x → y ≠ z → m' y = m₀ y) (hP : P vs') :
    TurnEndX h₀ L x [z] m₀ (fun u nw => ∃ a vs n, u z = some (.ref a) ∧ nw = [src, (a, lobj vs n)] ∧ P vs) I oI s₁ { s₁ with heap := h', toks := tk } := by
  refine TurnEndX.mk F N [src, (a', lobj vs' n')] ?_ ?_ (fun y h1 h2 => hm y h1 (by simpa using h2)) ⟨_, _, _, hz, rfl, hP⟩
  · intro p hp
    simp only [List.mem_cons, List.not_mem_nil, or_false] at hp
    rcases hp with rfl | rfl | rfl <;> assumption
  · intro p hp
    simp only [List.mem_cons, List.not_mem_nil, or_false] at hp
    rcases hp with rfl | rfl <;> assumption
theorem lawnames0 (w : World) (x : Str) (t : Tok) (hx : Short x) : Spec0 w 670 8800 186 [.str x t] (fun _ => True)
    (fun h r h' => ∃ b o, r = .ref b ∧ h.get? b = none ∧ h'.get? b = some o ∧ ∃ vs n, o = lobj vs n ∧ StrsAre vs (lnNames x)) := by
  have hx3 := hx.1
  have hx5 := hx.2
  unfold Spec0
  k_fill
  intro gd cn cs a ccd cl outer A₀ base h₀ L m s mean mg mb Q E B F X XB T hk _ hret
  refine wpAny_call ?_
  refine hideR fun R9 hR9 => ?_
  replace hret := fun r h' tk' x p => hR9 (.ok (.ret r)) _ (hret r h' tk' x p)
  walk_at "ENTER0"
  intro L' h' F' N' B' X' XB' T' av
  replace F' : Fr _ L' h' (fun y => ([(Str.ofString "text", .str x t)] : List (Str × Value)).lookup y) := F'
  refine tok0 fun tk0 => ?_
  k_steps
  rename StrsAre _ _ => hsa
  rename (List.map _ _ = Txt.split _ _) => hsp
  rw [hsp] at hsa
  rename Fr _ _ _ _ => Fl
  rename News _ _ _ _ => Nl
  refine for_src (oax := { cls := .type "list", data := .seq (strValues _).toArray }) [Str.ofString "names"] (fun i u nw => ∃ a vs n, u (Str.ofString "names") = some (.ref a) ∧ nw = [_, (a, lobj vs n)] ∧ StrsAre vs (((Txt.split x (Str.ofString "/")).take i).foldl lnStep [])) rfl rfl rfl Fl Nl rfl (.inr List.mem_cons_self) ⟨_, [], 0, rfl, rfl, .nil⟩ (fun i u nw ⟨a, vs, n, _, e, _⟩ => .inr (e ▸ List.mem_cons_self)) ?_ ?_
  · intro i v u nw h tk I oI hv hi F1 N1 off1
    refine hidG fun G_ hG_ => ?_
    obtain ⟨a, vs, n, hu, rfl, hvs⟩ := hi
    refine hG_ ?_
    clear hG_
    refine hidG fun G_ hG_ => ?_
    obtain ⟨c, tc, rfl, hc⟩ := hsa.item i v hv
    refine hG_ ?_
    clear hG_
    have off1 := off1_of off1
    simp only [LCg.Off1, and_true] at off1
    simp only [List.map_cons, List.map_nil, hu] at F1
    have hcl : c.length ≤ 10000 := Nat.le_trans (tot_mem (List.mem_of_getElem? hc)) hx5
    have hvl : vs.length ≤ 10000 := tot_takeG ln_step hvs hx5
    clear Fl Nl hx5
    try dsimp only
    try k_fold
    k_steps
    all_goals (
      (try dsimp only)
      (try dsimp only [TurnPostX]))
    · refine' TurnEndX.mk1 (vs' := vs.dropLast) (n' := 0) (by k_asm) (by k_asm) ?hz ?s1 ?s2 ?s3 ?o1 ?o2 ?hm ?v
      case hz => exact rfl
      case s1 => k_mem
      case s2 => k_mem
      case s3 => k_mem
      case o1 => k_ne
      case o2 => k_ne
      case hm => intro y h1 h2; simp only [if_neg h1, if_neg h2, ovm1_off h2]; try rfl
      case v => rw [take_step hc, ln_up (by assumption)]; exact strs_dropLast hvs
    · refine' TurnEndX.mk1 (vs' := vs ++ [.str c tc]) (n' := 0) (by k_asm) (by k_asm) ?hz ?s1 ?s2 ?s3 ?o1 ?o2 ?hm ?v
      case hz => exact rfl
      case s1 => k_mem
      case s2 => k_mem
      case s3 => k_mem
      case o1 => k_ne
      case o2 => k_ne
      case hm => intro y h1 h2; simp only [if_neg h1, if_neg h2, ovm1_off h2]; try rfl
      case v => rw [take_step hc, ln_app (by assumption) (by assumption)]; exact StrsAre.append' hvs (.cons _ _ .nil)
    · refine' TurnEndX.mk1 (vs' := vs) (n' := n) (by k_asm) (by k_asm) ?hz ?s1 ?s2 ?s3 ?o1 ?o2 ?hm ?v
      case hz => exact rfl
      case s1 => k_mem
      case s2 => k_mem
      case s3 => k_mem
      case o1 => k_ne
      case o2 => k_ne
      case hm => intro y h1 h2; simp only [if_neg h1, if_neg h2, ovm1_off h2]; try rfl
      case v => rw [take_step hc, ln_skip (by assumption) (by assumption)]; exact hvs
  · intro u nw h tk hi F1 N1
    refine hidG fun G_ hG_ => ?_
    obtain ⟨a, vs, n, hu, rfl, hvs⟩ := hi
    refine hG_ ?_
    clear hG_
    have hlen : (strValues ‹_›).length = (Txt.split x (Str.ofString "/")).length := hsa.len_eq
    rw [hlen, List.take_length] at hvs
    have hvs' : StrsAre vs (lnNames x) := hvs
    clear hvs
    simp only [List.map_cons, List.map_nil, hu] at F1
    clear Fl Nl
    try dsimp only
    try k_fold
    k_steps
    all_goals ((try refine leaveX ?_); (try dsimp only); exact hret _ _ _ (Fr.keep (by assumption)) ⟨_, _, rfl, (new_mem (by assumption) (List.mem_cons_of_mem _ List.mem_cons_self)).1, (new_mem (by assumption) (List.mem_cons_of_mem _ List.mem_cons_self)).2, _, _, rfl, hvs'⟩)
end
section
local macro_rules | `(tactic| walk_at "compareOp Eq ref ref") => `(tactic| ((with_reducible show wpAny _ _ (compareOp CmpOp.Eq (Value.ref _) (Value.ref _)) _ _ _); k_dflt (refine' txt_eq (by is_list) (by is_list) (by first | assumption | exact strs_take _ (by assumption)) (by first | assumption | exact strs_take _ (by assumption)) (by first | assumption | exact oks_take _ (by assumption)) (by first | assumption | exact oks_take _ (by assumption)) (by units_room) ?_)))
local macro_rules | `(tactic| walk_at "compareOp Eq ref ref") => `(tactic| ((with_reducible show wpAny _ _ (compareOp CmpOp.Eq (Value.ref _) (Value.ref _)) _ _ _); k_dflt (refine' nil_eq (by is_list) (by is_list) (by units_room) ?_)))
local macro_rules | `(tactic| walk_at "subscriptTail Name Name ref int") => `(tactic| ((with_reducible show wpAny _ _ (subscriptTail _ _ (Value.ref _) (Value.int _ _)) _ _ _); k_dflt (refine' item_nat (by is_list) (by assumption) (by assumption) ?_)))
local macro_rules | `(tactic| walk_at "subscriptTail Name Subscript ref int") => `(tactic| ((with_reducible show wpAny _ _ (subscriptTail _ _ (Value.ref _) (Value.int _ _)) _ _ _); k_dflt (refine' item_nat (by is_list) (by assumption) (by assumption) ?_)))
local macro_rules | `(tactic| walk_at "compareOp IsNot ref ref") => `(tactic| ((with_reducible show wpAny _ _ (compareOp CmpOp.IsNot (Value.ref _) (Value.ref _)) _ _ _); k_dflt (refine' isnot_refs (by k_asm) (by assumption) (by assumption) ?_)))
local macro_rules | `(tactic| walk_at "pyIter ref") => `(tactic| (refine Stopped.h ?_))
local macro_rules | `(tactic| walk_at "call ref") => `(tactic| (refine Stopped.h ?_))
section
local macro_rules | `(tactic| walk_at "eval ListComp") => `(tactic| (k_dflt (refine LCg.ListComp_U (F₀ := by k_asm) (by with_unfolding_all rfl) (by decide) (by rfl) (by decide) (by rfl) ?_)))
noncomputable def keptN (rows : List (List Str)) : Nat → List Nat
  | 0 => []
  | k + 1 => if (((keptN rows k).map fun j => rows.getD j []).filter (nearB (rows.getD k []))).length = 0 then keptN rows k ++ [k] else keptN rows k
noncomputable def IdxAre (vs : List Value) (ks : List Nat) : Prop := vs.length = ks.length ∧ ∀ (i : Nat) v k, vs[i]? = some v → ks[i]? = some k → ∃ t, v = .int (k : Int) t
theorem keptN_lt {rows : List (List Str)} : ∀ {n k : Nat}, k ∈ keptN rows n → k < n
  | 0, k, h => by cases h
  | n + 1, k, h => by
    unfold keptN at h
    split at h
    · rcases List.mem_append.mp h with h | h
      · exact Nat.lt_succ_of_lt (keptN_lt h)
      · rw [List.mem_singleton.mp h]; exact Nat.lt_succ_self _
    · exact Nat.lt_succ_of_lt (keptN_lt h)
theorem keptN_len {rows : List (List Str)} : ∀ n, (keptN rows n).length ≤ n
  | 0 => Nat.le_refl _
  | n + 1 => by
    unfold keptN
    have := keptN_len (rows := rows) n
    split
    · rw [List.length_append]; exact Nat.succ_le_succ this
    · omega
theorem rowsV_up {h h' : Heap} {os : List Value} {rs : List (List Str)} (x : RowsV h os rs) (k : ∀ b o, h.get? b = some o → h'.get? b = some o) : RowsV h' os rs :=
  ⟨x.1, fun i v r e e' => let ⟨a, vs, n, e1, e2, e3⟩ := x.2 i v r e e'; ⟨a, vs, n, e1, k _ _ e2, e3⟩⟩
theorem rowsV_snoc {h : Heap} {os : List Value} {rs : List (List Str)} {v : Value} {r : List Str} (x : RowsV h os rs) (y : RowV h v r) : RowsV h (os ++ [v]) (rs ++ [r]) := by
  refine ⟨by simp [x.1], fun i v' r' e e' => ?_⟩
  rcases Nat.lt_or_ge i os.length with hi | hi
  · rw [List.getElem?_append_left hi] at e
    rw [List.getElem?_append_left (x.1 ▸ hi)] at e'
    exact x.2 i v' r' e e'
  · rw [List.getElem?_append_right hi] at e
    rw [List.getElem?_append_right (x.1 ▸ hi)] at e'
    rw [← x.1] at e'
    cases q : i - os.length with
    | zero => rw [q] at e e'; simp at e e'; subst e; subst e'; exact y
    | succ n => rw [q] at e; simp at e
theorem rowsV_nil {h : Heap} : RowsV h [] [] := ⟨rfl, fun i v r e => by simp at e⟩
theorem getD_at {rows : List (List Str)} {k : Nat} (h : k < rows.length) : rows.getD k [] = rows[k] := by simp [List.getD, h]
theorem getD_all {rows : List (List Str)} {P : List Str → Prop} (h : ∀ r ∈ rows, P r) (h0 : P []) (k : Nat) : P (rows.getD k []) := by
  rcases Nat.lt_or_ge k rows.length with hk | hk
  · rw [getD_at hk]; exact h _ (List.getElem_mem hk)
  · rw [List.getD_eq_getElem?_getD, List.getElem?_eq_none hk]; exact h0
theorem map_snoc {α β : Type} {ks : List α} {f : α → β} {q : Nat} (h : q < ks.length) : (ks.take (q + 1)).map f = (ks.take q).map f ++ [f ks[q]] := by
  rw [List.take_add_one, List.getElem?_eq_getElem h, Option.toList_some, List.map_append]; rfl
theorem idx_snoc {vs : List Value} {ks : List Nat} {k : Nat} {t : Tok} (h : IdxAre vs ks) : IdxAre (vs ++ [.int (k : Int) t]) (ks ++ [k]) := by
  refine ⟨by simp [h.1], fun i v k' e e' => ?_⟩
  rcases Nat.lt_or_ge i vs.length with hi | hi
  · rw [List.getElem?_append_left hi] at e
    rw [List.getElem?_append_left (h.1 ▸ hi)] at e'
    exact h.2 i v k' e e'
  · rw [List.getElem?_append_right hi] at e
    rw [List.getElem?_append_right (h.1 ▸ hi)] at e'
    rw [← h.1] at e'
    cases q : i - vs.length with
    | zero => rw [q] at e e'; simp at e e'; subst e; subst e'; exact ⟨t, rfl⟩
    | succ n => rw [q] at e; simp at e
theorem keptN_yes {rows : List (List Str)} {k : Nat} (h : (((keptN rows k).map fun j => rows.getD j []).filter (nearB (rows.getD k []))).length = 0) : keptN rows (k + 1) = keptN rows k ++ [k] := if_pos h
theorem keptN_no {rows : List (List Str)} {k : Nat} (h : ¬ (((keptN rows k).map fun j => rows.getD j []).filter (nearB (rows.getD k []))).length = 0) : keptN rows (k + 1) = keptN rows k := if_neg h
theorem TurnEndX.mk2 {h₀ : Heap} {x : Str} {L : Addr} {m₀ m' : Str → Option Value} {J : (Str → Option Value) → List (Addr × Obj) → Prop} {I : Addr} {oI : Obj} {s₁ : Shared} {h' : Heap} {tk : Nat} {all : List (Addr × Obj)} {p1 p2 : Addr × Obj}
    (F : Fr h₀ L h' m') (N : News h₀ L h' all) (s0 : (I, oI) ∈ all) (s1 : p1 ∈ all) (s2 : p2 ∈ all) (o1 : @Ne Nat p1.1 I) (o2 : @Ne Nat p2.1 I) (hm : ∀ y, y ≠ x → m' y = m₀ y) (hJ : J m' [p1, p2]) :
    TurnEndX h₀ L x [] m₀ J I oI s₁ { s₁ with heap := h', toks := tk } := by
  refine TurnEndX.mk F N [p1, p2] ?_ ?_ (fun y h1 _ => hm y h1) hJ
  · intro p hp
    simp only [List.mem_cons, List.not_mem_nil, or_false] at hp
    rcases hp with rfl | rfl | rfl <;> assumption
  · intro p hp
    simp only [List.mem_cons, List.not_mem_nil, or_false] at hp
    rcases hp with rfl | rfl <;> assumption
theorem lawkept0 (w : World) (oa : Addr) (rows : List (List Str)) (hrs : rows.length ≤ 100) (hrr : ∀ r ∈ rows, r.length ≤ 100) (hoks : ∀ r ∈ rows, OkS r) : Spec0 w 670 8800 196 [.ref oa]
    (fun h => ∃ os n, h.get? oa = some (lobj os n) ∧ RowsV h os rows)
    (fun h r h' => ∃ b o, r = .ref b ∧ h.get? b = none ∧ h'.get? b = some o ∧ ∃ vs n, o = lobj vs n ∧ IdxAre vs (keptN rows rows.length)) := by
  unfold Spec0
  k_fill
  intro gd cn cs a ccd cl outer A₀ base h₀ L m s mean mg mb Q E B F X XB T hk pre hret
  refine hidG fun G_ hG_ => ?_
  obtain ⟨os, no, go, hos⟩ := pre
  refine hG_ ?_
  clear hG_
  refine wpAny_call ?_
  refine hideR fun R9 hR9 => ?_
  replace hret := fun r h' tk' x p => hR9 (.ok (.ret r)) _ (hret r h' tk' x p)
  walk_at "ENTER0C"
  intro L' h' tk cells F' N' Y B' X' XB' T'
  replace F' : Fr _ L' h' (fun _ => none) := F'
  k_cells Y
  have hl : s.heap.IsList oa os.toArray := ⟨_, go, rfl, no, rfl⟩
  have hzo : os.length ≤ 100000 := by rw [hos.1]; omega
  k_steps
  rename Fr _ _ _ _ => Fl
  rename News _ _ _ _ => Nl
  rename IsRange _ _ _ _ _ _ _ _ => hR
  refine ⟨for_rng [] (fun i u nw => ∃ vs n, nw = [(_, lobj vs n), _] ∧ IdxAre vs (keptN rows i)) rfl hR (rng_small hzo) (rng_size _) Fl Nl rfl ⟨[], 0, rfl, rfl, by intro i v k h; simp at h⟩ ?_ ?_⟩
  · intro i t u nw h tk I oI hi ip9_ F1 N1 off1
    refine hidG fun G_ hG_ => ?_
    obtain ⟨vs, n, enw, hvs⟩ := ip9_
    refine hG_ ?_
    clear hG_
    subst enw
    have off1 := off1_of off1
    simp only [LCg.Off1, and_true] at off1
    obtain ⟨mm1, mm2⟩ := off1
    rw [Int.zero_add] at F1
    have hi' : i < rows.length := by rw [← hos.1]; exact hi
    have hoi := List.getElem?_eq_getElem hi
    refine hidG fun G_ hG_ => ?_
    obtain ⟨ri, rv, rn, ev, gri, hrv⟩ := hos.2 i _ _ hoi (List.getElem?_eq_getElem hi')
    refine hG_ ?_
    clear hG_
    rw [ev] at hoi
    have hzv : vs.length ≤ 100000 := by rw [hvs.1]; have := keptN_len (rows := rows) i; omega
    clear Fl Nl hR
    try dsimp only
    try k_fold
    k_steps
    rename Fr _ _ _ _ => Fc
    rename News _ _ _ _ => Nc
    refine LCg.CompSrc.ledger (by rfl) (by k_asm) (by k_asm) (List.mem_cons_of_mem _ List.mem_cons_self) (by rw [sizeLine_eq, List.size_toArray]; omega) ?_
    intro g'
    refine rest_ind (fun q ys nw => nw = [_, _, _] ∧ RowsV s.heap ys (((keptN rows i).take q).map fun j => rows.getD j [])) ⟨rfl, rowsV_nil⟩ ?_ ?_
    · intro ys nw ip2_
      refine hidG fun G_ hG_ => ?_
      obtain ⟨enw, hys⟩ := ip2_
      refine hG_ ?_
      clear hG_
      subst enw
      rw [List.size_toArray, hvs.1, List.take_length] at hys
      unfold LCg.FinE
      intro D h' tk' F2 N2 o2
      clear Fc Nc
      simp only [LCg.Off1, and_true] at o2
      try dsimp only
      k_steps
      refine ⟨?_⟩
      have eg := getD_at hi'
      refine' spec_new (lawnear0 w ri D (rows.getD i []) ((keptN rows i).map fun j => rows.getD j []) ?h1 ?h2 ?h3 ?h4 ?h5) ?B ?F ?X ?XB ?N ?T ?hk ?hd ?hu ?pre ?_
      walk_at "PREM"
      case h1 => exact getD_all hrr (Nat.zero_le _) i
      case h2 => rw [List.length_map]; have := keptN_len (rows := rows) i; omega
      case h3 => intro r hr; obtain ⟨j, _, rfl⟩ := List.mem_map.mp hr; exact getD_all hrr (Nat.zero_le _) j
      case h4 => exact getD_all hoks (fun y hy => nomatch hy) i
      case h5 => intro r hr; obtain ⟨j, _, rfl⟩ := List.mem_map.mp hr; exact getD_all hoks (fun y hy => nomatch hy) j
      case pre => exact ⟨⟨rv, rn, F2.keep _ _ gri, by rw [eg]; exact hrv⟩, ys, _, (N2 _ List.mem_cons_self).1, rowsV_up hys F2.keep⟩
      intro b9 o9 h9 tk9 F9 N9 E9 off9 ip8_
      refine hidG fun G_ hG_ => ?_
      obtain ⟨vs9, n9, e9, hl9⟩ := ip8_
      refine hG_ ?_
      clear hG_
      subst e9
      simp only [LCg.Off1, and_true] at off9
      refine hidG fun G_ hG_ => ?_
      obtain ⟨mn1, mn2, mn3, mn4⟩ := off9
      refine hG_ ?_
      clear hG_
      clear F2 N2
      try dsimp only
      try k_fold
      k_steps
      all_goals ((try dsimp only); (try dsimp only [TurnPostX]))
      · refine' TurnEndX.mk2 ?F ?N ?s0 ?s1 ?s2 ?o1 ?o2 ?hm ⟨vs ++ [_], n + 1, rfl, ?v⟩
        case F => k_asm
        case N => k_asm
        case s0 => k_mem
        case s1 => k_mem
        case s2 => k_mem
        case o1 => first | exact mm1 | exact mm2 | exact mm1.symm | exact mm2.symm | k_ne
        case o2 => first | exact mm2 | exact mm1 | exact mm1.symm | exact mm2.symm | k_ne
        case hm => exact fun y hy => if_neg hy
        case v => rw [keptN_yes (by rw [← hl9]; assumption)]; exact idx_snoc hvs
      · refine' TurnEndX.mk2 ?F ?N ?s0 ?s1 ?s2 ?o1 ?o2 ?hm ⟨vs, n, rfl, ?v⟩
        case F => k_asm
        case N => k_asm
        case s0 => k_mem
        case s1 => k_mem
        case s2 => k_mem
        case o1 => first | exact mm1 | exact mm2 | exact mm1.symm | exact mm2.symm | k_ne
        case o2 => first | exact mm2 | exact mm1 | exact mm1.symm | exact mm2.symm | k_ne
        case hm => exact fun y hy => if_neg hy
        case v => rw [keptN_no (by rw [← hl9]; assumption)]; exact hvs
    · intro q ys nw v I2 oI2 C oC D m₂ h' tk' E' hq ip14_ hv hC hx2 F2 N2 off2 ne2
      refine hidG fun G_ hG_ => ?_
      obtain ⟨enw, hys⟩ := ip14_
      refine hG_ ?_
      clear hG_
      subst enw
      have hv' : vs[q]? = some v := by simpa using hv
      have hq' : q < (keptN rows i).length := by rw [← hvs.1]; simpa using hq
      obtain ⟨tv, rfl⟩ := hvs.2 q v _ hv' (List.getElem?_eq_getElem hq')
      have hk2 : (keptN rows i)[q] < i := keptN_lt (List.getElem_mem hq')
      have hk3 : (keptN rows i)[q] < os.length := Nat.lt_trans hk2 hi
      have hok := List.getElem?_eq_getElem hk3
      have hrow := hos.2 _ _ _ hok (List.getElem?_eq_getElem (hos.1 ▸ hk3))
      clear Fc Nc
      try dsimp only
      k_steps
      refine LCg.CompEnd.intro (by k_asm) (by k_asm) [_, _, _] (by lcg_sub) off2 (by lcg_src) ⟨rfl, ?_⟩
      rw [map_snoc hq', getD_at (Nat.lt_trans hk2 hi')]
      exact rowsV_snoc hys hrow
  · intro u nw h tk ip4_ F1 N1
    refine hidG fun G_ hG_ => ?_
    obtain ⟨vs, n, enw, hvs⟩ := ip4_
    refine hG_ ?_
    clear hG_
    subst enw
    rw [hos.1] at hvs
    clear Fl Nl
    try dsimp only
    try k_fold
    k_steps
    all_goals ((try refine leaveX ?_); (try dsimp only); exact hret _ _ _ (Fr.keep (by assumption)) ⟨_, _, rfl, (new_head (by assumption)).1, (new_head (by assumption)).2, _, _, rfl, hvs⟩)
end
section
local macro_rules | `(tactic| walk_at "ZZ") => `(tactic| skip)
local macro_rules | `(tactic| walk_at "eval ListComp") => `(tactic| (k_dflt (refine LCt.ListComp_T (F₀ := by k_asm) (by with_unfolding_all rfl) (by decide) (by rfl) (by decide) (by rfl) ?_)))
noncomputable def aloneN (others : List (List Str)) (row : List Str) : Bool := (others.filter (nearB row)).length != 1
noncomputable def aloneB (rows others : List (List Str)) : Bool := decide ((rows.filter (aloneN others)).length = 0)
theorem filt_step1 {α : Type} {p : α → Bool} {rows : List α} {i : Nat} (hi : i < rows.length) (h : p rows[i] = true) : ((rows.take (i + 1)).filter p).length = ((rows.take i).filter p).length + 1 := by
  rw [List.take_add_one, List.getElem?_eq_getElem hi, List.filter_append, List.length_append]
  simp [h]
theorem filt_step0 {α : Type} {p : α → Bool} {rows : List α} {i : Nat} (hi : i < rows.length) (h : p rows[i] = false) : ((rows.take (i + 1)).filter p).length = ((rows.take i).filter p).length := by
  rw [List.take_add_one, List.getElem?_eq_getElem hi, List.filter_append, List.length_append]
  simp [h]
theorem lawalone0 (w : World) (ra oa : Addr) (rows others : List (List Str)) (hrs : rows.length ≤ 100) (hos : others.length ≤ 100) (hrr : ∀ r ∈ rows, r.length ≤ 100) (hor : ∀ r ∈ others, r.length ≤ 100) (hrk : ∀ r ∈ rows, OkS r) (hok : ∀ r ∈ others, OkS r) : Spec0 w 670 8800 206 [.ref ra, .ref oa]
    (fun h => (∃ os n, h.get? ra = some (lobj os n) ∧ RowsV h os rows) ∧ ∃ os n, h.get? oa = some (lobj os n) ∧ RowsV h os others)
    (fun _ r _ => r = .bool (aloneB rows others)) := by
  unfold Spec0
  k_fill
  intro gd cn cs a ccd cl outer A₀ base h₀ L m s mean mg mb Q E B F X XB T hk pre hret
  refine hidG fun G_ hG_ => ?_
  obtain ⟨⟨rs, nr, gr, hrsV⟩, os, no, go, hosV⟩ := pre
  refine hG_ ?_
  clear hG_
  refine wpAny_call ?_
  refine hideR fun R9 hR9 => ?_
  replace hret := fun r h' tk' x p => hR9 (.ok (.ret r)) _ (hret r h' tk' x p)
  walk_at "ENTER0C"
  intro L' h' tk cells F' N' Y B' X' XB' T'
  replace F' : Fr _ L' h' (fun y => if y = Str.ofString "rows" then some (.ref ra) else none) := F'
  k_cells Y
  have hl : s.heap.IsList ra rs.toArray := ⟨_, gr, rfl, nr, rfl⟩
  have hlo : s.heap.IsList oa os.toArray := ⟨_, go, rfl, no, rfl⟩
  have hzr : rs.length ≤ 100000 := by rw [hrsV.1]; omega
  k_steps
  refine LCt.CompSrcT.base (by rfl) (by k_asm) (by k_asm) hl (by rw [sizeLine_eq, List.size_toArray]; omega) ?_
  intro g'
  refine restT_ind (fun q ys nw => nw = [_] ∧ ys.length = ((rows.take q).filter (aloneN others)).length) ⟨rfl, rfl⟩ ?_ ?_
  · intro ys nw ip2_
    refine hidG fun G_ hG_ => ?_
    obtain ⟨enw, hy⟩ := ip2_
    refine hG_ ?_
    clear hG_
    subst enw
    rw [List.size_toArray, hrsV.1, List.take_length] at hy
    unfold LCg.FinE
    intro D h tk F1 N1 o1
    clear F' N'
    try dsimp only
    k_steps
    all_goals ((try refine leaveX ?_); (try dsimp only); exact hret _ _ _ (Fr.keep (by assumption)) (by show Value.bool _ = Value.bool _; unfold aloneB; rw [hy]))
  · intro q ys nw v I oI C oC D m₂ h tk E' hq ip14_ hv hC hx F1 N1 off1 ne1
    refine hidG fun G_ hG_ => ?_
    obtain ⟨enw, hy⟩ := ip14_
    refine hG_ ?_
    clear hG_
    subst enw
    have hv' : rs[q]? = some v := by simpa using hv
    have hq' : q < rows.length := by rw [← hrsV.1]; simpa using hq
    refine hidG fun G_ hG_ => ?_
    obtain ⟨ri, rv, rn, rfl, gri, hrv⟩ := hrsV.2 q v _ hv' (List.getElem?_eq_getElem hq')
    refine hG_ ?_
    clear hG_
    clear F' N'
    k_steps
    refine ⟨?_⟩
    rename Fr _ _ _ _ => F2
    rename News _ _ _ _ => N2
    refine' spec_new (lawnear0 w ri oa rows[q] others ?h1 ?h2 ?h3 ?h4 ?h5) ?B ?F ?X ?XB ?N ?T ?hk ?hd ?hu ?pre ?_
    walk_at "PREM"
    case h1 => exact hrr _ (List.getElem_mem hq')
    case h2 => exact hos
    case h3 => exact hor
    case h4 => exact hrk _ (List.getElem_mem hq')
    case h5 => exact hok
    case pre => exact ⟨⟨rv, rn, F2.keep _ _ gri, hrv⟩, os, _, F2.keep _ _ go, rowsV_up hosV F2.keep⟩
    intro b9 o9 h9 tk9 F9 N9 E9 off9 ip8_
    refine hidG fun G_ hG_ => ?_
    obtain ⟨vs9, n9, e9, hl9⟩ := ip8_
    refine hG_ ?_
    clear hG_
    subst e9
    have hz9 : vs9.length ≤ 100000 := by rw [hl9]; exact Nat.le_trans (List.length_filter_le _ _) (by omega)
    clear F2 N2
    try dsimp only
    try k_fold
    k_steps
    · refine LCg.CompEnd.intro (by k_asm) (by k_asm) [_] (by lcg_sub) off1 (.inl hl) ⟨rfl, ?_⟩
      have hne : (vs9.length : Int) ≠ 1 := by assumption
      have hal : aloneN others rows[q] = true := by unfold aloneN; rw [← hl9]; simp; omega
      rw [filt_step1 hq' hal, List.length_append, hy]; rfl
    · refine LCg.CompEnd.intro (by k_asm) (by k_asm) [_] (by lcg_sub) off1 (.inl hl) ⟨rfl, ?_⟩
      have hne : (vs9.length : Int) = 1 := by assumption
      have hal : aloneN others rows[q] = false := by unfold aloneN; rw [← hl9]; simp; omega
      rw [filt_step0 hq' hal, hy]
end
section
local macro_rules | `(tactic| walk_at "ZZ") => `(tactic| skip)
local macro_rules | `(tactic| walk_at "eval ListComp") => `(tactic| (k_dflt (refine LCt.ListComp_T (F₀ := by k_asm) (by with_unfolding_all rfl) (by decide) (by rfl) (by decide) (by rfl) ?_)))
local macro_rules | `(tactic| walk_at "CompSrcT") => `(tactic| (refine Stopped.h ?_))
noncomputable abbrev refs (as : List Addr) : List Value := as.map .ref
theorem refs_get {as : List Addr} {i : Nat} (h : i < as.length) : (refs as)[i]? = some (.ref as[i]) := by simp [refs, h]
noncomputable def veryN (ts ks : List Addr) (idx : List Nat) (k : Nat) : Bool := decide (ts.getD k 0 ≠ ks.getD (idx.getD k 0) 0)
theorem very_iff {ts ks : List Addr} {idx : List Nat} (h : ts.length = idx.length) : (((List.range idx.length).filter (veryN ts ks idx)).length = 0) ↔ (ts = idx.map fun i => ks.getD i 0) := by
  rw [List.length_eq_zero_iff, List.filter_eq_nil_iff]
  constructor
  · intro z
    apply List.ext_getElem (by simpa using h)
    intro k hk hk'
    have hk2 : k < idx.length := h ▸ hk
    have := z k (List.mem_range.mpr hk2)
    simp [veryN, hk, hk2] at this
    simp [this]
  · intro e k hk
    have hk2 := List.mem_range.mp hk
    have hk1 : k < ts.length := h ▸ hk2
    have e1 : ts[k]? = (idx.map fun i => ks.getD i 0)[k]? := congrArg (fun l => l[k]?) e
    rw [List.getElem?_eq_getElem hk1, List.getElem?_map, List.getElem?_eq_getElem hk2] at e1
    simp at e1
    simp [veryN, hk1, hk2, e1]
theorem rfilt1 {p : Nat → Bool} {i : Nat} (h : p i = true) : ((List.range (i + 1)).filter p).length = ((List.range i).filter p).length + 1 := by
  rw [List.range_succ, List.filter_append, List.length_append]; simp [h]
theorem rfilt0 {p : Nat → Bool} {i : Nat} (h : p i = false) : ((List.range (i + 1)).filter p).length = ((List.range i).filter p).length := by
  rw [List.range_succ, List.filter_append, List.length_append]; simp [h]
theorem lawvery0 (w : World) (ta ka pa : Addr) (ts ks : List Addr) (idx : List Nat) (h1 : ts.length ≤ 100) (h2 : ks.length ≤ 100) (h3 : idx.length ≤ 100) (h4 : ∀ i ∈ idx, i < ks.length) : Spec0 w 690 9000 201 [.ref ta, .ref ka, .ref pa]
    (fun h => (∃ n, h.get? ta = some (lobj (refs ts) n)) ∧ (∃ n, h.get? ka = some (lobj (refs ks) n)) ∧ (∃ ps n, h.get? pa = some (lobj ps n) ∧ IdxAre ps idx) ∧ (∀ x ∈ ts, NotTup h x) ∧ ∀ x ∈ ks, NotTup h x)
    (fun _ r _ => r = .bool (decide (ts = idx.map fun i => ks.getD i 0))) := by
  unfold Spec0
  k_fill
  intro gd cn cs a ccd cl outer A₀ base h₀ L m s mean mg mb Q E B F X XB T hk pre hret
  refine hidG fun G_ hG_ => ?_
  obtain ⟨⟨tn, gt⟩, ⟨kn, gk⟩, ⟨ps, pn, gp, hps⟩, ntt, ntk⟩ := pre
  refine hG_ ?_
  clear hG_
  refine wpAny_call ?_
  refine hideR fun R9 hR9 => ?_
  replace hret := fun r h' tk' x p => hR9 (.ok (.ret r)) _ (hret r h' tk' x p)
  walk_at "ENTER0C"
  intro L' h' tk cells F' N' Y B' X' XB' T'
  replace F' : Fr _ L' h' (fun _ => none) := F'
  k_cells Y
  have hlt : s.heap.IsList ta (refs ts).toArray := ⟨_, gt, rfl, _, rfl⟩
  have hlk : s.heap.IsList ka (refs ks).toArray := ⟨_, gk, rfl, _, rfl⟩
  have hlp : s.heap.IsList pa ps.toArray := ⟨_, gp, rfl, _, rfl⟩
  have hzt : (refs ts).length ≤ 100000 := by simp [refs]; omega
  have hzk : (refs ks).length ≤ 100000 := by simp [refs]; omega
  have hzp : ps.length ≤ 100000 := by rw [hps.1]; omega
  k_steps
  · rename Fr _ _ _ _ => Fl
    rename News _ _ _ _ => Nl
    rename IsRange _ _ _ _ _ _ _ _ => hR
    have hlen : ((refs ts).length : Int) = ps.length := by assumption
    have hlen2 : ts.length = idx.length := by simp [refs, hps.1] at hlen; omega
    refine ⟨LCt.CompSrcT.range (by rfl) Fl Nl hR (rng_small hzp) (rng_size _) (by rw [sizeLine_eq]; omega) ?_⟩
    intro g'
    refine restT_ind (fun q ys nw => nw = [_, _, _] ∧ ys.length = ((List.range q).filter (veryN ts ks idx)).length) ⟨rfl, rfl⟩ ?_ ?_
    · intro ys nw ip2_
      refine hidG fun G_ hG_ => ?_
      obtain ⟨enw, hy⟩ := ip2_
      refine hG_ ?_
      clear hG_
      subst enw
      rw [hps.1] at hy
      unfold LCg.FinE
      intro D h tk F1 N1 o1
      clear Fl Nl hR
      try dsimp only
      k_steps
      all_goals ((try refine leaveX ?_); (try dsimp only); exact hret _ _ _ (Fr.keep (by assumption)) (by show Value.bool _ = Value.bool _; rw [hy]; exact congrArg _ (decide_eq_decide.mpr (very_iff hlen2))))
    · intro q ys nw v I oI C oC D m₂ h tk E' hq ip14_ hv hC hx F1 N1 off1 ne1
      refine hidG fun G_ hG_ => ?_
      obtain ⟨enw, hy⟩ := ip14_
      refine hG_ ?_
      clear hG_
      subst enw
      obtain ⟨tv, rfl⟩ := hv
      rw [Int.zero_add] at hx
      have hqi : q < idx.length := hps.1 ▸ hq
      have hqt : q < ts.length := hlen2 ▸ hqi
      have e1 := refs_get hqt
      obtain ⟨tp, e2⟩ := hps.2 q _ _ (List.getElem?_eq_getElem hq) (List.getElem?_eq_getElem hqi)
      have e2' := List.getElem?_eq_getElem hq
      rw [e2] at e2'
      have hk4 := h4 _ (List.getElem_mem hqi)
      have e3 := refs_get hk4
      have n1 := ntt _ (List.getElem_mem hqt)
      have n2 := ntk _ (List.getElem_mem hk4)
      clear Fl Nl hR
      k_steps
      · refine LCg.CompEnd.intro (by k_asm) (by k_asm) [_, _, _] (by lcg_sub) off1 trivial ⟨rfl, ?_⟩
        have hne : ts[q] ≠ ks[idx[q]] := by assumption
        have hv : veryN ts ks idx q = true := by unfold veryN; simp [hqt, hqi, hk4, hne]
        rw [rfilt1 hv, List.length_append, hy]; rfl
      · refine LCg.CompEnd.intro (by k_asm) (by k_asm) [_, _, _] (by lcg_sub) off1 trivial ⟨rfl, ?_⟩
        have hne : ¬ ts[q] ≠ ks[idx[q]] := by assumption
        have hv : veryN ts ks idx q = false := by unfold veryN; simpa [hqt, hqi, hk4] using hne
        rw [rfilt0 hv, hy]
  · (try refine leaveX ?_)
    try dsimp only
    have hlen : ((refs ts).length : Int) ≠ ps.length := by assumption
    have hlen2 : ts.length ≠ idx.length := by simp [refs, hps.1] at hlen; omega
    refine hret _ _ _ (Fr.keep (by assumption)) ?_
    show Value.bool _ = Value.bool _
    congr 1
    rw [decide_eq_false (fun e => hlen2 (by rw [e, List.length_map]))]
    simpa using hlen
end
section
local macro_rules | `(tactic| walk_at "exec ClassDef") => `(tactic| (refine Stopped.h ?_))
theorem classDef_y {M : Model} {A : Around} {E : Value → Shared → Prop} {s : Shared} {name bind : Str} {b : Expr} {body body2 : List Stmt} {scope scope2 : Scope} {x1 : Option Scope} {statics : List Str} {pos : Pos} {env : Env} {mb : Str → Option Value} {Q : Flow → Shared → Prop}
    {qual2 : Str} {n2 : Nat} (hB : body = body2) (hS : scope = scope2) (hQ : qualnameIn env name bind = qual2) (hN : firstLineOf [] pos = n2) (hb : s.heap.Ns env.builtins mb) (hbc : mb (Str.ofString "__build_class__") = some (.builtin "__build_class__"))
    (hstar : starEach [b] env = (false, eval b env) :: [])
    (h : wpAny M A (eval b env) (fun v s1 => wpAny M A (buildClass name qual2 [v] [] body2 scope2 statics n2 env pos none) (fun c s2 => wpAny M A (storeName env bind c) (fun _ s3 => Q .next s3) E s2) E s1) E s) :
    wpAny M A (exec (.ClassDef name [b] [] body [] [] scope x1 bind statics pos) env) Q E s := by subst hB; subst hS; subst hQ; subst hN; exact classDef_x hb hbc hstar h
noncomputable def vnLaw : Value := .str (Str.ofString "law_ik0192_01") 412
theorem cmpkey0 (w : World) (la : Addr) (gd : Option (List Code)) (cn : Str) (cs : Scope) (a : Addr) (ccd : Value) (cl : List (Str × Addr)) (outer : List Env) (A₀ : Around) (base h₀ : Heap) (L : Addr) (m : Str → Option Value) (s : Shared)
    (mean : ExcName → Option Value) (mg mb : Str → Option Value) (Q E : Value → Shared → Prop)
    (B : Below A₀ base outer h₀) (F : Fr h₀ L s.heap m) (X : (Mine.hd.heap_1 w.params).In h₀) (XB : KBIn w h₀) (T : Top topProg LSG mean mg mb h₀) (hk : cs.kind = .function) (g45 : s.heap.get? 45 = some (tabObj #[])) (f45 : h₀.get? 45 = none)
    (hret : ∀ k h' tk', (∀ b o, b ≠ 45 → s.heap.get? b = some o → h'.get? b = some o) → (∃ ps, h'.get? 45 = some (tabObj ps)) → s.heap.get? k = none →
      (∃ cm, ∀ g', (∀ b o, s.heap.get? b = none → h'.get? b = some o → g'.get? b = some o) → KAt w vnLaw cm k g' ∧ ∃ oc, g'.get? cm = some oc ∧ oc.data = .cell (some (.ref la))) → Q (.ref k) { s with heap := h', toks := tk' }) :
    wpAny (model PySem.Challenge.rw_ik0192_01.prog w) (ktrTop 580 7800 gd cn cs L a ccd cl outer) (call (.ref 50) [.ref la]) Q E s := by
  revert X
  k_fill
  intro X
  refine wpAny_call ?_
  walk_at "ENTER0C"
  intro L' h' tk cells F' N' Y B' X' XB' T'
  replace F' : Fr _ L' h' (fun _ => none) := F'
  k_cells Y
  k_steps
  refine ⟨?_⟩
  rename Fr _ _ _ _ => F1
  rename News _ _ _ _ => N1
  refine' classDef_y (body2 := clsBody w.params) (scope2 := clsScope w.params) (qual2 := Str.ofString "cmp_to_key.<locals>.K") (n2 := 31) (mb := mb) ?hB ?hS ?hQ ?hN ?hb ?hbc ?hstar ?_
  case hB => kernel_rfl
  case hS => kernel_rfl
  case hQ => kernel_rfl
  case hN => rfl
  case hb => exact T'.b.keeps F1.keep
  case hbc => rw [T'.builtins _ (by decide +kernel)]; kernel_rfl
  case hstar => rfl
  k_steps
  rename Fr _ _ _ _ => F2
  rename News _ _ _ _ => N2
  have hkk : ∀ b o, s.heap.get? b = some o → h'.get? b = some o := F2.keep
  have hbm : h'.BuiltinsAt mg 45 := by
    refine hidG fun G_ hG_ => ?_
    obtain ⟨bm, ob, b1, b2, b3, b4, r⟩ := T'.bmain
    refine hG_ ?_
    clear hG_
    refine ⟨bm, ob, b1, b2, ?_, ?_, F2.keep _ _ b3, b4, r⟩
    · intro q
      refine hidG fun G_ hG_ => ?_
      obtain ⟨o, es, ep, e, hd, _⟩ := T'.g
      refine hG_ ?_
      clear hG_
      rw [q, e] at b3; cases b3; rw [hd] at r; exact absurd r.2 (by simp)
    · intro q
      rw [q, g45] at b3; cases b3; cases b4
  have hvn : mg (Str.ofString "__name__") = some vnLaw := mg_of X T.g (by kernel_rfl)
  refine bcK w _ rfl (Nat.le_of_ble_eq_true rfl) (Nat.le_of_ble_eq_true rfl) h' _ _ _ _ (Frag.In.keeps XB' F2.keep) (F2.keep _ _ (X' 49 _ (o49s.2 _))) mg (T'.g.keeps F2.keep) hbm vnLaw hvn (T'.nolimit.keeps F2.keep) (F2.keep _ _ g45) L' _ _ _ fun k h2 tk2 keep g45' fk hK => ?_
  have hL45 : L' ≠ 45 := Nat.ne_of_gt (Nat.lt_of_lt_of_le (Heap.lt_size g45) F2.above)
  have F3 : Fr (hideAll s.heap [45]) L' h2 _ := ⟨F2.ns.extBut keep hL45, fun b o e => keep b o (fun q => by rw [q, hideAll_none _ (.head _)] at e; cases e) (F2.keep _ _ (of_hideAll _ e)), Nat.le_trans (Nat.le_of_eq (hideAll_size _ _)) F2.above⟩
  have Nc := N2 _ List.mem_cons_self
  have nc45 : L' + 1 ≠ 45 := fun q => by
    have := Nc.2.2
    rw [q, g45] at this; cases this
  have gcell := keep _ _ nc45 Nc.1
  have fk0 : s.heap.get? k = none := by
    cases q : s.heap.get? k with
    | none => rfl
    | some o => rw [F2.keep _ _ q] at fk; cases fk
  refine hidG fun G_ hG_ => ?_
  obtain ⟨oL', _, _, hgL', _⟩ := id F2.ns
  refine hG_ ?_
  clear hG_
  have nL' : ∀ b o, s.heap.get? b = some o → b ≠ L' := fun b o e q => absurd (Heap.lt_size e) (Nat.not_lt.mpr (q ▸ F2.above))
  have fin : ∀ h3 tk3, (∀ b o, b ≠ L' → h2.get? b = some o → h3.get? b = some o) → Q (.ref k) { s with heap := h3, toks := tk3 } := by
    intro h3 tk3 x
    obtain ⟨ps, g45'⟩ := g45'
    refine hret k h3 tk3 (fun b o q e => x _ _ (nL' _ _ e) (keep b o q (F2.keep _ _ e))) ⟨ps, x _ _ (fun q => hL45 q.symm) g45'⟩ fk0 ⟨L' + 1, fun g' hg' => ⟨hK g' (fun b o q e => hg' b o ?_ (x _ _ (fun z => by rw [z, hgL'] at q; cases q) e)), _, hg' _ _ Nc.2.2 (x _ _ Nc.2.1 gcell), by assumption⟩⟩
    cases q2 : s.heap.get? b with
    | none => rfl
    | some o' => rw [F2.keep _ _ q2] at q; cases q
  clear F2 N2 hK keep hret
  refine wpAny_storeName_local rfl F3.ns (fun h3 hn3 hs3 => ?_) rfl
  have F4 := F3.set hn3 hs3
  have N4 := News.nil (h₀ := hideAll s.heap [45]) (L := L') (h := h3)
  try dsimp only
  k_steps
  exact fin _ _ (fun b o q e => (hs3.2 b q).trans e)
end
section
noncomputable def lawSt (P : Params) (i : Nat) : Stmt := match (Mine.hd.heap_1 P).lookup 211 with
  | some ⟨_, _, .func fd, _⟩ => (match fd.body with
    | .stmts l => l.getD i default
    | _ => default)
  | _ => default
noncomputable def firstArg : Stmt → Expr
  | .Assign _ (.Call _ (e :: _) _ _) _ => e
  | .If (.UnaryOp _ (.Call _ (.Call _ (e :: _) _ _ :: _) _ _) _) _ _ _ => e
  | _ => .Constant .none 0 default
noncomputable def leArgs : Expr → Arguments
  | .Lambda a _ _ _ => a
  | _ => default
noncomputable def leBody : Expr → Expr
  | .Lambda _ b _ _ => b
  | e => e
noncomputable def leScope : Expr → Scope
  | .Lambda _ _ s _ => s
  | _ => default
noncomputable def lam1 (P : Params) : Expr := firstArg (lawSt P 11)
noncomputable def lam2 (P : Params) : Expr := firstArg (lawSt P 16)
noncomputable abbrev lamQ : Str := Str.ofString "law.<locals>." ++ Str.ofString "<lambda>"
noncomputable abbrev lamObj (e : Expr) (clos : List (Str × Addr)) (c : Addr) (ct : Value) : Obj := kla_obj (Str.ofString "<lambda>") lamQ (leArgs e) (leBody e) (leScope e) clos vnLaw c ct
noncomputable def LamAt (e : Expr) (clos : List (Str × Addr)) (la : Addr) (h : Heap) : Prop := ∃ (c : Addr) (ct : Value) (oc : Obj) (vs : Array Value) (t : Tok), h.get? la = some (lamObj e clos c ct) ∧ h.get? c = some oc ∧ oc.data = .fields vs ∧ vs[1]? = some (.str lamQ t)
noncomputable def BesAt (w : World) (cb : Addr) (dom : List Str) (nb : Str → List Str) (h : Heap) : Prop := ∃ (oc : Obj) (d : Addr) (kvs : List (Str × Value)), h.get? cb = some oc ∧ oc.data = .cell (some (.ref d)) ∧ h.DictOf (PySem.strKind PySem.Challenge.rw_ik0192_01.prog w) d kvs ∧
  ∀ p ∈ dom, ∃ l vs n, valueAt kvs p = some (.ref l) ∧ h.get? l = some (lobj vs n) ∧ StrsAre vs (nb p)
theorem dict_at {prog : Program} {w : World} {A : Around} {E : Value → Shared → Prop} {s : Shared} {d : Addr} {kvs : List (Str × Value)} {k : Str} {t : Tok} {v : Value} {value slice : PySem.Expr} {Q : Value → Shared → Prop} (hD : s.heap.DictOf (PySem.strKind prog w) d kvs) (hl : valueAt kvs k = some v) (h : Q v { s with toks := s.toks + 1 })
    (hs : subscripted slice false (.ref d) (.str k t) = operate [.ref d, .str k t] (getItem (.ref d) (.str k t)) := by with_unfolding_all rfl) (hg : ∀ r, letTemporaryGo value (.ref d) r = pure () := by intro _; with_unfolding_all rfl) :
    wpAny (model prog w) A (subscriptTail value slice (.ref d) (.str k t)) Q E s :=
  subscriptTail_builtin hD.typeIs slot_dict_getitem.lookup (wpAny_getItem_of (PySem.strKind_is _ _ _ _) hD.mapOf hl h) hs hg
theorem dict_keeps {prog : Program} {w : World} {h h' : Heap} {d : Addr} {kvs : List (Str × Value)} (D : h.DictOf (PySem.strKind prog w) d kvs) (k : ∀ b o, h.get? b = some o → h'.get? b = some o) : h'.DictOf (PySem.strKind prog w) d kvs := by
  obtain ⟨o, e, r⟩ := Heap.dictOf_iff.mp D
  exact Heap.dictOf_iff.mpr ⟨o, k _ _ e, r⟩
local macro_rules | `(tactic| walk_at "eval Name") => `(tactic| (k_dflt (refine' nameX_FB ?F ?m ?d ?c ?_ ?a ?b; (case a => rfl); (case b => rfl); (case F => k_asm); (case c => rfl); (case m => with_reducible assumption); (case d => with_reducible assumption))))
local macro_rules | `(tactic| walk_at "subscriptTail Name Name ref str") => `(tactic| (k_dflt (refine' dict_at (by exact dict_keeps (by with_reducible assumption) (Fr.keep (by k_asm))) (by with_reducible assumption) ?_)))
local macro_rules | `(tactic| walk_at "compareOp In str ref") => `(tactic| (k_dflt (refine' in_list_strs (by is_list) (by assumption) ?_)))
theorem lam0 (w : World) (la cb : Addr) (dom : List Str) (nb : Str → List Str) (p q : Str) (tp tq : Tok) (hp : p ∈ dom) : Spec0 w 680 8900 la [.str p tp, .str q tq] (fun h => LamAt (lam1 w.params) [(Str.ofString "beside", cb)] la h ∧ BesAt w cb dom nb h)
    (fun h r h' => ∃ i t, r = .int i t ∧ ((nb p).any (· == q) = decide (i = 0))) := by
  unfold Spec0
  k_fill
  intro gd cn cs a ccd cl outer A₀ base h₀ L m s mean mg mb Q E B F X XB T hk pre hret
  obtain ⟨⟨c, ct, oc, vs, t, gla, gc, hd, hv⟩, ob, d, kvs, gcb, hdb, hD, hnb⟩ := pre
  obtain ⟨l, ls, ln, hval, gl, hls⟩ := hnb p hp
  refine wpAny_call ?_
  have hs := (show leScope (lam1 w.params) = leScope (lam1 w.params) from rfl)
  conv at hs => rhs; whnf
  refine enterE (binds := [(Str.ofString "p", .str p tp), (Str.ofString "q", .str q tq)]) B F X XB T rfl rfl hk gla rfl ⟨c, oc, vs, t, rfl, gc, hd, hv⟩ (Nat.le_of_ble_eq_true rfl) ?hb ?hl ?_ ?h1 ?h2 ?h3 ?h4
  case hb => kernel_rfl
  case hl => exact locs (by kernel_rfl)
  case h1 => kernel_rfl
  case h2 => kernel_rfl
  case h3 => kernel_rfl
  case h4 => rw [hs]; decide
  intro L' h' F' N' B' X' XB' T'
  have hb := (show leBody (lam1 w.params) = leBody (lam1 w.params) from rfl)
  conv at hb => rhs; whnf
  rw [hb, hs]
  have hl : s.heap.IsList l ls.toArray := ⟨_, gl, rfl, _, rfl⟩
  clear hb hs hnb gla gc hd hv
  k_steps
  all_goals ((try refine leaveX ?_); (try dsimp only); refine hret _ _ _ (Fr.keep (by assumption)) ⟨_, _, rfl, ?_⟩)
  all_goals (first | (rw [show ((nb p).any (· == q)) = true by assumption]; rfl) | (rw [show ((nb p).any (· == q)) = false by assumption]; rfl))
end
section
noncomputable def lawScope (P : Params) : Scope := match (Mine.hd.heap_1 P).lookup 211 with
  | some ⟨_, _, .func fd, _⟩ => fd.scope
  | _ => default
noncomputable def lawBody (P : Params) : List Stmt := match (Mine.hd.heap_1 P).lookup 211 with
  | some ⟨_, _, .func fd, _⟩ => (match fd.body with
    | .stmts l => l
    | _ => default)
  | _ => default
noncomputable abbrev lcl (cm cr co cb : Addr) : List (Str × Addr) := [(Str.ofString "beside", cb), (Str.ofString "others", co), (Str.ofString "rows", cr), (Str.ofString "made", cm)]
noncomputable abbrev lenv (P : Params) (L fa : Addr) (cd : Value) (cm cr co cb : Addr) : Env := envX (Str.ofString "law") (lawScope P) L fa cd (lcl cm cr co cb)
noncomputable abbrev lawA (P : Params) (gd : Option (List Code)) (L fa : Addr) (cd : Value) (cm cr co cb : Addr) : Around := ktrTop 570 7700 gd (Str.ofString "law") (lawScope P) L fa cd (lcl cm cr co cb) []
theorem law_cells (P : Params) (L : Addr) : cellsFrom (L + 1) (lawScope P).names [] = lcl (L + 1) (L + 2) (L + 3) (L + 4) := by kernel_rfl
theorem law_body (P : Params) : lawBody P = [lawSt P 0, lawSt P 1, lawSt P 2, lawSt P 3, lawSt P 4, lawSt P 5, lawSt P 6, lawSt P 7, lawSt P 8, lawSt P 9, lawSt P 10, lawSt P 11, lawSt P 12, lawSt P 13, lawSt P 14, lawSt P 15, lawSt P 16, lawSt P 17, lawSt P 18] := by kernel_rfl
theorem law_kind (P : Params) : (lawScope P).kind = .function := by kernel_rfl
noncomputable def nrm (x : Str) : Str := Str.ofString "/" ++ Txt.join (Str.ofString "/") (npNames x)
theorem off3_of {I C D : Addr} {l : List (Addr × Obj)} (h : ∀ p ∈ l, p.1 ≠ I ∧ p.1 ≠ C ∧ p.1 ≠ D) : LCg.Off3 I C D l := LCg.Off3.of h
theorem strs_snoc {vs : List Value} {ns : List Str} {x : Str} {t : Tok} (h : StrsAre vs ns) : StrsAre (vs ++ [.str x t]) (ns ++ [x]) := StrsAre.append' h (.cons _ _ .nil)
theorem take_snoc {α : Type} {l : List α} {i : Nat} {x : α} (h : l[i]? = some x) : l.take (i + 1) = l.take i ++ [x] := by rw [List.take_add_one, h, Option.toList_some]
end
section
local macro_rules | `(tactic| walk_at "call builtin:iter") => `(tactic| (k_dflt (refine' iter_list (by k_asm) (by k_asm) (by is_list) ?_); intro D9 h9 F9 N9 l9; (try k_lt l9)))
local macro_rules | `(tactic| walk_at "compareOp Is str ref") => `(tactic| (k_dflt (refine wpAny_is_other rfl (by intro h; cases h) ?_)))
theorem reduceT (w : World) (pa : Addr) (x : Str) (t : Tok) (ps : List Value) (ys : List Str) (hps : StrsAre ps ys) (hB : ∀ i, ((ys.take i).foldl joinR x).length ≤ 1000) (hB1 : ∀ i, 0 < ((ys.take i).foldl joinR x).length) (hy : ∀ y ∈ ys, y.length ≤ 1000) : Spec0 w 670 8800 59 [.ref 153, .ref pa, .str x t] (fun h => ∃ n, h.get? pa = some (lobj ps n))
    (fun _ r _ => ∃ t, r = .str (ys.foldl joinR x) t) := by
  unfold Spec0
  k_fill
  intro gd cn cs a ccd cl outer A₀ base h₀ L m s mean mg mb Q E B F X XB T hk pre hret
  obtain ⟨pn, gp⟩ := pre
  have hl : s.heap.IsList pa ps.toArray := ⟨_, gp, rfl, _, rfl⟩
  refine wpAny_call ?_
  refine hideR fun R9 hR9 => ?_
  replace hret := fun r h' tk' x p => hR9 (.ok (.ret r)) _ (hret r h' tk' x p)
  walk_at "ENTER0"
  intro L' h' F' N' B' X' XB' T' av
  replace F' : Fr _ L' h' (fun y => ([(Str.ofString "initial", .str x t), (Str.ofString "sequence", .ref pa), (Str.ofString "function", .ref 153)] : List (Str × Value)).lookup y) := F'
  refine tok0 fun tk0 => ?_
  k_steps
  rename Fr _ _ _ _ => Fl
  rename News _ _ _ _ => Nl
  refine ⟨for_it (n := pn) [Str.ofString "value"] (fun i u nw => nw = [] ∧ ∃ t, u (Str.ofString "value") = some (.str ((ys.take i).foldl joinR x) t)) rfl rfl rfl Fl Nl (fun p hp => nomatch hp) rfl (.inl gp) ⟨rfl, _, rfl⟩ (fun _ _ _ _ => .inl gp) ?_ ?_⟩
  · intro i v u nw h tk oI hv ip8_ F1 N1 off1
    refine hidG fun G_ hG_ => ?_
    obtain ⟨enw, t1, hu⟩ := ip8_
    refine hG_ ?_
    clear hG_
    subst enw
    refine hidG fun G_ hG_ => ?_
    obtain ⟨c, tc, rfl, hc⟩ := hps.item i v hv
    refine hG_ ?_
    clear hG_
    simp only [List.map_cons, List.map_nil, hu] at F1
    clear Fl Nl
    try dsimp only
    try k_fold
    k_steps
    refine ⟨?_⟩
    refine' spec_val (join0 w ((ys.take i).foldl joinR x) c t1 tc ?h1 ?h2 ?h3) ?B ?F ?X ?XB ?N ?T ?hk ?hd ?hu ?pre ?_
    walk_at "PREM"
    case h1 => exact hB1 i
    case h2 => exact hB i
    case h3 => exact hy c (List.mem_of_getElem? hc)
    case pre => trivial
    intro r9 h9 tk9 F9 N9 E9 ip6_
    refine hidG fun G_ hG_ => ?_
    obtain ⟨t9, e9⟩ := ip6_
    refine hG_ ?_
    clear hG_
    subst e9
    try dsimp only
    try k_fold
    k_steps
    (try dsimp only)
    (try dsimp only [TurnPostX])
    refine TurnEndX.mk (by k_asm) (by k_asm) [] (fun p hp => hp) (fun p hp => nomatch hp) ?hm ⟨rfl, t9, ?hv⟩
    case hm => intro y h1 h2; have h2' : y ≠ Str.ofString "value" := by simpa using h2
               exact (if_neg h2').trans ((if_neg h1).trans (ovm1_off h2'))
    case hv => rw [take_step hc]; rfl
  · intro u nw h tk ip4_ F1 N1
    refine hidG fun G_ hG_ => ?_
    obtain ⟨enw, t1, hu⟩ := ip4_
    refine hG_ ?_
    clear hG_
    subst enw
    simp only [List.map_cons, List.map_nil, hu] at F1
    rw [hps.len_eq, List.take_length] at hu
    clear Fl Nl
    try dsimp only
    try k_fold
    k_steps
    all_goals ((try refine leaveX ?_); (try dsimp only); exact hret _ _ _ (Fr.keep (by assumption)) ⟨t1, by rw [hps.len_eq, List.take_length]⟩)
end
section
section
open PySem.SeqAt PySem.MeetsSeq PySem.MeetsSeq2 PySem.MeetsSeq3 PySem.SeqRoads2
variable {prog : Program} {w : World}
noncomputable def EqUp (prog : Program) (w : World) (A : Around) (P : Heap → Prop) (y x : Value) (b : Bool) : Prop :=
  ∀ (s : Shared) (E : Value → Shared → Prop) (Q : Bool → Shared → Prop), P s.heap → (∀ h' tk, Ext s.heap h' → Q b { s with heap := h', toks := tk }) → wpAny (model prog w) A (eqBool y x) Q E s
theorem contains_loopUp {P : Heap → Prop} (hP : ∀ h h', Ext h h' → P h → P h') (l : Addr) (items : Array Value) (n : Nat) (hl : ∀ h, P h → h.get? l = some { cls := .type "list", data := .seq items n }) (x : Value) (e : Value → Bool) (k : Nat) :
    ∀ i : Nat, items.size - i = k → MeetsIn prog w (Builtin.«list.__contains__.loop» ⟨[.ref l, x, rawInt i], []⟩)
      (fun A R s => P s.heap ∧ (∀ y, y ∈ items → EqUp prog w A.in1 P y x (e y)) ∧ ∀ h' tk, Ext s.heap h' → R (.ok (.ret (.bool ((items.toList.drop i).any e)))) { s with heap := h', toks := tk }) := by
  induction k with
  | zero =>
    intro i hk A R s h
    obtain ⟨hp, g, d, tk, os⟩ := s; obtain ⟨hPs, he, h⟩ := h
    have hl' := hl _ hPs
    wp_walk using wpAny_loadPart' hl'
    have hi : items[((i : Nat) : Int).toNat]? = none := by simp; omega
    have hd : items.toList.drop i = [] := by simp; omega
    rw [hd] at h
    rw [hi]
    wp_walk
    exact h _ _ fun _ _ e => e
  | succ k ih =>
    intro i hk A R s h
    obtain ⟨hp, g, d, tk, os⟩ := s; obtain ⟨hPs, he, h⟩ := h
    have hl' := hl _ hPs
    wp_walk using wpAny_loadPart' hl'
    have hlt : i < items.size := by omega
    have hi : items[((i : Nat) : Int).toNat]? = some items[i] := by simp [hlt]
    have hd : items.toList.drop i = items[i] :: items.toList.drop (i + 1) := by simp [List.drop_eq_getElem_cons, hlt]
    rw [hd, List.any_cons] at h
    rw [hi]
    refine wpAny_bind (he _ (Array.getElem_mem hlt) _ _ _ hPs fun h1 tk1 x1 => ?_)
    cases hb : e items[i] with
    | true =>
      rw [hb] at h
      wp_walk
      exact h _ _ x1
    | false =>
      rw [hb] at h
      have hc : ((i : Int) + 1) = ((i + 1 : Nat) : Int) := by push_cast; rfl
      wp_walk
      rw [hc]
      exact ⟨plainId_quiet plain_contains_loop _, codeAny_builtin entry_contains_loop (by
        rw [Around.under_plainId plain_contains_loop _]
        exact ih (i + 1) (sub_st (by assumption)) A R _ ⟨hP _ _ x1 hPs, he, fun h2 tk2 x2 => by simpa using h h2 tk2 (fun b o e => x2 b o (x1 b o e))⟩)⟩
theorem list_containsUp {P : Heap → Prop} (hP : ∀ h h', Ext h h' → P h → P h') (l : Addr) (items : Array Value) (n : Nat) (hl : ∀ h, P h → h.get? l = some { cls := .type "list", data := .seq items n }) (x : Value) (e : Value → Bool) :
    MeetsIn prog w (Builtin.«list.__contains__» ⟨[.ref l, x], []⟩)
      (fun A R s => P s.heap ∧ (∀ y, y ∈ items → EqUp prog w A.in1 P y x (e y)) ∧ ∀ h' tk, Ext s.heap h' → R (.ok (.ret (.bool (items.any e)))) { s with heap := h', toks := tk }) := by
  intro A R s h
  obtain ⟨hp, g, d, tk, os⟩ := s; obtain ⟨hPs, he, h⟩ := h
  have hl' := hl _ hPs
  wp_walk using wpAny_loadPart' hl'
  exact ⟨plainId_quiet plain_contains_loop _, codeAny_builtin entry_contains_loop (by
    rw [Around.under_plainId plain_contains_loop _]
    exact contains_loopUp hP l items n hl x e _ 0 rfl A R _ ⟨hPs, he, fun h2 tk2 x2 => by simpa using h h2 tk2 x2⟩)⟩
theorem notIn_listUp {A : Around} {E : Value → Shared → Prop} {s : Shared} {P : Heap → Prop} (hP : ∀ h h', Ext h h' → P h → P h') {l : Addr} {items : Array Value} {n : Nat} {x : Value} {Q : Value → Shared → Prop} (e : Value → Bool)
    (hl : ∀ h, P h → h.get? l = some { cls := .type "list", data := .seq items n }) (hPs : P s.heap) (he : ∀ y, y ∈ items → EqUp prog w A.in1 P y x (e y)) (h : ∀ h' tk, Ext s.heap h' → Q (.bool (!items.any e)) { s with heap := h', toks := tk }) :
    wpAny (model prog w) A (compareOp .NotIn x (.ref l)) Q E s := by
  have hT : s.TypeIs (.ref l) "list" := ⟨_, hl _ hPs, rfl⟩
  show wpAny _ A (do return .bool (!(← contains (.ref l) x))) Q E s
  refine wpAny_bind (wpAny_contains_slot hT F.slot_list_contains (wpAny_mono (call_meetsIn (Q := fun v s' => ∃ b, v = .bool b ∧ Q (.bool (!b)) s') (E := E) F.slot_list_contains hT F.entry_list_contains (F.args_list_contains_2 _ _) (list_containsUp hP l items n hl x e) ⟨hPs, he, fun h' tk x' => ⟨_, rfl, h h' tk x'⟩⟩) (fun v s' hv => ?_) fun _ _ e => e))
  obtain ⟨b, rfl, hq⟩ := hv
  exact wpAny_truthy_bool (wpAny_pure hq)
end
end
section
local macro_rules | `(tactic| walk_at "compareOp NotIn ref ref") => `(tactic| (refine Stopped.h ?_))
noncomputable def dedupK (eqv : Addr → Addr → Bool) (ks : List Addr) : List Addr := ks.foldl (fun acc t => if acc.any (fun y => eqv y t) then acc else acc ++ [t]) []
noncomputable def PL (P : Heap → Prop) (h₀ : Heap) (L : Addr) (m : Str → Option Value) (l : Addr) (its : List Value) (n : Nat) (h : Heap) : Prop := (P h ∧ Fr h₀ L h m) ∧ h.get? l = some (lobj its n)
structure Keys (w : World) (P : Heap → Prop) (eqv : Addr → Addr → Bool) (ks : List Addr) : Prop where
  up : ∀ h h', Ext h h' → P h → P h'
  eq : ∀ y ∈ ks, ∀ x ∈ ks, ∀ (dp un : Nat) (gd : Option (List Code)) (cn : Str) (cs : Scope) (a : Addr) (ccd : Value) (cl : List (Str × Addr)) (outer : List Env) (A₀ : Around) (base h₀ : Heap) (L : Addr) (m : Str → Option Value)
    (mean : ExcName → Option Value) (mg mb : Str → Option Value), dp ≤ 660 → un ≤ 8600 → Below A₀ base outer h₀ → (Mine.hd.heap_1 w.params).In h₀ → KBIn w h₀ → Top topProg LSG mean mg mb h₀ → cs.kind = .function →
    EqUp PySem.Challenge.rw_ik0192_01.prog w (ktrTop dp un gd cn cs L a ccd cl outer) (fun h => P h ∧ Fr h₀ L h m) (.ref y) (.ref x) (eqv y x)
theorem Keys.mono {w : World} {P : Heap → Prop} {eqv : Addr → Addr → Bool} {ks fs : List Addr} (K : Keys w P eqv ks) (h : ∀ x ∈ fs, x ∈ ks) : Keys w P eqv fs := ⟨K.up, fun y hy x hx => K.eq y (h y hy) x (h x hx)⟩
theorem EqUp.imp {prog : Program} {w : World} {A : Around} {P P' : Heap → Prop} {y x : Value} {b : Bool} (h : EqUp prog w A P y x b) (k : ∀ h, P' h → P h) : EqUp prog w A P' y x b := fun s E Q hs hq => h s E Q (k _ hs) hq
theorem dedup_sub {eqv : Addr → Addr → Bool} {ks : List Addr} : ∀ x ∈ dedupK eqv ks, x ∈ ks := by
  have gen : ∀ (l : List Addr) (acc : List Addr), (∀ x ∈ acc, x ∈ ks) → (∀ x ∈ l, x ∈ ks) → ∀ x ∈ l.foldl (fun acc t => if acc.any (fun y => eqv y t) then acc else acc ++ [t]) acc, x ∈ ks := by
    intro l
    induction l with
    | nil => intro acc h _ x hx; exact h x hx
    | cons t l ih =>
      intro acc h hl x hx
      rw [List.foldl_cons] at hx
      refine ih _ ?_ (fun y hy => hl y (.tail _ hy)) x hx
      intro y hy
      split at hy
      · exact h y hy
      · rcases List.mem_append.mp hy with hy | hy
        · exact h y hy
        · rw [List.mem_singleton.mp hy]; exact hl t (.head _)
  exact gen ks [] (fun x hx => nomatch hx) fun x hx => hx
theorem dedup_len {eqv : Addr → Addr → Bool} (ks : List Addr) : (dedupK eqv ks).length ≤ ks.length := by
  have gen : ∀ (l : List Addr) (acc : List Addr), (l.foldl (fun acc t => if acc.any (fun y => eqv y t) then acc else acc ++ [t]) acc).length ≤ acc.length + l.length := by
    intro l
    induction l with
    | nil => intro acc; exact Nat.le_refl _
    | cons t l ih =>
      intro acc
      rw [List.foldl_cons]
      refine Nat.le_trans (ih _) ?_
      rw [List.length_cons]
      split
      · omega
      · rw [List.length_append, List.length_singleton]; omega
  have := gen ks []
  rw [List.length_nil, Nat.zero_add] at this
  exact this
theorem dedup_take {eqv : Addr → Addr → Bool} {ks : List Addr} {i : Nat} {t : Addr} (h : ks[i]? = some t) : dedupK eqv (ks.take (i + 1)) = if (dedupK eqv (ks.take i)).any (fun y => eqv y t) then dedupK eqv (ks.take i) else dedupK eqv (ks.take i) ++ [t] := by
  unfold dedupK
  rw [take_step h]
theorem any_refs {p : Addr → Bool} {q : Value → Bool} {as : List Addr} (h : ∀ a, q (.ref a) = p a) : (refs as).toArray.any q = as.any p := by
  rw [List.any_toArray, List.any_map]
  congr 1; funext a; exact h a
theorem TurnEndX.mk11 {h₀ : Heap} {x : Str} {L : Addr} {m₀ m' : Str → Option Value} {J : (Str → Option Value) → List (Addr × Obj) → Prop} {I : Addr} {oI : Obj} {s₁ : Shared} {h' : Heap} {tk : Nat} {all : List (Addr × Obj)} {p1 : Addr × Obj}
    (F : Fr h₀ L h' m') (N : News h₀ L h' all) (s0 : (I, oI) ∈ all) (s1 : p1 ∈ all) (o1 : @Ne Nat p1.1 I) (hm : ∀ y, y ≠ x → m' y = m₀ y) (hJ : J m' [p1]) :
    TurnEndX h₀ L x [] m₀ J I oI s₁ { s₁ with heap := h', toks := tk } := by
  refine TurnEndX.mk F N [p1] ?_ ?_ (fun y h1 _ => hm y h1) hJ
  · intro p hp
    simp only [List.mem_cons, List.not_mem_nil, or_false] at hp
    rcases hp with rfl | rfl <;> assumption
  · intro p hp
    rw [List.mem_singleton.mp hp]; exact o1
theorem dedup0 (w : World) (pa : Addr) (ks : List Addr) (hks : ks.length ≤ 100) (P : Heap → Prop) (eqv : Addr → Addr → Bool) (KE : Keys w P eqv ks) : Spec0 w 640 8500 36 [.ref pa] (fun h => (∃ n, h.get? pa = some (lobj (refs ks) n)) ∧ P h)
    (fun h r h' => ∃ b o, r = .ref b ∧ h.get? b = none ∧ h'.get? b = some o ∧ ∃ n, o = lobj (refs (dedupK eqv ks)) n) := by
  unfold Spec0
  k_fill
  intro gd cn cs a ccd cl outer A₀ base h₀ L m s mean mg mb Q E B F X XB T hk pre hret
  refine hidG fun G_ hG_ => ?_
  obtain ⟨⟨pn, gp⟩, hPs⟩ := pre
  refine hG_ ?_
  clear hG_
  have hl : s.heap.IsList pa (refs ks).toArray := ⟨_, gp, rfl, _, rfl⟩
  refine wpAny_call ?_
  refine hideR fun R9 hR9 => ?_
  replace hret := fun r h' tk' x p => hR9 (.ok (.ret r)) _ (hret r h' tk' x p)
  walk_at "ENTER0"
  intro L' h' F' N' B' X' XB' T' av
  replace F' : Fr _ L' h' (fun y => ([(Str.ofString "unhashable_params", .ref pa)] : List (Str × Value)).lookup y) := F'
  refine tok0 fun tk0 => ?_
  k_steps
  rename Fr _ _ _ _ => Fl
  rename News _ _ _ _ => Nl
  refine ⟨for_src (oax := lobj (refs ks) pn) [] (fun i u nw => ∃ n, nw = [(_, lobj (refs (dedupK eqv (ks.take i))) n)]) rfl rfl rfl Fl Nl rfl (.inl gp) ⟨0, rfl⟩ (fun _ _ _ _ => .inl gp) ?_ ?_⟩
  · intro i v u nw h tk I oI hv ip9_ F1 N1 off1
    refine hidG fun G_ hG_ => ?_
    obtain ⟨n, enw⟩ := ip9_
    refine hG_ ?_
    clear hG_
    subst enw
    have off1 := off1_of off1
    simp only [LCg.Off1, and_true] at off1
    have hi : i < ks.length := by
      rcases Nat.lt_or_ge i ks.length with h | h
      · exact h
      · rw [List.getElem?_eq_none (by simpa [refs] using h)] at hv; cases hv
    have e1 := refs_get hi
    rw [hv] at e1
    have e1 := Option.some.inj e1
    subst e1
    have hki := List.getElem?_eq_getElem hi
    have hzv : (refs (dedupK eqv (ks.take i))).length ≤ 100000 := by have := dedup_len (eqv := eqv) (ks.take i); rw [List.length_take] at this; simp [refs]; omega
    have hPh := KE.up _ _ F1.keep hPs
    clear Fl Nl
    try dsimp only
    try k_fold
    k_steps
    rename Fr _ _ _ _ => F5
    refine ⟨notIn_listUp (P := PL P s.heap L' _ _ (refs (dedupK eqv (ks.take i))) n) (fun h h' x ⟨⟨a, f⟩, b⟩ => ⟨⟨KE.up _ _ x a, fr_ext f x⟩, x _ _ b⟩) (fun v => match v with | .ref y => eqv y ks[i] | _ => false) (fun h hp => hp.2) ⟨⟨hPh, F5⟩, (N1 _ (List.mem_cons_of_mem _ List.mem_cons_self)).1⟩ ?_ ?_⟩
    · intro y hy
      refine hidG fun G_ hG_ => ?_
      obtain ⟨y', hy', rfl⟩ := List.mem_map.mp (List.mem_toArray.mp hy)
      refine hG_ ?_
      clear hG_
      exact (KE.eq y' (List.mem_of_mem_take (dedup_sub _ hy')) ks[i] (List.getElem_mem hi) _ _ _ _ _ _ _ _ _ _ _ _ _ _ _ _ _ (Nat.le_of_ble_eq_true rfl) (Nat.le_of_ble_eq_true rfl) B' X' XB' T' rfl).imp (fun _ hp => hp.1)
    · intro h2 tk2 x2
      have F2 := fr_ext F5 x2
      have N2 := news_ext N1 x2
      rw [any_refs (p := fun y => eqv y ks[i]) (fun _ => rfl)]
      clear F5 N1
      try dsimp only
      try k_fold
      k_steps
      all_goals ((try dsimp only); (try dsimp only [TurnPostX]))
      · refine' TurnEndX.mk11 ?F ?N ?s0 ?s1 ?o1 ?hm ⟨n, ?v⟩
        case v => rw [dedup_take hki, if_pos (by assumption)]
        case F => k_asm
        case N => k_asm
        case s0 => k_mem
        case s1 => k_mem
        case o1 => k_ne
        case hm => exact fun y hy => if_neg hy
      · refine' TurnEndX.mk11 (p1 := (_, lobj (refs (dedupK eqv (ks.take i)) ++ [Value.ref ks[i]]) (n + 1))) ?F ?N ?s0 ?s1 ?o1 ?hm ⟨n + 1, ?v⟩
        case F => k_asm
        case N => k_asm
        case s0 => k_mem
        case s1 => k_mem
        case v =>
          have hno : ((dedupK eqv (List.take i ks)).any fun y => eqv y ks[i]) = false := by assumption
          rw [dedup_take hki, if_neg (by rw [hno]; decide), refs, refs, List.map_append]; rfl
        case o1 => k_ne
        case hm => exact fun y hy => if_neg hy
  · intro u nw h tk ip4_ F1 N1
    refine hidG fun G_ hG_ => ?_
    obtain ⟨n, enw⟩ := ip4_
    refine hG_ ?_
    clear hG_
    subst enw
    rw [show (refs ks).length = ks.length by simp [refs], List.take_length] at N1
    clear Fl Nl
    try dsimp only
    try k_fold
    k_steps
    all_goals ((try refine leaveX ?_); (try dsimp only); exact hret _ _ _ (Fr.keep (by assumption)) ⟨_, _, rfl, (new_head (by assumption)).1, (new_head (by assumption)).2, _, rfl⟩)
end
section
local macro_rules | `(tactic| walk_at "call builtin:iter") => `(tactic| (k_dflt (refine' iter_list (by k_asm) (by k_asm) (by is_list) ?_); intro D9 h9 F9 N9 l9; (try k_lt l9)))
local macro_rules | `(tactic| walk_at "compareOp Is ref ref") => `(tactic| (refine Stopped.h ?_))
local macro_rules | `(tactic| walk_at "callWith ref") => `(tactic| (refine Stopped.h ?_))
theorem cls51 (w : World) : (ob 51 (KB w.params)).cls = .type "object" := by kernel_rfl!
theorem reduceL (w : World) (fa pa va : Addr) (ps : List Addr) (hne : 0 < ps.length) (P : Heap → Prop) (hP : ∀ h h', Ext h h' → P h → P h') (hF : ∀ h, P h → ∃ o fd, h.get? fa = some o ∧ o.data = .func fd) (stepf : List Addr → Addr → List Addr)
    (S : ∀ i (hi : i < ps.length) b n, Spec0 w 620 8300 fa [.ref b, .ref ps[i]] (fun h => h.get? b = some (lobj (refs ((ps.take i).foldl stepf [])) n) ∧ P h)
      (fun h r h' => ∃ b o, r = .ref b ∧ h.get? b = none ∧ h'.get? b = some o ∧ ∃ n, o = lobj (refs ((ps.take (i + 1)).foldl stepf [])) n)) :
    Spec0 w 610 8200 59 [.ref fa, .ref pa, .ref va] (fun h => (∃ n, h.get? pa = some (lobj (refs ps) n)) ∧ (∃ n, h.get? va = some (lobj [] n)) ∧ P h)
    (fun h r h' => ∃ b o, r = .ref b ∧ h.get? b = none ∧ h'.get? b = some o ∧ ∃ n, o = lobj (refs (ps.foldl stepf [])) n) := by
  unfold Spec0
  k_fill
  intro gd cn cs a ccd cl outer A₀ base h₀ L m s mean mg mb Q E B F X XB T hk pre hret
  refine hidG fun G_ hG_ => ?_
  obtain ⟨⟨pn, gp⟩, ⟨vn, gv⟩, hPs⟩ := pre
  refine hG_ ?_
  clear hG_
  refine hidG fun G_ hG_ => ?_
  obtain ⟨fo, fd, gfo, hfd⟩ := hF _ hPs
  refine hG_ ?_
  clear hG_
  have hl : s.heap.IsList pa (refs ps).toArray := ⟨_, gp, rfl, _, rfl⟩
  refine wpAny_call ?_
  refine hideR fun R9 hR9 => ?_
  replace hret := fun r h' tk' x p => hR9 (.ok (.ret r)) _ (hret r h' tk' x p)
  walk_at "ENTER0"
  intro L' h' F' N' B' X' XB' T' av
  replace F' : Fr _ L' h' (fun y => ([(Str.ofString "initial", .ref va), (Str.ofString "sequence", .ref pa), (Str.ofString "function", .ref fa)] : List (Str × Value)).lookup y) := F'
  refine tok0 fun tk0 => ?_
  have g51 : s.heap.get? 51 = some (ob 51 (KB w.params)) := XB' 51 _ rfl
  have n51 : va ≠ 51 := by
    rintro rfl
    rw [g51] at gv
    have := cls51 w
    rw [Option.some.inj gv] at this
    exact absurd (Value.type.inj this) (by decide)
  k_steps
  rename Fr _ _ _ _ => F1
  refine ⟨wpAny_is_ref_other n51 (F1.keep _ _ gv) (F1.keep _ _ g51) (fun e => absurd (Value.type.inj e) (by decide)) ?_⟩
  try dsimp only
  try k_fold
  k_steps
  rename Fr _ _ _ _ => Fl
  rename News _ _ _ _ => Nl
  refine ⟨for_it (n := pn) [Str.ofString "value"] (fun i u nw => ∃ b n, u (Str.ofString "value") = some (.ref b) ∧ ((i = 0 ∧ b = va ∧ nw = []) ∨ (0 < i ∧ nw = [(b, lobj (refs ((ps.take i).foldl stepf [])) n)]))) rfl rfl rfl Fl Nl (fun p hp => nomatch hp) rfl (.inl gp) ⟨va, 0, rfl, .inl ⟨rfl, rfl, rfl⟩⟩ (fun _ _ _ _ => .inl gp) ?_ ?_⟩
  · intro i v u nw h tk oI hv ip8_ F1 N1 off1
    refine hidG fun G_ hG_ => ?_
    obtain ⟨b, n, hu, hb⟩ := ip8_
    refine hG_ ?_
    clear hG_
    have hi : i < ps.length := by
      rcases Nat.lt_or_ge i ps.length with h | h
      · exact h
      · rw [List.getElem?_eq_none (by simpa [refs] using h)] at hv; cases hv
    have e1 := refs_get hi
    rw [hv] at e1
    have e1 := Option.some.inj e1
    subst e1
    have gb : ∃ n', h.get? b = some (lobj (refs ((ps.take i).foldl stepf [])) n') := by
      rcases hb with ⟨rfl, rfl, rfl⟩ | ⟨_, rfl⟩
      · exact ⟨vn, F1.keep _ _ gv⟩
      · exact ⟨n, (N1 _ (List.mem_cons_of_mem _ List.mem_cons_self)).1⟩
    obtain ⟨n', gb⟩ := gb
    have N1' : News s.heap L' h [(_, oI)] := fun p hp => N1 p (by rw [List.mem_singleton.mp hp]; exact List.mem_cons_self)
    simp only [List.map_cons, List.map_nil, hu] at F1
    clear Fl Nl N1
    try dsimp only
    try k_fold
    k_steps
    refine ⟨callWith_def hfd ?_⟩
    k_steps
    all_goals try exact F1.keep _ _ gfo
    refine ⟨?_⟩
    rename Fr _ _ _ _ => F2
    rename News _ _ _ _ => N2
    refine' spec_new (P := fun o => ∃ n, o = lobj (refs ((ps.take (i + 1)).foldl stepf [])) n) (S i hi b n') ?B ?F ?X ?XB ?N ?T ?hk ?hd ?hu ?pre ?_
    walk_at "PREM"
    case pre => exact ⟨gb, hP _ _ F2.keep hPs⟩
    intro b9 o9 h9 tk9 F9 N9 E9 off9 ip8_
    refine hidG fun G_ hG_ => ?_
    obtain ⟨n9, e9⟩ := ip8_
    refine hG_ ?_
    clear hG_
    subst e9
    simp only [LCg.Off1, and_true] at off9
    clear F2 N2
    try dsimp only
    try k_fold
    k_steps
    (try dsimp only)
    (try dsimp only [TurnPostX])
    rename Fr _ _ _ _ => F3
    rename News _ _ _ _ => N3
    refine TurnEndX.mk F3 N3 [(b9, lobj (refs ((ps.take (i + 1)).foldl stepf [])) n9)] ?hs ?ho ?hm ⟨b9, n9, rfl, .inr ⟨Nat.succ_pos _, rfl⟩⟩
    case hs =>
      intro p hp
      rcases List.mem_cons.mp hp with e | hp
      · rw [e]; exact List.mem_cons_of_mem _ List.mem_cons_self
      · rw [List.mem_singleton.mp hp]; exact List.mem_cons_self
    case ho => intro p hp; rw [List.mem_singleton.mp hp]; exact fun e => off9 e.symm
    case hm => intro y h1 h2; have h2' : y ≠ Str.ofString "value" := by simpa using h2
               exact (if_neg h2').trans ((if_neg h1).trans (ovm1_off h2'))
  · intro u nw h tk ip4_ F1 N1
    refine hidG fun G_ hG_ => ?_
    obtain ⟨b, n, hu, hb⟩ := ip4_
    refine hG_ ?_
    clear hG_
    rcases hb with ⟨h0, _, _⟩ | ⟨_, rfl⟩
    · rw [refs, List.length_map] at h0; omega
    · rw [show (refs ps).length = ps.length by rw [refs, List.length_map], List.take_length] at N1
      simp only [List.map_cons, List.map_nil, hu] at F1
      clear Fl Nl
      try dsimp only
      try k_fold
      k_steps
      all_goals ((try refine leaveX ?_); (try dsimp only); exact hret _ _ _ (Fr.keep (by assumption)) ⟨_, _, rfl, (new_head N1).1, (new_head N1).2, _, rfl⟩)
end
section
noncomputable def ltL : List Str → List Str → Bool
  | [], [] => false
  | [], _ :: _ => true
  | _ :: _, [] => false
  | a :: r, b :: t => if a = b then ltL r t else decide (a.cps.toList < b.cps.toList)
section
open PySem.AutoSeq1 (wpAny_loadPart')
open PySem.MeetsSeq PySem.MeetsSeq2 PySem.MeetsSeq3 PySem.SeqRoads2
theorem strs_get {vs : List Value} {ns : List Str} (x : StrsAre vs ns) : ∀ i, (h : i < ns.length) → ∃ t, vs[i]? = some (.str ns[i] t) := by
  induction x with
  | nil => exact fun i h => absurd h (Nat.not_lt_zero i)
  | cons y t r ih =>
    intro i h
    cases i with
    | zero => exact ⟨t, rfl⟩
    | succ i => exact ih i (by simpa using h)
theorem strs_none {vs : List Value} {ns : List Str} (h : StrsAre vs ns) (i : Nat) (hi : ns.length ≤ i) : vs[i]? = none := by
  rw [List.getElem?_eq_none_iff, h.len_eq]; exact hi
theorem ltL_end {ns ms : List Str} {i : Nat} (h1 : i = ns.length ∨ i = ms.length) (h2 : i ≤ ns.length) (h3 : i ≤ ms.length) : ltL (ns.drop i) (ms.drop i) = decide (ns.length < ms.length) := by
  rcases h1 with rfl | rfl
  · rw [List.drop_length]
    by_cases h : ns.length < ms.length
    · obtain ⟨a, l, e⟩ : ∃ a l, ms.drop ns.length = a :: l := by
        cases q : ms.drop ns.length with
        | nil => have := congrArg List.length q; simp at this; omega
        | cons a l => exact ⟨a, l, rfl⟩
      rw [e]; simp [ltL, h]
    · have e : ms.drop ns.length = [] := List.drop_eq_nil_of_le (by omega)
      rw [e]; simp [ltL, h]
  · rw [List.drop_length]
    have hh : ¬ ns.length < ms.length := by omega
    cases q : ns.drop ms.length with
    | nil => simp [ltL, hh]
    | cons a l => simp [ltL, hh]
theorem lt_step {ns ms : List Str} {i : Nat} (h1 : i < ns.length) (h2 : i < ms.length) : ltL (ns.drop i) (ms.drop i) = if ns[i] = ms[i] then ltL (ns.drop (i + 1)) (ms.drop (i + 1)) else decide (ns[i].cps.toList < ms[i].cps.toList) := by
  rw [List.drop_eq_getElem_cons h1, List.drop_eq_getElem_cons h2]; rfl
theorem lt_loop (l b : Addr) (xs ys : List Value) (ns ms : List Str) (hx : StrsAre xs ns) (hy : StrsAre ys ms) (n n2 : Nat) (dd dd2 : Option Addr) (sl sl2 : Array (Option Value)) (k : Nat) :
    ∀ i : Nat, ns.length - i = k → i ≤ ns.length → i ≤ ms.length → Meets (Builtin.«list.__eq__.loop» ⟨[.ref l, .ref b, rawInt i, rawInt 0], []⟩)
      (fun A R s => s.heap.get? l = some { cls := .type "list", dict := dd, data := .seq xs.toArray n, slots := sl } ∧ s.heap.get? b = some { cls := .type "list", dict := dd2, data := .seq ys.toArray n2, slots := sl2 } ∧
        R (.ok (.ret (.bool (ltL (ns.drop i) (ms.drop i))))) s) := by
  have lx := hx.len_eq
  have ly := hy.len_eq
  have fin : ∀ i, (i = ns.length ∨ i = ms.length) → i ≤ ns.length → i ≤ ms.length → Meets (Builtin.«list.__eq__.loop» ⟨[.ref l, .ref b, rawInt i, rawInt 0], []⟩)
      (fun A R s => s.heap.get? l = some { cls := .type "list", dict := dd, data := .seq xs.toArray n, slots := sl } ∧ s.heap.get? b = some { cls := .type "list", dict := dd2, data := .seq ys.toArray n2, slots := sl2 } ∧
        R (.ok (.ret (.bool (ltL (ns.drop i) (ms.drop i))))) s) := by
    intro i h1 h2 h3 prog w A R s h
    obtain ⟨hp, g, d, tk, os⟩ := s; obtain ⟨hl, hb, h⟩ := h
    rw [ltL_end h1 h2 h3] at h
    wp_walk using wpAny_loadPart' hl, wpAny_loadPart' hb
    rcases h1 with h1 | h1
    · have hi1 : xs.toArray[((i : Nat) : Int).toNat]? = none := by simp; omega
      rw [hi1]
      wp_walk using wpAny_loadPart' hl, wpAny_loadPart' hb
      show R (.ok (.ret (.bool (decide (xs.toArray.size < ys.toArray.size))))) _
      simpa [lx, ly] using h
    · have hi2 : ys.toArray[((i : Nat) : Int).toNat]? = none := by simp; omega
      rw [hi2]
      cases xs.toArray[((i : Nat) : Int).toNat]? with
      | none =>
        wp_walk using wpAny_loadPart' hl, wpAny_loadPart' hb
        show R (.ok (.ret (.bool (decide (xs.toArray.size < ys.toArray.size))))) _
        simpa [lx, ly] using h
      | some v =>
        wp_walk using wpAny_loadPart' hl, wpAny_loadPart' hb
        show R (.ok (.ret (.bool (decide (xs.toArray.size < ys.toArray.size))))) _
        simpa [lx, ly] using h
  induction k with
  | zero =>
    intro i hk h2 h3
    exact fin i (.inl (by omega)) h2 h3
  | succ k ih =>
    intro i hk h2 h3
    by_cases hm : i = ms.length
    · exact fin i (.inr hm) h2 h3
    intro prog w A R s h
    obtain ⟨hp, g, d, tk, os⟩ := s; obtain ⟨hl, hb, h⟩ := h
    have hlt : i < ns.length := by omega
    have hlt2 : i < ms.length := by omega
    obtain ⟨t, g1⟩ := strs_get hx i hlt
    obtain ⟨u, g2⟩ := strs_get hy i hlt2
    wp_walk using wpAny_loadPart' hl, wpAny_loadPart' hb
    have hi1 : xs.toArray[((i : Nat) : Int).toNat]? = some (.str ns[i] t) := by simpa using g1
    have hi2 : ys.toArray[((i : Nat) : Int).toNat]? = some (.str ms[i] u) := by simpa using g2
    have hc : ((i : Int) + 1) = ((i + 1 : Nat) : Int) := by push_cast; rfl
    rw [lt_step hlt hlt2] at h
    rw [hi1, hi2]
    refine wpAny_bind (wpAny_eqBool_str ?_)
    by_cases hb' : ns[i] = ms[i]
    · rw [if_pos hb'] at h
      rw [decide_eq_true hb']
      wp_walk
      rw [hc]
      exact ⟨plainId_quiet plain_eq_loop _, codeAny_builtin entry_eq_loop (by
        rw [Around.under_plainId plain_eq_loop _]
        exact ih (i + 1) (sub_st (by assumption)) (by omega) (by omega) prog w A R _ ⟨hl, hb, h⟩)⟩
    · rw [if_neg hb'] at h
      rw [decide_eq_false hb']
      wp_walk using wpAny_loadPart' hl, wpAny_loadPart' hb
      rw [hi1, hi2]
      refine wpAny_bind ?_
      refine PySem.P.lt_str ?_
      wp_walk
      exact h
theorem gt_loop (l b : Addr) (xs ys : List Value) (ns ms : List Str) (hx : StrsAre xs ns) (hy : StrsAre ys ms) (n n2 : Nat) (dd dd2 : Option Addr) (sl sl2 : Array (Option Value)) (k : Nat) :
    ∀ i : Nat, ns.length - i = k → i ≤ ns.length → i ≤ ms.length → Meets (Builtin.«list.__eq__.loop» ⟨[.ref l, .ref b, rawInt i, rawInt 4], []⟩)
      (fun A R s => s.heap.get? l = some { cls := .type "list", dict := dd, data := .seq xs.toArray n, slots := sl } ∧ s.heap.get? b = some { cls := .type "list", dict := dd2, data := .seq ys.toArray n2, slots := sl2 } ∧
        R (.ok (.ret (.bool (ltL (ms.drop i) (ns.drop i))))) s) := by
  have lx := hx.len_eq
  have ly := hy.len_eq
  have fin : ∀ i, (i = ns.length ∨ i = ms.length) → i ≤ ns.length → i ≤ ms.length → Meets (Builtin.«list.__eq__.loop» ⟨[.ref l, .ref b, rawInt i, rawInt 4], []⟩)
      (fun A R s => s.heap.get? l = some { cls := .type "list", dict := dd, data := .seq xs.toArray n, slots := sl } ∧ s.heap.get? b = some { cls := .type "list", dict := dd2, data := .seq ys.toArray n2, slots := sl2 } ∧
        R (.ok (.ret (.bool (ltL (ms.drop i) (ns.drop i))))) s) := by
    intro i h1 h2 h3 prog w A R s h
    obtain ⟨hp, g, d, tk, os⟩ := s; obtain ⟨hl, hb, h⟩ := h
    rw [ltL_end h1.symm h3 h2] at h
    wp_walk using wpAny_loadPart' hl, wpAny_loadPart' hb
    rcases h1 with h1 | h1
    · have hi1 : xs.toArray[((i : Nat) : Int).toNat]? = none := by simp; omega
      rw [hi1]
      wp_walk using wpAny_loadPart' hl, wpAny_loadPart' hb
      show R (.ok (.ret (.bool (decide (xs.toArray.size > ys.toArray.size))))) _
      simpa [lx, ly] using h
    · have hi2 : ys.toArray[((i : Nat) : Int).toNat]? = none := by simp; omega
      rw [hi2]
      cases xs.toArray[((i : Nat) : Int).toNat]? with
      | none =>
        wp_walk using wpAny_loadPart' hl, wpAny_loadPart' hb
        show R (.ok (.ret (.bool (decide (xs.toArray.size > ys.toArray.size))))) _
        simpa [lx, ly] using h
      | some v =>
        wp_walk using wpAny_loadPart' hl, wpAny_loadPart' hb
        show R (.ok (.ret (.bool (decide (xs.toArray.size > ys.toArray.size))))) _
        simpa [lx, ly] using h
  induction k with
  | zero =>
    intro i hk h2 h3
    exact fin i (.inl (by omega)) h2 h3
  | succ k ih =>
    intro i hk h2 h3
    by_cases hm : i = ms.length
    · exact fin i (.inr hm) h2 h3
    intro prog w A R s h
    obtain ⟨hp, g, d, tk, os⟩ := s; obtain ⟨hl, hb, h⟩ := h
    have hlt : i < ns.length := by omega
    have hlt2 : i < ms.length := by omega
    obtain ⟨t, g1⟩ := strs_get hx i hlt
    obtain ⟨u, g2⟩ := strs_get hy i hlt2
    wp_walk using wpAny_loadPart' hl, wpAny_loadPart' hb
    have hi1 : xs.toArray[((i : Nat) : Int).toNat]? = some (.str ns[i] t) := by simpa using g1
    have hi2 : ys.toArray[((i : Nat) : Int).toNat]? = some (.str ms[i] u) := by simpa using g2
    have hc : ((i : Int) + 1) = ((i + 1 : Nat) : Int) := by push_cast; rfl
    rw [lt_step hlt2 hlt] at h
    rw [hi1, hi2]
    refine wpAny_bind (wpAny_eqBool_str ?_)
    by_cases hb' : ns[i] = ms[i]
    · rw [if_pos (Eq.symm hb')] at h
      rw [decide_eq_true hb']
      wp_walk
      rw [hc]
      exact ⟨plainId_quiet plain_eq_loop _, codeAny_builtin entry_eq_loop (by
        rw [Around.under_plainId plain_eq_loop _]
        exact ih (i + 1) (sub_st (by assumption)) (by omega) (by omega) prog w A R _ ⟨hl, hb, h⟩)⟩
    · rw [if_neg (Ne.symm hb')] at h
      rw [decide_eq_false hb']
      wp_walk using wpAny_loadPart' hl, wpAny_loadPart' hb
      rw [hi1, hi2]
      refine wpAny_bind ?_
      refine PySem.P.gt_str ?_
      wp_walk
      exact h
theorem list_lt_meets (l b : Addr) (xs ys : List Value) (ns ms : List Str) (hx : StrsAre xs ns) (hy : StrsAre ys ms) (n n2 : Nat) (dd dd2 : Option Addr) (sl sl2 : Array (Option Value)) :
    Meets (Builtin.«list.__lt__» ⟨[.ref l, .ref b], []⟩)
      (fun A R s => s.heap.get? l = some { cls := .type "list", dict := dd, data := .seq xs.toArray n, slots := sl } ∧ s.heap.get? b = some { cls := .type "list", dict := dd2, data := .seq ys.toArray n2, slots := sl2 } ∧
        R (.ok (.ret (.bool (ltL ns ms)))) s) := by
  intro prog w A R s h
  obtain ⟨hp, g, d, tk, os⟩ := s; obtain ⟨hl, hb, h⟩ := h
  have f3 := AutoSeq1.sub_list_list
  wp_walk using wpAny_loadPart' hl, wpAny_loadPart' hb
  exact ⟨plainId_quiet plain_eq_loop _, codeAny_builtin entry_eq_loop (by
    rw [Around.under_plainId plain_eq_loop _]
    exact lt_loop l b xs ys ns ms hx hy n n2 dd dd2 sl sl2 _ 0 rfl (Nat.zero_le _) (Nat.zero_le _) prog w A R _ ⟨hl, hb, h⟩)⟩
theorem list_gt_meets (l b : Addr) (xs ys : List Value) (ns ms : List Str) (hx : StrsAre xs ns) (hy : StrsAre ys ms) (n n2 : Nat) (dd dd2 : Option Addr) (sl sl2 : Array (Option Value)) :
    Meets (Builtin.«list.__gt__» ⟨[.ref l, .ref b], []⟩)
      (fun A R s => s.heap.get? l = some { cls := .type "list", dict := dd, data := .seq xs.toArray n, slots := sl } ∧ s.heap.get? b = some { cls := .type "list", dict := dd2, data := .seq ys.toArray n2, slots := sl2 } ∧
        R (.ok (.ret (.bool (ltL ms ns)))) s) := by
  intro prog w A R s h
  obtain ⟨hp, g, d, tk, os⟩ := s; obtain ⟨hl, hb, h⟩ := h
  have f3 := AutoSeq1.sub_list_list
  wp_walk using wpAny_loadPart' hl, wpAny_loadPart' hb
  exact ⟨plainId_quiet plain_eq_loop _, codeAny_builtin entry_eq_loop (by
    rw [Around.under_plainId plain_eq_loop _]
    exact gt_loop l b xs ys ns ms hx hy n n2 dd dd2 sl sl2 _ 0 rfl (Nat.zero_le _) (Nat.zero_le _) prog w A R _ ⟨hl, hb, h⟩)⟩
variable {prog : Program} {w : World} {A : Around} {E : Value → Shared → Prop} {s : Shared} {Q : Value → Shared → Prop}
theorem rc_lt {l b : Addr} {xs ys : List Value} {ns ms : List Str} (hx : StrsAre xs ns) (hy : StrsAre ys ms) (hl : ∃ n, s.heap.get? l = some (lobj xs n)) (hb : ∃ n, s.heap.get? b = some (lobj ys n)) (hu : A.units < cLine) (h : Q (.bool (ltL ns ms)) s) :
    wpAny (model prog w) A (richCompare .Lt (.ref l) (.ref b)) Q E s := by
  obtain ⟨n, hl⟩ := hl
  obtain ⟨n2, hb⟩ := hb
  exact richCompare_meets_room (op := .Lt) ⟨_, hl, rfl⟩ ⟨_, hb, rfl⟩ F.slot_list_lt F.entry_list_lt (F.args_list_lt_2 _ _) (list_lt_meets l b xs ys ns ms hx hy n n2 none none #[] #[]) ⟨hl, hb, ⟨fun e => (nomatch e), h⟩⟩ hu
theorem rc_gt {l b : Addr} {xs ys : List Value} {ns ms : List Str} (hx : StrsAre xs ns) (hy : StrsAre ys ms) (hl : ∃ n, s.heap.get? l = some (lobj xs n)) (hb : ∃ n, s.heap.get? b = some (lobj ys n)) (hu : A.units < cLine) (h : Q (.bool (ltL ms ns)) s) :
    wpAny (model prog w) A (richCompare .Gt (.ref l) (.ref b)) Q E s := by
  obtain ⟨n, hl⟩ := hl
  obtain ⟨n2, hb⟩ := hb
  exact richCompare_meets_room (op := .Gt) ⟨_, hl, rfl⟩ ⟨_, hb, rfl⟩ F.slot_list_gt F.entry_list_gt (F.args_list_gt_2 _ _) (list_gt_meets l b xs ys ns ms hx hy n n2 none none #[] #[]) ⟨hl, hb, ⟨fun e => (nomatch e), h⟩⟩ hu
end
end
section
section
variable {prog : Program} {w : World} {A : Around} {E : Value → Shared → Prop} {s : Shared}
theorem call_min2 {l a b : Addr} {n : Nat} {r : Bool} {Q : Value → Shared → Prop} (hA : A.handled = none) (gl : s.heap.get? l = some (lobj [.ref a, .ref b] n))
    (hc : ∀ (s' : Shared) (Q' E' : Value → Shared → Prop), Ext s.heap s'.heap → Q' (.bool r) s' → wpAny (model prog w) A.in1 (richCompare .Lt (.ref b) (.ref a)) Q' E' s')
    (hQ : ∀ h' tk, Ext s.heap h' → Q (.ref (if r = true then b else a)) { s with heap := h', toks := tk }) :
    wpAny (model prog w) A (call (.builtin "min") [.ref l]) Q E s := by
  have hname : (toString "min" ++ toString ".loop" : String) = "min.loop" := by decide
  have hl : s.heap.IsList l (#[.ref a, .ref b] : Array Value) := ⟨_, gl, rfl, _, rfl⟩
  refine call_function_tree F.kind_min F.plain_min F.entry_min (F.args_min1 _) ?_
  show wpAny _ A.in1 (Builtin.Builtins.bindParams "min" ["key", "default"] 0 ⟨[], []⟩ >>= _) _ _ s
  refine wpAny_bind (wpAny_of_eq (show Builtin.Builtins.bindParams "min" ["key", "default"] 0 ⟨[], []⟩ = pure [none, none] from rfl) ?_)
  refine wpAny_bind (wpAny_pure ?_)
  refine wpAny_bind (wpAny_pyIter_list hl ?_)
  generalize hI : s.heap.objs.size = I
  have k1 : Ext s.heap (s.heap.push { cls := .type "list_iterator", data := .fields #[.ref l, .int 0 0] }) := fun b o e => Heap.get?_push_of_some _ e
  have g1 : (s.heap.push { cls := .type "list_iterator", data := .fields #[.ref l, .int 0 0] }).get? I = some { cls := .type "list_iterator", data := .fields #[.ref l, .int 0 0] } := hI ▸ Heap.get?_push_size _ rfl
  have lI : l ≠ I := hI ▸ Nat.ne_of_lt (Heap.lt_size gl)
  have fI : s.heap.get? I = none := Heap.get?_none_of_le (Nat.le_of_eq hI)
  refine wpAny_bind (wpAny_newObj_type ?_)
  dsimp only
  generalize hS : (s.heap.push { cls := .type "list_iterator", data := .fields #[.ref l, .int 0 0] }).objs.size = S
  have IS : I ≠ S := by rw [← hS, Heap.size_push, hI]; exact Nat.ne_of_lt (Nat.lt_succ_self _)
  have lS : l ≠ S := by rw [← hS]; exact Nat.ne_of_lt (Heap.lt_size (k1 _ _ gl))
  have fS : s.heap.get? S = none := Heap.get?_none_of_le (by rw [← hS, Heap.size_push, hI]; exact Nat.le_succ _)
  have q1 : ((s.heap.push { cls := .type "list_iterator", data := .fields #[.ref l, .int 0 0] }).push { cls := .type "list", data := .seq ([] : List Value).toArray }).get? S = some { cls := .type "list", data := .seq #[] } := hS ▸ Heap.get?_push_size _ rfl
  have k2 : Ext s.heap ((s.heap.push { cls := .type "list_iterator", data := .fields #[.ref l, .int 0 0] }).push { cls := .type "list", data := .seq ([] : List Value).toArray }) := fun b o e => Heap.get?_push_of_some _ (k1 b o e)
  have i1 : ((s.heap.push { cls := .type "list_iterator", data := .fields #[.ref l, .int 0 0] }).push { cls := .type "list", data := .seq ([] : List Value).toArray }).IsListIter I l 0 := ⟨_, Heap.get?_push_of_some _ g1, rfl, rfl⟩
  generalize ((s.heap.push { cls := .type "list_iterator", data := .fields #[.ref l, .int 0 0] }).push { cls := .type "list", data := .seq ([] : List Value).toArray }) = h1 at q1 k2 i1 ⊢
  rw [hname]
  refine wpAny_pure ⟨plainId_quiet F.plain_min_loop _, ?_⟩
  refine codeAny_builtin F.entry_min_loop ?_
  rw [Around.under_plainId F.plain_min_loop _]
  show wpAny _ A.in1 (seqItems? (.ref S) >>= _) _ _ _
  refine wpAny_bind (wpAny_seqItems q1 rfl ?_)
  show wpAny _ A.in1 (tryCatch (pyNext (.ref I)) _ >>= _) _ _ _
  refine wpAny_bind (wpAny_tryCatch (wpAny_pyNext_list_item i1 ⟨_, k2 _ _ gl, rfl, _, rfl⟩ (x := .ref a) rfl fun h2 i2 x2 => ?_))
  have q2 := (x2.extBut S _ (Ne.symm IS) q1)
  have k3 : Ext s.heap h2 := fun b o e => x2.extBut b o (fun q => by rw [q, fI] at e; cases e) (k2 b o e)
  show wpAny _ A.in1 (updateSeq S (fun _ => #[.ref a, .ref a]) >>= _) _ _ _
  refine wpAny_bind ?_
  refine wpAny_updateSeq q2 rfl ?_
  have q3 := Heap.get?_update_self (Obj.mapSeq fun _ => #[.ref a, .ref a]) q2 rfl
  have i3 := i2.at (h' := h2.update S (Obj.mapSeq fun _ => #[.ref a, .ref a])) fun o e => (Heap.get?_update_other _ _ (Ne.symm IS)).trans e
  have k4 : Ext s.heap (h2.update S (Obj.mapSeq fun _ => #[.ref a, .ref a])) := fun b o e => (Heap.get?_update_other _ _ (fun q : S = b => by rw [← q, fS] at e; cases e)).trans (k3 b o e)
  dsimp only
  generalize h2.update S (Obj.mapSeq fun _ => #[.ref a, .ref a]) = h3 at q3 i3 k4 ⊢
  rw [hname]
  refine wpAny_pure ⟨plainId_quiet F.plain_min_loop _, ?_⟩
  have fin : ∀ (x : Addr) (h4 : Heap) (o4 : Obj) (tk : Nat), x = (if r = true then b else a) → h4.IsListIter I l 2 → h4.get? S = some o4 → (∃ c, o4 = { cls := .type "list", data := .seq #[.ref x, .ref x] c }) → Ext s.heap h4 →
      codeAny (model prog w) A (.builtin "min.loop" ⟨[.ref I, .none, .ref S], []⟩) (wants Q E) { s with heap := h4, toks := tk } := by
    rintro x h4 _ tk hx i4 q4 ⟨c, rfl⟩ k5
    refine codeAny_builtin F.entry_min_loop ?_
    rw [Around.under_plainId F.plain_min_loop _]
    show wpAny _ A.in1 (seqItems? (.ref S) >>= _) _ _ _
    refine wpAny_bind (wpAny_seqItems q4 rfl ?_)
    show wpAny _ A.in1 (tryCatch (pyNext (.ref I)) _ >>= _) _ _ _
    refine wpAny_bind (wpAny_tryCatch (wpAny_pyNext_list_end hA i4 ⟨_, k5 _ _ gl, rfl, _, rfl⟩ rfl fun h5 x5 => ?_))
    have q5 := x5 S _ (Ne.symm IS) q4
    show wpAny _ A.in1 (updateSeq S (fun _ => #[]) >>= _) _ _ _
    refine wpAny_bind ?_
    refine wpAny_updateSeq q5 rfl (wpAny_bind (wpAny_letGo (wpAny_pure ?_)))
    rw [hx]
    refine hQ _ tk fun b o e => (Heap.get?_update_other _ _ (fun q : S = b => by rw [← q, fS] at e; cases e)).trans (x5 b o (fun q => by rw [q, fI] at e; cases e) (k5 b o e))
  refine codeAny_builtin F.entry_min_loop ?_
  rw [Around.under_plainId F.plain_min_loop _]
  show wpAny _ A.in1 (seqItems? (.ref S) >>= _) _ _ _
  refine wpAny_bind (wpAny_seqItems q3 rfl ?_)
  show wpAny _ A.in1 (tryCatch (pyNext (.ref I)) _ >>= _) _ _ _
  refine wpAny_bind (wpAny_tryCatch (wpAny_pyNext_list_item i3 ⟨_, k4 _ _ gl, rfl, _, rfl⟩ (x := .ref b) rfl fun h4 i4 x4 => ?_))
  have q4 := (x4.extBut S _ (Ne.symm IS) q3)
  have k5 : Ext s.heap h4 := fun b o e => x4.extBut b o (fun q => by rw [q, fI] at e; cases e) (k4 b o e)
  show wpAny _ A.in1 (tryCatch (holding [.ref b, .ref b] (richCompare .Lt (.ref b) (.ref a) >>= _)) _ >>= _) _ _ _
  refine wpAny_bind (wpAny_tryCatch (wpAny_holding (wpAny_bind (hc _ _ _ k5 ?_))))
  refine wpAny_bind (wpAny_holding (wpAny_truthy_bool ?_))
  refine wpAny_bind (wpAny_letGo (wpAny_pure ?_))
  cases hr : r with
  | true =>
    simp only [if_true]
    refine wpAny_bind ?_
    refine wpAny_updateSeq q4 rfl (wpAny_bind (wpAny_letGo ?_))
    rw [hname]
    refine wpAny_pure ⟨plainId_quiet F.plain_min_loop _, ?_⟩
    refine fin b _ _ _ (by rw [hr]; rfl) (i4.at fun o e => (Heap.get?_update_other _ _ (Ne.symm IS)).trans e) (Heap.get?_update_self (Obj.mapSeq fun _ => #[.ref b, .ref b]) q4 rfl) ⟨_, rfl⟩ fun b o e => (Heap.get?_update_other _ _ (fun q : S = b => by rw [← q, fS] at e; cases e)).trans (k5 b o e)
  | false =>
    simp only [Bool.false_eq_true, if_false]
    refine wpAny_bind (wpAny_letGo ?_)
    rw [hname]
    refine wpAny_pure ⟨plainId_quiet F.plain_min_loop _, ?_⟩
    exact fin a _ _ _ (by rw [hr]; rfl) i4 q4 ⟨_, rfl⟩ k5
theorem call_max2 {l a b : Addr} {n : Nat} {r : Bool} {Q : Value → Shared → Prop} (hA : A.handled = none) (gl : s.heap.get? l = some (lobj [.ref a, .ref b] n))
    (hc : ∀ (s' : Shared) (Q' E' : Value → Shared → Prop), Ext s.heap s'.heap → Q' (.bool r) s' → wpAny (model prog w) A.in1 (richCompare .Gt (.ref b) (.ref a)) Q' E' s')
    (hQ : ∀ h' tk, Ext s.heap h' → Q (.ref (if r = true then b else a)) { s with heap := h', toks := tk }) :
    wpAny (model prog w) A (call (.builtin "max") [.ref l]) Q E s := by
  have hname : (toString "max" ++ toString ".loop" : String) = "max.loop" := by decide
  have hl : s.heap.IsList l (#[.ref a, .ref b] : Array Value) := ⟨_, gl, rfl, _, rfl⟩
  refine call_function_tree F.kind_max F.plain_max F.entry_max (F.args_max1 _) ?_
  show wpAny _ A.in1 (Builtin.Builtins.bindParams "max" ["key", "default"] 0 ⟨[], []⟩ >>= _) _ _ s
  refine wpAny_bind (wpAny_of_eq (show Builtin.Builtins.bindParams "max" ["key", "default"] 0 ⟨[], []⟩ = pure [none, none] from rfl) ?_)
  refine wpAny_bind (wpAny_pure ?_)
  refine wpAny_bind (wpAny_pyIter_list hl ?_)
  generalize hI : s.heap.objs.size = I
  have k1 : Ext s.heap (s.heap.push { cls := .type "list_iterator", data := .fields #[.ref l, .int 0 0] }) := fun b o e => Heap.get?_push_of_some _ e
  have g1 : (s.heap.push { cls := .type "list_iterator", data := .fields #[.ref l, .int 0 0] }).get? I = some { cls := .type "list_iterator", data := .fields #[.ref l, .int 0 0] } := hI ▸ Heap.get?_push_size _ rfl
  have lI : l ≠ I := hI ▸ Nat.ne_of_lt (Heap.lt_size gl)
  have fI : s.heap.get? I = none := Heap.get?_none_of_le (Nat.le_of_eq hI)
  refine wpAny_bind (wpAny_newObj_type ?_)
  dsimp only
  generalize hS : (s.heap.push { cls := .type "list_iterator", data := .fields #[.ref l, .int 0 0] }).objs.size = S
  have IS : I ≠ S := by rw [← hS, Heap.size_push, hI]; exact Nat.ne_of_lt (Nat.lt_succ_self _)
  have lS : l ≠ S := by rw [← hS]; exact Nat.ne_of_lt (Heap.lt_size (k1 _ _ gl))
  have fS : s.heap.get? S = none := Heap.get?_none_of_le (by rw [← hS, Heap.size_push, hI]; exact Nat.le_succ _)
  have q1 : ((s.heap.push { cls := .type "list_iterator", data := .fields #[.ref l, .int 0 0] }).push { cls := .type "list", data := .seq ([] : List Value).toArray }).get? S = some { cls := .type "list", data := .seq #[] } := hS ▸ Heap.get?_push_size _ rfl
  have k2 : Ext s.heap ((s.heap.push { cls := .type "list_iterator", data := .fields #[.ref l, .int 0 0] }).push { cls := .type "list", data := .seq ([] : List Value).toArray }) := fun b o e => Heap.get?_push_of_some _ (k1 b o e)
  have i1 : ((s.heap.push { cls := .type "list_iterator", data := .fields #[.ref l, .int 0 0] }).push { cls := .type "list", data := .seq ([] : List Value).toArray }).IsListIter I l 0 := ⟨_, Heap.get?_push_of_some _ g1, rfl, rfl⟩
  generalize ((s.heap.push { cls := .type "list_iterator", data := .fields #[.ref l, .int 0 0] }).push { cls := .type "list", data := .seq ([] : List Value).toArray }) = h1 at q1 k2 i1 ⊢
  rw [hname]
  refine wpAny_pure ⟨plainId_quiet F.plain_max_loop _, ?_⟩
  refine codeAny_builtin F.entry_max_loop ?_
  rw [Around.under_plainId F.plain_max_loop _]
  show wpAny _ A.in1 (seqItems? (.ref S) >>= _) _ _ _
  refine wpAny_bind (wpAny_seqItems q1 rfl ?_)
  show wpAny _ A.in1 (tryCatch (pyNext (.ref I)) _ >>= _) _ _ _
  refine wpAny_bind (wpAny_tryCatch (wpAny_pyNext_list_item i1 ⟨_, k2 _ _ gl, rfl, _, rfl⟩ (x := .ref a) rfl fun h2 i2 x2 => ?_))
  have q2 := (x2.extBut S _ (Ne.symm IS) q1)
  have k3 : Ext s.heap h2 := fun b o e => x2.extBut b o (fun q => by rw [q, fI] at e; cases e) (k2 b o e)
  show wpAny _ A.in1 (updateSeq S (fun _ => #[.ref a, .ref a]) >>= _) _ _ _
  refine wpAny_bind ?_
  refine wpAny_updateSeq q2 rfl ?_
  have q3 := Heap.get?_update_self (Obj.mapSeq fun _ => #[.ref a, .ref a]) q2 rfl
  have i3 := i2.at (h' := h2.update S (Obj.mapSeq fun _ => #[.ref a, .ref a])) fun o e => (Heap.get?_update_other _ _ (Ne.symm IS)).trans e
  have k4 : Ext s.heap (h2.update S (Obj.mapSeq fun _ => #[.ref a, .ref a])) := fun b o e => (Heap.get?_update_other _ _ (fun q : S = b => by rw [← q, fS] at e; cases e)).trans (k3 b o e)
  dsimp only
  generalize h2.update S (Obj.mapSeq fun _ => #[.ref a, .ref a]) = h3 at q3 i3 k4 ⊢
  rw [hname]
  refine wpAny_pure ⟨plainId_quiet F.plain_max_loop _, ?_⟩
  have fin : ∀ (x : Addr) (h4 : Heap) (o4 : Obj) (tk : Nat), x = (if r = true then b else a) → h4.IsListIter I l 2 → h4.get? S = some o4 → (∃ c, o4 = { cls := .type "list", data := .seq #[.ref x, .ref x] c }) → Ext s.heap h4 →
      codeAny (model prog w) A (.builtin "max.loop" ⟨[.ref I, .none, .ref S], []⟩) (wants Q E) { s with heap := h4, toks := tk } := by
    rintro x h4 _ tk hx i4 q4 ⟨c, rfl⟩ k5
    refine codeAny_builtin F.entry_max_loop ?_
    rw [Around.under_plainId F.plain_max_loop _]
    show wpAny _ A.in1 (seqItems? (.ref S) >>= _) _ _ _
    refine wpAny_bind (wpAny_seqItems q4 rfl ?_)
    show wpAny _ A.in1 (tryCatch (pyNext (.ref I)) _ >>= _) _ _ _
    refine wpAny_bind (wpAny_tryCatch (wpAny_pyNext_list_end hA i4 ⟨_, k5 _ _ gl, rfl, _, rfl⟩ rfl fun h5 x5 => ?_))
    have q5 := x5 S _ (Ne.symm IS) q4
    show wpAny _ A.in1 (updateSeq S (fun _ => #[]) >>= _) _ _ _
    refine wpAny_bind ?_
    refine wpAny_updateSeq q5 rfl (wpAny_bind (wpAny_letGo (wpAny_pure ?_)))
    rw [hx]
    refine hQ _ tk fun b o e => (Heap.get?_update_other _ _ (fun q : S = b => by rw [← q, fS] at e; cases e)).trans (x5 b o (fun q => by rw [q, fI] at e; cases e) (k5 b o e))
  refine codeAny_builtin F.entry_max_loop ?_
  rw [Around.under_plainId F.plain_max_loop _]
  show wpAny _ A.in1 (seqItems? (.ref S) >>= _) _ _ _
  refine wpAny_bind (wpAny_seqItems q3 rfl ?_)
  show wpAny _ A.in1 (tryCatch (pyNext (.ref I)) _ >>= _) _ _ _
  refine wpAny_bind (wpAny_tryCatch (wpAny_pyNext_list_item i3 ⟨_, k4 _ _ gl, rfl, _, rfl⟩ (x := .ref b) rfl fun h4 i4 x4 => ?_))
  have q4 := (x4.extBut S _ (Ne.symm IS) q3)
  have k5 : Ext s.heap h4 := fun b o e => x4.extBut b o (fun q => by rw [q, fI] at e; cases e) (k4 b o e)
  show wpAny _ A.in1 (tryCatch (holding [.ref b, .ref b] (richCompare .Gt (.ref b) (.ref a) >>= _)) _ >>= _) _ _ _
  refine wpAny_bind (wpAny_tryCatch (wpAny_holding (wpAny_bind (hc _ _ _ k5 ?_))))
  refine wpAny_bind (wpAny_holding (wpAny_truthy_bool ?_))
  refine wpAny_bind (wpAny_letGo (wpAny_pure ?_))
  cases hr : r with
  | true =>
    simp only [if_true]
    refine wpAny_bind ?_
    refine wpAny_updateSeq q4 rfl (wpAny_bind (wpAny_letGo ?_))
    rw [hname]
    refine wpAny_pure ⟨plainId_quiet F.plain_max_loop _, ?_⟩
    refine fin b _ _ _ (by rw [hr]; rfl) (i4.at fun o e => (Heap.get?_update_other _ _ (Ne.symm IS)).trans e) (Heap.get?_update_self (Obj.mapSeq fun _ => #[.ref b, .ref b]) q4 rfl) ⟨_, rfl⟩ fun b o e => (Heap.get?_update_other _ _ (fun q : S = b => by rw [← q, fS] at e; cases e)).trans (k5 b o e)
  | false =>
    simp only [Bool.false_eq_true, if_false]
    refine wpAny_bind (wpAny_letGo ?_)
    rw [hname]
    refine wpAny_pure ⟨plainId_quiet F.plain_max_loop _, ?_⟩
    exact fin a _ _ _ (by rw [hr]; rfl) i4 q4 ⟨_, rfl⟩ k5
end
end
section
noncomputable def TupIn (ax : Addr) (its : Array Value) (n : Nat) (news : List (Addr × Obj)) : Prop := (ax, ({ cls := .type "tuple", data := .seq its n } : Obj)) ∈ news
section
variable {prog : Program} {w : World} {A : Around} {E : Value → Shared → Prop} {s : Shared} {h₀ : Heap} {L : Addr} {m : Str → Option Value} {env : Env}
noncomputable def TupSrc (prog : Program) (w : World) (A : Around) (h₀ : Heap) (L : Addr) (m : Str → Option Value) (env : Env) (elt : Expr) (x : Str) (scope : Scope) (cl : List (Str × Addr)) (Fin : Shared → List Value → List (Addr × Obj) → Prop) (xv : Value) (s₁ : Shared) : Prop :=
  ∃ ax its n news, xv = .ref ax ∧ A.handled = none ∧ Fr h₀ L s₁.heap m ∧ News h₀ L s₁.heap news ∧ TupIn ax its n news ∧ its.size ≤ sizeLine ∧
    ∀ g, LCg.CompRest prog w A h₀ L m env elt x scope cl { s₁ with heap := g } (TupIn ax its n) (fun i v => its[i]? = some v) (Fin { s₁ with heap := g }) its.size 0 [] news
theorem tup_st {ax I : Addr} {its : Array Value} {n : Nat} : ∀ i (h h' : Heap) (o : Obj) (nw : List (Addr × Obj)), (h.IsTupleIter I ax i ∧ h.IsTuple ax its) → h.get? I = some o → h'.get? I = some o → (∀ b o, h₀.get? b = some o → h'.get? b = some o) → News h₀ L h' nw → TupIn ax its n nw → (h'.IsTupleIter I ax i ∧ h'.IsTuple ax its) :=
  fun i h h' o nw st e e' _ N S => by
    refine ⟨?_, ⟨_, (N _ S).1, rfl, _, rfl⟩⟩
    obtain ⟨o', q, r⟩ := st.1
    rw [e] at q; cases q
    exact ⟨o, e', r⟩
theorem asg_comp_T {elt iter : Expr} {x y : Str} {px py : Pos} {scope : Scope} {cl : List (Str × Addr)} {pos spos : Pos} {Q : Flow → Shared → Prop} (F₀ : Fr h₀ L s.heap m) (hLe : env.locals = L)
    (hsw : swapsWith (.ListComp elt [⟨.Name x px, iter, [], 0⟩] scope pos) (some (.Name y py)) spos.line env = pure true)
    (hclos : closureFor scope env = pure cl) (hcell : ∀ z ∈ scope.names, z.2 ≠ .cell) (hkind : scope.kind = .function)
    (hnames : ∀ z ∈ scope.names, z.2 = .local → scope.names.lookup z.1 = some .local) (hx : scope.names.lookup x = some .local)
    (hy : env.kindOf y = some .local) (hp : (env.scope.kind == .class || (env.scope.kind == .module && env.locals != env.globals)) = false)
    (h : wpAny (model prog w) A (eval iter env) (TupSrc prog w A h₀ L m env elt x scope cl (fun s₂ => LCg.FinA h₀ L m s₂ y Q)) E s)
    (hs : ∀ x, foldedSetIterable iter env x = pure x := by intro _; rfl) :
    wpAny (model prog w) A (exec (.Assign [.Name y py] (.ListComp elt [⟨.Name x px, iter, [], 0⟩] scope pos) spos) env) Q E s := by
  subst hLe
  rw [exec_Assign_Name_used _ _ _ _ hsw]
  refine wpAny_bind (wpAny_standAt (wpAny_bind ?_))
  show wpAny _ A (do let _ ← comprehension (.ListComp elt [⟨.Name x px, iter, [], 0⟩] scope pos) scope env _ (newList []) false (eval iter env) (some (assign (.Name y py) env))) _ _ s
  refine wpAny_bind (wpAny_mono (wpAny_comprehension_free (use := some (assign (.Name y py) env)) (Q := fun _ s' => Q .next s') rfl hs hclos hkind hnames
    (wpAny_mono h (fun xv s₁ h₁ => ?_) fun _ _ e => e)) (fun _ s' hq => wpAny_pure (wpAny_pure hq)) fun _ _ e => e)
  obtain ⟨ax, its, n, news, rfl, hh, F, N, S, hsz, R⟩ := h₁
  have hl : s₁.heap.IsTuple ax its := ⟨_, (N _ S).1, rfl, _, rfl⟩
  have hlt : ax < s₁.heap.objs.size := Heap.lt_size (N _ S).1
  refine wpAny_pyIter_tuple hl ?_
  have up : ∀ b o, s₁.heap.get? b = some o → (s₁.heap.push { cls := .type "tuple_iterator", data := .fields #[.ref ax, .int 0 0] }).get? b = some o := fun b o e => Heap.get?_push_of_some _ e
  have st0 : (s₁.heap.push { cls := .type "tuple_iterator", data := .fields #[.ref ax, .int 0 0] }).IsTupleIter s₁.heap.objs.size ax 0 := ⟨_, Heap.get?_push_size _ rfl, rfl, rfl⟩
  refine LCg.block_U (Walks.tuple hh s₁.heap.objs.size ax (Nat.ne_of_lt hlt) its) hsz (fun i h st => by obtain ⟨o, e, _⟩ := st.1; exact ⟨o, e⟩) tup_st hcell hkind hx ⟨st0, hl.at fun o e => up _ o e⟩ (fun b hb => ?_)
    (F.keeps up) (N.grown up) (Nat.ne_of_lt F.ns.lt) (next_is_new F) (fun p hp => Nat.ne_of_lt (Heap.lt_size (N p hp).1)) S (R _) ?_
  · show b < (s₁.heap.push _).objs.size
    rw [Heap.size_push]
    rcases List.mem_cons.mp hb with rfl | hb
    · exact Nat.lt_succ_self _
    · rw [List.mem_singleton.mp hb]; exact Nat.lt_succ_of_lt hlt
  · intro D C h' tk m' ys news' F' N' o1 hn hC₀ hD₀ hCL hDL hCD offC fin
    show wpAny _ A (assign (.Name y py) env (.ref D)) _ _ _
    refine wpAny_assign_Name (wpAny_storeName_local hy F'.ns (fun h₂ hn₂ hs₂ => ?_) hp)
    have hL₀ : h₀.get? env.locals = none := Heap.get?_none_of_le F'.above
    have F₂ : Fr h₀ env.locals h₂ (fun z => if z = y then some (.ref D) else m z) := ⟨hn₂, fun b o e => hs₂.extBut b o (fun q => by rw [q, hL₀] at e; cases e) (F'.keep b o e), F'.above⟩
    refine ⟨m', hn.sameBut hs₂ hCL, fun h'' hs'' => fin D h'' _ (F₂.change hs'' hCL hC₀) (fun p hp => ?_) o1⟩
    have z : h₂.get? p.1 = some p.2 := hs₂.extBut _ _ (N' p hp).2.1 (N' p hp).1
    refine ⟨hs''.extBut _ _ ?_ z, (N' p hp).2⟩
    rcases List.mem_cons.mp hp with rfl | hp
    · exact Ne.symm hCD
    · exact offC p hp
end
end
section
section
variable {prog : Program} {w : World} {A : Around} {E : Value → Shared → Prop} {s : Shared}
noncomputable def setE (led : Bool) : Obj := { cls := .type "set", dict := none, data := .set #[] 0 (.fresh 0 0 led) }
noncomputable def setTab (led : Bool) : SetTable := { mask := 7, place := #[1], dummies := #[], finger := 0, led := led, moves := 0, plain := true }
noncomputable def setT (led : Bool) (ep : Nat) : Obj := { cls := .type "set", dict := none, data := .set #[(1, .bool true)] ep (setTab led) }
noncomputable def ledOf (w : World) : Bool := !(w.params.followText "set-order")
theorem pyHash_true {Q : Int → Shared → Prop} (h : ∀ tk, Q 1 { s with toks := tk }) : wpAny (model prog w) A (pyHash (.bool true)) Q E s := by
  have hT : s.TypeIs (.bool true) "bool" := rfl
  unfold pyHash
  have hv : [Value.bool true].any Value.onHeap = false := rfl
  show wpAny _ _ (pyHashByItsType (.bool true)) Q E s
  unfold pyHashByItsType
  refine wpAny_bind ?_
  rw [cRoomFor, if_neg (by rw [hv]; exact Bool.false_ne_true)]; refine wpAny_pure ?_
  refine wpAny_bind (wpAny_specialOf hT F.slot_bool_hash.lookup ?_)
  show wpAny _ _ (if (some (Value.builtin "int.__hash__") == some Value.none) = true then _ else _) Q E s
  rw [if_neg (by rw [beq_builtin_none]; exact Bool.false_ne_true)]
  refine wpAny_bind (wpAny_specialOf hT F.slot_bool_hash.lookup ?_)
  show wpAny _ _ (callSpecialIfBoundUnlessNone? (.bool true) "__hash__" _ >>= _) Q E s
  refine wpAny_bind (wpAny_callSpecialIfBoundUnlessNone?_slot hT F.slot_bool_hash
    (wpAny_call_entry F.slot_bool_hash hT F.entry_int_hash
      (show wpAny _ _ (do ret (← mkInt 1)) _ _ s from wpAny_ret_mkInt ?_) (F.args_int_hash_1 _)))
  exact wpAny_pure (h _)
theorem newSet_led {Q : Value → Shared → Prop} (h : Q (.ref s.heap.objs.size) { s with heap := s.heap.push (setE (ledOf w)) }) : wpAny (model prog w) A (newSet (.type "set")) Q E s := by
  unfold newSet setsByText
  refine wpAny_bind (wpAny_bind (wpAny_askSetting (wpAny_pure ?_)))
  dsimp only
  simp only [newObj]
  exact wpAny_bind (wpAny_alloc (wpAny_pure h))
theorem lay_true (led : Bool) : layNew (SetTable.fresh 0 0 led) #[] 1 (.bool true) = (#[(1, .bool true)], setTab led, false, false) := by cases led <;> kernel_rfl
theorem fits_true (led : Bool) : (setTab led).fits 1 = true := by cases led <;> rfl
theorem full_true (led : Bool) : (setTab led).tooFull = false := by cases led <;> rfl
theorem set_add_new {a : Addr} {led : Bool} {Q : Value → Shared → Prop} (g : s.heap.get? a = some (setE led))
    (h : ∀ h' tk ep, Heap.SameBut a s.heap h' → h'.get? a = some (setT led ep) → Q .none { s with heap := h', toks := tk }) :
    wpAny (model prog w) A (call (.builtin "set.add") [.ref a, .bool true]) Q E s := by
  refine wpAny_call_entry F.slot_set_add ⟨_, g, rfl⟩ F.entry_set_add ?_ (F.args_set_add_2 _ _)
  unfold Builtin.«set.add» Builtin.Frozenset.oneOther
  simp only [List.isEmpty_nil, bind_assoc]
  unfold Builtin.Frozenset.addrOf setAdd
  refine wpAny_bind (wpAny_pure ?_)
  try dsimp only
  refine wpAny_bind (wpAny_pure ?_)
  try dsimp only
  refine wpAny_bind ?_
  refine wpAny_holding ?_
  refine wpAny_bind (pyHash_true fun tk => ?_)
  unfold setAddHashed setAddHashedIn
  refine wpAny_holding (wpAny_bind (wpAny_setState_of g rfl rfl ?_))
  dsimp only
  rw [show byScan (.bool true) #[] = true from by decide +kernel]
  simp only [↓reduceIte]
  unfold setAddByScan
  refine wpAny_bind ?_
  refine wpAny_bind (wpAny_rule ?_)
  refine wpAny_bind ?_
  show wpAny _ _ (setScanFrom a (.bool true) 1 true [] 0) _ _ _
  unfold setScanFrom
  refine wpAny_pure ?_
  dsimp only
  rw [lay_true]
  dsimp only
  refine wpAny_bind (wpAny_pure ?_)
  refine wpAny_bind ?_
  refine wpAny_of_eq (show _ = (pure true : Sem Bool) from rfl) ?_
  simp only [↓reduceIte]
  refine wpAny_bind (wpAny_storeSet_of g rfl ?_ (by show 1 ≤ sizeLine; rw [sizeLine_eq]; decide))
  rw [full_true]
  simp only [Bool.not_false, Bool.and_false, Bool.false_eq_true, ↓reduceIte]
  refine wpAny_pure (wpAny_pure ?_)
  show wpAny _ _ (ret Value.none) _ _ _
  refine wpAny_pure ⟨_, rfl, ?_⟩
  exact h _ _ _ (Heap.SameBut.update _ a _) (Heap.get?_update_self _ g rfl)
theorem set_add_again {a : Addr} {led : Bool} {ep : Nat} {Q : Value → Shared → Prop} (g : s.heap.get? a = some (setT led ep))
    (h : ∀ tk, Q .none { s with toks := tk }) :
    wpAny (model prog w) A (call (.builtin "set.add") [.ref a, .bool true]) Q E s := by
  refine wpAny_call_entry F.slot_set_add ⟨_, g, rfl⟩ F.entry_set_add ?_ (F.args_set_add_2 _ _)
  unfold Builtin.«set.add» Builtin.Frozenset.oneOther
  simp only [List.isEmpty_nil, bind_assoc]
  unfold Builtin.Frozenset.addrOf setAdd
  refine wpAny_bind (wpAny_pure ?_)
  try dsimp only
  refine wpAny_bind (wpAny_pure ?_)
  try dsimp only
  refine wpAny_bind ?_
  refine wpAny_holding ?_
  refine wpAny_bind (pyHash_true fun tk => ?_)
  unfold setAddHashed setAddHashedIn
  refine wpAny_holding (wpAny_bind (wpAny_setState_of g rfl (fits_true led) ?_))
  dsimp only
  rw [show byScan (.bool true) #[(1, .bool true)] = true from by decide +kernel]
  simp only [↓reduceIte]
  unfold setAddByScan
  refine wpAny_bind ?_
  refine wpAny_bind (wpAny_rule ?_)
  refine wpAny_bind ?_
  show wpAny _ _ (setScanFrom a (.bool true) 1 true [(1, .bool true)] 0) _ _ _
  unfold setScanFrom
  rw [if_pos (show ((1 : Int) == 1) = true from rfl)]
  refine wpAny_bind (wpAny_setEpoch_of g rfl (fits_true led) ?_)
  refine wpAny_bind ?_
  unfold eqBool
  refine wpAny_holding ?_
  rw [if_pos (show (Value.bool true == Value.bool true) = true from by decide +kernel)]
  refine wpAny_bind (wpAny_rule (wpAny_pure ?_))
  simp only [Bool.and_self, ↓reduceIte]
  refine wpAny_pure ?_
  dsimp only
  refine wpAny_pure (wpAny_pure ?_)
  show wpAny _ _ (ret Value.none) _ _ _
  exact wpAny_pure ⟨_, rfl, h _⟩
end
end
section
theorem slot_si_next : Slot "set_iterator" "__next__" "set_iterator.__next__" :=
  .of (owner := "set_iterator") (n := "__next__") (by rw [typeLookup_type, builtinLookup_eq_fast]; kernel_rfl) (by decide +kernel) (by decide +kernel) (by decide +kernel)
    (by first | exact .inl (by decide +kernel) | exact .inr (by decide +kernel)) (by rw [isSubtype_type]; kernel_rfl)
theorem entry_si_next : entryFor table "set_iterator.__next__" = some Builtin.«set_iterator.__next__» := entryFor_of_fast (by kernel_rfl)
theorem args_si_next (a : Value) : argsOk "set_iterator.__next__" ⟨[a], []⟩ := by unfold argsOk; kernel_rfl
theorem entry_set_iter : entryFor table "set.__iter__" = some Builtin.«frozenset.__iter__» :=
  entryFor_alias (id' := "frozenset.__iter__") (by kernel_rfl) rfl (by decide +kernel) (by kernel_rfl)
section
variable {prog : Program} {w : World} {A : Around} {E : Value → Shared → Prop} {s : Shared}
noncomputable abbrev siO (a : Addr) (ep : Nat) (p i : Int) : Obj := { cls := .type "set_iterator", data := .fields #[.int p 0, .int i 0, .ref a, .int 1 0, .int ep 0] }
theorem set_iter {a : Addr} {led : Bool} {ep : Nat} {Q : Value → Shared → Prop} (g : s.heap.get? a = some (setT led ep))
    (h : Q (.ref s.heap.objs.size) { s with heap := s.heap.push (siO a ep 0 0) }) :
    wpAny (model prog w) A (pyIter (.ref a)) Q E s := by
  have ht : s.TypeIs (.ref a) "set" := ⟨_, g, rfl⟩
  refine wpAny_pyIter_slot ht F.slot_set_iter (wpAny_call_entry F.slot_set_iter ht entry_set_iter ?_ (F.args_set_iter_1 _))
  unfold Builtin.«frozenset.__iter__» Builtin.Frozenset.slot0 slotArgs
  simp only [List.isEmpty_nil, Bool.not_true, Bool.false_eq_true, ↓reduceIte, bind_assoc, List.length_nil, bne_self_eq_false]
  unfold Builtin.Frozenset.addrOf Builtin.Frozenset.sizeOf
  refine wpAny_bind (wpAny_pure ?_)
  try dsimp only
  refine wpAny_bind (wpAny_pure ?_)
  try dsimp only
  refine wpAny_bind (wpAny_bind (wpAny_setEntries_of g rfl (fits_true led) (wpAny_pure ?_)))
  refine wpAny_bind ?_
  unfold setDrawn setsByText
  refine wpAny_bind (wpAny_setState_of g rfl (fits_true led) ?_)
  refine wpAny_bind (wpAny_bind (wpAny_askSetting (wpAny_pure ?_)))
  refine wpAny_of_eq (a := false) (congrArg pure (Bool.and_eq_false_iff.mpr (.inr rfl))) ?_
  simp only [Bool.false_eq_true, ↓reduceIte]
  refine wpAny_bind (wpAny_pure ?_)
  refine wpAny_bind (wpAny_setEpoch_of g rfl (fits_true led) ?_)
  refine wpAny_bind (wpAny_newObj_type (wpAny_pure ⟨_, rfl, "set_iterator", _, ⟨_, Heap.get?_push_size _ rfl, rfl⟩, slot_si_next.lookup, h⟩))
theorem pick_one {α : Type} (f : Nat → Nat) (x : α) : pickOrder f #[x] = #[x] := by
  unfold pickOrder
  show pickOrder.go f 1 0 [x] #[] = #[x]
  unfold pickOrder.go
  have : f 0 % [x].length = 0 := by simp [Nat.mod_one]
  simp only [this]
  rfl
theorem setWalk_text {a : Addr} {led : Bool} {ep : Nat} {Q : Array (Int × Value) → Shared → Prop} (g : s.heap.get? a = some (setT led ep)) (hw : w.params.followText "set-order" = true) (h : Q #[(1, .bool true)] s) : wpAny (model prog w) A (setWalk a) Q E s := by
  unfold setWalk setsByText
  refine wpAny_bind (wpAny_setState_of g rfl (fits_true led) ?_)
  dsimp only
  refine wpAny_bind (wpAny_bind (wpAny_askSetting (wpAny_pure ?_)))
  dsimp only
  show wpAny _ A (if w.params.followText "set-order" = true then _ else _) Q E s
  rw [if_pos hw]
  refine wpAny_bind (wpAny_askSetting ?_)
  rw [pick_one]
  exact wpAny_pure h
theorem setNext_first {a : Addr} {ep : Nat} {Q : Option (Value × Nat) → Shared → Prop} (g : s.heap.get? a = some (setT (ledOf w) ep)) (h : ∀ n, (n = 0 ∧ ledOf w = false) ∨ (n = 2 ∧ ledOf w = true) → Q (some (.bool true, n)) s) :
    wpAny (model prog w) A (setNext a 0 0 ep) Q E s := by
  unfold setNext
  refine wpAny_bind (wpAny_setState_of g rfl (fits_true _) ?_)
  dsimp only
  refine wpAny_bind ?_
  unfold setsByText
  refine wpAny_bind (wpAny_askSetting (wpAny_pure ?_))
  dsimp only
  cases hw : w.params.followText "set-order" with
  | true =>
    have hl : ledOf w = false := by unfold ledOf; rw [hw]; rfl
    show wpAny _ A (if w.params.followText "set-order" = true then _ else _) Q E s
    rw [if_pos hw]
    simp only [bne_self_eq_false, Bool.false_eq_true, ↓reduceIte]
    exact wpAny_bind (setWalk_text g hw (wpAny_pure (h 0 (.inl ⟨rfl, hl⟩))))
  | false =>
    have hl : ledOf w = true := by unfold ledOf; rw [hw]; rfl
    rw [hl]
    show wpAny _ A (if w.params.followText "set-order" = true then _ else _) Q E s
    rw [if_neg (by rw [hw]; decide)]
    refine wpAny_of_eq (a := some (.bool true, 2)) rfl ?_
    exact h 2 (.inr ⟨rfl, hl⟩)
theorem setNext_end {a : Addr} {ep n : Nat} {Q : Option (Value × Nat) → Shared → Prop} (g : s.heap.get? a = some (setT (ledOf w) ep)) (hn : (n = 0 ∧ ledOf w = false) ∨ (n = 2 ∧ ledOf w = true)) (h : Q none s) :
    wpAny (model prog w) A (setNext a n 1 ep) Q E s := by
  unfold setNext
  refine wpAny_bind (wpAny_setState_of g rfl (fits_true _) ?_)
  dsimp only
  refine wpAny_bind ?_
  unfold setsByText
  refine wpAny_bind (wpAny_askSetting (wpAny_pure ?_))
  dsimp only
  cases hw : w.params.followText "set-order" with
  | true =>
    show wpAny _ A (if w.params.followText "set-order" = true then _ else _) Q E s
    rw [if_pos hw]
    simp only [bne_self_eq_false, Bool.false_eq_true, ↓reduceIte]
    exact wpAny_bind (setWalk_text g hw (wpAny_pure h))
  | false =>
    have hl : ledOf w = true := by unfold ledOf; rw [hw]; rfl
    rcases hn with ⟨_, q⟩ | ⟨rfl, _⟩
    · rw [hl] at q; cases q
    rw [hl]
    show wpAny _ A (if w.params.followText "set-order" = true then _ else _) Q E s
    rw [if_neg (by rw [hw]; decide)]
    refine wpAny_of_eq (a := none) rfl ?_
    exact h
end
end
section
section
variable {prog : Program} {w : World} {A : Around} {E : Value → Shared → Prop} {s : Shared}
theorem si_first {a it : Addr} {ep : Nat} {Q : Option Value → Shared → Prop} (g : s.heap.get? a = some (setT (ledOf w) ep)) (gi : s.heap.get? it = some (siO a ep 0 0))
    (h : ∀ h' n, ((n = 0 ∧ ledOf w = false) ∨ (n = 2 ∧ ledOf w = true)) → Heap.SameBut it s.heap h' → h'.get? it = some (siO a ep ((n : Nat) : Int) 1) → Q (some (.bool true)) { s with heap := h' }) :
    wpAny (model prog w) A (pyNext (.ref it)) Q E s := by
  have hT : s.TypeIs (.ref it) "set_iterator" := ⟨_, gi, rfl⟩
  unfold pyNext
  refine wpAny_bind (wpAny_attempt (wpAny_callSpecial?_slot (name := Str.ofString "__next__") hT slot_si_next (wpAny_call_entry slot_si_next hT entry_si_next ?_ (args_si_next _))))
  show wpAny _ _ (fieldsOf (.ref it) >>= _) _ _ s
  refine wpAny_bind (wpAny_fieldsOf gi rfl ?_)
  show wpAny _ _ (setEntries a >>= _) _ _ s
  refine wpAny_bind (wpAny_setEntries_of g rfl (fits_true _) ?_)
  show wpAny _ _ (setNext a 0 0 ep >>= _) _ _ s
  refine wpAny_bind (setNext_first g fun n hn => ?_)
  show wpAny _ _ (setField (.ref it) 0 (rawInt n) >>= _) _ _ s
  refine wpAny_bind (wpAny_setField gi rfl (by show 0 < 5; decide) ?_)
  have g1 := Heap.get?_update_self (Obj.mapFields (·.setIfInBounds 0 (rawInt n))) gi rfl
  show wpAny _ _ (setField (.ref it) 1 (rawInt 1) >>= _) _ _ _
  refine wpAny_bind (wpAny_setField g1 rfl (by show 1 < 5; decide) ?_)
  have g2 := Heap.get?_update_self (Obj.mapFields (·.setIfInBounds 1 (rawInt 1))) g1 rfl
  exact wpAny_pure ⟨.bool true, rfl, wpAny_pure (h _ n hn ((Heap.SameBut.update ..).trans (Heap.SameBut.update ..)) g2)⟩
theorem si_end {a it : Addr} {ep n : Nat} {Q : Option Value → Shared → Prop} (hh : A.handled = none) (g : s.heap.get? a = some (setT (ledOf w) ep)) (hn : (n = 0 ∧ ledOf w = false) ∨ (n = 2 ∧ ledOf w = true)) (gi : s.heap.get? it = some (siO a ep ((n : Nat) : Int) 1))
    (h : ∀ h', Heap.ExtBut it s.heap h' → Q none { s with heap := h' }) :
    wpAny (model prog w) A (pyNext (.ref it)) Q E s := by
  have hT : s.TypeIs (.ref it) "set_iterator" := ⟨_, gi, rfl⟩
  unfold pyNext
  refine wpAny_bind (wpAny_attempt (wpAny_callSpecial?_slot (name := Str.ofString "__next__") hT slot_si_next (wpAny_call_entry slot_si_next hT entry_si_next ?_ (args_si_next _))))
  show wpAny _ _ (fieldsOf (.ref it) >>= _) _ _ s
  refine wpAny_bind (wpAny_fieldsOf gi rfl ?_)
  show wpAny _ _ (setEntries a >>= _) _ _ s
  refine wpAny_bind (wpAny_setEntries_of g rfl (fits_true _) ?_)
  show wpAny _ _ (setNext a n 1 ep >>= _) _ _ s
  refine wpAny_bind (setNext_end g hn ?_)
  show wpAny _ _ (setField (.ref it) 2 .none >>= _) _ _ s
  refine wpAny_bind (wpAny_setField gi rfl (by show 2 < 5; decide) ?_)
  show wpAny _ _ (newExc (.type "StopIteration") [] >>= _) _ _ _
  refine wpAny_bind ?_
  simp only [newExc, newTuple]
  refine wpAny_bind (wpAny_newObj_type ?_ (by size_fits))
  refine wpAny_bind (m := firstArgMember _ _) (wpAny_of_eq (a := Value.none) (by first | rfl | (simp only [firstArgMember]; rfl)) ?_)
  refine wpAny_newObj_type ?_ (by size_fits)
  simp only [raiseNew]
  refine wpAny_bind (wpAny_handled ?_)
  first | rw [show A.in1.handled = none from hh] | rw [hh]
  refine wpAny_bind (wpAny_pure (wpAny_throw ?_))
  refine wpAny_bind (wpAny_isInstance (T := "StopIteration") (b := true) ⟨_, Heap.get?_push_size _ rfl, rfl⟩ isSubtype_stop ?_)
  exact wpAny_pure (h _ (((Heap.SameBut.update ..).extBut.push _).push _))
theorem unpack_set {a : Addr} {ep : Nat} {Q : List Value → Shared → Prop} (hh : A.handled = none) (g : s.heap.get? a = some (setT (ledOf w) ep))
    (hQ : ∀ h', Ext s.heap h' → Q [.bool true] { s with heap := h' }) : wpAny (model prog w) A (unpackItems (.ref a) 1 none) Q E s := by
  have ht : s.TypeIs (.ref a) "set" := ⟨_, g, rfl⟩
  have hlt : a ≠ s.heap.objs.size := Nat.ne_of_lt (Heap.lt_size g)
  have fI : s.heap.get? s.heap.objs.size = none := Heap.get?_none_of_le (Nat.le_refl _)
  unfold unpackItems
  refine wpAny_bind ?_
  unfold notIterableAtAll
  refine wpAny_bind (wpAny_specialOf ht F.slot_set_iter.lookup ?_)
  refine wpAny_pure ?_
  simp only [Bool.false_eq_true, if_false]
  refine wpAny_bind (wpAny_holding (set_iter g ?_))
  refine wpAny_bind (wpAny_holding ?_)
  show wpAny _ _ (pyNext (.ref s.heap.objs.size) >>= _) _ _ _
  refine wpAny_bind (si_first (Heap.get?_push_of_some _ g) (Heap.get?_push_size _ rfl) fun h1 n hn x1 g1 => ?_)
  refine wpAny_bind (wpAny_holding ?_)
  show wpAny _ _ (pure []) _ _ _
  refine wpAny_pure (wpAny_pure ?_)
  rw [if_neg (by simp)]
  refine wpAny_bind (wpAny_holding (si_end hh (x1.extBut _ _ hlt (Heap.get?_push_of_some _ g)) hn g1 fun h2 x2 => ?_))
  simp only [Option.isSome_none, Bool.false_eq_true, if_false]
  exact wpAny_pure (hQ h2 fun b o e => x2 b o (fun q => by rw [q, fI] at e; cases e) (x1.extBut b o (fun q => by rw [q, fI] at e; cases e) (Heap.get?_push_of_some _ e)))
end
end
section
section
variable {prog : Program} {w : World} {A : Around} {E : Value → Shared → Prop} {s : Shared} {h₀ : Heap} {L : Addr} {m : Str → Option Value} {env : Env}
theorem eval_SetComp (elt gens scope pos) : eval (.SetComp elt gens scope pos) env =
    comprehension (.SetComp elt gens scope pos) scope env (firstIterPos gens pos) (newSet (.type "set")) (firstAsync gens) (firstIter gens env) := rfl
theorem compTurn_set1 (elt target iter : Expr) (scope : Scope) (pos : Pos) (it acc : Value) (env : Env) :
    compTurn (.SetComp elt [⟨target, iter, [], 0⟩] scope pos) 0 it acc env = (standAt iter.pos >>= fun _ => pyNext it >>= fun r => match r with
      | none => pure (.done .next)
      | some v => letOwnedTupleGo target it v >>= fun _ => assign target env v >>= fun _ =>
        (eval elt env >>= fun x => standAt elt.pos >>= fun _ => call (.builtin "set.add") [acc, x] >>= fun _ => pure ()) >>= fun _ =>
          again (.compLoop (.SetComp elt [⟨target, iter, [], 0⟩] scope pos) 0 it acc env)) := by rfl
theorem compStart_set {R : Result → Shared → Prop} {elt target iter scope pos it acc}
    (h0 : codeAny (model prog w) A (.compLoop (.SetComp elt [⟨target, iter, [], 0⟩] scope pos) 0 it acc env) R s)
    (h : wpAny (model prog w) A (pyIter it) (fun it' s' => codeAny (model prog w) A (.compLoop (.SetComp elt [⟨target, iter, [], 0⟩] scope pos) 0 it' acc env) R s')
      (notedBy (model prog w) A env fun x s' => R (.error x) s') s) :
    codeAny (model prog w) A (.compStart (.SetComp elt [⟨target, iter, [], 0⟩] scope pos) 0 it acc env) R s := by
  refine codeAny_of_tree ?_
  show wpAny _ _ ((compStart (.SetComp elt [⟨target, iter, [], 0⟩] scope pos) 0 it acc env).onRaise (fun x => do noteFrame x env; standAt theWindowsPlace)) _ _ s
  refine wpAny_notedAt ?_
  unfold compStart
  show wpAny _ _ (ask >>= _) _ _ s
  refine wpAny_bind (wpAny_askSetting (wpAny_ite ?_))
  split
  · first
      | exact wpAny_bind (wpAny_pure (wpAny_pure (And.intro rfl h0)))
      | exact wpAny_pure (And.intro rfl h0)
  · first
      | exact wpAny_bind (wpAny_rule (wpAny_bind (wpAny_standAt (wpAny_bind (wpAny_mono h (fun it' s' h' => wpAny_pure (And.intro rfl h')) fun _ _ x => x)))))
      | (refine wpAny_bind (wpAny_rule ?_); show wpAny _ _ (standAt iter.pos >>= _) _ _ s; exact wpAny_bind (wpAny_standAt (wpAny_bind (wpAny_mono h (fun it' s' h' => wpAny_pure (And.intro rfl h')) fun _ _ x => x))))
noncomputable def SetSrc (prog : Program) (w : World) (A : Around) (h₀ : Heap) (L : Addr) (m : Str → Option Value) (env : Env) (elt : Expr) (x : Str) (scope : Scope) (cl : List (Str × Addr)) (Q : Value → Shared → Prop) (xv : Value) (s₁ : Shared) : Prop :=
  ∃ ax v1 v2 n news, xv = .ref ax ∧ A.handled = none ∧ Fr h₀ L s₁.heap m ∧ News h₀ L s₁.heap news ∧ TupIn ax #[v1, v2] n news ∧
    (∀ v, v = v1 ∨ v = v2 → ∀ I oI C oC D oD m₂ h tk (E' : Value → Shared → Prop), LCg.NsObj oC m₂ → m₂ x = some v → Fr h₀ L h m → News h₀ L h ((I, oI) :: (C, oC) :: (D, oD) :: news) → LCg.Off3 I C D news → ((@Ne Nat I C) ∧ (@Ne Nat I D) ∧ (@Ne Nat C D)) →
      wpAny (model prog w) A (eval elt (compEnvC scope cl C env)) (fun y s₂ => y = .bool true ∧ ∃ h' tk', s₂ = { s₁ with heap := h', toks := tk' } ∧ Fr h₀ L h' m ∧ News h₀ L h' ((I, oI) :: (C, oC) :: (D, oD) :: news)) E' { s₁ with heap := h, toks := tk }) ∧
    ∀ D h tk ep, Fr h₀ L h m → News h₀ L h ((D, setT (ledOf w) ep) :: news) → LCg.Off1 D news → Q (.ref D) { s₁ with heap := h, toks := tk }
end
section
namespace SC
noncomputable abbrev V := Program × World × Around × (Value → Shared → Prop) × Shared × Heap × Addr × (Str → Option Value) × Env × Expr × Expr × Str × Pos × Scope × (List (Str × Addr)) × Pos × (Value → Shared → Prop)
noncomputable def S (prog : Program) (w : World) (A : Around) (E : Value → Shared → Prop) (s : Shared) (h₀ : Heap) (L : Addr) (m : Str → Option Value) (env : Env) (elt : Expr) (iter : Expr) (x : Str) (px : Pos) (scope : Scope) (cl : List (Str × Addr)) (pos : Pos) (Q : Value → Shared → Prop) : Prop :=
  (Fr h₀ L s.heap m) →
  (closureFor scope env = pure cl) →
  (∀ y ∈ scope.names, y.2 ≠ .cell) →
  (scope.kind = .function) →
  (∀ y ∈ scope.names, y.2 = .local → scope.names.lookup y.1 = some .local) →
  (scope.names.lookup x = some .local) →
  (wpAny (model prog w) A (eval iter env) (SetSrc prog w A h₀ L m env elt x scope cl Q) E s) →
  (∀ x, foldedSetIterable iter env x = pure x) →
  wpAny (model prog w) A (eval (.SetComp elt [⟨.Name x px, iter, [], 0⟩] scope pos) env) Q E s
noncomputable def SV (v : V) : Prop := S v.1 v.2.1 v.2.2.1 v.2.2.2.1 v.2.2.2.2.1 v.2.2.2.2.2.1 v.2.2.2.2.2.2.1 v.2.2.2.2.2.2.2.1 v.2.2.2.2.2.2.2.2.1 v.2.2.2.2.2.2.2.2.2.1 v.2.2.2.2.2.2.2.2.2.2.1 v.2.2.2.2.2.2.2.2.2.2.2.1 v.2.2.2.2.2.2.2.2.2.2.2.2.1 v.2.2.2.2.2.2.2.2.2.2.2.2.2.1 v.2.2.2.2.2.2.2.2.2.2.2.2.2.2.1 v.2.2.2.2.2.2.2.2.2.2.2.2.2.2.2.1 v.2.2.2.2.2.2.2.2.2.2.2.2.2.2.2.2
noncomputable def v : V := @Classical.epsilon V ⟨⟨PySem.Challenge.rw_ik0192_01.prog, w00, {}, fun _ _ => True, {}, {}, 0, fun _ => none, { scope := default, locals := 0, globals := 0, cells := [] }, default, default, default, default, default, [], default, fun _ _ => True⟩⟩ fun v => ¬ SV v
@[irreducible] noncomputable def prog : Program := v.1
@[irreducible] noncomputable def w : World := v.2.1
@[irreducible] noncomputable def A : Around := v.2.2.1
@[irreducible] noncomputable def E : Value → Shared → Prop := v.2.2.2.1
@[irreducible] noncomputable def s : Shared := v.2.2.2.2.1
@[irreducible] noncomputable def h₀ : Heap := v.2.2.2.2.2.1
@[irreducible] noncomputable def L : Addr := v.2.2.2.2.2.2.1
@[irreducible] noncomputable def m : Str → Option Value := v.2.2.2.2.2.2.2.1
@[irreducible] noncomputable def env : Env := v.2.2.2.2.2.2.2.2.1
@[irreducible] noncomputable def elt : Expr := v.2.2.2.2.2.2.2.2.2.1
@[irreducible] noncomputable def iter : Expr := v.2.2.2.2.2.2.2.2.2.2.1
@[irreducible] noncomputable def x : Str := v.2.2.2.2.2.2.2.2.2.2.2.1
@[irreducible] noncomputable def px : Pos := v.2.2.2.2.2.2.2.2.2.2.2.2.1
@[irreducible] noncomputable def scope : Scope := v.2.2.2.2.2.2.2.2.2.2.2.2.2.1
@[irreducible] noncomputable def cl : List (Str × Addr) := v.2.2.2.2.2.2.2.2.2.2.2.2.2.2.1
@[irreducible] noncomputable def pos : Pos := v.2.2.2.2.2.2.2.2.2.2.2.2.2.2.2.1
@[irreducible] noncomputable def Q : Value → Shared → Prop := v.2.2.2.2.2.2.2.2.2.2.2.2.2.2.2.2
theorem all : S prog w A E s h₀ L m env elt iter x px scope cl pos Q := by
  unfold S
  intro F₀ hclos hcell hkind hnames hx h hs
  rw [eval_SetComp]
  refine wpAny_comprehension_free (use := none) rfl hs hclos hkind hnames (wpAny_mono h (fun xv s₁ h₁ => ?_) fun _ _ e => e)
  refine hidG fun G_ hG_ => ?_
  obtain ⟨ax, v1, v2, n, news, rfl, hh, F, N, S, hev, hfin⟩ := h₁
  refine hG_ ?_
  clear hG_
  have hl : s₁.heap.IsTuple ax #[v1, v2] := ⟨_, (N _ S).1, rfl, _, rfl⟩
  have hlt : ax < s₁.heap.objs.size := Heap.lt_size (N _ S).1
  refine wpAny_pyIter_tuple hl ?_
  generalize hI : s₁.heap.objs.size = I
  have up : ∀ b o, s₁.heap.get? b = some o → (s₁.heap.push { cls := .type "tuple_iterator", data := .fields #[.ref ax, .int 0 0] }).get? b = some o := fun b o e => Heap.get?_push_of_some _ e
  have st0 : (s₁.heap.push { cls := .type "tuple_iterator", data := .fields #[.ref ax, .int 0 0] }).IsTupleIter I ax 0 := ⟨_, hI ▸ Heap.get?_push_size _ rfl, rfl, rfl⟩
  have sz : (s₁.heap.push { cls := .type "tuple_iterator", data := .fields #[.ref ax, .int 0 0] }).objs.size = I + 1 := by rw [Heap.size_push, hI]
  have F1 := F.keeps up
  have N1 := N.grown up
  have nI : I ≠ L := by rw [← hI]; exact Ne.symm (Nat.ne_of_lt F.ns.lt)
  have I0 : h₀.get? I = none := hI ▸ next_is_new F
  have offI : ∀ p ∈ news, p.1 < I := fun p hp => hI ▸ Heap.lt_size (N p hp).1
  have axI : ax ≠ I := hI ▸ Nat.ne_of_lt hlt
  have hLI : L < I := hI ▸ F.ns.lt
  try dsimp only
  generalize (s₁.heap.push { cls := .type "tuple_iterator", data := .fields #[.ref ax, .int 0 0] }) = g1 at st0 sz F1 N1 ⊢
  refine newSet_led ?_
  have q1 : (g1.push (setE (ledOf w))).get? (I + 1) = some (setE (ledOf w)) := by rw [← sz]; exact Heap.get?_push_size _ rfl
  have up1 : ∀ b o, g1.get? b = some o → (g1.push (setE (ledOf w))).get? b = some o := fun b o e => Heap.get?_push_of_some _ e
  have F2 := F1.keeps up1
  have N2 := N1.grown up1
  have st1 := st0.at (h' := g1.push (setE (ledOf w))) fun o e => up1 _ o e
  have sz1 : (g1.push (setE (ledOf w))).objs.size = I + 2 := by rw [Heap.size_push, sz]
  have D0 : h₀.get? (I + 1) = none := by
    cases q : h₀.get? (I + 1) with
    | none => rfl
    | some o => have := Heap.lt_size (F1.keep _ _ q); rw [sz] at this; exact absurd this (Nat.lt_irrefl _)
  try dsimp only
  rw [sz]
  generalize g1.push (setE (ledOf w)) = g2 at q1 F2 N2 st1 sz1 ⊢
  refine wpAny_newFunctionEnv hcell (by intro y hy; simp at hy) (fun h₁ hns₁ hsb₁ => ?_) hkind
  dsimp only at hns₁ hsb₁ ⊢
  rw [sz1] at hns₁ hsb₁ ⊢
  have C0 : h₀.get? (I + 2) = none := by
    cases q : h₀.get? (I + 2) with
    | none => rfl
    | some o => have := Heap.lt_size (F2.keep _ _ q); rw [sz1] at this; exact absurd this (Nat.lt_irrefl _)
  have old : ∀ b o, g2.get? b = some o → h₁.get? b = some o := fun b o e => hsb₁.extBut b o (by have := Heap.lt_size e; rw [sz1] at this; exact Nat.ne_of_lt this) (Heap.get?_push_of_some _ e)
  have I1L : I + 1 ≠ L := Ne.symm (Nat.ne_of_lt (Nat.lt_succ_of_lt hLI))
  have I2L : I + 2 ≠ L := Ne.symm (Nat.ne_of_lt (Nat.lt_succ_of_lt (Nat.lt_succ_of_lt hLI)))
  have n01 : I ≠ I + 1 := Nat.ne_of_lt (Nat.lt_succ_self _)
  have n02 : I ≠ I + 2 := Nat.ne_of_lt (Nat.lt_succ_of_lt (Nat.lt_succ_self _))
  have n12 : I + 1 ≠ I + 2 := Nat.ne_of_lt (Nat.lt_succ_self _)
  have off3 : LCg.Off3 I (I + 2) (I + 1) news := LCg.Off3.of fun p hp => ⟨Nat.ne_of_lt (offI p hp), Nat.ne_of_lt (Nat.lt_of_lt_of_le (offI p hp) (Nat.le_add_right _ _)), Nat.ne_of_lt (Nat.lt_succ_of_lt (offI p hp))⟩
  have loop : ∀ s₃ : Shared, s₃ = { s₁ with heap := h₁, toks := s₁.toks + ([] : List (Str × Value)).length } →
      codeAny (model prog w) A (.compLoop (.SetComp elt [⟨.Name x px, iter, [], 0⟩] scope pos) 0 (.ref I) (.ref (I + 1)) (compEnvC scope cl (I + 2) env))
        (compPost (model prog w) A E none Q (.ref (I + 1)) (I + 2)) s₃ := by
    rintro s₃ rfl
    refine codeAny_loop rfl
      (fun k s' => ∃ h' tk i m' oD, s' = { s₁ with heap := h', toks := tk } ∧ i ≤ 2 ∧ k = 3 - i ∧ h'.IsTupleIter I ax i ∧ Fr h₀ L h' m ∧ h'.Ns (I + 2) m' ∧ News h₀ L h' ((I + 1, oD) :: news) ∧ ((i = 0 ∧ oD = setE (ledOf w)) ∨ (0 < i ∧ ∃ ep, oD = setT (ledOf w) ep))) (fun k s' hI => ?_) 3
      ⟨h₁, _, 0, _, setE (ledOf w), rfl, Nat.zero_le _, rfl, st1.at fun o e => old _ o e, F2.keeps old, hns₁, fun p hp => ?_, .inl ⟨rfl, rfl⟩⟩
    · refine hidG fun G_ hG_ => ?_
      obtain ⟨h', tk, i, m', oD, rfl, hi, rfl, hst, F', hn', N', hD⟩ := hI
      refine hG_ ?_
      clear hG_
      show wpAny _ _ ((compTurn (.SetComp elt [⟨.Name x px, iter, [], 0⟩] scope pos) 0 (.ref I) (.ref (I + 1)) (compEnvC scope cl (I + 2) env)).onRaise (fun x => do noteFrame x (compEnvC scope cl (I + 2) env); theTreesLotGoes x)) _ _ _
      refine wpAny_noted ?_
      rw [compTurn_set1]
      have hl' : h'.IsTuple ax #[v1, v2] := ⟨_, (N' _ (.tail _ S)).1, rfl, _, rfl⟩
      by_cases hlt2 : i < 2
      · have hv : ∃ v, (v = v1 ∨ v = v2) ∧ (#[v1, v2] : Array Value)[i]? = some v := by
          have h01 := (Nat.lt_or_eq_of_le (Nat.le_of_lt_succ hlt2)).imp Nat.lt_one_iff.mp id
          rcases h01 with e | e
          · exact ⟨v1, .inl rfl, by rw [e]; rfl⟩
          · exact ⟨v2, .inr rfl, by rw [e]; rfl⟩
        refine hidG fun G_ hG_ => ?_
        obtain ⟨v, hv, hvi⟩ := hv
        refine hG_ ?_
        clear hG_
        refine wpAny_bind (wpAny_standAt (wpAny_bind (wpAny_pyNext_tuple_item hst hl' hvi fun h2 st2 x2 => ?_)))
        dsimp only
        refine wpAny_bind (wpAny_of_eq (a := ()) rfl ?_)
        have k2 : ∀ b o, b ∉ [I] → h'.get? b = some o → h2.get? b = some o := fun b o hb e => x2.extBut b o (fun q => hb (by rw [q]; exact .head _)) e
        refine wpAny_bind (wpAny_assign_Name (wpAny_storeName_local (lookup_relabel_local hx) (hn'.at' fun o e => k2 _ o (by simpa using Ne.symm n02) e) (fun h3 hn3 hs3 => ?_) (by simp [compEnvC, relabel, hkind])))
        have st3 := st2.at (h' := h3) fun o e => hs3.extBut _ o n02 e
        refine hidG fun G_ hG_ => ?_
        obtain ⟨oI, gI, _⟩ := id st3
        refine hG_ ?_
        clear hG_
        refine hidG fun G_ hG_ => ?_
        obtain ⟨oC, gC, hoC⟩ := LCg.ns_obj hn3
        refine hG_ ?_
        clear hG_
        have F3 : Fr h₀ L h3 m := (LCg.fr_but F' k2 (Ne.symm nI) I0).change hs3 I2L C0
        have N2' : News h₀ L h2 ((I + 1, oD) :: news) := LCg.news_but N' k2 fun p hp => by
          rcases List.mem_cons.mp hp with rfl | hp
          · exact Ne.symm n01
          · exact Nat.ne_of_lt (offI p hp)
        have N3 : News h₀ L h3 ((I, oI) :: (I + 2, oC) :: (I + 1, oD) :: news) := fun p hp => by
          rcases List.mem_cons.mp hp with rfl | hp
          · exact ⟨gI, nI, I0⟩
          · rcases List.mem_cons.mp hp with rfl | hp
            · exact ⟨gC, I2L, C0⟩
            · have z := N2' p hp
              refine ⟨hs3.extBut _ _ ?_ z.1, z.2⟩
              rcases List.mem_cons.mp hp with rfl | hp
              · exact n12
              · exact Nat.ne_of_lt (Nat.lt_of_lt_of_le (offI p hp) (Nat.le_add_right _ _))
        refine wpAny_bind (wpAny_bind (wpAny_mono (hev v hv I oI (I + 2) oC (I + 1) oD _ h3 _ _ hoC (by simp) F3 N3 off3 ⟨n02, n01, Ne.symm n12⟩) (fun y s4 h4 => ?_) fun _ _ e => e))
        refine hidG fun G_ hG_ => ?_
        obtain ⟨rfl, h4, tk4, rfl, F4, N4⟩ := h4
        refine hG_ ?_
        clear hG_
        have zI := (N4 (I, oI) (.head _)).1
        have zC := (N4 (I + 2, oC) (.tail _ (.head _))).1
        have zD := (N4 (I + 1, oD) (.tail _ (.tail _ (.head _)))).1
        have N4' : News h₀ L h4 news := fun p hp => N4 p (.tail _ (.tail _ (.tail _ hp)))
        have st4 := st3.at (h' := h4) fun o e => by rw [gI] at e; cases e; exact zI
        have hn4 := hoC.ns zC
        refine wpAny_bind (wpAny_standAt (wpAny_bind ?_))
        have fin : ∀ (h5 : Heap) (tk5 : Nat) (oD' : Obj), Heap.SameBut (I + 1) h4 h5 → h5.get? (I + 1) = some oD' → (∃ ep, oD' = setT (ledOf w) ep) →
            ∃ k', k' < 3 - i ∧ ∃ h' tk i m' oD, ({ s₁ with heap := h5, toks := tk5 } : Shared) = { s₁ with heap := h', toks := tk } ∧ i ≤ 2 ∧ k' = 3 - i ∧ h'.IsTupleIter I ax i ∧ Fr h₀ L h' m ∧ h'.Ns (I + 2) m' ∧ News h₀ L h' ((I + 1, oD) :: news) ∧ ((i = 0 ∧ oD = setE (ledOf w)) ∨ (0 < i ∧ ∃ ep, oD = setT (ledOf w) ep)) := by
          intro h5 tk5 oD' x5 g5 hD'
          refine ⟨3 - (i + 1), Nat.sub_lt_sub_left (Nat.lt_succ_of_lt hlt2) (Nat.lt_succ_self i), h5, tk5, i + 1, _, oD', rfl, hlt2, rfl, st4.at fun o e => x5.extBut _ o n01 e, F4.change x5 I1L D0, hn4.sameBut x5 (Ne.symm n12), fun p hp => ?_, .inr ⟨Nat.succ_pos _, hD'⟩⟩
          rcases List.mem_cons.mp hp with rfl | hp
          · exact ⟨g5, I1L, D0⟩
          · exact ⟨x5.extBut _ _ (Nat.ne_of_lt (Nat.lt_succ_of_lt (offI p hp))) (N4' p hp).1, (N4' p hp).2⟩
        rcases hD with ⟨_, rfl⟩ | ⟨_, ep, rfl⟩
        · exact set_add_new zD fun h5 tk5 ep x5 g5 => wpAny_pure (wpAny_pure ⟨rfl, fin h5 tk5 _ x5 g5 ⟨ep, rfl⟩⟩)
        · exact set_add_again zD fun tk5 => wpAny_pure (wpAny_pure ⟨rfl, fin h4 tk5 _ (Heap.SameBut.refl ..) zD ⟨ep, rfl⟩⟩)
      · obtain rfl : i = 2 := Nat.le_antisymm hi (Nat.not_lt.mp hlt2)
        refine wpAny_bind (wpAny_standAt (wpAny_bind (wpAny_pyNext_tuple_end hh hst hl' rfl fun h2 x2 => ?_)))
        have k2 : ∀ b o, b ∉ [I] → h'.get? b = some o → h2.get? b = some o := fun b o hb e => x2 b o (fun q => hb (by rw [q]; exact .head _)) e
        have F2' := LCg.fr_but F' k2 (Ne.symm nI) I0
        have N2' : News h₀ L h2 ((I + 1, oD) :: news) := LCg.news_but N' k2 fun p hp => by
          rcases List.mem_cons.mp hp with rfl | hp
          · exact Ne.symm n01
          · exact Nat.ne_of_lt (offI p hp)
        rcases hD with ⟨q, _⟩ | ⟨_, ep, rfl⟩
        · cases q
        refine wpAny_pure ⟨m', hn'.at' fun o e => k2 _ o (by simpa using Ne.symm n02) e, fun h3 x3 => ?_⟩
        refine hfin (I + 1) h3 tk ep (F2'.change x3 I2L C0) (fun p hp => ⟨x3.extBut _ _ ?_ (N2' p hp).1, (N2' p hp).2⟩) (off1_of fun p hp => Nat.ne_of_lt (Nat.lt_succ_of_lt (offI p hp)))
        rcases List.mem_cons.mp hp with rfl | hp
        · exact n12
        · exact Nat.ne_of_lt (Nat.lt_of_lt_of_le (offI p hp) (Nat.le_add_right _ _))
    · rcases List.mem_cons.mp hp with rfl | hp
      · exact ⟨old _ _ q1, I1L, D0⟩
      · exact ⟨old _ _ (N2 p hp).1, (N2 p hp).2⟩
  exact compStart_set (loop _ rfl) (wpAny_pyIter_tupleiter (st1.at fun o e => old _ o e) (loop _ rfl))
theorem fin (v' : V) : SV v' := by
  apply Classical.byContradiction
  intro n
  exact @Classical.epsilon_spec V (fun v => ¬ SV v) ⟨v', n⟩ (by with_unfolding_all exact all)
end SC
theorem setcomp_T {prog : Program} {w : World} {A : Around} {E : Value → Shared → Prop} {s : Shared} {h₀ : Heap} {L : Addr} {m : Str → Option Value} {env : Env} {elt iter : Expr} {x : Str} {px : Pos} {scope : Scope} {cl : List (Str × Addr)} {pos : Pos} {Q : Value → Shared → Prop} (F₀ : Fr h₀ L s.heap m)
    (hclos : closureFor scope env = pure cl) (hcell : ∀ y ∈ scope.names, y.2 ≠ .cell) (hkind : scope.kind = .function)
    (hnames : ∀ y ∈ scope.names, y.2 = .local → scope.names.lookup y.1 = some .local) (hx : scope.names.lookup x = some .local)
    (h : wpAny (model prog w) A (eval iter env) (SetSrc prog w A h₀ L m env elt x scope cl Q) E s)
    (hs : ∀ x, foldedSetIterable iter env x = pure x := by intro _; rfl) :
    wpAny (model prog w) A (eval (.SetComp elt [⟨.Name x px, iter, [], 0⟩] scope pos) env) Q E s :=
  SC.fin ⟨prog, w, A, E, s, h₀, L, m, env, elt, iter, x, px, scope, cl, pos, Q⟩ F₀ hclos hcell hkind hnames hx h hs
end
end
section
section
variable {prog : Program} {w : World} {A : Around} {E : Value → Shared → Prop} {s : Shared} {h₀ : Heap} {L : Addr} {m : Str → Option Value} {env : Env}
theorem assign_set1 {y : Str} {py pos : Pos} {c : _} {D : Addr} {ep : Nat} {news : List (Addr × Obj)} {Q : Unit → Shared → Prop} (F : Fr h₀ L s.heap m) (N : News h₀ L s.heap news) (hh : A.handled = none) (g : (D, setT (ledOf w) ep) ∈ news) (hL : env.locals = L) (hy : env.kindOf y = some .local)
    (hp : (env.scope.kind == .class || (env.scope.kind == .module && env.locals != env.globals)) = false)
    (h : ∀ h' tk, Fr h₀ L h' (fun z => if z = y then some (.bool true) else m z) → News h₀ L h' news → Q () { s with heap := h', toks := tk }) :
    wpAny (model prog w) A (assign (.Tuple [.Name y py] c pos) env (.ref D)) Q E s := by
  subst hL
  rw [arm_assign_Tuple]
  refine wpAny_bind (wpAny_standAt ?_)
  unfold unpack
  refine wpAny_bind (wpAny_holding ?_)
  show wpAny _ _ (unpackItems (.ref D) 1 none) _ _ _
  refine unpack_set hh (N _ g).1 fun h1 x1 => ?_
  show wpAny _ _ (assignInOrder [assign (.Name y py) env] [.bool true]) _ _ _
  unfold assignInOrder
  have F1 := fr_ext F x1
  have N1 := news_ext N x1
  refine wpAny_bind (wpAny_holding (wpAny_assign_Name (wpAny_storeName_local hy F1.ns (fun h₂ hn₂ hs₂ => ?_) hp)))
  show wpAny _ _ (pure ()) _ _ _
  have hL₀ : h₀.get? env.locals = none := Heap.get?_none_of_le F1.above
  refine wpAny_pure (h h₂ _ ⟨hn₂, fun b o e => hs₂.extBut b o (fun q => by rw [q, hL₀] at e; cases e) (F1.keep b o e), F1.above⟩ fun p hp => ⟨hs₂.extBut _ _ (N1 p hp).2.1 (N1 p hp).1, (N1 p hp).2⟩)
end
end
section
noncomputable def lcpL : List Str → List Str → List Str
  | a :: r, b :: t => if a = b then a :: lcpL r t else []
  | _, _ => []
theorem lcp_brk : ∀ {ns ms : List Str} {q : Nat} {a b : Str}, ns.take q = ms.take q → ns[q]? = some a → ms[q]? = some b → a ≠ b → lcpL ns ms = ns.take q
  | x :: r, y :: t, 0, a, b, _, h1, h2, h3 => by
    have e1 : x = a := by simpa using h1
    have e2 : y = b := by simpa using h2
    subst e1 e2
    simp [lcpL, h3]
  | x :: r, y :: t, q + 1, a, b, h, h1, h2, h3 => by
    simp only [List.take_succ_cons, List.cons.injEq] at h
    obtain ⟨rfl, h⟩ := h
    simp only [lcpL, if_true, List.take_succ_cons]
    rw [lcp_brk h (by simpa using h1) (by simpa using h2) h3]
  | [], _, _, _, _, _, h1, _, _ => by simp at h1
  | _ :: _, [], _, _, _, _, _, h2, _ => by simp at h2
theorem lcp_end : ∀ {ns ms : List Str}, ns = ms.take ns.length → lcpL ns ms = ns
  | [], _, _ => by simp [lcpL]
  | x :: r, [], h => by simp at h
  | x :: r, y :: t, h => by
    simp only [List.length_cons, List.take_succ_cons, List.cons.injEq] at h
    obtain ⟨rfl, h⟩ := h
    simp only [lcpL, if_true]
    rw [lcp_end h]
noncomputable def loN (ns ms : List Str) : List Str := if ltL ms ns = true then ms else ns
noncomputable def hiN (ns ms : List Str) : List Str := if ltL ns ms = true then ms else ns
section
variable {w : World} {dp un : Nat} {news : List (Addr × Obj)} {gd : Option (List Code)} {cn : Str} {cs : Scope} {a : Addr} {ccd : Value} {cl : List (Str × Addr)} {outer : List Env} {A₀ : Around} {base h₀ : Heap} {L : Addr}
   {m : Str → Option Value} {s : Shared} {mean : ExcName → Option Value} {mg mb : Str → Option Value} {Q E : Value → Shared → Prop} {prog : Program} {A : Around}
theorem min_spec {l p q : Addr} {xs ys : List Value} {ns ms : List Str} {n1 n2 n3 : Nat} (F : Fr h₀ L s.heap m) (N : News h₀ L s.heap news) (hl : (l, lobj [.ref p, .ref q] n3) ∈ news) (hp : (p, lobj xs n1) ∈ news) (hq : (q, lobj ys n2) ∈ news)
    (hx : StrsAre xs ns) (hy : StrsAre ys ms) (hh : A.handled = none) (hu : A.in1.units < cLine)
    (ret : ∀ h' tk b vs n, Fr h₀ L h' m → News h₀ L h' ((b, lobj vs n) :: news) → StrsAre vs (loN ns ms) → Q (.ref b) { s with heap := h', toks := tk }) :
    wpAny (model prog w) A (call (.builtin "min") [.ref l]) Q E s := by
  refine call_min2 (r := ltL ms ns) hh (N _ hl).1 (fun s' Q' E' x hQ => rc_lt hy hx ⟨_, x _ _ (N _ hq).1⟩ ⟨_, x _ _ (N _ hp).1⟩ hu hQ) fun h' tk x => ?_
  have F' := fr_ext F x
  have N' := news_ext N x
  cases e : ltL ms ns with
  | true =>
    refine ret h' tk q ys n2 F' (fun z hz => ?_) (by unfold loN; rw [e]; exact hy)
    rcases List.mem_cons.mp hz with rfl | hz
    · exact N' _ hq
    · exact N' _ hz
  | false =>
    refine ret h' tk p xs n1 F' (fun z hz => ?_) (by unfold loN; rw [e]; exact hx)
    rcases List.mem_cons.mp hz with rfl | hz
    · exact N' _ hp
    · exact N' _ hz
theorem max_spec {l p q : Addr} {xs ys : List Value} {ns ms : List Str} {n1 n2 n3 : Nat} (F : Fr h₀ L s.heap m) (N : News h₀ L s.heap news) (hl : (l, lobj [.ref p, .ref q] n3) ∈ news) (hp : (p, lobj xs n1) ∈ news) (hq : (q, lobj ys n2) ∈ news)
    (hx : StrsAre xs ns) (hy : StrsAre ys ms) (hh : A.handled = none) (hu : A.in1.units < cLine)
    (ret : ∀ h' tk b vs n, Fr h₀ L h' m → News h₀ L h' ((b, lobj vs n) :: news) → StrsAre vs (hiN ns ms) → Q (.ref b) { s with heap := h', toks := tk }) :
    wpAny (model prog w) A (call (.builtin "max") [.ref l]) Q E s := by
  refine call_max2 (r := ltL ns ms) hh (N _ hl).1 (fun s' Q' E' x hQ => rc_gt hy hx ⟨_, x _ _ (N _ hq).1⟩ ⟨_, x _ _ (N _ hp).1⟩ hu hQ) fun h' tk x => ?_
  have F' := fr_ext F x
  have N' := news_ext N x
  cases e : ltL ns ms with
  | true =>
    refine ret h' tk q ys n2 F' (fun z hz => ?_) (by unfold hiN; rw [e]; exact hy)
    rcases List.mem_cons.mp hz with rfl | hz
    · exact N' _ hq
    · exact N' _ hz
  | false =>
    refine ret h' tk p xs n1 F' (fun z hz => ?_) (by unfold hiN; rw [e]; exact hx)
    rcases List.mem_cons.mp hz with rfl | hz
    · exact N' _ hp
    · exact N' _ hz
end
end
section
section
variable {prog : Program} {w : World} {A : Around} {E : Value → Shared → Prop} {s : Shared} {env : Env} {h₀ : Heap} {body : List Stmt} {Q : Flow → Shared → Prop}
noncomputable def EnumPost (h₀ : Heap) (L : Addr) (s₁ : Shared) (its : List (Addr × Obj)) (Inv Fin : (Str → Option Value) → List (Addr × Obj) → Prop) (f : Flow) (s₂ : Shared) : Prop :=
  match f with
  | .ret _ => False
  | .brk => ∃ h' tk m' nw, s₂ = { s₁ with heap := h', toks := tk } ∧ Fr h₀ L h' m' ∧ News h₀ L h' nw ∧ Fin m' nw
  | _ => UnrEndW h₀ L s₁ its Inv s₂
theorem enum_inv {elts : List Expr} {k : Nat} {pos : Pos} {l : Addr} {vs : List Value} {n : Nat} {m₀ : Str → Option Value} {news : List (Addr × Obj)} (Inv : Nat → (Str → Option Value) → List (Addr × Obj) → Prop) (Fin : (Str → Option Value) → List (Addr × Obj) → Prop)
    (hh : A.handled = none) (F : Fr h₀ env.locals s.heap m₀) (N : News h₀ env.locals s.heap news) (hm : (l, lobj vs n) ∈ news) (h0 : Inv 0 m₀ news) (hk : ∀ q m nw, Inv q m nw → (l, lobj vs n) ∈ nw)
    (turn : ∀ q v m nw T t h tk I oI oE, vs[q]? = some v → Inv q m nw → (∀ p ∈ news, p.1 < I) → IsTup h T #[.int (q : Int) t, v] → Fr h₀ env.locals h m → oE.cls = .type "enumerate" → oI.cls = .type "list_iterator" → News h₀ env.locals h ((I + 1, oE) :: (I, oI) :: nw) →
      wpAny (model prog w) A (assign (.Tuple elts k pos) env (.ref T)) (fun _ s₂ => wpAny (model prog w) A (execs body env) (EnumPost h₀ env.locals { s with heap := h, toks := tk } [(I + 1, oE), (I, oI)] (Inv (q + 1)) Fin) E s₂) E { s with heap := h, toks := tk })
    (done : ∀ m nw, Inv vs.length m nw → Fin m nw)
    (fin : ∀ m nw h tk, Fr h₀ env.locals h m → News h₀ env.locals h nw → Fin m nw → Q .next { s with heap := h, toks := tk }) :
    wpAny (model prog w) A (call (.type "enumerate") [.ref l]) (fun xv s₁ => wpAny (model prog w) A (pyIter xv) (fun it s₂ => TurnsAt prog w A h₀ env (.Tuple elts k pos) body Q E it s₂) E s₁) E s := by
  refine ktu_enum (lo := lobj vs n) hh F N hm rfl rfl rfl fun I hI => ?_
  have all : ∀ j q m nw, vs.length - q = j → q ≤ vs.length → Inv q m nw → ItemsRest prog w A E h₀ env (.Tuple elts k pos) body Q s [(I + 1, "enumerate"), (I, "list_iterator")] [(l, lobj vs n)] (enumItems q (vs.drop q)) m nw := by
    intro j
    induction j with
    | zero =>
      intro q m nw hj hq hi
      have e : vs.drop q = [] := List.drop_eq_nil_of_le (by omega)
      rw [e]
      refine ItemsRest.zero fun h tk F' N' => ?_
      have hq' : q = vs.length := by omega
      exact fin m nw h tk F' N' (done m nw (hq' ▸ hi))
    | succ j ih =>
      intro q m nw hj hq hi
      have hlt : q < vs.length := by omega
      rw [List.drop_eq_getElem_cons hlt]
      show ItemsRest prog w A E h₀ env (.Tuple elts k pos) body Q s _ _ (.pair (fun t => .int (q : Int) t) vs[q] :: enumItems (q + 1) (vs.drop (q + 1))) m nw
      refine ItemsRest.pair fun T t h tk hT F' => ?_
      refine AllObj.cons fun oE hE => AllObj.cons fun oI hI' => AllObj.nil fun N' => ?_
      refine wpAny_mono (turn q vs[q] m nw T t h tk I oI oE (List.getElem?_eq_getElem hlt) hi hI hT F' hE hI' N') (fun _ s₂ h₂ => wpAny_mono h₂ (fun f s₃ h₃ => ?_) fun _ _ e => e) fun _ _ e => e
      have nx : UnrEndW h₀ env.locals { s with heap := h, toks := tk } [(I + 1, oE), (I, oI)] (Inv (q + 1)) s₃ → UnrEndW h₀ env.locals { s with heap := h, toks := tk } [(I + 1, oE), (I, oI)] (fun m' n' => SubL [(l, lobj vs n)] n' ∧ ItemsRest prog w A E h₀ env (.Tuple elts k pos) body Q s [(I + 1, "enumerate"), (I, "list_iterator")] [(l, lobj vs n)] (enumItems (q + 1) (vs.drop (q + 1))) m' n') s₃ := by
        rintro ⟨h', tk', m', nw', e, F'', N'', off, hi'⟩
        exact ⟨h', tk', m', nw', e, F'', N'', off, ⟨hk _ _ _ hi', trivial⟩, ih (q + 1) m' nw' (sub_st (by assumption)) hlt hi'⟩
      cases f with
      | ret v => exact (show False from h₃).elim
      | brk =>
        obtain ⟨h', tk', m', nw', rfl, F'', N'', hf⟩ := h₃
        exact fin m' nw' h' tk' F'' N'' hf
      | next => exact nx h₃
      | cont => exact nx h₃
  have := all vs.length 0 m₀ news rfl (Nat.zero_le _) h0
  rwa [List.drop_zero] at this
end
end
section
section
variable {prog : Program} {w : World} {A : Around} {E : Value → Shared → Prop} {s : Shared} {env : Env} {h₀ : Heap} {body : List Stmt} {Q : Flow → Shared → Prop}
noncomputable def EnumPost2 (h₀ : Heap) (L : Addr) (x1 x2 cm : Str) (m₀ : Str → Option Value) (news its : List (Addr × Obj)) (G : List Str) (P' : Prop) (s₁ : Shared) (f : Flow) (s₂ : Shared) : Prop :=
  match f with
  | .ret _ => False
  | .brk => ∃ h' tk m' D ws n, s₂ = { s₁ with heap := h', toks := tk } ∧ Fr h₀ L h' m' ∧ (∀ y, y ≠ x1 → y ≠ x2 → y ≠ cm → m' y = m₀ y) ∧ m' cm = some (.ref D) ∧ News h₀ L h' ((D, lobj ws n) :: news) ∧ StrsAre ws G
  | _ => ∃ h' tk m', s₂ = { s₁ with heap := h', toks := tk } ∧ Fr h₀ L h' m' ∧ (∀ y, y ≠ x1 → y ≠ x2 → m' y = m₀ y) ∧ News h₀ L h' (its ++ news) ∧ P'
theorem ovm_two {x1 x2 : Str} {m m₀ : Str → Option Value} (h : ∀ y, y ≠ x1 → y ≠ x2 → m y = m₀ y) : m = ovm [(x1, m x1), (x2, m x2)] m₀ := by
  funext y
  unfold ovm
  by_cases h1 : y = x1
  · subst h1; simp
  · by_cases h2 : y = x2
    · subst h2
      have e1 : (y == x1) = false := by simpa using h1
      simp [List.lookup_cons, e1]
    · have e1 : (y == x1) = false := by simpa using h1
      have e2 : (y == x2) = false := by simpa using h2
      simp only [List.lookup_cons, e1, e2, List.lookup_nil]
      exact h y h1 h2
theorem enum_two {elts : List Expr} {k : Nat} {pos : Pos} {l : Addr} {vs : List Value} {n : Nat} {m₀ : Str → Option Value} {news : List (Addr × Obj)} {L : Addr} (x1 x2 cm : Str) (P : Nat → Prop) (G : List Str)
    (hh : A.handled = none) (hL : env.locals = L) (F : Fr h₀ L s.heap m₀) (N : News h₀ L s.heap news) (hm : (l, lobj vs n) ∈ news) (h0 : P 0)
    (fin : ∀ u D ws n h tk, Fr h₀ L h (fun y => if y = cm then some (.ref D) else ovm [(x1, (u : Str → Option Value) x1), (x2, u x2)] m₀ y) → News h₀ L h ((D, lobj ws n) :: news) → StrsAre ws G → Q .next { s with heap := h, toks := tk })
    (turn : ∀ q v u T t h tk I oI oE, vs[q]? = some v → P q → IsTup h T #[.int (q : Int) t, v] → Fr h₀ L h (ovm [(x1, (u : Str → Option Value) x1), (x2, u x2)] m₀) → oE.cls = .type "enumerate" → oI.cls = .type "list_iterator" → News h₀ L h ((I + 1, oE) :: (I, oI) :: news) →
      wpAny (model prog w) A (assign (.Tuple elts k pos) env (.ref T)) (fun _ s₂ => wpAny (model prog w) A (execs body env) (EnumPost2 h₀ L x1 x2 cm m₀ news [(I + 1, oE), (I, oI)] G (P (q + 1)) { s with heap := h, toks := tk }) E s₂) E { s with heap := h, toks := tk })
    (done : P vs.length → ∃ D ws n, m₀ cm = some (.ref D) ∧ cm ≠ x1 ∧ cm ≠ x2 ∧ (D, lobj ws n) ∈ news ∧ StrsAre ws G) :
    wpAny (model prog w) A (call (.type "enumerate") [.ref l]) (fun xv s₁ => wpAny (model prog w) A (pyIter xv) (fun it s₂ => TurnsAt prog w A h₀ env (.Tuple elts k pos) body Q E it s₂) E s₁) E s := by
  subst hL
  refine enum_inv (fun q m nw => (∀ y, y ≠ x1 → y ≠ x2 → m y = m₀ y) ∧ nw = news ∧ P q) (fun m nw => ∃ D ws n', (∀ y, y ≠ x1 → y ≠ x2 → y ≠ cm → m y = m₀ y) ∧ m cm = some (.ref D) ∧ (∀ p ∈ (D, lobj ws n') :: news, p ∈ nw) ∧ StrsAre ws G)
    hh F N hm ⟨fun _ _ _ => rfl, rfl, h0⟩ (fun q m nw ⟨_, e, _⟩ => e ▸ hm) ?_ ?_ ?_
  · intro q v m nw T t h tk I oI oE hv ip12_ hlI hT F' hE hI N'
    refine hidG fun G_ hG_ => ?_
    obtain ⟨hm', rfl, hp⟩ := ip12_
    refine hG_ ?_
    clear hG_
    rw [ovm_two hm'] at F'
    refine wpAny_mono (turn q v m T t h tk I oI oE hv hp hT F' hE hI N') (fun _ s₂ h₂ => wpAny_mono h₂ (fun f s₃ h₃ => ?_) fun _ _ e => e) fun _ _ e => e
    have nx : (∃ h' tk' m', s₃ = { ({ s with heap := h, toks := tk } : Shared) with heap := h', toks := tk' } ∧ Fr h₀ env.locals h' m' ∧ (∀ y, y ≠ x1 → y ≠ x2 → m' y = m₀ y) ∧ News h₀ env.locals h' ([(I + 1, oE), (I, oI)] ++ nw) ∧ P (q + 1)) →
        UnrEndW h₀ env.locals { s with heap := h, toks := tk } [(I + 1, oE), (I, oI)] (fun m nw' => (∀ y, y ≠ x1 → y ≠ x2 → m y = m₀ y) ∧ nw' = nw ∧ P (q + 1)) s₃ := by
      intro ip0_
      refine hidG fun G_ hG_ => ?_
      obtain ⟨h', tk', m', e, F'', hm'', N'', hp'⟩ := ip0_
      refine hG_ ?_
      clear hG_
      refine ⟨h', tk', m', nw, e, F'', N'', fun p hp r hr e => ?_, hm'', rfl, hp'⟩
      have hlt := hlI p hp
      rcases List.mem_cons.mp hr with rfl | hr
      · exact Nat.ne_of_lt (Nat.lt_succ_of_lt hlt) e
      · rw [List.mem_singleton.mp hr] at e; exact Nat.ne_of_lt hlt e
    cases f with
    | ret v => exact h₃
    | brk =>
      refine hidG fun G_ hG_ => ?_
      obtain ⟨h', tk', m', D, ws, n', rfl, F'', hm'', hc, N'', hs⟩ := h₃
      refine hG_ ?_
      clear hG_
      exact ⟨h', tk', m', _, rfl, F'', N'', D, ws, n', hm'', hc, fun p hp => hp, hs⟩
    | next => exact nx h₃
    | cont => exact nx h₃
  · intro m nw ip2_
    refine hidG fun G_ hG_ => ?_
    obtain ⟨hm', rfl, hp⟩ := ip2_
    refine hG_ ?_
    clear hG_
    refine hidG fun G_ hG_ => ?_
    obtain ⟨D, ws, n', hc, n1, n2, hD, hs⟩ := done hp
    refine hG_ ?_
    clear hG_
    refine ⟨D, ws, n', fun y h1 h2 _ => hm' y h1 h2, (hm' cm n1 n2).trans hc, fun p hp => ?_, hs⟩
    rcases List.mem_cons.mp hp with rfl | hp
    · exact hD
    · exact hp
  · intro m nw h tk F' N' ip6_
    refine hidG fun G_ hG_ => ?_
    obtain ⟨D, ws, n', hm', hc, hsub, hs⟩ := ip6_
    refine hG_ ?_
    clear hG_
    refine fin m D ws n' h tk ?_ (fun p hp => N' p (hsub p hp)) hs
    have : (fun y => if y = cm then some (.ref D) else ovm [(x1, m x1), (x2, m x2)] m₀ y) = m := by
      funext y
      by_cases h3 : y = cm
      · simp [h3, hc]
      · simp only [if_neg h3]
        have := congrFun (ovm_two (x1 := x1) (x2 := x2) (m := m) (m₀ := fun y => if y = cm then m y else m₀ y) fun y h1 h2 => by
          by_cases h4 : y = cm
          · simp [h4]
          · simp only [if_neg h4]; exact hm' y h1 h2 h4) y
        rw [this]
        unfold ovm
        split
        · rfl
        · simp only [if_neg h3]
    rw [this]; exact F'
end
end
section
noncomputable abbrev fkO : Obj := { cls := .type "builtin_function_or_method", data := .fields #[.builtin "dict.fromkeys", .type "dict"] }
theorem fk_type : typeOf (.builtin "dict.fromkeys") = pure (.type "classmethod_descriptor") := by show builtinType _ = _; rw [builtinType_eq_fast]; kernel_rfl
theorem fk_entry : entryFor table "dict.fromkeys" = some Builtin.«dict.fromkeys» := entryFor_of_tree (by kernel_rfl)
theorem fk_quiet {as : Args} : (Code.builtin "dict.fromkeys" as).quiet = true := Code.quiet_builtin _ (by decide +kernel)
theorem dict_is_type : isType (.type "dict") = pure true := by first | rfl | kernel_rfl | (unfold isType; rw [isSubtype_type]; kernel_rfl)
theorem dict_sub_dict : isSubtype (.type "dict") (.type "dict") = pure true := by rw [isSubtype_type]; kernel_rfl
theorem fk_owner : (kfb_private% "ownerAndName") "dict.fromkeys" = ("dict", "fromkeys") := by first | decide +kernel | kernel_rfl
section
open PySem.W.KFB (if_not if_so slot_get entry_get args_get)
variable {prog : Program} {w : World} {M : Model} {A : Around} {E : Value → Shared → Prop} {s : Shared} {K : Frag} {h₀ : Heap} {L : Addr} {m : PySem.Str → Option Value} {news : List (Addr × Obj)}
theorem fk_get {P : Fin → Shared → Prop} (h : P (.done (.ret (.ref s.heap.objs.size))) { s with heap := s.heap.push fkO }) :
    wpAny M A (Builtin.«classmethod_descriptor.__get__» ⟨[.builtin "dict.fromkeys", .none, .type "dict"], []⟩) P E s := by
  unfold Builtin.«classmethod_descriptor.__get__»
  refine wpAny_bind (wpAny_of_eq (a := (.builtin "dict.fromkeys", none, some (.type "dict"))) (by first | rfl | kernel_rfl) ?_)
  simp only [fk_owner]
  refine wpAny_bind (wpAny_of_eq (a := .type "dict") rfl ?_)
  refine wpAny_bind (wpAny_of_eq (a := true) dict_is_type ?_)
  refine if_not rfl ?_
  refine wpAny_bind (wpAny_of_eq (a := true) dict_sub_dict ?_)
  refine if_not rfl ?_
  exact wpAny_bind (wpAny_newObj_type (wpAny_pure h))
theorem fk_method {pl : Sem Bool} {Q : Value × List Value → Shared → Prop} (F : Fr h₀ L s.heap m) (N : News h₀ L s.heap news) (X₀ : K.In h₀)
    (e : findCls K (.type "dict") (.type "type") (PySem.Str.ofString "fromkeys") = some (.get (.builtin "classmethod_descriptor.__get__") (.builtin "dict.fromkeys") .none (.type "dict")))
    (h : ∀ x h', Fr h₀ L h' m → News h₀ L h' ((x, fkO) :: news) → (∀ p ∈ news, p.1 < x) → Q (.ref x, []) { s with heap := h', toks := s.toks + 1 }) :
    wpAny (model prog w) A (getMethod (.type "dict") (PySem.Str.ofString "fromkeys") pl) Q E s := by
  have X := X₀.keeps F.keep
  have hstub : opaqueClassAbove (.type "dict") = pure none := by unfold opaqueClassAbove; dsimp only; rw [show Manifest.isStub "dict" = false by decide +kernel]; rfl
  have ht : typeOf (.type "dict") = pure (.type "type") := by first | rfl | kernel_rfl
  have L0 : Looks (model prog w) s.heap (typeOf (.type "dict")) (.type "type") := Looks.of_pure ht
  have hg : findIn K (.type "type") "__getattribute__" = some (some (.builtin "type.__getattribute__")) := type_tga
  unfold getMethod specialOf
  refine wpAny_bind (wpAny_bind (L0.here ((looks_findIn X hg).here ?_)))
  dsimp only
  rw [if_pos canon_tga]
  refine wpAny_bind (wpAny_mono (Q := fun v => Q (v, [])) (E := E) ?_ (fun _ _ z => wpAny_pure z) fun _ _ z => z)
  have LO : Looks (model prog w) s.heap (opaqueClassAbove (.type "dict")) none := Looks.of_pure hstub
  refine cls_open X LO L0 hg (looks_hook X (r := none) (by rfl)) (by show subIn K _ _ = _; rfl) e ?_
  show wpAny _ _ (holding [.builtin "dict.fromkeys"] (call (.builtin "classmethod_descriptor.__get__") [.builtin "dict.fromkeys", .none, .type "dict"]) >>= fun v => ret v) _ _ _
  refine wpAny_bind (wpAny_holding (wpAny_call_entry slot_get fk_type entry_get (fk_get ⟨_, rfl, wpAny_pure (wpAny_pure (h _ _ (F.push _) (News.push F N _) fun p hp => Heap.lt_size (N p hp).1))⟩) (args_get _ _ _)))
theorem fk_callWith {pos : Pos} {u : Addr} {first : List Value} {args : List (Bool × Sem Value)} {Q : Value → Shared → Prop} (hplain : args.any (·.1) = false)
    (h : wpAny M A (evalArgs (.ref u) true args []) (fun x s₁ => s₁.heap.get? u = some fkO ∧ wpAny M A (call (.ref u) (first ++ x.pos) x.kw) Q E s₁) E s) : wpAny M A (callWith pos (.ref u) first args []) Q E s := by
  unfold callWith
  refine wpAny_bind (wpAny_holding (wpAny_mono h (fun x s₁ h₁ => wpAny_bind (wpAny_standAt ?_)) fun _ _ x => x))
  obtain ⟨ho, hcall⟩ := h₁
  simp only [hplain, List.any_nil, Bool.or_false]
  refine wpAny_bind (m := keeperOf (.ref u)) ?_
  unfold keeperOf
  refine wpAny_bind (wpAny_load ho ?_)
  simp only [show (Value.type "builtin_function_or_method" != Value.type "method") = true by decide, show (Value.type "builtin_function_or_method" == Value.type "builtin_function_or_method" || Value.type "builtin_function_or_method" == Value.type "method-wrapper") = true by decide, if_true]
  refine wpAny_pure ?_
  exact wpAny_bind (wpAny_mono hcall (fun r s₂ hr => wpAny_bind (wpAny_holding (wpAny_point (wpAny_pure hr)))) fun _ _ x => x)
theorem fk_callWith1 {pos : Pos} {u : Addr} {first : List Value} {env : Env} {e : Expr} {rest : List Expr} {Q : Value → Shared → Prop}
    (h : wpAny M A (spliced (backTo pos (starEach (e :: rest) env))) (fun vs s₁ => s₁.heap.get? u = some fkO ∧ wpAny M A (call (.ref u) (first ++ vs)) Q E s₁) E s)
    (he : starEach (e :: rest) env = (false, eval e env) :: starEach rest env := by rfl) (hplain : (backTo pos (starEach rest env)).any (·.1) = false := by rfl) :
    wpAny M A (callWith pos (.ref u) first (backTo pos (starEach (e :: rest) env)) []) Q E s := by
  rw [he] at h ⊢
  refine fk_callWith (by show (false || (backTo pos (starEach rest env)).any (·.1)) = false; rw [hplain]; rfl) ?_
  exact evalArgs_plain h
theorem fk_check {v : Value} : checkBoundCall "dict.fromkeys" ⟨[.type "dict", v], []⟩ = pure () := by first | kernel_rfl | rfl
theorem fk_call {x : Addr} {v : Value} {Q : Value → Shared → Prop} (ho : s.heap.get? x = some fkO)
    (tree : wpAny (model prog w) A.in1 (Builtin.«dict.fromkeys» ⟨[.type "dict", v], []⟩) (fun fin s' => match fin with
      | .done f => wants Q E (.ok f) s'
      | .again c => c.quiet = true ∧ codeAny (model prog w) A c (wants Q E) s') (fun e s' => wants Q E (.error e) s') s) : wpAny (model prog w) A (call (.ref x) [v]) Q E s := by
  refine wpAny_call (codeAny_of_tree ?_)
  show wpAny _ A.in1 (callAny (.ref x) ⟨[v], []⟩) _ _ s
  simp only [callAny]
  refine wpAny_bind (wpAny_load ho ?_)
  simp only [show (Value.type "builtin_function_or_method" == Value.type "method" || Value.type "builtin_function_or_method" == Value.type "builtin_function_or_method" || Value.type "builtin_function_or_method" == Value.type "method-wrapper") = true by decide, if_true]
  refine if_so (by decide) ?_
  refine wpAny_bind (wpAny_of_eq (a := ()) fk_check ?_)
  refine wpAny_bind (wpAny_pure (wpAny_pure ?_))
  refine ⟨fk_quiet, codeAny_builtin fk_entry ?_⟩
  exact tree
end
end
section
set_option hygiene true
open PySem PySem.W PyProof.Rows PySem.Calls PySem.W.X
noncomputable def RetD (s : Shared) (Q : Value → Shared → Prop) : Prop := ∀ d h' tk, X.Mem s.heap h' [] [(d, { cls := .type "dict", data := .dict #[] })] → Q (.ref d) { s with heap := h', toks := tk }
local macro_rules | `(tactic| x_close) => `(tactic| first | ((rename RetD _ _ => hr); (rename X.Mem _ _ _ _ => DD); exact hr _ _ _ DD))
theorem dict_x {prog : Program} (w : World) (s : Shared) (Q E : Value → Shared → Prop) (X : (KB w.params).In s.heap)
   (hret : RetD s Q) : wpAny (model prog w) AX (call (.type "dict") []) Q E s := by
  x_run
end
section
theorem kb_in_keys {w : World} {h : Heap} (k : KBIn w h) : ∀ a ∈ (KB w.params).map (·.1), a < h.objs.size := by
  intro a ha
  obtain ⟨p, hp, rfl⟩ := List.mem_map.mp ha
  have : ∃ o, (KB w.params).lookup p.1 = some o := by
    cases e : (KB w.params).lookup p.1 with
    | some o => exact ⟨o, rfl⟩
    | none => exact absurd hp (fun h => by have q := (List.lookup_eq_none_iff.mp e) p h; simp at q)
  obtain ⟨o, e⟩ := this
  exact Heap.lt_size (k _ _ e)
section
variable {w : World} {dp un : Nat} {news : List (Addr × Obj)} {gd : Option (List Code)} {cn : Str} {cs : Scope} {a : Addr} {ccd : Value} {cl : List (Str × Addr)} {outer : List Env} {A₀ : Around} {base h₀ : Heap} {L : Addr}
   {m : Str → Option Value} {s : Shared} {mean : ExcName → Option Value} {mg mb : Str → Option Value} {Q E : Value → Shared → Prop}
theorem map_spec {l : Addr} {x y : Str} {t u : Tok} {n : Nat} (F : Fr h₀ L s.heap m) (N : News h₀ L s.heap news) (XB : KBIn w h₀) (gl : s.heap.get? l = some { cls := .type "list", data := .seq #[.str x t, .str y u] n }) (hd : dp ≤ 690) (hu : un ≤ 9000)
    (ret : ∀ mp tp it h' tk, Fr h₀ L h' m → News h₀ L h' ((it, { cls := .type "list_iterator", data := .fields #[.ref l, .int 0 0] }) :: (mp, mapO tp 132) :: (tp, { cls := .type "tuple", data := .seq #[.ref it] }) :: news) → mp ≠ it → tp ≠ it → l ≠ it → it ∉ (KB w.params).map (·.1) → h'.get? l = some { cls := .type "list", data := .seq #[.str x t, .str y u] n } → (∀ p ∈ news, p.1 ≠ it) →
      LCg.Off1 mp news → LCg.Off1 tp news → LCg.Off1 it news → Q (.ref mp) { s with heap := h', toks := tk }) :
    wpAny (model PySem.Challenge.rw_ik0192_01.prog w) (ktrTop dp un gd cn cs L a ccd cl outer) (call (.type "map") [.ref 132, .ref l]) Q E s := by
  refine wpAny_weak (B := AX) (map_x w l x y t u n s Q E (XB.keeps F.keep) gl fun mp tp it h' tk D => ?_) rfl hd hu (fun _ e => by cases e) (fun _ e => by cases e)
  have hm := D.at 0 mp _ rfl
  have ht := D.at 1 tp _ rfl
  have hi := D.at 2 it _ rfl
  have x : Ext s.heap h' := ext_mem D
  have fr : ∀ (i : Nat) b o, ([(mp, mapO tp 132), (tp, { cls := .type "tuple", data := .seq #[.ref it] }), (it, { cls := .type "list_iterator", data := .fields #[.ref l, .int 0 0] })] : List (Addr × Obj))[i]? = some (b, o) → s.heap.get? b = none := fun i b o hb => by
    cases q : s.heap.get? b with
    | none => rfl
    | some ob => exact absurd rfl (D.ne_old i b o hb b ob q)
  have f0 : ∀ b, s.heap.get? b = none → b ≠ L ∧ h₀.get? b = none := fun b hb => by
    refine ⟨?_, ?_⟩
    · rintro rfl
      obtain ⟨oL, _, _, hL, _⟩ := F.ns
      rw [hb] at hL; cases hL
    · cases q : h₀.get? b with
      | none => rfl
      | some o' => have := F.keep _ _ q; rw [hb] at this; cases this
  have fi := fr 2 it _ rfl
  have ft := fr 1 tp _ rfl
  have fm := fr 0 mp _ rfl
  have F' := fr_ext F x
  have nn : ∀ b, s.heap.get? b = none → ∀ p ∈ news, p.1 ≠ b := fun b hb p hp e => by
    have := (N p hp).1; rw [e, hb] at this; cases this
  refine ret mp tp it h' tk F' ?_ (D.ne 0 2 _ _ _ _ rfl rfl rfl) (D.ne 1 2 _ _ _ _ rfl rfl rfl) ?_ ?_ (x _ _ gl) (nn it fi) (off1_of (nn mp fm)) (off1_of (nn tp ft)) (off1_of (nn it fi))
  · intro p hp
    rcases List.mem_cons.mp hp with rfl | hp
    · exact ⟨hi, f0 _ fi⟩
    rcases List.mem_cons.mp hp with rfl | hp
    · exact ⟨hm, f0 _ fm⟩
    rcases List.mem_cons.mp hp with rfl | hp
    · exact ⟨ht, f0 _ ft⟩
    exact news_ext N x p hp
  · rintro rfl; rw [fi] at gl; cases gl
  · intro hk
    have := kb_in_keys (XB.keeps F.keep) it hk
    obtain ⟨p, hp, e⟩ := List.mem_map.mp hk
    cases q : (KB w.params).lookup it with
    | some o => have := (XB.keeps F.keep) _ _ q; rw [fi] at this; cases this
    | none => have z := (List.lookup_eq_none_iff.mp q) p hp; rw [show p.1 = it from e] at z; simp at z
theorem pcall_spec (B : Below A₀ base outer h₀) (X : (Mine.hd.heap_1 w.params).In h₀) (XB : KBIn w h₀) (T : Top topProg LSG mean mg mb h₀) (hk : cs.kind = .function) (hd : dp ≤ 670) (hu : un ≤ 8890) :
    PCall w (ktrTop dp un gd cn cs L a ccd cl outer).in1.in1.in1.in1 (fun h => Fr h₀ L h m) := fun x t s Q E F ret =>
  wpAny_weak (fspath0 w x t gd cn cs a ccd cl outer A₀ base h₀ L m s mean mg mb Q E B F X XB T hk trivial fun r h' tk' x p => by subst p; exact ret h' tk' x (fr_ext F x)) rfl (by show dp ≤ 690; omega) (by show un + 1 + 1 + 1 + 1 ≤ 9000; omega) (fun _ e => e) (fun _ e => e)
theorem fr_list {h h' : Heap} (F : Fr h₀ L h m) (k : ∀ a ∈ L :: (List.range h₀.objs.size).filter (fun a => (h₀.get? a).isSome), ∀ o, h.get? a = some o → h'.get? a = some o) : Fr h₀ L h' m := by
  refine ⟨?_, ?_, F.above⟩
  · exact F.ns.at fun o e => k L (.head _) o e
  · intro b o e
    exact k b (.tail _ (List.mem_filter.mpr ⟨List.mem_range.mpr (Heap.lt_size e), by rw [e]; rfl⟩)) o (F.keep _ _ e)
theorem tuple_spec {mp tp it l : Addr} {x y : Str} {t u : Tok} {n : Nat} (F : Fr h₀ L s.heap m) (N : News h₀ L s.heap ((it, { cls := .type "list_iterator", data := .fields #[.ref l, .int 0 0] }) :: (mp, mapO tp 132) :: (tp, { cls := .type "tuple", data := .seq #[.ref it] }) :: news)) (XB : KBIn w h₀) (B : Below A₀ base outer h₀) (X : (Mine.hd.heap_1 w.params).In h₀) (T : Top topProg LSG mean mg mb h₀) (hkk : cs.kind = .function)
    (h1 : mp ≠ it) (h2 : tp ≠ it) (h3 : l ≠ it) (hk : it ∉ (KB w.params).map (·.1)) (gl : s.heap.get? l = some { cls := .type "list", data := .seq #[.str x t, .str y u] n }) (hn : ∀ p ∈ news, p.1 ≠ it) (hd : dp ≤ 670) (hu : un ≤ 8890)
    (ret : ∀ b h' tk, Fr h₀ L h' m → News h₀ L h' ((b, { cls := .type "tuple", data := .seq #[.str x t, .str y u] }) :: news) → LCg.Off1 b news → Q (.ref b) { s with heap := h', toks := tk }) :
    wpAny (model PySem.Challenge.rw_ik0192_01.prog w) (ktrTop dp un gd cn cs L a ccd cl outer) (call (.type "tuple") [.ref mp]) Q E s := by
  have hi := N _ (.head _)
  have hm := N _ (.tail _ (.head _))
  have ht := N _ (.tail _ (.tail _ (.head _)))
  have kb := XB.keeps F.keep
  refine tuple_map (x := x) (y := y) (t := t) (u := u) (l := l) (tp := tp) (it := it) (fun _ _ => fr_list) rfl (pcall_spec B X XB T hkk hd hu) ⟨hm.1, ht.1, ⟨_, hi.1, rfl, rfl⟩, ⟨_, gl, rfl, _, rfl⟩, F, h1, h2, h3⟩ (fun hm => ?_) (fun a ha => ?_) fun b h' tk hb fb gb => ?_
  · rcases List.mem_cons.mp hm with e | e
    · exact hi.2.1 e
    · have := (List.mem_filter.mp e).2; rw [hi.2.2] at this; cases this
  · rcases List.mem_cons.mp ha with rfl | e
    · obtain ⟨_, _, _, hL, _⟩ := F.ns; exact Heap.lt_size hL
    · obtain ⟨_, q⟩ := List.mem_filter.mp e
      cases z : h₀.get? a with
      | none => rw [z] at q; cases q
      | some o => exact Heap.lt_size (F.keep _ _ z)
  have F' : Fr h₀ L h' m := LCg.fr_but F (fun b o hh e => hb b o (fun q => hh (by rw [q]; exact .head _)) e) (Ne.symm hi.2.1) hi.2.2
  have N' : News h₀ L h' news := fun p hp => ⟨hb _ _ (hn p hp) (N p (.tail _ (.tail _ (.tail _ hp)))).1, (N p (.tail _ (.tail _ (.tail _ hp)))).2⟩
  refine ret b h' tk F' (fun p hp => ?_) (off1_of fun p hp e => ?_)
  · rcases List.mem_cons.mp hp with rfl | hp
    · refine ⟨gb, ?_⟩
      rcases fb with e | fb
      · rw [e]; exact hi.2
      · refine ⟨?_, ?_⟩
        · rintro rfl
          obtain ⟨oL, _, _, hL, _⟩ := F.ns
          rw [fb] at hL; cases hL
        · cases q : h₀.get? b with
          | none => rfl
          | some o' => have := F.keep _ _ q; rw [fb] at this; cases this
    · exact N' p hp
  · rcases fb with q | fb
    · exact hn p hp (e.trans q)
    · have := (N p (.tail _ (.tail _ (.tail _ hp)))).1; rw [e, fb] at this; cases this
end
end
section
theorem fkl_plain : plainId "dict.fromkeys.loop" = true := by decide +kernel
theorem fkl_entry : entryFor table "dict.fromkeys.loop" = some Builtin.«dict.fromkeys.loop» := entryFor_of_tree (by kernel_rfl)
noncomputable def fkOf (ns : List Str) : List (Str × Value) := ns.foldl (fun acc x => stored acc x Value.none) []
theorem stored_len {K : Type} [DecidableEq K] (kvs : List (K × Value)) (k : K) (v : Value) : (stored kvs k v).length ≤ kvs.length + 1 := by
  unfold stored
  split
  · simp
  · simp
theorem fk_len : ∀ (ns : List Str) (acc : List (Str × Value)), (ns.foldl (fun acc x => stored acc x Value.none) acc).length ≤ acc.length + ns.length
  | [], _ => by simp
  | x :: r, acc => by
    have h1 := fk_len r (stored acc x Value.none)
    have h2 := stored_len acc x Value.none
    simp only [List.foldl_cons, List.length_cons]
    omega
theorem fk_take {ns : List Str} {q : Nat} {c : Str} (h : ns[q]? = some c) : fkOf (ns.take (q + 1)) = stored (fkOf (ns.take q)) c Value.none := by
  unfold fkOf
  rw [List.take_add_one, h, Option.toList_some, List.foldl_append]
  rfl
section
variable {prog : Program} {w : World} {A : Around} {E : Value → Shared → Prop} {s : Shared}
theorem fk_loop {l d I : Addr} {vs : List Value} {ns : List Str} (hh : A.handled = none) (hs : StrsAre vs ns) (hz : ns.length ≤ 100000) (lI : l ≠ I) (ld : l ≠ d) (dI : d ≠ I) {R : Result → Shared → Prop} :
    ∀ (k q : Nat) (s : Shared), ns.length - q = k → q ≤ ns.length → s.heap.IsList l vs.toArray → s.heap.IsListIter I l q → s.heap.DictOf (PySem.strKind prog w) d (fkOf (ns.take q)) →
      (∀ h' tk, (∀ b o, b ≠ I → b ≠ d → s.heap.get? b = some o → h'.get? b = some o) → h'.DictOf (PySem.strKind prog w) d (fkOf ns) → R (.ok (.ret (.ref d))) { s with heap := h', toks := tk }) →
      codeAny (model prog w) A (.builtin "dict.fromkeys.loop" ⟨[.ref d, .ref I, .none], []⟩) R s := by
  intro k
  induction k with
  | zero =>
    intro q s hk hq hl hi hd hR
    have hq' : q = ns.length := by omega
    refine codeAny_builtin fkl_entry ?_
    rw [Around.under_plainId fkl_plain _]
    show wpAny _ A.in1 (pyNext (.ref I) >>= _) _ _ s
    refine wpAny_bind (wpAny_pyNext_list_end hh hi hl (by simpa using strs_none hs q (by omega)) fun h' x' => ?_)
    rw [hq', List.take_length] at hd
    refine wpAny_pure (hR h' _ (fun b o h1 h2 e => x' b o h1 e) ?_)
    obtain ⟨o, es, ep, ho, r⟩ := hd
    exact ⟨o, es, ep, x' _ _ dI ho, r⟩
  | succ k ih =>
    intro q s hk hq hl hi hd hR
    have hlt : q < ns.length := by omega
    obtain ⟨t, g1⟩ := strs_get hs q hlt
    have hc : ns[q]? = some ns[q] := List.getElem?_eq_getElem hlt
    refine codeAny_builtin fkl_entry ?_
    rw [Around.under_plainId fkl_plain _]
    show wpAny _ A.in1 (pyNext (.ref I) >>= _) _ _ s
    refine wpAny_bind (wpAny_pyNext_list_item hi hl (x := .str ns[q] t) (by simpa using g1) fun h1 i1 x1 => ?_)
    have hd1 : h1.DictOf (PySem.strKind prog w) d (fkOf (ns.take q)) := hd.sameBut x1 dI
    have hl1 : h1.IsList l vs.toArray := hl.extBut x1.extBut lI
    dsimp only
    refine wpAny_bind (wpAny_typeOf hd1.typeIs ?_)
    rw [if_pos (by decide)]
    refine wpAny_bind (wpAny_of_eq (a := d) rfl ?_)
    refine wpAny_bind (wpAny_holding ?_)
    refine wpAny_dictSet_pairs (knd := PySem.strKind prog w) (k := ns[q]) (strKind_is _ _ _ _) hd1 (fun h2 hd2 x2 => ?_) (by
      have h3 := fk_len (ns.take q) []
      have h4 : (ns.take q).length ≤ ns.length := List.length_take_le' ..
      rw [sizeLine_eq]
      show (fkOf (ns.take q)).length ≤ _
      unfold fkOf
      simp only [List.length_nil] at h3
      omega)
    refine wpAny_pure ⟨plainId_quiet fkl_plain _, ih (q + 1) _ (sub_st (by assumption)) hlt (hl1.extBut x2.extBut ld) (i1.at fun o e => x2.extBut _ o (Ne.symm dI) e) ?_ fun h' tk hx hd' => ?_⟩
    · rw [fk_take hc]; exact hd2
    · exact hR h' tk (fun b o h1' h2' e => hx b o h1' h2' (x2.extBut b o h2' (x1.extBut b o h1' e))) hd'
end
section
variable {w : World} {A : Around} {E : Value → Shared → Prop} {s : Shared} {h₀ : Heap} {L : Addr} {m : PySem.Str → Option Value} {news : List (Addr × Obj)}
open PySem.W.KFB (if_not if_so)
theorem fk_tree {l : Addr} {vs : List Value} {ns : List Str} {n : Nat} {Q : Value → Shared → Prop} (hh : A.handled = none) (hA2 : A.depth ≤ 680) (hA3 : A.units ≤ 8900) (kb : KBIn w s.heap) (hs : StrsAre vs ns) (hz : ns.length ≤ 100000) (gl : s.heap.get? l = some (lobj vs n))
    (hQ : ∀ d h' tk, Ext s.heap h' → s.heap.get? d = none → h'.DictOf (PySem.strKind PySem.Challenge.rw_ik0192_01.prog w) d (fkOf ns) → Q (.ref d) { s with heap := h', toks := tk }) :
    wpAny (model PySem.Challenge.rw_ik0192_01.prog w) A.in1 (Builtin.«dict.fromkeys» ⟨[.type "dict", .ref l], []⟩) (fun fin s' => match fin with
      | .done f => wants Q E (.ok f) s'
      | .again c => c.quiet = true ∧ codeAny (model PySem.Challenge.rw_ik0192_01.prog w) A c (wants Q E) s') (fun e s' => wants Q E (.error e) s') s := by
  have hl : s.heap.IsList l vs.toArray := ⟨_, gl, rfl, _, rfl⟩
  unfold Builtin.«dict.fromkeys»
  refine wpAny_bind (wpAny_of_eq (a := true) dict_is_type ?_)
  refine if_not rfl ?_
  refine wpAny_bind (wpAny_of_eq (a := true) dict_sub_dict ?_)
  refine if_not rfl ?_
  refine if_not rfl ?_
  refine wpAny_bind (wpAny_rule ?_)
  refine wpAny_bind (wpAny_pure ?_)
  dsimp only
  refine wpAny_bind (wpAny_weak (B := AX) (dict_x w _ _ _ kb fun d h1 tk D => ?_) hh.symm (by show A.depth ≤ 690; omega) (by show A.units + 1 ≤ 9000; omega) (fun _ e => by cases e) (fun _ e => by cases e))
  have gd := D.at 0 d _ rfl
  have x1 : Ext s.heap h1 := ext_mem D
  have fd : s.heap.get? d = none := by
    cases q : s.heap.get? d with
    | none => rfl
    | some ob => exact absurd rfl (D.ne_old 0 d _ rfl d ob q)
  have hd1 : h1.DictOf (PySem.strKind PySem.Challenge.rw_ik0192_01.prog w) d [] := ⟨_, #[], 0, gd, ⟨rfl, rfl, rfl⟩, rfl, by intro e he; simp at he, by exact .nil, by simp⟩
  have ld : l ≠ d := fun e => by rw [e, fd] at gl; cases gl
  have gl1 := x1 _ _ gl
  have hl1 : h1.IsList l vs.toArray := ⟨_, gl1, rfl, _, rfl⟩
  refine wpAny_holding ?_
  refine wpAny_bind (wpAny_typeOf hl1.typeIs ?_)
  refine wpAny_bind (wpAny_typeOf hd1.typeIs ?_)
  refine if_not (by decide) ?_
  refine wpAny_bind (wpAny_typeOf hd1.typeIs ?_)
  refine if_not (by decide) ?_
  refine wpAny_bind (wpAny_pyIter_list hl1 ?_)
  have lI : l ≠ h1.objs.size := Nat.ne_of_lt (Heap.lt_size gl1)
  have dI : d ≠ h1.objs.size := Nat.ne_of_lt (Heap.lt_size gd)
  have fI : s.heap.get? h1.objs.size = none := by
    cases q : s.heap.get? h1.objs.size with
    | none => rfl
    | some ob => exact absurd (Heap.lt_size (x1 _ _ q)) (Nat.lt_irrefl _)
  refine wpAny_pure ⟨plainId_quiet fkl_plain _, fk_loop hh hs hz lI ld dI ns.length 0 _ rfl (Nat.zero_le _) (hl1.push _) ⟨_, Heap.get?_push_size _ rfl, rfl, rfl⟩ (hd1.keep fun b o e => Heap.get?_push_of_some _ e) fun h2 tk2 x2 hd2 => ?_⟩
  exact hQ d h2 tk2 (fun b o e => x2 b o (fun q => by rw [q, fI] at e; cases e) (fun q => by rw [q, fd] at e; cases e) (Heap.get?_push_of_some _ (x1 _ _ e))) fd hd2
end
end
section
noncomputable def LawS (w : World) (gd : Option (List Code)) (L : Addr) (fa : Addr) (cm : Addr) (cr : Addr) (co : Addr) (cb : Addr) (base : Heap) (h₀ : Heap) (mean : ExcName → Option Value) (mg : Str → Option Value) (mb : Str → Option Value) (E : Value → Shared → Prop) : Prop :=
  ∀ {m : Str → Option Value} {s : Shared} {Q : Flow → Shared → Prop} {ax : Addr} {vs : List Value} {ns : List Int} {om or' oo ob : Obj} (B : Below callerA base [] h₀) (F : Fr h₀ L s.heap m) (X : (Mine.hd.heap_1 w.params).In h₀) (XB : KBIn w h₀) (TG : Top topProg LSG mean mg mb h₀) (hE : PassesOwn (model PySem.Challenge.rw_ik0192_01.prog w) (lawA w.params gd L fa (Value.ref 210) cm cr co cb) (lenv w.params L fa (Value.ref 210) cm cr co cb) E) (C : CodeHd h₀ 210 208) (hcd : (Value.ref 210) = .ref 210) (N : News h₀ L s.heap [(45, tabObj #[]), (208, tabObj #[]), (cm, om), (cr, or'), (co, oo), (cb, ob)]) (hom : om.data = .cell none) (hor : or'.data = .cell none) (hoo : oo.data = .cell none) (hob : ob.data = .cell none) (e1 : @Ne Nat cm 45 ∧ @Ne Nat cr 45 ∧ @Ne Nat co 45 ∧ @Ne Nat cb 45) (e2 : @Ne Nat cm 208 ∧ @Ne Nat cr 208 ∧ @Ne Nat co 208 ∧ @Ne Nat cb 208) (e3 : @Ne Nat cm cr ∧ @Ne Nat cm co ∧ @Ne Nat cm cb ∧ @Ne Nat cr co ∧ @Ne Nat cr cb ∧ @Ne Nat co cb) (hm0 : m (Str.ofString "script") = some (.ref ax)) (hl : h₀.IsList ax vs.toArray) (hi : IntsAre vs ns) (hz : ns.length ≤ 63) (hret : ∀ h' tk' m', Fr h₀ L h' m' → (∃ ps, h'.get? 45 = some (tabObj ps)) → (∃ ps, h'.get? 208 = some (tabObj ps)) → Q (.ret (.bool true)) { s with heap := h', toks := tk' }),
  wpAny (model PySem.Challenge.rw_ik0192_01.prog w) (lawA w.params gd L fa (Value.ref 210) cm cr co cb) (execs (lawBody w.params) (lenv w.params L fa (Value.ref 210) cm cr co cb)) Q E s
noncomputable abbrev LawV := World × (Option (List Code)) × Addr × Addr × Addr × Addr × Addr × Addr × Heap × Heap × (ExcName → Option Value) × (Str → Option Value) × (Str → Option Value) × (Value → Shared → Prop)
noncomputable def LawSV (v : LawV) : Prop := LawS v.1 v.2.1 v.2.2.1 v.2.2.2.1 v.2.2.2.2.1 v.2.2.2.2.2.1 v.2.2.2.2.2.2.1 v.2.2.2.2.2.2.2.1 v.2.2.2.2.2.2.2.2.1 v.2.2.2.2.2.2.2.2.2.1 v.2.2.2.2.2.2.2.2.2.2.1 v.2.2.2.2.2.2.2.2.2.2.2.1 v.2.2.2.2.2.2.2.2.2.2.2.2.1 v.2.2.2.2.2.2.2.2.2.2.2.2.2
noncomputable def lawV : LawV := @Classical.epsilon LawV ⟨⟨w00, none, 0, 0, 0, 0, 0, 0, {}, {}, fun _ => none, fun _ => none, fun _ => none, fun _ _ => True⟩⟩ fun v => ¬ LawSV v
namespace LC
@[irreducible] noncomputable def w : World := lawV.1
@[irreducible] noncomputable def gd : Option (List Code) := lawV.2.1
@[irreducible] noncomputable def L : Addr := lawV.2.2.1
@[irreducible] noncomputable def fa : Addr := lawV.2.2.2.1
@[irreducible] noncomputable def cm : Addr := lawV.2.2.2.2.1
@[irreducible] noncomputable def cr : Addr := lawV.2.2.2.2.2.1
@[irreducible] noncomputable def co : Addr := lawV.2.2.2.2.2.2.1
@[irreducible] noncomputable def cb : Addr := lawV.2.2.2.2.2.2.2.1
@[irreducible] noncomputable def base : Heap := lawV.2.2.2.2.2.2.2.2.1
@[irreducible] noncomputable def h₀ : Heap := lawV.2.2.2.2.2.2.2.2.2.1
@[irreducible] noncomputable def mean : ExcName → Option Value := lawV.2.2.2.2.2.2.2.2.2.2.1
@[irreducible] noncomputable def mg : Str → Option Value := lawV.2.2.2.2.2.2.2.2.2.2.2.1
@[irreducible] noncomputable def mb : Str → Option Value := lawV.2.2.2.2.2.2.2.2.2.2.2.2.1
@[irreducible] noncomputable def E : Value → Shared → Prop := lawV.2.2.2.2.2.2.2.2.2.2.2.2.2
@[reducible] noncomputable def cd : Value := .ref 210
end LC
end
section
noncomputable def KeyAt (a k : Addr) (p : Str) (h : Heap) : Prop := ∃ (dx : Addr) (tp : Tok), h.get? k = some { cls := .ref a, dict := some dx, data := .plain, slots := #[some (.str p tp)] } ∧ h.get? dx = some { cls := .type "dict", data := .dict #[] 0 }
theorem KeyAt.keeps {a k : Addr} {p : Str} {h h' : Heap} (x : KeyAt a k p h) (e : Ext h h') : KeyAt a k p h' := let ⟨dx, tp, h1, h2⟩ := x; ⟨dx, tp, e _ _ h1, e _ _ h2⟩
theorem KAt.keeps {w : World} {vn : Value} {cm a : Addr} {h h' : Heap} (x : KAt w vn cm a h) (e : Ext h h') : KAt w vn cm a h' :=
  by
  obtain ⟨f, k, hh, ga, gn, gm, x1, x4⟩ := x
  exact ⟨f, k, hh, e _ _ ga, e _ _ gn, e _ _ gm, x1.keeps e, x4.keeps e⟩
theorem key_obj {w : World} {A : Around} (hA : A.handled = none) (hA2 : A.depth ≤ 680) (hA3 : A.units ≤ 8900) {E : Value → Shared → Prop} {s : Shared} {vn : Value} {cm a k : Addr} {p : Str} {Q : Value → Shared → Prop} {ex : Bool} (gK : KBIn w s.heap) (hC : KAt w vn cm a s.heap) (hk : KeyAt a k p s.heap)
   (h : ∀ t h' tk, Ext s.heap h' → Q (.str p t) { s with heap := h', toks := tk }) : wpAny (model PySem.Challenge.rw_ik0192_01.prog w) A (getAttr (.ref k) (Str.ofString "obj") ex) Q E s := by
  obtain ⟨f, k9, hh, ga, gn, gm, _⟩ := hC
  obtain ⟨dx, tp, gk, gd⟩ := hk
  have n0 : f 0 ≠ a := ty_ne gn ga (show Value.type "dict" ≠ Value.type "type" by decide)
  have m1 : f 9 ≠ a := ty_ne gm ga (show Value.type "member_descriptor" ≠ Value.type "type" by decide)
  have m2 : f 9 ≠ f 0 := ty_ne gm gn (show Value.type "member_descriptor" ≠ Value.type "dict" by decide)
  have X := kfr_in ga gn gm
  have I : InstAt s.heap k { cls := .ref a, dict := some dx, data := .plain, slots := #[some (.str p tp)] } a (some { cls := .type "dict", data := .dict #[] 0 }) := ⟨gk, rfl, rfl, gd⟩
  exact get_bind X I (kf_getattr n0) (findObj_data (by rw [kf_cls]; rfl) (kf_obj n0) (kf_get m1 m2) (kf_taken m1 m2)) (kf_nogetattr n0) (wpAny_call (slot_get (s := { s with toks := s.toks + 1 }) X I (kf_slot m1 m2) (v := .str p tp) rfl (handed_on rfl (h tp s.heap (s.toks + 1) fun _ _ e => e))))
end
section
local macro_rules | `(tactic| walk_at "ZZ") => `(tactic| skip)
local macro_rules | `(tactic| walk_at "callWith ref") => `(tactic| (refine Stopped.h ?_))
local macro_rules | `(tactic| walk_at "eval Name") => `(tactic| (k_dflt (refine' nameX_FB ?F ?m ?d ?c ?_ ?a ?b; (case a => rfl); (case b => rfl); (case F => k_asm); (case c => rfl); (case m => with_reducible assumption); (case d => with_reducible assumption))))
local macro_rules | `(tactic| walk_at "getAttr ref") => `(tactic| (rename Fr _ _ _ _ => F8; rename News _ _ _ _ => N8; k_dflt (refine' key_obj (by exact rfl) (by exact Nat.le_of_ble_eq_true rfl) (by exact Nat.le_of_ble_eq_true rfl) (by exact KBIn.keeps (by assumption) F8.keep) (by exact KAt.keeps (by with_reducible assumption) F8.keep) (by exact KeyAt.keeps (by with_reducible assumption) F8.keep) ?_); intro t9 h9 tk9 x9; have F9 := fr_ext F8 x9; have N9 := news_ext N8 x9; clear F8 N8 x9))
theorem LamAt.keeps {e : Expr} {clos : List (Str × Addr)} {la : Addr} {h h' : Heap} (x : LamAt e clos la h) (k : Ext h h') : LamAt e clos la h' := by
  refine hidG fun G_ hG_ => ?_
  obtain ⟨c, ct, oc, vs, t, h1, h2, r⟩ := x
  refine hG_ ?_
  clear hG_
  exact ⟨c, ct, oc, vs, t, k _ _ h1, k _ _ h2, r⟩
theorem BesAt.keeps {w : World} {cb : Addr} {dom : List Str} {nb : Str → List Str} {h h' : Heap} (x : BesAt w cb dom nb h) (k : Ext h h') : BesAt w cb dom nb h' :=
  by
  refine hidG fun G_ hG_ => ?_
  obtain ⟨oc, d, kvs, h1, h2, h3, h4⟩ := x
  refine hG_ ?_
  clear hG_
  refine ⟨oc, d, kvs, k _ _ h1, h2, dict_keeps h3 k, fun p hp => ?_⟩
  refine hidG fun G_ hG_ => ?_
  obtain ⟨l, vs, n, q1, q2, q3⟩ := h4 p hp
  refine hG_ ?_
  clear hG_
  exact ⟨l, vs, n, q1, k _ _ q2, q3⟩
theorem eq0 (w : World) (a y x la cb cm f : Addr) (dom : List Str) (nb : Str → List Str) (p q : Str) (hp : p ∈ dom) (c4 : Addr) (ct : Value) : Spec0 w 670 8750 f [.ref y, .ref x]
    (fun h => (KAt w vnLaw cm a h ∧ KeyAt a y p h ∧ KeyAt a x q h) ∧ (∃ oc, h.get? cm = some oc ∧ oc.data = .cell (some (.ref la))) ∧ (LamAt (lam1 w.params) [(Str.ofString "beside", cb)] la h ∧ BesAt w cb dom nb h) ∧
      ∃ (P4 a4 : Addr) (y4 z4 w4 : Value) (n4 : Nat) (t s q b : Tok), h.get? f = some (fnOfVn w.params 5 [(Str.ofString "mycmp", cm)] vnLaw c4 ct) ∧ h.get? c4 = some (cdOfSt w.params 5 P4 a4 y4 z4 w4 n4 t s q b))
    (fun _ r _ => r = .bool ((nb p).any (· == q))) := by
  unfold Spec0
  k_fill
  intro gd cn cs a' ccd cl outer A₀ base h₀ L m s mean mg mb Q E B F X XB T hk pre hret
  refine hidG fun G_ hG_ => ?_
  obtain ⟨⟨hC, hy, hx⟩, ⟨om, gm, hom⟩, hlam, P4, a4, y4, z4, w4, n4, t, sq, q4, b4, gf, gc⟩ := pre
  refine hG_ ?_
  clear hG_
  refine wpAny_call ?_
  have hs := (show fdScope (st w.params 5) = fdScope (st w.params 5) from rfl)
  conv at hs => rhs; whnf
  refine enterH (binds := [(Str.ofString "self", .ref y), (Str.ofString "other", .ref x)]) B F X XB T rfl rfl hk gf rfl ⟨c4, _, _, _, rfl, gc, rfl, rfl⟩ (Nat.le_of_ble_eq_true rfl) ?hb ?hl ?_ ?h1 ?h2 ?h3 ?h4
  case hb =>
    refine BindsTo.of_eq ?_
    kernel_rfl
  case hl =>
    refine locs ?_
    kernel_rfl
  case h1 => kernel_rfl
  case h2 => kernel_rfl
  case h3 => kernel_rfl
  case h4 => rw [hs]; decide
  intro L' h' F' N' B' X' XB' T'
  have hb := (show fdBody (st w.params 5) = fdBody (st w.params 5) from rfl)
  conv at hb => rhs; whnf
  rw [hb, hs]
  clear hb hs gf gc
  k_steps
  refine hidG fun G_ hG_ => ?_
  obtain ⟨⟨cl1, ctl, ocl, vsl, tl, gla, _⟩, _⟩ := id hlam
  refine hG_ ?_
  clear hG_
  have fnla : (lamObj (lam1 w.params) [(Str.ofString "beside", cb)] cl1 ctl).data = .func (kla_fn (Str.ofString "<lambda>") lamQ (leArgs (lam1 w.params)) (leBody (lam1 w.params)) (leScope (lam1 w.params)) [(Str.ofString "beside", cb)] vnLaw (.ref cl1) ctl) := rfl
  rename Fr _ _ _ _ => F1
  refine ⟨callWith_def fnla ?_⟩
  k_steps
  all_goals try exact Fr.keep (by assumption) _ _ gla
  rename Fr _ _ _ _ => F2
  rename News _ _ _ _ => N2
  refine ⟨?_⟩
  refine' spec_val (lam0 w la cb dom nb p q _ _ hp) ?B ?F ?X ?XB ?N ?T ?hk ?hd ?hu ?pre ?_
  walk_at "PREM"
  case pre => exact ⟨hlam.1.keeps F2.keep, hlam.2.keeps F2.keep⟩
  intro r9 h9 tk9 F9 N9 E9 ip6_
  refine hidG fun G_ hG_ => ?_
  obtain ⟨i9, t9, e9, hi9⟩ := ip6_
  refine hG_ ?_
  clear hG_
  subst e9
  clear F2 N2
  try dsimp only
  k_steps
  all_goals ((try refine leaveX ?_); (try dsimp only); refine hret _ _ _ (Fr.keep (by assumption)) ?_)
  all_goals (show Value.bool _ = Value.bool _; rw [hi9]; rfl)
end
section
theorem eqBool_key {w : World} {A : Around} (hu : A.units < cLine) {E : Value → Shared → Prop} {s : Shared} {vn : Value} {cm a y x : Addr} {p q : Str} {b : Bool} {Q : Bool → Shared → Prop} (hne : y ≠ x) (hC : KAt w vn cm a s.heap) (hy : KeyAt a y p s.heap) (hx : KeyAt a x q s.heap)
    (h : ∀ (f c4 P4 a4 : Addr) (y4 z4 w4 : Value) (n4 : Nat) (t s' q' b' : Tok) (ct : Value), s.heap.get? f = some (fnOfVn w.params 5 [(Str.ofString "mycmp", cm)] vn c4 ct) → s.heap.get? c4 = some (cdOfSt w.params 5 P4 a4 y4 z4 w4 n4 t s' q' b') →
      wpAny (model PySem.Challenge.rw_ik0192_01.prog w) A (call (.ref f) [.ref y, .ref x]) (fun v s' => v = .bool b ∧ Q b s') E s) :
    wpAny (model PySem.Challenge.rw_ik0192_01.prog w) A (eqBool (.ref y) (.ref x)) Q E s := by
  obtain ⟨f, k, hh, ga, gn, gm, _, c4, yv4, n4, t4, g4, gc4⟩ := hC
  obtain ⟨dy, ty, gy, _⟩ := hy
  obtain ⟨dx, tx, gx, _⟩ := hx
  have hcall := h (f 4) _ _ _ _ _ _ _ _ _ _ _ _ g4 gc4
  obtain ⟨hp, g, d, tk, os⟩ := s
  unfold eqBool
  refine wpAny_holding ?_
  rw [if_neg (by simp; exact hne)]
  refine wpAny_bind ?_
  unfold richCompare
  simp only [oneThing_ref]
  refine wpAny_holding (wpAny_bind (wpAny_cRoomFor hu ?_))
  refine wpAny_bind (wpAny_typeOf_ref gy (wpAny_bind (wpAny_typeOf_ref gx ?_)))
  rw [if_neg (by simp)]
  refine wpAny_bind (wpAny_pure ?_)
  rw [if_neg (by decide)]
  refine wpAny_bind ?_
  unfold tryCompare
  refine wpAny_bind ?_
  unfold callSpecialIfBound?
  refine wpAny_holding (wpAny_bind ?_)
  unfold bindSpecialIfBound? specialOf
  refine wpAny_bind (wpAny_bind (wpAny_typeOf_ref gy ?_))
  refine' tl_own ga rfl gn (v := .ref (f 4)) ?hl ?_
  case hl => kernel_rfl!
  have hbs : bindSpecial (.ref (f 4)) (.ref y) = (do
      let tf ← typeOf (.ref (f 4))
      if tf == .type "function" || tf == .type "method_descriptor" || tf == .type "wrapper_descriptor" then return (.ref (f 4), [.ref y])
      match ← typeLookup tf "__get__" with
      | some g => rule "special.bound-by-get"; return (← call g [.ref (f 4), .ref y, ← typeOf (.ref y)], [])
      | none => return (.ref (f 4), [])) := rfl
  have bnd : ∀ {Q' : Option (Value × List Value) → Shared → Prop} {E' : Value → Shared → Prop}, Q' (some (.ref (f 4), [.ref y])) ⟨hp, g, d, tk, os⟩ → wpAny (model PySem.Challenge.rw_ik0192_01.prog w) A (do return some (← bindSpecial (.ref (f 4)) (.ref y))) Q' E' ⟨hp, g, d, tk, os⟩ := by
    intro Q' E' hq
    refine wpAny_bind ?_
    rw [hbs]
    refine wpAny_bind (wpAny_typeOf_ref g4 ?_)
    rw [if_pos (by rfl)]
    exact wpAny_pure (wpAny_pure hq)
  try dsimp only
  refine wpAny_bind (wpAny_askSetting ?_)
  have rest : wpAny (model PySem.Challenge.rw_ik0192_01.prog w) A (call (.ref (f 4)) ([Value.ref y] ++ [.ref x]) []) (fun v s' => v = .bool b ∧ Q b s') E ⟨hp, g, d, tk, os⟩ := hcall
  split
  · refine bnd ?_
    refine wpAny_bind (wpAny_mono rest (fun v s' hv => ?_) fun _ _ e => e)
    obtain ⟨rfl, hq⟩ := hv
    exact wpAny_pure (wpAny_pure (wpAny_pure (wpAny_truthy_bool hq)))
  · refine wpAny_tryCatch (bnd ?_)
    refine wpAny_bind (wpAny_mono rest (fun v s' hv => ?_) fun _ _ e => e)
    obtain ⟨rfl, hq⟩ := hv
    exact wpAny_pure (wpAny_pure (wpAny_pure (wpAny_truthy_bool hq)))
end
section
structure KP (w : World) (a cm la cb : Addr) (dom : List Str) (nb : Str → List Str) (ks : List Addr) (pl : Addr → Str) (h : Heap) : Prop where
  cls : KAt w vnLaw cm a h
  key : ∀ k ∈ ks, KeyAt a k (pl k) h
  cell : ∃ oc, h.get? cm = some oc ∧ oc.data = .cell (some (.ref la))
  lam : LamAt (lam1 w.params) [(Str.ofString "beside", cb)] la h
  bes : BesAt w cb dom nb h
theorem KP.up {w : World} {a cm la cb : Addr} {dom : List Str} {nb : Str → List Str} {ks : List Addr} {pl : Addr → Str} {h h' : Heap} (x : KP w a cm la cb dom nb ks pl h) (e : Ext h h') : KP w a cm la cb dom nb ks pl h' :=
  ⟨x.cls.keeps e, fun k hk => (x.key k hk).keeps e, let ⟨oc, h1, h2⟩ := x.cell; ⟨oc, e _ _ h1, h2⟩, x.lam.keeps e, x.bes.keeps e⟩
theorem KP.sub {w : World} {a cm la cb : Addr} {dom : List Str} {nb : Str → List Str} {ks ks' : List Addr} {pl : Addr → Str} {h : Heap} (x : KP w a cm la cb dom nb ks pl h) (e : ∀ k ∈ ks', k ∈ ks) : KP w a cm la cb dom nb ks' pl h :=
  ⟨x.cls, fun k hk => x.key k (e k hk), x.cell, x.lam, x.bes⟩
noncomputable def eqvOf (nb : Str → List Str) (pl : Addr → Str) (y x : Addr) : Bool := (nb (pl y)).any (· == pl x)
theorem keysK (w : World) (a cm la cb : Addr) (dom : List Str) (nb : Str → List Str) (ks : List Addr) (pl : Addr → Str) (hpl : ∀ k ∈ ks, pl k ∈ dom) (hself : ∀ p ∈ dom, p ∈ nb p) : Keys w (KP w a cm la cb dom nb ks pl) (eqvOf nb pl) ks where
  up := fun _ _ e x => x.up e
  eq := by
    intro y hy x hx dp un gd cn cs a' ccd cl outer A₀ base h₀ L m mean mg mb hdp hun B X XB T hk s E Q hP hq
    by_cases e : y = x
    · subst e
      have ht : eqvOf nb pl y y = true := by
        unfold eqvOf
        exact List.any_eq_true.mpr ⟨_, hself _ (hpl y hy), by simp⟩
      rw [ht] at hq
      unfold eqBool
      refine wpAny_holding ?_
      rw [if_pos (by simp)]
      exact wpAny_bind (wpAny_rule (wpAny_pure (hq s.heap s.toks fun _ _ e => e)))
    · have hu : un < cLine := by have := cLine_is; omega
      refine eqBool_key (b := eqvOf nb pl y x) hu e hP.1.cls (hP.1.key y hy) (hP.1.key x hx) ?_
      intro f c4 P4 a4 y4 z4 w4 n4 t s' q' b' ct g4 gc4
      exact spec_val (news := []) (eq0 w a y x la cb cm f dom nb (pl y) (pl x) (hpl y hy) c4 ct) B hP.2 X XB News.nil T hk (by omega) (by omega) ⟨⟨hP.1.cls, hP.1.key y hy, hP.1.key x hx⟩, hP.1.cell, ⟨hP.1.lam, hP.1.bes⟩, P4, a4, y4, z4, w4, n4, t, s', q', b', g4, gc4⟩
        fun r h' tk' F' N' x' e' => ⟨e', hq h' tk' x'⟩
end
section
noncomputable def stepK (eqv : Addr → Addr → Bool) (cur : List Addr) (k : Addr) : List Addr := dedupK eqv (cur ++ [k])
theorem lam2S (w : World) (la b k : Addr) (cur : List Addr) (n : Nat) (hc : cur.length ≤ 90) (P : Heap → Prop) (eqv : Addr → Addr → Bool) (ks : List Addr) (KE : Keys w P eqv ks) (hks : ∀ x ∈ cur ++ [k], x ∈ ks) :
    Spec0 w 620 8300 la [.ref b, .ref k] (fun h => h.get? b = some (lobj (refs cur) n) ∧ LamAt (lam2 w.params) [] la h ∧ P h)
      (fun h r h' => ∃ b o, r = .ref b ∧ h.get? b = none ∧ h'.get? b = some o ∧ ∃ n, o = lobj (refs (stepK eqv cur k)) n) := by
  unfold Spec0
  k_fill
  intro gd cn cs a' ccd cl outer A₀ base h₀ L m s mean mg mb Q E B F X XB T hk pre hret
  refine hidG fun G_ hG_ => ?_
  obtain ⟨gb, ⟨c, ct, oc, vs, t, gla, gc, hd, hv⟩, hPs⟩ := pre
  refine hG_ ?_
  clear hG_
  refine wpAny_call ?_
  have hs := (show leScope (lam2 w.params) = leScope (lam2 w.params) from rfl)
  conv at hs => rhs; whnf
  refine enterE (binds := [(Str.ofString "have", .ref b), (Str.ofString "key", .ref k)]) B F X XB T rfl rfl hk gla rfl ⟨c, oc, vs, t, rfl, gc, hd, hv⟩ (Nat.le_of_ble_eq_true rfl) ?hb ?hl ?_ ?h1 ?h2 ?h3 ?h4
  case hb => kernel_rfl
  case hl =>
    refine locs ?_
    kernel_rfl
  case h1 => kernel_rfl
  case h2 => kernel_rfl
  case h3 => kernel_rfl
  case h4 => rw [hs]; decide
  intro L' h' F' N' B' X' XB' T'
  have hb := (show leBody (lam2 w.params) = leBody (lam2 w.params) from rfl)
  conv at hb => rhs; whnf
  rw [hb, hs]
  have hl : s.heap.IsList b (refs cur).toArray := ⟨_, gb, rfl, _, rfl⟩
  have hz : (refs cur).length ≤ 100000 := by rw [refs, List.length_map]; omega
  clear hb hs gla gc hd hv
  k_steps
  rename Fr _ _ _ _ => F2
  rename News _ _ _ _ => N2
  have er : refs cur ++ [Value.ref k] = refs (cur ++ [k]) := by simp [refs]
  rw [er] at N2
  refine ⟨?_⟩
  refine' spec_new (P := fun o => ∃ n, o = lobj (refs (dedupK eqv (cur ++ [k]))) n) (dedup0 w _ (cur ++ [k]) ?h1 P eqv (KE.mono hks)) ?B ?F ?X ?XB ?N ?T ?hk ?hd ?hu ?pre ?_
  walk_at "PREM"
  case h1 => rw [List.length_append]; simp; omega
  case pre => exact ⟨⟨_, (N2 _ List.mem_cons_self).1⟩, KE.up _ _ F2.keep hPs⟩
  intro b9 o9 h9 tk9 F9 N9 E9 off9 ip8_
  refine hidG fun G_ hG_ => ?_
  obtain ⟨n9, e9⟩ := ip8_
  refine hG_ ?_
  clear hG_
  subst e9
  clear F2 N2
  try dsimp only
  try k_fold
  k_steps
  all_goals ((try refine leaveX ?_); (try dsimp only); exact hret _ _ _ (Fr.keep (by assumption)) ⟨_, _, rfl, (new_head N9).1, (new_head N9).2, _, rfl⟩)
end
section
local macro_rules | `(tactic| walk_at "setAttr ref") => `(tactic| (refine Stopped.h ?_))
theorem get_none {h : Heap} {b : Addr} (le : h.objs.size ≤ b) : h.get? b = none := by
  cases q : h.get? b with
  | none => rfl
  | some o => exact absurd (Heap.lt_size q) (Nat.not_lt.mpr le)
noncomputable abbrev keyObj (a dx : Addr) (p : Str) (tp : Tok) : Obj := { cls := .ref a, dict := some dx, data := .plain, slots := #[some (.str p tp)] }
noncomputable abbrev dic0 : Obj := { cls := .type "dict", data := .dict #[] 0 }
theorem made1 (w : World) (a cm : Addr) (p : Str) (tp : Tok) : Spec0 w 690 9000 a [.str p tp] (fun h => KAt w vnLaw cm a h) (fun h r h' => ∃ k dx tp, r = .ref k ∧ h.get? k = none ∧ h.get? dx = none ∧ h'.get? k = some (keyObj a dx p tp) ∧ h'.get? dx = some dic0) := by
  unfold Spec0
  k_fill
  intro gd cn cs a' ccd cl outer A₀ base h₀ L m s mean mg mb Q E B F X XB T hk pre hret
  obtain ⟨f, k, hh, ga, gn, gm, ⟨c1, y1, n1, t1, g1, gc1⟩, _⟩ := pre
  have n0 : f 0 ≠ a := ty_ne gn ga (show Value.type "dict" ≠ Value.type "type" by decide)
  have m1 : f 9 ≠ a := ty_ne gm ga (show Value.type "member_descriptor" ≠ Value.type "type" by decide)
  have m2 : f 9 ≠ f 0 := ty_ne gm gn (show Value.type "member_descriptor" ≠ Value.type "dict" by decide)
  have XK := kfr_in ga gn gm
  refine wpAny_call ?_
  refine hideR fun R9 hR9 => ?_
  replace hret := fun r h' tk' x p => hR9 (.ok (.ret r)) _ (hret r h' tk' x p)
  have hs := (show fdScope (st w.params 2) = fdScope (st w.params 2) from rfl)
  conv at hs => rhs; whnf
  have lt : Looks (model PySem.Challenge.rw_ik0192_01.prog w) s.heap (typeOf (.ref (f 1))) (.type "function") := (Looks.ld g1).andThen .now
  refine make_core (h := s.heap) (g := s.gens) (d := s.drawn) (t := s.toks) (os := s.os) (makes_of XK (kf_makes n0)) (looks_findIn XK (kf_init n0)) (fun self => lt.andThen (Looks.of_pure (by kernel_rfl))) (.inl rfl) ?_
  have k2 : ∀ b o, s.heap.get? b = some o → ((s.heap.push emptyDict).push (instObj a s.heap.objs.size)).get? b = some o := fun b o e => Heap.get?_push_of_some _ (Heap.get?_push_of_some _ e)
  have gx : ((s.heap.push emptyDict).push (instObj a s.heap.objs.size)).get? (s.heap.objs.size + 1) = some (instObj a s.heap.objs.size) := by heap_get
  have gd : ((s.heap.push emptyDict).push (instObj a s.heap.objs.size)).get? s.heap.objs.size = some emptyDict := by heap_get
  have hsz : ((s.heap.push emptyDict).push (instObj a s.heap.objs.size)).objs.size = s.heap.objs.size + 1 + 1 := by rw [Heap.size_push, Heap.size_push]
  generalize hH : (s.heap.push emptyDict).push (instObj a s.heap.objs.size) = H at k2 gx gd hsz ⊢
  have F2 : Fr h₀ L H m := hH ▸ (F.push _).push _
  refine enterH (s := ⟨H, s.gens, s.drawn, s.toks, s.os⟩) (binds := [(Str.ofString "self", .ref (s.heap.objs.size + 1)), (Str.ofString "obj", .str p tp)]) B F2 X XB T rfl rfl hk (k2 _ _ g1) rfl ⟨c1 0, _, _, _, rfl, k2 _ _ gc1, rfl, rfl⟩ (Nat.le_of_ble_eq_true rfl) ?hb ?hl ?_ ?h1 ?h2 ?h3 ?h4
  case hb =>
    refine BindsTo.of_eq ?_
    kernel_rfl
  case hl =>
    refine locs ?_
    kernel_rfl
  case h1 => kernel_rfl
  case h2 => kernel_rfl
  case h3 => kernel_rfl
  case h4 => rw [hs]; decide
  intro L' h' F' N' B' X' XB' T'
  have hb := (show fdBody (st w.params 2) = fdBody (st w.params 2) from rfl)
  conv at hb => rhs; whnf
  rw [hb, hs]
  clear hb hs
  k_steps
  refine ⟨?_⟩
  rename Fr _ _ _ _ => F1
  rename News _ _ _ _ => N1
  clear N1
  have up : ∀ b o, s.heap.get? b = some o → (hideAll H [s.heap.objs.size + 1]).get? b = some o := fun b o e => hideAll_get _ (k2 _ _ e) (by
    intro q
    have := Heap.lt_size e
    rw [List.mem_singleton.mp q] at this
    exact absurd this (Nat.not_lt.mpr (Nat.le_succ _)))
  have Fx : Fr (hideAll H [s.heap.objs.size + 1]) L' _ _ := ⟨F1.ns, fun b o e => F1.keep b o (of_hideAll _ e), Nat.le_trans (Nat.le_of_eq (hideAll_size _ _)) F1.above⟩
  have hxL : s.heap.objs.size + 1 ≠ L' := Nat.ne_of_lt (Nat.lt_of_lt_of_le (Heap.lt_size gx) F1.above)
  have gx1 := F1.keep _ _ gx
  have gd1 := F1.keep _ _ gd
  refine set_slot (news := [(s.heap.objs.size + 1, instObj a s.heap.objs.size)]) Fx (kfr_in (up _ _ ga) (up _ _ gn) (up _ _ gm)) (fun p hp => ?_) ⟨gx1, rfl, rfl, gd1⟩ (kf_setattr n0) kf_over (kf_takes n0 m1 m2) (kf_md m1 m2) (kf_slot m1 m2) (by decide) (ox' := keyObj a s.heap.objs.size p tp) (by kernel_rfl!) rfl (Upd.head (List.forall_mem_nil _)) ?_
  · obtain rfl := List.mem_singleton.mp hp
    exact ⟨gx1, hxL, hideAll_none _ (.head _)⟩
  intro h9 F9 N9
  clear F1 Fx gx1 gd1
  k_steps
  all_goals ((try refine leaveX ?_); (try dsimp only); refine ⟨rfl, hret _ _ _ (fun b o e => F9.keep _ _ (up _ _ e)) ⟨_, _, _, rfl, ?_, ?_, (N9 _ (.head _)).1, ?_⟩⟩)
  · exact get_none (Nat.le_succ _)
  · exact get_none (Nat.le_refl _)
  · exact F9.keep _ _ (hideAll_get _ gd (by simp))
noncomputable def KeyIn (a k : Addr) (p : Str) (KL : List (Addr × Obj)) : Prop := ∃ dx tp, (k, keyObj a dx p tp) ∈ KL ∧ (dx, dic0) ∈ KL
theorem KeyIn.at {a k : Addr} {p : Str} {KL : List (Addr × Obj)} {h₀ h : Heap} {L : Addr} (x : KeyIn a k p KL) (N : News h₀ L h KL) : KeyAt a k p h := let ⟨dx, tp, h1, h2⟩ := x; ⟨dx, tp, (N _ h1).1, (N _ h2).1⟩
theorem KeyIn.mono {a k : Addr} {p : Str} {KL KL' : List (Addr × Obj)} (x : KeyIn a k p KL) (h : ∀ q ∈ KL, q ∈ KL') : KeyIn a k p KL' := let ⟨dx, tp, h1, h2⟩ := x; ⟨dx, tp, h _ h1, h _ h2⟩
noncomputable def KeysIn (a : Addr) (ks : List Addr) (ns : List Str) (KL : List (Addr × Obj)) : Prop := ks.length = ns.length ∧ ∀ (i : Nat) k p, ks[i]? = some k → ns[i]? = some p → KeyIn a k p KL
theorem KeysIn.snoc {a : Addr} {ks : List Addr} {ns : List Str} {KL KL' : List (Addr × Obj)} {k : Addr} {p : Str} (x : KeysIn a ks ns KL) (h : ∀ q ∈ KL, q ∈ KL') (hk : KeyIn a k p KL') : KeysIn a (ks ++ [k]) (ns ++ [p]) KL' := by
  refine ⟨by rw [List.length_append, List.length_append, x.1]; rfl, fun j k' p' e1 e2 => ?_⟩
  rcases Nat.lt_or_ge j ks.length with q | q
  · rw [List.getElem?_append_left q] at e1
    rw [List.getElem?_append_left (x.1 ▸ q)] at e2
    exact (x.2 j k' p' e1 e2).mono h
  · rw [List.getElem?_append_right q] at e1
    rw [List.getElem?_append_right (x.1 ▸ q), ← x.1] at e2
    cases z : j - ks.length with
    | zero => rw [z] at e1 e2; simp at e1 e2; subst e1 e2; exact hk
    | succ n => rw [z] at e1; simp at e1
end
section
section
variable {prog : Program} {w : World} {A : Around} {E : Value → Shared → Prop} {s : Shared}
theorem callWith_C {P : Heap → Prop} {C : Addr} {env : Env} {pos : Pos} {e : Expr} {rest : List Expr} {Q : Value → Shared → Prop} (hP : ∀ g, P g → ∃ cd sl, g.get? C = some { cls := .type "type", data := .cls cd, slots := sl })
    (h : wpAny (model prog w) A (spliced (backTo pos (starEach (e :: rest) env))) (fun vs s₁ => P s₁.heap ∧ wpAny (model prog w) A (call (.ref C) vs) Q E s₁) E s)
    (he : starEach (e :: rest) env = (false, eval e env) :: starEach rest env := by rfl)
    (hplain : (backTo pos (starEach rest env)).any (·.1) = false := by rfl) :
    wpAny (model prog w) A (callWith pos (.ref C) [] (backTo pos (starEach (e :: rest) env)) []) Q E s := by
  rw [he] at h ⊢
  have hst : ((backTo pos ((false, eval e env) :: starEach rest env)).any (fun x => x.fst) || ([] : List (Option Str × Sem Value)).any fun x => x.fst.isNone) = false := by
    show ((false || (backTo pos (starEach rest env)).any (·.1)) || false) = false
    rw [hplain]; rfl
  unfold callWith
  refine wpAny_bind (wpAny_holding (Calls.evalArgs_plain (wpAny_mono h (fun vs s₁ h₁ => ?_) fun _ _ x => x)))
  obtain ⟨hh, g, d, t, os⟩ := s₁
  obtain ⟨cd, sl, hC⟩ := hP _ h₁.1
  have f1 := tc_lookup
  have hT : (⟨hh, g, d, t, os⟩ : Shared).TypeIs (.ref C) "type" := ⟨_, hC, rfl⟩
  refine wpAny_bind (wpAny_standAt ?_)
  show wpAny _ _ (keeperOf (.ref C) >>= _) _ _ _
  unfold keeperOf specialOf
  repeat (any_goals (first | assumption | with_reducible refine wpAny_loadPart_at hC ?_ | with_reducible refine wpAny_load' hC ?_ | wp_step))
  rw [if_pos (by rfl), hst]
  show wpAny _ _ (call (.ref C) vs [] >>= fun r => do holding [r] point; pure r) _ _ _
  exact wpAny_bind (wpAny_mono h₁.2 (fun r s' hr => wpAny_bind (wpAny_holding (wpAny_point (wpAny_pure hr)))) fun _ _ x => x)
end
theorem KAt.cls {w : World} {vn : Value} {cm a : Addr} {g : Heap} (x : KAt w vn cm a g) : ∃ cd sl, g.get? a = some { cls := .type "type", data := .cls cd, slots := sl } := by
  obtain ⟨f, k, hh, ga, _⟩ := x
  exact ⟨_, _, ga⟩
end
section
section
open PySem.SeqAt PySem.MeetsSeq PySem.MeetsSeq2 PySem.MeetsSeq3 PySem.SeqRoads2
variable {prog : Program} {w : World}
theorem remove_loopUp {P : Heap → Prop} (hP : ∀ h h', Ext h h' → P h → P h') (l : Addr) (items : Array Value) (n : Nat) (hl : ∀ h, P h → h.get? l = some { cls := .type "list", data := .seq items n }) (x : Value) (e : Value → Bool) (hs1 : items.size ≤ sizeLine) (k : Nat) :
    ∀ i : Nat, items.size - i = k → MeetsIn prog w (Builtin.«list.remove.loop» ⟨[.ref l, x, rawInt i], []⟩)
      (fun A R s => P s.heap ∧ (∀ y, y ∈ items → EqUp prog w A.in1 P y x (e y)) ∧
        (∀ j (hj : j < items.size), i ≤ j → e items[j] = true → (∀ m (hm : m < items.size), i ≤ m → m < j → e items[m] = false) → ∀ h' tk, Ext s.heap h' → P h' → R (.ok (.ret .none)) { s with heap := h'.update l (Obj.mapSeq fun xs => xs.eraseIdxIfInBounds j), toks := tk }) ∧
        ((∀ m (hm : m < items.size), i ≤ m → e items[m] = false) → ∀ h' tk, Ext s.heap h' → P h' → raisesNew "ValueError" A R { s with heap := h', toks := tk })) := by
  induction k with
  | zero =>
    intro i hk A R s h
    obtain ⟨hp, g, d, tk, os⟩ := s; obtain ⟨hPs, he, hyes, h⟩ := h
    have hl' := hl _ hPs
    wp_walk using wpAny_loadPart' hl'
    have hi : items[((i : Nat) : Int).toNat]? = none := by simp; omega
    rw [hi]
    wp_walk
    have h := h (fun m hm h1 => absurd hm (by omega)) hp tk (fun _ _ e => e) hPs
    exact_raiseError plainExc_ValueError h.1 h.2
  | succ k ih =>
    intro i hk A R s h
    obtain ⟨hp, g, d, tk, os⟩ := s; obtain ⟨hPs, he, hyes, h⟩ := h
    have hl' := hl _ hPs
    have hlt : i < items.size := by omega
    wp_walk using wpAny_loadPart' hl'
    have hi : items[((i : Nat) : Int).toNat]? = some items[i] := by simp [hlt]
    have hc : ((i : Int) + 1) = ((i + 1 : Nat) : Int) := by push_cast; rfl
    rw [hi]
    refine wpAny_bind (he _ (Array.getElem_mem hlt) _ _ _ hPs fun h1 tk1 x1 => ?_)
    have hP1 := hP _ _ x1 hPs
    have hl1 := hl _ hP1
    cases hb : e items[i] with
    | true =>
      have hz' : (items.eraseIdxIfInBounds i).size ≤ sizeLine + 1 := Nat.le_trans (size_erased items _) (Nat.le_succ_of_le hs1)
      wp_walk using (wpAny_updateSeq hl1 rfl (hz := hs1) (_hz' := hz')), wpAny_loadPart' hl1
      simpa using hyes i hlt (Nat.le_refl _) hb (fun m _ h1 h2 => absurd h1 (by omega)) h1 tk1 x1 hP1
    | false =>
      wp_walk
      rw [hc]
      exact ⟨plainId_quiet plain_remove_loop _, codeAny_builtin entry_remove_loop (by
        rw [Around.under_plainId plain_remove_loop _]
        refine ih (i + 1) (sub_st (by assumption)) A R _ ⟨hP1, he, fun j hj h1 h2 h3 h' tk' x' p' => ?_, fun h3 h' tk' x' p' => ?_⟩
        · exact hyes j hj (by omega) h2 (fun m hm q1 q2 => by
            rcases Nat.lt_or_ge i m with q | q
            · exact h3 m hm (by omega) q2
            · have : m = i := by omega
              subst this; exact hb) h' tk' (fun b o e => x' b o (x1 b o e)) p'
        · exact h (fun m hm q1 => by
            rcases Nat.lt_or_ge i m with q | q
            · exact h3 m hm (by omega)
            · have : m = i := by omega
              subst this; exact hb) h' tk' (fun b o e => x' b o (x1 b o e)) p')⟩
theorem list_removeUp {P : Heap → Prop} (hP : ∀ h h', Ext h h' → P h → P h') (l : Addr) (items : Array Value) (n : Nat) (hl : ∀ h, P h → h.get? l = some { cls := .type "list", data := .seq items n }) (x : Value) (e : Value → Bool) (hs1 : items.size ≤ sizeLine) :
    MeetsIn prog w (Builtin.«list.remove» ⟨[.ref l, x], []⟩)
      (fun A R s => P s.heap ∧ (∀ y, y ∈ items → EqUp prog w A.in1 P y x (e y)) ∧
        (∀ j (hj : j < items.size), e items[j] = true → (∀ m (hm : m < items.size), m < j → e items[m] = false) → ∀ h' tk, Ext s.heap h' → P h' → R (.ok (.ret .none)) { s with heap := h'.update l (Obj.mapSeq fun xs => xs.eraseIdxIfInBounds j), toks := tk }) ∧
        ((∀ m (hm : m < items.size), e items[m] = false) → ∀ h' tk, Ext s.heap h' → P h' → raisesNew "ValueError" A R { s with heap := h', toks := tk })) := by
  intro A R s h
  obtain ⟨hp, g, d, tk, os⟩ := s; obtain ⟨hPs, he, hyes, h⟩ := h
  have hl' := hl _ hPs
  wp_walk using wpAny_loadPart' hl'
  exact ⟨plainId_quiet plain_remove_loop _, codeAny_builtin entry_remove_loop (by
    rw [Around.under_plainId plain_remove_loop _]
    exact remove_loopUp hP l items n hl x e hs1 _ 0 rfl A R _ ⟨hPs, he, fun j hj _ h2 h3 => hyes j hj h2 (fun m hm q => h3 m hm (Nat.zero_le _) q), fun h3 => h (fun m hm => h3 m hm (Nat.zero_le _))⟩)⟩
end
section
variable {w : World} {prog : Program}
theorem remove_K {A : Around} {E : Value → Shared → Prop} {s : Shared} {h₀ : Heap} {L l : Addr} {m : Str → Option Value} {rest : List (Addr × Obj)} {vs : List Value} {n : Nat} {x : Value} {Q : Value → Shared → Prop} {P : Heap → Prop} (hP : ∀ h h', Ext h h' → P h → P h') (e : Value → Bool)
    (hA : A.handled = none) (F : Fr h₀ L s.heap m) (N : News h₀ L s.heap ((l, lobj vs n) :: rest)) (off : LCg.Off1 l rest) (hPs : P s.heap) (hz : vs.length ≤ 100000)
    (he : ∀ y, y ∈ vs → EqUp prog w A.in1 P y x (e y))
    (hyes : ∀ j (hj : j < vs.length), e vs[j] = true → (∀ m (hm : m < vs.length), m < j → e vs[m] = false) → ∀ h' tk, Fr h₀ L h' m → News h₀ L h' ((l, lobj (vs.eraseIdx j) (n + 1)) :: rest) → Q .none { s with heap := h', toks := tk })
    (hno : (∀ m (hm : m < vs.length), e vs[m] = false) → ∀ h' h1 tk a, Fr h₀ L h1 m → News h₀ L h1 ((l, lobj vs n) :: rest) → Heap.NewExc h1 h' a "ValueError" → E (.ref a) { s with heap := h', toks := tk }) :
    wpAny (model prog w) A (call (.builtin "list.remove") [.ref l, x]) Q E s := by
  have z := N _ List.mem_cons_self
  have hoff : ∀ p ∈ rest, p.1 ≠ l := by
    have gen : ∀ {r : List (Addr × Obj)}, LCg.Off1 l r → ∀ p ∈ r, p.1 ≠ l := by
      intro r
      induction r with
      | nil => intro _ p hp; cases hp
      | cons q r ih =>
        intro h p hp
        rcases List.mem_cons.mp hp with e | hp
        · rw [e]; exact h.1
        · exact ih h.2 p hp
    exact gen off
  refine call_meetsIn _root_.PySem.F.slot_list_remove ⟨_, z.1, rfl⟩ _root_.PySem.F.entry_list_remove (_root_.PySem.F.args_list_remove_2 _ _)
    (list_removeUp (P := fun h => P h ∧ h.get? l = some (lobj vs n)) (fun h h' x ⟨a, b⟩ => ⟨hP _ _ x a, x _ _ b⟩) l vs.toArray n (fun h hp => hp.2) x e (by rw [sizeLine_eq, List.size_toArray]; omega)) ⟨⟨hPs, z.1⟩, fun y hy s' E' Q' hs' hq' => he y (List.mem_toArray.mp hy) s' E' Q' hs'.1 hq', ?_, ?_⟩
  · intro j hj hit hfirst h' tk x' hp'
    have hj' : j < vs.length := by simpa using hj
    have F1 := fr_ext F x'
    have N1 := news_ext N x'
    have hs : Heap.SameBut l h' (h'.update l (Obj.mapSeq fun xs => xs.eraseIdxIfInBounds j)) := Heap.SameBut.update ..
    have hnew : (h'.update l (Obj.mapSeq fun xs => xs.eraseIdxIfInBounds j)).get? l = some (lobj (vs.eraseIdx j) (n + 1)) := by
      have q : (h'.update l (Obj.mapSeq fun xs => xs.eraseIdxIfInBounds j)).get? l = some (Obj.mapSeq (fun xs => xs.eraseIdxIfInBounds j) (lobj vs n)) := Heap.get?_update_self _ hp'.2 rfl
      rw [q]
      simp only [Obj.mapSeq, List.eraseIdxIfInBounds_toArray]
      have hlen : (vs.eraseIdx j).length = vs.length - 1 := List.length_eraseIdx_of_lt hj'
      rw [if_neg]
      rw [List.size_toArray, List.size_toArray, hlen, beq_iff_eq]
      omega
    refine hyes j hj' (by simpa using hit) (fun m hm hlt => hfirst m (by simpa using hm) hlt) _ tk (F1.change hs z.2.1 z.2.2) ?_
    exact news_set (pre := []) N1 (fun p hp => nomatch hp) hoff hs hnew
  · intro hall h' tk x' hp'
    refine ⟨hA, fun h2 tk2 a hx => ?_⟩
    exact hno (fun m hm => hall m (by simpa using hm)) h2 h' tk2 a (fr_ext F x') (news_ext N x') hx
end
end
section
local macro_rules | `(tactic| walk_at "ZZ") => `(tactic| skip)
local macro_rules | `(tactic| walk_at "call builtin:list.remove") => `(tactic| (refine Stopped.h ?_))
noncomputable def rem1 (eqv : Addr → Addr → Bool) (cur : List Addr) (x : Addr) : Option (List Addr) := (cur.findIdx? fun y => eqv y x).map fun j => cur.eraseIdx j
noncomputable def remAll (eqv : Addr → Addr → Bool) (cur fs : List Addr) : Option (List Addr) := fs.foldl (fun acc x => acc.bind fun c => rem1 eqv c x) (some cur)
theorem remAll_take {eqv : Addr → Addr → Bool} {cur fs : List Addr} {i : Nat} {x : Addr} (h : fs[i]? = some x) : remAll eqv cur (fs.take (i + 1)) = (remAll eqv cur (fs.take i)).bind fun c => rem1 eqv c x := by
  unfold remAll; rw [take_step h]
theorem remAll_none {eqv : Addr → Addr → Bool} {cur fs : List Addr} {i : Nat} (h : remAll eqv cur (fs.take i) = none) : remAll eqv cur fs = none := by
  have gen : ∀ l : List Addr, l.foldl (fun acc x => acc.bind fun c => rem1 eqv c x) (none : Option (List Addr)) = none := by
    intro l
    induction l with
    | nil => rfl
    | cons a l ih => rw [List.foldl_cons]; exact ih
  have e : fs = fs.take i ++ fs.drop i := (List.take_append_drop i fs).symm
  unfold remAll at h ⊢
  rw [e, List.foldl_append, h]
  exact gen _
theorem rem1_sub {eqv : Addr → Addr → Bool} {cur c : List Addr} {x : Addr} (h : rem1 eqv cur x = some c) : (∀ y ∈ c, y ∈ cur) ∧ c.length ≤ cur.length := by
  unfold rem1 at h
  refine hidG fun G_ hG_ => ?_
  obtain ⟨j, _, rfl⟩ := Option.map_eq_some_iff.mp h
  refine hG_ ?_
  clear hG_
  exact ⟨fun y hy => List.mem_of_mem_eraseIdx hy, by have := List.length_eraseIdx_le (l := cur) (i := j); exact this⟩
theorem remAll_sub {eqv : Addr → Addr → Bool} {cur : List Addr} : ∀ {fs c : List Addr}, remAll eqv cur fs = some c → (∀ y ∈ c, y ∈ cur) ∧ c.length ≤ cur.length := by
  have gen : ∀ (l : List Addr) (a : Option (List Addr)) (c : List Addr), (∀ c', a = some c' → (∀ y ∈ c', y ∈ cur) ∧ c'.length ≤ cur.length) → l.foldl (fun acc x => acc.bind fun c => rem1 eqv c x) a = some c → (∀ y ∈ c, y ∈ cur) ∧ c.length ≤ cur.length := by
    intro l
    induction l with
    | nil => intro a c h e; exact h c e
    | cons x l ih =>
      intro a c h e
      rw [List.foldl_cons] at e
      refine ih _ c (fun c' e' => ?_) e
      refine hidG fun G_ hG_ => ?_
      obtain ⟨c0, e0, e1⟩ := Option.bind_eq_some_iff.mp e'
      refine hG_ ?_
      clear hG_
      have h0 := h c0 e0
      have h1 := rem1_sub e1
      exact ⟨fun y hy => h0.1 y (h1.1 y hy), Nat.le_trans h1.2 h0.2⟩
  intro fs c h
  exact gen fs (some cur) c (fun c' e => by cases e; exact ⟨fun _ h => h, Nat.le_refl _⟩) h
theorem rem1_at {eqv : Addr → Addr → Bool} {cur : List Addr} {x : Addr} {j : Nat} (hj : j < cur.length) (hit : eqv cur[j] x = true) (hno : ∀ m (hm : m < cur.length), m < j → eqv cur[m] x = false) : rem1 eqv cur x = some (cur.eraseIdx j) := by
  unfold rem1
  have : (cur.findIdx? fun y => eqv y x) = some j := List.findIdx?_eq_some_iff_getElem.mpr ⟨hj, hit, fun m hm => by simpa using hno m (by omega) hm⟩
  rw [this]; rfl
theorem rem1_no {eqv : Addr → Addr → Bool} {cur : List Addr} {x : Addr} (hno : ∀ m (hm : m < cur.length), eqv cur[m] x = false) : rem1 eqv cur x = none := by
  unfold rem1
  have : (cur.findIdx? fun y => eqv y x) = none := List.findIdx?_eq_none_iff.mpr fun y hy => by
    refine hidG fun G_ hG_ => ?_
    obtain ⟨m, hm, rfl⟩ := List.getElem_of_mem hy
    refine hG_ ?_
    clear hG_
    exact hno m hm
  rw [this]; rfl
theorem refs_erase : ∀ {cur : List Addr} {j : Nat}, (refs cur).eraseIdx j = refs (cur.eraseIdx j)
  | [], _ => by simp [refs]
  | _ :: _, 0 => rfl
  | a :: r, j + 1 => congrArg (Value.ref a :: ·) (refs_erase (cur := r) (j := j))
theorem refs_at {as : List Addr} {m : Nat} (h : m < (refs as).length) : (refs as)[m] = .ref (as[m]'(by rw [List.length_map] at h; exact h)) := List.getElem_map ..
theorem refs_len {as : List Addr} : (refs as).length = as.length := List.length_map ..
theorem news_swap {h₀ h : Heap} {L : Addr} {a b : Addr × Obj} {r : List (Addr × Obj)} (N : News h₀ L h (a :: b :: r)) : News h₀ L h (b :: a :: r) := fun p hp => N p (by
  rcases List.mem_cons.mp hp with e | hp
  · rw [e]; exact .tail _ (.head _)
  · rcases List.mem_cons.mp hp with e | hp
    · rw [e]; exact .head _
    · exact .tail _ (.tail _ hp))
theorem fin_bool {cur : List Addr} : (!!(refs cur).toArray.isEmpty) = decide (some cur = some ([] : List Addr)) := by cases cur <;> simp [refs]
namespace CM
noncomputable abbrev V := World × Addr × Addr × (List Addr) × (List Addr) × (Heap → Prop) × (Addr → Addr → Bool) × (List Addr) × (Option (List Code)) × Str × Scope × Addr × Value × (List (Str × Addr)) × Around × Heap × Heap × Addr × (Str → Option Value) × Shared × (ExcName → Option Value) × (Str → Option Value) × (Str → Option Value) × (Value → Shared → Prop) × (Value → Shared → Prop)
noncomputable def S (w : World) (fa : Addr) (sa : Addr) (fs : List Addr) (ss : List Addr) (P : Heap → Prop) (eqv : Addr → Addr → Bool) (ks : List Addr) (gd : Option (List Code)) (cn : Str) (cs : Scope) (a : Addr) (ccd : Value) (cl : List (Str × Addr)) (A₀ : Around) (base : Heap) (h₀ : Heap) (L : Addr) (m : Str → Option Value) (s : Shared) (mean : ExcName → Option Value) (mg : Str → Option Value) (mb : Str → Option Value) (Q : Value → Shared → Prop) (E : Value → Shared → Prop) : Prop :=
  (fs.length ≤ 50) →
  (ss.length ≤ 50) →
  (Keys w P eqv ks) →
  (∀ x ∈ fs, x ∈ ks) →
  (∀ x ∈ ss, x ∈ ks) →
  (Below A₀ base [] h₀) →
  (Fr h₀ L s.heap m) →
  ((Mine.hd.heap_1 w.params).In h₀) →
  (KBIn w h₀) →
  (Top topProg LSG mean mg mb h₀) →
  (cs.kind = .function) →
  ((∃ n, s.heap.get? fa = some (lobj (refs fs) n)) ∧ (∃ n, s.heap.get? sa = some (lobj (refs ss) n)) ∧ P s.heap) →
  (∀ h' tk', (∀ b o, b ≠ L → s.heap.get? b = some o → h'.get? b = some o) → h'.Ns L m → Q (.bool (decide (remAll eqv (dedupK eqv ss) (dedupK eqv fs) = some []))) { s with heap := h', toks := tk' }) →
  wpAny (model PySem.Challenge.rw_ik0192_01.prog w) (ktrTop 630 8400 gd cn cs L a ccd cl []) (call (.ref 43) [.ref fa, .ref sa]) Q E s
noncomputable def SV (v : V) : Prop := S v.1 v.2.1 v.2.2.1 v.2.2.2.1 v.2.2.2.2.1 v.2.2.2.2.2.1 v.2.2.2.2.2.2.1 v.2.2.2.2.2.2.2.1 v.2.2.2.2.2.2.2.2.1 v.2.2.2.2.2.2.2.2.2.1 v.2.2.2.2.2.2.2.2.2.2.1 v.2.2.2.2.2.2.2.2.2.2.2.1 v.2.2.2.2.2.2.2.2.2.2.2.2.1 v.2.2.2.2.2.2.2.2.2.2.2.2.2.1 v.2.2.2.2.2.2.2.2.2.2.2.2.2.2.1 v.2.2.2.2.2.2.2.2.2.2.2.2.2.2.2.1 v.2.2.2.2.2.2.2.2.2.2.2.2.2.2.2.2.1 v.2.2.2.2.2.2.2.2.2.2.2.2.2.2.2.2.2.1 v.2.2.2.2.2.2.2.2.2.2.2.2.2.2.2.2.2.2.1 v.2.2.2.2.2.2.2.2.2.2.2.2.2.2.2.2.2.2.2.1 v.2.2.2.2.2.2.2.2.2.2.2.2.2.2.2.2.2.2.2.2.1 v.2.2.2.2.2.2.2.2.2.2.2.2.2.2.2.2.2.2.2.2.2.1 v.2.2.2.2.2.2.2.2.2.2.2.2.2.2.2.2.2.2.2.2.2.2.1 v.2.2.2.2.2.2.2.2.2.2.2.2.2.2.2.2.2.2.2.2.2.2.2.1 v.2.2.2.2.2.2.2.2.2.2.2.2.2.2.2.2.2.2.2.2.2.2.2.2
noncomputable def v : V := @Classical.epsilon V ⟨⟨w00, 0, 0, [], [], fun _ => True, fun _ _ => true, [], none, default, default, 0, .none, [], {}, {}, {}, 0, fun _ => none, {}, fun _ => none, fun _ => none, fun _ => none, fun _ _ => True, fun _ _ => True⟩⟩ fun v => ¬ SV v
@[irreducible] noncomputable def w : World := v.1
@[irreducible] noncomputable def fa : Addr := v.2.1
@[irreducible] noncomputable def sa : Addr := v.2.2.1
@[irreducible] noncomputable def fs : List Addr := v.2.2.2.1
@[irreducible] noncomputable def ss : List Addr := v.2.2.2.2.1
@[irreducible] noncomputable def P : Heap → Prop := v.2.2.2.2.2.1
@[irreducible] noncomputable def eqv : Addr → Addr → Bool := v.2.2.2.2.2.2.1
@[irreducible] noncomputable def ks : List Addr := v.2.2.2.2.2.2.2.1
@[irreducible] noncomputable def gd : Option (List Code) := v.2.2.2.2.2.2.2.2.1
@[irreducible] noncomputable def cn : Str := v.2.2.2.2.2.2.2.2.2.1
@[irreducible] noncomputable def cs : Scope := v.2.2.2.2.2.2.2.2.2.2.1
@[irreducible] noncomputable def a : Addr := v.2.2.2.2.2.2.2.2.2.2.2.1
@[irreducible] noncomputable def ccd : Value := v.2.2.2.2.2.2.2.2.2.2.2.2.1
@[irreducible] noncomputable def cl : List (Str × Addr) := v.2.2.2.2.2.2.2.2.2.2.2.2.2.1
@[irreducible] noncomputable def A₀ : Around := v.2.2.2.2.2.2.2.2.2.2.2.2.2.2.1
@[irreducible] noncomputable def base : Heap := v.2.2.2.2.2.2.2.2.2.2.2.2.2.2.2.1
@[irreducible] noncomputable def h₀ : Heap := v.2.2.2.2.2.2.2.2.2.2.2.2.2.2.2.2.1
@[irreducible] noncomputable def L : Addr := v.2.2.2.2.2.2.2.2.2.2.2.2.2.2.2.2.2.1
@[irreducible] noncomputable def m : Str → Option Value := v.2.2.2.2.2.2.2.2.2.2.2.2.2.2.2.2.2.2.1
@[irreducible] noncomputable def s : Shared := v.2.2.2.2.2.2.2.2.2.2.2.2.2.2.2.2.2.2.2.1
@[irreducible] noncomputable def mean : ExcName → Option Value := v.2.2.2.2.2.2.2.2.2.2.2.2.2.2.2.2.2.2.2.2.1
@[irreducible] noncomputable def mg : Str → Option Value := v.2.2.2.2.2.2.2.2.2.2.2.2.2.2.2.2.2.2.2.2.2.1
@[irreducible] noncomputable def mb : Str → Option Value := v.2.2.2.2.2.2.2.2.2.2.2.2.2.2.2.2.2.2.2.2.2.2.1
@[irreducible] noncomputable def Q : Value → Shared → Prop := v.2.2.2.2.2.2.2.2.2.2.2.2.2.2.2.2.2.2.2.2.2.2.2.1
@[irreducible] noncomputable def E : Value → Shared → Prop := v.2.2.2.2.2.2.2.2.2.2.2.2.2.2.2.2.2.2.2.2.2.2.2.2
theorem all : S w fa sa fs ss P eqv ks gd cn cs a ccd cl A₀ base h₀ L m s mean mg mb Q E := by
  unfold S
  intro h1 h2 KA hfk hsk B F X XB T hk pre hret
  revert X
  k_fill
  intro X
  refine hidG fun G_ hG_ => ?_
  obtain ⟨⟨fn, gf⟩, ⟨sn, gs⟩, hPs⟩ := pre
  refine hG_ ?_
  clear hG_
  refine wpAny_call ?_
  walk_at "ENTER0"
  intro L' h' F' N' B' X' XB' T' av
  replace F' : Fr _ L' h' (fun y => ([(Str.ofString "second_args", .ref sa), (Str.ofString "first_args", .ref fa)] : List (Str × Value)).lookup y) := F'
  k_steps
  refine ⟨?_⟩
  refine' spec_new (P := fun o => ∃ n, o = lobj (refs (dedupK eqv fs)) n) (dedup0 w fa fs ?h1 P eqv (KA.mono hfk)) ?B ?F ?X ?XB ?N ?T ?hk ?hd ?hu ?pre ?_
  walk_at "PREM"
  case h1 => omega
  case pre => exact ⟨⟨_, F'.keep _ _ gf⟩, KA.up _ _ F'.keep hPs⟩
  intro b1 o1 h1' tk1 F1 N1 E1 off1 ip8_
  refine hidG fun G_ hG_ => ?_
  obtain ⟨n1, e1⟩ := ip8_
  refine hG_ ?_
  clear hG_
  subst e1
  clear F' N'
  try dsimp only
  try k_fold
  k_steps
  rename Fr _ _ _ _ => F2
  rename News _ _ _ _ => N2
  refine ⟨?_⟩
  refine' spec_new (P := fun o => ∃ n, o = lobj (refs (dedupK eqv ss)) n) (dedup0 w sa ss ?h1 P eqv (KA.mono hsk)) ?B ?F ?X ?XB ?N ?T ?hk ?hd ?hu ?pre ?_
  walk_at "PREM"
  case h1 => omega
  case pre => exact ⟨⟨_, F2.keep _ _ gs⟩, KA.up _ _ F2.keep hPs⟩
  intro b2 o2 h2' tk2 F3 N3 E3 off3 ip8_
  refine hidG fun G_ hG_ => ?_
  obtain ⟨n2, e2⟩ := ip8_
  refine hG_ ?_
  clear hG_
  subst e2
  clear F2 N2
  have hz2 : (refs (dedupK eqv ss)).length ≤ 100000 := by have := dedup_len (eqv := eqv) ss; simp [refs]; omega
  try dsimp only
  try k_fold
  k_steps
  rename Fr _ _ _ _ => Fl
  rename News _ _ _ _ => Nl
  refine ⟨for_src (oax := lobj (refs (dedupK eqv fs)) n1) [] (fun i u nw => ∃ cur c, remAll eqv (dedupK eqv ss) ((dedupK eqv fs).take i) = some cur ∧ nw = [(_, lobj (refs cur) c), (_, lobj (refs (dedupK eqv ss)) n2), (b1, lobj (refs (dedupK eqv fs)) n1)]) rfl rfl rfl Fl Nl rfl (.inr (List.mem_cons_of_mem _ (List.mem_cons_of_mem _ List.mem_cons_self))) ⟨dedupK eqv ss, _, rfl, rfl⟩ (fun i u nw ⟨cur, c, _, e⟩ => .inr (e ▸ (List.mem_cons_of_mem _ (List.mem_cons_of_mem _ List.mem_cons_self)))) ?_ ?_⟩
  · intro i v u nw h tk I oI hv ip9_ F4 N4 off4
    refine hidG fun G_ hG_ => ?_
    obtain ⟨cur, c, hcur, enw⟩ := ip9_
    refine hG_ ?_
    clear hG_
    subst enw
    have off4 := off1_of off4
    simp only [LCg.Off1, and_true] at off4
    refine hidG fun G_ hG_ => ?_
    obtain ⟨mo1, mo2, mo3⟩ := off4
    refine hG_ ?_
    clear hG_
    have hi : i < (dedupK eqv fs).length := by
      rcases Nat.lt_or_ge i (dedupK eqv fs).length with h | h
      · exact h
      · rw [List.getElem?_eq_none (by simpa [refs] using h)] at hv; cases hv
    have e1 := refs_get hi
    rw [hv] at e1
    have e1 := Option.some.inj e1
    subst e1
    have hki := List.getElem?_eq_getElem hi
    clear Fl Nl
    try dsimp only
    try k_fold
    k_steps
    have hPh := KA.up _ _ F4.keep hPs
    rename Fr _ _ _ _ => F5
    rename News _ _ _ _ => N5
    have hcs := remAll_sub hcur
    refine ⟨remove_K (P := fun h => P h ∧ Fr s.heap L' h _) (fun h h' x ⟨a, f⟩ => ⟨KA.up _ _ x a, fr_ext f x⟩) (fun v => match v with | .ref y => eqv y (dedupK eqv fs)[i] | _ => false) rfl F5 (rest := [(I, oI), (b2, lobj (refs (dedupK eqv ss)) n2), (b1, lobj (refs (dedupK eqv fs)) n1)]) (news_swap N5) ⟨by k_ne, by k_ne, by k_ne, trivial⟩ ⟨KA.up _ _ F5.keep hPs, F5⟩ (by rw [refs_len]; have := dedup_len (eqv := eqv) ss; omega) ?_ ?_ ?_⟩
    · intro y hy
      refine hidG fun G_ hG_ => ?_
      obtain ⟨y', hy', rfl⟩ := List.mem_map.mp hy
      refine hG_ ?_
      clear hG_
      exact KA.eq y' (hsk _ (dedup_sub _ (hcs.1 _ hy'))) _ (hfk _ (dedup_sub _ (List.getElem_mem hi))) _ _ _ _ _ _ _ _ _ _ _ _ _ _ _ _ _ (Nat.le_of_ble_eq_true rfl) (Nat.le_of_ble_eq_true rfl) B' X' XB' T' rfl
    · intro j hj hit hfirst h6 tk6 F6 N6
      have hj' : j < cur.length := by rw [refs_len] at hj; exact hj
      have hr : rem1 eqv cur (dedupK eqv fs)[i] = some (cur.eraseIdx j) := rem1_at hj' (by rw [refs_at] at hit; exact hit) (fun m hm hlt => by have q := hfirst m (by rw [refs_len]; exact hm) hlt; rw [refs_at] at q; exact q)
      rw [refs_erase] at N6
      clear F5 N5
      try dsimp only
      try k_fold
      k_steps
      (try dsimp only)
      (try dsimp only [TurnPostX])
      rename Fr _ _ _ _ => F7
      rename News _ _ _ _ => N7
      refine TurnEndX.mk F7 N7 [(_, lobj (refs (cur.eraseIdx j)) (c + 1)), (b2, lobj (refs (dedupK eqv ss)) n2), (b1, lobj (refs (dedupK eqv fs)) n1)] ?hs ?ho (fun y h1 _ => if_neg h1) ⟨cur.eraseIdx j, c + 1, by rw [remAll_take hki, hcur]; exact hr, rfl⟩
      case hs => exact fun p hp => by
                   rcases List.mem_cons.mp hp with e | hp
                   · rw [e]; exact .tail _ (.head _)
                   · rcases List.mem_cons.mp hp with e | hp
                     · rw [e]; exact .head _
                     · exact .tail _ (.tail _ hp)
      case ho => exact off_of ⟨by k_ne, by k_ne, by k_ne, trivial⟩
    · intro hall h7 h6 tk6 ae F6 N6 hx
      have hr : rem1 eqv cur (dedupK eqv fs)[i] = none := rem1_no (fun m hm => by have q := hall m (by rw [refs_len]; exact hm); rw [refs_at] at q; exact q)
      clear F5 N5
      refine hidG fun G_ hG_ => ?_
      obtain ⟨oL, es, ep, hL, hLd, hLk, hLf⟩ := id F.ns
      refine hG_ ?_
      clear hG_
      have hLL : L ≠ L' := Nat.ne_of_lt (Nat.lt_of_lt_of_le (Heap.lt_size hL) F6.above)
      have hn : ∀ x, s.heap.get? x = none → (hideAll s.heap [L]).get? x = none := fun x e => by
        cases q : (hideAll s.heap [L]).get? x with
        | none => rfl
        | some o => rw [of_hideAll _ q] at e; cases e
      have Fb : Fr (hideAll s.heap [L]) L' h6 _ := ⟨F6.ns, fun b o e => F6.keep _ _ (of_hideAll _ e), Nat.le_trans (Nat.le_of_eq (hideAll_size _ _)) F6.above⟩
      have Nb : News (hideAll s.heap [L]) L' h6 ([(_, lobj (refs cur) c), (I, oI), (b2, lobj (refs (dedupK eqv ss)) n2), (b1, lobj (refs (dedupK eqv fs)) n1)] ++ [(L, oL)]) := fun p hp => by
        rcases List.mem_append.mp hp with hp | hp
        · exact ⟨(N6 p hp).1, (N6 p hp).2.1, hn _ (N6 p hp).2.2⟩
        · rw [List.mem_singleton.mp hp]
          exact ⟨F6.keep _ _ hL, hLL, hideAll_none _ (.head _)⟩
      have nL : ∀ p ∈ [(_, lobj (refs cur) c), (I, oI), (b2, lobj (refs (dedupK eqv ss)) n2), (b1, lobj (refs (dedupK eqv fs)) n1)], p.1 ≠ L := fun p hp q => by
        have := (N6 p hp).2.2
        rw [q, hL] at this; cases this
      have hkm : (envX cn cs L a ccd cl).scope.kind ≠ .module := by
        show cs.kind ≠ .module
        rw [hk]; decide
      have Fs : TI.Frs [envX cn cs L a ccd cl] [(L, oL)] := ⟨hkm, rfl, ⟨es, ep, hLd⟩, trivial⟩
      have Tb : Top topProg LSG mean mg mb (hideAll s.heap [L]) := T.keeps fun b o e => hideAll_get _ (F.keep _ _ e) (fun q => absurd (Heap.lt_size e) (Nat.not_lt.mpr ((List.mem_singleton.mp q) ▸ F.above)))
      refine TLg.noted_new1 (h₀ := hideAll s.heap [L]) rfl Fs hx Fb Nb (TLgL.allNe_of nL) (fun h8 sl Fs8 H8 => ?_) rfl
      have HH := TT.HeldNA.held H8
      clear F6 N6 hx Fb Nb T T' B' XB' X' Fs
      k_steps
      (try refine leaveX ?_)
      try dsimp only
      rename Fr _ _ _ _ => Fe
      rename News _ _ _ _ => Ne
      have hz : remAll eqv (dedupK eqv ss) (dedupK eqv fs) = none := remAll_none (i := i + 1) (by rw [remAll_take hki, hcur]; exact hr)
      have gl := (Ne (L, { oL with slots := sl }) (by simp)).1
      have fin := hret _ (by assumption) (fun b o q e => Fe.keep _ _ (hideAll_get _ e (by simp [q]))) ⟨_, es, ep, gl, hLd, hLk, hLf⟩
      rw [hz] at fin
      exact fin
  · intro u nw h tk ip4_ F8 N8
    refine hidG fun G_ hG_ => ?_
    obtain ⟨cur, c, hcur, enw⟩ := ip4_
    refine hG_ ?_
    clear hG_
    subst enw
    rw [refs_len, List.take_length] at hcur
    have hcs := remAll_sub hcur
    have hzc : (refs cur).length ≤ 100000 := by rw [refs_len]; have := dedup_len (eqv := eqv) ss; omega
    clear Fl Nl
    try dsimp only
    try k_fold
    k_steps
    all_goals ((try refine leaveX ?_); (try dsimp only); rw [fin_bool, show decide (some cur = some ([] : List Addr)) = decide (remAll eqv (dedupK eqv ss) (dedupK eqv fs) = some []) by rw [hcur]]; exact hret _ _ (fun b o _ e => Fr.keep (by assumption) b o e) (F.ns.keeps (Fr.keep (by assumption))))
theorem fin (v' : V) : SV v' := by
  apply Classical.byContradiction
  intro n
  exact @Classical.epsilon_spec V (fun v => ¬ SV v) ⟨v', n⟩ (by with_unfolding_all exact all)
end CM
theorem cmp0 (w : World) (fa sa : Addr) (fs ss : List Addr) (h1 : fs.length ≤ 50) (h2 : ss.length ≤ 50) (P : Heap → Prop) (eqv : Addr → Addr → Bool) (ks : List Addr) (KA : Keys w P eqv ks) (hfk : ∀ x ∈ fs, x ∈ ks) (hsk : ∀ x ∈ ss, x ∈ ks) 
    (gd : Option (List Code)) (cn : Str) (cs : Scope) (a : Addr) (ccd : Value) (cl : List (Str × Addr)) (A₀ : Around) (base h₀ : Heap) (L : Addr) (m : Str → Option Value) (s : Shared)
    (mean : ExcName → Option Value) (mg mb : Str → Option Value) (Q E : Value → Shared → Prop)
    (B : Below A₀ base [] h₀) (F : Fr h₀ L s.heap m) (X : (Mine.hd.heap_1 w.params).In h₀) (XB : KBIn w h₀) (T : Top topProg LSG mean mg mb h₀) (hk : cs.kind = .function)
    (pre : (∃ n, s.heap.get? fa = some (lobj (refs fs) n)) ∧ (∃ n, s.heap.get? sa = some (lobj (refs ss) n)) ∧ P s.heap)
    (hret : ∀ h' tk', (∀ b o, b ≠ L → s.heap.get? b = some o → h'.get? b = some o) → h'.Ns L m → Q (.bool (decide (remAll eqv (dedupK eqv ss) (dedupK eqv fs) = some []))) { s with heap := h', toks := tk' }) :
    wpAny (model PySem.Challenge.rw_ik0192_01.prog w) (ktrTop 630 8400 gd cn cs L a ccd cl []) (call (.ref 43) [.ref fa, .ref sa]) Q E s :=
  CM.fin ⟨w, fa, sa, fs, ss, P, eqv, ks, gd, cn, cs, a, ccd, cl, A₀, base, h₀, L, m, s, mean, mg, mb, Q, E⟩ h1 h2 KA hfk hsk B F X XB T hk pre hret
end
section
local macro_rules | `(tactic| walk_at "exec While Compare") => `(tactic| (refine Stopped.h ?_))
noncomputable def digs : Nat → Nat → List Nat
  | 0, _ => []
  | k + 1, n => if n = 0 then [] else n % 6 :: digs k (n / 6)
noncomputable def pieceAt (d : Nat) : Str := ([Str.ofString "a", Str.ofString "b", Str.ofString "..", Str.ofString "ab", Str.ofString "a", Str.ofString ""] : List Str).getD d (Str.ofString "")
noncomputable def lawText (n : Nat) : Str := ((digs 3 n).map pieceAt).foldl joinR (Str.ofString "/")
theorem digs_len : ∀ k n, (digs k n).length ≤ k
  | 0, _ => Nat.le_refl _
  | k + 1, n => by
    unfold digs
    split
    · exact Nat.zero_le _
    · exact Nat.succ_le_succ (digs_len k _)
theorem digs_zero : ∀ k, digs k 0 = []
  | 0 => rfl
  | _ + 1 => rfl
theorem digs_step {k n : Nat} (h : 0 < n) : digs (k + 1) n = n % 6 :: digs k (n / 6) := if_neg (by omega)
theorem text_fin : ∀ n : Fin 216, ∀ i : Fin 4, 0 < ((((digs 3 n.1).map pieceAt).take i.1).foldl joinR (Str.ofString "/")).length ∧ ((((digs 3 n.1).map pieceAt).take i.1).foldl joinR (Str.ofString "/")).length ≤ 1000 := by decide +kernel
theorem text_len {n : Nat} (hn : n < 216) (i : Nat) : 0 < ((((digs 3 n).map pieceAt).take i).foldl joinR (Str.ofString "/")).length ∧ ((((digs 3 n).map pieceAt).take i).foldl joinR (Str.ofString "/")).length ≤ 1000 := by
  rcases Nat.lt_or_ge i 4 with h | h
  · exact text_fin ⟨n, hn⟩ ⟨i, h⟩
  · have e : ((digs 3 n).map pieceAt).take i = ((digs 3 n).map pieceAt).take 3 := by
      have := digs_len 3 n
      rw [List.take_of_length_le (by rw [List.length_map]; omega), List.take_of_length_le (by rw [List.length_map]; omega)]
    rw [e]; exact text_fin ⟨n, hn⟩ ⟨3, by decide⟩
theorem piece_len (d : Nat) : (pieceAt d).length ≤ 1000 := by
  match d with
  | 0 => decide +kernel
  | 1 => decide +kernel
  | 2 => decide +kernel
  | 3 => decide +kernel
  | 4 => decide +kernel
  | 5 => decide +kernel
  | n + 6 => show (Str.ofString "").length ≤ 1000; decide +kernel
theorem news_one {h₀ h : Heap} {L : Addr} {all : List (Addr × Obj)} {p : Addr × Obj} (N : News h₀ L h all) (m : p ∈ all) : News h₀ L h [p] := fun q hq => by rw [List.mem_singleton.mp hq]; exact N p m
noncomputable def JT (n : Nat) (l : Addr) (k : Nat) (m₁ : Str → Option Value) (nw : List (Addr × Obj)) : Prop := ∃ (cur : Nat) (tn : Tok) (vs : List Value) (c : Nat) (ds : List Nat),
  m₁ = (fun y => if y = Str.ofString "n" then some (.int (cur : Int) tn) else if y = Str.ofString "pieces" then some (.ref l) else none) ∧ nw = [(l, lobj vs c)] ∧ StrsAre vs (ds.map pieceAt) ∧ digs 3 n = ds ++ digs k cur ∧ cur < 6 ^ k
theorem jt_start {n : Nat} {l : Addr} {t : Tok} {m : Str → Option Value} (hn : n < 216) (hm : m = fun y => if y = Str.ofString "n" then some (.int (n : Int) t) else if y = Str.ofString "pieces" then some (.ref l) else none) : JT n l 3 m [(l, lobj [] 0)] :=
  ⟨n, t, [], 0, [], hm, rfl, .nil, rfl, hn⟩
theorem jt_step {n : Nat} {l : Addr} {k cur c d : Nat} {t1 t2 : Tok} {vs : List Value} {ds : List Nat} {m : Str → Option Value} {x : Int} {p : Str} (hvs : StrsAre vs (ds.map pieceAt)) (hds : digs 3 n = ds ++ digs k cur) (hcur : cur < 6 ^ k) (hpos : 0 < cur) (hk : ((cur : Nat) : Int).fmod 6 = (d : Int)) (hd : pieceAt d = p) (hx : x = ((cur / 6 : Nat) : Int))
    (hm : m = fun y => if y = Str.ofString "n" then some (.int x t2) else if y = Str.ofString "pieces" then some (.ref l) else none) : k - 1 < k ∧ JT n l (k - 1) m [(l, lobj (vs ++ [.str p t1]) c)] := by
  have hk0 : 0 < k := by
    rcases Nat.eq_zero_or_pos k with rfl | h
    · simp at hcur; omega
    · exact h
  obtain ⟨j, rfl⟩ : ∃ j, k = j + 1 := ⟨k - 1, by omega⟩
  have e : cur % 6 = d := by
    have : ((cur % 6 : Nat) : Int) = (d : Int) := by rw [← hk, Int.fmod_eq_emod_of_nonneg _ (by decide)]; rfl
    exact Int.ofNat.inj this
  refine ⟨by omega, cur / 6, t2, vs ++ [.str p t1], c, ds ++ [cur % 6], by rw [hm, hx], rfl, ?_, ?_, ?_⟩
  · rw [List.map_append, List.map_singleton, e, hd]; exact StrsAre.append' hvs (.cons _ _ .nil)
  · rw [hds, digs_step hpos, List.append_assoc]; rfl
  · have : 6 ^ (j + 1) = 6 ^ j * 6 := Nat.pow_succ ..
    show cur / 6 < 6 ^ j
    omega
theorem fdiv6 (n : Nat) : ((n : Nat) : Int).fdiv 6 = ((n / 6 : Nat) : Int) := by rw [Int.fdiv_eq_ediv_of_nonneg _ (by decide)]; rfl
theorem lawtext0 (w : World) (n : Nat) (t : Tok) (hn : n < 216) : Spec0 w 660 8700 179 [.int (n : Int) t] (fun _ => True)
    (fun _ r _ => ∃ t, r = .str (lawText n) t) := by
  unfold Spec0
  k_fill
  intro gd cn cs a ccd cl outer A₀ base h₀ L m s mean mg mb Q E B F X XB T hk pre hret
  refine wpAny_call ?_
  refine hideR fun R9 hR9 => ?_
  replace hret := fun r h' tk' x p => hR9 (.ok (.ret r)) _ (hret r h' tk' x p)
  walk_at "ENTER0"
  intro L' h' F' N' B' X' XB' T' av
  replace F' : Fr _ L' h' (fun y => ([(Str.ofString "n", .int (n : Int) t)] : List (Str × Value)).lookup y) := F'
  refine tok0 fun tk0 => ?_
  k_steps
  rename Fr _ _ _ _ => Fl
  rename News _ _ _ _ => Nl
  refine ⟨While_inv (JT n _) Fl Nl (jt_start (t := t) hn ?_) ?_⟩
  · funext y
    show (if y = Str.ofString "pieces" then _ else List.lookup y [(Str.ofString "n", Value.int (n : Int) t)]) = _
    by_cases h1 : y = Str.ofString "pieces"
    · subst h1; rw [if_pos rfl, if_neg (by decide +kernel), if_pos rfl]
    · by_cases h2 : y = Str.ofString "n"
      · subst h2; rw [if_neg h1, if_pos rfl]; simp
      · have : (y == Str.ofString "n") = false := by simpa using h2
        rw [if_neg h1, if_neg h2, if_neg h1, List.lookup_cons, this]; rfl
  · intro k m₁ nw h₁ tk₁ F₁ N₁ ip7_
    refine hidG fun G_ hG_ => ?_
    obtain ⟨cur, tn, vs, c, ds, rfl, rfl, hvs, hds, hcur⟩ := ip7_
    refine hG_ ?_
    clear hG_
    have hdl : ds.length ≤ 3 := by have := digs_len 3 n; rw [hds, List.length_append] at this; omega
    have hzv : vs.length ≤ 100000 := by rw [hvs.len_eq, List.length_map]; omega
    clear Fl Nl
    k_steps
    · have hpos : 0 < cur := by omega
      (try dsimp only)
      refine' WhileStep.intro (n' := k - 1) ?F (news_one (p := (_, lobj (vs ++ [.str (Str.ofString "a") _]) _)) ?N ?m) ?hn ?hJ
      case F => k_asm
      case hn => exact (Nat.sub_lt (by rcases Nat.eq_zero_or_pos k with rfl | h; (simp at hcur; omega); exact h) (by decide))
      case N => k_asm
      case m => k_mem
      case hJ => exact (jt_step (d := 0) (p := Str.ofString "a") hvs hds hcur hpos (by assumption) (by decide +kernel) (fdiv6 _) (by funext y; by_cases h1 : y = Str.ofString "n"; (exact (if_pos h1).trans (if_pos h1).symm); (exact (if_neg h1).trans ((if_neg h1).trans (if_neg h1).symm)))).2
    · have hpos : 0 < cur := by omega
      (try dsimp only)
      refine' WhileStep.intro (n' := k - 1) ?F (news_one (p := (_, lobj (vs ++ [.str (Str.ofString "b") _]) _)) ?N ?m) ?hn ?hJ
      case F => k_asm
      case hn => exact (Nat.sub_lt (by rcases Nat.eq_zero_or_pos k with rfl | h; (simp at hcur; omega); exact h) (by decide))
      case N => k_asm
      case m => k_mem
      case hJ => exact (jt_step (d := 1) (p := Str.ofString "b") hvs hds hcur hpos (by assumption) (by decide +kernel) (fdiv6 _) (by funext y; by_cases h1 : y = Str.ofString "n"; (exact (if_pos h1).trans (if_pos h1).symm); (exact (if_neg h1).trans ((if_neg h1).trans (if_neg h1).symm)))).2
    · have hpos : 0 < cur := by omega
      (try dsimp only)
      refine' WhileStep.intro (n' := k - 1) ?F (news_one (p := (_, lobj (vs ++ [.str (Str.ofString "..") _]) _)) ?N ?m) ?hn ?hJ
      case F => k_asm
      case hn => exact (Nat.sub_lt (by rcases Nat.eq_zero_or_pos k with rfl | h; (simp at hcur; omega); exact h) (by decide))
      case N => k_asm
      case m => k_mem
      case hJ => exact (jt_step (d := 2) (p := Str.ofString "..") hvs hds hcur hpos (by assumption) (by decide +kernel) (fdiv6 _) (by funext y; by_cases h1 : y = Str.ofString "n"; (exact (if_pos h1).trans (if_pos h1).symm); (exact (if_neg h1).trans ((if_neg h1).trans (if_neg h1).symm)))).2
    · have hpos : 0 < cur := by omega
      (try dsimp only)
      refine' WhileStep.intro (n' := k - 1) ?F (news_one (p := (_, lobj (vs ++ [.str (Str.ofString "ab") _]) _)) ?N ?m) ?hn ?hJ
      case F => k_asm
      case hn => exact (Nat.sub_lt (by rcases Nat.eq_zero_or_pos k with rfl | h; (simp at hcur; omega); exact h) (by decide))
      case N => k_asm
      case m => k_mem
      case hJ => exact (jt_step (d := 3) (p := Str.ofString "ab") hvs hds hcur hpos (by assumption) (by decide +kernel) (fdiv6 _) (by funext y; by_cases h1 : y = Str.ofString "n"; (exact (if_pos h1).trans (if_pos h1).symm); (exact (if_neg h1).trans ((if_neg h1).trans (if_neg h1).symm)))).2
    · have hpos : 0 < cur := by omega
      (try dsimp only)
      refine' WhileStep.intro (n' := k - 1) ?F (news_one (p := (_, lobj (vs ++ [.str (Str.ofString "a") _]) _)) ?N ?m) ?hn ?hJ
      case F => k_asm
      case hn => exact (Nat.sub_lt (by rcases Nat.eq_zero_or_pos k with rfl | h; (simp at hcur; omega); exact h) (by decide))
      case N => k_asm
      case m => k_mem
      case hJ => exact (jt_step (d := 4) (p := Str.ofString "a") hvs hds hcur hpos (by assumption) (by decide +kernel) (fdiv6 _) (by funext y; by_cases h1 : y = Str.ofString "n"; (exact (if_pos h1).trans (if_pos h1).symm); (exact (if_neg h1).trans ((if_neg h1).trans (if_neg h1).symm)))).2
    · have hpos : 0 < cur := by omega
      (try dsimp only)
      refine' WhileStep.intro (n' := k - 1) ?F (news_one (p := (_, lobj (vs ++ [.str (Str.ofString "") _]) _)) ?N ?m) ?hn ?hJ
      case F => k_asm
      case hn => exact (Nat.sub_lt (by rcases Nat.eq_zero_or_pos k with rfl | h; (simp at hcur; omega); exact h) (by decide))
      case N => k_asm
      case m => k_mem
      case hJ => exact (jt_step (d := 5) (p := Str.ofString "") hvs hds hcur hpos (by assumption) (by decide +kernel) (fdiv6 _) (by funext y; by_cases h1 : y = Str.ofString "n"; (exact (if_pos h1).trans (if_pos h1).symm); (exact (if_neg h1).trans ((if_neg h1).trans (if_neg h1).symm)))).2
    have hcur0 : cur = 0 := by omega
    have hds3 : digs 3 n = ds := by rw [hds, hcur0, digs_zero, List.append_nil]
    rename Fr _ _ _ _ => F5
    rename News _ _ _ _ => N5
    refine ⟨?_⟩
    refine' spec_val (reduceT w _ (Str.ofString "/") _ vs (ds.map pieceAt) hvs ?h1 ?h2 ?h3) ?B ?F ?X ?XB ?N ?T ?hk ?hd ?hu ?pre ?_
    walk_at "PREM"
    case h1 => exact fun i => hds3 ▸ (text_len hn i).2
    case h2 => exact fun i => hds3 ▸ (text_len hn i).1
    case h3 => intro y hy; obtain ⟨d, _, rfl⟩ := List.mem_map.mp hy; exact piece_len d
    case pre => exact ⟨_, (N5 _ List.mem_cons_self).1⟩
    intro r9 h9 tk9 F9 N9 E9 ip6_
    refine hidG fun G_ hG_ => ?_
    obtain ⟨t9, e9⟩ := ip6_
    refine hG_ ?_
    clear hG_
    subst e9
    try dsimp only
    try k_fold
    k_steps
    all_goals ((try refine leaveX ?_); (try dsimp only); exact hret _ _ _ (Fr.keep (by assumption)) ⟨t9, by unfold lawText; rw [hds3]⟩)
end
section
noncomputable def cpKeep (c : Str) : Bool := decide (c.length ≠ 0) && (c != Str.ofString ".")
theorem keepT {c : Str} (h : (c.length : Int) ≠ 0) (k : (c != Str.ofString ".") = true) : cpKeep c = true := by unfold cpKeep; rw [k, Bool.and_true]; exact decide_eq_true (by omega)
theorem keepF {c : Str} (k : (c != Str.ofString ".") = false) : cpKeep c = false := by unfold cpKeep; rw [k, Bool.and_false]
theorem keep0 {c : Str} (h : (c.length : Int) = 0) : cpKeep c = false := by unfold cpKeep; rw [decide_eq_false (by omega), Bool.false_and]
noncomputable def cpNames (x : Str) : List Str := (Txt.split x (Str.ofString "/")).filter cpKeep
theorem keep_yes {ns : List Str} {q : Nat} {c : Str} (h : ns[q]? = some c) (k : cpKeep c = true) : (ns.take (q + 1)).filter cpKeep = (ns.take q).filter cpKeep ++ [c] := by rw [List.take_add_one, h, Option.toList_some, List.filter_append]; simp [k]
theorem keep_no {ns : List Str} {q : Nat} {c : Str} (h : ns[q]? = some c) (k : cpKeep c = false) : (ns.take (q + 1)).filter cpKeep = (ns.take q).filter cpKeep := by rw [List.take_add_one, h, Option.toList_some, List.filter_append]; simp [k]
theorem compEnd_new {h₀ h' : Heap} {L I C D D4 : Addr} {m : Str → Option Value} {s₁ : Shared} {oI oC oD o4 : Obj} {rest : List (Addr × Obj)} {S : List (Addr × Obj) → Prop} {R : Value → List (Addr × Obj) → Prop} {y : Value} {tk : Nat}
    (F : Fr h₀ L h' m) (N : News h₀ L h' ((D4, o4) :: (I, oI) :: (C, oC) :: (D, oD) :: rest)) (off4 : LCg.Off1 D4 ((I, oI) :: (C, oC) :: (D, oD) :: rest)) (off : LCg.Off3 I C D rest) (hS : S ((D4, o4) :: rest)) (r : R y ((D4, o4) :: rest)) :
    LCg.CompEnd h₀ L m s₁ I oI C oC D oD S R y { s₁ with heap := h', toks := tk } :=
  ⟨h', tk, (D4, o4) :: rest, rfl, F, fun p hp => N p (by
    rcases List.mem_cons.mp hp with rfl | hp
    · exact .tail _ (.head _)
    rcases List.mem_cons.mp hp with rfl | hp
    · exact .tail _ (.tail _ (.head _))
    rcases List.mem_cons.mp hp with rfl | hp
    · exact .tail _ (.tail _ (.tail _ (.head _)))
    rcases List.mem_cons.mp hp with rfl | hp
    · exact .head _
    · exact .tail _ (.tail _ (.tail _ (.tail _ hp)))), ⟨⟨Ne.symm off4.1, Ne.symm off4.2.1, Ne.symm off4.2.2.1⟩, off⟩, hS, r⟩
theorem noraiseQ {α : Type} {M : Model} {A : Around} {t : Sem α} {Q : α → Shared → Prop} {E : Value → Shared → Prop} {s : Shared} (h : ∀ Q' : α → Shared → Prop, (∀ a s', Q a s' → Q' a s') → wpAny M A t Q' (fun _ _ => False) s) : wpAny M A t Q E s := wpAny_mono (h Q fun _ _ x => x) (fun _ _ x => x) fun _ _ x => x.elim
theorem ovm_off2 {x1 x2 z : Str} {a b : Option Value} {m : Str → Option Value} (h1 : z ≠ x1) (h2 : z ≠ x2) : ovm [(x1, a), (x2, b)] m z = m z := by
  have e1 : (z == x1) = false := by simpa using h1
  have e2 : (z == x2) = false := by simpa using h2
  unfold ovm
  simp only [List.lookup_cons, e1, e2, List.lookup_nil]
theorem off3_new {h₀ h : Heap} {L I C D : Addr} {oI oC oD : Obj} {nw : List (Addr × Obj)} (N : News h₀ L h ((I, oI) :: (C, oC) :: (D, oD) :: nw)) (off : LCg.Off3 I C D nw) (o : Obj) : LCg.Off3 I C D ((h.objs.size, o) :: nw) :=
  ⟨⟨Ne.symm (Nat.ne_of_lt (Heap.lt_size (N _ (.head _)).1)), Ne.symm (Nat.ne_of_lt (Heap.lt_size (N _ (.tail _ (.head _))).1)), Ne.symm (Nat.ne_of_lt (Heap.lt_size (N _ (.tail _ (.tail _ (.head _)))).1))⟩, off⟩
local macro_rules | `(tactic| walk_at "call ref") => `(tactic| ((k_dflt (refine' spec_val (fspath0 _ _ _) ?B ?F ?X ?XB ?N ?T ?hk ?hd ?hu ?pre ?_; (walk_at "PREM"); (case pre => trivial))); intro r9 h9 tk9 F9 N9 E9 e9; subst e9))
local macro_rules | `(tactic| walk_at "call type:map") => `(tactic| (refine Stopped.h ?_))
local macro_rules | `(tactic| walk_at "call type:tuple") => `(tactic| (refine Stopped.h ?_))
local macro_rules | `(tactic| walk_at "exec Try") => `(tactic| (refine wpAny_Try_except ?_; refine noraiseQ fun Q9 hQ9 => ?_))
local macro_rules | `(tactic| walk_at "eval ListComp") => `(tactic| (refine Stopped.h ?_))
local macro_rules | `(tactic| walk_at "call builtin:min") => `(tactic| (refine Stopped.h ?_))
local macro_rules | `(tactic| walk_at "call builtin:max") => `(tactic| (refine Stopped.h ?_))
local macro_rules | `(tactic| walk_at "exec For Tuple Call") => `(tactic| (refine Stopped.h ?_))
local macro_rules | `(tactic| walk_at "call type:enumerate") => `(tactic| (refine Stopped.h ?_))
local macro_rules | `(tactic| walk_at "call builtin:str.join") => `(tactic| (k_dflt (refine join_list (News.isList (by k_asm) (by k_mem)) (by assumption) (by assumption) ?_); intro t9 k9))
local macro_rules | `(tactic| walk_at "eval SetComp") => `(tactic| (refine Stopped.h ?_))
local macro_rules | `(tactic| walk_at "exec Assign cons ListComp") => `(tactic| (refine Stopped.h ?_))
noncomputable def cpR (x y : Str) : Str := Str.ofString "/" ++ Txt.join (Str.ofString "/") (lcpL (loN (cpNames x) (cpNames y)) (hiN (cpNames x) (cpNames y)))
noncomputable def IdxOk (ns ms : List Str) : Prop := ∀ q < ns.length, ns.take q = ms.take q → q < ms.length
theorem commonpath0 (w : World) (pa : Addr) (x y : Str) (t u : Tok) (hx : x.length ≤ 100) (hy : y.length ≤ 100) (hxl : (Txt.split x (Str.ofString "/")).length ≤ 1000) (hyl : (Txt.split y (Str.ofString "/")).length ≤ 1000)
    (hxs : Txt.startswith x (Str.ofString "/") = true) (hys : Txt.startswith y (Str.ofString "/") = true) (hidx : IdxOk (loN (cpNames x) (cpNames y)) (hiN (cpNames x) (cpNames y))) (hn1 : (loN (cpNames x) (cpNames y)).length ≤ 1000) (hn2 : (hiN (cpNames x) (cpNames y)).length ≤ 1000) (hjoin : tot (lcpL (loN (cpNames x) (cpNames y)) (hiN (cpNames x) (cpNames y))) ≤ 10000) : Spec0 w 650 8600 172 [.ref pa] (fun h => ∃ n, h.get? pa = some (lobj [.str x t, .str y u] n))
    (fun _ r _ => ∃ t, r = .str (cpR x y) t) := by
  unfold Spec0
  k_fill
  intro gd cn cs a ccd cl outer A₀ base h₀ L m s mean mg mb Q E B F X XB T hk pre hret
  obtain ⟨pn, gp⟩ := pre
  have hl : s.heap.IsList pa [.str x t, .str y u].toArray := ⟨_, gp, rfl, _, rfl⟩
  refine wpAny_call ?_
  refine hideR fun R9 hR9 => ?_
  replace hret := fun r h' tk' x p => hR9 (.ok (.ret r)) _ (hret r h' tk' x p)
  walk_at "ENTER0C"
  intro L' h' tk cells F' N' Y B' X' XB' T'
  replace F' : Fr _ L' h' (fun y => if y = Str.ofString "paths" then some (.ref pa) else none) := F'
  k_cells Y
  k_steps
  refine ⟨?_⟩
  refine map_spec (by assumption) (by assumption) (by assumption) (F'.keep _ _ gp) (Nat.le_of_ble_eq_true rfl) (Nat.le_of_ble_eq_true rfl) ?_
  intro mp tp it h9 tk9 F9 N9 q1 q2 q3 q4 q5 q6 q7 q8 q9
  k_steps
  refine ⟨?_⟩
  refine tuple_spec F9 N9 (by assumption) (by assumption) (by assumption) (by assumption) (by first | rfl | assumption) q1 q2 q3 q4 q5 q6 (Nat.le_of_ble_eq_true rfl) (Nat.le_of_ble_eq_true rfl) ?_
  intro b h8 tk8 F8 N8 off8
  clear N9 q1 q2 q3 q4 q5 q6 q7 q8 q9 F9
  k_steps
  refine ⟨?_⟩
  refine asg_comp_T (by k_asm) (by rfl) (by with_unfolding_all rfl) (by with_unfolding_all rfl) (by decide) (by rfl) (by decide) (by rfl) (by rfl) (by rfl) ?_
  k_steps
  refine ⟨b, _, _, _, rfl, rfl, by k_asm, by k_asm, .head _, (by show 2 ≤ sizeLine; rw [sizeLine_eq]; decide), fun g => ?_⟩
  refine LCg.CompRest.succ ?_
  intro v I oI C oC D m₂ h tk E' hP hC hv F1 N1 off ne
  obtain rfl : v = .str x t := (Option.some.inj hP).symm
  have offN := off3_new N1 off
  try dsimp only [List.append] at N1
  k_steps
  rename StrsAre _ _ => hsa1
  rename (List.map _ _ = Txt.split _ _) => hsp1
  rename (∀ a : Str, a ∈ _ → _) => hlen1
  rw [hsp1] at hsa1 hlen1
  refine LCg.CompEnd.intro (by k_asm) (by k_asm) [_, _, _, _] (by lcg_sub) (offN _) (.tail _ (.head _)) ?_
  clear offN off ne hP hC hv
  refine LCg.CompRest.succ ?_
  intro v I oI C oC D m₂ h tk E' hP hC hv F1 N1 off ne
  obtain rfl : v = .str y u := (Option.some.inj hP).symm
  have offN := off3_new N1 off
  try dsimp only [List.append] at N1
  k_steps
  rename StrsAre _ _ => hsa2
  rename (List.map _ _ = Txt.split _ _) => hsp2
  rename (∀ a : Str, a ∈ _ → _) => hlen2
  rw [hsp2] at hsa2 hlen2
  refine LCg.CompEnd.intro (by k_asm) (by k_asm) [_, _, _, _, _] (by lcg_sub) (offN _) (.tail _ (.tail _ (.head _))) ?_
  clear offN off ne hP hC hv
  refine LCg.CompRest.zero ?_
  intro D h tk F2 N2 off2
  k_steps
  refine ⟨?_⟩
  refine setcomp_T (by k_asm) (by with_unfolding_all rfl) (by decide) (by rfl) (by decide) (by rfl) ?_
  k_steps
  refine ⟨b, .str x t, .str y u, _, _, rfl, rfl, by k_asm, by k_asm, .tail _ (.tail _ (.tail _ (.head _))), ?_, ?_⟩
  · intro v hv I oI C oC D oD m₂ h tk E' hC hx F1 N1 off ne
    rcases hv with rfl | rfl
    · k_steps
      · rw [hxs]
      all_goals assumption
    · k_steps
      · rw [hys]
      all_goals assumption
  · intro D h tk ep F3 N3 off3
    k_steps
    refine assign_set1 (L := L') (by k_asm) (by k_asm) rfl (.head _) rfl (by rfl) (by rfl) ?_
    clear F3 N3
    intro h tk F3 N3
    k_steps
    refine hQ9 _ _ ?_
    clear hQ9 Q9
    dsimp only
    k_steps
    refine ⟨?_⟩
    refine LCg.Assign_ListComp_U (F₀ := by k_asm) (by rfl) (by with_unfolding_all rfl) (by with_unfolding_all rfl) (by decide) (by rfl) (by decide) (by rfl) (by rfl) (by rfl) ?_
    k_steps
    refine ⟨?_⟩
    refine LCt.ListComp_T (F₀ := by k_asm) (by with_unfolding_all rfl) (by decide) (by rfl) (by decide) (by rfl) ?_
    k_steps
    rename News _ _ _ _ => N5
    rename (_ ∧ _ ∧ _ ∧ _ ∧ _ ∧ _ ∧ _) => off5
    refine LCt.CompSrcT.ledger rfl (by k_asm) N5 (.tail _ (.tail _ (.tail _ (.tail _ (.tail _ (.tail _ (.head _))))))) (by rw [List.size_toArray, hsa1.len_eq, sizeLine_eq]; omega) fun g => ?_
    refine restT_ind (fun q ys nw => nw = [_, _, _, _, _, _, _, _, _, _] ∧ StrsAre ys (((Txt.split x (Str.ofString "/")).take q).filter cpKeep)) ⟨rfl, by simpa using StrsAre.nil⟩ ?_ ?_
    rotate_left
    · intro q ys nw v I oI C oC D m₂ h tk E' hq ip14_ hv hC hx F1 N1 off1 ne1
      refine hidG fun G_ hG_ => ?_
      obtain ⟨enw, hy⟩ := ip14_
      refine hG_ ?_
      clear hG_
      subst enw
      refine hidG fun G_ hG_ => ?_
      obtain ⟨c, tc, rfl, hc⟩ := hsa1.item q v (by simpa using hv)
      refine hG_ ?_
      clear hG_
      have hcl : c.length ≤ 10000 := by have := hlen1 c (List.mem_of_getElem? hc); omega
      k_steps
      · refine LCg.CompEnd.intro (by k_asm) (by k_asm) [_, _, _, _, _, _, _, _, _, _] (by lcg_sub) off1 (.inr ⟨_, (.tail _ (.tail _ (.tail _ (.tail _ (.tail _ (.tail _ (.head _))))))), rfl, _, rfl⟩) ⟨rfl, ?_⟩
        rw [keep_yes hc (keepT (by assumption) (by assumption))]
        exact StrsAre.append' hy (.cons _ _ .nil)
      · refine LCg.CompEnd.intro (by k_asm) (by k_asm) [_, _, _, _, _, _, _, _, _, _] (by lcg_sub) off1 (.inr ⟨_, (.tail _ (.tail _ (.tail _ (.tail _ (.tail _ (.tail _ (.head _))))))), rfl, _, rfl⟩) ⟨rfl, ?_⟩
        rw [keep_no hc (keepF (by assumption))]
        exact hy
      · refine LCg.CompEnd.intro (by k_asm) (by k_asm) [_, _, _, _, _, _, _, _, _, _] (by lcg_sub) off1 (.inr ⟨_, (.tail _ (.tail _ (.tail _ (.tail _ (.tail _ (.tail _ (.head _))))))), rfl, _, rfl⟩) ⟨rfl, ?_⟩
        rw [keep_no hc (keep0 (by assumption))]
        exact hy
    intro ys1 nw ip2_
    refine hidG fun G_ hG_ => ?_
    obtain ⟨enw, hy1⟩ := ip2_
    refine hG_ ?_
    clear hG_
    subst enw
    rw [List.size_toArray, hsa1.len_eq, List.take_length] at hy1
    unfold LCg.FinE
    intro D4 h4 tk4 F4 N4 off4
    refine compEnd_new F4 N4 off4 (by simp only [LCg.Off3, and_true]; exact off5) (.inr ⟨_, .tail _ (.tail _ (.head _)), rfl, _, rfl⟩) ?_
    clear N5 off5
    k_steps
    refine ⟨?_⟩
    refine LCt.ListComp_T (F₀ := by k_asm) (by with_unfolding_all rfl) (by decide) (by rfl) (by decide) (by rfl) ?_
    k_steps
    rename News _ _ _ _ => N5
    rename (_ ∧ _ ∧ _ ∧ _ ∧ _ ∧ _ ∧ _) => off5
    refine LCt.CompSrcT.ledger rfl (by k_asm) N5 (.tail _ (.tail _ (.tail _ (.tail _ (.tail _ (.tail _ (.head _))))))) (by rw [List.size_toArray, hsa2.len_eq, sizeLine_eq]; omega) fun g => ?_
    refine restT_ind (fun q ys nw => nw = [_, _, _, _, _, _, _, _, _, _, _] ∧ StrsAre ys (((Txt.split y (Str.ofString "/")).take q).filter cpKeep)) ⟨rfl, by simpa using StrsAre.nil⟩ ?_ ?_
    rotate_left
    · intro q ys nw v I oI C oC D m₂ h tk E' hq ip14_ hv hC hx F1 N1 off1 ne1
      refine hidG fun G_ hG_ => ?_
      obtain ⟨enw, hy⟩ := ip14_
      refine hG_ ?_
      clear hG_
      subst enw
      refine hidG fun G_ hG_ => ?_
      obtain ⟨c, tc, rfl, hc⟩ := hsa2.item q v (by simpa using hv)
      refine hG_ ?_
      clear hG_
      have hcl : c.length ≤ 10000 := by have := hlen2 c (List.mem_of_getElem? hc); omega
      k_steps
      · refine LCg.CompEnd.intro (by k_asm) (by k_asm) [_, _, _, _, _, _, _, _, _, _, _] (by lcg_sub) off1 (.inr ⟨_, (.tail _ (.tail _ (.tail _ (.tail _ (.tail _ (.tail _ (.head _))))))), rfl, _, rfl⟩) ⟨rfl, ?_⟩
        rw [keep_yes hc (keepT (by assumption) (by assumption))]
        exact StrsAre.append' hy (.cons _ _ .nil)
      · refine LCg.CompEnd.intro (by k_asm) (by k_asm) [_, _, _, _, _, _, _, _, _, _, _] (by lcg_sub) off1 (.inr ⟨_, (.tail _ (.tail _ (.tail _ (.tail _ (.tail _ (.tail _ (.head _))))))), rfl, _, rfl⟩) ⟨rfl, ?_⟩
        rw [keep_no hc (keepF (by assumption))]
        exact hy
      · refine LCg.CompEnd.intro (by k_asm) (by k_asm) [_, _, _, _, _, _, _, _, _, _, _] (by lcg_sub) off1 (.inr ⟨_, (.tail _ (.tail _ (.tail _ (.tail _ (.tail _ (.tail _ (.head _))))))), rfl, _, rfl⟩) ⟨rfl, ?_⟩
        rw [keep_no hc (keep0 (by assumption))]
        exact hy
    intro ys2 nw ip2_
    refine hidG fun G_ hG_ => ?_
    obtain ⟨enw, hy2⟩ := ip2_
    refine hG_ ?_
    clear hG_
    subst enw
    rw [List.size_toArray, hsa2.len_eq, List.take_length] at hy2
    unfold LCg.FinE
    intro D5 h5 tk5 F5 N6 off6
    refine compEnd_new F5 N6 off6 (by simp only [LCg.Off3, and_true]; exact off5) (.inr ⟨_, .tail _ (.tail _ (.tail _ (.head _))), rfl, _, rfl⟩) ?_
    clear N5 off5
    k_steps
    refine ⟨?_⟩
    rename News _ _ _ _ => N7
    refine min_spec (by k_asm) N7 (.head _) (.tail _ (.tail _ (.head _))) (.tail _ (.head _)) hy1 hy2 rfl (by units_room) ?_
    intro h9 tk9 b1 vs1 k1 F9 N9 hs1
    k_steps
    refine ⟨?_⟩
    refine max_spec (by k_asm) (by k_asm) (.tail _ (.head _)) (.tail _ (.tail _ (.tail _ (.head _)))) (.tail _ (.tail _ (.head _))) hy1 hy2 rfl (by units_room) ?_
    intro h9 tk9 b2 vs2 k2 F9 N9 hs2
    k_steps
    refine ⟨?_⟩
    rename Fr _ _ _ _ => F10
    refine' For_turns F10 ?_
    k_steps
    refine ⟨?_⟩
    have hs1' : StrsAre vs1 (loN (cpNames x) (cpNames y)) := hs1
    have hs2' : StrsAre vs2 (hiN (cpNames x) (cpNames y)) := hs2
    clear hs1 hs2 hy1 hy2
    rename News _ _ _ _ => N10
    rename Fr _ _ _ _ => F10
    unfold cpR at hret
    generalize loN (cpNames x) (cpNames y) = n1 at hs1' hidx hret hn1 hjoin
    generalize hiN (cpNames x) (cpNames y) = n2 at hs2' hidx hret hn2 hjoin
    refine' enum_two (L := L') (vs := vs1) (n := k1) (Str.ofString "i") (Str.ofString "c") (Str.ofString "common") (fun q => n1.take q = n2.take q) (lcpL n1 n2) ?hh ?hL ?F ?N ?hm ?h0 ?fin ?turn ?done
    case hh => rfl
    case hL => rfl
    case F => exact F10
    case N => exact N10
    case hm => exact .tail _ (.head _)
    case h0 => rfl
    case fin =>
      intro u' D9 ws9 n9 h10 tk10 F11 N11 hs9
      have hl1 : (Str.ofString "/").length = 1 := by decide +kernel
      unfold tot at hjoin
      have hj2 := len_join (Str.ofString "/") (lcpL n1 n2)
      have hadd : (Str.ofString "/").length + (Txt.join (Str.ofString "/") (lcpL n1 n2)).length ≤ 1000000 := by omega
      have hjoin' : ((lcpL n1 n2).map (·.length)).sum + (lcpL n1 n2).length * (Str.ofString "/").length ≤ 16777216 := Nat.le_trans hjoin (by decide)
      clear hjoin hj2 hn1 hn2 hidx hs1' hs2'
      k_steps
      all_goals (refine hQ9 _ _ ?_; (try dsimp only))
      all_goals k_steps
      all_goals ((try refine leaveX ?_); (try dsimp only); exact hret _ _ _ (Fr.keep (by assumption)) ⟨_, rfl⟩)
    case turn =>
      intro q v u' T9 t9 h10 tk10 I9 oI9 oE9 hv9 hP9 hT9 F11 hE9 hI9 N11
      refine hidG fun G_ hG_ => ?_
      obtain ⟨c1, tc1, rfl, hc1⟩ := hs1'.item q v hv9
      refine hG_ ?_
      clear hG_
      have hq1 : q < n1.length := by
        rcases Nat.lt_or_ge q n1.length with h | h
        · exact h
        · rw [List.getElem?_eq_none h] at hc1; cases hc1
      have hq2 := hidx q hq1 hP9
      obtain ⟨tc2, g2⟩ := strs_get hs2' q hq2
      have hz2 : vs2.length ≤ 100000 := by rw [hs2'.len_eq]; omega
      have hz1 : vs1.length ≤ 100000 := by rw [hs1'.len_eq]; omega
      have hc2 : n2[q]? = some n2[q] := List.getElem?_eq_getElem hq2
      generalize n2[q] = c2 at g2 hc2
      clear hjoin hret
      k_steps
      · rename News _ _ _ _ => N12
        refine ⟨_, _, _, _, vs1.take q, 0, rfl, by k_asm, ?_, rfl, ?_, ?_⟩
        · intro z z1 z2 z3
          exact (if_neg z3).trans ((if_neg z2).trans ((if_neg z1).trans (ovm_off2 z1 z2)))
        · intro p hp
          rcases List.mem_cons.mp hp with rfl | hp
          · exact N12 _ (.head _)
          · exact N12 _ (.tail _ (.tail _ (.tail _ hp)))
        · have hne : c1 ≠ c2 := by
            have hb : (c1 != c2) = true := by assumption
            exact fun e => by rw [e] at hb; simp at hb
          rw [lcp_brk hP9 hc1 hc2 hne]
          exact strs_take q hs1'
      · refine ⟨_, _, _, rfl, by k_asm, ?_, by k_asm, ?_⟩
        · intro z z1 z2
          exact (if_neg z2).trans ((if_neg z1).trans (ovm_off2 z1 z2))
        · have he : c1 = c2 := by
            have hb : (c1 != c2) = false := by assumption
            simpa using hb
          show n1.take (q + 1) = n2.take (q + 1)
          rw [List.take_add_one, List.take_add_one, hP9, hc1, hc2, he]
    case done =>
      intro hP9
      rw [hs1'.len_eq] at hP9
      refine ⟨b1, vs1, k1, rfl, by decide, by decide, .tail _ (.head _), ?_⟩
      rw [lcp_end (by simpa using hP9)]
      exact hs1'
end
section
section
variable {R eqv : Addr → Addr → Bool}
noncomputable def alikeR (R : Addr → Addr → Bool) (F C : List Addr) : Prop := (∀ f ∈ F, C.countP (R f) = 1) ∧ ∀ c ∈ C, F.countP (R c) = 1
structure NFree (R : Addr → Addr → Bool) : Prop where
  sy : ∀ x y, R x y = R y x
  p4 : ∀ a b c d, R a b = true → R b c = true → R c d = true → R a c = true ∨ R b d = true
noncomputable def Anti (R : Addr → Addr → Bool) (l : List Addr) : Prop := l.Pairwise fun x y => R x y = false
theorem erase_perm : ∀ (C : List Addr) (j : Nat) (h : j < C.length), C.Perm (C[j] :: C.eraseIdx j)
  | a :: r, 0, _ => List.Perm.refl _
  | a :: r, j + 1, h => by
    have := erase_perm r j (by simpa using h)
    simp only [List.getElem_cons_succ, List.eraseIdx_cons_succ]
    exact (this.cons a).trans (List.Perm.swap _ _ _)
theorem rem1_some {C c : List Addr} {x : Addr} (h : rem1 R C x = some c) : ∃ y, R y x = true ∧ C.Perm (y :: c) := by
  unfold rem1 at h
  obtain ⟨j, hj, rfl⟩ := Option.map_eq_some_iff.mp h
  obtain ⟨hl, hr, _⟩ := List.findIdx?_eq_some_iff_getElem.mp hj
  exact ⟨C[j], hr, erase_perm C j hl⟩
theorem rem1_any {C : List Addr} {x : Addr} (h : ∃ y ∈ C, R y x = true) : ∃ c, rem1 R C x = some c := by
  unfold rem1
  cases q : C.findIdx? fun y => R y x with
  | some j => exact ⟨_, rfl⟩
  | none =>
    obtain ⟨y, hy, hr⟩ := h
    have := List.findIdx?_eq_none_iff.mp q y hy
    rw [hr] at this; cases this
theorem alike_perm {F C D : List Addr} (p : C.Perm D) (h : alikeR R F C) : alikeR R F D :=
  ⟨fun f hf => (p.countP_eq _).symm.trans (h.1 f hf), fun c hc => h.2 c (p.mem_iff.mpr hc)⟩
theorem anti_perm (N : NFree R) {C D : List Addr} (p : C.Perm D) (h : Anti R C) : Anti R D :=
  p.pairwise h (fun {x y} e => (N.sy y x).trans e)
theorem remAll_cons {C F : List Addr} {f : Addr} : remAll R C (f :: F) = (rem1 R C f).bind fun c => remAll R c F := by
  unfold remAll
  rw [List.foldl_cons, Option.bind_some]
  cases rem1 R C f with
  | some c => rfl
  | none =>
    have gen : ∀ l : List Addr, l.foldl (fun acc x => acc.bind fun c => rem1 R c x) (none : Option (List Addr)) = none := by
      intro l
      induction l with
      | nil => rfl
      | cons a l ih => rw [List.foldl_cons]; exact ih
    exact gen F
theorem countP_pos1 {p : Addr → Bool} {l : List Addr} (h : l.countP p = 1) : ∃ x ∈ l, p x = true := List.countP_pos_iff.mp (by omega)
theorem greedy (N : NFree R) : ∀ (F C : List Addr), Anti R F → Anti R C → (remAll R C F = some [] ↔ alikeR R F C)
  | [], C, _, _ => by
    show some C = some [] ↔ _
    constructor
    · intro h; cases h; exact ⟨fun _ h => (nomatch h), fun _ h => (nomatch h)⟩
    · intro h
      cases C with
      | nil => rfl
      | cons c r => have := h.2 c (.head _); simp at this
  | f :: F, C, aF, aC => by
    rw [remAll_cons]
    have aF1 := List.pairwise_cons.mp aF
    constructor
    · intro h
      obtain ⟨D, e1, e2⟩ := Option.bind_eq_some_iff.mp h
      obtain ⟨c, hcf, p⟩ := rem1_some e1
      have aD := List.pairwise_cons.mp (anti_perm N p aC)
      have ih := (greedy N F D aF1.2 aD.2).mp e2
      refine alike_perm p.symm ?_
      have hfc : R f c = true := (N.sy f c).trans hcf
      have n1 : ∀ f' ∈ F, R c f' = false := by
        intro f' hf'
        cases q : R c f' with
        | false => rfl
        | true =>
          obtain ⟨d, hd, hr⟩ := countP_pos1 (ih.1 f' hf')
          rcases N.p4 f c f' d hfc q hr with e | e
          · rw [aF1.1 f' hf'] at e; cases e
          · rw [aD.1 d hd] at e; cases e
      have n2 : ∀ d ∈ D, R f d = false := by
        intro d hd
        cases q : R f d with
        | false => rfl
        | true =>
          obtain ⟨f', hf', hr⟩ := countP_pos1 (ih.2 d hd)
          rcases N.p4 c f d f' hcf q hr with e | e
          · rw [aD.1 d hd] at e; cases e
          · rw [aF1.1 f' hf'] at e; cases e
      constructor
      · intro x hx
        rcases List.mem_cons.mp hx with rfl | hx
        · rw [List.countP_cons, List.countP_eq_zero.mpr (fun d hd => by rw [n2 d hd]; decide), if_pos hfc]
        · rw [List.countP_cons, ih.1 x hx, if_neg (by rw [N.sy, n1 x hx]; decide)]
      · intro x hx
        rcases List.mem_cons.mp hx with rfl | hx
        · rw [List.countP_cons, List.countP_eq_zero.mpr (fun d hd => by rw [n1 d hd]; decide), if_pos hcf]
        · rw [List.countP_cons, ih.2 x hx, if_neg (by rw [N.sy, n2 x hx]; decide)]
    · intro h
      obtain ⟨y, hy, hry⟩ := countP_pos1 (h.1 f (.head _))
      obtain ⟨D, e1⟩ := rem1_any (R := R) (C := C) (x := f) ⟨y, hy, (N.sy y f).trans hry⟩
      rw [e1, Option.bind_some]
      obtain ⟨c, hcf, p⟩ := rem1_some e1
      have aD := List.pairwise_cons.mp (anti_perm N p aC)
      have hA := alike_perm p h
      have hfc : R f c = true := (N.sy f c).trans hcf
      refine (greedy N F D aF1.2 aD.2).mpr ⟨fun x hx => ?_, fun x hx => ?_⟩
      · have h1 := hA.1 x (.tail _ hx)
        have h2 := hA.2 c (.head _)
        rw [List.countP_cons, if_pos hcf] at h2
        have h3 : R c x = false := by
          have := List.countP_eq_zero.mp (show F.countP (R c) = 0 by omega) x hx
          simpa using this
        rw [List.countP_cons, if_neg (by rw [N.sy, h3]; decide)] at h1
        exact h1
      · have h1 := hA.2 x (.tail _ hx)
        have h2 := hA.1 f (.head _)
        rw [List.countP_cons, if_pos hfc] at h2
        have h3 : R f x = false := by
          have := List.countP_eq_zero.mp (show D.countP (R f) = 0 by omega) x hx
          simpa using this
        rw [List.countP_cons, if_neg (by rw [N.sy, h3]; decide)] at h1
        exact h1
theorem dedup_kept {ks : List Addr} {rows : List (List Str)} (hl : ks.length = rows.length) (hR : ∀ j k, j < ks.length → k < ks.length → eqv (ks.getD j 0) (ks.getD k 0) = nearB (rows.getD k []) (rows.getD j [])) :
    dedupK eqv ks = (keptN rows rows.length).map fun i => ks.getD i 0 := by
  have gen : ∀ n, n ≤ ks.length → dedupK eqv (ks.take n) = (keptN rows n).map fun i => ks.getD i 0 := by
    intro n
    induction n with
    | zero => intro _; rfl
    | succ k ih =>
      intro hk
      have hk' : k < ks.length := hk
      have gd : ks.getD k 0 = ks[k] := by simp [List.getD_eq_getElem?_getD, hk']
      rw [dedup_take (List.getElem?_eq_getElem hk'), ih (Nat.le_of_lt hk')]
      have e : ((keptN rows k).map fun i => ks.getD i 0).any (fun y => eqv y ks[k]) = true ↔ ¬ ((((keptN rows k).map fun j => rows.getD j []).filter (nearB (rows.getD k []))).length = 0) := by
        rw [List.any_eq_true, List.length_eq_zero_iff, List.filter_eq_nil_iff]
        constructor
        · rintro ⟨y, hy, hr⟩ hno
          obtain ⟨j, hj, rfl⟩ := List.mem_map.mp hy
          refine hno _ (List.mem_map.mpr ⟨j, hj, rfl⟩) ?_
          rw [← hR j k (Nat.lt_trans (keptN_lt hj) hk') hk']
          rw [gd]; exact hr
        · intro hno
          have : ∃ j ∈ keptN rows k, nearB (rows.getD k []) (rows.getD j []) = true := by
            apply Classical.byContradiction
            intro hc
            refine hno fun r hr => ?_
            obtain ⟨j, hj, rfl⟩ := List.mem_map.mp hr
            exact fun q => hc ⟨j, hj, q⟩
          obtain ⟨j, hj, hr⟩ := this
          refine ⟨_, List.mem_map.mpr ⟨j, hj, rfl⟩, ?_⟩
          have q := hR j k (Nat.lt_trans (keptN_lt hj) hk') hk'
          rw [hr, gd] at q
          exact q
      split
      · next h => rw [keptN_no (e.mp h)]
      · next h =>
        rw [keptN_yes (Classical.byContradiction fun q => h (e.mpr q)), List.map_append]
        simp only [List.map_cons, List.map_nil]
        rw [gd]
  have := gen ks.length (Nat.le_refl _)
  rw [List.take_length, hl] at this
  exact this
theorem dedup_anti {ks : List Addr} : Anti eqv (dedupK eqv ks) := by
  have gen : ∀ (l : List Addr) (acc : List Addr), Anti eqv acc → Anti eqv (l.foldl (fun acc t => if acc.any (fun y => eqv y t) then acc else acc ++ [t]) acc) := by
    intro l
    induction l with
    | nil => intro acc h; exact h
    | cons t l ih =>
      intro acc h
      rw [List.foldl_cons]
      refine ih _ ?_
      split
      · exact h
      · next q =>
        refine List.pairwise_append.mpr ⟨h, List.pairwise_singleton _ _, fun a ha b hb => ?_⟩
        rw [List.mem_singleton.mp hb]
        cases e : eqv a t with
        | false => rfl
        | true => exact absurd (List.any_eq_true.mpr ⟨a, ha, e⟩) q
  exact gen ks [] List.Pairwise.nil
theorem dedup_congr {e1 e2 : Addr → Addr → Bool} {ks : List Addr} (h : ∀ x ∈ ks, ∀ y ∈ ks, e1 x y = e2 x y) : dedupK e1 ks = dedupK e2 ks := by
  have gen : ∀ n, n ≤ ks.length → dedupK e1 (ks.take n) = dedupK e2 (ks.take n) := by
    intro n
    induction n with
    | zero => intro _; rfl
    | succ k ih =>
      intro hk
      have hk' : k < ks.length := hk
      rw [dedup_take (List.getElem?_eq_getElem hk'), dedup_take (List.getElem?_eq_getElem hk'), ih (Nat.le_of_lt hk')]
      have : (dedupK e2 (ks.take k)).any (fun y => e1 y ks[k]) = (dedupK e2 (ks.take k)).any (fun y => e2 y ks[k]) := by
        rw [Bool.eq_iff_iff, List.any_eq_true, List.any_eq_true]
        constructor
        · rintro ⟨y, hy, hr⟩; exact ⟨y, hy, (h _ (List.mem_of_mem_take (dedup_sub _ hy)) _ (List.getElem_mem hk')).symm.trans hr⟩
        · rintro ⟨y, hy, hr⟩; exact ⟨y, hy, (h _ (List.mem_of_mem_take (dedup_sub _ hy)) _ (List.getElem_mem hk')).trans hr⟩
      rw [this]
  have := gen ks.length (Nat.le_refl _)
  rwa [List.take_length] at this
theorem rem1_congr {e1 e2 : Addr → Addr → Bool} {C : List Addr} {x : Addr} (h : ∀ y ∈ C, e1 y x = e2 y x) : rem1 e1 C x = rem1 e2 C x := by
  have : ∀ C : List Addr, (∀ y ∈ C, e1 y x = e2 y x) → (C.findIdx? fun y => e1 y x) = C.findIdx? fun y => e2 y x := by
    intro C
    induction C with
    | nil => intro _; rfl
    | cons a r ih =>
      intro h
      rw [List.findIdx?_cons, List.findIdx?_cons, h a (.head _), ih fun y hy => h y (.tail _ hy)]
  unfold rem1
  rw [this C h]
theorem remAll_congr {e1 e2 : Addr → Addr → Bool} {ks : List Addr} (h : ∀ x ∈ ks, ∀ y ∈ ks, e1 x y = e2 x y) : ∀ (F C : List Addr), (∀ x ∈ F, x ∈ ks) → (∀ x ∈ C, x ∈ ks) → remAll e1 C F = remAll e2 C F
  | [], _, _, _ => rfl
  | f :: F, C, hF, hC => by
    rw [remAll_cons, remAll_cons, rem1_congr fun y hy => h y (hC y hy) f (hF f (.head _))]
    cases q : rem1 e2 C f with
    | none => rfl
    | some D =>
      rw [Option.bind_some, Option.bind_some]
      exact remAll_congr h F D (fun x hx => hF x (.tail _ hx)) fun x hx => hC x ((rem1_sub q).1 x hx)
theorem dedup_idem {l : List Addr} (hA : Anti eqv l) : ∀ x, dedupK eqv (l ++ [x]) = if l.any (fun y => eqv y x) then l else l ++ [x] := by
  have h0 : ∀ n, n ≤ l.length → dedupK eqv (l.take n) = l.take n := by
    intro n
    induction n with
    | zero => intro _; rfl
    | succ k ih =>
      intro hk
      have hk' : k < l.length := hk
      rw [dedup_take (List.getElem?_eq_getElem hk'), ih (Nat.le_of_lt hk'), if_neg, List.take_add_one, List.getElem?_eq_getElem hk', Option.toList_some]
      intro q
      obtain ⟨y, hy, hr⟩ := List.any_eq_true.mp q
      obtain ⟨j, hj, rfl⟩ := List.getElem_of_mem hy
      rw [List.length_take] at hj
      rw [List.getElem_take] at hr
      have := List.pairwise_iff_getElem.mp hA j k (by omega) hk' (by omega)
      rw [this] at hr; cases hr
  intro x
  have h1 := h0 l.length (Nat.le_refl _)
  rw [List.take_length] at h1
  unfold dedupK at h1 ⊢
  rw [List.foldl_append, h1]
  rfl
theorem stepK_fold (ks : List Addr) : ks.foldl (fun cur k => dedupK eqv (cur ++ [k])) [] = dedupK eqv ks := by
  have gen : ∀ (l acc : List Addr), Anti eqv acc → l.foldl (fun cur k => dedupK eqv (cur ++ [k])) acc = l.foldl (fun acc t => if acc.any (fun y => eqv y t) then acc else acc ++ [t]) acc := by
    intro l
    induction l with
    | nil => intro _ _; rfl
    | cons t l ih =>
      intro acc h
      rw [List.foldl_cons, List.foldl_cons, dedup_idem h t]
      refine ih _ ?_
      rw [← dedup_idem h t]
      exact dedup_anti
  exact gen ks [] List.Pairwise.nil
end
end
section
local macro_rules | `(tactic| walk_at "exec Try") => `(tactic| (refine wpAny_Try_except ?_))
local macro_rules | `(tactic| walk_at "getMethod type:dict") => `(tactic| (refine Stopped.h ?_))
local macro_rules | `(tactic| walk_at "callWith ref") => `(tactic| (refine Stopped.h ?_))
theorem dedupT0 (w : World) (pa : Addr) (vs : List Value) (ns : List Str) (hs : StrsAre vs ns) (hz : ns.length ≤ 100000) : Spec0 w 640 8500 29 [.ref pa] (fun h => ∃ n, h.get? pa = some (lobj vs n))
    (fun h r h' => ∃ d o, r = .ref d ∧ h.get? d = none ∧ h'.get? d = some o ∧ o.IsDictOf (PySem.strKind PySem.Challenge.rw_ik0192_01.prog w) (fkOf ns)) := by
  unfold Spec0
  k_fill
  intro gd cn cs a ccd cl outer A₀ base h₀ L m s mean mg mb Q E B F X XB T hk pre hret
  obtain ⟨pn, gp⟩ := pre
  have hl : s.heap.IsList pa vs.toArray := ⟨_, gp, rfl, _, rfl⟩
  refine wpAny_call ?_
  refine hideR fun R9 hR9 => ?_
  replace hret := fun r h' tk' x p => hR9 (.ok (.ret r)) _ (hret r h' tk' x p)
  first | walk_at "ENTER0" | walk_at "ENTER0C"
  intro L' h' F' N' B' X' XB' T' av
  replace F' : Fr _ L' h' (fun y => ([(Str.ofString "unhashable_fallback", .bool false), (Str.ofString "params", .ref pa)] : List (Str × Value)).lookup y) := F'
  refine tok0 fun tk0 => ?_
  k_steps
  refine ⟨?_⟩
  refine fk_method F' N' X' (by k_is) ?_
  intro x1 h1 F1 N1 l1
  k_steps
  refine ⟨?_⟩
  refine fk_callWith1 ?_
  k_steps
  · exact (N1 _ (.head _)).1
  refine ⟨?_⟩
  refine fk_call (N1 _ (.head _)).1 ?_
  refine fk_tree rfl (Nat.le_of_ble_eq_true rfl) (Nat.le_of_ble_eq_true rfl) (XB'.keeps F1.keep) hs hz (F1.keep _ _ gp) fun d h2 tk2 x2 fd2 hd2 => ?_
  refine hidG fun G_ hG_ => ?_
  obtain ⟨o2, gd2, ho2⟩ := Heap.dictOf_iff.mp hd2
  refine hG_ ?_
  clear hG_
  have F2 := fr_ext F1 x2
  have fd0 : s.heap.get? d = none := by
    cases q : s.heap.get? d with
    | none => rfl
    | some ob => have := F1.keep _ _ q; rw [fd2] at this; cases this
  clear N1 F1
  k_steps
  all_goals ((try refine leaveX ?_); (try dsimp only); exact hret _ _ _ F2.keep ⟨_, _, rfl, fd0, gd2, ho2⟩)
end
section
local macro_rules | `(tactic| walk_at "LOOKM") => `(tactic| first | with_reducible assumption | exact rfl | ((try dsimp only); (repeat first | rw [if_neg (by decide)] | rw [ovm_lookup]); first | with_reducible assumption | exact if_pos rfl | exact rfl))
local macro_rules | `(tactic| walk_at "eval Name") => `(tactic| (k_dflt (refine' nameX_L ?F ?m ?_ ?a ?b; (case a => rfl); (case b => rfl); (case F => k_asm); (case m => walk_at "LOOKM"))))
local macro_rules | `(tactic| walk_at "MEMS") => `(tactic| first | with_reducible assumption | exact List.mem_cons_self | (refine List.mem_cons_of_mem _ ?_; (walk_at "MEMS")) | (refine List.mem_append_left _ ?_; (walk_at "MEMS")) | (refine List.mem_append_right _ ?_; (walk_at "MEMS")))
local macro_rules | `(tactic| walk_at "SUBS") => `(tactic| first | exact List.forall_mem_nil _ | (refine List.forall_mem_cons.mpr ⟨?_, ?_⟩; (walk_at "MEMS"); (walk_at "SUBS")) | (refine List.forall_mem_append.mpr ⟨?_, ?_⟩; (walk_at "SUBS"); (walk_at "SUBS")) | (intro p hp; (walk_at "MEMS")))
local macro_rules | `(tactic| walk_at "OFFS") => `(tactic| first | exact List.forall_mem_nil _ | (refine List.forall_mem_cons.mpr ⟨?_, ?_⟩; (walk_at "NE"); (walk_at "OFFS")) | (refine List.forall_mem_append.mpr ⟨?_, ?_⟩; (walk_at "OFFS"); (walk_at "OFFS")) | with_reducible assumption)
section
noncomputable abbrev SK (w : World) : KeyKind PySem.Challenge.rw_ik0192_01.prog w Str := PySem.strKind PySem.Challenge.rw_ik0192_01.prog w
section
variable {prog : Program} {w : World} {A : Around} {E : Value → Shared → Prop} {s : Shared} {h₀ : Heap} {L d : Addr} {m : Str → Option Value} {news : List (Addr × Obj)} {g : Obj → List (Addr × Obj)} {o : Obj}
theorem setItem_KD {k : Str} {t : Tok} {v : Value} {kvs : List (Str × Value)} {Q : Unit → Shared → Prop} (F : Fr h₀ L s.heap m) (N : News h₀ L s.heap news) (U : UpdF d o news g) (hd : o.IsDictOf (PySem.strKind prog w) kvs) (hz : kvs.length ≤ 100000)
    (h : ∀ h' o', Fr h₀ L h' m → News h₀ L h' (g o') → o'.IsDictOf (PySem.strKind prog w) (stored kvs k v) → Q () { s with heap := h', toks := s.toks + 1 }) :
    wpAny (model prog w) A (setItem (.ref d) (.str k t) v) Q E s := by
  refine hidG fun G_ hG_ => ?_
  obtain ⟨own, rest, rfl, hg, h1, h2⟩ := U.split
  refine hG_ ?_
  clear hG_
  have hmem := N (d, o) (List.mem_append_right _ (.head _))
  refine wpAny_setItem_pairs (knd := PySem.strKind prog w) (k := k) (PySem.strKind_is _ _ _ _) (Heap.dictOf_iff.mpr ⟨o, hmem.1, hd⟩) (fun h' hD hs => ?_) (by rw [sizeLine_eq]; omega)
  refine hidG fun G_ hG_ => ?_
  obtain ⟨o', ho', hd'⟩ := Heap.dictOf_iff.mp hD
  refine hG_ ?_
  clear hG_
  refine h h' o' ⟨F.ns.sameBut hs (Ne.symm hmem.2.1), fun b ob e => (hs.2 b (fun q => ?_)).trans (F.keep b ob e), F.above⟩ (hg o' ▸ N.setAt h1 h2 hs ho') hd'
  rw [q, hmem.2.2] at e; cases e
end
local macro_rules | `(tactic| walk_at "setItem ref str") => `(tactic| (k_dflt (refine' setItem_KD (by k_asm) (by k_asm) (by k_updF) (by with_reducible assumption) (by with_reducible assumption) ?_); intro h9 o9 F9 N9 d9))
noncomputable def BL (as : List Addr) (bs : List (List Value × Nat)) : List (Addr × Obj) := List.zipWith (fun a b => (a, lobj b.1 b.2)) as bs
noncomputable def BsAre (bs : List (List Value × Nat)) (bl : List (List Str)) : Prop := bs.length = bl.length ∧ ∀ (j : Nat) b l, bs[j]? = some b → bl[j]? = some l → StrsAre b.1 l
noncomputable def besK (ns : List Str) (as : List Addr) : List (Str × Value) := List.zipWith (fun p a => (p, Value.ref a)) ns as
theorem bl_snoc {as : List Addr} {bs : List (List Value × Nat)} {a : Addr} {b : List Value × Nat} (h : as.length = bs.length) : BL (as ++ [a]) (bs ++ [b]) = BL as bs ++ [(a, lobj b.1 b.2)] := by
  unfold BL; rw [List.zipWith_append h]; rfl
theorem bl_fst {as : List Addr} {bs : List (List Value × Nat)} : ∀ p ∈ BL as bs, p.1 ∈ as := by
  unfold BL
  induction as generalizing bs with
  | nil => intro p hp; simp at hp
  | cons a r ih =>
    cases bs with
    | nil => intro p hp; simp at hp
    | cons b t =>
      intro p hp
      rw [List.zipWith_cons_cons] at hp
      rcases List.mem_cons.mp hp with rfl | hp
      · exact .head _
      · exact .tail _ (ih p hp)
theorem bl_has {as : List Addr} {bs : List (List Value × Nat)} (h : as.length = bs.length) : ∀ a ∈ as, ∃ q ∈ BL as bs, q.1 = a := by
  unfold BL
  induction as generalizing bs with
  | nil => intro a ha; cases ha
  | cons x r ih =>
    cases bs with
    | nil => cases h
    | cons b t =>
      intro a ha
      rw [List.zipWith_cons_cons]
      rcases List.mem_cons.mp ha with rfl | ha
      · exact ⟨_, .head _, rfl⟩
      · refine hidG fun G_ hG_ => ?_
        obtain ⟨q, hq, e⟩ := ih (by simpa using h) a ha
        refine hG_ ?_
        clear hG_
        exact ⟨q, .tail _ hq, e⟩
theorem besK_snoc {ns : List Str} {as : List Addr} {p : Str} {a : Addr} (h : ns.length = as.length) : besK (ns ++ [p]) (as ++ [a]) = besK ns as ++ [(p, .ref a)] := by
  unfold besK; rw [List.zipWith_append h]; rfl
theorem besK_fst : ∀ {ns : List Str} {as : List Addr}, ns.length = as.length → (besK ns as).map (·.1) = ns
  | [], [], _ => rfl
  | p :: r, a :: t, h => by
    have := besK_fst (ns := r) (as := t) (by simpa using h)
    unfold besK at this ⊢
    rw [List.zipWith_cons_cons, List.map_cons, this]
theorem stored_new {kvs : List (Str × Value)} {k : Str} {v : Value} (h : k ∉ kvs.map (·.1)) : stored kvs k v = kvs ++ [(k, v)] := by
  unfold stored
  rw [if_neg]
  intro q
  refine hidG fun G_ hG_ => ?_
  obtain ⟨x, hx, e⟩ := List.any_eq_true.mp q
  refine hG_ ?_
  clear hG_
  exact h (List.mem_map.mpr ⟨x, hx, by simpa using e⟩)
theorem bs_snoc {bs : List (List Value × Nat)} {bl : List (List Str)} {b : List Value × Nat} {l : List Str} (h : BsAre bs bl) (hb : StrsAre b.1 l) : BsAre (bs ++ [b]) (bl ++ [l]) := by
  refine ⟨by rw [List.length_append, List.length_append, h.1]; rfl, fun j b' l' e1 e2 => ?_⟩
  rcases Nat.lt_or_ge j bs.length with q | q
  · rw [List.getElem?_append_left q] at e1
    rw [List.getElem?_append_left (h.1 ▸ q)] at e2
    exact h.2 j b' l' e1 e2
  · rw [List.getElem?_append_right q] at e1
    rw [List.getElem?_append_right (h.1 ▸ q), ← h.1] at e2
    cases z : j - bs.length with
    | zero => rw [z] at e1 e2; simp at e1 e2; subst e1 e2; exact hb
    | succ n => rw [z] at e1; simp at e1
theorem nodup_snoc {α : Type} {l : List α} {a : α} (h : l.Nodup) (ha : a ∉ l) : (l ++ [a]).Nodup := by
  refine List.nodup_append.mpr ⟨h, by simp, ?_⟩
  intro x hx y hy e
  rw [List.mem_singleton.mp hy] at e
  exact ha (e ▸ hx)
section
open LC
variable {m : Str → Option Value} {s : Shared} {Q : Flow → Shared → Prop} {T : List (Addr × Obj)}
theorem law9 {d pl : Addr} {o oc : Obj} {ws : List Value} {ns : List Str} {c : Nat} (B : Below callerA base [] h₀) (F : Fr h₀ L s.heap m) (X : (Mine.hd.heap_1 w.params).In h₀) (XB : KBIn w h₀) (TG : Top topProg LSG mean mg mb h₀) (hE : PassesOwn (model PySem.Challenge.rw_ik0192_01.prog w) (lawA w.params gd L fa cd cm cr co cb) (lenv w.params L fa cd cm cr co cb) E) (N : News h₀ L s.heap ((d, o) :: (cb, oc) :: (pl, lobj ws c) :: T))
    (hm : m (Str.ofString "places") = some (.ref pl)) (hs : StrsAre ws ns) (hn : ns.Nodup) (hz : ns.length ≤ 200) (ho : o.IsDictOf (SK w) []) (hoc : oc.data = .cell (some (.ref d)))
    (h1 : @Ne Nat d cb) (h2 : @Ne Nat d pl) (h3 : ∀ p ∈ T, p.1 ≠ d)
    (hret : ∀ o as bs h' tk' u, Fr h₀ L h' (fun y => if y = Str.ofString "place" then u else m y) → News h₀ L h' ((d, o) :: (cb, oc) :: (pl, lobj ws c) :: (BL as bs ++ T)) → o.IsDictOf (SK w) (besK ns as) → as.length = ns.length → BsAre bs (ns.map fun p => [p]) →
      as.Nodup → (∀ a ∈ as, @Ne Nat a d ∧ @Ne Nat a cb ∧ @Ne Nat a pl) → (∀ a ∈ as, ∀ p ∈ T, p.1 ≠ a) → Q .next { s with heap := h', toks := tk' }) :
    wpAny (model PySem.Challenge.rw_ik0192_01.prog w) (lawA w.params gd L fa cd cm cr co cb) (exec (lawSt w.params 9) (lenv w.params L fa cd cm cr co cb)) Q E s := by
  revert X
  k_fill
  intro X
  have hb := (show lawSt w.params 9 = lawSt w.params 9 from rfl)
  conv at hb => rhs; whnf
  have hsc := (show lawScope w.params = lawScope w.params from rfl)
  conv at hsc => rhs; whnf
  rw [lenv, lawA, hsc] at hE
  rw [hb, lenv, lawA, hsc]
  clear hb hsc
  have hls : s.heap.IsList pl ws.toArray := N.isList (.tail _ (.tail _ (.head _)))
  refine For_invVF F (by rfl) (by rfl) ?_ (hE := hE)
  k_steps
  refine ⟨?_⟩
  refine' for_src (ax := pl) (its := ws) (n := c) (oax := lobj ws c) [] (fun i u nw => ∃ o as bs, nw = (d, o) :: (cb, oc) :: (pl, lobj ws c) :: (BL as bs ++ T) ∧ o.IsDictOf (SK w) (besK (ns.take i) as) ∧ as.length = (ns.take i).length ∧ BsAre bs ((ns.take i).map fun p => [p]) ∧ as.Nodup ∧ (∀ a ∈ as, @Ne Nat a d ∧ @Ne Nat a cb ∧ @Ne Nat a pl) ∧ (∀ a ∈ as, ∀ p ∈ T, p.1 ≠ a)) ?hh ?hc ?hd F N ?hL ?S ?h0 ?hS ?turn ?done
  case hh => rfl
  case hc => rfl
  case hd => rfl
  case hL => rfl
  case S => exact .inr (.tail _ (.tail _ (.head _)))
  case h0 => exact ⟨o, [], [], rfl, ho, rfl, ⟨rfl, fun j b l e => by simp at e⟩, List.nodup_nil, fun a ha => (nomatch ha), fun a ha => (nomatch ha)⟩
  case hS => rintro i u nw ⟨_, _, _, rfl, _⟩; exact .inr (.tail _ (.tail _ (.head _)))
  case turn =>
    intro i v u nw h tk I oI hv ip9_ F2 N3 off
    refine hidG fun G_ hG_ => ?_
    obtain ⟨o, as, bs, rfl, hdi, hal, hbs, hnd, hne, hoff⟩ := ip9_
    refine hG_ ?_
    clear hG_
    refine hidG fun G_ hG_ => ?_
    obtain ⟨p, tp, rfl, hp⟩ := hs.item i v hv
    refine hG_ ?_
    clear hG_
    obtain ⟨R, hR⟩ : ∃ R, R = BL as bs ++ T := ⟨_, rfl⟩
    rw [← hR] at N3 off
    have hbl : as.length = bs.length := by rw [hal, hbs.1, List.length_map]
    have hRd : ∀ p ∈ R, p.1 ≠ d := fun p hp => by
      rw [hR] at hp
      rcases List.mem_append.mp hp with hp | hp
      · exact (hne _ (bl_fst p hp)).1
      · exact h3 p hp
    have hzk : (besK (ns.take i) as).length ≤ 100000 := by unfold besK; rw [List.length_zipWith]; have : (ns.take i).length ≤ ns.length := List.length_take_le' ..; omega
    have hnew : p ∉ (besK (ns.take i) as).map (·.1) := by
      rw [besK_fst hal.symm]
      intro hm
      refine hidG fun G_ hG_ => ?_
      obtain ⟨j, hj, e⟩ := List.getElem_of_mem hm
      refine hG_ ?_
      clear hG_
      rw [List.length_take] at hj
      rw [List.getElem_take] at e
      obtain ⟨hi, e2⟩ := List.getElem?_eq_some_iff.mp hp
      exact (List.pairwise_iff_getElem.mp hn j i (by omega) hi (by omega)) (e.trans e2.symm)
    have offd : @Ne Nat d I := off (d, o) (.head _)
    have offcb : @Ne Nat cb I := off (cb, oc) (.tail _ (.head _))
    have offpl : @Ne Nat pl I := off (pl, lobj ws c) (.tail _ (.tail _ (.head _)))
    clear F N hls
    k_steps
    rename Fr _ _ _ _ => F4
    rename News _ _ _ _ => N4
    rename (Obj.IsDictOf _ _ _) => d4
    rename (_ ∧ _ ∧ _ ∧ _ ∧ AllLt _ _) => l4
    rename_i D _ _ _
    refine hidG fun G_ hG_ => ?_
    obtain ⟨lI, ld, lcb, lpl, lR⟩ := l4
    refine hG_ ?_
    clear hG_
    have lR := ktn_ltOf lR
    have hTl : ∀ p ∈ T, p ∈ R := fun p hp => hR ▸ List.mem_append_right _ hp
    try dsimp only [TurnPostX]
    refine TurnEndX.mk F4 N4 ((d, o9) :: (cb, oc) :: (pl, lobj ws c) :: (BL (as ++ [D]) (bs ++ [([Value.str p tp], 0)]) ++ T)) ?hsub ?hoff ?hmm ⟨o9, as ++ [D], bs ++ [([Value.str p tp], 0)], rfl, ?hd, ?hl, ?hb, ?hn, ?hq, ?hT⟩
    case hsub =>
      intro p hp
      rw [bl_snoc hbl] at hp
      rcases List.mem_cons.mp hp with rfl | hp
      · exact .tail _ (.head _)
      rcases List.mem_cons.mp hp with rfl | hp
      · exact .tail _ (.tail _ (.head _))
      rcases List.mem_cons.mp hp with rfl | hp
      · exact .tail _ (.tail _ (.tail _ (.head _)))
      rcases List.mem_cons.mp hp with rfl | hp
      · exact .tail _ (.tail _ (.tail _ (.tail _ (.head _))))
      rcases List.mem_append.mp hp with hp | hp
      · rcases List.mem_append.mp hp with hp | hp
        · exact .tail _ (.tail _ (.tail _ (.tail _ (.tail _ (hR ▸ List.mem_append_left _ hp)))))
        · rw [List.mem_singleton.mp hp]; exact .head _
      · exact .tail _ (.tail _ (.tail _ (.tail _ (.tail _ (hTl p hp)))))
    case hoff =>
      intro p hp
      rw [bl_snoc hbl] at hp
      rcases List.mem_cons.mp hp with rfl | hp
      · exact offd
      rcases List.mem_cons.mp hp with rfl | hp
      · exact offcb
      rcases List.mem_cons.mp hp with rfl | hp
      · exact offpl
      rcases List.mem_append.mp hp with hp | hp
      · rcases List.mem_append.mp hp with hp | hp
        · exact off p (.tail _ (.tail _ (.tail _ (hR ▸ List.mem_append_left _ hp))))
        · rw [List.mem_singleton.mp hp]; exact Nat.ne_of_gt lI
      · exact off p (.tail _ (.tail _ (.tail _ (hTl p hp))))
    case hmm => exact fun y hy _ => if_neg hy
    case hd =>
      rw [stored_new hnew, ← besK_snoc hal.symm, ← take_snoc hp] at d4
      exact d4
    case hl => rw [take_snoc hp, List.length_append, List.length_append, hal]; rfl
    case hb => rw [take_snoc hp, List.map_append]; exact bs_snoc hbs (.cons p tp .nil)
    case hn =>
      refine nodup_snoc hnd fun hm => ?_
      refine hidG fun G_ hG_ => ?_
      obtain ⟨q, hq, e⟩ := bl_has hbl _ hm
      refine hG_ ?_
      clear hG_
      have := lR q (hR ▸ List.mem_append_left _ hq)
      rw [e] at this
      exact Nat.lt_irrefl _ this
    case hq =>
      intro a ha
      rcases List.mem_append.mp ha with ha | ha
      · exact hne a ha
      · rw [List.mem_singleton.mp ha]; exact ⟨Nat.ne_of_gt ld, Nat.ne_of_gt lcb, Nat.ne_of_gt lpl⟩
    case hT =>
      intro a ha p hp
      rcases List.mem_append.mp ha with ha | ha
      · exact hoff a ha p hp
      · rw [List.mem_singleton.mp ha]; exact Nat.ne_of_lt (lR p (hTl p hp))
  case done =>
    intro u nw h tk ip4_ F2 N3
    refine hidG fun G_ hG_ => ?_
    obtain ⟨o, as, bs, rfl, hdi, hal, hbs, hnd, hne, hoff⟩ := ip4_
    refine hG_ ?_
    clear hG_
    have e : List.take ws.length ns = ns := by rw [hs.len_eq, List.take_length]
    rw [e] at hdi hal hbs
    exact hret o as bs h tk (u (Str.ofString "place")) F2 N3 hdi hal hbs hnd hne hoff
end
end
section
local macro_rules | `(tactic| walk_at "ZZ") => `(tactic| skip)
local macro_rules | `(tactic| walk_at "eval Lambda") => `(tactic| (refine Stopped.h ?_))
noncomputable def allOf (h₀ h : Heap) (X : List Addr) : List (Addr × Obj) := (List.range h.objs.size).filterMap fun a => if (h₀.get? a).isNone && !X.contains a then (h.get? a).map fun o => (a, o) else none
theorem mem_allOf {h₀ h : Heap} {X : List Addr} {p : Addr × Obj} : p ∈ allOf h₀ h X ↔ h.get? p.1 = some p.2 ∧ h₀.get? p.1 = none ∧ p.1 ∉ X := by
  unfold allOf
  rw [List.mem_filterMap]
  constructor
  · intro ip0_
    refine hidG fun G_ hG_ => ?_
    obtain ⟨a, _, e⟩ := ip0_
    refine hG_ ?_
    clear hG_
    split at e
    · next q =>
      refine hidG fun G_ hG_ => ?_
      obtain ⟨o, h1, rfl⟩ := Option.map_eq_some_iff.mp e
      refine hG_ ?_
      clear hG_
      have q := Bool.and_eq_true_iff.mp q
      exact ⟨h1, by simpa using q.1, by simpa using q.2⟩
    · cases e
  · intro ip0_
    refine hidG fun G_ hG_ => ?_
    obtain ⟨h1, h2, h3⟩ := ip0_
    refine hG_ ?_
    clear hG_
    refine ⟨p.1, List.mem_range.mpr (Heap.lt_size h1), ?_⟩
    rw [if_pos (by rw [h2]; simpa using h3), h1]
    rfl
noncomputable def Apart (A B : List (Addr × Obj)) : Prop := ∀ p ∈ A, ∀ q ∈ B, p.1 ≠ q.1
noncomputable def Kept (h₀ : Heap) (T : List (Addr × Obj)) (g : Heap) : Prop := Ext h₀ g ∧ ∀ p ∈ T, g.get? p.1 = some p.2
theorem Kept.of {h₀ h : Heap} {L : Addr} {m : Str → Option Value} {T pre : List (Addr × Obj)} (F : Fr h₀ L h m) (N : News h₀ L h (pre ++ T)) : Kept h₀ T h := ⟨F.keep, fun p hp => (N p (List.mem_append_right _ hp)).1⟩
theorem none_below {h₀ h : Heap} {b : Addr} (k : ∀ b o, h₀.get? b = some o → h.get? b = some o) (e : h.get? b = none) : h₀.get? b = none := by
  cases q : h₀.get? b with
  | none => rfl
  | some o => rw [k _ _ q] at e; cases e
section
open LC
variable {m : Str → Option Value} {s : Shared} {Q : Flow → Shared → Prop} {T : List (Addr × Obj)}
theorem law11 {om or' oo : Obj} (B : Below callerA base [] h₀) (F : Fr h₀ L s.heap m) (X : (Mine.hd.heap_1 w.params).In h₀) (XB : KBIn w h₀) (TG : Top topProg LSG mean mg mb h₀) (C : CodeHd h₀ 210 208) (hcd : cd = .ref 210) (N : News h₀ L s.heap ((45, tabObj #[]) :: (208, tabObj #[]) :: (cm, om) :: (cr, or') :: (co, oo) :: T)) (hom : om.data = .cell none)
    (t1 : ∀ p ∈ T, p.1 ≠ cm) (t2 : ∀ p ∈ T, p.1 ≠ cr) (t3 : ∀ p ∈ T, p.1 ≠ co) (t4 : ∀ p ∈ T, p.1 ≠ 45) (t5 : ∀ p ∈ T, p.1 ≠ 208) (n1 : @Ne Nat cm cr) (n2 : @Ne Nat cm co) (n3 : @Ne Nat cr co) (n4 : @Ne Nat cm 45) (n5 : @Ne Nat cr 45) (n6 : @Ne Nat co 45)
     (n7 : @Ne Nat cm 208) (n8 : @Ne Nat cr 208) (n9 : @Ne Nat co 208)
    (hret : ∀ k la cmK om' TA c' h' tk', Fr h₀ L h' m → News h₀ L h' ((208, tabObj #[rawInt 266, rawInt 22, .ref c']) :: (cm, om') :: (cr, or') :: (co, oo) :: TA) → om'.data = .cell (some (.ref k)) → (∀ p ∈ T, p ∈ TA) → (∃ ps, (45, tabObj ps) ∈ TA) → (∀ p ∈ TA, p.1 ≠ 208 ∧ p.1 ≠ cm ∧ p.1 ≠ cr ∧ p.1 ≠ co) →
      (∀ g, Kept h₀ TA g → KAt w vnLaw cmK k g ∧ (∃ oc, g.get? cmK = some oc ∧ oc.data = .cell (some (.ref la))) ∧ LamAt (lam1 w.params) [(Str.ofString "beside", cb)] la g) → Q .next { s with heap := h', toks := tk' }) :
    wpAny (model PySem.Challenge.rw_ik0192_01.prog w) (lawA w.params gd L fa cd cm cr co cb) (exec (lawSt w.params 11) (lenv w.params L fa cd cm cr co cb)) Q E s := by
  revert X
  k_fill
  intro X
  have hb := (show lawSt w.params 11 = lawSt w.params 11 from rfl)
  conv at hb => rhs; whnf
  have hsc := (show lawScope w.params = lawScope w.params from rfl)
  conv at hsc => rhs; whnf
  rw [hb, lenv, lawA, hsc]
  clear hb hsc
  try delta LC.cd
  have hvn : mg (Str.ofString "__name__") = some vnLaw := mg_of X TG.g (by kernel_rfl)
  k_steps
  refine ⟨?_⟩
  rename Fr _ _ _ _ => F1
  rename News _ _ _ _ => N1
  refine kla_eval rfl ?_
  refine' kla_nest F1 N1 TG C rfl ?U ?t ?n ?cl ?_
  case U => k_updF
  case t => kn_triples
  case n => kn_among
  case cl => exact rfl
  intro la c' oc vs t ctv h' tk F2 N2 hd hv l1 l2
  rw [hvn] at N2
  k_steps
  rename Fr _ _ _ _ => F3
  rename News _ _ _ _ => N3
  have g45 := (N3 (45, tabObj #[]) (.tail _ (.tail _ (.head _)))).1
  have f45 := (N3 (45, tabObj #[]) (.tail _ (.tail _ (.head _)))).2.2
  refine ⟨wpAny_weak (cmpkey0 w la gd _ _ _ _ _ [] callerA base h₀ L m _ mean mg mb _ _ B F3 X XB TG rfl g45 f45 ?_) rfl (Nat.le_of_ble_eq_true rfl) (Nat.le_of_ble_eq_true rfl) (fun _ e => e) (fun _ e => e)⟩
  intro k h4 tk4 keep g45' fk ip6_
  refine hidG fun G_ hG_ => ?_
  obtain ⟨cmK, hK⟩ := ip6_
  refine hG_ ?_
  clear hG_
  have hL45 : L ≠ 45 := fun q => (N3 (45, tabObj #[]) (.tail _ (.tail _ (.head _)))).2.1 q.symm
  have F4 : Fr h₀ L h4 m := ⟨F3.ns.extBut keep hL45, fun b o e => keep b o (fun q => by rw [q, f45] at e; cases e) (F3.keep _ _ e), F3.above⟩
  obtain ⟨TA, hTA⟩ : ∃ TA, TA = allOf h₀ h4 [L, 208, cm, cr, co] := ⟨_, rfl⟩
  have hmem : ∀ p, p ∈ TA ↔ h4.get? p.1 = some p.2 ∧ h₀.get? p.1 = none ∧ p.1 ∉ [L, 208, cm, cr, co] := fun p => by rw [hTA]; exact mem_allOf
  have q1 : ∀ p ∈ TA, p.1 ≠ cm := fun p hp e => ((hmem p).mp hp).2.2 (by simp [e])
  have q2 : ∀ p ∈ TA, p.1 ≠ cr := fun p hp e => ((hmem p).mp hp).2.2 (by simp [e])
  have q3 : ∀ p ∈ TA, p.1 ≠ co := fun p hp e => ((hmem p).mp hp).2.2 (by simp [e])
  have q4 : ∀ p ∈ TA, p.1 ≠ 208 := fun p hp e => ((hmem p).mp hp).2.2 (by simp [e])
  have up : ∀ p : Addr × Obj, p ∈ _ → p.1 ≠ 45 → h4.get? p.1 = some p.2 ∧ p.1 ≠ L ∧ h₀.get? p.1 = none := fun p hp e => ⟨keep _ _ e (N3 p hp).1, (N3 p hp).2⟩
  have sub : ∀ p ∈ T, p ∈ TA := fun p hp => by
    have z := up p (.tail _ (.tail _ (.tail _ (.tail _ (.tail _ (.tail _ (.tail _ hp))))))) (t4 p hp)
    refine (hmem p).mpr ⟨z.1, z.2.2, ?_⟩
    simp only [List.mem_cons, List.not_mem_nil, or_false, not_or]
    exact ⟨z.2.1, t5 p hp, t1 p hp, t2 p hp, t3 p hp⟩
  have N4 : News h₀ L h4 ((208, tabObj #[rawInt 266, rawInt 22, .ref c']) :: (cm, om) :: (cr, or') :: (co, oo) :: TA) := fun p hp => by
    rcases List.mem_cons.mp hp with rfl | hp
    · exact up _ (.tail _ (.tail _ (.tail _ (.head _)))) (show (208 : Nat) ≠ 45 by decide)
    rcases List.mem_cons.mp hp with rfl | hp
    · exact up _ (.tail _ (.tail _ (.tail _ (.tail _ (.head _))))) n4
    rcases List.mem_cons.mp hp with rfl | hp
    · exact up _ (.tail _ (.tail _ (.tail _ (.tail _ (.tail _ (.head _)))))) n5
    rcases List.mem_cons.mp hp with rfl | hp
    · exact up _ (.tail _ (.tail _ (.tail _ (.tail _ (.tail _ (.tail _ (.head _))))))) n6
    · have z := (hmem p).mp hp
      exact ⟨z.1, fun e => z.2.2 (by simp [e]), z.2.1⟩
  have lac : ∀ q ∈ [(45, tabObj #[]), (208, tabObj #[]), (cm, om), (cr, or'), (co, oo)], q.1 < c' := fun q hq => l1 q (by
    have := List.mem_append_left T hq
    simpa using this)
  have c1 : @LT.lt Nat _ 45 c' := lac (45, tabObj #[]) (by simp)
  have c2 : @LT.lt Nat _ 208 c' := lac (208, tabObj #[]) (by simp)
  have c3 : @LT.lt Nat _ cm c' := lac (cm, om) (by simp)
  have c4 : @LT.lt Nat _ cr c' := lac (cr, or') (by simp)
  have c5 : @LT.lt Nat _ co c' := lac (co, oo) (by simp)
  have l2' : @LT.lt Nat _ c' la := l2
  have h45 : ∃ ps, (45, tabObj ps) ∈ TA := by
    obtain ⟨ps, e⟩ := g45'
    refine ⟨ps, (hmem _).mpr ⟨e, f45, ?_⟩⟩
    simp only [List.mem_cons, List.not_mem_nil, or_false, not_or]
    exact ⟨fun q => hL45 q.symm, by decide, fun q => n4 q.symm, fun q => n5 q.symm, fun q => n6 q.symm⟩
  have m1 : @Ne Nat la 45 := Nat.ne_of_gt (Nat.lt_trans c1 l2')
  have m2 : @Ne Nat la 208 := Nat.ne_of_gt (Nat.lt_trans c2 l2')
  have m3 : @Ne Nat la cm := Nat.ne_of_gt (Nat.lt_trans c3 l2')
  have m4 : @Ne Nat la cr := Nat.ne_of_gt (Nat.lt_trans c4 l2')
  have m5 : @Ne Nat la co := Nat.ne_of_gt (Nat.lt_trans c5 l2')
  have k1 : @Ne Nat c' 45 := Nat.ne_of_gt c1
  have k2 : @Ne Nat c' 208 := Nat.ne_of_gt c2
  have k3 : @Ne Nat c' cm := Nat.ne_of_gt c3
  have k4 : @Ne Nat c' cr := Nat.ne_of_gt c4
  have k5 : @Ne Nat c' co := Nat.ne_of_gt c5
  have zl := up (la, _) (.head _) m1
  have zc := up (c', oc) (.tail _ (.head _)) k1
  have hla : (la, _) ∈ TA := (hmem (la, _)).mpr ⟨zl.1, zl.2.2, by
    simp only [List.mem_cons, List.not_mem_nil, or_false, not_or]
    exact ⟨zl.2.1, m2, m3, m4, m5⟩⟩
  have hc' : (c', oc) ∈ TA := (hmem (c', oc)).mpr ⟨zc.1, zc.2.2, by
    simp only [List.mem_cons, List.not_mem_nil, or_false, not_or]
    exact ⟨zc.2.1, k2, k3, k4, k5⟩⟩
  have facts : ∀ g, Kept h₀ TA g → KAt w vnLaw cmK k g ∧ (∃ oc, g.get? cmK = some oc ∧ oc.data = .cell (some (.ref la))) ∧ LamAt (lam1 w.params) [(Str.ofString "beside", cb)] la g := by
    intro g hg
    have hk := hK g (fun b o e1 e2 => hg.2 (b, o) ((hmem (b, o)).mpr ⟨e2, none_below F3.keep e1, by
      simp only [List.mem_cons, List.not_mem_nil, or_false, not_or]
      refine hidG fun G_ hG_ => ?_
      obtain ⟨oL, _, _, hL, _⟩ := F3.ns
      refine hG_ ?_
      clear hG_
      refine ⟨?_, ?_, ?_, ?_, ?_⟩
      · intro q; rw [q] at e1; rw [e1] at hL; cases hL
      · intro q; rw [q, (N3 (208, tabObj #[rawInt 266, rawInt 22, .ref c']) (.tail _ (.tail _ (.tail _ (.head _))))).1] at e1; cases e1
      · intro q; rw [q, (N3 (cm, om) (.tail _ (.tail _ (.tail _ (.tail _ (.head _)))))).1] at e1; cases e1
      · intro q; rw [q, (N3 (cr, or') (.tail _ (.tail _ (.tail _ (.tail _ (.tail _ (.head _))))))).1] at e1; cases e1
      · intro q; rw [q, (N3 (co, oo) (.tail _ (.tail _ (.tail _ (.tail _ (.tail _ (.tail _ (.head _)))))))).1] at e1; cases e1⟩))
    exact ⟨hk.1, hk.2, c', ctv, oc, vs, t, hg.2 _ hla, hg.2 _ hc', hd, hv⟩
  clear F1 N1 F3 N3 up hla hc' zl zc hK keep m1 m2 m3 m4 m5 k1 k2 k3 k4 k5 c1 c2 c3 c4 c5 l1 l2 l2' lac
  have r1 : @Ne Nat cr cm := n1.symm
  have r2 : @Ne Nat co cm := n2.symm
  have r3 : @Ne Nat 208 cm := n7.symm
  k_steps
  rename Fr _ _ _ _ => F5
  rename News _ _ _ _ => N5
  exact hret k la cmK _ TA c' _ _ F5 N5 (by assumption) sub h45 (fun p hp => ⟨q4 p hp, q1 p hp, q2 p hp, q3 p hp⟩) facts
end
end
section
local macro_rules | `(tactic| walk_at "eval ListComp") => `(tactic| (refine Stopped.h ?_))
noncomputable def RowsIn (ys : List Value) (rs : List (List Str)) (KL : List (Addr × Obj)) : Prop := ys.length = rs.length ∧ ∀ (i : Nat) v r, ys[i]? = some v → rs[i]? = some r → ∃ a vs n, v = .ref a ∧ (a, lobj vs n) ∈ KL ∧ StrsAre vs r
theorem RowsIn.snoc {ys : List Value} {rs : List (List Str)} {KL KL' : List (Addr × Obj)} {a : Addr} {vs : List Value} {n : Nat} {r : List Str} (x : RowsIn ys rs KL) (h : ∀ q ∈ KL, q ∈ KL') (hm : (a, lobj vs n) ∈ KL') (hr : StrsAre vs r) : RowsIn (ys ++ [.ref a]) (rs ++ [r]) KL' := by
  refine ⟨by rw [List.length_append, List.length_append, x.1]; rfl, fun j k' p' e1 e2 => ?_⟩
  rcases Nat.lt_or_ge j ys.length with q | q
  · rw [List.getElem?_append_left q] at e1
    rw [List.getElem?_append_left (x.1 ▸ q)] at e2
    refine hidG fun G_ hG_ => ?_
    obtain ⟨a, vs, n, h1, h2, h3⟩ := x.2 j k' p' e1 e2
    refine hG_ ?_
    clear hG_
    exact ⟨a, vs, n, h1, h _ h2, h3⟩
  · rw [List.getElem?_append_right q] at e1
    rw [List.getElem?_append_right (x.1 ▸ q), ← x.1] at e2
    cases z : j - ys.length with
    | zero => rw [z] at e1 e2; simp at e1 e2; subst e1 e2; exact ⟨a, vs, n, rfl, hm, hr⟩
    | succ n => rw [z] at e1; simp at e1
theorem RowsIn.at {ys : List Value} {rs : List (List Str)} {KL : List (Addr × Obj)} {h₀ h : Heap} {L : Addr} (x : RowsIn ys rs KL) (N : News h₀ L h KL) : RowsV h ys rs :=
  ⟨x.1, fun i v r e1 e2 => by
    refine hidG fun G_ hG_ => ?_
    obtain ⟨a, vs, n, h1, h2, h3⟩ := x.2 i v r e1 e2
    refine hG_ ?_
    clear hG_
    exact ⟨a, vs, n, h1, (N _ h2).1, h3⟩⟩
theorem off1_mem {I : Addr} : ∀ {l : List (Addr × Obj)}, LCg.Off1 I l → ∀ p ∈ l, p.1 ≠ I
  | [], _, _, h => nomatch h
  | _ :: _, x, p, h => by
    rcases List.mem_cons.mp h with rfl | h
    · exact x.1
    · exact off1_mem x.2 p h
section
open LC
variable {m : Str → Option Value} {s : Shared} {Q : Flow → Shared → Prop} {T : List (Addr × Obj)}
theorem law13 {la : Addr} {oc : Obj} {v1 : List Value} {k1 : Nat} {ns : List Str} (B : Below callerA base [] h₀) (F : Fr h₀ L s.heap m) (X : (Mine.hd.heap_1 w.params).In h₀) (XB : KBIn w h₀) (TG : Top topProg LSG mean mg mb h₀) (N : News h₀ L s.heap ((cr, oc) :: T)) (hoc : oc.data = .cell none) (t1 : ∀ p ∈ T, p.1 ≠ cr)
    (hm : m (Str.ofString "first") = some (.ref la)) (ha : (la, lobj v1 k1) ∈ T) (hs : StrsAre v1 ns) (hz : ns.length ≤ 100) (hsh : ∀ x ∈ ns, Short x)
    (hret : ∀ D KL ys oc' h' tk', Fr h₀ L h' m → News h₀ L h' ((D, LCg.lst ys) :: (cr, oc') :: (KL ++ T)) → oc'.data = .cell (some (.ref D)) → RowsIn ys (ns.map lnNames) KL → Apart KL ((cr, oc) :: T) → LCg.Off1 D (KL ++ (cr, oc) :: T) → Q .next { s with heap := h', toks := tk' }) :
    wpAny (model PySem.Challenge.rw_ik0192_01.prog w) (lawA w.params gd L fa cd cm cr co cb) (exec (lawSt w.params 13) (lenv w.params L fa cd cm cr co cb)) Q E s := by
  revert X
  k_fill
  intro X
  have hb := (show lawSt w.params 13 = lawSt w.params 13 from rfl)
  conv at hb => rhs; whnf
  have hsc := (show lawScope w.params = lawScope w.params from rfl)
  conv at hsc => rhs; whnf
  rw [hb, lenv, lawA, hsc]
  clear hb hsc
  k_steps
  refine ⟨?_⟩
  refine LCg.ListComp_U (F₀ := F) (by with_unfolding_all rfl) (by decide) (by rfl) (by decide) (by rfl) ?_
  k_steps
  refine LCg.CompSrc.ledger rfl F N (.tail _ ha) (by rw [List.size_toArray, hs.len_eq, sizeLine_eq]; omega) fun g => ?_
  refine rest_ind (fun q ys nw => ∃ KL, nw = KL ++ (cr, oc) :: T ∧ RowsIn ys ((ns.take q).map lnNames) KL ∧ Apart KL ((cr, oc) :: T)) ⟨[], rfl, ⟨rfl, fun i k p e => by simp at e⟩, fun p hp => (nomatch hp)⟩ ?_ ?_
  · intro ys nw ip2_
    refine hidG fun G_ hG_ => ?_
    obtain ⟨KL, rfl, hk, hap⟩ := ip2_
    refine hG_ ?_
    clear hG_
    unfold LCg.FinE
    intro D h' tk' F' N' off
    rw [List.size_toArray, hs.len_eq, List.take_length] at hk
    obtain ⟨R, hR⟩ : ∃ R, R = KL ++ T := ⟨_, rfl⟩
    have N2 : News h₀ L h' ((D, LCg.lst ys) :: (cr, oc) :: R) := fun p hp => N' p (by
      rw [hR] at hp
      simp only [List.mem_cons, List.mem_append] at hp ⊢
      rcases hp with hp | hp | hp | hp <;> simp [hp])
    have tR : ∀ p ∈ R, p.1 ≠ cr := fun p hp => by
      rw [hR] at hp
      rcases List.mem_append.mp hp with hp | hp
      · exact hap p hp (cr, oc) (.head _)
      · exact t1 p hp
    have nD : @Ne Nat D cr := fun e => by
      have := off1_mem off (cr, oc) (by simp)
      exact this e.symm
    clear N N' F
    k_steps
    rename Fr _ _ _ _ => F5
    rename News _ _ _ _ => N5
    rw [hR] at N5
    exact hret D KL ys _ _ _ F5 N5 (by assumption) hk hap off
  · intro q ys nw v I oI C oC D m₂ h tk E' hq ip14_ hv hC hx F1 N1 off ne
    refine hidG fun G_ hG_ => ?_
    obtain ⟨KL, rfl, hk, hap⟩ := ip14_
    refine hG_ ?_
    clear hG_
    refine hidG fun G_ hG_ => ?_
    obtain ⟨c, tc, rfl, hc⟩ := hs.item q v (by simpa using hv)
    refine hG_ ?_
    clear hG_
    obtain ⟨R, hR⟩ : ∃ R, R = KL ++ T := ⟨_, rfl⟩
    have N2 : News h₀ L h ((I, oI) :: (C, oC) :: (D, LCg.lst ys) :: (cr, oc) :: R) := fun p hp => N1 p (by
      rw [hR] at hp
      simp only [List.mem_cons, List.mem_append] at hp ⊢
      rcases hp with hp | hp | hp | hp | hp | hp <;> simp [hp])
    clear F N N1
    k_steps
    refine ⟨?_⟩
    rename Fr _ _ _ _ => F2
    rename News _ _ _ _ => N2
    refine spec_new (P := fun o => ∃ vs n, o = lobj vs n ∧ StrsAre vs (lnNames c)) (lawnames0 w c _ (hsh c (List.mem_of_getElem? hc))) B F2 X XB N2 TG rfl (Nat.le_of_ble_eq_true rfl) (Nat.le_of_ble_eq_true rfl) trivial ?_
    intro b o h9 tk9 F9 N9 x9 off9 ip8_
    refine hidG fun G_ hG_ => ?_
    obtain ⟨vs, n, rfl, hvs⟩ := ip8_
    refine hG_ ?_
    clear hG_
    have offm := off1_mem off9
    try dsimp only
    try k_fold
    have N10 : News h₀ L h9 ((I, oI) :: (C, oC) :: (D, LCg.lst ys) :: (((b, lobj vs n) :: KL) ++ (cr, oc) :: T)) := fun p hp => N9 p (by
      rw [hR]
      simp only [List.cons_append, List.mem_cons, List.mem_append] at hp ⊢
      rcases hp with hp | hp | hp | hp | hp | hp | hp <;> simp [hp])
    refine LCg.CompEnd.intro F9 N10 _ (fun p hp => hp) ⟨⟨fun e => offm (I, oI) (.head _) e.symm, fun e => offm (C, oC) (.tail _ (.head _)) e.symm, fun e => offm (D, _) (.tail _ (.tail _ (.head _))) e.symm⟩, off⟩ (.inr ⟨lobj v1 k1, ?_, rfl, _, rfl⟩) ⟨_, rfl, ?_, ?_⟩
    · simp [ha]
    · rw [take_snoc hc, List.map_append]
      exact hk.snoc (fun q hq => .tail _ hq) (.head _) hvs
    · intro p hp q hq e
      rcases List.mem_cons.mp hp with rfl | hp
      · refine offm q ?_ e.symm
        rw [hR]
        rcases List.mem_cons.mp hq with rfl | hq <;> simp [*]
      · exact hap p hp q hq e
end
end
section
local macro_rules | `(tactic| k_mem) => `(tactic| with_reducible assumption)
section
open LC
variable {m : Str → Option Value} {s : Shared} {Q : Flow → Shared → Prop} {T : List (Addr × Obj)}
theorem law14 {ra : Addr} {oc : Obj} {ys : List Value} {n : Nat} {rs : List (List Str)} (B : Below callerA base [] h₀) (F : Fr h₀ L s.heap m) (X : (Mine.hd.heap_1 w.params).In h₀) (XB : KBIn w h₀) (TG : Top topProg LSG mean mg mb h₀) (N : News h₀ L s.heap ((cr, oc) :: T)) (hoc : oc.data = .cell (some (.ref ra))) (ha : (ra, lobj ys n) ∈ T) (hr : RowsIn ys rs T) (hz : rs.length ≤ 100) (hrr : ∀ r ∈ rs, r.length ≤ 100) (hok : ∀ r ∈ rs, OkS r)
    (hret : ∀ D vs k h' tk', Fr h₀ L h' (fun y => if y = Str.ofString "kept" then some (.ref D) else m y) → News h₀ L h' ((D, lobj vs k) :: (cr, oc) :: T) → IdxAre vs (keptN rs rs.length) → LCg.Off1 D ((cr, oc) :: T) → Q .next { s with heap := h', toks := tk' }) :
    wpAny (model PySem.Challenge.rw_ik0192_01.prog w) (lawA w.params gd L fa cd cm cr co cb) (exec (lawSt w.params 14) (lenv w.params L fa cd cm cr co cb)) Q E s := by
  revert X
  k_fill
  intro X
  have hb := (show lawSt w.params 14 = lawSt w.params 14 from rfl)
  conv at hb => rhs; whnf
  have hsc := (show lawScope w.params = lawScope w.params from rfl)
  conv at hsc => rhs; whnf
  rw [hb, lenv, lawA, hsc]
  clear hb hsc
  k_steps
  refine ⟨?_⟩
  have hT : News h₀ L s.heap T := fun p hp => N p (.tail _ hp)
  refine spec_new (P := fun o => ∃ vs n, o = lobj vs n ∧ IdxAre vs (keptN rs rs.length)) (lawkept0 w ra rs hz hrr hok) B F X XB N TG rfl (Nat.le_of_ble_eq_true rfl) (Nat.le_of_ble_eq_true rfl) ⟨ys, n, (hT _ ha).1, hr.at hT⟩ ?_
  intro D o h9 tk9 F9 N9 x9 off9 ip8_
  refine hidG fun G_ hG_ => ?_
  obtain ⟨vs, k, rfl, hv⟩ := ip8_
  refine hG_ ?_
  clear hG_
  clear F N
  k_steps
  rename Fr _ _ _ _ => F5
  rename News _ _ _ _ => N5
  exact hret D vs k _ _ F5 N5 hv off9
theorem law15 {ka pa la cmK a : Addr} {ks : List Addr} {n1 n2 : Nat} {ps : List Value} {idx : List Nat} {dom : List Str} {nb : Str → List Str} {pl : Addr → Str} (B : Below callerA base [] h₀) (F : Fr h₀ L s.heap m) (X : (Mine.hd.heap_1 w.params).In h₀) (XB : KBIn w h₀) (TG : Top topProg LSG mean mg mb h₀) (N : News h₀ L s.heap T)
    (hm1 : m (Str.ofString "ahead") = some (.ref ka)) (hm2 : m (Str.ofString "kept") = some (.ref pa)) (h1 : (ka, lobj (refs ks) n1) ∈ T) (h2 : (pa, lobj ps n2) ∈ T) (hidx : IdxAre ps idx) (hz : ks.length ≤ 50) (hlt : ∀ i ∈ idx, i < ks.length) (hzi : idx.length ≤ 100)
    (hP : ∀ g, Kept h₀ T g → KP w a cmK la cb dom nb ks pl g) (hpl : ∀ k ∈ ks, pl k ∈ dom) (hself : ∀ p ∈ dom, p ∈ nb p) (hvery : dedupK (eqvOf nb pl) ks = idx.map fun i => ks.getD i 0)
    (hret : ∀ h' tk', Fr h₀ L h' m → News h₀ L h' T → Q .next { s with heap := h', toks := tk' }) :
    wpAny (model PySem.Challenge.rw_ik0192_01.prog w) (lawA w.params gd L fa cd cm cr co cb) (exec (lawSt w.params 15) (lenv w.params L fa cd cm cr co cb)) Q E s := by
  revert X
  k_fill
  intro X
  have hb := (show lawSt w.params 15 = lawSt w.params 15 from rfl)
  conv at hb => rhs; whnf
  have hsc := (show lawScope w.params = lawScope w.params from rfl)
  conv at hsc => rhs; whnf
  rw [hb, lenv, lawA, hsc]
  clear hb hsc
  k_steps
  refine ⟨?_⟩
  have hk : KP w a cmK la cb dom nb ks pl s.heap := hP _ ⟨F.keep, fun p hp => (N p hp).1⟩
  refine spec_new (P := fun o => ∃ n, o = lobj (refs (dedupK (eqvOf nb pl) ks)) n) (dedup0 w ka ks (by omega) _ (eqvOf nb pl) (keysK w a cmK la cb dom nb ks pl hpl hself)) B F X XB N TG rfl (Nat.le_of_ble_eq_true rfl) (Nat.le_of_ble_eq_true rfl) ⟨⟨_, (N _ h1).1⟩, hk⟩ ?_
  intro D o h9 tk9 F9 N9 x9 off9 ip8_
  refine hidG fun G_ hG_ => ?_
  obtain ⟨k, rfl⟩ := ip8_
  refine hG_ ?_
  clear hG_
  have hk9 : KP w a cmK la cb dom nb ks pl h9 := hk.up x9
  have ntk : ∀ x ∈ ks, NotTup h9 x := fun x hx => by
    refine hidG fun G_ hG_ => ?_
    obtain ⟨dx, tp, q1, q2⟩ := hk9.key x hx
    refine hG_ ?_
    clear hG_
    exact ⟨_, q1, fun e => by cases e⟩
  clear F N
  k_steps
  refine ⟨?_⟩
  have hN9 := N9
  refine spec_val (lawvery0 w D ka pa (dedupK (eqvOf nb pl) ks) ks idx (by have := dedup_len (eqv := eqvOf nb pl) ks; omega) (by omega) hzi hlt) B F9 X XB hN9 TG rfl (Nat.le_of_ble_eq_true rfl) (Nat.le_of_ble_eq_true rfl) ⟨⟨_, (hN9 _ (.head _)).1⟩, ⟨_, (hN9 _ (.tail _ h1)).1⟩, ⟨ps, _, (hN9 _ (.tail _ h2)).1, hidx⟩, fun x hx => ntk x (dedup_sub x hx), ntk⟩ ?_
  rintro r h8 tk8 F8 N8 x8 rfl
  rw [decide_eq_true hvery]
  clear hN9
  k_steps
  rename Fr _ _ _ _ => F5
  rename News _ _ _ _ => N5
  exact hret _ _ F5 fun p hp => N5 p (.tail _ hp)
end
end
section
local macro_rules | `(tactic| k_mem) => `(tactic| with_reducible assumption)
local macro_rules | `(tactic| walk_at "eval Lambda") => `(tactic| (refine Stopped.h ?_))
section
open LC
variable {m : Str → Option Value} {s : Shared} {Q : Flow → Shared → Prop} {T : List (Addr × Obj)}
theorem foldl_take_len {eqv : Addr → Addr → Bool} : ∀ (l : List Addr), (l.foldl (stepK eqv) []).length ≤ l.length := by
  have gen : ∀ (l acc : List Addr), (l.foldl (stepK eqv) acc).length ≤ acc.length + l.length := by
    intro l
    induction l with
    | nil => intro acc; exact Nat.le_refl _
    | cons t l ih =>
      intro acc
      rw [List.foldl_cons]
      refine Nat.le_trans (ih _) ?_
      have := dedup_len (eqv := eqv) (acc ++ [t])
      unfold stepK
      rw [List.length_append, List.length_singleton] at this
      rw [List.length_cons]
      omega
  intro l
  have := gen l []
  simpa using this
theorem foldl_sub {eqv : Addr → Addr → Bool} {ks : List Addr} : ∀ (l : List Addr), (∀ x ∈ l, x ∈ ks) → ∀ x ∈ l.foldl (stepK eqv) [], x ∈ ks := by
  have gen : ∀ (l acc : List Addr), (∀ x ∈ acc, x ∈ ks) → (∀ x ∈ l, x ∈ ks) → ∀ x ∈ l.foldl (stepK eqv) acc, x ∈ ks := by
    intro l
    induction l with
    | nil => intro acc h _ x hx; exact h x hx
    | cons t l ih =>
      intro acc h hl x hx
      rw [List.foldl_cons] at hx
      refine ih _ ?_ (fun y hy => hl y (.tail _ hy)) x hx
      intro y hy
      rcases List.mem_append.mp (dedup_sub _ hy) with hy | hy
      · exact h y hy
      · rw [List.mem_singleton.mp hy]; exact hl t (.head _)
  intro l h
  exact gen l [] (fun x hx => nomatch hx) h
theorem law16 {ka pa la cmK a c' : Addr} {ks : List Addr} {n1 n2 : Nat} {ps : List Value} {idx : List Nat} {dom : List Str} {nb : Str → List Str} {pl : Addr → Str} (B : Below callerA base [] h₀) (F : Fr h₀ L s.heap m) (X : (Mine.hd.heap_1 w.params).In h₀) (XB : KBIn w h₀) (TG : Top topProg LSG mean mg mb h₀) (C : CodeHd h₀ 210 208) (hcd : cd = .ref 210) (N : News h₀ L s.heap ((208, tabObj #[rawInt 266, rawInt 22, .ref c']) :: T)) (t1 : ∀ p ∈ T, p.1 ≠ 208)
    (hm1 : m (Str.ofString "ahead") = some (.ref ka)) (hm2 : m (Str.ofString "kept") = some (.ref pa)) (h1 : (ka, lobj (refs ks) n1) ∈ T) (h2 : (pa, lobj ps n2) ∈ T) (hidx : IdxAre ps idx) (hz : ks.length ≤ 50) (h0 : 0 < ks.length) (hlt : ∀ i ∈ idx, i < ks.length) (hzi : idx.length ≤ 100)
    (hP : ∀ g, Kept h₀ T g → KP w a cmK la cb dom nb ks pl g) (hpl : ∀ k ∈ ks, pl k ∈ dom) (hself : ∀ p ∈ dom, p ∈ nb p) (hvery : ks.foldl (stepK (eqvOf nb pl)) [] = idx.map fun i => ks.getD i 0)
    (hret : ∀ ps h' tk', Fr h₀ L h' m → News h₀ L h' ((208, tabObj ps) :: T) → Q .next { s with heap := h', toks := tk' }) :
    wpAny (model PySem.Challenge.rw_ik0192_01.prog w) (lawA w.params gd L fa cd cm cr co cb) (exec (lawSt w.params 16) (lenv w.params L fa cd cm cr co cb)) Q E s := by
  revert X
  k_fill
  intro X
  have hb := (show lawSt w.params 16 = lawSt w.params 16 from rfl)
  conv at hb => rhs; whnf
  have hsc := (show lawScope w.params = lawScope w.params from rfl)
  conv at hsc => rhs; whnf
  rw [hb, lenv, lawA, hsc]
  clear hb hsc
  try delta LC.cd
  have hvn : mg (Str.ofString "__name__") = some vnLaw := mg_of X TG.g (by kernel_rfl)
  k_steps
  refine ⟨?_⟩
  rename Fr _ _ _ _ => F1
  rename News _ _ _ _ => N1
  refine kla_eval rfl ?_
  refine' kla_nest F1 N1 TG C rfl ?U ?t ?n ?cl ?_
  case U => k_updF
  case t => kn_triples
  case n => kn_among
  case cl => exact rfl
  intro lb c2 oc vs t ctv h' tk F2 N2 hd hv l1 l2
  rw [hvn] at N2
  have lbT : AllLt lb _ := allLt_of fun q hq => Nat.lt_trans (l1 q hq) l2
  have c2T : AllLt c2 _ := allLt_of l1
  k_steps
  refine ⟨?_⟩
  rename Fr _ _ _ _ => F3
  rename News _ _ _ _ => N3
  have hN3 := N3
  have hlam : LamAt (lam2 w.params) [] lb _ := ⟨c2, ctv, oc, vs, t, (hN3 _ (.tail _ (.head _))).1, (hN3 _ (.tail _ (.tail _ (.head _)))).1, hd, hv⟩
  have hk : KP w a cmK la cb dom nb ks pl _ := hP _ ⟨F3.keep, fun p hp => (hN3 p (.tail _ (.tail _ (.tail _ (.tail _ hp))))).1⟩
  have KE := keysK w a cmK la cb dom nb ks pl hpl hself
  refine spec_new (P := fun o => ∃ n, o = lobj (refs (ks.foldl (stepK (eqvOf nb pl)) [])) n) (reduceL w lb ka _ ks h0 (fun h => LamAt (lam2 w.params) [] lb h ∧ KP w a cmK la cb dom nb ks pl h) (fun h h' e x => ⟨x.1.keeps e, x.2.up e⟩) (fun h x => by obtain ⟨c, ct, oc, vs, t, hla, _⟩ := x.1; exact ⟨_, _, hla, rfl⟩) (stepK (eqvOf nb pl)) ?S) B F3 X XB hN3 TG rfl (Nat.le_of_ble_eq_true rfl) (Nat.le_of_ble_eq_true rfl) ⟨⟨_, (hN3 _ (.tail _ (.tail _ (.tail _ (.tail _ h1))))).1⟩, ⟨_, (hN3 _ (.head _)).1⟩, hlam, hk⟩ ?_
  case S =>
    intro i hi b n
    have e : (ks.take (i + 1)).foldl (stepK (eqvOf nb pl)) [] = stepK (eqvOf nb pl) ((ks.take i).foldl (stepK (eqvOf nb pl)) []) ks[i] := take_step (List.getElem?_eq_getElem hi)
    rw [e]
    refine lam2S w lb b ks[i] _ n (Nat.le_trans (foldl_take_len _) ?_) _ (eqvOf nb pl) ks KE ?_
    · rw [List.length_take]; omega
    · intro x hx
      rcases List.mem_append.mp hx with hx | hx
      · exact foldl_sub _ (fun y hy => List.mem_of_mem_take hy) x hx
      · rw [List.mem_singleton.mp hx]; exact List.getElem_mem hi
  intro D o h9 tk9 F9 N9 x9 off9 ip8_
  refine hidG fun G_ hG_ => ?_
  obtain ⟨k, rfl⟩ := ip8_
  refine hG_ ?_
  clear hG_
  have hk9 : KP w a cmK la cb dom nb ks pl h9 := hk.up x9
  have ntk : ∀ x ∈ ks, NotTup h9 x := fun x hx => by
    refine hidG fun G_ hG_ => ?_
    obtain ⟨dx, tp, q1, q2⟩ := hk9.key x hx
    refine hG_ ?_
    clear hG_
    exact ⟨_, q1, fun e => by cases e⟩
  clear F3 N3 hN3
  k_steps
  refine ⟨?_⟩
  have hN9 := N9
  refine spec_val (lawvery0 w D ka pa _ ks idx (Nat.le_trans (foldl_take_len (eqv := eqvOf nb pl) ks) (by omega)) (by omega) hzi hlt) B F9 X XB hN9 TG rfl (Nat.le_of_ble_eq_true rfl) (Nat.le_of_ble_eq_true rfl) ⟨⟨_, (hN9 _ (.head _)).1⟩, ⟨_, (hN9 _ (.tail _ (.tail _ (.tail _ (.tail _ (.tail _ h1)))))).1⟩, ⟨ps, _, (hN9 _ (.tail _ (.tail _ (.tail _ (.tail _ (.tail _ h2)))))).1, hidx⟩, fun x hx => ntk x (foldl_sub ks (fun y hy => hy) x hx), ntk⟩ ?_
  rintro r h8 tk8 F8 N8 x8 rfl
  rw [decide_eq_true hvery]
  clear hN9
  k_steps
  rename Fr _ _ _ _ => F5
  rename News _ _ _ _ => N5
  exact hret _ _ _ F5 fun p hp => N5 p (.tail _ (.tail _ (.tail _ (.tail _ hp))))
end
end
section
local macro_rules | `(tactic| walk_at "exec Assign cons ListComp") => `(tactic| (refine Stopped.h ?_))
local macro_rules | `(tactic| walk_at "callWith ref") => `(tactic| (refine Stopped.h ?_))
section
open LC
variable {m : Str → Option Value} {s : Shared} {Q : Flow → Shared → Prop} {T : List (Addr × Obj)}
theorem law12 {k cmK a1 : Addr} {om : Obj} {v1 : List Value} {k1 : Nat} {ns : List Str} (B : Below callerA base [] h₀) (F : Fr h₀ L s.heap m) (X : (Mine.hd.heap_1 w.params).In h₀) (XB : KBIn w h₀) (TG : Top topProg LSG mean mg mb h₀) (N : News h₀ L s.heap ((cm, om) :: T)) (hom : om.data = .cell (some (.ref k)))
    (hm : m (Str.ofString "one_row") = some (.ref a1)) (ha : (a1, lobj v1 k1) ∈ T) (hs : StrsAre v1 ns) (hz : ns.length ≤ 100) (hK : ∀ g, Kept h₀ T g → KAt w vnLaw cmK k g)
    (hret : ∀ D KL ks h' tk', Fr h₀ L h' (fun y => if y = Str.ofString "ahead" then some (.ref D) else m y) → News h₀ L h' ((D, LCg.lst (refs ks)) :: (KL ++ (cm, om) :: T)) → KeysIn k ks ns KL → Apart KL ((cm, om) :: T) → LCg.Off1 D (KL ++ (cm, om) :: T) → Q .next { s with heap := h', toks := tk' }) :
    wpAny (model PySem.Challenge.rw_ik0192_01.prog w) (lawA w.params gd L fa cd cm cr co cb) (exec (lawSt w.params 12) (lenv w.params L fa cd cm cr co cb)) Q E s := by
  revert X
  k_fill
  intro X
  have hb := (show lawSt w.params 12 = lawSt w.params 12 from rfl)
  conv at hb => rhs; whnf
  have hsc := (show lawScope w.params = lawScope w.params from rfl)
  conv at hsc => rhs; whnf
  rw [hb, lenv, lawA, hsc]
  clear hb hsc
  refine LCg.Assign_ListComp_U (F₀ := F) (by rfl) (by with_unfolding_all rfl) (by with_unfolding_all rfl) (by decide) (by rfl) (by decide) (by rfl) (by rfl) (by rfl) ?_
  k_steps
  refine LCg.CompSrc.ledger rfl F N (.tail _ ha) (by rw [List.size_toArray, hs.len_eq, sizeLine_eq]; omega) fun g => ?_
  refine rest_ind (fun q ys nw => ∃ KL ks, nw = KL ++ (cm, om) :: T ∧ ys = refs ks ∧ KeysIn k ks (ns.take q) KL ∧ Apart KL ((cm, om) :: T)) ⟨[], [], rfl, rfl, ⟨rfl, fun i k p e => by simp at e⟩, fun p hp => (nomatch hp)⟩ ?_ ?_
  · intro ys nw ip2_
    refine hidG fun G_ hG_ => ?_
    obtain ⟨KL, ks, rfl, rfl, hk, hap⟩ := ip2_
    refine hG_ ?_
    clear hG_
    unfold LCg.FinA
    intro D h' tk' F' N' off
    rw [List.size_toArray, hs.len_eq, List.take_length] at hk
    exact hret D KL ks h' tk' F' N' hk hap off
  · intro q ys nw v I oI C oC D m₂ h tk E' hq ip14_ hv hC hx F1 N1 off ne
    refine hidG fun G_ hG_ => ?_
    obtain ⟨KL, ks, rfl, rfl, hk, hap⟩ := ip14_
    refine hG_ ?_
    clear hG_
    refine hidG fun G_ hG_ => ?_
    obtain ⟨c, tc, rfl, hc⟩ := hs.item q v (by simpa using hv)
    refine hG_ ?_
    clear hG_
    obtain ⟨R, hR⟩ : ∃ R, R = KL ++ T := ⟨_, rfl⟩
    have N2 : News h₀ L h ((I, oI) :: (C, oC) :: (D, LCg.lst (refs ks)) :: (cm, om) :: R) := fun p hp => N1 p (by
      rw [hR] at hp
      simp only [List.mem_cons, List.mem_append] at hp ⊢
      rcases hp with hp | hp | hp | hp | hp | hp <;> simp [hp])
    have hKept : ∀ {g : Heap} {m'}, Fr h₀ L g m' → News h₀ L g ((I, oI) :: (C, oC) :: (D, LCg.lst (refs ks)) :: (cm, om) :: R) → Kept h₀ T g := fun F N => ⟨F.keep, fun p hp => (N p (.tail _ (.tail _ (.tail _ (.tail _ (hR ▸ List.mem_append_right _ hp)))))).1⟩
    clear F N N1
    k_steps
    refine ⟨callWith_C (P := fun g => KAt w vnLaw cmK k g) (fun g x => x.cls) ?_⟩
    k_steps
    · rename Fr _ _ _ _ => F2
      rename News _ _ _ _ => N2
      exact hK _ (hKept F2 N2)
    refine ⟨?_⟩
    rename Fr _ _ _ _ => F2
    rename News _ _ _ _ => N2
    refine spec_val (made1 w k cmK c tc) B F2 X XB N2 TG rfl (Nat.le_of_ble_eq_true rfl) (Nat.le_of_ble_eq_true rfl) (hK _ (hKept F2 N2)) ?_
    intro r h9 tk9 F9 N9 x9 ip6_
    refine hidG fun G_ hG_ => ?_
    obtain ⟨kk, dx, tp, rfl, f1, f2, g1, g2⟩ := ip6_
    refine hG_ ?_
    clear hG_
    have fresh : ∀ b, _ = none → b ≠ L ∧ h₀.get? b = none ∧ b ≠ I ∧ b ≠ C ∧ b ≠ D := fun b (e : Heap.get? _ b = none) => by
      refine hidG fun G_ hG_ => ?_
      obtain ⟨oL, _, _, hL, _⟩ := F2.ns
      refine hG_ ?_
      clear hG_
      refine ⟨?_, none_below F2.keep e, ?_, ?_, ?_⟩
      · intro q; rw [q, hL] at e; cases e
      · intro q; rw [q, (N2 (I, oI) (.head _)).1] at e; cases e
      · intro q; rw [q, (N2 (C, oC) (.tail _ (.head _))).1] at e; cases e
      · intro q; rw [q, (N2 (D, _) (.tail _ (.tail _ (.head _)))).1] at e; cases e
    have e1 := fresh kk f1
    have e2 := fresh dx f2
    try dsimp only
    try k_fold
    have N10 : News h₀ L h9 ((I, oI) :: (C, oC) :: (D, LCg.lst (refs ks)) :: (((kk, keyObj k dx c tp) :: (dx, dic0) :: KL) ++ (cm, om) :: T)) := fun p hp => by
      simp only [List.cons_append, List.mem_cons, List.mem_append] at hp
      rcases hp with hp | hp | hp | hp | hp | hp | hp | hp
      · exact N9 p (by simp [hp])
      · exact N9 p (by simp [hp])
      · exact N9 p (by simp [hp])
      · subst hp; exact ⟨g1, e1.1, e1.2.1⟩
      · subst hp; exact ⟨g2, e2.1, e2.2.1⟩
      · exact N9 p (by simp [hR, hp])
      · exact N9 p (by simp [hp])
      · exact N9 p (by simp [hR, hp])
    refine LCg.CompEnd.intro F9 N10 _ (fun p hp => hp) ⟨⟨e1.2.2.1, e1.2.2.2.1, e1.2.2.2.2⟩, ⟨e2.2.2.1, e2.2.2.2.1, e2.2.2.2.2⟩, off⟩ (.inr ⟨lobj v1 k1, ?_, rfl, _, rfl⟩) ⟨_, ks ++ [kk], rfl, by simp [refs], ?_, ?_⟩
    · simp [ha]
    · rw [take_snoc hc]
      exact hk.snoc (fun q hq => .tail _ (.tail _ hq)) ⟨dx, tp, .head _, .tail _ (.head _)⟩
    · have old : ∀ q ∈ (cm, om) :: T, ∃ o, Heap.get? _ q.1 = some o := fun q hq => ⟨_, (N2 q (by
        rcases List.mem_cons.mp hq with rfl | hq
        · exact .tail _ (.tail _ (.tail _ (.head _)))
        · exact .tail _ (.tail _ (.tail _ (.tail _ (hR ▸ List.mem_append_right _ hq)))))).1⟩
      intro p hp q hq e
      obtain ⟨o, ho⟩ := old q hq
      rcases List.mem_cons.mp hp with rfl | hp
      · rw [← e, f1] at ho; cases ho
      rcases List.mem_cons.mp hp with rfl | hp
      · rw [← e, f2] at ho; cases ho
      · exact hap p hp q hq e
end
end
section
section
variable {prog : Program} {w : World} {A : Around} {E : Value → Shared → Prop} {s : Shared} {env : Env} {h₀ : Heap} {x : Str} {body : List Stmt} {Q : Flow → Shared → Prop}
theorem for_tup {L ax : Addr} {its : List Value} {n : Nat} {m₀ : Str → Option Value} {news : List (Addr × Obj)} {oax : Obj} (zs : List Str) (Inv : Nat → (Str → Option Value) → List (Addr × Obj) → Prop)
    (hh : A.handled = none) (hc : oax.cls = .type "tuple") (hd : oax.data = .seq its.toArray n) (F : Fr h₀ L s.heap m₀) (N : News h₀ L s.heap news) (hL : env.locals = L) (S : Lies1 h₀ ax oax news) (h0 : Inv 0 m₀ news)
    (hS : ∀ i u nw, Inv i u nw → Lies1 h₀ ax oax nw)
    (turn : ∀ i v u nw h tk I oI, its[i]? = some v → Inv i u nw → Fr h₀ L h (fun y => if y = x then some v else ovm (zs.map fun z => (z, u z)) m₀ y) → News h₀ L h ((I, oI) :: nw) → (∀ p ∈ nw, p.1 ≠ I) →
      wpAny (model prog w) A (execs body env) (TurnPostX h₀ L x zs m₀ (Inv (i + 1)) I oI { s with heap := h, toks := tk } Q) E { s with heap := h, toks := tk })
    (done : ∀ u nw h tk, Inv its.length u nw → Fr h₀ L h (fun y => if y = x then u x else ovm (zs.map fun z => (z, u z)) m₀ y) → News h₀ L h nw → Q .next { s with heap := h, toks := tk }) :
    wpAny (model prog w) A (pyIter (.ref ax)) (fun it s₂ => LoopAtV prog w A h₀ env x body Q E it s₂) E s := by
  have hg := S.get F N
  have hls : s.heap.IsTuple ax its.toArray := ⟨_, hg, hc, n, hd⟩
  refine wpAny_pyIter_tuple hls ?_
  have W := Walks.tuple (prog := prog) (w := w) hh s.heap.objs.size ax (Nat.ne_of_lt (Heap.lt_size hg)) its.toArray
  rw [List.size_toArray] at W
  exact loopX zs Inv W hL (next_is_new F) (off_new N) ⟨⟨_, Heap.get?_push_size _ rfl, rfl, rfl⟩, hls.at fun o e => Heap.get?_push_of_some _ e⟩ (F.push _) (fun p hp => ⟨Heap.get?_push_of_some _ (N p hp).1, (N p hp).2⟩) h0 (.head _)
    (fun i h q => q.1.imp fun o e => e.1) (fp_new S F N hS (Nat.ne_of_gt F.ns.lt)) (fun i v u nw h tk oI _ q => turn i v u nw h tk _ oI (List.getElem?_toArray ▸ q)) done
end
noncomputable def forBody : Stmt → List Stmt
  | .For _ _ b _ _ => b
  | _ => []
noncomputable def lawFS (P : Params) (i : Nat) : Stmt := (forBody (lawSt P 17)).getD i default
theorem law_fbody (P : Params) : forBody (lawSt P 17) = [lawFS P 0, lawFS P 1, lawFS P 2, lawFS P 3, lawFS P 4, lawFS P 5, lawFS P 6, lawFS P 7, lawFS P 8] := by kernel_rfl
noncomputable def turned {α : Type} (st : Int) (l : List α) : List α := if st = 1 then l else l.reverse
end
section
local macro_rules | `(tactic| walk_at "ZZ") => `(tactic| skip)
local macro_rules | `(tactic| walk_at "exec Assign cons ListComp") => `(tactic| (refine Stopped.h ?_))
local macro_rules | `(tactic| walk_at "callWith ref") => `(tactic| (refine Stopped.h ?_))
theorem pick_st1 (items : List Value) : slicePick items.toArray none none (some 1) = items.toArray := by
  have e : slicePick items.toArray none none (some 1) = slicePick items.toArray none none none := rfl
  rw [e, kms_pick_eq]
  unfold kms_pick kms_lo kms_hi
  simp
theorem strs_rev {vs : List Value} {ns : List Str} (h : StrsAre vs ns) : StrsAre vs.reverse ns.reverse := by
  induction h with
  | nil => exact .nil
  | cons y t r ih =>
    rw [List.reverse_cons, List.reverse_cons]
    exact strs_snoc ih
section
open LC
variable {m : Str → Option Value} {s : Shared} {Q : Flow → Shared → Prop} {T : List (Addr × Obj)}
theorem lawf0 {k cmK a1 : Addr} {om : Obj} {v1 : List Value} {k1 : Nat} {ns : List Str} {st : Int} {tst : Tok} (hst : st = 1 ∨ st = -1) (B : Below callerA base [] h₀) (F : Fr h₀ L s.heap m) (X : (Mine.hd.heap_1 w.params).In h₀) (XB : KBIn w h₀) (TG : Top topProg LSG mean mg mb h₀) (N : News h₀ L s.heap ((cm, om) :: T)) (hom : om.data = .cell (some (.ref k)))
    (hm : m (Str.ofString "other_row") = some (.ref a1)) (hm2 : m (Str.ofString "step") = some (.int st tst)) (ha : (a1, lobj v1 k1) ∈ T) (hs : StrsAre v1 ns) (hz : ns.length ≤ 100) (hK : ∀ g, Kept h₀ T g → KAt w vnLaw cmK k g)
    (hret : ∀ D KL ks h' tk', Fr h₀ L h' (fun y => if y = Str.ofString "behind" then some (.ref D) else m y) → News h₀ L h' ((D, LCg.lst (refs ks)) :: (KL ++ (cm, om) :: T)) → KeysIn k ks (turned st ns) KL → Apart KL ((cm, om) :: T) → LCg.Off1 D (KL ++ (cm, om) :: T) → Q .next { s with heap := h', toks := tk' }) :
    wpAny (model PySem.Challenge.rw_ik0192_01.prog w) (lawA w.params gd L fa cd cm cr co cb) (exec (lawFS w.params 0) (lenv w.params L fa cd cm cr co cb)) Q E s := by
  revert X
  k_fill
  intro X
  have hb := (show lawFS w.params 0 = lawFS w.params 0 from rfl)
  conv at hb => rhs; whnf
  have hsc := (show lawScope w.params = lawScope w.params from rfl)
  conv at hsc => rhs; whnf
  rw [hb, lenv, lawA, hsc]
  clear hb hsc
  refine LCg.Assign_ListComp_U (F₀ := F) (by rfl) (by with_unfolding_all rfl) (by with_unfolding_all rfl) (by decide) (by rfl) (by decide) (by rfl) (by rfl) (by rfl) ?_
  have hl1 : s.heap.IsList a1 v1.toArray := N.isList (.tail _ ha)
  have key : ∃ w2 : List Value, slicePick v1.toArray none none (some st) = w2.toArray ∧ StrsAre w2 (turned st ns) := by
    rcases hst with rfl | rfl
    · exact ⟨v1, pick_st1 _, hs⟩
    · exact ⟨v1.reverse, krv_pick _, strs_rev hs⟩
  refine hidG fun G_ hG_ => ?_
  obtain ⟨w2, hw2, hw⟩ := key
  refine hG_ ?_
  clear hG_
  have hz2 : (turned st ns).length ≤ 100 := by unfold turned; split <;> simp [hz]
  generalize turned st ns = ns2 at hret hw hz2
  rcases hst with rfl | rfl
  all_goals (
    k_steps
    rename Fr _ _ _ _ => F1
    rename News _ _ _ _ => N1
    rw [hw2] at N1
    obtain ⟨a2, ha2⟩ : ∃ a2, a2 = s.heap.objs.size + 1 := ⟨_, rfl⟩
    rw [← ha2] at N1 ⊢
    obtain ⟨src, hsrc⟩ : ∃ src : Obj, src = { cls := .type "list", data := .seq w2.toArray } := ⟨_, rfl⟩
    rw [← hsrc] at N1
    refine LCg.CompSrc.ledger (its := w2.toArray) (k := 0) rfl F1 N1 (hsrc ▸ .head _) (by rw [List.size_toArray, hw.len_eq, sizeLine_eq]; omega) fun g => ?_
    refine rest_ind (fun q ys nw => ∃ KL ks, nw = KL ++ (a2, src) :: (cm, om) :: T ∧ ys = refs ks ∧ KeysIn k ks (ns2.take q) KL ∧ Apart KL ((cm, om) :: T)) ⟨[], [], rfl, rfl, ⟨rfl, fun i k p e => by simp at e⟩, fun p hp => (nomatch hp)⟩ ?_ ?_
    · intro ys nw ip2_
      refine hidG fun G_ hG_ => ?_
      obtain ⟨KL, ks, rfl, rfl, hk, hap⟩ := ip2_
      refine hG_ ?_
      clear hG_
      unfold LCg.FinA
      intro D h' tk' F' N' off
      rw [List.size_toArray, hw.len_eq, List.take_length] at hk
      refine hret D KL ks h' tk' F' (fun p hp => N' p ?_) hk hap (off1_of fun p hp => off1_mem off p ?_)
      · simp only [List.mem_cons, List.mem_append] at hp ⊢
        rcases hp with hp | hp | hp | hp <;> simp [hp]
      · simp only [List.mem_cons, List.mem_append] at hp ⊢
        rcases hp with hp | hp | hp <;> simp [hp]
    · intro q ys nw v I oI C oC D m₂ h tk E' hq ip14_ hv hC hx F1 N1 off ne
      refine hidG fun G_ hG_ => ?_
      obtain ⟨KL, ks, rfl, rfl, hk, hap⟩ := ip14_
      refine hG_ ?_
      clear hG_
      refine hidG fun G_ hG_ => ?_
      obtain ⟨c, tc, rfl, hc⟩ := hw.item q v (by simpa using hv)
      refine hG_ ?_
      clear hG_
      obtain ⟨R, hR⟩ : ∃ R, R = (a2, src) :: KL ++ T := ⟨_, rfl⟩
      have N2 : News h₀ L h ((I, oI) :: (C, oC) :: (D, LCg.lst (refs ks)) :: (cm, om) :: R) := fun p hp => N1 p (by
        rw [hR] at hp
        simp only [List.mem_cons, List.mem_append] at hp ⊢
        rcases hp with hp | hp | hp | hp | (hp | hp) | hp <;> simp [hp])
      have hKept : ∀ {g : Heap} {m'}, Fr h₀ L g m' → News h₀ L g ((I, oI) :: (C, oC) :: (D, LCg.lst (refs ks)) :: (cm, om) :: R) → Kept h₀ T g := fun F N => ⟨F.keep, fun p hp => (N p (.tail _ (.tail _ (.tail _ (.tail _ (hR ▸ List.mem_append_right _ hp)))))).1⟩
      clear F N N1
      k_steps
      refine ⟨callWith_C (P := fun g => KAt w vnLaw cmK k g) (fun g x => x.cls) ?_⟩
      k_steps
      · rename Fr _ _ _ _ => F2
        rename News _ _ _ _ => N2
        exact hK _ (hKept F2 N2)
      refine ⟨?_⟩
      rename Fr _ _ _ _ => F2
      rename News _ _ _ _ => N2
      refine spec_val (made1 w k cmK c tc) B F2 X XB N2 TG rfl (Nat.le_of_ble_eq_true rfl) (Nat.le_of_ble_eq_true rfl) (hK _ (hKept F2 N2)) ?_
      intro r h9 tk9 F9 N9 x9 ip6_
      refine hidG fun G_ hG_ => ?_
      obtain ⟨kk, dx, tp, rfl, f1, f2, g1, g2⟩ := ip6_
      refine hG_ ?_
      clear hG_
      have fresh : ∀ b, _ = none → b ≠ L ∧ h₀.get? b = none ∧ b ≠ I ∧ b ≠ C ∧ b ≠ D := fun b (e : Heap.get? _ b = none) => by
        refine hidG fun G_ hG_ => ?_
        obtain ⟨oL, _, _, hL, _⟩ := F2.ns
        refine hG_ ?_
        clear hG_
        refine ⟨?_, none_below F2.keep e, ?_, ?_, ?_⟩
        · intro q; rw [q, hL] at e; cases e
        · intro q; rw [q, (N2 (I, oI) (.head _)).1] at e; cases e
        · intro q; rw [q, (N2 (C, oC) (.tail _ (.head _))).1] at e; cases e
        · intro q; rw [q, (N2 (D, _) (.tail _ (.tail _ (.head _)))).1] at e; cases e
      have e1 := fresh kk f1
      have e2 := fresh dx f2
      try dsimp only
      try k_fold
      have N10 : News h₀ L h9 ((I, oI) :: (C, oC) :: (D, LCg.lst (refs ks)) :: (((kk, keyObj k dx c tp) :: (dx, dic0) :: KL) ++ (a2, src) :: (cm, om) :: T)) := fun p hp => by
        simp only [List.cons_append, List.mem_cons, List.mem_append] at hp
        rcases hp with hp | hp | hp | hp | hp | hp | hp | hp | hp
        · exact N9 p (by simp [hp])
        · exact N9 p (by simp [hp])
        · exact N9 p (by simp [hp])
        · subst hp; exact ⟨g1, e1.1, e1.2.1⟩
        · subst hp; exact ⟨g2, e2.1, e2.2.1⟩
        · exact N9 p (by simp [hR, hp])
        · exact N9 p (by simp [hR, hp])
        · exact N9 p (by simp [hp])
        · exact N9 p (by simp [hR, hp])
      refine LCg.CompEnd.intro F9 N10 _ (fun p hp => hp) ⟨⟨e1.2.2.1, e1.2.2.2.1, e1.2.2.2.2⟩, ⟨e2.2.2.1, e2.2.2.2.1, e2.2.2.2.2⟩, off⟩ (.inr ⟨src, by simp, by rw [hsrc], 0, by rw [hsrc]⟩) ⟨_, ks ++ [kk], rfl, by simp [refs], ?_, ?_⟩
      · rw [take_snoc hc]
        exact hk.snoc (fun q hq => .tail _ (.tail _ hq)) ⟨dx, tp, .head _, .tail _ (.head _)⟩
      · have old : ∀ q ∈ (cm, om) :: T, ∃ o, Heap.get? _ q.1 = some o := fun q hq => ⟨_, (N2 q (by
          rcases List.mem_cons.mp hq with rfl | hq
          · exact .tail _ (.tail _ (.tail _ (.head _)))
          · exact .tail _ (.tail _ (.tail _ (.tail _ (hR ▸ List.mem_append_right _ hq)))))).1⟩
        intro p hp q hq e
        obtain ⟨o, ho⟩ := old q hq
        rcases List.mem_cons.mp hp with rfl | hp
        · rw [← e, f1] at ho; cases ho
        rcases List.mem_cons.mp hp with rfl | hp
        · rw [← e, f2] at ho; cases ho
        · exact hap p hp q hq e)
end
end
section
local macro_rules | `(tactic| walk_at "eval ListComp") => `(tactic| (refine Stopped.h ?_))
section
open LC
variable {m : Str → Option Value} {s : Shared} {Q : Flow → Shared → Prop} {T : List (Addr × Obj)}
theorem lawf1 {a1 : Addr} {oc : Obj} {v1 : List Value} {k1 : Nat} {ns : List Str} {st : Int} {tst : Tok} {v₀ : Option Value} (hst : st = 1 ∨ st = -1) (B : Below callerA base [] h₀) (F : Fr h₀ L s.heap m) (X : (Mine.hd.heap_1 w.params).In h₀) (XB : KBIn w h₀) (TG : Top topProg LSG mean mg mb h₀) (N : News h₀ L s.heap ((co, oc) :: T)) (hoc : oc.data = .cell v₀) (t1 : ∀ p ∈ T, p.1 ≠ co)
    (hm : m (Str.ofString "second") = some (.ref a1)) (hm2 : m (Str.ofString "step") = some (.int st tst)) (ha : (a1, lobj v1 k1) ∈ T) (hs : StrsAre v1 ns) (hz : ns.length ≤ 100) (hsh : ∀ x ∈ ns, Short x)
    (hret : ∀ D KL ys oc' h' tk', Fr h₀ L h' m → News h₀ L h' ((D, LCg.lst ys) :: (co, oc') :: (KL ++ T)) → oc'.data = .cell (some (.ref D)) → RowsIn ys ((turned st ns).map lnNames) KL → Apart KL ((co, oc) :: T) → LCg.Off1 D (KL ++ (co, oc) :: T) → Q .next { s with heap := h', toks := tk' }) :
    wpAny (model PySem.Challenge.rw_ik0192_01.prog w) (lawA w.params gd L fa cd cm cr co cb) (exec (lawFS w.params 1) (lenv w.params L fa cd cm cr co cb)) Q E s := by
  revert X
  k_fill
  intro X
  have hb := (show lawFS w.params 1 = lawFS w.params 1 from rfl)
  conv at hb => rhs; whnf
  have hsc := (show lawScope w.params = lawScope w.params from rfl)
  conv at hsc => rhs; whnf
  rw [hb, lenv, lawA, hsc]
  clear hb hsc
  have key : ∃ w2 : List Value, slicePick v1.toArray none none (some st) = w2.toArray ∧ StrsAre w2 (turned st ns) := by
    rcases hst with rfl | rfl
    · exact ⟨v1, pick_st1 _, hs⟩
    · exact ⟨v1.reverse, krv_pick _, strs_rev hs⟩
  refine hidG fun G_ hG_ => ?_
  obtain ⟨w2, hw2, hw⟩ := key
  refine hG_ ?_
  clear hG_
  have hz2 : (turned st ns).length ≤ 100 := by unfold turned; split <;> simp [hz]
  have hsh2 : ∀ x ∈ turned st ns, Short x := by unfold turned; split <;> simpa using hsh
  generalize turned st ns = ns2 at hret hw hz2 hsh2
  have hl1 : s.heap.IsList a1 v1.toArray := N.isList (.tail _ ha)
  k_steps
  refine ⟨?_⟩
  refine LCg.ListComp_U (F₀ := F) (by with_unfolding_all rfl) (by decide) (by rfl) (by decide) (by rfl) ?_
  rcases hst with rfl | rfl
  all_goals (
    k_steps
    rename Fr _ _ _ _ => F1
    rename News _ _ _ _ => N1
    rw [hw2] at N1
    obtain ⟨a2, ha2⟩ : ∃ a2, a2 = s.heap.objs.size + 1 := ⟨_, rfl⟩
    rw [← ha2] at N1 ⊢
    obtain ⟨src, hsrc⟩ : ∃ src : Obj, src = { cls := .type "list", data := .seq w2.toArray } := ⟨_, rfl⟩
    rw [← hsrc] at N1
    refine LCg.CompSrc.ledger (its := w2.toArray) (k := 0) rfl F1 N1 (hsrc ▸ .head _) (by rw [List.size_toArray, hw.len_eq, sizeLine_eq]; omega) fun g => ?_
    refine rest_ind (fun q ys nw => ∃ KL, nw = KL ++ (a2, src) :: (co, oc) :: T ∧ RowsIn ys ((ns2.take q).map lnNames) KL ∧ Apart KL ((co, oc) :: T)) ⟨[], rfl, ⟨rfl, fun i k p e => by simp at e⟩, fun p hp => (nomatch hp)⟩ ?_ ?_
    · intro ys nw ip2_
      refine hidG fun G_ hG_ => ?_
      obtain ⟨KL, rfl, hk, hap⟩ := ip2_
      refine hG_ ?_
      clear hG_
      unfold LCg.FinE
      intro D h' tk' F' N' off
      rw [List.size_toArray, hw.len_eq, List.take_length] at hk
      obtain ⟨R, hR⟩ : ∃ R, R = KL ++ T := ⟨_, rfl⟩
      have N2 : News h₀ L h' ((D, LCg.lst ys) :: (co, oc) :: R) := fun p hp => N' p (by
        rw [hR] at hp
        simp only [List.mem_cons, List.mem_append] at hp ⊢
        rcases hp with hp | hp | hp | hp <;> simp [hp])
      have tR : ∀ p ∈ R, p.1 ≠ co := fun p hp => by
        rw [hR] at hp
        rcases List.mem_append.mp hp with hp | hp
        · exact hap p hp (co, oc) (.head _)
        · exact t1 p hp
      have nD : @Ne Nat D co := fun e => by
        have := off1_mem off (co, oc) (by simp)
        exact this e.symm
      have off' : LCg.Off1 D (KL ++ (co, oc) :: T) := off1_of fun p hp => off1_mem off p (by
        simp only [List.mem_cons, List.mem_append] at hp ⊢
        rcases hp with hp | hp | hp <;> simp [hp])
      clear N N' F F1 N1
      k_steps
      rename Fr _ _ _ _ => F5
      rename News _ _ _ _ => N5
      rw [hR] at N5
      exact hret D KL ys _ _ _ F5 N5 (by assumption) hk hap off'
    · intro q ys nw v I oI C oC D m₂ h tk E' hq ip14_ hv hC hx F2 N3 off ne
      refine hidG fun G_ hG_ => ?_
      obtain ⟨KL, rfl, hk, hap⟩ := ip14_
      refine hG_ ?_
      clear hG_
      refine hidG fun G_ hG_ => ?_
      obtain ⟨c, tc, rfl, hc⟩ := hw.item q v (by simpa using hv)
      refine hG_ ?_
      clear hG_
      obtain ⟨R, hR⟩ : ∃ R, R = (a2, src) :: KL ++ T := ⟨_, rfl⟩
      have N2 : News h₀ L h ((I, oI) :: (C, oC) :: (D, LCg.lst ys) :: (co, oc) :: R) := fun p hp => N3 p (by
        rw [hR] at hp
        simp only [List.mem_cons, List.mem_append] at hp ⊢
        rcases hp with hp | hp | hp | hp | (hp | hp) | hp <;> simp [hp])
      clear F N N1 F1 N3
      k_steps
      refine ⟨?_⟩
      rename Fr _ _ _ _ => F2
      rename News _ _ _ _ => N2
      refine spec_new (P := fun o => ∃ vs n, o = lobj vs n ∧ StrsAre vs (lnNames c)) (lawnames0 w c _ (hsh2 c (List.mem_of_getElem? hc))) B F2 X XB N2 TG rfl (Nat.le_of_ble_eq_true rfl) (Nat.le_of_ble_eq_true rfl) trivial ?_
      intro b o h9 tk9 F9 N9 x9 off9 ip8_
      refine hidG fun G_ hG_ => ?_
      obtain ⟨vs, n, rfl, hvs⟩ := ip8_
      refine hG_ ?_
      clear hG_
      have offm := off1_mem off9
      try dsimp only
      try k_fold
      have N10 : News h₀ L h9 ((I, oI) :: (C, oC) :: (D, LCg.lst ys) :: (((b, lobj vs n) :: KL) ++ (a2, src) :: (co, oc) :: T)) := fun p hp => N9 p (by
        rw [hR]
        simp only [List.cons_append, List.mem_cons, List.mem_append] at hp ⊢
        rcases hp with hp | hp | hp | hp | hp | hp | hp | hp <;> simp [hp])
      refine LCg.CompEnd.intro F9 N10 _ (fun p hp => hp) ⟨⟨fun e => offm (I, oI) (.head _) e.symm, fun e => offm (C, oC) (.tail _ (.head _)) e.symm, fun e => offm (D, _) (.tail _ (.tail _ (.head _))) e.symm⟩, off⟩ (.inr ⟨src, by simp, by rw [hsrc], 0, by rw [hsrc]⟩) ⟨_, rfl, ?_, ?_⟩
      · rw [take_snoc hc, List.map_append]
        exact hk.snoc (fun q hq => .tail _ hq) (.head _) hvs
      · intro p hp q hq e
        rcases List.mem_cons.mp hp with rfl | hp
        · refine offm q ?_ e.symm
          rw [hR]
          rcases List.mem_cons.mp hq with rfl | hq <;> simp [*]
        · exact hap p hp q hq e)
end
end
section
local macro_rules | `(tactic| walk_at "ZZ") => `(tactic| skip)
local macro_rules | `(tactic| k_mem) => `(tactic| with_reducible assumption)
local macro_rules | `(tactic| walk_at "exec Assign cons ListComp") => `(tactic| (refine Stopped.h ?_))
section
open LC
variable {m : Str → Option Value} {s : Shared} {Q : Flow → Shared → Prop} {T : List (Addr × Obj)}
theorem lawf2 {ra : Addr} {oc : Obj} {ys : List Value} {n : Nat} {rs : List (List Str)} (B : Below callerA base [] h₀) (F : Fr h₀ L s.heap m) (X : (Mine.hd.heap_1 w.params).In h₀) (XB : KBIn w h₀) (TG : Top topProg LSG mean mg mb h₀) (N : News h₀ L s.heap ((co, oc) :: T)) (hoc : oc.data = .cell (some (.ref ra))) (ha : (ra, lobj ys n) ∈ T) (hr : RowsIn ys rs T) (hz : rs.length ≤ 100) (hrr : ∀ r ∈ rs, r.length ≤ 100) (hok : ∀ r ∈ rs, OkS r)
    (hret : ∀ D vs k h' tk', Fr h₀ L h' (fun y => if y = Str.ofString "left" then some (.ref D) else m y) → News h₀ L h' ((D, lobj vs k) :: (co, oc) :: T) → IdxAre vs (keptN rs rs.length) → LCg.Off1 D ((co, oc) :: T) → Q .next { s with heap := h', toks := tk' }) :
    wpAny (model PySem.Challenge.rw_ik0192_01.prog w) (lawA w.params gd L fa cd cm cr co cb) (exec (lawFS w.params 2) (lenv w.params L fa cd cm cr co cb)) Q E s := by
  revert X
  k_fill
  intro X
  have hb := (show lawFS w.params 2 = lawFS w.params 2 from rfl)
  conv at hb => rhs; whnf
  have hsc := (show lawScope w.params = lawScope w.params from rfl)
  conv at hsc => rhs; whnf
  rw [hb, lenv, lawA, hsc]
  clear hb hsc
  k_steps
  refine ⟨?_⟩
  have hT : News h₀ L s.heap T := fun p hp => N p (.tail _ hp)
  refine spec_new (P := fun o => ∃ vs n, o = lobj vs n ∧ IdxAre vs (keptN rs rs.length)) (lawkept0 w ra rs hz hrr hok) B F X XB N TG rfl (Nat.le_of_ble_eq_true rfl) (Nat.le_of_ble_eq_true rfl) ⟨ys, n, (hT _ ha).1, hr.at hT⟩ ?_
  intro D o h9 tk9 F9 N9 x9 off9 ip8_
  refine hidG fun G_ hG_ => ?_
  obtain ⟨vs, k, rfl, hv⟩ := ip8_
  refine hG_ ?_
  clear hG_
  clear F N
  k_steps
  rename Fr _ _ _ _ => F5
  rename News _ _ _ _ => N5
  exact hret D vs k _ _ F5 N5 hv off9
theorem lawf3 {ka pa la cmK a : Addr} {ks : List Addr} {n1 n2 : Nat} {ps : List Value} {idx : List Nat} {dom : List Str} {nb : Str → List Str} {pl : Addr → Str} (B : Below callerA base [] h₀) (F : Fr h₀ L s.heap m) (X : (Mine.hd.heap_1 w.params).In h₀) (XB : KBIn w h₀) (TG : Top topProg LSG mean mg mb h₀) (N : News h₀ L s.heap T)
    (hm1 : m (Str.ofString "behind") = some (.ref ka)) (hm2 : m (Str.ofString "left") = some (.ref pa)) (h1 : (ka, lobj (refs ks) n1) ∈ T) (h2 : (pa, lobj ps n2) ∈ T) (hidx : IdxAre ps idx) (hz : ks.length ≤ 50) (hlt : ∀ i ∈ idx, i < ks.length) (hzi : idx.length ≤ 100)
    (hP : ∀ g, Kept h₀ T g → KP w a cmK la cb dom nb ks pl g) (hpl : ∀ k ∈ ks, pl k ∈ dom) (hself : ∀ p ∈ dom, p ∈ nb p) (hvery : dedupK (eqvOf nb pl) ks = idx.map fun i => ks.getD i 0)
    (hret : ∀ h' tk', Fr h₀ L h' m → News h₀ L h' T → Q .next { s with heap := h', toks := tk' }) :
    wpAny (model PySem.Challenge.rw_ik0192_01.prog w) (lawA w.params gd L fa cd cm cr co cb) (exec (lawFS w.params 3) (lenv w.params L fa cd cm cr co cb)) Q E s := by
  revert X
  k_fill
  intro X
  have hb := (show lawFS w.params 3 = lawFS w.params 3 from rfl)
  conv at hb => rhs; whnf
  have hsc := (show lawScope w.params = lawScope w.params from rfl)
  conv at hsc => rhs; whnf
  rw [hb, lenv, lawA, hsc]
  clear hb hsc
  k_steps
  refine ⟨?_⟩
  have hk : KP w a cmK la cb dom nb ks pl s.heap := hP _ ⟨F.keep, fun p hp => (N p hp).1⟩
  refine spec_new (P := fun o => ∃ n, o = lobj (refs (dedupK (eqvOf nb pl) ks)) n) (dedup0 w ka ks (by omega) _ (eqvOf nb pl) (keysK w a cmK la cb dom nb ks pl hpl hself)) B F X XB N TG rfl (Nat.le_of_ble_eq_true rfl) (Nat.le_of_ble_eq_true rfl) ⟨⟨_, (N _ h1).1⟩, hk⟩ ?_
  intro D o h9 tk9 F9 N9 x9 off9 ip8_
  refine hidG fun G_ hG_ => ?_
  obtain ⟨k, rfl⟩ := ip8_
  refine hG_ ?_
  clear hG_
  have hk9 : KP w a cmK la cb dom nb ks pl h9 := hk.up x9
  have ntk : ∀ x ∈ ks, NotTup h9 x := fun x hx => by
    refine hidG fun G_ hG_ => ?_
    obtain ⟨dx, tp, q1, q2⟩ := hk9.key x hx
    refine hG_ ?_
    clear hG_
    exact ⟨_, q1, fun e => by cases e⟩
  clear F N
  k_steps
  refine ⟨?_⟩
  have hN9 := N9
  refine spec_val (lawvery0 w D ka pa (dedupK (eqvOf nb pl) ks) ks idx (by have := dedup_len (eqv := eqvOf nb pl) ks; omega) (by omega) hzi hlt) B F9 X XB hN9 TG rfl (Nat.le_of_ble_eq_true rfl) (Nat.le_of_ble_eq_true rfl) ⟨⟨_, (hN9 _ (.head _)).1⟩, ⟨_, (hN9 _ (.tail _ h1)).1⟩, ⟨ps, _, (hN9 _ (.tail _ h2)).1, hidx⟩, fun x hx => ntk x (dedup_sub x hx), ntk⟩ ?_
  rintro r h8 tk8 F8 N8 x8 rfl
  rw [decide_eq_true hvery]
  clear hN9
  k_steps
  rename Fr _ _ _ _ => F5
  rename News _ _ _ _ => N5
  exact hret _ _ F5 fun p hp => N5 p (.tail _ hp)
theorem lawf4 {ra pa : Addr} {oc : Obj} {ys ps : List Value} {n n2 : Nat} {rs : List (List Str)} {idx : List Nat} (B : Below callerA base [] h₀) (F : Fr h₀ L s.heap m) (X : (Mine.hd.heap_1 w.params).In h₀) (XB : KBIn w h₀) (TG : Top topProg LSG mean mg mb h₀) (N : News h₀ L s.heap ((cr, oc) :: T)) (hoc : oc.data = .cell (some (.ref ra))) (ha : (ra, lobj ys n) ∈ T) (hr : RowsIn ys rs T) (hz : rs.length ≤ 100)
    (hm : m (Str.ofString "kept") = some (.ref pa)) (hp : (pa, lobj ps n2) ∈ T) (hidx : IdxAre ps idx) (hzi : idx.length ≤ 100) (hlt : ∀ i ∈ idx, i < rs.length)
    (hret : ∀ D zs h' tk', Fr h₀ L h' (fun y => if y = Str.ofString "here" then some (.ref D) else m y) → News h₀ L h' ((D, LCg.lst zs) :: (cr, oc) :: T) → RowsIn zs (idx.map fun i => rs.getD i []) T → LCg.Off1 D ((cr, oc) :: T) → Q .next { s with heap := h', toks := tk' }) :
    wpAny (model PySem.Challenge.rw_ik0192_01.prog w) (lawA w.params gd L fa cd cm cr co cb) (exec (lawFS w.params 4) (lenv w.params L fa cd cm cr co cb)) Q E s := by
  revert X
  k_fill
  intro X
  have hb := (show lawFS w.params 4 = lawFS w.params 4 from rfl)
  conv at hb => rhs; whnf
  have hsc := (show lawScope w.params = lawScope w.params from rfl)
  conv at hsc => rhs; whnf
  rw [hb, lenv, lawA, hsc]
  clear hb hsc
  have hzy : ys.length ≤ 100000 := by rw [hr.1]; omega
  refine LCg.Assign_ListComp_U (F₀ := F) (by rfl) (by with_unfolding_all rfl) (by with_unfolding_all rfl) (by decide) (by rfl) (by decide) (by rfl) (by rfl) (by rfl) ?_
  k_steps
  refine LCg.CompSrc.ledger (its := ps.toArray) rfl F N (.tail _ hp) (by rw [List.size_toArray, hidx.1, sizeLine_eq]; omega) fun g => ?_
  refine rest_ind (fun q zs nw => nw = (cr, oc) :: T ∧ RowsIn zs ((idx.take q).map fun i => rs.getD i []) T) ⟨rfl, rfl, fun i k p e => by simp at e⟩ ?_ ?_
  · intro zs nw ip2_
    refine hidG fun G_ hG_ => ?_
    obtain ⟨rfl, hk⟩ := ip2_
    refine hG_ ?_
    clear hG_
    unfold LCg.FinA
    intro D h' tk' F' N' off
    rw [List.size_toArray, hidx.1, List.take_length] at hk
    exact hret D zs h' tk' F' N' hk off
  · intro q zs nw v I oI C oC D m₂ h tk E' hq ip14_ hv hC hx F1 N1 off ne
    refine hidG fun G_ hG_ => ?_
    obtain ⟨rfl, hk⟩ := ip14_
    refine hG_ ?_
    clear hG_
    have hv' : ps[q]? = some v := by simpa using hv
    have hql : q < idx.length := by rw [← hidx.1]; exact (List.getElem?_eq_some_iff.mp hv').1
    have hq2 : idx[q]? = some idx[q] := List.getElem?_eq_getElem hql
    obtain ⟨t, rfl⟩ := hidx.2 q v _ hv' hq2
    have hil : idx[q] < rs.length := hlt _ (List.getElem_mem hql)
    have hyl : idx[q] < ys.length := by rw [hr.1]; exact hil
    obtain ⟨rv, hrv⟩ : ∃ rv, ys[idx[q]]? = some rv := ⟨_, List.getElem?_eq_getElem hyl⟩
    refine hidG fun G_ hG_ => ?_
    obtain ⟨a, vs, n3, rfl, hm3, hst⟩ := hr.2 _ _ _ hrv (List.getElem?_eq_getElem hil)
    refine hG_ ?_
    clear hG_
    have hls : h.IsList ra ys.toArray := N1.isList (.tail _ (.tail _ (.tail _ (.tail _ ha))))
    clear F N
    k_steps
    rename Fr _ _ _ _ => F2
    rename News _ _ _ _ => N2
    try dsimp only
    try k_fold
    refine LCg.CompEnd.intro F2 N2 ((cr, oc) :: T) (fun p hp => hp) off (.inr ⟨_, .tail _ hp, rfl, _, rfl⟩) ⟨rfl, ?_⟩
    rw [take_snoc hq2, List.map_append]
    refine RowsIn.snoc (a := a) (vs := vs) (n := n3) hk (fun q hq => hq) hm3 ?_
    show StrsAre vs (rs.getD idx[q] [])
    rw [List.getD_eq_getElem?_getD, List.getElem?_eq_getElem hil]
    exact hst
theorem lawf5 {ra pa : Addr} {oc : Obj} {ys ps : List Value} {n n2 : Nat} {rs : List (List Str)} {idx : List Nat} (B : Below callerA base [] h₀) (F : Fr h₀ L s.heap m) (X : (Mine.hd.heap_1 w.params).In h₀) (XB : KBIn w h₀) (TG : Top topProg LSG mean mg mb h₀) (N : News h₀ L s.heap ((co, oc) :: T)) (hoc : oc.data = .cell (some (.ref ra))) (ha : (ra, lobj ys n) ∈ T) (hr : RowsIn ys rs T) (hz : rs.length ≤ 100)
    (hm : m (Str.ofString "left") = some (.ref pa)) (hp : (pa, lobj ps n2) ∈ T) (hidx : IdxAre ps idx) (hzi : idx.length ≤ 100) (hlt : ∀ i ∈ idx, i < rs.length)
    (hret : ∀ D zs h' tk', Fr h₀ L h' (fun y => if y = Str.ofString "there" then some (.ref D) else m y) → News h₀ L h' ((D, LCg.lst zs) :: (co, oc) :: T) → RowsIn zs (idx.map fun i => rs.getD i []) T → LCg.Off1 D ((co, oc) :: T) → Q .next { s with heap := h', toks := tk' }) :
    wpAny (model PySem.Challenge.rw_ik0192_01.prog w) (lawA w.params gd L fa cd cm cr co cb) (exec (lawFS w.params 5) (lenv w.params L fa cd cm cr co cb)) Q E s := by
  revert X
  k_fill
  intro X
  have hb := (show lawFS w.params 5 = lawFS w.params 5 from rfl)
  conv at hb => rhs; whnf
  have hsc := (show lawScope w.params = lawScope w.params from rfl)
  conv at hsc => rhs; whnf
  rw [hb, lenv, lawA, hsc]
  clear hb hsc
  have hzy : ys.length ≤ 100000 := by rw [hr.1]; omega
  refine LCg.Assign_ListComp_U (F₀ := F) (by rfl) (by with_unfolding_all rfl) (by with_unfolding_all rfl) (by decide) (by rfl) (by decide) (by rfl) (by rfl) (by rfl) ?_
  k_steps
  refine LCg.CompSrc.ledger (its := ps.toArray) rfl F N (.tail _ hp) (by rw [List.size_toArray, hidx.1, sizeLine_eq]; omega) fun g => ?_
  refine rest_ind (fun q zs nw => nw = (co, oc) :: T ∧ RowsIn zs ((idx.take q).map fun i => rs.getD i []) T) ⟨rfl, rfl, fun i k p e => by simp at e⟩ ?_ ?_
  · intro zs nw ip2_
    refine hidG fun G_ hG_ => ?_
    obtain ⟨rfl, hk⟩ := ip2_
    refine hG_ ?_
    clear hG_
    unfold LCg.FinA
    intro D h' tk' F' N' off
    rw [List.size_toArray, hidx.1, List.take_length] at hk
    exact hret D zs h' tk' F' N' hk off
  · intro q zs nw v I oI C oC D m₂ h tk E' hq ip14_ hv hC hx F1 N1 off ne
    refine hidG fun G_ hG_ => ?_
    obtain ⟨rfl, hk⟩ := ip14_
    refine hG_ ?_
    clear hG_
    have hv' : ps[q]? = some v := by simpa using hv
    have hql : q < idx.length := by rw [← hidx.1]; exact (List.getElem?_eq_some_iff.mp hv').1
    have hq2 : idx[q]? = some idx[q] := List.getElem?_eq_getElem hql
    obtain ⟨t, rfl⟩ := hidx.2 q v _ hv' hq2
    have hil : idx[q] < rs.length := hlt _ (List.getElem_mem hql)
    have hyl : idx[q] < ys.length := by rw [hr.1]; exact hil
    obtain ⟨rv, hrv⟩ : ∃ rv, ys[idx[q]]? = some rv := ⟨_, List.getElem?_eq_getElem hyl⟩
    refine hidG fun G_ hG_ => ?_
    obtain ⟨a, vs, n3, rfl, hm3, hst⟩ := hr.2 _ _ _ hrv (List.getElem?_eq_getElem hil)
    refine hG_ ?_
    clear hG_
    have hls : h.IsList ra ys.toArray := N1.isList (.tail _ (.tail _ (.tail _ (.tail _ ha))))
    clear F N
    k_steps
    rename Fr _ _ _ _ => F2
    rename News _ _ _ _ => N2
    try dsimp only
    try k_fold
    refine LCg.CompEnd.intro F2 N2 ((co, oc) :: T) (fun p hp => hp) off (.inr ⟨_, .tail _ hp, rfl, _, rfl⟩) ⟨rfl, ?_⟩
    rw [take_snoc hq2, List.map_append]
    refine RowsIn.snoc (a := a) (vs := vs) (n := n3) hk (fun q hq => hq) hm3 ?_
    show StrsAre vs (rs.getD idx[q] [])
    rw [List.getD_eq_getElem?_getD, List.getElem?_eq_getElem hil]
    exact hst
end
end
section
local macro_rules | `(tactic| k_mem) => `(tactic| with_reducible assumption)
section
open LC
variable {m : Str → Option Value} {s : Shared} {Q : Flow → Shared → Prop} {T : List (Addr × Obj)}
theorem lawf6 {ra oa : Addr} {ys zs : List Value} {n n2 : Nat} {rs os : List (List Str)} (B : Below callerA base [] h₀) (F : Fr h₀ L s.heap m) (X : (Mine.hd.heap_1 w.params).In h₀) (XB : KBIn w h₀) (TG : Top topProg LSG mean mg mb h₀) (N : News h₀ L s.heap T) (hm1 : m (Str.ofString "here") = some (.ref ra)) (hm2 : m (Str.ofString "there") = some (.ref oa))
    (h1 : (ra, lobj ys n) ∈ T) (h2 : (oa, lobj zs n2) ∈ T) (hr : RowsIn ys rs T) (ho : RowsIn zs os T) (hz1 : rs.length ≤ 100) (hz2 : os.length ≤ 100) (hr1 : ∀ r ∈ rs, r.length ≤ 100) (hr2 : ∀ r ∈ os, r.length ≤ 100) (hk1 : ∀ r ∈ rs, OkS r) (hk2 : ∀ r ∈ os, OkS r)
    (hret : ∀ h' tk', Fr h₀ L h' (fun y => if y = Str.ofString "alike" then some (.bool (aloneB rs os && aloneB os rs)) else m y) → News h₀ L h' T → Q .next { s with heap := h', toks := tk' }) :
    wpAny (model PySem.Challenge.rw_ik0192_01.prog w) (lawA w.params gd L fa cd cm cr co cb) (exec (lawFS w.params 6) (lenv w.params L fa cd cm cr co cb)) Q E s := by
  revert X
  k_fill
  intro X
  have hb := (show lawFS w.params 6 = lawFS w.params 6 from rfl)
  conv at hb => rhs; whnf
  have hsc := (show lawScope w.params = lawScope w.params from rfl)
  conv at hsc => rhs; whnf
  rw [hb, lenv, lawA, hsc]
  clear hb hsc
  k_steps
  refine ⟨?_⟩
  rename Fr _ _ _ _ => F1
  rename News _ _ _ _ => N1
  refine spec_val (lawalone0 w ra oa rs os hz1 hz2 hr1 hr2 hk1 hk2) B F1 X XB N1 TG rfl (Nat.le_of_ble_eq_true rfl) (Nat.le_of_ble_eq_true rfl) ⟨⟨ys, n, (N1 _ h1).1, hr.at N1⟩, zs, n2, (N1 _ h2).1, ho.at N1⟩ ?_
  rintro r h9 tk9 F9 N9 x9 rfl
  cases hb : aloneB rs os with
  | false =>
    rw [hb, Bool.false_and] at hret
    k_steps
    rename Fr _ _ _ _ => F5
    rename News _ _ _ _ => N5
    exact hret _ _ F5 N5
  | true =>
    rw [hb, Bool.true_and] at hret
    k_steps
    refine ⟨?_⟩
    rename Fr _ _ _ _ => F2
    rename News _ _ _ _ => N2
    refine spec_val (lawalone0 w oa ra os rs hz2 hz1 hr2 hr1 hk2 hk1) B F2 X XB N2 TG rfl (Nat.le_of_ble_eq_true rfl) (Nat.le_of_ble_eq_true rfl) ⟨⟨zs, n2, (N2 _ h2).1, ho.at N2⟩, ys, n, (N2 _ h1).1, hr.at N2⟩ ?_
    rintro r h8 tk8 F8 N8 x8 rfl
    k_steps
    rename Fr _ _ _ _ => F5
    rename News _ _ _ _ => N5
    exact hret _ _ F5 N5
theorem lawf7 {xa ya la cmK a : Addr} {fs ss ks : List Addr} {n1 n2 : Nat} {dom : List Str} {nb : Str → List Str} {pl : Addr → Str} {al : Bool} (B : Below callerA base [] h₀) (F : Fr h₀ L s.heap m) (X : (Mine.hd.heap_1 w.params).In h₀) (XB : KBIn w h₀) (TG : Top topProg LSG mean mg mb h₀) (N : News h₀ L s.heap T)
    (hm1 : m (Str.ofString "ahead") = some (.ref xa)) (hm2 : m (Str.ofString "behind") = some (.ref ya)) (hm3 : m (Str.ofString "alike") = some (.bool al)) (h1 : (xa, lobj (refs fs) n1) ∈ T) (h2 : (ya, lobj (refs ss) n2) ∈ T) (hz1 : fs.length ≤ 50) (hz2 : ss.length ≤ 50)
    (hfk : ∀ x ∈ fs, x ∈ ks) (hsk : ∀ x ∈ ss, x ∈ ks) (hP : ∀ g, Kept h₀ T g → KP w a cmK la cb dom nb ks pl g) (hpl : ∀ k ∈ ks, pl k ∈ dom) (hself : ∀ p ∈ dom, p ∈ nb p)
    (hal : decide (remAll (eqvOf nb pl) (dedupK (eqvOf nb pl) ss) (dedupK (eqvOf nb pl) fs) = some []) = al)
    (hret : ∀ h' tk', Fr h₀ L h' m → News h₀ L h' T → Q .next { s with heap := h', toks := tk' }) :
    wpAny (model PySem.Challenge.rw_ik0192_01.prog w) (lawA w.params gd L fa cd cm cr co cb) (exec (lawFS w.params 7) (lenv w.params L fa cd cm cr co cb)) Q E s := by
  revert X
  k_fill
  intro X
  have hb := (show lawFS w.params 7 = lawFS w.params 7 from rfl)
  conv at hb => rhs; whnf
  have hsc := (show lawScope w.params = lawScope w.params from rfl)
  conv at hsc => rhs; whnf
  rw [hb, lenv, lawA, hsc]
  clear hb hsc
  k_steps
  refine ⟨?_⟩
  rename Fr _ _ _ _ => F1
  rename News _ _ _ _ => N1
  have hk : KP w a cmK la cb dom nb ks pl _ := hP _ ⟨F1.keep, fun p hp => (N1 p hp).1⟩
  refine wpAny_weak (cmp0 w xa ya fs ss hz1 hz2 _ (eqvOf nb pl) ks (keysK w a cmK la cb dom nb ks pl hpl hself) hfk hsk gd _ _ _ _ _ callerA base h₀ L m _ mean mg mb _ _ B F1 X XB TG rfl ⟨⟨_, (N1 _ h1).1⟩, ⟨_, (N1 _ h2).1⟩, hk⟩ ?_) rfl (Nat.le_of_ble_eq_true rfl) (Nat.le_of_ble_eq_true rfl) (fun _ e => e) (fun _ e => e)
  intro h9 tk9 keep hns
  have F9 : Fr h₀ L h9 m := ⟨hns, fun b o e => keep b o (fun q => by
    have := Heap.lt_size e
    rw [q] at this
    exact absurd this (Nat.not_lt.mpr F1.above)) (F1.keep b o e), F1.above⟩
  have N9 : News h₀ L h9 T := fun p hp => ⟨keep _ _ (N1 p hp).2.1 (N1 p hp).1, (N1 p hp).2⟩
  rw [hal]
  clear F1 N1
  cases al
  all_goals (
    k_steps
    rename Fr _ _ _ _ => F5
    rename News _ _ _ _ => N5
    exact hret _ _ F5 N5)
theorem lawf8 {xa ya la cmK a : Addr} {fs ss ks : List Addr} {n1 n2 : Nat} {dom : List Str} {nb : Str → List Str} {pl : Addr → Str} {al : Bool} (B : Below callerA base [] h₀) (F : Fr h₀ L s.heap m) (X : (Mine.hd.heap_1 w.params).In h₀) (XB : KBIn w h₀) (TG : Top topProg LSG mean mg mb h₀) (N : News h₀ L s.heap T)
    (hm1 : m (Str.ofString "ahead") = some (.ref xa)) (hm2 : m (Str.ofString "behind") = some (.ref ya)) (hm3 : m (Str.ofString "alike") = some (.bool al)) (h1 : (xa, lobj (refs ss) n1) ∈ T) (h2 : (ya, lobj (refs fs) n2) ∈ T) (hz1 : fs.length ≤ 50) (hz2 : ss.length ≤ 50)
    (hfk : ∀ x ∈ fs, x ∈ ks) (hsk : ∀ x ∈ ss, x ∈ ks) (hP : ∀ g, Kept h₀ T g → KP w a cmK la cb dom nb ks pl g) (hpl : ∀ k ∈ ks, pl k ∈ dom) (hself : ∀ p ∈ dom, p ∈ nb p)
    (hal : decide (remAll (eqvOf nb pl) (dedupK (eqvOf nb pl) ss) (dedupK (eqvOf nb pl) fs) = some []) = al)
    (hret : ∀ h' tk', Fr h₀ L h' m → News h₀ L h' T → Q .next { s with heap := h', toks := tk' }) :
    wpAny (model PySem.Challenge.rw_ik0192_01.prog w) (lawA w.params gd L fa cd cm cr co cb) (exec (lawFS w.params 8) (lenv w.params L fa cd cm cr co cb)) Q E s := by
  revert X
  k_fill
  intro X
  have hb := (show lawFS w.params 8 = lawFS w.params 8 from rfl)
  conv at hb => rhs; whnf
  have hsc := (show lawScope w.params = lawScope w.params from rfl)
  conv at hsc => rhs; whnf
  rw [hb, lenv, lawA, hsc]
  clear hb hsc
  k_steps
  refine ⟨?_⟩
  rename Fr _ _ _ _ => F1
  rename News _ _ _ _ => N1
  have hk : KP w a cmK la cb dom nb ks pl _ := hP _ ⟨F1.keep, fun p hp => (N1 p hp).1⟩
  refine wpAny_weak (cmp0 w ya xa fs ss hz1 hz2 _ (eqvOf nb pl) ks (keysK w a cmK la cb dom nb ks pl hpl hself) hfk hsk gd _ _ _ _ _ callerA base h₀ L m _ mean mg mb _ _ B F1 X XB TG rfl ⟨⟨_, (N1 _ h2).1⟩, ⟨_, (N1 _ h1).1⟩, hk⟩ ?_) rfl (Nat.le_of_ble_eq_true rfl) (Nat.le_of_ble_eq_true rfl) (fun _ e => e) (fun _ e => e)
  intro h9 tk9 keep hns
  have F9 : Fr h₀ L h9 m := ⟨hns, fun b o e => keep b o (fun q => by
    have := Heap.lt_size e
    rw [q] at this
    exact absurd this (Nat.not_lt.mpr F1.above)) (F1.keep b o e), F1.above⟩
  have N9 : News h₀ L h9 T := fun p hp => ⟨keep _ _ (N1 p hp).2.1 (N1 p hp).1, (N1 p hp).2⟩
  rw [hal]
  clear F1 N1
  cases al
  all_goals (
    k_steps
    rename Fr _ _ _ _ => F5
    rename News _ _ _ _ => N5
    exact hret _ _ F5 N5)
end
end
section
section
variable {M : Model} {A : Around} {E : Value → Shared → Prop} {env : Env} {Q : Flow → Shared → Prop} {s : Shared}
theorem ex_cons {st : Stmt} {r : List Stmt} (h : wpAny M A (exec st env) (fun f s₁ => match f with | .next => wpAny M A (execs r env) Q E s₁ | f => Q f s₁) E s) : wpAny M A (execs (st :: r) env) Q E s := by
  rw [execs_cons]
  refine wpAny_bind (wpAny_mono h (fun f s₁ h₁ => ?_) fun _ _ e => e)
  cases f with
  | next => exact h₁
  | _ => exact wpAny_pure h₁
theorem ex_nil (h : Q .next s) : wpAny M A (execs [] env) Q E s := wpAny_pure h
end
theorem news_sub {h₀ h : Heap} {L : Addr} {l l' : List (Addr × Obj)} (N : News h₀ L h l) (s : ∀ p ∈ l', p ∈ l) : News h₀ L h l' := fun p hp => N p (s p hp)
theorem plOf_ex (a : Addr) (g : Heap) : ∃ pl : Addr → Str, ∀ k p, KeyAt a k p g → pl k = p := by
  classical
  refine ⟨fun k => if h : ∃ p, KeyAt a k p g then Classical.choose h else Str.empty, fun k p hk => ?_⟩
  have h : ∃ p, KeyAt a k p g := ⟨p, hk⟩
  show (if h : ∃ p, KeyAt a k p g then Classical.choose h else Str.empty) = p
  rw [dif_pos h]
  obtain ⟨dx, tp, g1, _⟩ := Classical.choose_spec h
  obtain ⟨dx', tp', g1', _⟩ := hk
  rw [g1] at g1'
  have := Option.some.inj g1'
  have e := congrArg Obj.slots this
  simp at e
  exact e.1
theorem KeysIn.mono {a : Addr} {ks : List Addr} {ns : List Str} {KL KL' : List (Addr × Obj)} (x : KeysIn a ks ns KL) (h : ∀ q ∈ KL, q ∈ KL') : KeysIn a ks ns KL' := ⟨x.1, fun i k p e1 e2 => (x.2 i k p e1 e2).mono h⟩
theorem RowsIn.mono {ys : List Value} {rs : List (List Str)} {KL KL' : List (Addr × Obj)} (x : RowsIn ys rs KL) (h : ∀ q ∈ KL, q ∈ KL') : RowsIn ys rs KL' :=
  ⟨x.1, fun i v r e1 e2 => let ⟨a, vs, n, h1, h2, h3⟩ := x.2 i v r e1 e2; ⟨a, vs, n, h1, h _ h2, h3⟩⟩
theorem KeyIn.atK {a k : Addr} {p : Str} {KL : List (Addr × Obj)} {g : Heap} (x : KeyIn a k p KL) (h : ∀ q ∈ KL, g.get? q.1 = some q.2) : KeyAt a k p g := let ⟨dx, tp, h1, h2⟩ := x; ⟨dx, tp, h _ h1, h _ h2⟩
theorem keys_pl {a : Addr} {ks : List Addr} {ps : List Str} {T : List (Addr × Obj)} {h₀ g : Heap} (x : KeysIn a ks ps T) (hg : Kept h₀ T g) {pl : Addr → Str} (hpl : ∀ k p, KeyAt a k p g → pl k = p) :
    (∀ (i : Nat) k p, ks[i]? = some k → ps[i]? = some p → pl k = p) ∧ ∀ g', Kept h₀ T g' → ∀ k ∈ ks, KeyAt a k (pl k) g' := by
  have h1 : ∀ (i : Nat) k p, ks[i]? = some k → ps[i]? = some p → pl k = p := fun i k p e1 e2 => hpl k p ((x.2 i k p e1 e2).atK hg.2)
  refine ⟨h1, fun g' hg' k hk => ?_⟩
  obtain ⟨i, hi, rfl⟩ := List.getElem_of_mem hk
  have hi' : i < ps.length := x.1 ▸ hi
  have e1 := List.getElem?_eq_getElem hi
  have e2 := List.getElem?_eq_getElem hi'
  rw [h1 i _ _ e1 e2]
  exact (x.2 i _ _ e1 e2).atK hg'.2
theorem kept_mono {h₀ g : Heap} {T T' : List (Addr × Obj)} (h : Kept h₀ T g) (s : ∀ p ∈ T', p ∈ T) : Kept h₀ T' g := ⟨h.1, fun p hp => h.2 p (s p hp)⟩
theorem kept_of {h₀ h : Heap} {L : Addr} {m : Str → Option Value} {T : List (Addr × Obj)} (F : Fr h₀ L h m) (N : News h₀ L h T) : Kept h₀ T h := ⟨F.keep, fun p hp => (N p hp).1⟩
end
section
noncomputable def nearC (x y : Str) : Bool := [x, y].any (· == cpR x y)
noncomputable def appAt (bl : List (List Str)) (i : Nat) (x : Str) : List (List Str) := bl.set i (bl.getD i [] ++ [x])
noncomputable def pairStep (ns : List Str) (k : Nat) (bl : List (List Str)) (j : Nat) : List (List Str) :=
  if nearC (ns.getD k Str.empty) (ns.getD j Str.empty) then appAt (appAt bl k (ns.getD j Str.empty)) j (ns.getD k Str.empty) else bl
noncomputable def innerF (ns : List Str) (k q : Nat) (bl : List (List Str)) : List (List Str) := (List.range q).foldl (fun bl j => pairStep ns k bl (k + 1 + j)) bl
noncomputable def outerF (ns : List Str) (q : Nat) : List (List Str) := (List.range q).foldl (fun bl k => innerF ns k (ns.length - (k + 1)) bl) (ns.map fun p => [p])
theorem innerF_succ {ns : List Str} {k q : Nat} {bl : List (List Str)} : innerF ns k (q + 1) bl = pairStep ns k (innerF ns k q bl) (k + 1 + q) := by
  unfold innerF; rw [List.range_succ, List.foldl_append]; rfl
theorem outerF_succ {ns : List Str} {q : Nat} : outerF ns (q + 1) = innerF ns q (ns.length - (q + 1)) (outerF ns q) := by
  unfold outerF; rw [List.range_succ, List.foldl_append]; rfl
noncomputable def LenB (M : Nat) (bl : List (List Str)) : Prop := ∀ l ∈ bl, l.length ≤ M
theorem appAt_len {bl : List (List Str)} {i : Nat} {x : Str} : (appAt bl i x).length = bl.length := by unfold appAt; rw [List.length_set]
theorem appAt_B {M : Nat} {bl : List (List Str)} {i : Nat} {x : Str} (h : LenB M bl) : LenB (M + 1) (appAt bl i x) := by
  intro l hl
  unfold appAt at hl
  rcases List.mem_or_eq_of_mem_set hl with hl | rfl
  · exact Nat.le_succ_of_le (h l hl)
  · rw [List.length_append, List.length_singleton]
    refine Nat.succ_le_succ ?_
    rw [List.getD_eq_getElem?_getD]
    cases q : bl[i]? with
    | none => exact Nat.zero_le _
    | some l' => exact h l' (List.mem_of_getElem? q)
theorem pairStep_len {ns : List Str} {k j : Nat} {bl : List (List Str)} : (pairStep ns k bl j).length = bl.length := by
  unfold pairStep; split
  · rw [appAt_len, appAt_len]
  · rfl
theorem pairStep_B {M k j : Nat} {ns : List Str} {bl : List (List Str)} (h : LenB M bl) : LenB (M + 2) (pairStep ns k bl j) := by
  unfold pairStep; split
  · exact appAt_B (appAt_B h)
  · exact fun l hl => Nat.le_trans (h l hl) (by omega)
theorem innerF_len {ns : List Str} {k : Nat} {bl : List (List Str)} : ∀ q, (innerF ns k q bl).length = bl.length
  | 0 => rfl
  | q + 1 => by rw [innerF_succ, pairStep_len, innerF_len q]
theorem innerF_B {M k : Nat} {ns : List Str} {bl : List (List Str)} (h : LenB M bl) : ∀ q, LenB (M + 2 * q) (innerF ns k q bl)
  | 0 => h
  | q + 1 => by rw [innerF_succ]; exact pairStep_B (innerF_B h q)
theorem outerF_len {ns : List Str} : ∀ q, (outerF ns q).length = ns.length
  | 0 => by unfold outerF; simp
  | q + 1 => by rw [outerF_succ, innerF_len, outerF_len q]
theorem outerF_B {ns : List Str} : ∀ q, LenB (1 + 2 * ns.length * q) (outerF ns q)
  | 0 => by
    intro l hl
    unfold outerF at hl
    obtain ⟨p, _, rfl⟩ := List.mem_map.mp (by simpa using hl)
    simp
  | q + 1 => by
    intro l hl
    rw [outerF_succ] at hl
    have h1 := innerF_B (outerF_B q) (ns.length - (q + 1)) l hl
    have h2 : 2 * (ns.length - (q + 1)) ≤ 2 * ns.length := by omega
    have h3 : 2 * ns.length * (q + 1) = 2 * ns.length * q + 2 * ns.length := Nat.mul_succ _ _
    omega
structure CpOk (x y : Str) : Prop where
  hx : x.length ≤ 100
  hy : y.length ≤ 100
  hxl : (Txt.split x (Str.ofString "/")).length ≤ 1000
  hyl : (Txt.split y (Str.ofString "/")).length ≤ 1000
  hxs : Txt.startswith x (Str.ofString "/") = true
  hys : Txt.startswith y (Str.ofString "/") = true
  hidx : IdxOk (loN (cpNames x) (cpNames y)) (hiN (cpNames x) (cpNames y))
  hn1 : (loN (cpNames x) (cpNames y)).length ≤ 1000
  hn2 : (hiN (cpNames x) (cpNames y)).length ≤ 1000
  hjoin : tot (lcpL (loN (cpNames x) (cpNames y)) (hiN (cpNames x) (cpNames y))) ≤ 10000
theorem upd_pre {d : Addr} {o o' : Obj} : ∀ {pre l l' : List (Addr × Obj)}, (∀ p ∈ pre, p.1 ≠ d) → Upd d o o' l l' → Upd d o o' (pre ++ l) (pre ++ l')
  | [], _, _, _, U => U
  | p :: r, _, _, h, U => .tail (h p (.head _)) (upd_pre (fun q hq => h q (.tail _ hq)) U)
theorem upd_bl {T : List (Addr × Obj)} {v : List Value} {n : Nat} : ∀ {as : List Addr} {bs : List (List Value × Nat)} {i : Nat} {a : Addr} {b : List Value × Nat}, as.length = bs.length → as.Nodup → as[i]? = some a → bs[i]? = some b → (∀ p ∈ T, p.1 ≠ a) →
    Upd a (lobj b.1 b.2) (lobj v n) (BL as bs ++ T) (BL as (bs.set i (v, n)) ++ T)
  | [], _, _, _, _, _, _, h, _, _ => by simp at h
  | _ :: _, [], _, _, _, h, _, _, _, _ => by simp at h
  | x :: r, y :: t, 0, a, b, hl, hn, h1, h2, hT => by
    simp at h1 h2
    subst h1 h2
    refine .head fun p hp => ?_
    rcases List.mem_append.mp hp with hp | hp
    · intro e
      exact (List.nodup_cons.mp hn).1 (e ▸ bl_fst p hp)
    · exact hT p hp
  | x :: r, y :: t, i + 1, a, b, hl, hn, h1, h2, hT => by
    have h1' : r[i]? = some a := by simpa using h1
    refine .tail ?_ (upd_bl (as := r) (bs := t) (i := i) (by simpa using hl) (List.nodup_cons.mp hn).2 h1' (by simpa using h2) hT)
    intro e
    exact (List.nodup_cons.mp hn).1 (by have := List.mem_of_getElem? h1'; exact (show x = a from e) ▸ this)
theorem bs_set {bs : List (List Value × Nat)} {bl : List (List Str)} {i : Nat} {b : List Value × Nat} {l : List Str} (h : BsAre bs bl) (hb : StrsAre b.1 l) : BsAre (bs.set i b) (bl.set i l) := by
  refine ⟨by rw [List.length_set, List.length_set, h.1], fun j b' l' e1 e2 => ?_⟩
  rw [List.getElem?_set] at e1 e2
  by_cases hij : i = j
  · rw [if_pos hij] at e1 e2
    rw [h.1] at e1
    split at e1
    · next q => rw [if_pos q] at e2; cases e1; cases e2; exact hb
    · cases e1
  · rw [if_neg hij] at e1 e2
    exact h.2 j b' l' e1 e2
theorem bs_app {bs : List (List Value × Nat)} {bl : List (List Str)} {i : Nat} {b : List Value × Nat} {x : Str} {t : Tok} (h : BsAre bs bl) (hb : bs[i]? = some b) : BsAre (bs.set i (b.1 ++ [.str x t], b.2 + 1)) (appAt bl i x) := by
  unfold appAt
  refine bs_set h ?_
  have hi : i < bl.length := by rw [← h.1]; exact (List.getElem?_eq_some_iff.mp hb).1
  have := h.2 i b _ hb (List.getElem?_eq_getElem hi)
  rw [List.getD_eq_getElem?_getD, List.getElem?_eq_getElem hi]
  exact strs_snoc this
theorem besK_at : ∀ {ns : List Str} {as : List Addr} {i : Nat} {p : Str} {a : Addr}, ns.Nodup → ns[i]? = some p → as[i]? = some a → valueAt (besK ns as) p = some (.ref a)
  | [], _, _, _, _, _, h, _ => by simp at h
  | _ :: _, [], _, _, _, _, _, h => by simp at h
  | x :: r, y :: t, 0, p, a, hn, h1, h2 => by
    simp at h1 h2
    subst h1 h2
    unfold valueAt besK
    simp
  | x :: r, y :: t, i + 1, p, a, hn, h1, h2 => by
    have h1' : r[i]? = some p := by simpa using h1
    have ih := besK_at (ns := r) (as := t) (i := i) (List.nodup_cons.mp hn).2 h1' (by simpa using h2)
    have hx : x ≠ p := fun e => (List.nodup_cons.mp hn).1 (e ▸ List.mem_of_getElem? h1')
    unfold valueAt besK at ih ⊢
    rw [List.zipWith_cons_cons, List.find?_cons_of_neg (by simpa using hx)]
    exact ih
end
section
noncomputable abbrev sA : Str := Str.ofString "a"
noncomputable abbrev sB : Str := Str.ofString "b"
noncomputable abbrev sC : Str := Str.ofString "ab"
noncomputable abbrev alph : List Str := [sA, sB, sC]
noncomputable def genN : Nat → List (List Str)
  | 0 => [[]]
  | k + 1 => [] :: alph.flatMap fun a => (genN k).map fun r => a :: r
noncomputable def Nm (ns : List Str) : Prop := ns.length ≤ 3 ∧ ∀ x ∈ ns, x ∈ alph
theorem gen_mem : ∀ {k : Nat} {ns : List Str}, ns.length ≤ k → (∀ x ∈ ns, x ∈ alph) → ns ∈ genN k
  | 0, [], _, _ => List.mem_singleton.mpr rfl
  | 0, _ :: _, h, _ => by simp at h
  | k + 1, [], _, _ => List.mem_cons_self
  | k + 1, a :: r, h, hx => by
    refine List.mem_cons_of_mem _ (List.mem_flatMap.mpr ⟨a, hx a (.head _), List.mem_map.mpr ⟨r, gen_mem (by simpa using h) fun x hr => hx x (.tail _ hr), rfl⟩⟩)
noncomputable def txN (ns : List Str) : Str := Str.ofString "/" ++ Txt.join (Str.ofString "/") ns
noncomputable def nmOk (ns : List Str) : Bool := decide (cpNames (txN ns) = ns) && decide ((txN ns).length ≤ 100) && decide ((Txt.split (txN ns) (Str.ofString "/")).length ≤ 1000) && decide (Txt.startswith (txN ns) (Str.ofString "/") = true) && decide (tot ns ≤ 10000) && ns.all fun y => PySem.PyData.strOk y
theorem nm_ok : (genN 3).all nmOk = true := by decide +kernel
theorem nm_fact {ns : List Str} (h : Nm ns) : nmOk ns = true := List.all_eq_true.mp nm_ok ns (gen_mem h.1 h.2)
noncomputable def txOk (n : Nat) : Bool := let t := lawText n; let l := lnNames t; decide (npNames t = l) && decide (l.length ≤ 3) && l.all (fun x => alph.contains x)
theorem tx_ok : ∀ n : Fin 216, txOk n.1 = true := by decide +kernel
noncomputable def txOk2 (n : Nat) : Bool := let t := lawText n; decide (Txt.slice t none (some 1) = Str.ofString "/") && decide (Txt.slice t (some 1) (some 2) ≠ Str.ofString "/") && decide (t.length ≤ 100) && decide (0 < t.length) && decide (tot (Txt.split (Txt.slice t (some 1) none) (Str.ofString "/")) ≤ 10000) && decide (tot (Txt.split t (Str.ofString "/")) ≤ 10000)
theorem tx_ok2 : ∀ n : Fin 216, txOk2 n.1 = true := by decide +kernel
end
section
theorem nm_names {ns : List Str} (h : Nm ns) : cpNames (txN ns) = ns := by
  have := nm_fact h; simp only [nmOk, Bool.and_eq_true, decide_eq_true_eq] at this; exact this.1.1.1.1.1
theorem nm_len {ns : List Str} (h : Nm ns) : (txN ns).length ≤ 100 := by
  have := nm_fact h; simp only [nmOk, Bool.and_eq_true, decide_eq_true_eq] at this; exact this.1.1.1.1.2
theorem nm_split {ns : List Str} (h : Nm ns) : (Txt.split (txN ns) (Str.ofString "/")).length ≤ 1000 := by
  have := nm_fact h; simp only [nmOk, Bool.and_eq_true, decide_eq_true_eq] at this; exact this.1.1.1.2
theorem nm_starts {ns : List Str} (h : Nm ns) : Txt.startswith (txN ns) (Str.ofString "/") = true := by
  have := nm_fact h; simp only [nmOk, Bool.and_eq_true, decide_eq_true_eq] at this; exact this.1.1.2
theorem nm_tot {ns : List Str} (h : Nm ns) : tot ns ≤ 10000 := by
  have := nm_fact h; simp only [nmOk, Bool.and_eq_true, decide_eq_true_eq] at this; exact this.1.2
theorem nm_oks {ns : List Str} (h : Nm ns) : OkS ns := by
  have := nm_fact h; simp only [nmOk, Bool.and_eq_true, decide_eq_true_eq] at this
  exact fun y hy => List.all_eq_true.mp this.2 y hy
theorem nm_inj {a b : List Str} (ha : Nm a) (hb : Nm b) (h : txN a = txN b) : a = b := by
  rw [← nm_names ha, h, nm_names hb]
theorem alph_tri : ∀ x ∈ alph, ∀ y ∈ alph, x ≠ y → decide (x.cps.toList < y.cps.toList) = !decide (y.cps.toList < x.cps.toList) := by decide +kernel
theorem ltL_irr : ∀ r : List Str, ltL r r = false
  | [] => rfl
  | a :: r => by unfold ltL; rw [if_pos rfl]; exact ltL_irr r
theorem ltL_tri : ∀ {r t : List Str}, (∀ x ∈ r, x ∈ alph) → (∀ x ∈ t, x ∈ alph) → r ≠ t → ltL r t = !ltL t r
  | [], [], _, _, h => absurd rfl h
  | [], _ :: _, _, _, _ => rfl
  | _ :: _, [], _, _, _ => rfl
  | a :: r, b :: t, ha, hb, h => by
    unfold ltL
    by_cases e : a = b
    · subst e
      rw [if_pos rfl, if_pos rfl]
      exact ltL_tri (fun x hx => ha x (.tail _ hx)) (fun x hx => hb x (.tail _ hx)) fun q => h (by rw [q])
    · rw [if_neg e, if_neg (Ne.symm e)]
      exact alph_tri a (ha a (.head _)) b (hb b (.head _)) e
theorem ltL_take : ∀ (l : List Str) (q : Nat), q < l.length → ltL (l.take q) l = true
  | [], _, h => by simp at h
  | a :: r, 0, _ => rfl
  | a :: r, q + 1, h => by
    rw [List.take_succ_cons]
    unfold ltL
    rw [if_pos rfl]
    exact ltL_take r q (by simpa using h)
theorem idx_ok (a b : List Str) : IdxOk (loN a b) (hiN a b) := by
  intro q hq e
  apply Classical.byContradiction
  intro hn
  have hl : (hiN a b).length ≤ q := Nat.not_lt.mp hn
  rw [List.take_of_length_le hl] at e
  have hlt := ltL_take _ q hq
  rw [e] at hlt
  unfold loN hiN at *
  by_cases h1 : ltL b a = true <;> by_cases h2 : ltL a b = true
  · simp only [h1, h2, if_true] at hlt; rw [ltL_irr] at hlt; cases hlt
  · simp only [h1, h2, if_true] at hlt; exact h2 hlt
  · simp only [h1, h2, if_true] at hlt; exact h1 hlt
  · simp only [h1, h2] at hlt; rw [if_neg (by decide)] at hlt; rw [ltL_irr] at hlt; cases hlt
theorem lcp_pre : ∀ a b : List Str, lcpL a b <+: a
  | [], _ => by simp [lcpL]
  | _ :: _, [] => by simp [lcpL]
  | x :: r, y :: t => by
    unfold lcpL
    split
    · exact List.cons_prefix_cons.mpr ⟨rfl, lcp_pre r t⟩
    · exact List.nil_prefix
theorem lcp_comm : ∀ a b : List Str, lcpL a b = lcpL b a
  | [], [] => rfl
  | [], _ :: _ => by simp [lcpL]
  | _ :: _, [] => by simp [lcpL]
  | x :: r, y :: t => by
    unfold lcpL
    by_cases e : x = y
    · subst e; rw [if_pos rfl, if_pos rfl, lcp_comm r t]
    · rw [if_neg e, if_neg (Ne.symm e)]
theorem lcp_of_pre : ∀ {a b : List Str}, a <+: b → lcpL a b = a
  | [], _, _ => by simp [lcpL]
  | x :: r, [], h => by simp at h
  | x :: r, y :: t, h => by
    obtain ⟨e, h'⟩ := List.cons_prefix_cons.mp h
    subst e
    unfold lcpL
    rw [if_pos rfl, lcp_of_pre h']
theorem lcp_self (a : List Str) : lcpL a a = a := lcp_of_pre (List.prefix_refl _)
theorem lcp_lohi {a b : List Str} (ha : Nm a) (hb : Nm b) : lcpL (loN a b) (hiN a b) = lcpL a b := by
  by_cases e : a = b
  · subst e
    unfold loN hiN
    rw [ltL_irr, if_neg (by decide)]
  · have h := ltL_tri ha.2 hb.2 e
    unfold loN hiN
    cases q : ltL b a with
    | true => rw [q] at h; simp only [h, if_true]; simp; exact lcp_comm b a
    | false => rw [q] at h; simp only [h]; simp
theorem nm_pre {a b : List Str} (h : a <+: b) (hb : Nm b) : Nm a := ⟨Nat.le_trans h.length_le hb.1, fun x hx => hb.2 x (h.subset hx)⟩
theorem nearB_iff (a b : List Str) : nearB a b = true ↔ a <+: b ∨ b <+: a := by
  unfold nearB
  rw [beq_iff_eq]
  rcases Nat.le_total a.length b.length with h | h
  · rw [List.take_of_length_le h]
    constructor
    · intro e; exact .inl (e ▸ List.take_prefix _ _)
    · rintro (q | q)
      · exact (List.prefix_iff_eq_take.mp q).symm
      · have := List.IsPrefix.length_le q
        have e : b = a := q.eq_of_length (Nat.le_antisymm this h)
        rw [e, List.take_length]
  · rw [List.take_of_length_le h]
    constructor
    · intro e; exact .inr (e ▸ List.take_prefix _ _)
    · rintro (q | q)
      · have := List.IsPrefix.length_le q
        have e : a = b := q.eq_of_length (Nat.le_antisymm this h)
        rw [e, List.take_length]
      · exact List.prefix_iff_eq_take.mp q
theorem nearB_refl (a : List Str) : nearB a a = true := (nearB_iff a a).mpr (.inl (List.prefix_refl _))
theorem nearB_comm (a b : List Str) : nearB a b = nearB b a := by
  rw [Bool.eq_iff_iff, nearB_iff, nearB_iff]; exact Or.comm
theorem nearB_p4 (a b c d : List Str) (h1 : nearB a b = true) (h2 : nearB b c = true) (h3 : nearB c d = true) : nearB a c = true ∨ nearB b d = true := by
  rw [nearB_iff] at h1 h2 h3 ⊢
  rw [nearB_iff]
  rcases h2 with h2 | h2
  · rcases h1 with h1 | h1
    · exact .inl (.inl (h1.trans h2))
    · rcases h3 with h3 | h3
      · exact .inr (.inl (h2.trans h3))
      · exact .inr (List.prefix_or_prefix_of_prefix h2 h3)
  · rcases h1 with h1 | h1
    · exact .inl (List.prefix_or_prefix_of_prefix h1 h2)
    · exact .inl (.inr (h2.trans h1))
theorem cpR_names {a b : List Str} (ha : Nm a) (hb : Nm b) : cpR (txN a) (txN b) = txN (lcpL a b) := by
  unfold cpR
  rw [nm_names ha, nm_names hb, lcp_lohi ha hb]
  rfl
theorem nearC_names {a b : List Str} (ha : Nm a) (hb : Nm b) : nearC (txN a) (txN b) = nearB a b := by
  have hc : Nm (lcpL a b) := nm_pre (lcp_pre a b) ha
  unfold nearC
  rw [cpR_names ha hb, Bool.eq_iff_iff, nearB_iff]
  simp only [List.any_cons, List.any_nil, Bool.or_false, Bool.or_eq_true, beq_iff_eq]
  constructor
  · rintro (e | e)
    · have := nm_inj ha hc e
      rw [lcp_comm] at this
      exact .inl (this ▸ lcp_pre b a)
    · have := nm_inj hb hc e
      exact .inr (this ▸ lcp_pre a b)
  · rintro (h | h)
    · exact .inl (by rw [lcp_of_pre h])
    · exact .inr (by rw [lcp_comm, lcp_of_pre h])
theorem cp_ok {a b : List Str} (ha : Nm a) (hb : Nm b) : CpOk (txN a) (txN b) where
  hx := nm_len ha
  hy := nm_len hb
  hxl := nm_split ha
  hyl := nm_split hb
  hxs := nm_starts ha
  hys := nm_starts hb
  hidx := idx_ok _ _
  hn1 := by
    rw [nm_names ha, nm_names hb]; unfold loN
    have h1 := ha.1
    have h2 := hb.1
    split <;> omega
  hn2 := by
    rw [nm_names ha, nm_names hb]; unfold hiN
    have h1 := ha.1
    have h2 := hb.1
    split <;> omega
  hjoin := by
    rw [nm_names ha, nm_names hb, lcp_lohi ha hb]
    exact nm_tot (nm_pre (lcp_pre a b) ha)
noncomputable def LawTx (t : Str) : Prop := ∃ n, n < 216 ∧ t = lawText n
theorem tx_nm {t : Str} (h : LawTx t) : Nm (lnNames t) := by
  obtain ⟨n, hn, rfl⟩ := h
  have := tx_ok ⟨n, hn⟩
  simp only [txOk, Bool.and_eq_true, decide_eq_true_eq, List.all_eq_true] at this
  exact ⟨this.1.2, fun x hx => by simpa using this.2 x hx⟩
theorem tx_nrm {t : Str} (h : LawTx t) : nrm t = txN (lnNames t) := by
  obtain ⟨n, hn, rfl⟩ := h
  have := tx_ok ⟨n, hn⟩
  simp only [txOk, Bool.and_eq_true, decide_eq_true_eq] at this
  unfold nrm txN
  rw [this.1.1]
theorem tx_rooted {t : Str} (h : LawTx t) : Rooted t := by
  obtain ⟨n, hn, rfl⟩ := h
  have := tx_ok2 ⟨n, hn⟩
  simp only [txOk2, Bool.and_eq_true, decide_eq_true_eq] at this
  exact ⟨this.1.1.1.1.1, this.1.1.1.1.2, this.1.1.1.2, this.1.1.2, this.1.2⟩
theorem tx_short {t : Str} (h : LawTx t) : Short t := by
  obtain ⟨n, hn, rfl⟩ := h
  have := tx_ok2 ⟨n, hn⟩
  simp only [txOk2, Bool.and_eq_true, decide_eq_true_eq] at this
  exact ⟨this.1.1.1.2, this.2⟩
theorem tx_lit : LawTx (Str.ofString "/a/b") ∧ LawTx (Str.ofString "/b") ∧ LawTx (Str.ofString "/b/a") ∧ LawTx (Str.ofString "/a") :=
  ⟨⟨6, by decide, by decide +kernel⟩, ⟨1, by decide, by decide +kernel⟩, ⟨25, by decide, by decide +kernel⟩, ⟨4, by decide, by decide +kernel⟩⟩
end
section
noncomputable abbrev gS (ns : List Str) (i : Nat) : Str := ns.getD i Str.empty
theorem appAt_mem {bl : List (List Str)} {i j : Nat} {x y : Str} (hi : i < bl.length) : x ∈ (appAt bl i y).getD j [] ↔ x ∈ bl.getD j [] ∨ (j = i ∧ x = y) := by
  unfold appAt
  rw [List.getD_eq_getElem?_getD, List.getElem?_set]
  by_cases e : i = j
  · subst e
    rw [if_pos rfl, if_pos hi]
    simp
  · rw [if_neg e]
    have e' : j ≠ i := fun q => e q.symm
    simp [e']
theorem pair_mem {ns : List Str} {bl : List (List Str)} {k j i : Nat} {x : Str} (hk : k < bl.length) (hj : j < bl.length) :
    x ∈ (pairStep ns k bl j).getD i [] ↔ x ∈ bl.getD i [] ∨ (nearC (gS ns k) (gS ns j) = true ∧ ((i = k ∧ x = gS ns j) ∨ (i = j ∧ x = gS ns k))) := by
  unfold pairStep
  split
  · next h =>
    rw [appAt_mem (by rw [appAt_len]; exact hj), appAt_mem hk]
    constructor
    · rintro ((h1 | h1) | h1)
      · exact .inl h1
      · exact .inr ⟨h, .inl h1⟩
      · exact .inr ⟨h, .inr h1⟩
    · rintro (h1 | ⟨_, h1 | h1⟩)
      · exact .inl (.inl h1)
      · exact .inl (.inr h1)
      · exact .inr h1
  · next h =>
    constructor
    · exact .inl
    · rintro (h1 | ⟨h2, _⟩)
      · exact h1
      · exact absurd h2 h
noncomputable def Pr (ns : List Str) (i : Nat) (x : Str) (k j : Nat) : Prop := nearC (gS ns k) (gS ns j) = true ∧ ((i = k ∧ x = gS ns j) ∨ (i = j ∧ x = gS ns k))
theorem inner_mem {ns : List Str} {bl : List (List Str)} {k i : Nat} {x : Str} : ∀ q, k + 1 + q ≤ bl.length → (x ∈ (innerF ns k q bl).getD i [] ↔ x ∈ bl.getD i [] ∨ ∃ j, k + 1 ≤ j ∧ j < k + 1 + q ∧ Pr ns i x k j)
  | 0, _ => by
    constructor
    · exact .inl
    · rintro (h | ⟨j, h1, h2, _⟩)
      · exact h
      · omega
  | q + 1, hq => by
    rw [innerF_succ, pair_mem (by rw [innerF_len]; omega) (by rw [innerF_len]; omega), inner_mem q (by omega)]
    constructor
    · rintro ((h | ⟨j, h1, h2, h3⟩) | h)
      · exact .inl h
      · exact .inr ⟨j, h1, by omega, h3⟩
      · exact .inr ⟨k + 1 + q, by omega, by omega, h⟩
    · rintro (h | ⟨j, h1, h2, h3⟩)
      · exact .inl (.inl h)
      · by_cases e : j = k + 1 + q
        · subst e; exact .inr h3
        · exact .inl (.inr ⟨j, h1, by omega, h3⟩)
theorem outer_mem {ns : List Str} {i : Nat} {x : Str} : ∀ q, q ≤ ns.length → (x ∈ (outerF ns q).getD i [] ↔ x ∈ (outerF ns 0).getD i [] ∨ ∃ k j, k < q ∧ k < j ∧ j < ns.length ∧ Pr ns i x k j)
  | 0, _ => by
    constructor
    · exact .inl
    · rintro (h | ⟨k, j, h1, _⟩)
      · exact h
      · omega
  | q + 1, hq => by
    rw [outerF_succ, inner_mem _ (by rw [outerF_len]; omega), outer_mem q (by omega)]
    constructor
    · rintro ((h | ⟨k, j, h1, h2, h3, h4⟩) | ⟨j, h1, h2, h3⟩)
      · exact .inl h
      · exact .inr ⟨k, j, by omega, h2, h3, h4⟩
      · exact .inr ⟨q, j, by omega, h1, by omega, h3⟩
    · rintro (h | ⟨k, j, h1, h2, h3, h4⟩)
      · exact .inl (.inl h)
      · by_cases e : k = q
        · subst e; exact .inr ⟨j, h2, by omega, h4⟩
        · exact .inl (.inr ⟨k, j, by omega, h2, h3, h4⟩)
theorem gS_get {ns : List Str} {i : Nat} (h : i < ns.length) : gS ns i = ns[i] := by unfold gS; rw [List.getD_eq_getElem?_getD, List.getElem?_eq_getElem h]; rfl
noncomputable def nbF (ns : List Str) (p : Str) : List Str := (outerF ns ns.length).getD (ns.idxOf p) []
theorem nb_iff {ns : List Str} (hre : ∀ x ∈ ns, nearC x x = true) (hsy : ∀ x ∈ ns, ∀ y ∈ ns, nearC x y = nearC y x) {p q : Str} (hp : p ∈ ns) (hq : q ∈ ns) : q ∈ nbF ns p ↔ nearC p q = true := by
  have hi := List.idxOf_lt_length_of_mem hp
  have hj := List.idxOf_lt_length_of_mem hq
  have gi : gS ns (ns.idxOf p) = p := by rw [gS_get hi]; exact List.getElem_idxOf hi
  have gj : gS ns (ns.idxOf q) = q := by rw [gS_get hj]; exact List.getElem_idxOf hj
  unfold nbF
  rw [outer_mem _ (Nat.le_refl _)]
  have h0 : q ∈ (outerF ns 0).getD (ns.idxOf p) [] ↔ q = p := by
    have : (outerF ns 0).getD (ns.idxOf p) [] = [p] := by
      show (ns.map fun p => [p]).getD (ns.idxOf p) [] = [p]
      rw [List.getD_eq_getElem?_getD, List.getElem?_map, List.getElem?_eq_getElem hi, List.getElem_idxOf hi]
      rfl
    rw [this]; exact List.mem_singleton
  rw [h0]
  constructor
  · rintro (rfl | ⟨k, j, h1, h2, h3, h4, ⟨h5, h6⟩ | ⟨h5, h6⟩⟩)
    · exact hre _ hp
    · rw [← h5, gi, ← h6] at h4; exact h4
    · rw [← h5, gi, ← h6] at h4; rw [hsy p hp q hq]; exact h4
  · intro h
    rcases Nat.lt_trichotomy (ns.idxOf p) (ns.idxOf q) with e | e | e
    · exact .inr ⟨_, _, hi, e, hj, by rw [gi, gj]; exact h, .inl ⟨rfl, gj.symm⟩⟩
    · left; rw [← gj, ← e, gi]
    · exact .inr ⟨_, _, hj, e, hi, by rw [gi, gj, hsy q hq p hp]; exact h, .inr ⟨rfl, gj.symm⟩⟩
theorem eqv_near {ns : List Str} {pl : Addr → Str} (hns : ∀ p ∈ ns, ∃ l, Nm l ∧ p = txN l) {y x : Addr} (hy : pl y ∈ ns) (hx : pl x ∈ ns) : eqvOf (nbF ns) pl y x = nearB (cpNames (pl y)) (cpNames (pl x)) := by
  have hC : ∀ a ∈ ns, ∀ b ∈ ns, nearC a b = nearB (cpNames a) (cpNames b) := fun a ha b hb => by
    obtain ⟨l, hl, rfl⟩ := hns a ha
    obtain ⟨l', hl', rfl⟩ := hns b hb
    rw [nearC_names hl hl', nm_names hl, nm_names hl']
  have hre : ∀ a ∈ ns, nearC a a = true := fun a ha => by rw [hC a ha a ha]; exact nearB_refl _
  have hsy : ∀ a ∈ ns, ∀ b ∈ ns, nearC a b = nearC b a := fun a ha b hb => by rw [hC a ha b hb, hC b hb a ha]; exact nearB_comm _ _
  rw [← hC _ hy _ hx, Bool.eq_iff_iff, ← nb_iff hre hsy hy hx]
  unfold eqvOf
  rw [List.any_eq_true]
  constructor
  · rintro ⟨z, hz, e⟩; rw [← eq_of_beq e]; exact hz
  · intro h; exact ⟨_, h, by simp⟩
theorem nb_self {ns : List Str} (hns : ∀ p ∈ ns, ∃ l, Nm l ∧ p = txN l) : ∀ p ∈ ns, p ∈ nbF ns p := by
  have hC : ∀ a ∈ ns, ∀ b ∈ ns, nearC a b = nearB (cpNames a) (cpNames b) := fun a ha b hb => by
    obtain ⟨l, hl, rfl⟩ := hns a ha
    obtain ⟨l', hl', rfl⟩ := hns b hb
    rw [nearC_names hl hl', nm_names hl, nm_names hl']
  intro p hp
  refine (nb_iff (fun a ha => by rw [hC a ha a ha]; exact nearB_refl _) (fun a ha b hb => by rw [hC a ha b hb, hC b hb a ha]; exact nearB_comm _ _) hp hp).mpr ?_
  rw [hC p hp p hp]; exact nearB_refl _
end
section
structure KO (ns : List Str) (pl : Addr → Str) (ks : List Addr) (ts : List Str) : Prop where
  len : ks.length = ts.length
  at' : ∀ (i : Nat) k t, ks[i]? = some k → ts[i]? = some t → pl k = nrm t
  tx : ∀ t ∈ ts, LawTx t
  mem : ∀ t ∈ ts, nrm t ∈ ns
section
variable {ns : List Str} {pl : Addr → Str}
theorem KO.plm {ks : List Addr} {ts : List Str} (x : KO ns pl ks ts) : ∀ k ∈ ks, pl k ∈ ns := by
  intro k hk
  obtain ⟨i, hi, rfl⟩ := List.getElem_of_mem hk
  have hi' : i < ts.length := x.len ▸ hi
  rw [x.at' i _ _ (List.getElem?_eq_getElem hi) (List.getElem?_eq_getElem hi')]
  exact x.mem _ (List.getElem_mem hi')
theorem KO.nm {ks : List Addr} {ts : List Str} (x : KO ns pl ks ts) {i : Nat} (hi : i < ks.length) : cpNames (pl (ks.getD i 0)) = (ts.map lnNames).getD i [] := by
  have hi' : i < ts.length := x.len ▸ hi
  rw [List.getD_eq_getElem?_getD, List.getD_eq_getElem?_getD, List.getElem?_eq_getElem hi, List.getElem?_map, List.getElem?_eq_getElem hi']
  show cpNames (pl ks[i]) = lnNames ts[i]
  have ht := x.tx _ (List.getElem_mem hi')
  rw [x.at' i _ _ (List.getElem?_eq_getElem hi) (List.getElem?_eq_getElem hi'), tx_nrm ht, nm_names (tx_nm ht)]
theorem getD_mem {ks : List Addr} {i : Nat} (hi : i < ks.length) : ks.getD i 0 ∈ ks := by
  rw [List.getD_eq_getElem?_getD, List.getElem?_eq_getElem hi]; exact List.getElem_mem hi
theorem very_kept (hns : ∀ p ∈ ns, ∃ l, Nm l ∧ p = txN l) {ks : List Addr} {ts : List Str} (x : KO ns pl ks ts) : dedupK (eqvOf (nbF ns) pl) ks = (keptN (ts.map lnNames) (ts.map lnNames).length).map fun i => ks.getD i 0 := by
  refine dedup_kept (by rw [List.length_map]; exact x.len) fun j k hj hk => ?_
  rw [eqv_near hns (x.plm _ (getD_mem hj)) (x.plm _ (getD_mem hk)), x.nm hj, x.nm hk]
  exact nearB_comm _ _
theorem very_fold (hns : ∀ p ∈ ns, ∃ l, Nm l ∧ p = txN l) {ks : List Addr} {ts : List Str} (x : KO ns pl ks ts) : ks.foldl (stepK (eqvOf (nbF ns) pl)) [] = (keptN (ts.map lnNames) (ts.map lnNames).length).map fun i => ks.getD i 0 := by
  rw [← very_kept hns x]
  exact stepK_fold ks
noncomputable def RN (pl : Addr → Str) (y x : Addr) : Bool := nearB (cpNames (pl y)) (cpNames (pl x))
theorem rn_free : NFree (RN pl) := ⟨fun _ _ => nearB_comm _ _, fun _ _ _ _ => nearB_p4 _ _ _ _⟩
theorem count_map (f : Addr) : ∀ C : List Addr, ((C.map fun k => cpNames (pl k)).filter (nearB (cpNames (pl f)))).length = C.countP (RN pl f)
  | [] => rfl
  | c :: C => by
    rw [List.map_cons, List.countP_cons, ← count_map f C, List.filter_cons]
    by_cases h : nearB (cpNames (pl f)) (cpNames (pl c)) = true
    · rw [if_pos h, if_pos (show RN pl f c = true from h)]; rfl
    · rw [if_neg h, if_neg (show ¬ RN pl f c = true from h)]; rfl
theorem alone_iff (F C : List Addr) : aloneB (F.map fun k => cpNames (pl k)) (C.map fun k => cpNames (pl k)) = true ↔ ∀ f ∈ F, C.countP (RN pl f) = 1 := by
  unfold aloneB
  rw [decide_eq_true_eq, List.length_eq_zero_iff, List.filter_eq_nil_iff]
  constructor
  · intro h f hf
    have := h _ (List.mem_map.mpr ⟨f, hf, rfl⟩)
    unfold aloneN at this
    rw [count_map] at this
    simpa using this
  · intro h r hr
    obtain ⟨f, hf, rfl⟩ := List.mem_map.mp hr
    unfold aloneN
    rw [count_map, h f hf]
    decide
theorem here_eq (hns : ∀ p ∈ ns, ∃ l, Nm l ∧ p = txN l) {ks : List Addr} {ts : List Str} (x : KO ns pl ks ts) :
    ((keptN (ts.map lnNames) (ts.map lnNames).length).map fun i => (ts.map lnNames).getD i []) = (dedupK (eqvOf (nbF ns) pl) ks).map fun k => cpNames (pl k) := by
  rw [very_kept hns x, List.map_map]
  refine List.map_congr_left fun i hi => ?_
  have := keptN_lt hi
  rw [List.length_map] at this
  exact (x.nm (x.len ▸ this)).symm
theorem cmp_alike (hns : ∀ p ∈ ns, ∃ l, Nm l ∧ p = txN l) {fs ss : List Addr} {tf ts : List Str} (x : KO ns pl fs tf) (y : KO ns pl ss ts) :
    decide (remAll (eqvOf (nbF ns) pl) (dedupK (eqvOf (nbF ns) pl) ss) (dedupK (eqvOf (nbF ns) pl) fs) = some []) =
      (aloneB ((keptN (tf.map lnNames) (tf.map lnNames).length).map fun i => (tf.map lnNames).getD i []) ((keptN (ts.map lnNames) (ts.map lnNames).length).map fun i => (ts.map lnNames).getD i []) &&
        aloneB ((keptN (ts.map lnNames) (ts.map lnNames).length).map fun i => (ts.map lnNames).getD i []) ((keptN (tf.map lnNames) (tf.map lnNames).length).map fun i => (tf.map lnNames).getD i [])) := by
  rw [here_eq hns x, here_eq hns y]
  have hk : ∀ a ∈ fs ++ ss, pl a ∈ ns := fun a ha => (List.mem_append.mp ha).elim (x.plm a) (y.plm a)
  have hR : ∀ a ∈ fs ++ ss, ∀ b ∈ fs ++ ss, eqvOf (nbF ns) pl a b = RN pl a b := fun a ha b hb => eqv_near hns (hk a ha) (hk b hb)
  have e1 : dedupK (eqvOf (nbF ns) pl) fs = dedupK (RN pl) fs := dedup_congr fun a ha b hb => hR a (List.mem_append_left _ ha) b (List.mem_append_left _ hb)
  have e2 : dedupK (eqvOf (nbF ns) pl) ss = dedupK (RN pl) ss := dedup_congr fun a ha b hb => hR a (List.mem_append_right _ ha) b (List.mem_append_right _ hb)
  rw [e1, e2, remAll_congr hR _ _ (fun a ha => List.mem_append_left _ (dedup_sub a ha)) fun a ha => List.mem_append_right _ (dedup_sub a ha)]
  rw [Bool.eq_iff_iff, decide_eq_true_eq, greedy rn_free _ _ dedup_anti dedup_anti, Bool.and_eq_true, alone_iff, alone_iff]
  exact Iff.rfl
end
end
section
theorem turned_map {α β : Type} (f : α → β) (st : Int) (l : List α) : turned st (l.map f) = (turned st l).map f := by unfold turned; split <;> simp
theorem turned_mem {α : Type} (st : Int) (l : List α) : ∀ x ∈ turned st l, x ∈ l := by unfold turned; split <;> simp
theorem turned_len {α : Type} (st : Int) (l : List α) : (turned st l).length = l.length := by unfold turned; split <;> simp
theorem ln_rows {ts : List Str} (h : ∀ t ∈ ts, LawTx t) : (∀ r ∈ ts.map lnNames, r.length ≤ 100) ∧ ∀ r ∈ ts.map lnNames, OkS r := by
  constructor
  · intro r hr
    refine hidG fun G_ hG_ => ?_
    obtain ⟨t, ht, rfl⟩ := List.mem_map.mp hr
    refine hG_ ?_
    clear hG_
    have := (tx_nm (h t ht)).1
    omega
  · intro r hr
    refine hidG fun G_ hG_ => ?_
    obtain ⟨t, ht, rfl⟩ := List.mem_map.mp hr
    refine hG_ ?_
    clear hG_
    exact nm_oks (tx_nm (h t ht))
theorem kept_rows {rs : List (List Str)} (h : (∀ r ∈ rs, r.length ≤ 100) ∧ ∀ r ∈ rs, OkS r) : (∀ r ∈ (keptN rs rs.length).map fun i => rs.getD i [], r.length ≤ 100) ∧ ∀ r ∈ (keptN rs rs.length).map fun i => rs.getD i [], OkS r := by
  have : ∀ r ∈ (keptN rs rs.length).map fun i => rs.getD i [], r ∈ rs := by
    intro r hr
    refine hidG fun G_ hG_ => ?_
    obtain ⟨i, hi, rfl⟩ := List.mem_map.mp hr
    refine hG_ ?_
    clear hG_
    have := keptN_lt hi
    rw [List.getD_eq_getElem?_getD, List.getElem?_eq_getElem this]
    exact List.getElem_mem this
  exact ⟨fun r hr => h.1 r (this r hr), fun r hr => h.2 r (this r hr)⟩
theorem ko_of {ns ts : List Str} {pl : Addr → Str} {ks : List Addr} (h1 : ks.length = (ts.map nrm).length) (h2 : ∀ (i : Nat) k p, ks[i]? = some k → (ts.map nrm)[i]? = some p → pl k = p) (h3 : ∀ t ∈ ts, LawTx t) (h4 : ∀ t ∈ ts, nrm t ∈ ns) : KO ns pl ks ts where
  len := by rw [h1, List.length_map]
  at' := fun i k t e1 e2 => h2 i k _ e1 (by rw [List.getElem?_map, e2]; rfl)
  tx := h3
  mem := h4
section
open LC
variable {m : Str → Option Value} {s : Shared} {Q : Flow → Shared → Prop} {T : List (Addr × Obj)}
theorem law17_turn {st : Int} {tst : Tok} {v₀ : Option Value} {oo om orw : Obj} {a cmK la a2 la2 ka pa ra : Addr} {ys v2 vs2 ps : List Value} {n1 k2 n2 nk np : Nat} {ks : List Addr} {ns f1 f2 : List Str} (hst : st = 1 ∨ st = -1) (B : Below callerA base [] h₀) (F : Fr h₀ L s.heap m) (X : (Mine.hd.heap_1 w.params).In h₀) (XB : KBIn w h₀) (TG : Top topProg LSG mean mg mb h₀) (N : News h₀ L s.heap ((co, oo) :: T)) (hoo : oo.data = .cell v₀) (tco : ∀ p ∈ T, p.1 ≠ co)
    (hm0 : m (Str.ofString "step") = some (.int st tst)) (hm1 : m (Str.ofString "other_row") = some (.ref a2)) (hm2 : m (Str.ofString "second") = some (.ref la2)) (hm3 : m (Str.ofString "ahead") = some (.ref ka)) (hm4 : m (Str.ofString "kept") = some (.ref pa))
    (g1 : (cm, om) ∈ T) (hom : om.data = .cell (some (.ref a))) (g2 : (cr, orw) ∈ T) (hor : orw.data = .cell (some (.ref ra))) (g3 : (ra, lobj ys n1) ∈ T) (hys : RowsIn ys (f1.map lnNames) T) (g4 : (a2, lobj v2 k2) ∈ T) (hv2 : StrsAre v2 (f2.map nrm))
    (g5 : (la2, lobj vs2 n2) ∈ T) (hvs2 : StrsAre vs2 f2) (g6 : (ka, lobj (refs ks) nk) ∈ T) (hks : KeysIn a ks (f1.map nrm) T) (g7 : (pa, lobj ps np) ∈ T) (hps : IdxAre ps (keptN (f1.map lnNames) (f1.map lnNames).length))
    (hK : ∀ g, Kept h₀ T g → KAt w vnLaw cmK a g ∧ (∃ oc, g.get? cmK = some oc ∧ oc.data = .cell (some (.ref la))) ∧ LamAt (lam1 w.params) [(Str.ofString "beside", cb)] la g ∧ BesAt w cb ns (nbF ns) g)
    (hf1 : ∀ t ∈ f1, LawTx t) (hf2 : ∀ t ∈ f2, LawTx t) (hns : ∀ p ∈ ns, ∃ l, Nm l ∧ p = txN l) (mem1 : ∀ t ∈ f1, nrm t ∈ ns) (mem2 : ∀ t ∈ f2, nrm t ∈ ns) (z1 : f1.length ≤ 7) (z2 : f2.length ≤ 7)
    (hret : ∀ oo' h' tk' m' v, (∀ y, y ∉ [Str.ofString "behind", Str.ofString "left", Str.ofString "here", Str.ofString "there", Str.ofString "alike"] → m' y = m y) → Fr h₀ L h' m' → News h₀ L h' ((co, oo') :: T) → oo'.data = .cell v → Q .next { s with heap := h', toks := tk' }) :
    wpAny (model PySem.Challenge.rw_ik0192_01.prog w) (lawA w.params gd L fa cd cm cr co cb) (execs (forBody (lawSt w.params 17)) (lenv w.params L fa cd cm cr co cb)) Q E s := by
  rw [law_fbody]
  refine ex_cons (lawf0 (T := (co, oo) :: T) hst B F X XB TG (news_sub N (by first | (walk_at "SUBS") | grind)) hom hm1 hm0 (.tail _ g4) hv2 (by rw [List.length_map]; omega) (fun g hg => (hK g (kept_mono hg (by first | (walk_at "SUBS") | grind))).1) ?_)
  intro D0 KL ks2 h1 tk1 F1 N1 hk2 ap1 off1
  rw [turned_map] at hk2
  have hk2l : ks2.length = f2.length := by rw [hk2.1, List.length_map, turned_len]
  have hkl : ks.length = f1.length := by rw [hks.1, List.length_map]
  obtain ⟨pl, hpl⟩ := plOf_ex a h1
  have kp1 := keys_pl hks (kept_of F1 (news_sub N1 (by first | (walk_at "SUBS") | grind))) hpl
  have kp2 := keys_pl hk2 (kept_of F1 (news_sub N1 (by first | (walk_at "SUBS") | grind))) hpl
  have hf2' : ∀ t ∈ turned st f2, LawTx t := fun t ht => hf2 t (turned_mem _ _ t ht)
  have ko1 : KO ns pl ks f1 := ko_of hks.1 kp1.1 hf1 mem1
  have ko2 : KO ns pl ks2 (turned st f2) := ko_of hk2.1 kp2.1 hf2' fun t ht => mem2 t (turned_mem _ _ t ht)
  have hself := nb_self hns
  have r1 := ln_rows hf1
  have r2 := ln_rows hf2'
  have hP : ∀ T', (∀ p ∈ T, p ∈ T') → (∀ p ∈ KL, p ∈ T') → ∀ g, Kept h₀ T' g → KP w a cmK la cb ns (nbF ns) (ks ++ ks2) pl g := fun T' s1 s2 g hg => by
    refine hidG fun G_ hG_ => ?_
    obtain ⟨q1, q2, q3, q4⟩ := hK g (kept_mono hg s1)
    refine hG_ ?_
    clear hG_
    refine ⟨q1, fun k hk => ?_, q2, q3, q4⟩
    rcases List.mem_append.mp hk with hk | hk
    · exact kp1.2 g (kept_mono hg s1) k hk
    · exact kp2.2 g (kept_mono hg s2) k hk
  refine ex_cons (lawf1 (T := (D0, LCg.lst (refs ks2)) :: (KL ++ T)) hst B F1 X XB TG (news_sub N1 (by first | (walk_at "SUBS") | grind)) hoo ?_ (by walk_at "LOOKM") (by walk_at "LOOKM") (.tail _ (List.mem_append_right _ g5)) hvs2 (by omega) (fun t ht => tx_short (hf2 t ht)) ?_)
  · intro p hp
    rcases List.mem_cons.mp hp with rfl | hp
    · exact fun e => off1_mem off1 (co, oo) (by simp) e.symm
    rcases List.mem_append.mp hp with hp | hp
    · exact ap1 p hp (co, oo) (by simp)
    · exact tco p hp
  intro D1 KL1 ys1 oo' h2 tk2 F2 N2 hoo' hr1 ap2 off2
  obtain ⟨T1, hT1⟩ : ∃ T1, T1 = (D0, LCg.lst (refs ks2)) :: (KL ++ T) := ⟨_, rfl⟩
  rw [← hT1] at N2 ap2 off2
  have sT1 : ∀ p ∈ T, p ∈ T1 := by rw [hT1]; grind
  have sK1 : ∀ p ∈ KL, p ∈ T1 := by rw [hT1]; grind
  have dT1 : (D0, LCg.lst (refs ks2)) ∈ T1 := by rw [hT1]; exact .head _
  have hrl : ((turned st f2).map lnNames).length = f2.length := by rw [List.length_map, turned_len]
  have hrl1 : (f1.map lnNames).length = f1.length := List.length_map ..
  refine ex_cons (lawf2 (T := (D1, LCg.lst ys1) :: (KL1 ++ T1)) B F2 X XB TG (news_sub N2 (by first | (walk_at "SUBS") | grind)) hoo' (.head _) (hr1.mono (by first | (walk_at "SUBS") | grind)) (by omega) r2.1 r2.2 ?_)
  intro D2 vs k h3 tk3 F3 N3 hidx off3
  obtain ⟨T3, hT3⟩ : ∃ T3, T3 = (D2, lobj vs k) :: (co, oo') :: (D1, LCg.lst ys1) :: (KL1 ++ T1) := ⟨_, rfl⟩
  rw [← hT3] at N3
  have sT3 : ∀ p ∈ T1, p ∈ T3 := by rw [hT3]; grind
  have sK3 : ∀ p ∈ KL1, p ∈ T3 := by rw [hT3]; grind
  have dT3 : (D2, lobj vs k) ∈ T3 := by rw [hT3]; exact .head _
  have dT3' : (D1, LCg.lst ys1) ∈ T3 := by rw [hT3]; grind
  have dT3c : (co, oo') ∈ T3 := by rw [hT3]; grind
  have hP3 : ∀ g, Kept h₀ T3 g → KP w a cmK la cb ns (nbF ns) ks2 pl g := fun g hg => (hP T3 (fun p hp => sT3 p (sT1 p hp)) (fun p hp => sT3 p (sK1 p hp)) g hg).sub fun k hk => List.mem_append_right _ hk
  have lt2 : ∀ i ∈ keptN ((turned st f2).map lnNames) ((turned st f2).map lnNames).length, i < ks2.length := fun i hi => by
    have := keptN_lt hi; omega
  have lt1 : ∀ i ∈ keptN (f1.map lnNames) (f1.map lnNames).length, i < (f1.map lnNames).length := fun i hi => keptN_lt hi
  have lt2' : ∀ i ∈ keptN ((turned st f2).map lnNames) ((turned st f2).map lnNames).length, i < ((turned st f2).map lnNames).length := fun i hi => keptN_lt hi
  have kl1 := keptN_len (rows := f1.map lnNames) (f1.map lnNames).length
  have kl2 := keptN_len (rows := (turned st f2).map lnNames) ((turned st f2).map lnNames).length
  refine ex_cons (lawf3 B F3 X XB TG N3 (by walk_at "LOOKM") (by walk_at "LOOKM") (sT3 _ dT1) dT3 hidx (by omega) lt2 (by omega) hP3 ko2.plm hself (very_kept hns ko2) ?_)
  intro h4 tk4 F4 N4
  refine ex_cons (lawf4 (T := T3) B F4 X XB TG (news_sub N4 (by have := sT3 _ (sT1 _ g2); first | (walk_at "SUBS") | grind)) hor (sT3 _ (sT1 _ g3)) (hys.mono fun p hp => sT3 p (sT1 p hp)) (by omega) (by walk_at "LOOKM") (sT3 _ (sT1 _ g7)) hps (by omega) lt1 ?_)
  intro D4 zs4 h5 tk5 F5 N5 hz4 off5
  obtain ⟨T5, hT5⟩ : ∃ T5, T5 = (D4, LCg.lst zs4) :: (cr, orw) :: T3 := ⟨_, rfl⟩
  rw [← hT5] at N5
  have sT5 : ∀ p ∈ T3, p ∈ T5 := by rw [hT5]; grind
  have dT5 : (D4, LCg.lst zs4) ∈ T5 := by rw [hT5]; exact .head _
  refine ex_cons (lawf5 (T := T5) B F5 X XB TG (news_sub N5 (by have := sT5 _ dT3c; first | (walk_at "SUBS") | grind)) hoo' (sT5 _ dT3') (hr1.mono fun p hp => sT5 p (sK3 p hp)) (by omega) (by walk_at "LOOKM") (sT5 _ dT3) hidx (by omega) lt2' ?_)
  intro D5 zs5 h6 tk6 F6 N6 hz5 off6
  obtain ⟨T6, hT6⟩ : ∃ T6, T6 = (D5, LCg.lst zs5) :: (co, oo') :: T5 := ⟨_, rfl⟩
  rw [← hT6] at N6
  have sT6 : ∀ p ∈ T5, p ∈ T6 := by rw [hT6]; grind
  have dT6 : (D5, LCg.lst zs5) ∈ T6 := by rw [hT6]; exact .head _
  have q1 := kept_rows r1
  have q2 := kept_rows r2
  refine ex_cons (lawf6 (T := T6) B F6 X XB TG N6 (by walk_at "LOOKM") (by walk_at "LOOKM") (sT6 _ dT5) dT6 (hz4.mono fun p hp => sT6 p (sT5 p hp)) (hz5.mono sT6) (by rw [List.length_map]; omega) (by rw [List.length_map]; omega) q1.1 q2.1 q1.2 q2.2 ?_)
  intro h7 tk7 F7 N7
  have sAll : ∀ p ∈ T, p ∈ T6 := fun p hp => sT6 p (sT5 p (sT3 p (sT1 p hp)))
  have hP6 : ∀ g, Kept h₀ T6 g → KP w a cmK la cb ns (nbF ns) (ks ++ ks2) pl g := hP T6 sAll fun p hp => sT6 p (sT5 p (sT3 p (sK1 p hp)))
  have hplm : ∀ k ∈ ks ++ ks2, pl k ∈ ns := fun k hk => (List.mem_append.mp hk).elim (ko1.plm k) (ko2.plm k)
  refine ex_cons (lawf7 (T := T6) (fs := ks) (ss := ks2) B F7 X XB TG N7 (by walk_at "LOOKM") (by walk_at "LOOKM") (by walk_at "LOOKM") (sAll _ g6) (sT6 _ (sT5 _ (sT3 _ dT1))) (by omega) (by omega) (fun x hx => List.mem_append_left _ hx) (fun x hx => List.mem_append_right _ hx) hP6 hplm hself (cmp_alike hns ko1 ko2) ?_)
  intro h8 tk8 F8 N8
  refine ex_cons (lawf8 (T := T6) (fs := ks2) (ss := ks) B F8 X XB TG N8 (by walk_at "LOOKM") (by walk_at "LOOKM") (by walk_at "LOOKM") (sAll _ g6) (sT6 _ (sT5 _ (sT3 _ dT1))) (by omega) (by omega) (fun x hx => List.mem_append_right _ hx) (fun x hx => List.mem_append_left _ hx) hP6 hplm hself ((cmp_alike hns ko2 ko1).trans (Bool.and_comm _ _)) ?_)
  intro h9 tk9 F9 N9
  refine ex_nil (hret oo' h9 tk9 _ _ ?_ F9 (news_sub N9 (by have := sT6 _ (sT5 _ dT3c); first | (walk_at "SUBS") | grind)) hoo')
  intro y hy
  simp only [List.mem_cons, List.not_mem_nil, or_false, not_or] at hy
  refine hidG fun G_ hG_ => ?_
  obtain ⟨e1, e2, e3, e4, e5⟩ := hy
  refine hG_ ?_
  clear hG_
  simp only [if_neg e1, if_neg e2, if_neg e3, if_neg e4, if_neg e5]
end
end
section
local macro_rules | `(tactic| walk_at "ZZ") => `(tactic| skip)
section
open LC
variable {m : Str → Option Value} {s : Shared} {Q : Flow → Shared → Prop} {T : List (Addr × Obj)}
theorem law17 {oo om orw : Obj} {a cmK la a2 la2 ka pa ra : Addr} {ys v2 vs2 ps : List Value} {n1 k2 n2 nk np : Nat} {ks : List Addr} {ns f1 f2 : List Str} (B : Below callerA base [] h₀) (F : Fr h₀ L s.heap m) (X : (Mine.hd.heap_1 w.params).In h₀) (XB : KBIn w h₀) (TG : Top topProg LSG mean mg mb h₀) (hE : PassesOwn (model PySem.Challenge.rw_ik0192_01.prog w) (lawA w.params gd L fa cd cm cr co cb) (lenv w.params L fa cd cm cr co cb) E) (N : News h₀ L s.heap ((co, oo) :: T)) (hoo : oo.data = .cell none) (tco : ∀ p ∈ T, p.1 ≠ co)
    (hm1 : m (Str.ofString "other_row") = some (.ref a2)) (hm2 : m (Str.ofString "second") = some (.ref la2)) (hm3 : m (Str.ofString "ahead") = some (.ref ka)) (hm4 : m (Str.ofString "kept") = some (.ref pa))
    (g1 : (cm, om) ∈ T) (hom : om.data = .cell (some (.ref a))) (g2 : (cr, orw) ∈ T) (hor : orw.data = .cell (some (.ref ra))) (g3 : (ra, lobj ys n1) ∈ T) (hys : RowsIn ys (f1.map lnNames) T) (g4 : (a2, lobj v2 k2) ∈ T) (hv2 : StrsAre v2 (f2.map nrm))
    (g5 : (la2, lobj vs2 n2) ∈ T) (hvs2 : StrsAre vs2 f2) (g6 : (ka, lobj (refs ks) nk) ∈ T) (hks : KeysIn a ks (f1.map nrm) T) (g7 : (pa, lobj ps np) ∈ T) (hps : IdxAre ps (keptN (f1.map lnNames) (f1.map lnNames).length))
    (hK : ∀ g, Kept h₀ T g → KAt w vnLaw cmK a g ∧ (∃ oc, g.get? cmK = some oc ∧ oc.data = .cell (some (.ref la))) ∧ LamAt (lam1 w.params) [(Str.ofString "beside", cb)] la g ∧ BesAt w cb ns (nbF ns) g)
    (hf1 : ∀ t ∈ f1, LawTx t) (hf2 : ∀ t ∈ f2, LawTx t) (hns : ∀ p ∈ ns, ∃ l, Nm l ∧ p = txN l) (mem1 : ∀ t ∈ f1, nrm t ∈ ns) (mem2 : ∀ t ∈ f2, nrm t ∈ ns) (z1 : f1.length ≤ 7) (z2 : f2.length ≤ 7)
    (hret : ∀ h' tk' m', Fr h₀ L h' m' → News h₀ L h' T → Q .next { s with heap := h', toks := tk' }) :
    wpAny (model PySem.Challenge.rw_ik0192_01.prog w) (lawA w.params gd L fa cd cm cr co cb) (exec (lawSt w.params 17) (lenv w.params L fa cd cm cr co cb)) Q E s := by
  revert X
  k_fill
  intro X
  have hb := (show lawSt w.params 17 = lawSt w.params 17 from rfl)
  conv at hb => rhs; whnf
  have hsc := (show lawScope w.params = lawScope w.params from rfl)
  conv at hsc => rhs; whnf
  rw [lenv, lawA, hsc] at hE
  rw [hb, lenv, lawA, hsc]
  have hfb := congrArg forBody hb
  conv at hfb => rhs; whnf
  clear hb
  refine For_invVF F (by rfl) (by rfl) ?_ (hE := hE)
  k_steps
  refine ⟨?_⟩
  rename Fr _ _ _ _ => F1
  rename News _ _ _ _ => N1
  rename (_ ∧ AllLt _ _) => l1
  rename_i tp hh1
  obtain ⟨l2, l3⟩ := l1
  have l3 := ktn_ltOf l3
  obtain ⟨otp, hotp⟩ : ∃ otp : Obj, otp = _ ∧ News h₀ L _ ((tp, otp) :: (co, oo) :: T) := ⟨_, rfl, N1⟩
  obtain ⟨hotp, N2⟩ := hotp
  have hE2 := hE
  clear N1
  refine' for_tup (ax := tp) (oax := otp) (its := [Value.int 1 _, Value.int (-1) _]) (n := 0) [Str.ofString "behind", Str.ofString "left", Str.ofString "here", Str.ofString "there", Str.ofString "alike"]
    (fun i u nw => ∃ oo v, nw = (tp, otp) :: (co, oo) :: T ∧ oo.data = .cell v) rfl (by rw [hotp]) (by rw [hotp]) F1 N2 rfl (.inr (.head _)) ⟨oo, _, rfl, hoo⟩ ?hS ?turn ?done
  case hS => rintro i u nw ⟨_, _, rfl, _⟩; exact .inr (.head _)
  case done =>
    intro u nw h tk ip4_ F2 N3
    refine hidG fun G_ hG_ => ?_
    obtain ⟨oo, v, rfl, _⟩ := ip4_
    refine hG_ ?_
    clear hG_
    exact hret _ _ _ F2 fun p hp => N3 p (.tail _ (.tail _ hp))
  case turn =>
    intro i v u nw h tk I oI hv ip9_ F2 N3 off
    refine hidG fun G_ hG_ => ?_
    obtain ⟨oo, v0, rfl, hoo⟩ := ip9_
    refine hG_ ?_
    clear hG_
    have hst : ∃ st t, v = .int st t ∧ (st = 1 ∨ st = -1) := by
      match i, hv with
      | 0, hv => exact ⟨1, _, by simpa using hv.symm, .inl rfl⟩
      | 1, hv => exact ⟨-1, _, by simpa using hv.symm, .inr rfl⟩
      | i + 2, hv => simp at hv
    refine hidG fun G_ hG_ => ?_
    obtain ⟨st, tst, rfl, hst⟩ := hst
    refine hG_ ?_
    clear hG_
    rw [← hfb, ← hsc]
    have nI : ∀ p ∈ (tp, otp) :: (co, oo) :: T, p.1 ≠ I := off
    refine law17_turn (T := (I, oI) :: (tp, otp) :: T) (oo := oo) (v₀ := v0) (st := st) (tst := tst) hst B F2 X XB TG (news_sub N3 (by first | (walk_at "SUBS") | grind)) hoo ?_ (by walk_at "LOOKM") (by walk_at "LOOKM") (by walk_at "LOOKM") (by walk_at "LOOKM") (by walk_at "LOOKM")
      (.tail _ (.tail _ g1)) hom (.tail _ (.tail _ g2)) hor (.tail _ (.tail _ g3)) (hys.mono fun p hp => .tail _ (.tail _ hp)) (.tail _ (.tail _ g4)) hv2 (.tail _ (.tail _ g5)) hvs2 (.tail _ (.tail _ g6)) (hks.mono fun p hp => .tail _ (.tail _ hp)) (.tail _ (.tail _ g7)) hps
      (fun g hg => hK g (kept_mono hg fun p hp => .tail _ (.tail _ hp))) hf1 hf2 hns mem1 mem2 z1 z2 ?_
    · intro p hp
      rcases List.mem_cons.mp hp with rfl | hp
      · exact fun e => off (co, oo) (.tail _ (.head _)) e.symm
      rcases List.mem_cons.mp hp with rfl | hp
      · exact Nat.ne_of_gt l2
      · exact tco p hp
    · intro oo' h' tk' m' v' hm' F5 N5 hoo'
      try dsimp only [TurnPostX]
      refine TurnEndX.mk F5 N5 ((tp, otp) :: (co, oo') :: T) (by first | (walk_at "SUBS") | grind) ?_ (fun y h1 h2 => ?_) ⟨oo', v', rfl, hoo'⟩
      · intro p hp
        rcases List.mem_cons.mp hp with rfl | hp
        · exact off (tp, otp) (.head _)
        rcases List.mem_cons.mp hp with rfl | hp
        · exact off (co, oo) (.tail _ (.head _))
        · exact off p (.tail _ (.tail _ hp))
      · rw [hm' y h2]
        refine (if_neg h1).trans ?_
        rw [ovm_lookup, if_neg h2]
end
end
section
local macro_rules | `(tactic| walk_at "ZZ") => `(tactic| skip)
local macro_rules | `(tactic| walk_at "exec Assign cons ListComp") => `(tactic| (refine Stopped.h ?_))
section
variable {w : World} {gd : Option (List Code)} {L fa cm cr co cb la : Addr} {cd : Value} {base h₀ : Heap} {m : Str → Option Value} {s : Shared} {mean : ExcName → Option Value} {mg mb : Str → Option Value} {E : Value → Shared → Prop} {Q : Flow → Shared → Prop} {T : List (Addr × Obj)}
theorem law5 {vs : List Value} {ns : List Str} {n : Nat} (B : Below callerA base [] h₀) (F : Fr h₀ L s.heap m) (X : (Mine.hd.heap_1 w.params).In h₀) (XB : KBIn w h₀) (TG : Top topProg LSG mean mg mb h₀) (N : News h₀ L s.heap ((la, lobj vs n) :: T)) (hm : m (Str.ofString "first") = some (.ref la)) (hs : StrsAre vs ns) (hz : ns.length ≤ 100) (hr : ∀ x ∈ ns, Rooted x)
    (hret : ∀ D h' tk' ws, Fr h₀ L h' (fun y => if y = Str.ofString "one_row" then some (.ref D) else m y) → News h₀ L h' ((D, LCg.lst ws) :: (la, lobj vs n) :: T) → StrsAre ws (ns.map nrm) → LCg.Off1 D ((la, lobj vs n) :: T) → Q .next { s with heap := h', toks := tk' }) :
    wpAny (model PySem.Challenge.rw_ik0192_01.prog w) (lawA w.params gd L fa cd cm cr co cb) (exec (lawSt w.params 5) (lenv w.params L fa cd cm cr co cb)) Q E s := by
  revert X
  k_fill
  intro X
  have hb := (show lawSt w.params 5 = lawSt w.params 5 from rfl)
  conv at hb => rhs; whnf
  have hsc := (show lawScope w.params = lawScope w.params from rfl)
  conv at hsc => rhs; whnf
  rw [hb, lenv, lawA, hsc]
  clear hb hsc
  refine LCg.Assign_ListComp_U (F₀ := F) (by rfl) (by with_unfolding_all rfl) (by with_unfolding_all rfl) (by decide) (by rfl) (by decide) (by rfl) (by rfl) (by rfl) ?_
  k_steps
  refine LCg.CompSrc.ledger rfl F N (.head _) (by rw [List.size_toArray, hs.len_eq, sizeLine_eq]; omega) fun g => ?_
  refine rest_ind (fun q ys nw => nw = (la, lobj vs n) :: T ∧ StrsAre ys ((ns.take q).map nrm)) ⟨rfl, .nil⟩ ?_ ?_
  · intro ys nw ip2_
    refine hidG fun G_ hG_ => ?_
    obtain ⟨rfl, hy⟩ := ip2_
    refine hG_ ?_
    clear hG_
    unfold LCg.FinA
    intro D h' tk' F' N' off
    rw [List.size_toArray, hs.len_eq, List.take_length] at hy
    refine hret D h' tk' ys ?_ N' hy off
    exact F'
  · intro q ys nw v I oI C oC D m₂ h tk E' hq ip14_ hv hC hx F1 N1 off ne
    refine hidG fun G_ hG_ => ?_
    obtain ⟨rfl, hy⟩ := ip14_
    refine hG_ ?_
    clear hG_
    refine hidG fun G_ hG_ => ?_
    obtain ⟨c, tc, rfl, hc⟩ := hs.item q v (by simpa using hv)
    refine hG_ ?_
    clear hG_
    clear F N
    k_steps
    refine ⟨?_⟩
    rename Fr _ _ _ _ => F2
    rename News _ _ _ _ => N2
    refine spec_val (normpath0 w c _ (hr c (List.mem_of_getElem? hc))) B F2 X XB N2 TG rfl (Nat.le_of_ble_eq_true rfl) (Nat.le_of_ble_eq_true rfl) trivial ?_
    intro r h9 tk9 F9 N9 x9 ip6_
    refine hidG fun G_ hG_ => ?_
    obtain ⟨t9, rfl⟩ := ip6_
    refine hG_ ?_
    clear hG_
    clear F2 N2
    try dsimp only
    refine LCg.CompEnd.intro F9 N9 ((la, lobj vs n) :: T) (fun p hp => hp) off (.inr ⟨_, .head _, rfl, _, rfl⟩) ⟨rfl, ?_⟩
    rw [take_snoc hc, List.map_append]
    exact strs_snoc hy
theorem law6 {vs : List Value} {ns : List Str} {n : Nat} (B : Below callerA base [] h₀) (F : Fr h₀ L s.heap m) (X : (Mine.hd.heap_1 w.params).In h₀) (XB : KBIn w h₀) (TG : Top topProg LSG mean mg mb h₀) (N : News h₀ L s.heap ((la, lobj vs n) :: T)) (hm : m (Str.ofString "second") = some (.ref la)) (hs : StrsAre vs ns) (hz : ns.length ≤ 100) (hr : ∀ x ∈ ns, Rooted x)
    (hret : ∀ D h' tk' ws, Fr h₀ L h' (fun y => if y = Str.ofString "other_row" then some (.ref D) else m y) → News h₀ L h' ((D, LCg.lst ws) :: (la, lobj vs n) :: T) → StrsAre ws (ns.map nrm) → LCg.Off1 D ((la, lobj vs n) :: T) → Q .next { s with heap := h', toks := tk' }) :
    wpAny (model PySem.Challenge.rw_ik0192_01.prog w) (lawA w.params gd L fa cd cm cr co cb) (exec (lawSt w.params 6) (lenv w.params L fa cd cm cr co cb)) Q E s := by
  revert X
  k_fill
  intro X
  have hb := (show lawSt w.params 6 = lawSt w.params 6 from rfl)
  conv at hb => rhs; whnf
  have hsc := (show lawScope w.params = lawScope w.params from rfl)
  conv at hsc => rhs; whnf
  rw [hb, lenv, lawA, hsc]
  clear hb hsc
  refine LCg.Assign_ListComp_U (F₀ := F) (by rfl) (by with_unfolding_all rfl) (by with_unfolding_all rfl) (by decide) (by rfl) (by decide) (by rfl) (by rfl) (by rfl) ?_
  k_steps
  refine LCg.CompSrc.ledger rfl F N (.head _) (by rw [List.size_toArray, hs.len_eq, sizeLine_eq]; omega) fun g => ?_
  refine rest_ind (fun q ys nw => nw = (la, lobj vs n) :: T ∧ StrsAre ys ((ns.take q).map nrm)) ⟨rfl, .nil⟩ ?_ ?_
  · intro ys nw ip2_
    refine hidG fun G_ hG_ => ?_
    obtain ⟨rfl, hy⟩ := ip2_
    refine hG_ ?_
    clear hG_
    unfold LCg.FinA
    intro D h' tk' F' N' off
    rw [List.size_toArray, hs.len_eq, List.take_length] at hy
    refine hret D h' tk' ys ?_ N' hy off
    exact F'
  · intro q ys nw v I oI C oC D m₂ h tk E' hq ip14_ hv hC hx F1 N1 off ne
    refine hidG fun G_ hG_ => ?_
    obtain ⟨rfl, hy⟩ := ip14_
    refine hG_ ?_
    clear hG_
    refine hidG fun G_ hG_ => ?_
    obtain ⟨c, tc, rfl, hc⟩ := hs.item q v (by simpa using hv)
    refine hG_ ?_
    clear hG_
    clear F N
    k_steps
    refine ⟨?_⟩
    rename Fr _ _ _ _ => F2
    rename News _ _ _ _ => N2
    refine spec_val (normpath0 w c _ (hr c (List.mem_of_getElem? hc))) B F2 X XB N2 TG rfl (Nat.le_of_ble_eq_true rfl) (Nat.le_of_ble_eq_true rfl) trivial ?_
    intro r h9 tk9 F9 N9 x9 ip6_
    refine hidG fun G_ hG_ => ?_
    obtain ⟨t9, rfl⟩ := ip6_
    refine hG_ ?_
    clear hG_
    clear F2 N2
    try dsimp only
    refine LCg.CompEnd.intro F9 N9 ((la, lobj vs n) :: T) (fun p hp => hp) off (.inr ⟨_, .head _, rfl, _, rfl⟩) ⟨rfl, ?_⟩
    rw [take_snoc hc, List.map_append]
    exact strs_snoc hy
end
end
section
local macro_rules | `(tactic| walk_at "call type:list") => `(tactic| (refine Stopped.h ?_))
section
open LC
variable {m : Str → Option Value} {s : Shared} {Q : Flow → Shared → Prop} {T : List (Addr × Obj)}
theorem keys_all : ∀ {kvs : List (Str × Value)} {P : List Value → Prop}, (∀ vs, StrsAre vs (kvs.map (·.1)) → P vs) → KdlKeysS kvs P
  | [], _, h => h [] .nil
  | q :: r, P, h => fun t => keys_all (kvs := r) fun vs hv => h _ (.cons q.1 t hv)
theorem strs_app {v1 v2 : List Value} {n1 n2 : List Str} (x : StrsAre v1 n1) (h : StrsAre v2 n2) : StrsAre (v1 ++ v2) (n1 ++ n2) := by
  induction x with
  | nil => exact h
  | cons y t r ih => exact .cons y t ih
noncomputable def plsOf (ns : List Str) : List Str := (fkOf ns).map (·.1)
theorem plsOf_len (ns : List Str) : (plsOf ns).length ≤ ns.length := by
  have := fk_len ns []
  unfold plsOf fkOf
  rw [List.length_map]
  simpa using this
theorem law7 {a1 a2 : Addr} {v1 v2 : List Value} {n1 n2 : List Str} {k1 k2 : Nat} (B : Below callerA base [] h₀) (F : Fr h₀ L s.heap m) (X : (Mine.hd.heap_1 w.params).In h₀) (XB : KBIn w h₀) (TG : Top topProg LSG mean mg mb h₀) (N : News h₀ L s.heap ((a1, lobj v1 k1) :: (a2, lobj v2 k2) :: T))
    (hm1 : m (Str.ofString "one_row") = some (.ref a1)) (hm2 : m (Str.ofString "other_row") = some (.ref a2)) (hs1 : StrsAre v1 n1) (hs2 : StrsAre v2 n2) (hz1 : n1.length ≤ 100) (hz2 : n2.length ≤ 100)
    (hret : ∀ D h' tk' ws c, Fr h₀ L h' (fun y => if y = Str.ofString "places" then some (.ref D) else m y) → News h₀ L h' ((D, lobj ws c) :: (a1, lobj v1 k1) :: (a2, lobj v2 k2) :: T) → StrsAre ws (plsOf (n1 ++ n2)) → (plsOf (n1 ++ n2)).Nodup → LCg.Off1 D ((a1, lobj v1 k1) :: (a2, lobj v2 k2) :: T) → Q .next { s with heap := h', toks := tk' }) :
    wpAny (model PySem.Challenge.rw_ik0192_01.prog w) (lawA w.params gd L fa cd cm cr co cb) (exec (lawSt w.params 7) (lenv w.params L fa cd cm cr co cb)) Q E s := by
  revert X
  k_fill
  intro X
  have hb := (show lawSt w.params 7 = lawSt w.params 7 from rfl)
  conv at hb => rhs; whnf
  have hsc := (show lawScope w.params = lawScope w.params from rfl)
  conv at hsc => rhs; whnf
  rw [hb, lenv, lawA, hsc]
  clear hb hsc
  have l1 : s.heap.IsList a1 v1.toArray := N.isList (.head _)
  have l2 : s.heap.IsList a2 v2.toArray := N.isList (.tail _ (.head _))
  have z1 : v1.length ≤ 100000 := by rw [hs1.len_eq]; omega
  have z2 : v2.length ≤ 100000 := by rw [hs2.len_eq]; omega
  k_steps
  refine ⟨?_⟩
  rename Fr _ _ _ _ => F1
  rename News _ _ _ _ => N1
  refine' spec_new (P := fun o => o.IsDictOf (PySem.strKind PySem.Challenge.rw_ik0192_01.prog w) (fkOf (n1 ++ n2))) (dedupT0 w _ (v1 ++ v2) (n1 ++ n2) (strs_app hs1 hs2) (by rw [List.length_append]; omega)) B F1 X XB N1 TG rfl (Nat.le_of_ble_eq_true rfl) (Nat.le_of_ble_eq_true rfl) ⟨_, (N1 _ (.head _)).1⟩ ?_
  intro d o h9 tk9 F9 N9 x9 off9 ho
  clear F1 N1 l1 l2
  try dsimp only
  k_steps
  refine ⟨?_⟩
  have hd1 : (d == sysModules) = false := by
    have g1 : h₀.get? 1 = some (ob 1 (KB w.params)) := XB 1 _ rfl
    have g2 := (N9 _ (.head _)).2.2
    refine beq_eq_false_iff_ne.mpr fun q => ?_
    have q' : d = 1 := q
    rw [q', g1] at g2; cases g2
  refine kdl_list_keysS rfl F9 N9 (.head _) ho hd1 (by have := plsOf_len (n1 ++ n2); rw [plsOf, List.length_map, List.length_append] at this; omega) ?_
  intro D c h8 tk8
  refine keys_all fun ws hws F8 N8 l8 => ?_
  clear F9 N9
  have l8' : AllLt D _ := allLt_of l8
  k_steps
  rename Fr _ _ _ _ => F7
  rename News _ _ _ _ => N7
  refine hret D _ _ ws c F7 (fun p hp => N7 p ?_) hws (by obtain ⟨_, _, _, _, _, _, hn⟩ := ho; exact hn) (off1_of fun p hp => Nat.ne_of_lt (l8 p ?_))
  · rcases List.mem_cons.mp hp with rfl | hp
    · exact .head _
    · exact .tail _ (.tail _ (.tail _ hp))
  · exact .tail _ (.tail _ hp)
end
end
section
section
open LC
variable {m : Str → Option Value} {s : Shared} {Q : Flow → Shared → Prop} {T : List (Addr × Obj)}
theorem law8 {oc : Obj} (B : Below callerA base [] h₀) (F : Fr h₀ L s.heap m) (X : (Mine.hd.heap_1 w.params).In h₀) (XB : KBIn w h₀) (TG : Top topProg LSG mean mg mb h₀) (N : News h₀ L s.heap ((cb, oc) :: T)) (hoc : oc.data = .cell none) (tcb : ∀ p ∈ T, p.1 ≠ cb)
    (hret : ∀ d o oc' h' tk', Fr h₀ L h' m → News h₀ L h' ((d, o) :: (cb, oc') :: T) → o.IsDictOf (PySem.strKind PySem.Challenge.rw_ik0192_01.prog w) [] → oc'.data = .cell (some (.ref d)) → LCg.Off1 d ((cb, oc') :: T) → Q .next { s with heap := h', toks := tk' }) :
    wpAny (model PySem.Challenge.rw_ik0192_01.prog w) (lawA w.params gd L fa cd cm cr co cb) (exec (lawSt w.params 8) (lenv w.params L fa cd cm cr co cb)) Q E s := by
  revert X
  k_fill
  intro X
  have hb := (show lawSt w.params 8 = lawSt w.params 8 from rfl)
  conv at hb => rhs; whnf
  have hsc := (show lawScope w.params = lawScope w.params from rfl)
  conv at hsc => rhs; whnf
  rw [hb, lenv, lawA, hsc]
  clear hb hsc
  k_steps
  rename Fr _ _ _ _ => F1
  rename News _ _ _ _ => N1
  rename (_ ∧ AllLt _ _) => l1
  refine hret _ _ _ _ _ F1 N1 (by assumption) (by assumption) ⟨Nat.ne_of_lt l1.1, off1_of fun p hp => Nat.ne_of_lt (ktn_ltOf l1.2 p hp)⟩
end
end
section
local macro_rules | `(tactic| walk_at "exec For") => `(tactic| ((with_reducible show wpAny _ _ (exec (Stmt.For (Expr.Name _ _) _ _ [] _) _) _ _ _); with_unfolding_all ((rename Fr _ _ _ _ => F'); (rename PassesOwn _ _ _ _ => hE'); (refine For_invVF F' (by rfl) (by rfl) ?_ (hE := hE')))))
local macro_rules | `(tactic| k_upd) => `(tactic| with_reducible assumption)
local macro_rules | `(tactic| k_mem) => `(tactic| with_reducible assumption)
local macro_rules | `(tactic| walk_at "subscriptTail Name Name ref str") => `(tactic| (k_dflt (refine' dict_at (by exact Heap.dictOf_iff.mpr ⟨_, News.get (by k_asm) (by k_mem), by with_reducible assumption⟩) (by with_reducible assumption) ?_)))
local macro_rules | `(tactic| walk_at "subscriptTail Name Subscript ref str") => `(tactic| (k_dflt (refine' dict_at (by exact Heap.dictOf_iff.mpr ⟨_, News.get (by k_asm) (by k_mem), by with_reducible assumption⟩) (by with_reducible assumption) ?_)))
local macro_rules | `(tactic| walk_at "compareOp In str ref") => `(tactic| (refine Stopped.h ?_))
theorem bl_at : ∀ {as : List Addr} {bs : List (List Value × Nat)} {i : Nat} {a : Addr} {b : List Value × Nat}, as.length = bs.length → as[i]? = some a → bs[i]? = some b → (a, lobj b.1 b.2) ∈ BL as bs
  | [], _, _, _, _, _, h, _ => by simp at h
  | _ :: _, [], _, _, _, h, _, _ => by simp at h
  | x :: r, y :: t, 0, a, b, _, h1, h2 => by
    simp at h1 h2
    subst h1 h2
    exact .head _
  | x :: r, y :: t, i + 1, a, b, hl, h1, h2 => .tail _ (bl_at (as := r) (bs := t) (i := i) (by simpa using hl) (by simpa using h1) (by simpa using h2))
section
open LC
variable {m : Str → Option Value} {s : Shared} {Q : Flow → Shared → Prop} {T : List (Addr × Obj)}
theorem law10 {d pl : Addr} {o oc : Obj} {ws : List Value} {ns : List Str} {c : Nat} {as : List Addr} {bs : List (List Value × Nat)} (B : Below callerA base [] h₀) (F : Fr h₀ L s.heap m) (X : (Mine.hd.heap_1 w.params).In h₀) (XB : KBIn w h₀) (TG : Top topProg LSG mean mg mb h₀) (hE : PassesOwn (model PySem.Challenge.rw_ik0192_01.prog w) (lawA w.params gd L fa cd cm cr co cb) (lenv w.params L fa cd cm cr co cb) E) (N : News h₀ L s.heap ((d, o) :: (cb, oc) :: (pl, lobj ws c) :: (BL as bs ++ T)))
    (hm : m (Str.ofString "places") = some (.ref pl)) (hs : StrsAre ws ns) (hn : ns.Nodup) (hz : ns.length ≤ 100) (ho : o.IsDictOf (SK w) (besK ns as)) (hoc : oc.data = .cell (some (.ref d)))
    (hal : as.length = ns.length) (hbs : BsAre bs (outerF ns 0)) (hand : as.Nodup) (hne : ∀ a ∈ as, @Ne Nat a d ∧ @Ne Nat a cb ∧ @Ne Nat a pl) (hT : ∀ a ∈ as, ∀ p ∈ T, p.1 ≠ a) (hcp : ∀ x ∈ ns, ∀ y ∈ ns, CpOk x y)
    (hret : ∀ bs h' tk' m', (∀ y, y ≠ Str.ofString "k" → y ≠ Str.ofString "other" → m' y = m y) → Fr h₀ L h' m' → News h₀ L h' ((d, o) :: (cb, oc) :: (pl, lobj ws c) :: (BL as bs ++ T)) → BsAre bs (outerF ns ns.length) → Q .next { s with heap := h', toks := tk' }) :
    wpAny (model PySem.Challenge.rw_ik0192_01.prog w) (lawA w.params gd L fa cd cm cr co cb) (exec (lawSt w.params 10) (lenv w.params L fa cd cm cr co cb)) Q E s := by
  revert X
  k_fill
  intro X
  have hb := (show lawSt w.params 10 = lawSt w.params 10 from rfl)
  conv at hb => rhs; whnf
  have hsc := (show lawScope w.params = lawScope w.params from rfl)
  conv at hsc => rhs; whnf
  rw [lenv, lawA, hsc] at hE
  rw [hb, lenv, lawA, hsc]
  clear hb hsc
  have hls : s.heap.IsList pl ws.toArray := N.isList (.tail _ (.tail _ (.head _)))
  have hzw : ws.length ≤ 100000 := by rw [hs.len_eq]; omega
  obtain ⟨R, hR⟩ : ∃ R, R = BL as bs ++ T := ⟨_, rfl⟩
  rw [← hR] at N
  k_steps
  clear hls
  refine ⟨?_⟩
  rename Fr _ _ _ _ => Fl
  rename News _ _ _ _ => Nl
  rename IsRange _ _ _ _ _ _ _ _ => hRg
  refine' for_rng [Str.ofString "other"] (fun i u nw => ∃ bs, nw = (d, o) :: (cb, oc) :: (pl, lobj ws c) :: (BL as bs ++ T) ∧ BsAre bs (outerF ns i)) rfl hRg (rng_small hzw) (rng_size _) Fl Nl rfl ⟨bs, by rw [hR], hbs⟩ ?turn ?done
  case done =>
    intro u nw h tk ip4_ F1 N1
    refine hidG fun G_ hG_ => ?_
    obtain ⟨bs, rfl, hb⟩ := ip4_
    refine hG_ ?_
    clear hG_
    rw [hs.len_eq] at hb
    exact hret bs h tk _ (fun y h1 h2 => (if_neg h1).trans (ovm1_off h2)) F1 N1 hb
  case turn =>
    intro i t u nw h tk I oI hi ip9_ F1 N1 off1
    refine hidG fun G_ hG_ => ?_
    obtain ⟨bs, rfl, hb⟩ := ip9_
    refine hG_ ?_
    clear hG_
    have hin : i < ns.length := by rw [← hs.len_eq]; exact hi
    rw [Int.zero_add] at F1
    clear hbs hR Fl Nl hRg
    obtain ⟨R, hR⟩ : ∃ R, R = BL as bs ++ T := ⟨_, rfl⟩
    rw [← hR] at N1 off1
    have offd : @Ne Nat d I := off1 (d, o) (.head _)
    have offcb : @Ne Nat cb I := off1 (cb, oc) (.tail _ (.head _))
    have offpl : @Ne Nat pl I := off1 (pl, lobj ws c) (.tail _ (.tail _ (.head _)))
    have hls : h.IsList pl ws.toArray := N1.isList (.tail _ (.tail _ (.tail _ (.head _))))
    k_steps
    refine ⟨?_⟩
    rename Fr _ _ _ _ => F2
    rename News _ _ _ _ => N2
    rename (_ ∧ _ ∧ _ ∧ _ ∧ AllLt _ _) => l2
    rename Addr => D2
    rename Heap => h2
    have e1 : ((i : Int) + 1).toNat = i + 1 := by omega
    rw [e1] at N2
    refine hidG fun G_ hG_ => ?_
    obtain ⟨lI, ld, lcb, lpl, lR⟩ := l2
    refine hG_ ?_
    clear hG_
    have lR := ktn_ltOf lR
    clear N1 hls
    have hlb0 : bs.length = ns.length := by rw [hb.1, outerF_len]
    have nD2 : ∀ a ∈ as, @Ne Nat D2 a := fun a ha => by
      refine hidG fun G_ hG_ => ?_
      obtain ⟨p, hp, e⟩ := bl_has (bs := bs) (by omega) a ha
      refine hG_ ?_
      clear hG_
      exact e ▸ Ne.symm (Nat.ne_of_lt (lR p (hR ▸ List.mem_append_left _ hp)))
    have nI : ∀ a ∈ as, @Ne Nat I a := fun a ha => by
      refine hidG fun G_ hG_ => ?_
      obtain ⟨p, hp, e⟩ := bl_has (bs := bs) (by omega) a ha
      refine hG_ ?_
      clear hG_
      exact e ▸ Ne.symm (off1 p (.tail _ (.tail _ (.tail _ (hR ▸ List.mem_append_left _ hp)))))
    refine' for_src (ax := D2) (its := ws.drop (i + 1)) (n := 0) (oax := lobj (ws.drop (i + 1)) 0) [] (fun q u nw => ∃ bs, nw = (D2, lobj (ws.drop (i + 1)) 0) :: (I, oI) :: (d, o) :: (cb, oc) :: (pl, lobj ws c) :: (BL as bs ++ T) ∧ BsAre bs (innerF ns i q (outerF ns i))) rfl rfl rfl F2 N2 rfl (.inr (.head _)) ⟨bs, by rw [hR], hb⟩ ?hS ?turn ?done
    case hS => rintro q u nw ⟨_, rfl, _⟩; exact .inr (.head _)
    case done =>
      intro u nw h tk ip4_ F1 N1
      refine hidG fun G_ hG_ => ?_
      obtain ⟨bs, rfl, hb⟩ := ip4_
      refine hG_ ?_
      clear hG_
      rw [List.length_drop, hs.len_eq, ← outerF_succ] at hb
      k_steps
      try dsimp only [TurnPostX]
      refine TurnEndX.mk F1 N1 _ (fun p hp => .tail _ hp) ?_ (fun z h1 h2 => ?_) ⟨bs, rfl, hb⟩
      · intro p hp
        rcases List.mem_cons.mp hp with rfl | hp
        · exact offd
        rcases List.mem_cons.mp hp with rfl | hp
        · exact offcb
        rcases List.mem_cons.mp hp with rfl | hp
        · exact offpl
        rcases List.mem_append.mp hp with hp | hp
        · exact fun e => nI _ (bl_fst p hp) e.symm
        · exact off1 p (.tail _ (.tail _ (.tail _ (hR ▸ List.mem_append_right _ hp))))
      · have h3 : z ≠ Str.ofString "other" := by simpa using h2
        exact (if_neg h3).trans ((if_neg h1).trans (ovm1_off h3))
    case turn =>
      intro q v u2 nw h tk I2 oI2 hv ip9_ F1 N1 off2
      refine hidG fun G_ hG_ => ?_
      obtain ⟨bs, rfl, hb⟩ := ip9_
      refine hG_ ?_
      clear hG_
      clear hR
      obtain ⟨R, hR⟩ : ∃ R, R = BL as bs ++ T := ⟨_, rfl⟩
      rw [← hR] at N1 off2
      rw [List.getElem?_drop] at hv
      refine hidG fun G_ hG_ => ?_
      obtain ⟨y, ty, rfl, hy⟩ := hs.item _ v hv
      refine hG_ ?_
      clear hG_
      have hjn : i + 1 + q < ns.length := (List.getElem?_eq_some_iff.mp hy).1
      obtain ⟨x, hx⟩ : ∃ x, ns[i]? = some x := ⟨_, List.getElem?_eq_getElem hin⟩
      obtain ⟨xv, hxv⟩ : ∃ xv, ws[i]? = some xv := ⟨_, List.getElem?_eq_getElem hi⟩
      refine hidG fun G_ hG_ => ?_
      obtain ⟨x', tx, rfl, hx'⟩ := hs.item i xv hxv
      refine hG_ ?_
      clear hG_
      obtain rfl : x' = x := Option.some.inj (hx'.symm.trans hx)
      obtain ⟨ai, hai⟩ : ∃ a, as[i]? = some a := ⟨_, List.getElem?_eq_getElem (Nat.lt_of_lt_of_eq hin hal.symm)⟩
      obtain ⟨aj, haj⟩ : ∃ a, as[i + 1 + q]? = some a := ⟨_, List.getElem?_eq_getElem (Nat.lt_of_lt_of_eq hjn hal.symm)⟩
      have hlbs : bs.length = ns.length := by rw [hb.1, innerF_len, outerF_len]
      obtain ⟨bi, hbi⟩ : ∃ b, bs[i]? = some b := ⟨_, List.getElem?_eq_getElem (Nat.lt_of_lt_of_eq hin hlbs.symm)⟩
      have hvi := besK_at hn hx hai
      have hvj := besK_at hn hy haj
      have mai := List.mem_of_getElem? hai
      have maj := List.mem_of_getElem? haj
      have hls : h.IsList pl ws.toArray := N1.isList (.tail _ (.tail _ (.tail _ (.tail _ (.tail _ (.head _))))))
      clear F2 N2
      k_steps
      refine ⟨?_⟩
      rename Fr _ _ _ _ => F3
      rename News _ _ _ _ => N3
      have cp := hcp x' (List.mem_of_getElem? hx) y (List.mem_of_getElem? hy)
      refine spec_val (commonpath0 w _ x' y tx ty cp.hx cp.hy cp.hxl cp.hyl cp.hxs cp.hys cp.hidx cp.hn1 cp.hn2 cp.hjoin) B F3 X XB N3 TG rfl (Nat.le_of_ble_eq_true rfl) (Nat.le_of_ble_eq_true rfl) ⟨_, (N3 _ (.head _)).1⟩ ?_
      intro r h9 tk9 F9 N9 x9 ip6_
      refine hidG fun G_ hG_ => ?_
      obtain ⟨t9, rfl⟩ := ip6_
      refine hG_ ?_
      clear hG_
      have hls : h9.IsList pl ws.toArray := N9.isList (.tail _ (.tail _ (.tail _ (.tail _ (.tail _ (.tail _ (.head _)))))))
      clear F3 N3
      k_steps
      refine ⟨?_⟩
      rename Fr _ _ _ _ => F4
      rename News _ _ _ _ => N4
      refine in_tuple_strs (ys := [x', y]) ⟨_, (N4 _ (.head _)).1, rfl, _, rfl⟩ (.cons _ _ (.cons _ _ .nil)) ?_
      have N5 : News h₀ L _ ((I2, oI2) :: (D2, lobj (ws.drop (i + 1)) 0) :: (I, oI) :: (d, o) :: (cb, oc) :: (pl, lobj ws c) :: R) := fun p hp => N4 p (.tail _ (.tail _ hp))
      clear N4 hls
      have hnear : ([x', y].any fun z => z == cpR x' y) = nearC x' y := rfl
      rw [hnear]
      have gx : ns.getD i Str.empty = x' := by rw [List.getD_eq_getElem?_getD, hx]; rfl
      have gy : ns.getD (i + 1 + q) Str.empty = y := by rw [List.getD_eq_getElem?_getD, hy]; rfl
      have hoff : ∀ p ∈ (D2, lobj (ws.drop (i + 1)) 0) :: (I, oI) :: (d, o) :: (cb, oc) :: (pl, lobj ws c) :: (BL as bs ++ T), p.1 ≠ I2 := by rw [← hR]; exact off2
      cases hnb : nearC x' y with
      | false =>
        k_steps
        rename Fr _ _ _ _ => F6
        try dsimp only [TurnPostX]
        rw [hR] at N5
        refine TurnEndX.mk F6 N5 _ (fun p hp => hp) hoff (fun z h1 _ => if_neg h1) ⟨bs, rfl, ?_⟩
        rw [innerF_succ]; unfold pairStep; rw [gx, gy, hnb]; exact hb
      | true =>
        have hbm := hb
        have hLB := innerF_B (ns := ns) (k := i) (outerF_B (ns := ns) i) q
        have hM : 1 + 2 * ns.length * i + 2 * q ≤ 50000 := by
          have h1 : 2 * ns.length * i ≤ 200 * 100 := Nat.mul_le_mul (Nat.mul_le_mul_left 2 hz) (Nat.le_of_lt (Nat.lt_of_lt_of_le hin hz))
          exact Nat.le_trans (Nat.add_le_add (Nat.add_le_add_left h1 1) (Nat.mul_le_mul_left 2 (Nat.le_trans (Nat.le_add_left q (i + 1)) (Nat.le_of_lt (Nat.lt_of_lt_of_le hjn hz))))) (by decide)
        have hzi : bi.1.length ≤ 100000 := by
          have hil : i < (innerF ns i q (outerF ns i)).length := by rw [← hb.1]; exact Nat.lt_of_lt_of_eq hin hlbs.symm
          have := hb.2 i bi _ hbi (List.getElem?_eq_getElem hil)
          rw [this.len_eq]
          exact Nat.le_trans (Nat.le_trans (hLB _ (List.getElem_mem hil)) hM) (by decide)
        have hRn : ∀ a ∈ as, ∃ p ∈ R, p.1 = a := fun a ha => by
          refine hidG fun G_ hG_ => ?_
          obtain ⟨p, hp, e⟩ := bl_has (bs := bs) (hal.trans hlbs.symm) a ha
          refine hG_ ?_
          clear hG_
          exact ⟨p, hR ▸ List.mem_append_left _ hp, e⟩
        have nI2 : ∀ a ∈ as, @Ne Nat I2 a := fun a ha => by
          refine hidG fun G_ hG_ => ?_
          obtain ⟨p, hp, e⟩ := hRn a ha
          refine hG_ ?_
          clear hG_
          exact e ▸ Ne.symm (off2 p (.tail _ (.tail _ (.tail _ (.tail _ (.tail _ hp))))))
        have b1 := nI2 ai mai
        have b2 := nD2 ai mai
        have b3 := nI ai mai
        refine hidG fun G_ hG_ => ?_
        obtain ⟨b4, b5, b6⟩ := hne ai mai
        refine hG_ ?_
        clear hG_
        have c1 := nI2 aj maj
        have c2 := nD2 aj maj
        have c3 := nI aj maj
        refine hidG fun G_ hG_ => ?_
        obtain ⟨c4, c5, c6⟩ := hne aj maj
        refine hG_ ?_
        clear hG_
        have hij : i ≠ i + 1 + q := by omega
        have U1 : Upd ai (lobj bi.1 bi.2) (lobj (bi.1 ++ [.str y ty]) (bi.2 + 1)) R _ := hR ▸ upd_bl (hal.trans hlbs.symm) hand hai hbi (hT ai mai)
        have hb1 : BsAre _ _ := bs_app (x := y) (t := ty) hb hbi
        obtain ⟨bs1, hbs1⟩ : ∃ bs1, bs1 = bs.set i (bi.1 ++ [.str y ty], bi.2 + 1) := ⟨_, rfl⟩
        rw [← hbs1] at hb1 U1
        have hl1 : bs1.length = ns.length := by rw [hbs1, List.length_set]; exact hlbs
        obtain ⟨bj, hbj⟩ : ∃ b, bs1[i + 1 + q]? = some b := ⟨_, List.getElem?_eq_getElem (Nat.lt_of_lt_of_eq hjn hl1.symm)⟩
        have U2 := upd_bl (T := T) (v := bj.1 ++ [.str x' tx]) (n := bj.2 + 1) (hal.trans hl1.symm) hand haj hbj (hT aj maj)
        have hb2 : BsAre _ _ := bs_app (x := x') (t := tx) hb1 hbj
        have hzj : bj.1.length ≤ 100000 := by
          have hjl : i + 1 + q < (appAt (innerF ns i q (outerF ns i)) i y).length := by rw [← hb1.1]; exact Nat.lt_of_lt_of_eq hjn hl1.symm
          have := hb1.2 (i + 1 + q) bj _ hbj (List.getElem?_eq_getElem hjl)
          rw [this.len_eq]
          have := appAt_B hLB (i := i) (x := y) _ (List.getElem_mem hjl)
          omega
        obtain ⟨R1, hR1⟩ : ∃ R1, R1 = BL as bs1 ++ T := ⟨_, rfl⟩
        obtain ⟨R2, hR2⟩ : ∃ R2, R2 = BL as (bs1.set (i + 1 + q) (bj.1 ++ [.str x' tx], bj.2 + 1)) ++ T := ⟨_, rfl⟩
        rw [← hR1] at U1 U2
        rw [← hR2] at U2
        have mR : List.Mem (ai, W.listOf bi.1.toArray bi.2) R := hR ▸ List.mem_append_left _ (bl_at (hal.trans hlbs.symm) hai hbi)
        have mR1 : List.Mem (aj, W.listOf bj.1.toArray bj.2) R1 := hR1 ▸ List.mem_append_left _ (bl_at (hal.trans hl1.symm) haj hbj)
        clear hb hbm hLB
        k_steps
        rename Fr _ _ _ _ => F6
        rename News _ _ _ _ => N6
        try dsimp only [TurnPostX]
        rw [hR2] at N6
        refine TurnEndX.mk F6 N6 _ (fun p hp => hp) ?_ (fun z h1 _ => if_neg h1) ⟨_, rfl, ?_⟩
        · intro p hp
          rcases List.mem_cons.mp hp with rfl | hp
          · exact hoff (D2, _) (.head _)
          rcases List.mem_cons.mp hp with rfl | hp
          · exact hoff (I, _) (.tail _ (.head _))
          rcases List.mem_cons.mp hp with rfl | hp
          · exact hoff (d, _) (.tail _ (.tail _ (.head _)))
          rcases List.mem_cons.mp hp with rfl | hp
          · exact hoff (cb, _) (.tail _ (.tail _ (.tail _ (.head _))))
          rcases List.mem_cons.mp hp with rfl | hp
          · exact hoff (pl, _) (.tail _ (.tail _ (.tail _ (.tail _ (.head _)))))
          rcases List.mem_append.mp hp with hp | hp
          · exact fun e => nI2 _ (bl_fst p hp) e.symm
          · exact hoff p (.tail _ (.tail _ (.tail _ (.tail _ (.tail _ (List.mem_append_right _ hp))))))
        · rw [innerF_succ]; unfold pairStep; rw [gx, gy, hnb]; exact hb2
end
end
section
section
open LC
variable {m : Str → Option Value} {s : Shared} {Q : Flow → Shared → Prop} {T : List (Addr × Obj)}
theorem law18 (B : Below callerA base [] h₀) (F : Fr h₀ L s.heap m) (X : (Mine.hd.heap_1 w.params).In h₀) (XB : KBIn w h₀) (TG : Top topProg LSG mean mg mb h₀) (hret : ∀ tk', Q (.ret (.bool true)) { s with toks := tk' }) : wpAny (model PySem.Challenge.rw_ik0192_01.prog w) (lawA w.params gd L fa cd cm cr co cb) (exec (lawSt w.params 18) (lenv w.params L fa cd cm cr co cb)) Q E s := by
  revert X
  k_fill
  intro X
  have hb := (show lawSt w.params 18 = lawSt w.params 18 from rfl)
  conv at hb => rhs; whnf
  have hsc := (show lawScope w.params = lawScope w.params from rfl)
  conv at hsc => rhs; whnf
  rw [hb, lenv, lawA, hsc]
  clear hb hsc
  k_steps
  exact hret _
end
theorem bes_at (w : World) {cb d : Addr} {oc o : Obj} {ns : List Str} {as : List Addr} {bs : List (List Value × Nat)} {T : List (Addr × Obj)} {h₀ g : Heap} (hg : Kept h₀ T g) (h1 : (cb, oc) ∈ T) (h2 : (d, o) ∈ T) (h3 : ∀ p ∈ BL as bs, p ∈ T) (hoc : oc.data = .cell (some (.ref d))) (ho : o.IsDictOf (SK w) (besK ns as))
    (hal : as.length = ns.length) (hn : ns.Nodup) (hbs : BsAre bs (outerF ns ns.length)) : BesAt w cb ns (nbF ns) g := by
  refine ⟨oc, d, besK ns as, hg.2 _ h1, hoc, Heap.dictOf_iff.mpr ⟨o, hg.2 _ h2, ho⟩, fun p hp => ?_⟩
  have hi := List.idxOf_lt_length_of_mem hp
  have gp : ns[ns.idxOf p]? = some p := by rw [List.getElem?_eq_getElem hi, List.getElem_idxOf hi]
  have hbl : bs.length = ns.length := by rw [hbs.1, outerF_len]
  obtain ⟨a, ha⟩ : ∃ a, as[ns.idxOf p]? = some a := ⟨_, List.getElem?_eq_getElem (by omega)⟩
  obtain ⟨b, hb⟩ : ∃ b, bs[ns.idxOf p]? = some b := ⟨_, List.getElem?_eq_getElem (by omega)⟩
  have ho : ns.idxOf p < (outerF ns ns.length).length := by rw [outerF_len]; exact hi
  refine ⟨a, b.1, b.2, besK_at hn gp ha, hg.2 (a, lobj b.1 b.2) (h3 _ (bl_at (by omega) ha hb)), ?_⟩
  have := hbs.2 _ b _ hb (List.getElem?_eq_getElem ho)
  unfold nbF
  rw [List.getD_eq_getElem?_getD, List.getElem?_eq_getElem ho]
  exact this
theorem pls_mem {ns : List Str} : ∀ x, x ∈ plsOf ns ↔ x ∈ ns := by
  have gen : ∀ (l : List Str) (acc : List (Str × Value)) (x : Str), x ∈ (l.foldl (fun acc x => stored acc x Value.none) acc).map (·.1) ↔ x ∈ acc.map (·.1) ∨ x ∈ l := by
    intro l
    induction l with
    | nil => intro acc x; simp
    | cons y l ih =>
      intro acc x
      rw [List.foldl_cons, ih, List.mem_cons]
      have : x ∈ (stored acc y Value.none).map (·.1) ↔ x ∈ acc.map (·.1) ∨ x = y := by
        unfold stored
        split
        · next h =>
          refine hidG fun G_ hG_ => ?_
          obtain ⟨kv, hkv, e⟩ := List.any_eq_true.mp h
          refine hG_ ?_
          clear hG_
          have e := of_decide_eq_true e
          have : ((acc.map fun kv => if kv.1 = y then (kv.1, Value.none) else kv).map (·.1)) = acc.map (·.1) := by
            rw [List.map_map]
            refine List.map_congr_left fun z _ => ?_
            show (if z.1 = y then (z.1, Value.none) else z).1 = z.1
            split <;> rfl
          rw [this]
          constructor
          · exact .inl
          · rintro (h | rfl)
            · exact h
            · exact List.mem_map.mpr ⟨kv, hkv, e⟩
        · simp
      rw [this]
      constructor
      · rintro ((h | h) | h)
        · exact .inl h
        · exact .inr (.inl h)
        · exact .inr (.inr h)
      · rintro (h | h | h)
        · exact .inl (.inl h)
        · exact .inl (.inr h)
        · exact .inr h
  intro x
  unfold plsOf fkOf
  rw [gen]
  simp
end
section
section
open LC
variable {m : Str → Option Value} {s : Shared} {Q : Flow → Shared → Prop} {T : List (Addr × Obj)}
theorem law_tail {la1 la2 : Addr} {vs1 vs2 : List Value} {n1 n2 : Nat} {f1 f2 : List Str} {om or' oo ob : Obj} (B : Below callerA base [] h₀) (F : Fr h₀ L s.heap m) (X : (Mine.hd.heap_1 w.params).In h₀) (XB : KBIn w h₀) (TG : Top topProg LSG mean mg mb h₀) (hE : PassesOwn (model PySem.Challenge.rw_ik0192_01.prog w) (lawA w.params gd L fa cd cm cr co cb) (lenv w.params L fa cd cm cr co cb) E) (C : CodeHd h₀ 210 208) (hcd : cd = .ref 210)
    (N : News h₀ L s.heap [(la1, lobj vs1 n1), (la2, lobj vs2 n2), (45, tabObj #[]), (208, tabObj #[]), (cm, om), (cr, or'), (co, oo), (cb, ob)]) (hom : om.data = .cell none) (hor : or'.data = .cell none) (hoo : oo.data = .cell none) (hob : ob.data = .cell none)
    (e1 : @Ne Nat cm 45 ∧ @Ne Nat cr 45 ∧ @Ne Nat co 45 ∧ @Ne Nat cb 45 ∧ @Ne Nat la1 45 ∧ @Ne Nat la2 45) (e2 : @Ne Nat cm 208 ∧ @Ne Nat cr 208 ∧ @Ne Nat co 208 ∧ @Ne Nat cb 208 ∧ @Ne Nat la1 208 ∧ @Ne Nat la2 208)
    (e3 : @Ne Nat cm cr ∧ @Ne Nat cm co ∧ @Ne Nat cm cb ∧ @Ne Nat cr co ∧ @Ne Nat cr cb ∧ @Ne Nat co cb) (e4 : @Ne Nat la1 cm ∧ @Ne Nat la1 cr ∧ @Ne Nat la1 co ∧ @Ne Nat la1 cb ∧ @Ne Nat la2 cm ∧ @Ne Nat la2 cr ∧ @Ne Nat la2 co ∧ @Ne Nat la2 cb ∧ @Ne Nat la1 la2)
    (hm1 : m (Str.ofString "first") = some (.ref la1)) (hm2 : m (Str.ofString "second") = some (.ref la2)) (hs1 : StrsAre vs1 f1) (hs2 : StrsAre vs2 f2) (hf1 : ∀ t ∈ f1, LawTx t) (hf2 : ∀ t ∈ f2, LawTx t) (z1 : f1.length ≤ 7) (z2 : f2.length ≤ 7) (z0 : 0 < f1.length)
    (hret : ∀ h' tk' m', Fr h₀ L h' m' → (∃ ps, h'.get? 45 = some (tabObj ps)) → (∃ ps, h'.get? 208 = some (tabObj ps)) → Q (.ret (.bool true)) { s with heap := h', toks := tk' }) :
    wpAny (model PySem.Challenge.rw_ik0192_01.prog w) (lawA w.params gd L fa cd cm cr co cb) (execs [lawSt w.params 5, lawSt w.params 6, lawSt w.params 7, lawSt w.params 8, lawSt w.params 9, lawSt w.params 10, lawSt w.params 11, lawSt w.params 12, lawSt w.params 13, lawSt w.params 14, lawSt w.params 15, lawSt w.params 16, lawSt w.params 17, lawSt w.params 18] (lenv w.params L fa cd cm cr co cb)) Q E s := by
  refine hidG fun G_ hG_ => ?_
  obtain ⟨_, _, _, _, _, _⟩ := e1
  refine hG_ ?_
  clear hG_
  refine hidG fun G_ hG_ => ?_
  obtain ⟨_, _, _, _, _, _⟩ := e2
  refine hG_ ?_
  clear hG_
  refine hidG fun G_ hG_ => ?_
  obtain ⟨_, _, _, _, _, _⟩ := e3
  refine hG_ ?_
  clear hG_
  refine hidG fun G_ hG_ => ?_
  obtain ⟨_, _, _, _, _, _, _, _, _⟩ := e4
  refine hG_ ?_
  clear hG_
  refine ex_cons (law5 (T := [(la2, lobj vs2 n2), (45, tabObj #[]), (208, tabObj #[]), (cm, om), (cr, or'), (co, oo), (cb, ob)]) B F X XB TG N hm1 hs1 (by omega) (fun t ht => tx_rooted (hf1 t ht)) ?_)
  intro D1 h1 tk1 ws1 F1 N1 hw1 off1
  simp only [LCg.Off1, and_true] at off1
  refine hidG fun G_ hG_ => ?_
  obtain ⟨_, _, _, _, _, _, _, _⟩ := off1
  refine hG_ ?_
  clear hG_
  refine ex_cons (law6 (la := la2) (vs := vs2) (n := n2) (T := [(D1, LCg.lst ws1), (la1, lobj vs1 n1), (45, tabObj #[]), (208, tabObj #[]), (cm, om), (cr, or'), (co, oo), (cb, ob)]) B F1 X XB TG (news_sub N1 (by walk_at "SUBS")) (by walk_at "LOOKM") hs2 (by omega) (fun t ht => tx_rooted (hf2 t ht)) ?_)
  intro D2 h2 tk2 ws2 F2 N2 hw2 off2
  simp only [LCg.Off1, and_true] at off2
  refine hidG fun G_ hG_ => ?_
  obtain ⟨_, _, _, _, _, _, _, _, _⟩ := off2
  refine hG_ ?_
  clear hG_
  refine ex_cons (law7 (T := [(la1, lobj vs1 n1), (la2, lobj vs2 n2), (45, tabObj #[]), (208, tabObj #[]), (cm, om), (cr, or'), (co, oo), (cb, ob)]) B F2 X XB TG (a1 := D1) (v1 := ws1) (k1 := ws1.length) (a2 := D2) (v2 := ws2) (k2 := ws2.length) (news_sub N2 (by walk_at "SUBS")) (by walk_at "LOOKM") (by walk_at "LOOKM") hw1 hw2 (by rw [List.length_map]; omega) (by rw [List.length_map]; omega) ?_)
  intro D3 h3 tk3 ws3 c3 F3 N3 hw3 hnd off3
  simp only [LCg.Off1, and_true] at off3
  refine hidG fun G_ hG_ => ?_
  obtain ⟨_, _, _, _, _, _, _, _, _, _⟩ := off3
  refine hG_ ?_
  clear hG_
  obtain ⟨pls, hpls⟩ : ∃ pls, pls = plsOf (f1.map nrm ++ f2.map nrm) := ⟨_, rfl⟩
  rw [← hpls] at hw3 hnd
  have plen : pls.length ≤ 14 := by
    have := plsOf_len (f1.map nrm ++ f2.map nrm)
    rw [← hpls, List.length_append, List.length_map, List.length_map] at this
    omega
  have pmem : ∀ p, p ∈ pls ↔ p ∈ f1.map nrm ++ f2.map nrm := fun p => by rw [hpls]; exact pls_mem p
  have mem1 : ∀ t ∈ f1, nrm t ∈ pls := fun t ht => (pmem _).mpr (List.mem_append_left _ (List.mem_map.mpr ⟨t, ht, rfl⟩))
  have mem2 : ∀ t ∈ f2, nrm t ∈ pls := fun t ht => (pmem _).mpr (List.mem_append_right _ (List.mem_map.mpr ⟨t, ht, rfl⟩))
  have hns : ∀ p ∈ pls, ∃ l, Nm l ∧ p = txN l := fun p hp => by
    rcases List.mem_append.mp ((pmem p).mp hp) with hp | hp
    · refine hidG fun G_ hG_ => ?_
      obtain ⟨t, ht, rfl⟩ := List.mem_map.mp hp
      refine hG_ ?_
      clear hG_
      exact ⟨_, tx_nm (hf1 t ht), tx_nrm (hf1 t ht)⟩
    · refine hidG fun G_ hG_ => ?_
      obtain ⟨t, ht, rfl⟩ := List.mem_map.mp hp
      refine hG_ ?_
      clear hG_
      exact ⟨_, tx_nm (hf2 t ht), tx_nrm (hf2 t ht)⟩
  have hcp : ∀ x ∈ pls, ∀ y ∈ pls, CpOk x y := fun x hx y hy => by
    refine hidG fun G_ hG_ => ?_
    obtain ⟨l, hl, rfl⟩ := hns x hx
    refine hG_ ?_
    clear hG_
    refine hidG fun G_ hG_ => ?_
    obtain ⟨l', hl', rfl⟩ := hns y hy
    refine hG_ ?_
    clear hG_
    exact cp_ok hl hl'
  refine ex_cons (law8 (T := [(D3, lobj ws3 c3), (D1, LCg.lst ws1), (D2, LCg.lst ws2), (la1, lobj vs1 n1), (la2, lobj vs2 n2), (45, tabObj #[]), (208, tabObj #[]), (cm, om), (cr, or'), (co, oo)]) B F3 X XB TG (news_sub N3 (by walk_at "SUBS")) hob (by walk_at "OFFS") ?_)
  intro d o oc h4 tk4 F4 N4 ho hoc off4
  simp only [LCg.Off1, and_true] at off4
  refine hidG fun G_ hG_ => ?_
  obtain ⟨_, _, _, _, _, _, _, _, _, _, _⟩ := off4
  refine hG_ ?_
  clear hG_
  obtain ⟨T9, hT9⟩ : ∃ T9 : List (Addr × Obj), T9 = [(D1, LCg.lst ws1), (D2, LCg.lst ws2), (la1, lobj vs1 n1), (la2, lobj vs2 n2), (45, tabObj #[]), (208, tabObj #[]), (cm, om), (cr, or'), (co, oo)] := ⟨_, rfl⟩
  refine ex_cons (law9 (d := d) (o := o) (oc := oc) (pl := D3) (ws := ws3) (c := c3) (T := T9) B F4 X XB TG hE (news_sub N4 (by rw [hT9]; first | (walk_at "SUBS") | grind)) (by walk_at "LOOKM") hw3 hnd (by omega) ho hoc (by walk_at "NE") (by walk_at "NE") (by rw [hT9]; walk_at "OFFS") ?_)
  intro o2 as bs h5 tk5 u F5 N5 ho2 hal hbs hand hne hT
  refine ex_cons (law10 (T := T9) B F5 X XB TG hE N5 (by walk_at "LOOKM") hw3 hnd (by omega) ho2 hoc hal hbs hand hne hT hcp ?_)
  intro bs2 h6 tk6 m' hm' F6 N6 hbs2
  have hal2 : as.length = bs2.length := by rw [hal, hbs2.1, outerF_len]
  have n9 : ∀ a ∈ as, @Ne Nat a cm ∧ @Ne Nat a cr ∧ @Ne Nat a co ∧ @Ne Nat a 45 ∧ @Ne Nat a 208 := fun a ha => by
    have q := hT a ha
    rw [hT9] at q
    exact ⟨Ne.symm (q (cm, om) (by simp)), Ne.symm (q (cr, or') (by simp)), Ne.symm (q (co, oo) (by simp)), Ne.symm (q (45, tabObj #[]) (by simp)), Ne.symm (q (208, tabObj #[]) (by simp))⟩
  obtain ⟨X9, hX9⟩ : ∃ X9, X9 = BL as bs2 := ⟨_, rfl⟩
  have x1 : ∀ p ∈ X9, p.1 ≠ cm := fun p hp => (n9 _ (bl_fst p (hX9 ▸ hp))).1
  have x2 : ∀ p ∈ X9, p.1 ≠ cr := fun p hp => (n9 _ (bl_fst p (hX9 ▸ hp))).2.1
  have x3 : ∀ p ∈ X9, p.1 ≠ co := fun p hp => (n9 _ (bl_fst p (hX9 ▸ hp))).2.2.1
  have x4 : ∀ p ∈ X9, p.1 ≠ 45 := fun p hp => (n9 _ (bl_fst p (hX9 ▸ hp))).2.2.2.1
  have x5 : ∀ p ∈ X9, p.1 ≠ 208 := fun p hp => (n9 _ (bl_fst p (hX9 ▸ hp))).2.2.2.2
  rw [hT9, ← hX9] at N6
  obtain ⟨T11, hT11⟩ : ∃ T11 : List (Addr × Obj), T11 = (d, o2) :: (cb, oc) :: (D3, lobj ws3 c3) :: (X9 ++ [(D1, LCg.lst ws1), (D2, LCg.lst ws2), (la1, lobj vs1 n1), (la2, lobj vs2 n2)]) := ⟨_, rfl⟩
  refine ex_cons (law11 (om := om) (or' := or') (oo := oo) (T := T11) B F6 X XB TG C hcd (news_sub N6 (by rw [hT11]; walk_at "SUBS")) hom (by rw [hT11]; walk_at "OFFS") (by rw [hT11]; walk_at "OFFS") (by rw [hT11]; walk_at "OFFS") (by rw [hT11]; walk_at "OFFS") (by rw [hT11]; walk_at "OFFS") (by walk_at "NE") (by walk_at "NE") (by walk_at "NE") (by walk_at "NE") (by walk_at "NE") (by walk_at "NE") (by walk_at "NE") (by walk_at "NE") (by walk_at "NE") ?_)
  intro k la cmK om' TA c' h7 tk7 F7 N7 hom' sub ip12_ offA facts
  refine hidG fun G_ hG_ => ?_
  obtain ⟨ps45, m45⟩ := ip12_
  refine hG_ ?_
  clear hG_
  have w1 : (D1, LCg.lst ws1) ∈ TA := sub _ (by rw [hT11]; walk_at "MEMS")
  have w2 : (D2, LCg.lst ws2) ∈ TA := sub _ (by rw [hT11]; walk_at "MEMS")
  have w3 : (la1, lobj vs1 n1) ∈ TA := sub _ (by rw [hT11]; walk_at "MEMS")
  have w4 : (la2, lobj vs2 n2) ∈ TA := sub _ (by rw [hT11]; walk_at "MEMS")
  have w5 : (d, o2) ∈ TA := sub _ (by rw [hT11]; walk_at "MEMS")
  have w6 : (cb, oc) ∈ TA := sub _ (by rw [hT11]; walk_at "MEMS")
  have w7 : ∀ p ∈ BL as bs2, p ∈ TA := fun p hp => sub _ (by rw [hT11]; rw [← hX9] at hp; walk_at "MEMS")
  have hK : ∀ g, Kept h₀ TA g → KAt w vnLaw cmK k g ∧ (∃ oc, g.get? cmK = some oc ∧ oc.data = .cell (some (.ref la))) ∧ LamAt (lam1 w.params) [(Str.ofString "beside", cb)] la g ∧ BesAt w cb pls (nbF pls) g := fun g hg =>
    let ⟨q1, q2, q3⟩ := facts g hg
    ⟨q1, q2, q3, bes_at w hg w6 w5 w7 hoc ho2 hal hnd hbs2⟩
  have a1 : ∀ p ∈ TA, p.1 ≠ 208 := fun p hp => (offA p hp).1
  have a2 : ∀ p ∈ TA, p.1 ≠ cm := fun p hp => (offA p hp).2.1
  have a3 : ∀ p ∈ TA, p.1 ≠ cr := fun p hp => (offA p hp).2.2.1
  have a4 : ∀ p ∈ TA, p.1 ≠ co := fun p hp => (offA p hp).2.2.2
  obtain ⟨tab, htab⟩ : ∃ tab, tab = tabObj #[rawInt 266, rawInt 22, .ref c'] := ⟨_, rfl⟩
  rw [← htab] at N7
  obtain ⟨T12, hT12⟩ : ∃ T12 : List (Addr × Obj), T12 = (208, tab) :: (cr, or') :: (co, oo) :: TA := ⟨_, rfl⟩
  refine ex_cons (law12 (T := T12) (om := om') B F7 X XB TG (news_sub N7 (by rw [hT12]; walk_at "SUBS")) hom' ((hm' _ (by decide) (by decide)).trans (by walk_at "LOOKM")) (by rw [hT12]; walk_at "MEMS") hw1 (by rw [List.length_map]; omega) (fun g hg => (hK g (kept_mono hg (by rw [hT12]; walk_at "SUBS"))).1) ?_)
  intro Da KLa ks h8 tk8 F8 N8 hks apa offa
  have hkl : ks.length = f1.length := by rw [hks.1, List.length_map]
  rw [hT12] at N8 apa offa
  have pa1 : ∀ p ∈ KLa, p.1 ≠ cm := fun p hp => apa p hp (cm, om') (by walk_at "MEMS")
  have pa2 : ∀ p ∈ KLa, p.1 ≠ 208 := fun p hp => apa p hp (208, tab) (by walk_at "MEMS")
  have pa3 : ∀ p ∈ KLa, p.1 ≠ cr := fun p hp => apa p hp (cr, or') (by walk_at "MEMS")
  have pa4 : ∀ p ∈ KLa, p.1 ≠ co := fun p hp => apa p hp (co, oo) (by walk_at "MEMS")
  have pd1 : @Ne Nat cm Da := off1_mem offa (cm, om') (by walk_at "MEMS")
  have pd2 : @Ne Nat 208 Da := off1_mem offa (208, tab) (by walk_at "MEMS")
  have pd3 : @Ne Nat cr Da := off1_mem offa (cr, or') (by walk_at "MEMS")
  have pd4 : @Ne Nat co Da := off1_mem offa (co, oo) (by walk_at "MEMS")
  obtain ⟨T13, hT13⟩ : ∃ T13 : List (Addr × Obj), T13 = (Da, LCg.lst (refs ks)) :: (KLa ++ (cm, om') :: (208, tab) :: (co, oo) :: TA) := ⟨_, rfl⟩
  refine ex_cons (law13 (T := T13) (oc := or') B F8 X XB TG (news_sub N8 (by rw [hT13]; walk_at "SUBS")) hor (by rw [hT13]; walk_at "OFFS") ((if_neg (by decide)).trans ((hm' _ (by decide) (by decide)).trans (by walk_at "LOOKM"))) (by rw [hT13]; walk_at "MEMS") hs1 (by omega) (fun t ht => tx_short (hf1 t ht)) ?_)
  intro Dr KLr ys oc13 h9 tk9 F9 N9 hor13 hrows apr offr
  have r1 := ln_rows hf1
  have hrl : (f1.map lnNames).length = f1.length := List.length_map ..
  rw [hT13] at N9 apr offr
  have pr1 : ∀ p ∈ KLr, p.1 ≠ 208 := fun p hp => apr p hp (208, tab) (by walk_at "MEMS")
  have pr2 : ∀ p ∈ KLr, p.1 ≠ co := fun p hp => apr p hp (co, oo) (by walk_at "MEMS")
  have pe1 : @Ne Nat 208 Dr := off1_mem offr (208, tab) (by walk_at "MEMS")
  have pe2 : @Ne Nat co Dr := off1_mem offr (co, oo) (by walk_at "MEMS")
  obtain ⟨T14, hT14⟩ : ∃ T14 : List (Addr × Obj), T14 = (Dr, LCg.lst ys) :: (KLr ++ (Da, LCg.lst (refs ks)) :: (KLa ++ (cm, om') :: (208, tab) :: (co, oo) :: TA)) := ⟨_, rfl⟩
  refine ex_cons (law14 (T := T14) (oc := oc13) B F9 X XB TG (news_sub N9 (by rw [hT14]; walk_at "SUBS")) hor13 (by rw [hT14]; walk_at "MEMS") (hrows.mono (by rw [hT14]; walk_at "SUBS")) (by omega) r1.1 r1.2 ?_)
  intro Dk vk ck h10 tk10 F10 N10 hidx offk
  rw [hT14] at N10 offk
  have pk1 : @Ne Nat 208 Dk := off1_mem offk (208, tab) (by walk_at "MEMS")
  have pk2 : @Ne Nat co Dk := off1_mem offk (co, oo) (by walk_at "MEMS")
  have kl1 := keptN_len (rows := f1.map lnNames) (f1.map lnNames).length
  obtain ⟨T16, hT16⟩ : ∃ T16 : List (Addr × Obj), T16 = (Dk, lobj vk ck) :: (cr, oc13) :: (Dr, LCg.lst ys) :: (KLr ++ (Da, LCg.lst (refs ks)) :: (KLa ++ (cm, om') :: (co, oo) :: TA)) := ⟨_, rfl⟩
  have u1 : ∀ p ∈ TA, p ∈ T16 := by rw [hT16]; walk_at "SUBS"
  have u2 : ∀ p ∈ KLa, p ∈ T16 := by rw [hT16]; walk_at "SUBS"
  have u3 : (Da, LCg.lst (refs ks)) ∈ T16 := by rw [hT16]; walk_at "MEMS"
  have u4 : (Dk, lobj vk ck) ∈ T16 := by rw [hT16]; walk_at "MEMS"
  have N11 : News h₀ L h10 T16 := news_sub N10 (by rw [hT16]; walk_at "SUBS")
  have N12 : News h₀ L h10 ((208, tab) :: T16) := news_sub N10 (by rw [hT16]; walk_at "SUBS")
  obtain ⟨pl, hpl⟩ := plOf_ex k h10
  have kp := keys_pl (hks.mono u2) (kept_of F10 N11) hpl
  have ko : KO pls pl ks f1 := ko_of hks.1 kp.1 hf1 mem1
  have hself := nb_self hns
  have hP : ∀ g, Kept h₀ T16 g → KP w k cmK la cb pls (nbF pls) ks pl g := fun g hg => by
    refine hidG fun G_ hG_ => ?_
    obtain ⟨q1, q2, q3, q4⟩ := hK g (kept_mono hg u1)
    refine hG_ ?_
    clear hG_
    exact ⟨q1, kp.2 g hg, q2, q3, q4⟩
  have lt1 : ∀ i ∈ keptN (f1.map lnNames) (f1.map lnNames).length, i < ks.length := fun i hi => by
    have := keptN_lt hi; omega
  have mf : ∀ y v, (fun y => if y = Str.ofString "kept" then some (Value.ref Dk) else if y = Str.ofString "ahead" then some (.ref Da) else m' y) y = v → (fun y => if y = Str.ofString "kept" then some (Value.ref Dk) else if y = Str.ofString "ahead" then some (.ref Da) else m' y) y = v := fun _ _ e => e
  obtain ⟨m2, hm2'⟩ : ∃ m2, m2 = (fun y => if y = Str.ofString "kept" then some (Value.ref Dk) else if y = Str.ofString "ahead" then some (.ref Da) else m' y) := ⟨_, rfl⟩
  have F10' : Fr h₀ L h10 m2 := hm2' ▸ F10
  have l1 : m2 (Str.ofString "ahead") = some (.ref Da) := by rw [hm2']; exact (if_neg (by decide)).trans (if_pos rfl)
  have l2 : m2 (Str.ofString "kept") = some (.ref Dk) := by rw [hm2']; exact if_pos rfl
  have l3 : m2 (Str.ofString "other_row") = some (.ref D2) := by rw [hm2']; exact (if_neg (by decide)).trans ((if_neg (by decide)).trans ((hm' _ (by decide) (by decide)).trans (by walk_at "LOOKM")))
  have l4 : m2 (Str.ofString "second") = some (.ref la2) := by rw [hm2']; exact (if_neg (by decide)).trans ((if_neg (by decide)).trans ((hm' _ (by decide) (by decide)).trans (by walk_at "LOOKM")))
  clear mf F10
  refine ex_cons (law15 (T := (208, tab) :: T16) B F10' X XB TG N12 l1 l2 (List.mem_cons_of_mem _ u3) (List.mem_cons_of_mem _ u4) hidx (by omega) lt1 (by omega) (fun g hg => hP g (kept_mono hg fun p hp => List.mem_cons_of_mem _ hp)) ko.plm hself (very_kept hns ko) ?_)
  intro h11 tk11 F11 N13
  rw [htab] at N13
  refine ex_cons (law16 (T := T16) B F11 X XB TG C hcd N13 (by rw [hT16]; walk_at "OFFS") l1 l2 u3 u4 hidx (by omega) (by omega) lt1 (by omega) hP ko.plm hself (very_fold hns ko) ?_)
  intro ps208 h12 tk12 F12 N14
  obtain ⟨T17, hT17⟩ : ∃ T17 : List (Addr × Obj), T17 = (208, tabObj ps208) :: (Dk, lobj vk ck) :: (cr, oc13) :: (Dr, LCg.lst ys) :: (KLr ++ (Da, LCg.lst (refs ks)) :: (KLa ++ (cm, om') :: TA)) := ⟨_, rfl⟩
  have t1 : ∀ p ∈ TA, p ∈ T17 := by rw [hT17]; walk_at "SUBS"
  refine ex_cons (law17 (T := T17) (oo := oo) (om := om') (orw := oc13) (cmK := cmK) (la := la) B F12 X XB TG hE (news_sub N14 (by rw [hT16, hT17]; walk_at "SUBS")) hoo (by rw [hT17]; walk_at "OFFS") l3 l4 l1 l2
    (by rw [hT17]; walk_at "MEMS") hom' (by rw [hT17]; walk_at "MEMS") hor13 (n1 := ys.length) (by rw [hT17]; walk_at "MEMS") (hrows.mono (by rw [hT17]; walk_at "SUBS")) (k2 := ws2.length) (t1 _ w2) hw2 (t1 _ w4) hs2 (nk := (refs ks).length) (by rw [hT17]; walk_at "MEMS") (hks.mono (by rw [hT17]; walk_at "SUBS")) (by rw [hT17]; walk_at "MEMS") hidx
    (fun g hg => hK g (kept_mono hg t1)) hf1 hf2 hns mem1 mem2 z1 z2 ?_)
  intro h13 tk13 m13 F13 N15
  refine ex_cons (law18 B F13 X XB TG fun tk14 => ?_)
  exact hret h13 tk14 _ F13 ⟨_, (N15 _ (t1 _ m45)).1⟩ ⟨_, (N15 (208, tabObj ps208) (by rw [hT17]; exact List.mem_cons_self)).1⟩
end
end
section
local macro_rules | `(tactic| walk_at "call builtin:list.extend") => `(tactic| (k_dflt (refine' extend_L (by k_asm) (by k_asm) (by exact .head _) (by simp) (by k_upd) (by omega) (by exact Nat.le_of_ble_eq_true rfl) ?_); intro h9 F9 N9))
noncomputable def lwT (x : Int) : Str := lawText (x.natAbs / 3 % 216)
noncomputable def lwA (xs : List Int) : List Str := xs.flatMap fun x => if x % 3 ≠ 1 then [lwT x] else []
noncomputable def lwB (xs : List Int) : List Str := xs.flatMap fun x => if x % 3 ≠ 0 then [lwT x] else []
theorem kb45 (P : Params) : (KB P).lookup 45 = none := by kernel_rfl
theorem kb208 (P : Params) : (KB P).lookup 208 = none := by kernel_rfl
theorem lw_arg (x : Int) : ((if x < 0 then -x else x).fdiv 3).fmod 216 = ((x.natAbs / 3 % 216 : Nat) : Int) := by
  have h : (if x < 0 then -x else x) = (x.natAbs : Int) := by split <;> omega
  rw [h, Int.fdiv_eq_ediv_of_nonneg _ (by decide), Int.fmod_eq_emod_of_nonneg _ (by decide)]
  exact rfl
theorem lawtext1 (w : World) (z : Int) (t : Tok) (n : Nat) (hz : z = (n : Int)) (hn : n < 216) : Spec0 w 660 8700 179 [.int z t] (fun _ => True) (fun _ r _ => ∃ t, r = .str (lawText n) t) := by subst hz; exact lawtext0 w n t hn
theorem ints5 {ws : List Value} {xs : List Int} (h : IntsAre ws (List.take 5 xs)) : ∃ ys, IntsAre ws ys ∧ ys.length ≤ 5 := ⟨_, h, List.length_take_le ..⟩
theorem ints_item {vs : List Value} {ns : List Int} (x : IntsAre vs ns) : ∀ (i : Nat) (v : Value), vs[i]? = some v → ∃ x t, v = .int x t ∧ ns[i]? = some x := by
  induction x with
  | nil => intro i v h; simp at h
  | cons n t r ih =>
    intro i v h
    cases i with
    | zero => exact ⟨n, t, by simpa using h.symm, rfl⟩
    | succ i => exact ih i v (by simpa using h)
theorem fm3 (x : Int) : x.fmod 3 = x % 3 := Int.fmod_eq_emod_of_nonneg _ (by decide)
theorem lwA_yes {xs : List Int} {i : Nat} {x : Int} (hx : xs[i]? = some x) (h : x.fmod 3 ≠ 1) : lwA (xs.take (i + 1)) = lwA (xs.take i) ++ [lawText (x.natAbs / 3 % 216)] := by
  rw [fm3] at h
  unfold lwA
  rw [List.take_add_one, hx, Option.toList_some, List.flatMap_append]
  simp [h, lwT]
theorem lwA_no {xs : List Int} {i : Nat} {x : Int} (hx : xs[i]? = some x) (h : x.fmod 3 = 1) : lwA (xs.take (i + 1)) = lwA (xs.take i) := by
  rw [fm3] at h
  unfold lwA
  rw [List.take_add_one, hx, Option.toList_some, List.flatMap_append]
  simp [h]
theorem lwB_yes {xs : List Int} {i : Nat} {x : Int} (hx : xs[i]? = some x) (h : x.fmod 3 ≠ 0) : lwB (xs.take (i + 1)) = lwB (xs.take i) ++ [lawText (x.natAbs / 3 % 216)] := by
  rw [fm3] at h
  unfold lwB
  rw [List.take_add_one, hx, Option.toList_some, List.flatMap_append]
  simp [h, lwT]
theorem lwB_no {xs : List Int} {i : Nat} {x : Int} (hx : xs[i]? = some x) (h : x.fmod 3 = 0) : lwB (xs.take (i + 1)) = lwB (xs.take i) := by
  rw [fm3] at h
  unfold lwB
  rw [List.take_add_one, hx, Option.toList_some, List.flatMap_append]
  simp [h]
theorem lwA_len (xs : List Int) : (lwA xs).length ≤ xs.length := by
  induction xs with
  | nil => simp [lwA]
  | cons x r ih =>
    unfold lwA at ih ⊢
    rw [List.flatMap_cons, List.length_append, List.length_cons]
    split
    · rw [List.length_singleton]; omega
    · rw [List.length_nil]; omega
theorem lwB_len (xs : List Int) : (lwB xs).length ≤ xs.length := by
  induction xs with
  | nil => simp [lwB]
  | cons x r ih =>
    unfold lwB at ih ⊢
    rw [List.flatMap_cons, List.length_append, List.length_cons]
    split
    · rw [List.length_singleton]; omega
    · rw [List.length_nil]; omega
theorem off3R {I a b c : Addr} {oa ob oc oa' ob' oc' : Obj} {T : List (Addr × Obj)} (h : ∀ p ∈ (a, oa) :: (b, ob) :: (c, oc) :: T, p.1 ≠ I) : ∀ p ∈ (a, oa') :: (b, ob') :: (c, oc') :: T, p.1 ≠ I := by
  intro p hp
  rcases List.mem_cons.mp hp with rfl | hp
  · exact h (a, oa) (.head _)
  rcases List.mem_cons.mp hp with rfl | hp
  · exact h (b, ob) (.tail _ (.head _))
  rcases List.mem_cons.mp hp with rfl | hp
  · exact h (c, oc) (.tail _ (.tail _ (.head _)))
  · exact h p (.tail _ (.tail _ (.tail _ hp)))
theorem ints_len {vs : List Value} {ns : List Int} (x : IntsAre vs ns) : vs.length = ns.length := by
  induction x with
  | nil => rfl
  | cons _ _ _ ih => exact congrArg (· + 1) ih
theorem with_tail {h₀ h : Heap} {L : Addr} {l : List (Addr × Obj)} (N : News h₀ L h l) : ∃ R, News h₀ L h (l ++ R) := ⟨[], by rw [List.append_nil]; exact N⟩
section
open LC
variable {m : Str → Option Value} {s : Shared} {Q : Flow → Shared → Prop} {T : List (Addr × Obj)}
theorem law0 (B : Below callerA base [] h₀) (F : Fr h₀ L s.heap m) (X : (Mine.hd.heap_1 w.params).In h₀) (XB : KBIn w h₀) (TG : Top topProg LSG mean mg mb h₀) (N : News h₀ L s.heap T)
    (hret : ∀ la h' tk', Fr h₀ L h' (fun y => if y = Str.ofString "first" then some (.ref la) else m y) → News h₀ L h' ((la, lobj [] 0) :: T) → (∀ p ∈ T, p.1 < la) → Q .next { s with heap := h', toks := tk' }) :
    wpAny (model PySem.Challenge.rw_ik0192_01.prog w) (lawA w.params gd L fa cd cm cr co cb) (exec (lawSt w.params 0) (lenv w.params L fa cd cm cr co cb)) Q E s := by
  revert X
  k_fill
  intro X
  have hb := (show lawSt w.params 0 = lawSt w.params 0 from rfl)
  conv at hb => rhs; whnf
  have hsc := (show lawScope w.params = lawScope w.params from rfl)
  conv at hsc => rhs; whnf
  rw [hb, lenv, lawA, hsc]
  clear hb hsc
  k_steps
  rename Fr _ _ _ _ => F1
  rename News _ _ _ _ => N1
  first | exact hret _ _ _ F1 N1 (by assumption) | (rename AllLt _ _ => l1; exact hret _ _ _ F1 N1 (ktn_ltOf l1))
theorem law1 (B : Below callerA base [] h₀) (F : Fr h₀ L s.heap m) (X : (Mine.hd.heap_1 w.params).In h₀) (XB : KBIn w h₀) (TG : Top topProg LSG mean mg mb h₀) (N : News h₀ L s.heap T)
    (hret : ∀ la h' tk', Fr h₀ L h' (fun y => if y = Str.ofString "second" then some (.ref la) else m y) → News h₀ L h' ((la, lobj [] 0) :: T) → (∀ p ∈ T, p.1 < la) → Q .next { s with heap := h', toks := tk' }) :
    wpAny (model PySem.Challenge.rw_ik0192_01.prog w) (lawA w.params gd L fa cd cm cr co cb) (exec (lawSt w.params 1) (lenv w.params L fa cd cm cr co cb)) Q E s := by
  revert X
  k_fill
  intro X
  have hb := (show lawSt w.params 1 = lawSt w.params 1 from rfl)
  conv at hb => rhs; whnf
  have hsc := (show lawScope w.params = lawScope w.params from rfl)
  conv at hsc => rhs; whnf
  rw [hb, lenv, lawA, hsc]
  clear hb hsc
  k_steps
  rename Fr _ _ _ _ => F1
  rename News _ _ _ _ => N1
  first | exact hret _ _ _ F1 N1 (by assumption) | (rename AllLt _ _ => l1; exact hret _ _ _ F1 N1 (ktn_ltOf l1))
theorem law2 {ax la1 la2 : Addr} {vs : List Value} {ns : List Int} (B : Below callerA base [] h₀) (F : Fr h₀ L s.heap m) (X : (Mine.hd.heap_1 w.params).In h₀) (XB : KBIn w h₀) (TG : Top topProg LSG mean mg mb h₀) (hE : PassesOwn (model PySem.Challenge.rw_ik0192_01.prog w) (lawA w.params gd L fa cd cm cr co cb) (lenv w.params L fa cd cm cr co cb) E) (N : News h₀ L s.heap ((la2, lobj [] 0) :: (la1, lobj [] 0) :: T)) (l12 : @Ne Nat la1 la2) (t1 : ∀ p ∈ T, p.1 ≠ la1) (t2 : ∀ p ∈ T, p.1 ≠ la2)
    (hm0 : m (Str.ofString "script") = some (.ref ax)) (hm1 : m (Str.ofString "first") = some (.ref la1)) (hm2 : m (Str.ofString "second") = some (.ref la2)) (hl : h₀.IsList ax vs.toArray) (hi : IntsAre vs ns) (hz : ns.length ≤ 63)
    (hret : ∀ xs vs1 n1 vs2 n2 h' tk' m', (∀ y, y ≠ Str.ofString "x" → y ≠ Str.ofString "text" → m' y = m y) → Fr h₀ L h' m' → News h₀ L h' ((la2, lobj vs2 n2) :: (la1, lobj vs1 n1) :: T) → StrsAre vs1 (lwA xs) → StrsAre vs2 (lwB xs) → xs.length ≤ 5 → Q .next { s with heap := h', toks := tk' }) :
    wpAny (model PySem.Challenge.rw_ik0192_01.prog w) (lawA w.params gd L fa cd cm cr co cb) (exec (lawSt w.params 2) (lenv w.params L fa cd cm cr co cb)) Q E s := by
  revert X
  k_fill
  intro X
  have hb := (show lawSt w.params 2 = lawSt w.params 2 from rfl)
  conv at hb => rhs; whnf
  have hsc := (show lawScope w.params = lawScope w.params from rfl)
  conv at hsc => rhs; whnf
  rw [lenv, lawA, hsc] at hE
  rw [hb, lenv, lawA, hsc]
  clear hb hsc
  k_steps
  refine ⟨?_⟩
  rename Fr _ _ _ _ => F1
  rename News _ _ _ _ => N1
  rename IntsAre _ (List.take 5 _) => hI1
  rename (_ ∧ _ ∧ AllLt _ _) => l1
  rename_i D5 ws5 h5 _ _
  refine hidG fun G_ hG_ => ?_
  obtain ⟨xs5, hI2, hx5⟩ := ints5 hI1
  refine hG_ ?_
  clear hG_
  have l15 : @Ne Nat la1 D5 := by omega
  have l25 : @Ne Nat la2 D5 := by omega
  refine' for_src (ax := D5) (its := ws5) (n := 0) (oax := lobj ws5 0) [Str.ofString "text"] (fun i u nw => ∃ vs1 n1 vs2 n2, nw = (D5, lobj ws5 0) :: (la2, lobj vs2 n2) :: (la1, lobj vs1 n1) :: T ∧ StrsAre vs1 (lwA (List.take i xs5)) ∧ StrsAre vs2 (lwB (List.take i xs5))) ?hh ?hc ?hd F1 N1 ?hL ?S ?h0 ?hS ?turn ?done
  case hh => rfl
  case hc => rfl
  case hd => rfl
  case hL => rfl
  case S => exact .inr (.head _)
  case h0 => exact ⟨[], 0, [], 0, rfl, .nil, .nil⟩
  case hS => rintro i u nw ⟨vs1, n1, vs2, n2, rfl, _⟩; exact .inr (.head _)
  case turn =>
    intro i v u nw h tk I oI hv ip9_ F2 N3 off
    refine hidG fun G_ hG_ => ?_
    obtain ⟨vs1, n1, vs2, n2, rfl, hs1, hs2⟩ := ip9_
    refine hG_ ?_
    clear hG_
    have offR := off
    have off := off1_of off
    simp only [LCg.Off1] at off
    refine hidG fun G_ hG_ => ?_
    obtain ⟨x, tx, rfl, hx⟩ := ints_item hI2 i v hv
    refine hG_ ?_
    clear hG_
    clear F1 N1
    k_steps
    refine ⟨?_⟩
    refine spec_val (lawtext1 w _ _ (x.natAbs / 3 % 216) (lw_arg x) (Nat.mod_lt _ (by decide))) B F2 X XB N3 TG rfl (Nat.le_of_ble_eq_true rfl) (Nat.le_of_ble_eq_true rfl) trivial ?_
    intro r9 h9 tk9 F9 N9 x9 e9
    obtain ⟨t9, rfl⟩ := e9
    clear F2 N3 x9
    have hz1 : vs1.length ≤ 100000 := by have h1 := lwA_len (List.take i xs5); have h2 : (List.take i xs5).length ≤ xs5.length := List.length_take_le' ..; rw [hs1.len_eq]; omega
    have hz2 : vs2.length ≤ 100000 := by have h1 := lwB_len (List.take i xs5); have h2 : (List.take i xs5).length ≤ xs5.length := List.length_take_le' ..; rw [hs2.len_eq]; omega
    try dsimp only
    k_steps
    · (try dsimp only [TurnPostX])
      refine TurnEndX.mk (by k_asm) (by k_asm) ((D5, lobj ws5 0) :: (la2, lobj (vs2 ++ [.str _ _]) _) :: (la1, lobj (vs1 ++ [.str _ _]) _) :: T) (fun p hp => hp) (off3R offR) ?_ ⟨_, _, _, _, rfl, ?_, ?_⟩
      · intro y h1 h2
        have h3 : y ≠ Str.ofString "text" := by simpa using h2
        exact (if_neg h3).trans ((if_neg h1).trans (ovm1_off h3))
      · rw [lwA_yes hx (by assumption)]; exact StrsAre.append' hs1 (.cons _ _ .nil)
      · rw [lwB_yes hx (by assumption)]; exact StrsAre.append' hs2 (.cons _ _ .nil)
    · (try dsimp only [TurnPostX])
      refine TurnEndX.mk (by k_asm) (by k_asm) ((D5, lobj ws5 0) :: (la2, lobj vs2 _) :: (la1, lobj (vs1 ++ [.str _ _]) _) :: T) (fun p hp => hp) (off3R offR) ?_ ⟨_, _, _, _, rfl, ?_, ?_⟩
      · intro y h1 h2
        have h3 : y ≠ Str.ofString "text" := by simpa using h2
        exact (if_neg h3).trans ((if_neg h1).trans (ovm1_off h3))
      · rw [lwA_yes hx (by assumption)]; exact StrsAre.append' hs1 (.cons _ _ .nil)
      · rw [lwB_no hx (by assumption)]; exact hs2
    · (try dsimp only [TurnPostX])
      refine TurnEndX.mk (by k_asm) (by k_asm) ((D5, lobj ws5 0) :: (la2, lobj (vs2 ++ [.str _ _]) _) :: (la1, lobj vs1 _) :: T) (fun p hp => hp) (off3R offR) ?_ ⟨_, _, _, _, rfl, ?_, ?_⟩
      · intro y h1 h2
        have h3 : y ≠ Str.ofString "text" := by simpa using h2
        exact (if_neg h3).trans ((if_neg h1).trans (ovm1_off h3))
      · rw [lwA_no hx (by assumption)]; exact hs1
      · rw [lwB_yes hx (by assumption)]; exact StrsAre.append' hs2 (.cons _ _ .nil)
    · (try dsimp only [TurnPostX])
      refine TurnEndX.mk (by k_asm) (by k_asm) ((D5, lobj ws5 0) :: (la2, lobj vs2 _) :: (la1, lobj vs1 _) :: T) (fun p hp => hp) (off3R offR) ?_ ⟨_, _, _, _, rfl, ?_, ?_⟩
      · intro y h1 h2
        have h3 : y ≠ Str.ofString "text" := by simpa using h2
        exact (if_neg h3).trans ((if_neg h1).trans (ovm1_off h3))
      · rw [lwA_no hx (by assumption)]; exact hs1
      · rw [lwB_no hx (by assumption)]; exact hs2
  case done =>
    intro u nw h tk ip4_ F2 N3
    refine hidG fun G_ hG_ => ?_
    obtain ⟨vs1, n1, vs2, n2, rfl, hs1, hs2⟩ := ip4_
    refine hG_ ?_
    clear hG_
    rw [ints_len hI2, List.take_length] at hs1 hs2
    exact hret xs5 vs1 n1 vs2 n2 h tk _ (fun y h1 h2 => (if_neg h1).trans (ovm1_off h2)) F2 (news_sub N3 fun p hp => .tail _ hp) hs1 hs2 hx5
theorem law3 {la : Addr} {vs : List Value} {n : Nat} (B : Below callerA base [] h₀) (F : Fr h₀ L s.heap m) (X : (Mine.hd.heap_1 w.params).In h₀) (XB : KBIn w h₀) (TG : Top topProg LSG mean mg mb h₀) (N : News h₀ L s.heap ((la, lobj vs n) :: T)) (t1 : ∀ p ∈ T, p.1 ≠ la) (hm : m (Str.ofString "first") = some (.ref la)) {ns : List Str} (hs : StrsAre vs ns) (hz : vs.length ≤ 5)
    (hret : ∀ vs' n' h' tk', Fr h₀ L h' m → News h₀ L h' ((la, lobj vs' n') :: T) → StrsAre vs' (ns ++ [Str.ofString "/a/b", Str.ofString "/b"]) → Q .next { s with heap := h', toks := tk' }) :
    wpAny (model PySem.Challenge.rw_ik0192_01.prog w) (lawA w.params gd L fa cd cm cr co cb) (exec (lawSt w.params 3) (lenv w.params L fa cd cm cr co cb)) Q E s := by
  revert X
  k_fill
  intro X
  have hb := (show lawSt w.params 3 = lawSt w.params 3 from rfl)
  conv at hb => rhs; whnf
  have hsc := (show lawScope w.params = lawScope w.params from rfl)
  conv at hsc => rhs; whnf
  rw [hb, lenv, lawA, hsc]
  clear hb hsc
  k_steps
  rename Fr _ _ _ _ => F1
  rename News _ _ _ _ => N1
  refine hret _ _ _ _ F1 (news_sub N1 (fun p hp => .tail _ hp)) (StrsAre.append' hs (.cons _ _ (.cons _ _ .nil)))
theorem law4 {la : Addr} {vs : List Value} {n : Nat} (B : Below callerA base [] h₀) (F : Fr h₀ L s.heap m) (X : (Mine.hd.heap_1 w.params).In h₀) (XB : KBIn w h₀) (TG : Top topProg LSG mean mg mb h₀) (N : News h₀ L s.heap ((la, lobj vs n) :: T)) (t1 : ∀ p ∈ T, p.1 ≠ la) (hm : m (Str.ofString "second") = some (.ref la)) {ns : List Str} (hs : StrsAre vs ns) (hz : vs.length ≤ 5)
    (hret : ∀ vs' n' h' tk', Fr h₀ L h' m → News h₀ L h' ((la, lobj vs' n') :: T) → StrsAre vs' (ns ++ [Str.ofString "/b/a", Str.ofString "/a"]) → Q .next { s with heap := h', toks := tk' }) :
    wpAny (model PySem.Challenge.rw_ik0192_01.prog w) (lawA w.params gd L fa cd cm cr co cb) (exec (lawSt w.params 4) (lenv w.params L fa cd cm cr co cb)) Q E s := by
  revert X
  k_fill
  intro X
  have hb := (show lawSt w.params 4 = lawSt w.params 4 from rfl)
  conv at hb => rhs; whnf
  have hsc := (show lawScope w.params = lawScope w.params from rfl)
  conv at hsc => rhs; whnf
  rw [hb, lenv, lawA, hsc]
  clear hb hsc
  k_steps
  rename Fr _ _ _ _ => F1
  rename News _ _ _ _ => N1
  refine hret _ _ _ _ F1 (news_sub N1 (fun p hp => .tail _ hp)) (StrsAre.append' hs (.cons _ _ (.cons _ _ .nil)))
end
end
section
theorem lw_tx {xs : List Int} : (∀ t ∈ lwA xs, LawTx t) ∧ ∀ t ∈ lwB xs, LawTx t := by
  constructor
  · intro t ht
    unfold lwA at ht
    refine hidG fun G_ hG_ => ?_
    obtain ⟨x, _, hx⟩ := List.mem_flatMap.mp ht
    refine hG_ ?_
    clear hG_
    split at hx
    · rw [List.mem_singleton.mp hx]; exact ⟨_, Nat.mod_lt _ (by decide), rfl⟩
    · cases hx
  · intro t ht
    unfold lwB at ht
    refine hidG fun G_ hG_ => ?_
    obtain ⟨x, _, hx⟩ := List.mem_flatMap.mp ht
    refine hG_ ?_
    clear hG_
    split at hx
    · rw [List.mem_singleton.mp hx]; exact ⟨_, Nat.mod_lt _ (by decide), rfl⟩
    · cases hx
theorem tx_snoc {l : List Str} {a b : Str} (h : ∀ t ∈ l, LawTx t) (ha : LawTx a) (hb : LawTx b) : ∀ t ∈ l ++ [a, b], LawTx t := by
  intro t ht
  rcases List.mem_append.mp ht with ht | ht
  · exact h t ht
  rcases List.mem_cons.mp ht with rfl | ht
  · exact ha
  · rw [List.mem_singleton.mp ht]; exact hb
section
open LC
variable {m : Str → Option Value} {s : Shared} {Q : Flow → Shared → Prop} {T : List (Addr × Obj)}
theorem law_all0 {ax : Addr} {vs : List Value} {ns : List Int} {om or' oo ob : Obj} (B : Below callerA base [] h₀) (F : Fr h₀ L s.heap m) (X : (Mine.hd.heap_1 w.params).In h₀) (XB : KBIn w h₀) (TG : Top topProg LSG mean mg mb h₀) (hE : PassesOwn (model PySem.Challenge.rw_ik0192_01.prog w) (lawA w.params gd L fa cd cm cr co cb) (lenv w.params L fa cd cm cr co cb) E) (C : CodeHd h₀ 210 208) (hcd : cd = .ref 210)
    (N : News h₀ L s.heap [(45, tabObj #[]), (208, tabObj #[]), (cm, om), (cr, or'), (co, oo), (cb, ob)]) (hom : om.data = .cell none) (hor : or'.data = .cell none) (hoo : oo.data = .cell none) (hob : ob.data = .cell none)
    (e1 : @Ne Nat cm 45 ∧ @Ne Nat cr 45 ∧ @Ne Nat co 45 ∧ @Ne Nat cb 45) (e2 : @Ne Nat cm 208 ∧ @Ne Nat cr 208 ∧ @Ne Nat co 208 ∧ @Ne Nat cb 208)
    (e3 : @Ne Nat cm cr ∧ @Ne Nat cm co ∧ @Ne Nat cm cb ∧ @Ne Nat cr co ∧ @Ne Nat cr cb ∧ @Ne Nat co cb)
    (hm0 : m (Str.ofString "script") = some (.ref ax)) (hl : h₀.IsList ax vs.toArray) (hi : IntsAre vs ns) (hz : ns.length ≤ 63)
    (hret : ∀ h' tk' m', Fr h₀ L h' m' → (∃ ps, h'.get? 45 = some (tabObj ps)) → (∃ ps, h'.get? 208 = some (tabObj ps)) → Q (.ret (.bool true)) { s with heap := h', toks := tk' }) :
    wpAny (model PySem.Challenge.rw_ik0192_01.prog w) (lawA w.params gd L fa cd cm cr co cb) (execs (lawBody w.params) (lenv w.params L fa cd cm cr co cb)) Q E s := by
  rw [law_body]
  refine ex_cons (law0 B F X XB TG N ?_)
  intro la1 h1 tk1 F1 N1 l1
  refine ex_cons (law1 B F1 X XB TG N1 ?_)
  intro la2 h2 tk2 F2 N2 l2
  have l12 : @LT.lt Nat _ la1 la2 := l2 (la1, lobj [] 0) List.mem_cons_self
  have n12 : @Ne Nat la1 la2 := Nat.ne_of_lt l12
  have a1 : @Ne Nat 45 la1 := Nat.ne_of_lt (l1 (45, tabObj #[]) (by walk_at "MEMS"))
  have a2 : @Ne Nat 208 la1 := Nat.ne_of_lt (l1 (208, tabObj #[]) (by walk_at "MEMS"))
  have a3 : @Ne Nat cm la1 := Nat.ne_of_lt (l1 (cm, om) (by walk_at "MEMS"))
  have a4 : @Ne Nat cr la1 := Nat.ne_of_lt (l1 (cr, or') (by walk_at "MEMS"))
  have a5 : @Ne Nat co la1 := Nat.ne_of_lt (l1 (co, oo) (by walk_at "MEMS"))
  have a6 : @Ne Nat cb la1 := Nat.ne_of_lt (l1 (cb, ob) (by walk_at "MEMS"))
  have b1 : @Ne Nat 45 la2 := Nat.ne_of_lt (l2 (45, tabObj #[]) (by walk_at "MEMS"))
  have b2 : @Ne Nat 208 la2 := Nat.ne_of_lt (l2 (208, tabObj #[]) (by walk_at "MEMS"))
  have b3 : @Ne Nat cm la2 := Nat.ne_of_lt (l2 (cm, om) (by walk_at "MEMS"))
  have b4 : @Ne Nat cr la2 := Nat.ne_of_lt (l2 (cr, or') (by walk_at "MEMS"))
  have b5 : @Ne Nat co la2 := Nat.ne_of_lt (l2 (co, oo) (by walk_at "MEMS"))
  have b6 : @Ne Nat cb la2 := Nat.ne_of_lt (l2 (cb, ob) (by walk_at "MEMS"))
  refine ex_cons (law2 (la1 := la1) (la2 := la2) B F2 X XB TG hE N2 n12 (fun p hp => Nat.ne_of_lt (l1 p hp)) (fun p hp => Nat.ne_of_lt (l2 p (List.mem_cons_of_mem _ hp))) (by walk_at "LOOKM") (by walk_at "LOOKM") (by walk_at "LOOKM") hl hi hz ?_)
  intro xs vs1 n1 vs2 n2 h3 tk3 m' hm' F3 N3 hs1 hs2 hx
  have hA := lwA_len xs
  have hB := lwB_len xs
  have k1 : m' (Str.ofString "first") = some (.ref la1) := (hm' _ (by decide) (by decide)).trans (by walk_at "LOOKM")
  have k2 : m' (Str.ofString "second") = some (.ref la2) := (hm' _ (by decide) (by decide)).trans (by walk_at "LOOKM")
  refine ex_cons (law3 (la := la1) (vs := vs1) (n := n1) (T := [(la2, lobj vs2 n2), (45, tabObj #[]), (208, tabObj #[]), (cm, om), (cr, or'), (co, oo), (cb, ob)]) B F3 X XB TG (news_sub N3 (by walk_at "SUBS")) (by walk_at "OFFS") k1 hs1 (by rw [hs1.len_eq]; omega) ?_)
  intro vs1' n1' h4 tk4 F4 N4 hs1'
  refine ex_cons (law4 (la := la2) (vs := vs2) (n := n2) (T := [(la1, lobj vs1' n1'), (45, tabObj #[]), (208, tabObj #[]), (cm, om), (cr, or'), (co, oo), (cb, ob)]) B F4 X XB TG (news_sub N4 (by walk_at "SUBS")) (by walk_at "OFFS") k2 hs2 (by rw [hs2.len_eq]; omega) ?_)
  intro vs2' n2' h5 tk5 F5 N5 hs2'
  exact law_tail (la1 := la1) (la2 := la2) B F5 X XB TG hE C hcd (news_sub N5 (by walk_at "SUBS")) hom hor hoo hob ⟨e1.1, e1.2.1, e1.2.2.1, e1.2.2.2, Ne.symm a1, Ne.symm b1⟩ ⟨e2.1, e2.2.1, e2.2.2.1, e2.2.2.2, Ne.symm a2, Ne.symm b2⟩ e3
    ⟨Ne.symm a3, Ne.symm a4, Ne.symm a5, Ne.symm a6, Ne.symm b3, Ne.symm b4, Ne.symm b5, Ne.symm b6, n12⟩ k1 k2 hs1' hs2' (tx_snoc lw_tx.1 tx_lit.1 tx_lit.2.1) (tx_snoc lw_tx.2 tx_lit.2.2.1 tx_lit.2.2.2) (by simp; omega) (by simp; omega) (by simp) hret
end
theorem law_every (v : LawV) : LawSV v := by
  apply Classical.byContradiction
  intro n
  exact @Classical.epsilon_spec LawV (fun v => ¬ LawSV v) ⟨v, n⟩ (by with_unfolding_all exact @law_all0)
theorem law_all {w : World} {gd : Option (List Code)} {L : Addr} {fa : Addr} {cm : Addr} {cr : Addr} {co : Addr} {cb : Addr} {cd : Value} {base : Heap} {h₀ : Heap} {mean : ExcName → Option Value} {mg : Str → Option Value} {mb : Str → Option Value} {E : Value → Shared → Prop} {m : Str → Option Value} {s : Shared} {Q : Flow → Shared → Prop} {ax : Addr} {vs : List Value} {ns : List Int} {om or' oo ob : Obj} (B : Below callerA base [] h₀) (F : Fr h₀ L s.heap m) (X : (Mine.hd.heap_1 w.params).In h₀) (XB : KBIn w h₀) (TG : Top topProg LSG mean mg mb h₀) (hE : PassesOwn (model PySem.Challenge.rw_ik0192_01.prog w) (lawA w.params gd L fa cd cm cr co cb) (lenv w.params L fa cd cm cr co cb) E) (C : CodeHd h₀ 210 208) (hcd : cd = .ref 210)
    (N : News h₀ L s.heap [(45, tabObj #[]), (208, tabObj #[]), (cm, om), (cr, or'), (co, oo), (cb, ob)]) (hom : om.data = .cell none) (hor : or'.data = .cell none) (hoo : oo.data = .cell none) (hob : ob.data = .cell none)
    (e1 : @Ne Nat cm 45 ∧ @Ne Nat cr 45 ∧ @Ne Nat co 45 ∧ @Ne Nat cb 45) (e2 : @Ne Nat cm 208 ∧ @Ne Nat cr 208 ∧ @Ne Nat co 208 ∧ @Ne Nat cb 208)
    (e3 : @Ne Nat cm cr ∧ @Ne Nat cm co ∧ @Ne Nat cm cb ∧ @Ne Nat cr co ∧ @Ne Nat cr cb ∧ @Ne Nat co cb)
    (hm0 : m (Str.ofString "script") = some (.ref ax)) (hl : h₀.IsList ax vs.toArray) (hi : IntsAre vs ns) (hz : ns.length ≤ 63)
    (hret : ∀ h' tk' m', Fr h₀ L h' m' → (∃ ps, h'.get? 45 = some (tabObj ps)) → (∃ ps, h'.get? 208 = some (tabObj ps)) → Q (.ret (.bool true)) { s with heap := h', toks := tk' }) :
    wpAny (model PySem.Challenge.rw_ik0192_01.prog w) (lawA w.params gd L fa cd cm cr co cb) (execs (lawBody w.params) (lenv w.params L fa cd cm cr co cb)) Q E s :=
  by subst hcd; exact law_every ⟨w, gd, L, fa, cm, cr, co, cb, base, h₀, mean, mg, mb, E⟩ B F X XB TG hE C rfl N hom hor hoo hob e1 e2 e3 hm0 hl hi hz hret
end
section
theorem top_eq {p : Program} {l l2 : List Str} {mean : ExcName → Option Value} {mg mb : Str → Option Value} {h : Heap} (T : Top p l mean mg mb h) (e : l = l2) : Top p l2 mean mg mb h := e ▸ T
theorem enter_law {M : Model} {A B : Around} {body : List Stmt} {env env' : Env} {P : Params} {Q : Flow → Shared → Prop} {E : Value → Shared → Prop} {s : Shared} (hb : body = lawBody P) (he : env = env') (hA : A.handled = B.handled ∧ A.frames = B.frames ∧ A.guards = B.guards) (h1 : A.depth ≤ B.depth) (h2 : A.units ≤ B.units)
    (h : wpAny M B (execs (lawBody P) env') Q (fun _ _ => False) s) : wpAny M A (execs body env) Q E s := by
  subst hb he
  exact wpAny_mono (wpAny_weak h hA.1.symm h1 h2 (fun l e => hA.2.1.trans e) fun g e => hA.2.2.trans e) (fun _ _ x => x) fun _ _ x => x.elim
theorem law_w : PySem.Challenge.rw_ik0192_01.Holds := by
  w_on
  refine holds_law law_said fun said => ?_
  refine holds_open (XP := XL view []) (YP := Hook.says hk) hl (Hook.of hk) (Hook.keeps hk) (fun s e => xl_of s (Bool.and_eq_true_iff.mp e).1) XL.keeps (by rfl) (by rfl) (by rfl) (fun s e => recFacts_of (Bool.and_eq_true_iff.mp e).2) (by rfl) (by first | assumption | decide +kernel) (by decide +kernel) ⟨rfl, rfl, rfl, rfl, rfl, by decide +kernel⟩ ?hw ?hc
  case hw => w_witness2
  clear said
  delta hk
  k_fill
  intro w s₀ s₁ mg mb G Y fa o pm cd doc dV kV ho hd hcd hD hmg hg args vals as hpre hlay hrd hwl hlo
  obtain ⟨Y1, YB⟩ := (show _ ∧ _ from Y)
  have KX := km_in_of Y1
  km_tabs Y1
  have X := (Ground.X G).1
  have V := (Ground.X G).2
  refine Ground.open G ?_
  intro T B D TE TW
  try (refine guard_noD D (by decide +kernel) ?_; clear D)
  km_lay T hmg ho hd cd
  clear hmg
  wrow_args hpre hlay hrd hwl hlo
  all_goals (
    first | refine callC_kw (enter_call ?_) | refine enter_call ?_
    w_top on
    kn_posts
    w_call any ho hd hcd hD T F
    clear hd
    kn_ghosts F T
    k_drop
    skip)
  rename News _ _ _ _ => N0
  rename Below _ _ _ _ => BG
  rename Top topProg _ _ _ _ _ => TG0
  have TG := top_eq (l2 := LSG) TG0 (by kernel_rfl)
  rename Frag.In _ _ => XG
  rename Fr _ _ _ _ => FG
  have XBG : KBIn w (ghostOf s₁.heap [(49, 45), (210, 208)]) := fun a o e => ghost_ne (YB a o e) fun hm => by
    have hm' : a = 45 ∨ a = 208 := by simpa using hm
    rcases hm' with rfl | rfl
    · rw [show (KB w.params).lookup 45 = none from kb45 _] at e; cases e
    · rw [show (KB w.params).lookup 208 = none from kb208 _] at e; cases e
  refine enter_law (P := w.params) (env' := lenv w.params s₁.heap.objs.size fa (.ref 210) (s₁.heap.objs.size + 1) (s₁.heap.objs.size + 2) (s₁.heap.objs.size + 3) (s₁.heap.objs.size + 4)) (B := lawA w.params (some []) s₁.heap.objs.size fa (.ref 210) (s₁.heap.objs.size + 1) (s₁.heap.objs.size + 2) (s₁.heap.objs.size + 3) (s₁.heap.objs.size + 4)) ?hb ?he ?hA ?h1 ?h2 ?_
  case hb => kernel_rfl
  case he => kernel_rfl
  case hA => exact ⟨rfl, by kernel_rfl, rfl⟩
  case h1 => exact Nat.le_of_ble_eq_true rfl
  case h2 => exact Nat.le_of_ble_eq_true rfl
  rename_i o4 o3 o2 o1 d4 d3 d2 d1 _ _ _
  rename IntsAre _ _ => hI
  rename (45 < _ ∧ 208 < _) => l0
  rename CodeHd _ (210, 208).1 (210, 208).2 => C210
  rename Heap.IsList _ _ _ => lifted
  obtain ⟨p1, p2⟩ := l0
  have N1 : News _ _ _ [(s₁.heap.objs.size + 4, o4), (s₁.heap.objs.size + 3, o3), (s₁.heap.objs.size + 2, o2), (s₁.heap.objs.size + 1, o1), (45, tabObj #[]), (208, tabObj #[])] := N0
  refine law_all (om := o1) (or' := o2) (oo := o3) (ob := o4) BG FG XG XBG TG PassesOwn.never C210 rfl (news_sub N1 ?hsub) ?d1 ?d2 ?d3 ?d4 ?e1 ?e2 ?e3 ?hm0 lifted hI (by omega) ?_
  case hsub =>
    intro p hp
    simp only [List.mem_cons, List.not_mem_nil, or_false] at hp ⊢
    rcases hp with rfl | rfl | rfl | rfl | rfl | rfl <;> simp
  case d1 => exact d1.trans (by kernel_rfl)
  case d2 => exact d2.trans (by kernel_rfl)
  case d3 => exact d3.trans (by kernel_rfl)
  case d4 => exact d4.trans (by kernel_rfl)
  case e1 => refine ⟨?_, ?_, ?_, ?_⟩ <;> omega
  case e2 => refine ⟨?_, ?_, ?_, ?_⟩ <;> omega
  case e3 => refine ⟨?_, ?_, ?_, ?_, ?_, ?_⟩ <;> omega
  case hm0 => kernel_rfl
  intro h' tk' m' F' g45 g208
  exact ⟨goodW_bool F' hg (fun _ => rfl) (by kernel_rfl) rfl, g45, g208, trivial⟩
end
end
end
end Mine
end
set_option maxHeartbeats 8000000 in
theorem PySem.Challenge.cw_ik0192_01_holds : PySem.Challenge.rw_ik0192_01.Holds :=
  Mine.law_w
