import PyProof.Rows.All
import Wide.All
import OpenK.AllK
import Wide.FinOn
import Lean
import PySem.Challenge.RW_mj0053_01
open PySem PySem.W PyProof.Rows
set_option Elab.async false
section -- Hd
set_option maxRecDepth 100000
set_option maxHeartbeats 8000000
namespace Mine
open_top hd for PySem.Challenge.rw_mj0053_01
end Mine
end
section -- Base
set_option maxRecDepth 100000
namespace Mine
abbrev prog : Program := PySem.Challenge.rw_mj0053_01.row.prog

/-- what every heap behind the top bears -/
structure Gd (w : World) (mg mb : Str → Option Value) (h : Heap) : Prop where
  K : (hd.heap_39 w.params).In h
  T : TopRead hd.view_39 (looseW hd.view_39 []) mg mb h
  nd : ∃ mc, h.Ns cStatics mc ∧ mc "sys.int_max_str_digits" = none
  bm : ∃ bm ob, BMod h mainGlobals mg bm ob
  gl : Glob 0 mg mb (List.map itemOf (recsOf hd.view_39)) (scalarsOf [] ++ constsW hd.view_39) [] (namesW hd.view_39 []) h

theorem enterK {w : World} {A : Around} {s : Shared} {K : Frag}
    {R : Result → Shared → Prop} {name qual : Str} {params : Arguments} {body : List Stmt} {scope : Scope} {dV kV doc pm cdv ct oc : Value} {an od : Option Addr} {osl : Array (Option Value)} {f : Addr} {args : Args} {binds : List (Str × Value)}
    (X : K.In s.heap) (hlim : s.heap.NoLimit)
    (ho : K.lookup f = some ⟨oc, od, .func (fnOf name qual params body scope dV kV doc pm an cdv ct), osl⟩) (hcd : codeIn K cdv qual = true) (hroom : A.depth < recursionLimit)
    (hbind : BindsTo s (fnOf name qual params body scope dV kV doc pm an cdv ct) args binds) (hloc : ∀ y ∈ binds, scope.names.lookup y.1 = some .local)
    (h : ∀ h₁, Fr s.heap s.heap.objs.size h₁ (fun y => binds.reverse.lookup y) → News s.heap s.heap.objs.size h₁ [] →
      wpAny (model prog w) (A.deeper (envOf qual scope s.heap.objs.size f cdv)) (execs body (envOf qual scope s.heap.objs.size f cdv))
        (fun fl s' => R (.ok (.ret (match fl with | .ret v => v | _ => .none))) s')
        (fun e s' => wpAny (model prog w) (A.deeper (envOf qual scope s.heap.objs.size f cdv)) (leaving (envOf qual scope s.heap.objs.size f cdv) e) (fun _ s'' => R (.error e) s'') (fun e' s'' => R (.error e') s'') s')
        { s with heap := h₁, toks := s.toks + binds.length })
    (hco : scope.isCoroutine = false := by rfl) (hgen : scope.isGenerator = false := by rfl) (hk : scope.kind = .function := by rfl)
    (hcell : ∀ x ∈ scope.names, x.2 ≠ .cell := by decide) : codeAny (model prog w) A (.call (.ref f) args) R s := by
  refine codeAny_call_def (fd := fnOf name qual params body scope dV kV doc pm an cdv ct) (body := body) (binds := binds) hroom (X _ _ ho) rfl hlim (codeRec_of X hcd) rfl hbind hcell hloc (fun h₁ hns hk₁ => ?_) hco hgen hk
  exact h h₁ ⟨hns, fun b o e => hk₁ b o e, Nat.le_refl _⟩ News.nil
end Mine
end
section -- Rul
set_option maxRecDepth 100000
set_option maxHeartbeats 1000000
namespace Mine
section
variable {prog : Program} {w : World} {A : Around} {E : Value → Shared → Prop} {s : Shared} {h₀ : Heap} {L : Addr} {m : Str → Option Value} {news : List (Addr × Obj)}
theorem getItem_tuple_upto {t sl : Addr} {x y z : Value} {u : Tok} {Q : Value → Shared → Prop} (ht : IsTup s.heap t #[x, y, z])
    (hs : s.heap.IsSliceOf sl .none (.int 2 u) .none)
    (h : Q (.ref s.heap.objs.size) { s with heap := s.heap.push { cls := .type "tuple", data := .seq #[x, y] } }) :
    wpAny (model prog w) A (getItem (.ref t) (.ref sl)) Q E s := by
  obtain ⟨os, hos, hcs, hds⟩ := id hs
  have hTs : s.TypeIs (.ref sl) "slice" := ⟨os, hos, hcs⟩
  unfold getItem
  try with_reducible refine wpAny_holding ?_
  first | refine wpAny_bind (wpAny_pure ?_) | skip
  refine wpAny_bind (wpAny_sequenceKey ht.typeIs (by decide) ?_)
  refine wpAny_bind (wpAny_callSpecial?_slot (name := Str.ofString "__getitem__") ht.typeIs slot_tuple_getitem
    (wpAny_call_entry slot_tuple_getitem ht.typeIs entry_tuple_getitem ?_ (args_tuple_getitem _ _)))
  show wpAny _ _ (Builtin.Tuple.tupleItemsOf (.ref t) >>= _) _ _ s
  refine wpAny_bind (tupleItemsOf_ ht ?_)
  refine wpAny_bind (wpAny_typeOf hTs ?_)
  rw [if_pos (by decide)]
  refine wpAny_bind ?_
  unfold Builtin.Slice.sliceApplied Builtin.Slice.sliceFields
  refine wpAny_bind (wpAny_bind (wpAny_field hos hds (x := .none) rfl (wpAny_bind (wpAny_field hos hds (x := .int 2 u) rfl (wpAny_bind (wpAny_field hos hds (x := .none) rfl (wpAny_pure ?_)))))))
  refine wpAny_bind (wpAny_of_eq (a := none) rfl ?_)
  dsimp only
  rw [if_neg (by decide)]
  refine wpAny_bind (wpAny_of_eq (a := none) rfl ?_)
  refine wpAny_bind ?_
  unfold Builtin.Slice.slicePartIndex
  refine wpAny_ite_false (decide_eq_false (fun e => Bool.false_ne_true e)) ?_
  refine wpAny_bind (wpAny_specialOf (T := "int") (typeIs_int s 2 u) int_index ?_)
  rw [if_neg (by simp)]
  refine wpAny_bind (wpAny_of_eq (a := 2) rfl ?_)
  refine wpAny_pure (wpAny_bind (wpAny_pure ?_))
  refine wpAny_pure ?_
  dsimp only
  refine wpAny_ite_false (decide_eq_false (fun e => Bool.false_ne_true e)) ?_
  refine wpAny_bind (wpAny_newObj_type (wpAny_pure ⟨_, rfl, wpAny_pure h⟩) (by show 2 ≤ sizeLine; rw [sizeLine_eq]; omega))
theorem slice_tuple_upto {value slice : Expr} {t : Addr} {x y z : Value} {u : Tok} {Q : Value → Shared → Prop}
    (F : Fr h₀ L s.heap m) (N : News h₀ L s.heap news) (ht : IsTup s.heap t #[x, y, z])
    (h : ∀ h', Fr h₀ L h' m → News h₀ L h' ((s.heap.objs.size + 1, { cls := .type "tuple", data := .seq #[x, y] }) :: news) → Q (.ref (s.heap.objs.size + 1)) { s with heap := h' })
    (hs : subscripted slice false (.ref t) (.ref s.heap.objs.size) = operate [.ref s.heap.objs.size, .ref t] (getItem (.ref t) (.ref s.heap.objs.size)) := by with_unfolding_all rfl)
    (hg : ∀ r, letTemporaryGo value (.ref t) r = pure () := by intro _; with_unfolding_all rfl) :
    wpAny (model prog w) A (subscriptTail value slice (.ref t) (.ref s.heap.objs.size)) Q E { s with heap := s.heap.push { cls := .type "slice", data := .fields #[.none, .int 2 u, .none] } } := by
  refine subscriptTail_ops (IsTup.typeIs (s := { s with heap := s.heap.push { cls := .type "slice", data := .fields #[.none, .int 2 u, .none] } }) (ht.push _)) slot_tuple_getitem.lookup
    (getItem_tuple_upto (ht.push _) (Heap.IsSliceOf.new ..) ?_) hs hg
  have N1 := News.push (F.push { cls := .type "slice", data := .fields #[.none, .int 2 u, .none] }) (N.grown fun _ _ e => Heap.get?_push_of_some _ e) { cls := .type "tuple", data := .seq #[x, y] }
  rw [Heap.size_push] at N1
  show Q (.ref (s.heap.push _).objs.size) _
  rw [Heap.size_push]
  exact h _ ((F.push _).push _) N1

theorem eq_si {a b : Addr} {n n' : Nat} {x y : Str} {i j : Int} {t1 t2 t3 t4 : Tok} {Q : Value → Shared → Prop}
    (ha : s.heap.get? a = some { cls := .type "tuple", data := .seq #[.str x t1, .int i t2] n }) (hb : s.heap.get? b = some { cls := .type "tuple", data := .seq #[.str y t3, .int j t4] n' })
    (k1 : PyData.strOk x = true) (k2 : PyData.strOk y = true) (hu : A.units + 64 < cLine) (h : Q (.bool (decide (x = y ∧ i = j))) s) : wpAny (model prog w) A (compareOp .Eq (.ref a) (.ref b)) Q E s := by
  refine eq_dataH (da := .tuple [.str x, .int i]) (db := .tuple [.str y, .int j]) (.tuple ha rfl rfl (.cons (.str ..) (.cons (.int ..) .nil))) (.tuple hb rfl rfl (.cons (.str ..) (.cons (.int ..) .nil))) (by simp [SeqAt.shaped, PyData.canLay0, PyData.canLayAll0, PyData.depth, PyData.depthAll, *]) (by simp [SeqAt.shaped, PyData.canLay0, PyData.canLayAll0, PyData.depth, PyData.depthAll, *]) hu ?_
  have e : PyData.eqv (.tuple [.str x, .int i]) (.tuple [.str y, .int j]) = decide (x = y ∧ i = j) := by
    simp only [PyData.eqv, PyData.eqvAll, Bool.and_true]
    rw [Bool.eq_iff_iff]
    simp
  rw [e]; exact h
theorem eq_sss {a b : Addr} {n n' : Nat} {x1 x2 x3 y1 y2 y3 : Str} {t1 t2 t3 t4 t5 t6 : Tok} {Q : Value → Shared → Prop}
    (ha : s.heap.get? a = some { cls := .type "tuple", data := .seq #[.str x1 t1, .str x2 t2, .str x3 t3] n }) (hb : s.heap.get? b = some { cls := .type "tuple", data := .seq #[.str y1 t4, .str y2 t5, .str y3 t6] n' })
    (k1 : PyData.strOk x1 = true) (k2 : PyData.strOk x2 = true) (k3 : PyData.strOk x3 = true) (k4 : PyData.strOk y1 = true) (k5 : PyData.strOk y2 = true) (k6 : PyData.strOk y3 = true) (hu : A.units + 64 < cLine) (h : Q (.bool (decide (x1 = y1 ∧ x2 = y2 ∧ x3 = y3))) s) : wpAny (model prog w) A (compareOp .Eq (.ref a) (.ref b)) Q E s := by
  refine eq_dataH (da := .tuple [.str x1, .str x2, .str x3]) (db := .tuple [.str y1, .str y2, .str y3]) (.tuple ha rfl rfl (.cons (.str ..) (.cons (.str ..) (.cons (.str ..) .nil)))) (.tuple hb rfl rfl (.cons (.str ..) (.cons (.str ..) (.cons (.str ..) .nil)))) (by simp [SeqAt.shaped, PyData.canLay0, PyData.canLayAll0, PyData.depth, PyData.depthAll, *]) (by simp [SeqAt.shaped, PyData.canLay0, PyData.canLayAll0, PyData.depth, PyData.depthAll, *]) hu ?_
  have e : PyData.eqv (.tuple [.str x1, .str x2, .str x3]) (.tuple [.str y1, .str y2, .str y3]) = decide (x1 = y1 ∧ x2 = y2 ∧ x3 = y3) := by
    simp only [PyData.eqv, PyData.eqvAll, Bool.and_true]
    rw [Bool.eq_iff_iff]
    simp
  rw [e]; exact h
end
end Mine
end
section -- Rul2
set_option maxRecDepth 100000
set_option maxHeartbeats 4000000
namespace Mine
/-- the text of a line's number -/
def lineTxt (n : Int) : Str := Str.ofString (toString n)
theorem range100 {P : Int → Prop} (h : ∀ i : Fin 100, P ((i.val : Int) - 20)) {n : Int} (h0 : -20 ≤ n) (h1 : n < 80) : P n := by
  have q : P ((((n + 20).toNat : Nat) : Int) - 20) := h ⟨(n + 20).toNat, by omega⟩
  have e : (((n + 20).toNat : Nat) : Int) - 20 = n := by omega
  rw [e] at q
  exact q
theorem lineTxt_len {n : Int} (h0 : -20 ≤ n) (h1 : n < 80) : (Str.ofString (toString n)).length ≤ 3 :=
  range100 (P := fun n => (Str.ofString (toString n)).length ≤ 3) (by decide +kernel) h0 h1
theorem lineTxt_neg {n : Int} (h0 : -20 ≤ n) (h1 : n < 80) : (if decide (n < 0) = true then [45] else []) ++ (Str.ofString (toString ((n.natAbs : Nat) : Int))).cps.toList = (Str.ofString (toString n)).cps.toList :=
  range100 (P := fun n => (if decide (n < 0) = true then [45] else []) ++ (Str.ofString (toString ((n.natAbs : Nat) : Int))).cps.toList = (Str.ofString (toString n)).cps.toList) (by decide +kernel) h0 h1
open Builtin Builtin.Str in
theorem after_line {M : Model} {A : Around} {E : Value → Shared → Prop} {s : Shared} {l : List Nat} {p : List Value} {r : List Nat}
    {f : Nat → List Value × Writer × List Nat → Sem (ForInStep (List Value × Writer × List Nat))} {Q : List Value × Writer × List Nat → Shared → Prop}
    {w : Writer} {T : PySem.Str} {N : Nat} {o : Option Value} {c : Percent} {n : Int} {d : List Nat} (g : KPc.Good w T N) (k1 : c.alt = false) (k2 : c.type = 100 ∨ c.type = 105 ∨ c.type = 117) (k3 : c.prec = none) (hn : -20 ≤ n) (hm : n < 80)
    (hd : d = (PySem.Str.ofString (toString ((n.natAbs : Nat) : Int))).cps.toList) (ho : o = none) (h : ∀ w', KPc.Good w' (T ++ PySem.Str.ofString (toString n)) (N + 10) → wpAny M A (forIn l (p, w', r) f) Q E s) :
    wpAny M A (forIn l (p, w.add ⟨(percentInt c (decide (n < 0)) d).toArray⟩ o, r) f) Q E s := by
  have e : percentInt c (decide (n < 0)) d = (PySem.Str.ofString (toString n)).cps.toList := by
    rw [← lineTxt_neg hn hm, hd]
    unfold percentInt
    rcases k2 with k2 | k2 | k2 <;> simp [k1, k2, k3]
  rw [e]
  exact KPc.after_str g (Nat.le_trans (lineTxt_len hn hm) (by omega)) (KPc.obj_none ho) h
local macro_rules | `(tactic| kpt_piece) => `(tactic| (refine after_line (by kpc_g) rfl (by kpc_kind) rfl (by with_reducible assumption) (by with_reducible assumption) rfl (by kpc_none) ?_; intro _ _))
theorem hd_line {n : Int} (hn : -20 ≤ n) (hm : n < 80) : n.natAbs.log2 < 1920 := shown (N := 2 ^ 1920) (by omega) (by omega) (Int.le_refl _)
local macro_rules | `(tactic| kpt_hd) => `(tactic| exact hd_line (by with_reducible assumption) (by with_reducible assumption))
local macro_rules | `(tactic| kpt_len) => `(tactic| ((show _ ≤ 1000); with_reducible assumption))
section
variable {prog : Program} {w : World} {A : Around} {E : Value → Shared → Prop} {s : Shared}
theorem mod_told {t : Addr} {wh nm : Str} {ln : Int} {u1 u2 u3 u : Tok} {n : Nat} {Q : Value → Shared → Prop}
    (ht : s.heap.get? t = some { cls := .type "tuple", data := .seq #[.str wh u1, .int ln u2, .str nm u3] n }) (hn : -20 ≤ ln) (hm : ln < 80) (hw : wh.length ≤ 1000) (hnm : nm.length ≤ 1000)
    (h : ∀ t' k, Q (.str (wh ++ Str.ofString ":" ++ Str.ofString (toString ln) ++ Str.ofString "(" ++ nm ++ Str.ofString ")") t') { s with toks := k }) :
    wpAny (model prog w) A (binaryOp .Mod (.str (Str.ofString "%s:%d(%s)") u) (.ref t)) Q E s := by
  have N : News ({ s.heap with objs := #[] } : Heap) (t + 1) s.heap [(t, { cls := .type "tuple", data := .seq #[.str wh u1, .int ln u2, .str nm u3] n })] := by
    intro p hp
    rw [List.mem_singleton.mp hp]
    exact ⟨ht, Nat.ne_of_lt (Nat.lt_succ_self _), by simp [Heap.get?]⟩
  refine' KPt.mod_tuple N ?kptb ?kptF ?kptm h
  case kptb => exact .head _
  case kptF => kpt_eq
  case kptm =>
    clear N ht h
    kpt_run
end
end Mine
end
section -- F1
set_option maxRecDepth 100000
set_option maxHeartbeats 8000000
namespace Mine
def tell (wh : Str) (ln : Int) (nm : Str) : Str :=
  if wh = Str.ofString "~" ∧ ln = 0 then
    (if Txt.startswith nm (Str.ofString "<") = true then (if Txt.endswith nm (Str.ofString ">") = true then Str.ofString "{" ++ Txt.slice nm (some 1) (some (-1)) ++ Str.ofString "}" else nm) else nm)
  else wh ++ Str.ofString ":" ++ Str.ofString (toString ln) ++ Str.ofString "(" ++ nm ++ Str.ofString ")"
theorem tell_braces {wh nm : Str} {ln : Int} (h : wh = Str.ofString "~" ∧ ln = 0) (h1 : Txt.startswith nm (Str.ofString "<") = true) (h2 : Txt.endswith nm (Str.ofString ">") = true) :
    tell wh ln nm = Str.ofString "{" ++ Txt.slice nm (some 1) (some (-1)) ++ Str.ofString "}" := by
  unfold tell; rw [if_pos h, if_pos h1, if_pos h2]
theorem tell_name1 {wh nm : Str} {ln : Int} (h : wh = Str.ofString "~" ∧ ln = 0) (h1 : Txt.startswith nm (Str.ofString "<") = true) (h2 : Txt.endswith nm (Str.ofString ">") = false) :
    tell wh ln nm = nm := by
  unfold tell; rw [if_pos h, if_pos h1, if_neg (by simp [h2])]
theorem tell_name0 {wh nm : Str} {ln : Int} (h : wh = Str.ofString "~" ∧ ln = 0) (h1 : Txt.startswith nm (Str.ofString "<") = false) :
    tell wh ln nm = nm := by
  unfold tell; rw [if_pos h, if_neg (by simp [h1])]
theorem fss {w : World} {mg mb : Str → Option Value} {A : Around} {s : Shared} {R : Result → Shared → Prop} {t : Addr} {u1 u2 u3 : Tok} {wh nm : Str} {ln : Int} {nn : Nat}
    (X : (hd.heap_39 w.params).In s.heap) (T : TopRead hd.view_39 (looseW hd.view_39 []) mg mb s.heap)
    (GL : Glob 0 mg mb (List.map itemOf (recsOf hd.view_39)) (scalarsOf [] ++ constsW hd.view_39) [] (namesW hd.view_39 []) s.heap)
    (hroom : A.depth + 50 < recursionLimit) (hu : A.units + 100 < cLine) (hh : A.handled = none)
    (ht : s.heap.get? t = some { cls := .type "tuple", data := .seq #[.str wh u1, .int ln u2, .str nm u3] nn })
    (hw : PyData.strOk wh = true) (hwl : wh.length ≤ 1000) (hnl : nm.length ≤ 1000) (hl0 : -20 ≤ ln) (hl1 : ln < 80)
    (hR : ∀ h' tk t', (∀ b o, s.heap.get? b = some o → h'.get? b = some o) → R (.ok (.ret (.str (tell wh ln nm) t'))) { s with heap := h', toks := tk }) :
    codeAny (model PySem.Challenge.rw_mj0053_01.row.prog w) A (.call (.ref 21) ⟨[.ref t], []⟩) R s := by
  revert X T
  k_fill
  intro X T
  refine' enterK X T.nolimit ?ho ?hcd ?hroom ?hbind ?hloc ?_ ?c2 ?c3 ?c4 ?c5
  case ho => k_is
  case hcd => k_is
  case hroom => omega
  case hbind => exact BindsTo.of_eq rfl
  case hloc => exact locs rfl
  case c2 => exact rfl
  case c3 => exact rfl
  case c4 => exact rfl
  case c5 => decide
  intro h₁ F N
  try k_fold
  k_steps
  refine slice_tuple_upto (by assumption) (by assumption) (x := .str wh u1) (y := .int ln u2) (z := .str nm u3) ⟨_, F.keep _ _ ht, rfl, _, rfl⟩ ?_
  intro h2 F2 N2
  dsimp only
  k_steps
  refine eq_si (News.get (by assumption) (.tail _ (.head _))) (News.get (by assumption) (.head _)) hw (by decide +kernel) (by simp only [units_deeper]; omega) ?_
  k_steps
  · rename Fr _ _ _ _ => F3
    refine item_tuple (items := #[.str wh u1, .int ln u2, .str nm u3]) (j := 2) (x := .str nm u3) ⟨_, F3.keep _ _ ht, rfl, _, rfl⟩ (by decide) (by decide) rfl rfl ?_
    k_steps
    · rw [tell_braces (by assumption) (by assumption) (by assumption)] at hR
      exact hR _ _ _ (Fr.keep (by assumption))
    · rw [tell_name1 (by assumption) (by assumption) (by assumption)] at hR
      exact hR _ _ _ (Fr.keep (by assumption))
    · rw [tell_name0 (by assumption) (by assumption)] at hR
      exact hR _ _ _ (Fr.keep (by assumption))
  · rename Fr _ _ _ _ => F3
    refine mod_told (F3.keep _ _ ht) hl0 hl1 hwl hnl ?_
    intro t' k
    k_steps
    have e : tell wh ln nm = wh ++ Str.ofString ":" ++ Str.ofString (toString ln) ++ Str.ofString "(" ++ nm ++ Str.ofString ")" := by
      simp only [tell]; rw [if_neg (by assumption)]
    rw [e] at hR
    exact hR _ _ _ F3.keep
end Mine
end
section -- Loop
set_option maxRecDepth 100000
set_option maxHeartbeats 1000000
namespace Mine
/-- a turn's end -/
def TurnEnd (h₀ : Heap) (L I : Addr) (oI : Obj) (ex : List (Addr × Obj)) (J : (Str → Option Value) → List (Addr × Obj) → Prop) (s : Shared) (Q : Flow → Shared → Prop) (f : Flow) (s₂ : Shared) : Prop :=
  match f with
  | .ret v => Q (.ret v) s₂
  | .brk => Q .next s₂
  | _ => ∃ h' tk m' nx, s₂ = { s with heap := h', toks := tk } ∧ Fr h₀ L h' m' ∧ News h₀ L h' ((I, oI) :: (ex ++ nx)) ∧ (∀ p ∈ ex ++ nx, p.1 ≠ I) ∧ J m' nx
section
variable {prog : Program} {w : World} {A : Around} {E : Value → Shared → Prop} {s : Shared} {env : Env} {h₀ : Heap} {x : Str} {body : List Stmt} {Q : Flow → Shared → Prop}
theorem loopOwn {I : Addr} {fp wr : List Addr} {n : Nat} {P : Nat → Value → Prop} {St : Nat → Heap → Prop} {m₀ : Str → Option Value} {news : List (Addr × Obj)} (ex : List (Addr × Obj)) (J : Nat → (Str → Option Value) → List (Addr × Obj) → Prop)
    (W : Walks prog w A I fp wr n P St) (hwr : wr = [I]) (hLf : env.locals ∉ fp) (hI : h₀.get? I = none)
    (hfp : ∀ b ∈ fp, b = I ∨ (∃ o, h₀.get? b = some o) ∨ ∃ o, (b, o) ∈ ex) (hIf : I ∈ fp) (live : ∀ i h, St i h → ∃ o, h.get? I = some o)
    (hnw : ∀ p ∈ ex ++ news, p.1 ≠ I) (hst : St 0 s.heap) (F : Fr h₀ env.locals s.heap m₀) (N : News h₀ env.locals s.heap (ex ++ news)) (hj : J 0 m₀ news)
    (turn : ∀ i v m₁ nx h tk oI, i < n → P i v → J i m₁ nx → (∀ p ∈ ex ++ nx, p.1 ≠ I) → Fr h₀ env.locals h (fun y => if y = x then some v else m₁ y) → News h₀ env.locals h ((I, oI) :: (ex ++ nx)) →
      wpAny (model prog w) A (execs body env) (TurnEnd h₀ env.locals I oI ex (J (i + 1)) s Q) E { s with heap := h, toks := tk })
    (done : ∀ m₁ nx h tk, J n m₁ nx → Fr h₀ env.locals h m₁ → News h₀ env.locals h (ex ++ nx) → Q .next { s with heap := h, toks := tk }) :
    LoopAtV prog w A h₀ env x body Q E (.ref I) s := by
  subst hwr
  refine ⟨I, fp, [I], n, P, St, m₀, ex ++ news, (fun i m nw => ∃ nx, nw = ex ++ nx ∧ J i m nx), rfl, W, hLf, ?_, ?_, hst, F, N, ⟨news, rfl, hj⟩, ?_, ?_⟩
  · intro b hb; rw [List.mem_singleton.mp hb]; exact hI
  · intro p hp hb; exact hnw p hp (List.mem_singleton.mp hb)
  · rintro i v m₁ _ s₁ own ⟨h, tk, rfl⟩ hi hP ⟨nx, rfl, hJ⟩ hoff hown hget hall hst' F₁ N₁
    have hoff' : ∀ p ∈ ex ++ nx, p.1 ≠ I := fun p hp e => hoff p hp (List.mem_singleton.mpr e)
    obtain ⟨oI, hoI⟩ := live _ _ hst'
    have hIo : (I, oI) ∈ own := hall I hIf hI oI hoI
    have N₂ : News h₀ env.locals h ((I, oI) :: (ex ++ nx)) := by
      intro p hp
      rcases List.mem_cons.mp hp with rfl | hp
      · exact N₁ _ (List.mem_append_left _ hIo)
      · exact N₁ _ (List.mem_append_right _ hp)
    refine wpAny_mono (turn i v m₁ nx h tk oI hi hP hJ hoff' F₁ N₂) (fun f s₂ p => ?_) fun _ _ e => e
    have fin : (∃ h' tk m' nx, s₂ = { s with heap := h', toks := tk } ∧ Fr h₀ env.locals h' m' ∧ News h₀ env.locals h' ((I, oI) :: (ex ++ nx)) ∧ (∀ p ∈ ex ++ nx, p.1 ≠ I) ∧ J (i + 1) m' nx) →
        LoopStepU h₀ env.locals [I] own (fun m nw => ∃ nx, nw = ex ++ nx ∧ J (i + 1) m nx) { s with heap := h, toks := tk } .next s₂ := by
      rintro ⟨h', tk', m', nx', rfl, F', N', ho', hJ'⟩
      refine ⟨rfl, h', tk', m', ex ++ nx', rfl, F', ?_, fun p hp e => ho' p hp (List.mem_singleton.mp e), nx', rfl, hJ'⟩
      intro p hp
      rcases List.mem_append.mp hp with hp | hp
      · have hp2 := N₁ p (List.mem_append_left _ hp)
        rcases hfp _ (hown p hp) with e | ⟨o, e⟩ | ⟨o, e⟩
        · have e2 : p = (I, oI) := by
            have q := hget p hp
            have q2 : (some p.2 : Option Obj) = some oI := by rw [← q, e]; exact hoI
            exact Prod.ext e (Option.some.inj q2)
          rw [e2]; exact N' _ (.head _)
        · have := hp2.2.2; rw [e] at this; cases this
        · have q1 := (N₂ (p.1, o) (.tail _ (List.mem_append_left _ e))).1
          have q2 := hget p hp
          have q3 : p = (p.1, o) := Prod.ext rfl (Option.some.inj (q2.symm.trans q1))
          rw [q3]; exact N' _ (.tail _ (List.mem_append_left _ e))
      · exact N' p (.tail _ hp)
    cases f with
    | ret v => exact .ret p
    | brk => exact .brk p
    | next => exact .next (fin p)
    | cont => exact .cont (fin p)
  · rintro h' tk m' _ F' N' _ ⟨nx, rfl, hJ⟩
    exact done m' nx h' tk hJ F' N'

/-- over a text's signs -/
theorem iterStr {xt : Str} {tx : Tok} {m₀ : Str → Option Value} {news : List (Addr × Obj)} (J : Nat → (Str → Option Value) → List (Addr × Obj) → Prop)
    (hh : A.handled = none) (F : Fr h₀ env.locals s.heap m₀) (N : News h₀ env.locals s.heap news) (hj : J 0 m₀ news)
    (turn : ∀ i c u m₁ nx h tk oI, i < xt.cps.size → xt.cps[i]? = some c → J i m₁ nx → (∀ p ∈ nx, p.1 ≠ s.heap.objs.size) → Fr h₀ env.locals h (fun y => if y = x then some (.str ⟨#[c]⟩ u) else m₁ y) → News h₀ env.locals h ((s.heap.objs.size, oI) :: nx) →
      wpAny (model prog w) A (execs body env) (TurnEnd h₀ env.locals s.heap.objs.size oI [] (J (i + 1)) s Q) E { s with heap := h, toks := tk })
    (done : ∀ m₁ nx h tk, J xt.cps.size m₁ nx → Fr h₀ env.locals h m₁ → News h₀ env.locals h nx → Q .next { s with heap := h, toks := tk }) :
    wpAny (model prog w) A (pyIter (.str xt tx)) (fun it s₂ => LoopAtV prog w A h₀ env x body Q E it s₂) E s := by
  have key : ∀ (o : Obj) (St : Nat → Heap → Prop), Walks prog w A s.heap.objs.size [s.heap.objs.size] [s.heap.objs.size] xt.cps.size (SignAt xt) St → (∀ i h, St i h → ∃ o, h.get? s.heap.objs.size = some o) → St 0 (s.heap.push o) →
      LoopAtV prog w A h₀ env x body Q E (.ref s.heap.objs.size) { s with heap := s.heap.push o } := by
    intro o St W live hst
    refine loopOwn (news := news) [] J W rfl ?_ (next_is_new F) ?_ (.head _) live ?_ hst (F.push _) (N.grown fun _ _ e => Heap.get?_push_of_some _ e) hj ?_ ?_
    · intro hm; exact absurd F.ns.lt ((List.mem_singleton.mp hm) ▸ Nat.lt_irrefl _)
    · intro b hb; exact .inl (List.mem_singleton.mp hb)
    · intro p hp e; exact absurd (Heap.lt_size (N p hp).1) (by rw [e]; exact Nat.lt_irrefl _)
    · rintro i v m₁ nx h tk oI hi ⟨c, u, hc, rfl⟩ hJ ho F₁ N₁
      exact turn i c u m₁ nx h tk oI hi hc hJ ho F₁ N₁
    · intro m₁ nx h tk hJ F₁ N₁; exact done m₁ nx h tk hJ F₁ N₁
  cases ha : xt.cps.all (· < 128)
  · exact wpAny_pyIter_wide ha (key _ _ (Walks.strWide hh _ xt tx) (fun i h st => let ⟨o, ho, _⟩ := st; ⟨o, ho⟩) ⟨_, Heap.get?_push_size _ rfl, rfl, rfl⟩)
  · exact wpAny_pyIter_ascii ha (key _ _ (Walks.strAscii hh _ xt tx) (fun i h st => let ⟨o, ho, _⟩ := st; ⟨o, ho⟩) ⟨_, Heap.get?_push_size _ rfl, rfl, rfl⟩)

/-- over a list that stood before the call -/
theorem iterList {l : Addr} {items : Array Value} {m₀ : Str → Option Value} {news : List (Addr × Obj)} (J : Nat → (Str → Option Value) → List (Addr × Obj) → Prop)
    (hh : A.handled = none) (hl : h₀.IsList l items) (F : Fr h₀ env.locals s.heap m₀) (N : News h₀ env.locals s.heap news) (hj : J 0 m₀ news)
    (turn : ∀ i v m₁ nx h tk oI, i < items.size → items[i]? = some v → J i m₁ nx → (∀ p ∈ nx, p.1 ≠ s.heap.objs.size) → Fr h₀ env.locals h (fun y => if y = x then some v else m₁ y) → News h₀ env.locals h ((s.heap.objs.size, oI) :: nx) →
      wpAny (model prog w) A (execs body env) (TurnEnd h₀ env.locals s.heap.objs.size oI [] (J (i + 1)) s Q) E { s with heap := h, toks := tk })
    (done : ∀ m₁ nx h tk, J items.size m₁ nx → Fr h₀ env.locals h m₁ → News h₀ env.locals h nx → Q .next { s with heap := h, toks := tk }) :
    wpAny (model prog w) A (pyIter (.ref l)) (fun it s₂ => LoopAtV prog w A h₀ env x body Q E it s₂) E s := by
  have hls : s.heap.IsList l items := hl.at fun o e => F.keep l o e
  obtain ⟨ol, hol, _⟩ := id hl
  have hlt : l < h₀.objs.size := Heap.lt_size hol
  have hne : l ≠ s.heap.objs.size := Nat.ne_of_lt (Nat.lt_trans (Nat.lt_of_lt_of_le hlt F.above) F.ns.lt)
  refine wpAny_pyIter_list hls ?_
  refine loopOwn (news := news) [] J (Walks.list hh s.heap.objs.size l hne items) rfl ?_ (next_is_new F) ?_ (.head _) (fun i h st => let ⟨⟨o, ho, _⟩, _⟩ := st; ⟨o, ho⟩) ?_ ⟨⟨_, Heap.get?_push_size _ rfl, rfl, rfl⟩, hls.at fun o e => Heap.get?_push_of_some _ e⟩ (F.push _) (N.grown fun _ _ e => Heap.get?_push_of_some _ e) hj ?_ ?_
  · intro hm
    rcases List.mem_cons.mp hm with e | hm
    · exact absurd F.ns.lt (e ▸ Nat.lt_irrefl _)
    · exact absurd (Nat.lt_of_lt_of_le hlt F.above) ((List.mem_singleton.mp hm) ▸ Nat.lt_irrefl _)
  · intro b hb
    rcases List.mem_cons.mp hb with e | hb
    · exact .inl e
    · rw [List.mem_singleton.mp hb]; exact .inr (.inl ⟨_, hol⟩)
  · intro p hp e; exact absurd (Heap.lt_size (N p hp).1) (by rw [e]; exact Nat.lt_irrefl _)
  · rintro i v m₁ nx h tk oI hi hP hJ ho F₁ N₁
    exact turn i v m₁ nx h tk oI hi hP hJ ho F₁ N₁
  · intro m₁ nx h tk hJ F₁ N₁; exact done m₁ nx h tk hJ F₁ N₁

/-- over a list that the call has made -/
theorem iterMade {l : Addr} {items : Array Value} {nn : Nat} {m₀ : Str → Option Value} {news : List (Addr × Obj)} (J : Nat → (Str → Option Value) → List (Addr × Obj) → Prop)
    (hh : A.handled = none) (F : Fr h₀ env.locals s.heap m₀) (N : News h₀ env.locals s.heap ((l, W.listOf items nn) :: news)) (hj : J 0 m₀ news)
    (turn : ∀ i v m₁ nx h tk oI, i < items.size → items[i]? = some v → J i m₁ nx → (∀ p ∈ (l, W.listOf items nn) :: nx, p.1 ≠ s.heap.objs.size) → Fr h₀ env.locals h (fun y => if y = x then some v else m₁ y) → News h₀ env.locals h ((s.heap.objs.size, oI) :: (l, W.listOf items nn) :: nx) →
      wpAny (model prog w) A (execs body env) (TurnEnd h₀ env.locals s.heap.objs.size oI [(l, W.listOf items nn)] (J (i + 1)) s Q) E { s with heap := h, toks := tk })
    (done : ∀ m₁ nx h tk, J items.size m₁ nx → Fr h₀ env.locals h m₁ → News h₀ env.locals h ((l, W.listOf items nn) :: nx) → Q .next { s with heap := h, toks := tk }) :
    wpAny (model prog w) A (pyIter (.ref l)) (fun it s₂ => LoopAtV prog w A h₀ env x body Q E it s₂) E s := by
  have hol : s.heap.get? l = some (W.listOf items nn) := (N _ (.head _)).1
  have hls : s.heap.IsList l items := ⟨_, hol, rfl, nn, rfl⟩
  have hne : l ≠ s.heap.objs.size := Nat.ne_of_lt (Heap.lt_size hol)
  refine wpAny_pyIter_list hls ?_
  refine loopOwn (news := news) [(l, W.listOf items nn)] J (Walks.list hh s.heap.objs.size l hne items) rfl ?_ (next_is_new F) ?_ (.head _) (fun i h st => let ⟨⟨o, ho, _⟩, _⟩ := st; ⟨o, ho⟩) ?_ ⟨⟨_, Heap.get?_push_size _ rfl, rfl, rfl⟩, hls.at fun o e => Heap.get?_push_of_some _ e⟩ (F.push _) (N.grown fun _ _ e => Heap.get?_push_of_some _ e) hj ?_ ?_
  · intro hm
    rcases List.mem_cons.mp hm with e | hm
    · exact absurd F.ns.lt (e ▸ Nat.lt_irrefl _)
    · exact (N _ (.head _)).2.1 ((List.mem_singleton.mp hm).symm)
  · intro b hb
    rcases List.mem_cons.mp hb with e | hb
    · exact .inl e
    · rw [List.mem_singleton.mp hb]; exact .inr (.inr ⟨_, .head _⟩)
  · intro p hp e; exact absurd (Heap.lt_size (N p hp).1) (by rw [e]; exact Nat.lt_irrefl _)
  · rintro i v m₁ nx h tk oI hi hP hJ ho F₁ N₁
    exact turn i v m₁ nx h tk oI hi hP hJ ho F₁ N₁
  · intro m₁ nx h tk hJ F₁ N₁; exact done m₁ nx h tk hJ F₁ N₁

end
/-- the frame's map, some of its names told -/
theorem frNames {h₀ h : Heap} {L : Addr} {m : Str → Option Value} (ps : List (Str × Value)) (F : Fr h₀ L h m) (hp : ∀ p ∈ ps, m p.1 = some p.2) : Fr h₀ L h (kstB m ps) := by
  have e : kstB m ps = m := funext fun z => kstB_eq hp fun _ => rfl
  rw [e]; exact F
theorem enterF {w : World} {A : Around} {s : Shared} {K : Frag}
    {R : Result → Shared → Prop} {name qual : Str} {params : Arguments} {body : List Stmt} {scope : Scope} {dV kV doc pm cdv ct oc : Value} {an od : Option Addr} {osl : Array (Option Value)} {f : Addr} {args : Args} {binds : List (Str × Value)}
    (X : K.In s.heap) (hlim : s.heap.NoLimit)
    (ho : K.lookup f = some ⟨oc, od, .func (fnOf name qual params body scope dV kV doc pm an cdv ct), osl⟩) (hcd : codeIn K cdv qual = true) (hroom : A.depth < recursionLimit)
    (hbind : BindsTo s (fnOf name qual params body scope dV kV doc pm an cdv ct) args binds) (hloc : ∀ y ∈ binds, scope.names.lookup y.1 = some .local)
    (h : ∀ h₁ tk, Fr s.heap s.heap.objs.size h₁ (fun y => binds.reverse.lookup y) → News s.heap s.heap.objs.size h₁ [] →
      wpAny (model prog w) (A.deeper (envOf qual scope s.heap.objs.size f cdv)) (execs body (envOf qual scope s.heap.objs.size f cdv))
        (fun fl s' => R (.ok (.ret (match fl with | .ret v => v | _ => .none))) s') (fun _ _ => False)
        { s with heap := h₁, toks := tk })
    (hco : scope.isCoroutine = false := by rfl) (hgen : scope.isGenerator = false := by rfl) (hk : scope.kind = .function := by rfl)
    (hcell : ∀ x ∈ scope.names, x.2 ≠ .cell := by decide) : codeAny (model prog w) A (.call (.ref f) args) R s :=
  enterK X hlim ho hcd hroom hbind hloc (fun h₁ F N => wpAny_mono (h h₁ _ F N) (fun _ _ x => x) fun _ _ x => x.elim) hco hgen hk hcell
end Mine
end
section -- Loop2
set_option maxRecDepth 100000
set_option maxHeartbeats 1000000
namespace Mine
theorem TurnEnd.on {h₀ h' : Heap} {L I : Addr} {oI : Obj} {ex nx : List (Addr × Obj)} {J : (Str → Option Value) → List (Addr × Obj) → Prop} {s : Shared} {Q : Flow → Shared → Prop} {tk : Nat} {m' : Str → Option Value}
    (F : Fr h₀ L h' m') (N : News h₀ L h' ((I, oI) :: (ex ++ nx))) (ho : ∀ p ∈ ex ++ nx, p.1 ≠ I) (hJ : J m' nx) : TurnEnd h₀ L I oI ex J s Q .next { s with heap := h', toks := tk } := ⟨h', tk, m', nx, rfl, F, N, ho, hJ⟩
/-- the frame at a turn's start, its names told -/
theorem frTurn {h₀ h : Heap} {L : Addr} {m : Str → Option Value} {x : Str} {v : Value} (ps : List (Str × Value)) (F : Fr h₀ L h (fun y => if y = x then some v else m y)) (hx : (ps.map (·.1)).contains x = false) (hp : ∀ p ∈ ps, m p.1 = some p.2) :
    Fr h₀ L h (kstB m ((x, v) :: ps)) := by
  have F' := frNames ((x, v) :: ps) F (by
    intro p hq
    rcases List.mem_cons.mp hq with rfl | hq
    · exact if_pos rfl
    · have hne : p.1 ≠ x := by
        intro e
        have : (ps.map (·.1)).contains x = true := List.contains_iff_mem.mpr (List.mem_map.mpr ⟨p, hq, e⟩)
        rw [hx] at this; cases this
      exact (if_neg hne).trans (hp p hq))
  · have e : kstB (fun y => if y = x then some v else m y) ((x, v) :: ps) = kstB m ((x, v) :: ps) := by
      funext z
      show (if z = x then some v else kstB (fun y => if y = x then some v else m y) ps z) = (if z = x then some v else kstB m ps z)
      by_cases hz : z = x
      · rw [if_pos hz, if_pos hz]
      · rw [if_neg hz, if_neg hz]
        have q : ∀ l : List (Str × Value), kstB (fun y => if y = x then some v else m y) l z = kstB m l z := by
          intro l
          induction l with
          | nil => exact if_neg hz
          | cons p r ih => show (if z = p.1 then some p.2 else _) = (if z = p.1 then some p.2 else _); rw [ih]
        exact q ps
    rw [← e]; exact F'
theorem off_one {l I : Addr} {o o' : Obj} (h : ∀ p ∈ [(l, o)], p.1 ≠ I) : ∀ p ∈ [] ++ [(l, o')], p.1 ≠ I := fun p hp => by
  rw [List.mem_singleton.mp hp]; exact h (l, o) (.head _)
def AllNe (d : Nat) : List (Addr × Obj) → Prop
  | [] => True
  | p :: r => @Ne Nat p.1 d ∧ AllNe d r
theorem allNe_of {d : Addr} : ∀ {l : List (Addr × Obj)}, (∀ p ∈ l, p.1 ≠ d) → AllNe d l
  | [], _ => trivial
  | p :: _, h => ⟨h p (.head _), allNe_of fun q hq => h q (.tail _ hq)⟩
/-- what a called def hands back, onto the ledger -/
theorem news_new {h₀ h h' : Heap} {L : Addr} {m : Str → Option Value} {news : List (Addr × Obj)} {l : Addr} {o : Obj} (F : Fr h₀ L h m) (N : News h₀ L h news) (hk : ∀ b o, h.get? b = some o → h'.get? b = some o) (hf : h.get? l = none) (ho : h'.get? l = some o) :
    News h₀ L h' ((l, o) :: news) ∧ ∀ p ∈ news, p.1 ≠ l := by
  have ne : ∀ b o, h.get? b = some o → b ≠ l := fun b o e q => by rw [q, hf] at e; cases e
  refine ⟨fun p hp => ?_, fun p hp => ne _ _ (N p hp).1⟩
  rcases List.mem_cons.mp hp with rfl | hp
  · obtain ⟨oL, _, _, hL, _⟩ := F.ns
    refine ⟨ho, Ne.symm (ne _ _ hL), ?_⟩
    cases e : h₀.get? l with
    | none => rfl
    | some o' => exact absurd rfl (ne _ _ (F.keep _ _ e))
  · exact ⟨hk _ _ (N p hp).1, (N p hp).2⟩
section
variable {prog : Program} {w : World} {A : Around} {E : Value → Shared → Prop} {s : Shared} {h₀ : Heap} {L : Addr} {m : Str → Option Value} {news : List (Addr × Obj)}
/-- two lists of texts, one behind the other -/
theorem add_strs {l b : Addr} {xs ys : Array Value} {nx ny : Nat} {as bs : List Str} {Q : Value → Shared → Prop} (F : Fr h₀ L s.heap m) (N : News h₀ L s.heap news) (hl : (l, W.listOf xs nx) ∈ news) (hb : (b, W.listOf ys ny) ∈ news)
    (ha : StrsAre xs.toList as) (hb' : StrsAre ys.toList bs) (hz : xs.size + ys.size ≤ 100000)
    (h : ∀ h' l' zs, Fr h₀ L h' m → News h₀ L h' ((l', W.listOf zs 0) :: news) → (∀ p ∈ news, p.1 < l') → StrsAre zs.toList (as ++ bs) → zs.size = xs.size + ys.size → Q (.ref l') { s with heap := h' }) :
    wpAny (model prog w) A (binaryOp .Add (.ref l) (.ref b)) Q E s := by
  refine add_lists (vs := xs.toList) (ws := ys.toList) (hsz := by rw [sizeLine_eq]; simp only [Array.length_toList]; omega) F N ⟨_, (N _ hl).1, rfl, _, rfl⟩ ⟨_, (N _ hb).1, rfl, _, rfl⟩ fun h' F' N' => ?_
  exact h h' _ (xs.toList ++ ys.toList).toArray F' N' (fun p hp => Heap.lt_size (N p hp).1) (ha.append' hb') (by simp)
end
end Mine
end
section -- Tx
set_option maxRecDepth 100000
set_option maxHeartbeats 1000000
namespace Mine
/-- a text's signs -/
abbrev tl (x : Str) : List Nat := x.cps.toList
theorem tl_inj {x y : Str} (h : tl x = tl y) : x = y := Str.ext' (Array.toList_inj.mp h)
theorem tl_append (x y : Str) : tl (x ++ y) = tl x ++ tl y := by show (x ++ y).cps.toList = _; rw [Str.cps_append, Array.toList_append]
theorem tl_length (x : Str) : (tl x).length = x.length := by simp [Str.length]
theorem tl_mk (l : List Nat) : tl ⟨l.toArray⟩ = l := rfl
/-- printable ASCII alone -/
def Pr (x : Str) : Prop := ∀ c ∈ tl x, 32 ≤ c ∧ c < 127
theorem Pr.append {x y : Str} (hx : Pr x) (hy : Pr y) : Pr (x ++ y) := by
  intro c hc
  rw [tl_append] at hc
  exact (List.mem_append.mp hc).elim (hx c) (hy c)
theorem Pr.ok {x : Str} (h : Pr x) : PyData.strOk x = true := by
  unfold PyData.strOk
  rw [Array.all_eq_true_iff_forall_mem]
  intro c hc
  have := h c (by simpa using hc)
  simp; omega
def clampI (i : Option Int) (d n : Int) : Int := match i with
  | none => d
  | some i => max 0 (min (if i < 0 then i + n else i) n)
theorem tl_slice (x : Str) (l u : Option Int) : tl (Txt.slice x l u) = ((tl x).drop (clampI l 0 x.length).toNat).take ((clampI u x.length x.length).toNat - (clampI l 0 x.length).toNat) := by
  have e : Builtin.Str.strSliceIndices l u 1 x.length = (List.range ((clampI u x.length x.length).toNat - (clampI l 0 x.length).toNat)).map (fun k => (clampI l 0 x.length).toNat + k) := by
    have e0 : Builtin.Str.strSliceIndices l u 1 x.length = sliceRange (clampI l 0 x.length) (clampI u x.length x.length) 1 := by cases l <;> cases u <;> rfl
    rw [e0]
    unfold sliceRange
    simp only [show (1 : Int) > 0 from by decide, if_true]
    have p1 : 0 ≤ clampI l 0 x.length := by cases l <;> simp only [clampI] <;> omega
    have p2 : 0 ≤ clampI u x.length x.length := by cases u <;> simp only [clampI] <;> omega
    generalize clampI l 0 x.length = a at *
    generalize clampI u x.length x.length = b at *
    have q : (if a < b then (b - a + 1 - 1) / 1 else 0 : Int).toNat = b.toNat - a.toNat := by
      split
      · rw [Int.ediv_one]; omega
      · omega
    rw [q]
    apply List.map_congr_left
    intro k _
    omega
  have hb : (clampI u x.length x.length).toNat ≤ x.length := by cases u <;> simp only [clampI] <;> omega
  have pk : (Builtin.Str.strSliceIndices l u 1 x.length).filterMap (x.cps[·]?) = ((tl x).drop (clampI l 0 x.length).toNat).take ((clampI u x.length x.length).toNat - (clampI l 0 x.length).toNat) := by
    rw [e]
    by_cases hle : (clampI l 0 x.length).toNat ≤ (clampI u x.length x.length).toNat
    · rw [← StrLaws.picks (tl x) _ _ (by rw [tl_length]; omega)]
      congr 1
      funext k
      simp
    · rw [Nat.sub_eq_zero_of_le (Nat.le_of_not_le hle)]; rfl
  unfold Txt.slice
  split
  · rename_i h
    rw [e] at h
    have hl : (clampI u x.length x.length).toNat - (clampI l 0 x.length).toNat = x.length := by simpa using h
    have ha : (clampI l 0 x.length).toNat = 0 ∨ x.length = 0 := by omega
    rcases ha with ha | ha
    · rw [hl, ha, List.drop_zero, List.take_of_length_le (by rw [tl_length]; exact Nat.le_refl _)]
    · have : tl x = [] := List.eq_nil_of_length_eq_zero (by rw [tl_length]; exact ha)
      rw [this]; simp
  · rw [tl_mk, pk]
theorem Pr.slice {x : Str} (h : Pr x) (l u : Option Int) : Pr (Txt.slice x l u) := by
  intro c hc
  rw [tl_slice] at hc
  exact h c (List.mem_of_mem_drop (List.mem_of_mem_take hc))
theorem slice_to (x : Str) (b : Nat) : tl (Txt.slice x none (some (b : Int))) = (tl x).take b := by
  rw [tl_slice]
  have hn := tl_length x
  simp only [clampI]
  have e1 : ((0 : Int)).toNat = 0 := rfl
  rw [e1, List.drop_zero, Nat.sub_zero]
  rw [if_neg (by omega)]
  by_cases h : b ≤ x.length
  · congr 1; omega
  · rw [List.take_of_length_le (by omega), List.take_of_length_le (by omega)]
theorem slice_from (x : Str) (a : Nat) : tl (Txt.slice x (some (a : Int)) none) = (tl x).drop a := by
  rw [tl_slice]
  have hn := tl_length x
  simp only [clampI]
  rw [if_neg (by omega)]
  by_cases h : a ≤ x.length
  · have e : (max 0 (min (a : Int) (x.length : Int))).toNat = a := by omega
    rw [e, List.take_of_length_le (by rw [List.length_drop]; omega)]
  · rw [List.drop_eq_nil_of_le (by omega), List.drop_eq_nil_of_le (by omega)]; simp
theorem slice_to_neg (x : Str) (k : Nat) (hk : 0 < k) : tl (Txt.slice x none (some (-(k : Int)))) = (tl x).take (x.length - k) := by
  rw [tl_slice]
  simp only [clampI]
  have e1 : ((0 : Int)).toNat = 0 := rfl
  rw [e1, List.drop_zero, Nat.sub_zero, if_pos (by omega)]
  congr 1; omega
theorem slice_from_neg (x : Str) (k : Nat) (hk : 0 < k) : tl (Txt.slice x (some (-(k : Int))) none) = (tl x).drop (x.length - k) := by
  rw [tl_slice]
  have hn := tl_length x
  simp only [clampI]
  rw [if_pos (by omega)]
  have e : (max 0 (min (-(k : Int) + (x.length : Int)) (x.length : Int))).toNat = x.length - k := by omega
  rw [e, List.take_of_length_le (by rw [List.length_drop]; omega)]
theorem slice_mid (x : Str) : tl (Txt.slice x (some 1) (some (-1))) = ((tl x).drop 1).take (x.length - 2) := by
  rw [tl_slice]
  simp only [clampI]
  by_cases h : x.length = 0
  · have : tl x = [] := List.eq_nil_of_length_eq_zero (by rw [tl_length]; exact h)
    rw [this]; simp
  · congr 1
    · rw [if_pos (by omega), if_neg (by omega)]; omega
    · congr 1; rw [if_neg (by omega)]; omega
theorem slice_nat (x : Str) {a b : Nat} (hb : b ≤ x.length) : tl (Txt.slice x (some (a : Int)) (some (b : Int))) = ((tl x).drop a).take (b - a) := by
  rw [tl_slice]
  have hn := tl_length x
  simp only [clampI]
  rw [if_neg (by omega), if_neg (by omega)]
  by_cases h : a ≤ x.length
  · congr 1
    · omega
    · congr 1; omega
  · have e : (max 0 (min (b : Int) (x.length : Int))).toNat - (max 0 (min (a : Int) (x.length : Int))).toNat = 0 := by omega
    have e2 : b - a = 0 := by omega
    rw [e, e2]; simp
theorem range100' {P : Int → Prop} (h : ∀ i : Fin 100, P ((i.val : Int) - 20)) {n : Int} (h0 : -20 ≤ n) (h1 : n < 80) : P n := by
  have q : P ((((n + 20).toNat : Nat) : Int) - 20) := h ⟨(n + 20).toNat, by omega⟩
  have e : (((n + 20).toNat : Nat) : Int) - 20 = n := by omega
  rw [e] at q
  exact q
theorem pr_of {x : Str} (h : (tl x).all (fun c => decide (32 ≤ c ∧ c < 127)) = true) : Pr x := fun c hc => of_decide_eq_true (List.all_eq_true.mp h c hc)
theorem pr_line {n : Int} (h0 : -20 ≤ n) (h1 : n < 80) : Pr (Str.ofString (toString n)) :=
  pr_of (range100' (P := fun n => (tl (Str.ofString (toString n))).all (fun c => decide (32 ≤ c ∧ c < 127)) = true) (by decide +kernel) h0 h1)
theorem startswith_tl (x y : Str) : Txt.startswith x y = ((tl x).take (tl y).length == tl y) := by
  unfold Txt.startswith
  rw [StrLaws.subAt_eq, List.drop_zero, Nat.zero_add]
  have e : y.length = (tl y).length := (tl_length y).symm
  rw [e]
  have e2 : x.length = (tl x).length := (tl_length x).symm
  rw [e2]
  by_cases h : (tl y).length ≤ (tl x).length
  · rw [decide_eq_true h, Bool.true_and]
  · have : ((tl x).take (tl y).length == tl y) = false := by
      rw [beq_eq_false_iff_ne]
      intro e
      have := congrArg List.length e
      rw [List.length_take] at this
      omega
    simp only [h, decide_false, Bool.false_and]; exact this.symm
theorem endswith_tl (x y : Str) : Txt.endswith x y = (decide ((tl y).length ≤ (tl x).length) && ((tl x).drop ((tl x).length - (tl y).length) == tl y)) := by
  unfold Txt.endswith
  rw [StrLaws.subAt_eq, Nat.zero_add]
  have e : y.length = (tl y).length := (tl_length y).symm
  have e2 : x.length = (tl x).length := (tl_length x).symm
  rw [e, e2]
  by_cases h : (tl y).length ≤ (tl x).length
  · have q : (List.drop ((tl x).length - (tl y).length) (tl x)).length ≤ (tl y).length := by rw [List.length_drop]; omega
    show (_ && (List.take _ (List.drop _ (tl x)) == _)) = _
    rw [List.take_of_length_le q]
  · rw [decide_eq_false h, Bool.false_and, Bool.false_and]
end Mine
end
section -- W0
set_option maxRecDepth 100000
set_option maxHeartbeats 1000000
namespace Mine
/-- the state of _law_words between two signs: the words so far, the word, kept -/
structure WS where
  ws : List Str
  wd : Str
  kp : Nat
def sgn (c : Nat) : Str := if (⟨#[c]⟩ : Str) = Str.ofString " " then Str.ofString "_" else ⟨#[c]⟩
def wstep (q : WS) (c : Nat) : WS :=
  if Txt.contains (Str.ofString "-/\\:;\"()") ⟨#[c]⟩ = true then ⟨q.ws ++ [q.wd], Str.ofString "", 0⟩
  else if Txt.endswith (Txt.slice (q.wd ++ sgn c) (some (q.kp : Int)) none) (Str.ofString "unknown") = true then
    ⟨q.ws, Txt.slice (q.wd ++ sgn c) none (some (-7)), (Txt.slice (q.wd ++ sgn c) none (some (-7))).length⟩
  else ⟨q.ws, q.wd ++ sgn c, q.kp⟩
theorem sgn_blank {c : Nat} (h : ((⟨#[c]⟩ : Str) == Str.ofString " ") = true) : sgn c = Str.ofString "_" := by unfold sgn; rw [if_pos (eq_of_beq h)]
theorem sgn_other {c : Nat} (h : ((⟨#[c]⟩ : Str) == Str.ofString " ") = false) : sgn c = ⟨#[c]⟩ := by unfold sgn; rw [if_neg (ne_of_beq_false h)]
theorem wstep_sep {ws : List Str} {wd : Str} {kp c : Nat} (h : (Builtin.Str.occurrences (Str.ofString "-/\\:;\"()") ⟨#[c]⟩ 0 (Str.ofString "-/\\:;\"()").length 1).isEmpty = false) : wstep ⟨ws, wd, kp⟩ c = ⟨ws ++ [wd], Str.ofString "", 0⟩ := by
  unfold wstep; rw [if_pos (by unfold Txt.contains; rw [h]; rfl)]
theorem wstep_cut {ws : List Str} {wd g : Str} {kp c : Nat} (h : (Builtin.Str.occurrences (Str.ofString "-/\\:;\"()") ⟨#[c]⟩ 0 (Str.ofString "-/\\:;\"()").length 1).isEmpty = true) (hg : sgn c = g)
    (he : Txt.endswith (Txt.slice (wd ++ g) (some (kp : Int)) none) (Str.ofString "unknown") = true) : wstep ⟨ws, wd, kp⟩ c = ⟨ws, Txt.slice (wd ++ g) none (some (-7)), (Txt.slice (wd ++ g) none (some (-7))).length⟩ := by
  unfold wstep; rw [if_neg (by unfold Txt.contains; rw [h]; simp), hg, if_pos he]
theorem wstep_keep {ws : List Str} {wd g : Str} {kp c : Nat} (h : (Builtin.Str.occurrences (Str.ofString "-/\\:;\"()") ⟨#[c]⟩ 0 (Str.ofString "-/\\:;\"()").length 1).isEmpty = true) (hg : sgn c = g)
    (he : Txt.endswith (Txt.slice (wd ++ g) (some (kp : Int)) none) (Str.ofString "unknown") = false) : wstep ⟨ws, wd, kp⟩ c = ⟨ws, wd ++ g, kp⟩ := by
  unfold wstep; rw [if_neg (by unfold Txt.contains; rw [h]; simp), hg, if_neg (by rw [he]; simp)]
def wrun (l : List Nat) : WS := l.foldl wstep ⟨[], Str.ofString "", 0⟩

def words (x : Str) : List Str := (wrun (tl x)).ws ++ [(wrun (tl x)).wd]
def WS.weight (q : WS) : Nat := (q.ws.map (·.length)).sum + q.wd.length
theorem sgn_len (c : Nat) : (sgn c).length = 1 := by unfold sgn; split <;> rfl
theorem wstep_weight (q : WS) (c : Nat) : (wstep q c).weight ≤ q.weight + 1 ∧ (wstep q c).ws.length ≤ q.ws.length + 1 := by
  have h1 : (q.wd ++ sgn c).length = q.wd.length + 1 := by rw [Str.length_append, sgn_len]
  unfold wstep
  split
  · have e : (Str.ofString "").length = 0 := rfl
    simp [WS.weight, e]
  · split
    · have := Txt.slice_le (q.wd ++ sgn c) none (some (-7))
      exact ⟨by simp only [WS.weight]; omega, Nat.le_succ _⟩
    · exact ⟨by simp only [WS.weight]; omega, Nat.le_succ _⟩
theorem wfold_weight (l : List Nat) : ∀ q : WS, (l.foldl wstep q).weight ≤ q.weight + l.length ∧ (l.foldl wstep q).ws.length ≤ q.ws.length + l.length := by
  induction l with
  | nil => intro q; exact ⟨Nat.le_refl _, Nat.le_refl _⟩
  | cons c r ih =>
    intro q
    have h := ih (wstep q c)
    have h2 := wstep_weight q c
    rw [List.foldl_cons, List.length_cons]
    omega
theorem words_weight (x : Str) : ((words x).map (·.length)).sum ≤ x.length ∧ (words x).length ≤ x.length + 1 := by
  have h := wfold_weight (tl x) ⟨[], Str.ofString "", 0⟩
  rw [tl_length] at h
  have e : (⟨[], Str.ofString "", 0⟩ : WS).weight = 0 := rfl
  rw [e, Nat.zero_add] at h
  refine ⟨?_, ?_⟩
  · unfold words; rw [List.map_append, List.sum_append]; have := h.1; simp only [List.map_cons, List.map_nil, List.sum_cons, List.sum_nil, Nat.add_zero]; exact this
  · unfold words; rw [List.length_append]; have := h.2; simp only [List.length_nil, Nat.zero_add] at this; simp only [List.length_singleton]; exact Nat.succ_le_succ this
end Mine
end
section -- Tx2
set_option maxRecDepth 100000
set_option maxHeartbeats 1000000
namespace Mine
theorem Pr.stripBy {x : Str} (h : Pr x) (goes : Nat → Bool) (l r : Bool) : Pr (Txt.stripBy goes l r x) := by
  unfold Txt.stripBy
  split
  · exact h
  · intro c hc
    unfold PySem.stripped at hc
    unfold tl at hc; rw [StrLaws.strSub_toList] at hc
    exact h c (List.mem_of_mem_drop (List.mem_of_mem_take hc))
theorem Pr.strip {x : Str} (h : Pr x) : Pr (Txt.strip x) := h.stripBy _ _ _
theorem Pr.lstrip {x : Str} (h : Pr x) : Pr (Txt.lstrip x) := h.stripBy _ _ _
end Mine
end
section -- F5
set_option maxRecDepth 100000
set_option maxHeartbeats 8000000
namespace Mine

local macro_rules | `(tactic| walk_at "call builtin:len") => `(tactic| (k_here; (with_reducible show wpAny _ _ (call (Value.builtin "len") [Value.str _ _]) _ _ _); refine len_str (by omega) ?_))
theorem law_words {w : World} {mg mb : Str → Option Value} {A : Around} {s : Shared} {R : Result → Shared → Prop} {x : Str} {u : Tok}
    (X : (hd.heap_39 w.params).In s.heap) (T : TopRead hd.view_39 (looseW hd.view_39 []) mg mb s.heap)
    (GL : Glob 0 mg mb (List.map itemOf (recsOf hd.view_39)) (scalarsOf [] ++ constsW hd.view_39) [] (namesW hd.view_39 []) s.heap)
    (hroom : A.depth + 10 < recursionLimit) (hu : A.units + 100 < cLine) (hh : A.handled = none)
    (hx : x.length ≤ 1000) (hp : Pr x)
    (hR : ∀ h' tk l items n, (∀ b o, s.heap.get? b = some o → h'.get? b = some o) → s.heap.get? l = none → h'.get? l = some (W.listOf items n) → StrsAre items.toList (words x) →
      items.size ≤ x.length + 1 → R (.ok (.ret (.ref l))) { s with heap := h', toks := tk }) :
    codeAny (model PySem.Challenge.rw_mj0053_01.row.prog w) A (.call (.ref 49) ⟨[.str x u], []⟩) R s := by
  revert X T
  k_fill
  intro X T
  refine' enterF X T.nolimit ?ho ?hcd ?hroom ?hbind ?hloc ?_ ?c2 ?c3 ?c4 ?c5
  case ho => k_is
  case hcd => k_is
  case hroom => omega
  case hbind => exact BindsTo.of_eq rfl
  case hloc => exact locs rfl
  case c2 => exact rfl
  case c3 => exact rfl
  case c4 => exact rfl
  case c5 => decide
  intro h₁ tk₁ F N
  try k_fold

  k_steps
  refine For_invV s.heap rfl rfl ?_ (fun _ => rfl) (PassesOwn.never)
  refine ld (by assumption) rfl ?_
  rename_i l₀ _ _ _ _ _ F9 N9
  refine iterStr (news := [(l₀, W.listOf #[] 0)]) (fun i m nx => ∃ items n t1 t2, nx = [(l₀, W.listOf items n)] ∧ StrsAre items.toList (wrun ((tl x).take i)).ws ∧ items.size ≤ i ∧ (wrun ((tl x).take i)).wd.length ≤ i ∧ (wrun ((tl x).take i)).kp ≤ i ∧
    m (Str.ofString "words") = some (.ref l₀) ∧ m (Str.ofString "word") = some (.str (wrun ((tl x).take i)).wd t1) ∧ m (Str.ofString "kept") = some (.int (wrun ((tl x).take i)).kp t2)) hh F9 N9 ?_ ?_ ?_
  · exact ⟨#[], 0, _, _, rfl, .nil, Nat.zero_le _, Nat.zero_le _, Nat.zero_le _, rfl, rfl, rfl⟩
  · rintro i c u m₁ nx h tk oI hi hc ⟨items, n, t1, t2, rfl, hs, hsz, hwl, hkp, m1, m2, m3⟩ ho F1 N1
    have hq : wrun ((tl x).take (i + 1)) = wstep (wrun ((tl x).take i)) c := by
      have e : (tl x).take (i + 1) = (tl x).take i ++ [c] := by
        rw [List.take_add_one]
        have : (tl x)[i]? = some c := by simpa using hc
        rw [this]; rfl
      rw [e]; simp [wrun]
    generalize wrun ((tl x).take i) = q at *
    have F2 := frTurn [(Str.ofString "words", .ref l₀), (Str.ofString "word", .str q.wd t1), (Str.ofString "kept", .int q.kp t2)] F1 rfl
      (List.forall_mem_cons.mpr ⟨m1, List.forall_mem_cons.mpr ⟨m2, List.forall_mem_cons.mpr ⟨m3, List.forall_mem_nil _⟩⟩⟩)
    clear F1 m1 m2 m3 F9 N9
    simp only [kstB] at F2
    dsimp only at ho N1
    change Fr s.heap s.heap.objs.size h _ at F2
    change News s.heap s.heap.objs.size h _ at N1
    have hne := neN (ho _ (.head _))
    have hi' : i < 1000 := by have := hi; unfold Str.length at hx; omega
    obtain ⟨ws, wd, kp⟩ := q
    have lu : (Str.ofString "_").length = 1 := by decide
    have lc : (⟨#[c]⟩ : Str).length = 1 := rfl
    dsimp only at hs hwl hkp F2
    have ho' : ∀ p ∈ [] ++ [(l₀, W.listOf items n)], p.1 ≠ _ := ho
    have ho'' := off_one (o' := W.listOf (items.push (.str wd t1)) (n + 1)) ho
    k_steps
    · have e := wstep_cut (ws := ws) (kp := kp) (by assumption) (sgn_blank (by assumption)) (by assumption)
      exact TurnEnd.on (by assumption) (by assumption) ho' ⟨items, n, _, _, rfl, by rw [hq, e]; exact hs, by omega, by rw [hq, e]; dsimp only; omega, by rw [hq, e]; dsimp only; omega, rfl, by rw [hq, e]; rfl, by rw [hq, e]; rfl⟩
    · have e := wstep_keep (ws := ws) (kp := kp) (by assumption) (sgn_blank (by assumption)) (by assumption)
      exact TurnEnd.on (by assumption) (by assumption) ho' ⟨items, n, _, _, rfl, by rw [hq, e]; exact hs, by omega, by rw [hq, e]; dsimp only; omega, by rw [hq, e]; dsimp only; omega, rfl, by rw [hq, e]; rfl, by rw [hq, e]; rfl⟩
    · have e := wstep_cut (ws := ws) (kp := kp) (by assumption) (sgn_other (by assumption)) (by assumption)
      exact TurnEnd.on (by assumption) (by assumption) ho' ⟨items, n, _, _, rfl, by rw [hq, e]; exact hs, by omega, by rw [hq, e]; dsimp only; omega, by rw [hq, e]; dsimp only; omega, rfl, by rw [hq, e]; rfl, by rw [hq, e]; rfl⟩
    · have e := wstep_keep (ws := ws) (kp := kp) (by assumption) (sgn_other (by assumption)) (by assumption)
      exact TurnEnd.on (by assumption) (by assumption) ho' ⟨items, n, _, _, rfl, by rw [hq, e]; exact hs, by omega, by rw [hq, e]; dsimp only; omega, by rw [hq, e]; dsimp only; omega, rfl, by rw [hq, e]; rfl, by rw [hq, e]; rfl⟩
    · have e := wstep_sep (ws := ws) (wd := wd) (kp := kp) (by assumption)
      exact TurnEnd.on (by assumption) (by assumption) ho'' ⟨items.push (.str wd t1), n + 1, _, _, rfl, by rw [hq, e, Array.toList_push]; exact hs.append' (.cons _ _ .nil), by rw [Array.size_push]; omega, by rw [hq, e]; exact Nat.zero_le _, by rw [hq, e]; exact Nat.zero_le _, rfl, by rw [hq, e]; rfl, by rw [hq, e]; rfl⟩
  · rintro m₁ nx h tk ⟨items, n, t1, t2, rfl, hs, hsz, hwl, hkp, m1, m2, m3⟩ F1 N1
    rw [List.take_of_length_le (by rw [tl_length]; exact Nat.le_refl _)] at hs hwl hkp m2 m3
    unfold words at hR
    generalize wrun (tl x) = q at *
    have hxs : x.cps.size ≤ 1000 := hx
    have F2 := frNames [(Str.ofString "words", .ref l₀), (Str.ofString "word", .str q.wd t1)] F1 (by
      refine List.forall_mem_cons.mpr ⟨m1, List.forall_mem_cons.mpr ⟨m2, List.forall_mem_nil _⟩⟩)
    clear F1 m1 m2 m3 F9 N9
    simp only [kstB] at F2
    change Fr s.heap s.heap.objs.size h _ at F2
    change News s.heap s.heap.objs.size h _ at N1
    obtain ⟨ws, wd, kp⟩ := q
    dsimp only at hs hwl hkp F2 ⊢
    k_steps
    exact hR _ _ _ _ _ (Fr.keep (by assumption)) (News.fresh (by assumption) (.head _)) (News.get (by assumption) (.head _)) (by
      show StrsAre (items.toList ++ #[Value.str wd t1].toList).toArray.toList (ws ++ [wd])
      exact StrsAre.append' (by assumption) (.cons _ _ .nil)) (by simp only [List.size_toArray, List.length_append, Array.length_toList]; show items.size + 1 ≤ x.cps.size + 1; omega)

theorem call_law_words {w : World} {mg mb : Str → Option Value} {A : Around} {E : Value → Shared → Prop} {s : Shared} {h₀ : Heap} {L : Addr} {m : Str → Option Value} {news : List (Addr × Obj)} {Q : Value → Shared → Prop} {x : Str} {u : Tok}
    (F : Fr h₀ L s.heap m) (N : News h₀ L s.heap news) (X : (hd.heap_39 w.params).In h₀) (T : TopRead hd.view_39 (looseW hd.view_39 []) mg mb h₀)
    (GL : Glob 0 mg mb (List.map itemOf (recsOf hd.view_39)) (scalarsOf [] ++ constsW hd.view_39) [] (namesW hd.view_39 []) h₀)
    (hroom : A.depth + 10 < recursionLimit) (hu : A.units + 100 < cLine) (hh : A.handled = none) (hx : x.length ≤ 1000) (hp : Pr x)
    (h : ∀ h' tk l items n, Fr h₀ L h' m → News h₀ L h' ((l, W.listOf items n) :: news) → (∀ p ∈ news, p.1 ≠ l) → StrsAre items.toList (words x) → items.size ≤ x.length + 1 → Q (.ref l) { s with heap := h', toks := tk }) :
    wpAny (model PySem.Challenge.rw_mj0053_01.row.prog w) A (call (.ref 49) [.str x u]) Q E s := by
  refine wpAny_call (law_words (X.keeps F.keep) (T.keeps F.keep) (GL.keeps F.keep) hroom hu hh hx hp fun h' tk l items n hk hl ho hs hz => ?_)
  exact h h' tk l items n (F.grownK hk) (news_new F N hk hl ho).1 (news_new F N hk hl ho).2 hs hz
end Mine
end
section -- F6
set_option maxRecDepth 100000
set_option maxHeartbeats 8000000
namespace Mine

/-- what _law_call_words answers -/
def callWords (wh : Str) (ln : Int) (nm : Str) : List Str :=
  if wh ≠ Str.ofString "~" ∨ ln ≠ 0 then words (Txt.lstrip wh) ++ words (Str.ofString (toString ln)) ++ words nm ++ [Str.ofString ""]
  else if Txt.slice nm none (some 1) = Str.ofString "<" ∧ Txt.slice nm (some (-1)) none = Str.ofString ">" then words (Str.ofString "{" ++ Txt.slice nm (some 1) (some (-1)) ++ Str.ofString "}")
  else if nm = Str.ofString "" then []
  else words (Txt.strip nm)
theorem callWords_1 {wh nm : Str} {ln : Int} (h : wh ≠ Str.ofString "~" ∨ ln ≠ 0) : callWords wh ln nm = words (Txt.lstrip wh) ++ words (Str.ofString (toString ln)) ++ words nm ++ [Str.ofString ""] := by unfold callWords; rw [if_pos h]
theorem callWords_2 {wh nm : Str} {ln : Int} (h : ¬ (wh ≠ Str.ofString "~" ∨ ln ≠ 0)) (h2 : Txt.slice nm none (some 1) = Str.ofString "<" ∧ Txt.slice nm (some (-1)) none = Str.ofString ">") :
    callWords wh ln nm = words (Str.ofString "{" ++ Txt.slice nm (some 1) (some (-1)) ++ Str.ofString "}") := by unfold callWords; rw [if_neg h, if_pos h2]
theorem callWords_3 {wh nm : Str} {ln : Int} (h : ¬ (wh ≠ Str.ofString "~" ∨ ln ≠ 0)) (h2 : ¬ (Txt.slice nm none (some 1) = Str.ofString "<" ∧ Txt.slice nm (some (-1)) none = Str.ofString ">")) (h3 : nm = Str.ofString "") :
    callWords wh ln nm = [] := by unfold callWords; rw [if_neg h, if_neg h2, if_pos h3]
theorem callWords_4 {wh nm : Str} {ln : Int} (h : ¬ (wh ≠ Str.ofString "~" ∨ ln ≠ 0)) (h2 : ¬ (Txt.slice nm none (some 1) = Str.ofString "<" ∧ Txt.slice nm (some (-1)) none = Str.ofString ">")) (h3 : nm ≠ Str.ofString "") :
    callWords wh ln nm = words (Txt.strip nm) := by unfold callWords; rw [if_neg h, if_neg h2, if_neg h3]
theorem not_file' {wh : Str} {ln : Int} (h1 : (wh != Str.ofString "~") = false) (h2 : ln = 0) : ¬ (wh ≠ Str.ofString "~" ∨ ln ≠ 0) := by
  rintro (q | q)
  · exact absurd (bne_iff_ne.mpr q) (by rw [h1]; simp)
  · exact q h2
local macro_rules | `(tactic| walk_at "call ref") => `(tactic| (k_here; (with_reducible show wpAny _ _ (call (Value.ref 49) _) _ _ _); (refine call_law_words (by assumption) (by assumption) (by assumption) (by assumption) (by assumption) (by simp only [depth_deeper]; omega) (by simp only [units_deeper]; omega) (by assumption) (by omega) (by repeat (first | assumption | exact pr_line (by assumption) (by assumption) | exact pr_of (by decide +kernel) | refine Pr.append ?_ ?_ | refine Pr.slice ?_ _ _ | refine Pr.lstrip ?_ | refine Pr.strip ?_)) ?_); intro h' tk' l' items' n' F' N' l1 hs' hz'; (replace l1 := allNe_of l1); (simp only [AllNe, and_true] at l1); (try k_sweep)))
local macro_rules | `(tactic| walk_at "binaryOp Add ref ref") => `(tactic| (k_here; (refine add_strs (by assumption) (by assumption) (by k_mem) (by k_mem) (by assumption) (by first | assumption | exact .cons _ _ .nil) (by first | omega | (simp only [List.size_toArray, List.length_cons, List.length_nil]; omega)) ?_); intro h' l' zs' F' N' l1 hs' hz'; (try k_lt l1); (try k_sweep)))
theorem law_call_words {w : World} {mg mb : Str → Option Value} {A : Around} {s : Shared} {R : Result → Shared → Prop} {t : Addr} {u1 u2 u3 : Tok} {wh nm : Str} {ln : Int} {nn : Nat}
    (X : (hd.heap_39 w.params).In s.heap) (T : TopRead hd.view_39 (looseW hd.view_39 []) mg mb s.heap)
    (GL : Glob 0 mg mb (List.map itemOf (recsOf hd.view_39)) (scalarsOf [] ++ constsW hd.view_39) [] (namesW hd.view_39 []) s.heap)
    (hroom : A.depth + 20 < recursionLimit) (hu : A.units + 110 < cLine) (hh : A.handled = none)
    (ht : s.heap.get? t = some { cls := .type "tuple", data := .seq #[.str wh u1, .int ln u2, .str nm u3] nn })
    (hw : Pr wh) (hn : Pr nm) (hwl : wh.length ≤ 900) (hnl : nm.length ≤ 900) (hl0 : -20 ≤ ln) (hl1 : ln < 80)
    (hR : ∀ h' tk l items n, (∀ b o, s.heap.get? b = some o → h'.get? b = some o) → s.heap.get? l = none → h'.get? l = some (W.listOf items n) → StrsAre items.toList (callWords wh ln nm) →
      R (.ok (.ret (.ref l))) { s with heap := h', toks := tk }) :
    codeAny (model PySem.Challenge.rw_mj0053_01.row.prog w) A (.call (.ref 56) ⟨[.ref t], []⟩) R s := by
  revert X T
  k_fill
  intro X T
  refine' enterF X T.nolimit ?ho ?hcd ?hroom ?hbind ?hloc ?_ ?c2 ?c3 ?c4 ?c5
  case ho => k_is
  case hcd => k_is
  case hroom => omega
  case hbind => exact BindsTo.of_eq rfl
  case hloc => exact locs rfl
  case c2 => exact rfl
  case c3 => exact rfl
  case c4 => exact rfl
  case c5 => decide
  intro h₁ tk₁ F N
  try k_fold

  k_steps
  refine unpackN_ (by assumption) (by assumption) (IsTup.keeps ⟨_, ht, rfl, _, rfl⟩ (Fr.keep (by assumption))) hh rfl rfl ?_
  intro h2 F2 N2
  have hll := lineTxt_len hl0 hl1
  have lb : (Str.ofString "{").length = 1 := by decide
  have lb' : (Str.ofString "}").length = 1 := by decide
  k_steps
  · rw [callWords_1 (.inl (bne_iff_ne.mp (by assumption)))] at hR
    exact hR _ _ _ _ _ (Fr.keep (by assumption)) (News.fresh (by assumption) (.head _)) (News.get (by assumption) (.head _)) (by assumption)
  · rw [callWords_1 (.inr (by assumption))] at hR
    exact hR _ _ _ _ _ (Fr.keep (by assumption)) (News.fresh (by assumption) (.head _)) (News.get (by assumption) (.head _)) (by assumption)
  · rw [callWords_2 (not_file' (by assumption) (by assumption)) ⟨eq_of_beq (by assumption), eq_of_beq (by assumption)⟩] at hR
    exact hR _ _ _ _ _ (Fr.keep (by assumption)) (News.fresh (by assumption) (.head _)) (News.get (by assumption) (.head _)) (by assumption)
  · rw [callWords_3 (not_file' (by assumption) (by assumption)) (fun q => ne_of_beq_false (by assumption) q.2) (eq_of_beq (by assumption))] at hR
    exact hR _ _ _ _ _ (Fr.keep (by assumption)) (News.fresh (by assumption) (.head _)) (News.get (by assumption) (.head _)) .nil
  · rw [callWords_4 (not_file' (by assumption) (by assumption)) (fun q => ne_of_beq_false (by assumption) q.2) (ne_of_beq_false (by assumption))] at hR
    exact hR _ _ _ _ _ (Fr.keep (by assumption)) (News.fresh (by assumption) (.head _)) (News.get (by assumption) (.head _)) (by assumption)
  · rw [callWords_3 (not_file' (by assumption) (by assumption)) (fun q => ne_of_beq_false (by assumption) q.1) (eq_of_beq (by assumption))] at hR
    exact hR _ _ _ _ _ (Fr.keep (by assumption)) (News.fresh (by assumption) (.head _)) (News.get (by assumption) (.head _)) .nil
  · rw [callWords_4 (not_file' (by assumption) (by assumption)) (fun q => ne_of_beq_false (by assumption) q.1) (ne_of_beq_false (by assumption))] at hR
    exact hR _ _ _ _ _ (Fr.keep (by assumption)) (News.fresh (by assumption) (.head _)) (News.get (by assumption) (.head _)) (by assumption)
end Mine
end
section -- Cl
set_option maxRecDepth 100000
set_option maxHeartbeats 1000000
namespace Mine
structure Cl where
  wh : Str
  ln : Int
  nm : Str
structure ClOk (c : Cl) : Prop where
  w : Pr c.wh
  n : Pr c.nm
  wl : c.wh.length ≤ 300
  nl : c.nm.length ≤ 300
  l0 : -20 ≤ c.ln
  l1 : c.ln < 80
def ClAt (h : Heap) (v : Value) (c : Cl) : Prop := ∃ t u1 u2 u3 nn, v = .ref t ∧ h.get? t = some { cls := .type "tuple", data := .seq #[.str c.wh u1, .int c.ln u2, .str c.nm u3] nn }
def ClsAt (h : Heap) (vs : List Value) (cs : List Cl) : Prop := vs.length = cs.length ∧ ∀ (i : Nat) (v : Value), vs[i]? = some v → ∃ c, cs[i]? = some c ∧ ClAt h v c
theorem ClAt.keeps {h h' : Heap} {v : Value} {c : Cl} (x : ClAt h v c) (hk : ∀ b o, h.get? b = some o → h'.get? b = some o) : ClAt h' v c :=
  let ⟨t, a, b, d, n, e, g⟩ := x; ⟨t, a, b, d, n, e, hk _ _ g⟩
theorem ClsAt.keeps {h h' : Heap} {vs : List Value} {cs : List Cl} (x : ClsAt h vs cs) (hk : ∀ b o, h.get? b = some o → h'.get? b = some o) : ClsAt h' vs cs :=
  ⟨x.1, fun i v hv => let ⟨c, a, b⟩ := x.2 i v hv; ⟨c, a, b.keeps hk⟩⟩
def Cl.words (c : Cl) : List Str := callWords c.wh c.ln c.nm
def allWords (cs : List Cl) : List Str := cs.flatMap Cl.words
def label (cs : List Cl) : Str :=
  if (allWords cs).filter (fun x => x != Str.ofString "") = [] then Str.ofString ""
  else (if (allWords cs).head? = some (Str.ofString "") then Str.ofString "-" else Str.ofString "") ++ Str.join (Str.ofString "-") ((allWords cs).filter (fun x => x != Str.ofString ""))
theorem stripBy_le (g : Nat → Bool) (l r : Bool) (x : Str) : (Txt.stripBy g l r x).length ≤ x.length := by
  unfold Txt.stripBy
  split
  · exact Nat.le_refl _
  · unfold PySem.stripped
    rw [← tl_length, ← tl_length]
    unfold tl
    rw [StrLaws.strSub_toList, List.length_take, List.length_drop]
    omega
theorem callWords_weight {wh nm : Str} {ln : Int} (h0 : -20 ≤ ln) (h1 : ln < 80) (hw : wh.length ≤ 300) (hn : nm.length ≤ 300) : ((callWords wh ln nm).map (·.length)).sum ≤ 700 ∧ (callWords wh ln nm).length ≤ 700 := by
  have a1 := words_weight (Txt.lstrip wh)
  have a2 := words_weight (Str.ofString (toString ln))
  have a3 := words_weight nm
  have a4 := words_weight (Str.ofString "{" ++ Txt.slice nm (some 1) (some (-1)) ++ Str.ofString "}")
  have a5 := words_weight (Txt.strip nm)
  have b1 : (Txt.lstrip wh).length ≤ wh.length := stripBy_le _ _ _ _
  have b5 : (Txt.strip nm).length ≤ nm.length := stripBy_le _ _ _ _
  have b2 := lineTxt_len h0 h1
  have b4 := Txt.slice_le nm (some 1) (some (-1))
  have c1 : (Str.ofString "{").length = 1 := rfl
  have c2 : (Str.ofString "}").length = 1 := rfl
  have c3 : (Str.ofString "").length = 0 := rfl
  rw [Str.length_append, Str.length_append, c1, c2] at a4
  unfold callWords
  split
  · simp only [List.map_append, List.sum_append, List.length_append, List.map_cons, List.map_nil, List.sum_cons, List.sum_nil, List.length_cons, List.length_nil, c3]; omega
  · split
    · omega
    · split
      · simp
      · omega
theorem allWords_weight : ∀ (cs : List Cl), (∀ c ∈ cs, ClOk c) → ((allWords cs).map (·.length)).sum ≤ 700 * cs.length ∧ (allWords cs).length ≤ 700 * cs.length
  | [], _ => ⟨Nat.le_refl _, Nat.le_refl _⟩
  | c :: r, h => by
    have a := allWords_weight r fun d hd => h d (.tail _ hd)
    have o := h c (.head _)
    have b := callWords_weight (wh := c.wh) (nm := c.nm) o.l0 o.l1 o.wl o.nl
    have e : allWords (c :: r) = callWords c.wh c.ln c.nm ++ allWords r := rfl
    rw [e, List.map_append, List.sum_append, List.length_append, List.length_cons]
    omega
theorem call_law_call_words {w : World} {mg mb : Str → Option Value} {A : Around} {E : Value → Shared → Prop} {s : Shared} {h₀ : Heap} {L : Addr} {m : Str → Option Value} {news : List (Addr × Obj)} {Q : Value → Shared → Prop} {v : Value} {c : Cl}
    (F : Fr h₀ L s.heap m) (N : News h₀ L s.heap news) (X : (hd.heap_39 w.params).In h₀) (T : TopRead hd.view_39 (looseW hd.view_39 []) mg mb h₀)
    (GL : Glob 0 mg mb (List.map itemOf (recsOf hd.view_39)) (scalarsOf [] ++ constsW hd.view_39) [] (namesW hd.view_39 []) h₀)
    (hroom : A.depth + 20 < recursionLimit) (hu : A.units + 110 < cLine) (hh : A.handled = none) (hv : ClAt s.heap v c) (hc : ClOk c)
    (h : ∀ h' tk l items n, Fr h₀ L h' m → News h₀ L h' ((l, W.listOf items n) :: news) → (∀ p ∈ news, p.1 ≠ l) → StrsAre items.toList c.words → Q (.ref l) { s with heap := h', toks := tk }) :
    wpAny (model PySem.Challenge.rw_mj0053_01.row.prog w) A (call (.ref 56) [v]) Q E s := by
  obtain ⟨t, u1, u2, u3, nn, rfl, ht⟩ := hv
  refine wpAny_call (law_call_words (X.keeps F.keep) (T.keeps F.keep) (GL.keeps F.keep) hroom hu hh ht hc.w hc.n (Nat.le_trans hc.wl (by omega)) (Nat.le_trans hc.nl (by omega)) hc.l0 hc.l1 fun h' tk l items n hk hl ho hs => ?_)
  exact h h' tk l items n (F.grownK hk) (news_new F N hk hl ho).1 (news_new F N hk hl ho).2 hs
end Mine
end
section -- Ext
set_option maxRecDepth 100000
set_option maxHeartbeats 1000000
namespace Mine
theorem updOf {D : Addr} {o o' : Obj} {post : List (Addr × Obj)} : ∀ {pre : List (Addr × Obj)}, (∀ p ∈ pre ++ post, p.1 ≠ D) → Upd D o o' (pre ++ (D, o) :: post) (pre ++ (D, o') :: post)
  | [], h => .head h
  | p :: _, h => .tail (h p (.head _)) (updOf fun q hq => h q (.tail _ hq))
section
variable {prog : Program} {w : World} {A : Around} {E : Value → Shared → Prop} {s : Shared} {h₀ : Heap} {L D b : Addr} {m : Str → Option Value} {pre post : List (Addr × Obj)} {its its2 : Array Value} {n n2 : Nat}
theorem ext_list {Q : Value → Shared → Prop} (F : Fr h₀ L s.heap m) (N : News h₀ L s.heap (pre ++ (D, W.listOf its n) :: post)) (hb : (b, W.listOf its2 n2) ∈ pre ++ post) (hD : ∀ p ∈ pre ++ post, p.1 ≠ D) (hz : its.size + its2.size ≤ 100000)
    (h : ∀ h' zs n', Fr h₀ L h' m → News h₀ L h' (pre ++ (D, W.listOf zs n') :: post) → zs.toList = its.toList ++ its2.toList → Q .none { s with heap := h' }) :
    wpAny (model prog w) A (call (.builtin "list.extend") [.ref D, .ref b]) Q E s := by
  have hb' : (b, W.listOf its2 n2) ∈ pre ++ (D, W.listOf its n) :: post := (List.mem_append.mp hb).elim (fun q => List.mem_append_left _ q) fun q => List.mem_append_right _ (.tail _ q)
  have hd : ¬(!its.isEmpty && Builtin.List.listTooLong (its.size + its2.size)) = true := extend_door (by rw [sizeLine_eq]; omega)
  have z1 : its.toList.length ≤ sizeLine := by rw [sizeLine_eq, Array.length_toList]; omega
  have z2 : its.size + its2.size ≤ sizeLine + 1 := by rw [sizeLine_eq]; omega
  by_cases e : its2.toList.length = 0
  · have e0 : its2.toList = [] := List.eq_nil_of_length_eq_zero e
    exact kxn_extend F N hb' e0 (updOf hD) hd z1 z2 fun h' F' N' => h h' its n F' N' (by rw [e0, List.append_nil])
  · exact kl_extend F N hb' rfl e (updOf hD) hd z1 z2 fun h' F' N' => h h' _ _ F' N' rfl
end
end Mine
end
section -- Comp
set_option maxRecDepth 100000
set_option maxHeartbeats 1000000
namespace Mine
section
variable {prog : Program} {w : World} {A : Around} {E : Value → Shared → Prop} {s : Shared} {env : Env} {h₀ : Heap} {L : Addr} {m : Str → Option Value} {news : List (Addr × Obj)}
theorem comp_list {l : Addr} {items : Array Value} {scope : Scope} {x y : Str} {ifs : List Expr} {elt : Expr} {Q : Flow → Shared → Prop} (p : Value → Bool) (G : Value → Value → Prop)
    (hh : A.handled = none) (hl : s.heap.IsList l items) (hLe : env.locals = L) (hlL : l ≠ L) (F : Fr h₀ L s.heap m) (N : News h₀ L s.heap news) (hz : items.size ≤ 100000)
    (tests : ∀ C v s₃ m₃ E', v ∈ items.toList → s₃.heap.Ns C m₃ → m₃ x = some v → (∀ b o, s.heap.get? b = some o → s₃.heap.get? b = some o) →
      wpAny (model prog w) A (forIn ifs true fun c r => if r = true then do let ok ← isTrue c (compEnv scope C env) (eval c (compEnv scope C env)); pure (ForInStep.yield ok) else pure (ForInStep.yield r)) (fun ok s₄ => ok = p v ∧ Keeps s₃ s₄) E' s₃)
    (elts : ∀ C v s₃ m₃ E', v ∈ items.toList → p v = true → s₃.heap.Ns C m₃ → m₃ x = some v → (∀ b o, s.heap.get? b = some o → s₃.heap.get? b = some o) →
      wpAny (model prog w) A (eval elt (compEnv scope C env)) (fun y s₄ => G v y ∧ Keeps s₃ s₄) E' s₃)
    (done : ∀ D h' tk ys n, Fr h₀ L h' (fun z => if z = y then some (.ref D) else m z) → News h₀ L h' ((D, W.listOf ys n) :: news) → (∀ p ∈ news, p.1 ≠ D) → Paired G (items.toList.filter p) ys.toList → Q .next { s with heap := h', toks := tk }) :
    wpAny (model prog w) A (pyIter (.ref l)) (CompPostA prog w A env scope x y ifs elt Q) E s := by
  subst hLe
  obtain ⟨ol, hol, _⟩ := id hl
  have hne : l ≠ s.heap.objs.size := Nat.ne_of_lt (Heap.lt_size hol)
  have hin : ∀ (i : Nat) (v : Value), items[i]? = some v → v ∈ items.toList := fun i v e => by
    have : items.toList[i]? = some v := by simpa using e
    exact List.mem_of_getElem? this
  have up : ∀ b o, s.heap.get? b = some o → b ∉ [s.heap.objs.size] := fun b o e hb => by
    rw [List.mem_singleton.mp hb] at e; exact absurd (Heap.lt_size e) (Nat.lt_irrefl _)
  refine wpAny_pyIter_list hl ?_
  refine ⟨p, G, _, _, _, items.size, _, _, m, rfl, Walks.list hh s.heap.objs.size l hne items, by rw [sizeLine_eq]; omega, ⟨⟨_, Heap.get?_push_size _ rfl, rfl, rfl⟩, hl.at fun o e => Heap.get?_push_of_some _ e⟩, ?_, ?_, (F.push _).ns, ⟨?_, ?_⟩, ?_⟩
  · intro b hb
    show b < (s.heap.push _).objs.size
    rw [Heap.size_push]
    rcases List.mem_cons.mp hb with e | hb
    · rw [e]; exact Nat.lt_succ_self _
    · rw [List.mem_singleton.mp hb]; exact Nat.lt_succ_of_lt (Heap.lt_size hol)
  · intro hb; exact absurd F.ns.lt ((List.mem_singleton.mp hb) ▸ Nat.lt_irrefl _)
  · intro C i v s₃ m₃ E' hP hn hm hk _
    exact tests C v s₃ m₃ E' (hin i v hP) hn hm fun b o e => hk b o (up b o e) (Heap.get?_push_of_some _ e)
  · intro C i v s₃ m₃ E' hP hp hn hm hk _
    exact elts C v s₃ m₃ E' (hin i v hP) hp hn hm fun b o e => hk b o (up b o e) (Heap.get?_push_of_some _ e)
  · intro D h' tk ys vs hD hl' hpl hlen hP hG hns hk
    have hvs : vs = items.toList := by
      apply List.ext_getElem?
      intro j
      by_cases hj : j < vs.length
      · have e1 : vs[j]? = some vs[j] := by simp [hj]
        have e2 : items[j]? = some vs[j] := hP j _ e1
        rw [e1]; simpa using e2.symm
      · rw [List.getElem?_eq_none (by omega), List.getElem?_eq_none (by simp; omega)]
    subst hvs
    have hD' : s.heap.get? D = none := by
      cases e : s.heap.get? D with
      | none => rfl
      | some o => rw [show (s.heap.push _).get? D = some o from Heap.get?_push_of_some _ e] at hD; cases hD
    have hk' : ∀ b o, b ≠ env.locals → s.heap.get? b = some o → h'.get? b = some o := fun b o hb e => hk b o hb (up b o e) (Heap.get?_push_of_some _ e)
    have oldL : ∀ b o, h₀.get? b = some o → b ≠ env.locals := fun b o e => Nat.ne_of_lt (Nat.lt_of_lt_of_le (Heap.lt_size e) F.above)
    have neD : ∀ b o, s.heap.get? b = some o → b ≠ D := fun b o e q => by rw [q, hD'] at e; cases e
    obtain ⟨nn, hDo⟩ := hpl
    refine done D h' tk ys nn ⟨hns, fun b o e => hk' b o (oldL b o e) (F.keep b o e), F.above⟩ ?_ (fun p hp => neD _ _ (N p hp).1) hG
    intro q hq
    rcases List.mem_cons.mp hq with rfl | hq
    · obtain ⟨oL, _, _, hL, _⟩ := F.ns
      refine ⟨hDo, Ne.symm (neD _ _ hL), ?_⟩
      cases e : h₀.get? D with
      | none => rfl
      | some o' => exact absurd rfl (neD _ _ (F.keep _ _ e))
    · exact ⟨hk' _ _ (N q hq).2.1 (N q hq).1, (N q hq).2⟩
end
end Mine
end
section -- F3
set_option maxRecDepth 100000
set_option maxHeartbeats 8000000
namespace Mine
section
variable {prog : Program} {w : World} {A : Around} {E : Value → Shared → Prop} {s : Shared}
theorem pick_strs {value slice : PySem.Expr} {l : Addr} {items : Array Value} {ss : List Str} {k : Int} {u : Tok} {Q : Value → Shared → Prop}
    (hl : s.heap.IsList l items) (hi : StrsAre items.toList ss) (h0 : 0 ≤ k) (h1 : k < 8) (h8 : ss.length = 8) (hok : ∀ x ∈ ss, Pr x ∧ x.length ≤ 7) (h : ∀ x t, Pr x → x.length ≤ 7 → Q (.str x t) s)
    (hs : subscripted slice false (.ref l) (.int k u) = operate [.ref l, .int k u] (getItem (.ref l) (.int k u)) := by with_unfolding_all rfl) :
    wpAny (model prog w) A (subscriptTail value slice (.ref l) (.int k u)) Q E s := by
  obtain ⟨lv, hv, ht⟩ := strsAre_values hi
  have hlt : k.toNat < lv.length := by have := congrArg List.length ht; rw [List.length_map, h8] at this; omega
  have e : items[k.toNat]? = some (.str lv[k.toNat].1 lv[k.toNat].2) := by
    have : items.toList[k.toNat]? = some (.str lv[k.toNat].1 lv[k.toNat].2) := by rw [hv]; simp [strValues, hlt]
    simpa using this
  have hm : lv[k.toNat].1 ∈ ss := by rw [← ht]; exact List.mem_map.mpr ⟨_, List.getElem_mem hlt, rfl⟩
  exact tail_any hl.typeIs slot_list_getitem.lookup (wpAny_getItem_list hl h0 (by omega) e (h _ _ (hok _ hm).1 (hok _ hm).2)) hs
end
theorem pick_mem {items : Array Value} {lo hi st : Option Int} {v : Value} {i : Nat} (h : (slicePick items lo hi st)[i]? = some v) : v ∈ items.toList := by
  unfold slicePick at h
  have h' := List.mem_of_getElem? (by simpa using h : _ = some v)
  obtain ⟨j, _, hj⟩ := List.mem_filterMap.mp h'
  have : items.toList[j]? = some v := by simpa using hj
  exact List.mem_of_getElem? this
theorem pick_size (items : Array Value) : (slicePick items none (some 14) none).size ≤ 14 := by
  unfold slicePick
  rw [List.size_toArray]
  refine Nat.le_trans (List.length_filterMap_le _ _) ?_
  unfold sliceRange sliceBounds
  simp only [Option.getD_none, show (1 : Int) > 0 from by decide, if_true, List.length_map, List.length_range]
  have q : ∀ a : Int, a ≤ 14 → ((if 0 < a then (a - 0 + 1 - 1) / 1 else 0 : Int)).toNat ≤ 14 := by
    intro a ha
    split
    · rw [Int.ediv_one]; omega
    · simp
  exact q _ (by omega)
theorem ints_mem {vs : List Value} {ns : List Int} (h : IntsAre vs ns) : ∀ v ∈ vs, ∃ n t, v = .int n t := by
  induction h with
  | nil => intro v hv; cases hv
  | cons n t _ ih =>
    intro v hv
    rcases List.mem_cons.mp hv with rfl | hv
    · exact ⟨n, t, rfl⟩
    · exact ih v hv

abbrev tupOf (wh : Str) (ln : Int) (nm : Str) (u1 u2 u3 : Tok) (nn : Nat) : Obj := { cls := .type "tuple", data := .seq #[.str wh u1, .int ln u2, .str nm u3] nn }
/-- the ledger's tuples bear the calls -/
def ClIn (ts : List (Addr × Obj)) (v : Value) (c : Cl) : Prop := ∃ t u1 u2 u3 nn, v = .ref t ∧ (t, tupOf c.wh c.ln c.nm u1 u2 u3 nn) ∈ ts
inductive ClsIn (ts : List (Addr × Obj)) : List Value → List Cl → Prop
  | nil : ClsIn ts [] []
  | cons {v c vs cs} : ClIn ts v c → ClsIn ts vs cs → ClsIn ts (v :: vs) (c :: cs)
theorem ClIn.mono {ts ts' : List (Addr × Obj)} {v : Value} {c : Cl} (h : ClIn ts v c) (hs : ∀ p ∈ ts, p ∈ ts') : ClIn ts' v c := let ⟨t, a, b, d, n, e, g⟩ := h; ⟨t, a, b, d, n, e, hs _ g⟩
theorem ClsIn.mono {ts ts' : List (Addr × Obj)} {vs : List Value} {cs : List Cl} (h : ClsIn ts vs cs) (hs : ∀ p ∈ ts, p ∈ ts') : ClsIn ts' vs cs := by
  induction h with
  | nil => exact .nil
  | cons a _ ih => exact .cons (a.mono hs) ih
theorem ClsIn.snoc {ts : List (Addr × Obj)} {v : Value} {c : Cl} {vs : List Value} {cs : List Cl} (h : ClsIn ts vs cs) (hc : ClIn ts v c) : ClsIn ts (vs ++ [v]) (cs ++ [c]) := by
  induction h with
  | nil => exact .cons hc .nil
  | cons a _ ih => exact .cons a ih
/-- what is so of the calls behind i steps -/
structure Lim (i : Nat) (c : Cl) : Prop where
  w : Pr c.wh
  n : Pr c.nm
  wl : c.wh.length ≤ 8 + 7 * i
  nl : c.nm.length ≤ 8 + 7 * i
  l0 : -20 ≤ c.ln
  l1 : c.ln < 80
theorem Lim.mono {i j : Nat} {c : Cl} (h : Lim i c) (hij : i ≤ j) : Lim j c := ⟨h.w, h.n, by have := h.wl; omega, by have := h.nl; omega, h.l0, h.l1⟩
theorem ClsIn.last {ts : List (Addr × Obj)} {v : Value} {c : Cl} : ∀ {vs : List Value} {cs : List Cl}, ClsIn ts (vs ++ [v]) (cs ++ [c]) → ClIn ts v c
  | [], [], h => by cases h with | cons a _ => exact a
  | [], d :: r, h => by
    cases h with
    | cons _ q => cases r <;> cases q
  | w :: r, [], h => by
    cases h with
    | cons _ q => cases r <;> cases q
  | _ :: _, _ :: _, h => by
    cases h with
    | cons _ q => exact ClsIn.last q
section
variable {prog : Program} {w : World} {A : Around} {E : Value → Shared → Prop} {s : Shared} {h₀ : Heap} {L D : Addr} {m : Str → Option Value} {pre post : List (Addr × Obj)} {n : Nat}
theorem set_last {vi : List Value} {v v' : Value} {t : Tok} {Q : Unit → Shared → Prop} (F : Fr h₀ L s.heap m) (N : News h₀ L s.heap (pre ++ (D, W.listOf (vi ++ [v]).toArray n) :: post)) (hD : ∀ p ∈ pre ++ post, p.1 ≠ D)
    (h : ∀ h', Fr h₀ L h' m → News h₀ L h' (pre ++ (D, W.listOf (vi ++ [v']).toArray n) :: post) → Q () { s with heap := h' }) : wpAny (model prog w) A (setItem (.ref D) (.int (-1) t) v') Q E s := by
  refine ki_setNeg (j := vi.length) (q := vi ++ [v']) F N (by decide) (by decide) ?_ ?_ (updOf hD) h
  · have := PySem.seqIndex_neg (k := -1) (n := (vi ++ [v]).toArray.size) (by decide) (by simp; omega)
    rw [this]; simp; omega
  · have : ∀ l : List Value, ki_setL (l ++ [v]) l.length v' = some (l ++ [v']) := by
      intro l
      induction l with
      | nil => rfl
      | cons a r ih => simp only [List.cons_append, List.length_cons, ki_setL, ih, Option.map_some]
    exact this vi
end
def JC (l₀ : Addr) (i : Nat) (m : Str → Option Value) (nx : List (Addr × Obj)) : Prop :=
  ∃ vi v n ts cs c, nx = (l₀, W.listOf (vi ++ [v]).toArray n) :: ts ∧ (∀ p ∈ ts, p.1 ≠ l₀) ∧ ClsIn ts (vi ++ [v]) (cs ++ [c]) ∧ (∀ d ∈ cs ++ [c], Lim i d) ∧ cs.length ≤ i ∧ m (Str.ofString "calls") = some (.ref l₀)
theorem ClsIn.init {ts : List (Addr × Obj)} {v : Value} {c : Cl} : ∀ {vs : List Value} {cs : List Cl}, ClsIn ts (vs ++ [v]) (cs ++ [c]) → ClsIn ts vs cs
  | [], [], _ => .nil
  | [], d :: r, h => by
    cases h with
    | cons _ q => cases r <;> cases q
  | w :: r, [], h => by
    cases h with
    | cons _ q => cases r <;> cases q
  | _ :: _, _ :: _, h => by
    cases h with
    | cons a q => exact .cons a (ClsIn.init q)
theorem ClsIn.length {ts : List (Addr × Obj)} {vs : List Value} {cs : List Cl} (h : ClsIn ts vs cs) : vs.length = cs.length := by
  induction h with
  | nil => rfl
  | cons _ _ ih => simp [ih]
section
variable {h₀ h' : Heap} {L l₀ I S D : Addr} {oI oS o : Obj} {s : Shared} {Q : Flow → Shared → Prop} {tk i n : Nat} {m' : Str → Option Value} {vi : List Value} {v : Value} {ts : List (Addr × Obj)} {cs : List Cl} {c : Cl} {wh nm : Str} {ln : Int} {u1 u2 u3 : Tok}
theorem JC.set (F : Fr h₀ L h' m') (N : News h₀ L h' ((D, tupOf wh ln nm u1 u2 u3 0) :: (I, oI) :: (S, oS) :: (l₀, W.listOf (vi ++ [Value.ref D]).toArray n) :: ts)) (hDI : D ≠ I) (hDl : D ≠ l₀) (ho : ∀ p ∈ (S, oS) :: (l₀, o) :: ts, p.1 ≠ I)
    (hts : ∀ p ∈ ts, p.1 ≠ l₀) (hcl : ClsIn ts (vi ++ [v]) (cs ++ [c])) (hlim : ∀ d ∈ cs ++ [c], Lim i d) (hcn : cs.length ≤ i) (hm : m' (Str.ofString "calls") = some (.ref l₀)) (hl : Lim (i + 1) ⟨wh, ln, nm⟩) :
    TurnEnd h₀ L I oI [(S, oS)] (JC l₀ (i + 1)) s Q .next { s with heap := h', toks := tk } := by
  refine TurnEnd.on (nx := (l₀, W.listOf (vi ++ [Value.ref D]).toArray n) :: (D, tupOf wh ln nm u1 u2 u3 0) :: ts) F (KStt.news_of N ?_) ?_ ⟨vi, .ref D, n, _, cs, ⟨wh, ln, nm⟩, rfl, ?_, ?_, ?_, Nat.le_succ_of_le hcn, hm⟩
  · intro p hp
    rcases List.mem_cons.mp hp with rfl | hp
    · exact .tail _ (.head _)
    · rcases List.mem_cons.mp hp with rfl | hp
      · exact .tail _ (.tail _ (.head _))
      · rcases List.mem_cons.mp hp with rfl | hp
        · exact .tail _ (.tail _ (.tail _ (.head _)))
        · rcases List.mem_cons.mp hp with rfl | hp
          · exact .head _
          · exact .tail _ (.tail _ (.tail _ (.tail _ hp)))
  · intro p hp
    rcases List.mem_cons.mp hp with rfl | hp
    · exact ho _ (.head _)
    · rcases List.mem_cons.mp hp with rfl | hp
      · exact ho (l₀, o) (.tail _ (.head _))
      · rcases List.mem_cons.mp hp with rfl | hp
        · exact hDI
        · exact ho p (.tail _ (.tail _ hp))
  · intro p hp
    rcases List.mem_cons.mp hp with rfl | hp
    · exact hDl
    · exact hts p hp
  · exact (hcl.init.mono fun _ hp => .tail _ hp).snoc ⟨D, u1, u2, u3, 0, rfl, .head _⟩
  · intro d hd
    rcases List.mem_append.mp hd with hd | hd
    · exact (hlim d (List.mem_append_left _ hd)).mono (Nat.le_succ _)
    · rw [List.mem_singleton.mp hd]; exact hl
theorem JC.app (F : Fr h₀ L h' m') (N : News h₀ L h' ((D, tupOf wh ln nm u1 u2 u3 0) :: (I, oI) :: (S, oS) :: (l₀, W.listOf ((vi ++ [v]).toArray.push (Value.ref D)) n) :: ts)) (hDI : D ≠ I) (hDl : D ≠ l₀) (ho : ∀ p ∈ (S, oS) :: (l₀, o) :: ts, p.1 ≠ I)
    (hts : ∀ p ∈ ts, p.1 ≠ l₀) (hcl : ClsIn ts (vi ++ [v]) (cs ++ [c])) (hlim : ∀ d ∈ cs ++ [c], Lim i d) (hcn : cs.length ≤ i) (hm : m' (Str.ofString "calls") = some (.ref l₀)) (hl : Lim (i + 1) ⟨wh, ln, nm⟩) :
    TurnEnd h₀ L I oI [(S, oS)] (JC l₀ (i + 1)) s Q .next { s with heap := h', toks := tk } := by
  have e : (vi ++ [v]).toArray.push (Value.ref D) = (vi ++ [v] ++ [Value.ref D]).toArray := by simp
  rw [e] at N
  refine TurnEnd.on (nx := (l₀, W.listOf (vi ++ [v] ++ [Value.ref D]).toArray n) :: (D, tupOf wh ln nm u1 u2 u3 0) :: ts) F (KStt.news_of N ?_) ?_ ⟨vi ++ [v], .ref D, n, _, cs ++ [c], ⟨wh, ln, nm⟩, rfl, ?_, ?_, ?_, by rw [List.length_append]; exact Nat.succ_le_succ hcn, hm⟩
  · intro p hp
    rcases List.mem_cons.mp hp with rfl | hp
    · exact .tail _ (.head _)
    · rcases List.mem_cons.mp hp with rfl | hp
      · exact .tail _ (.tail _ (.head _))
      · rcases List.mem_cons.mp hp with rfl | hp
        · exact .tail _ (.tail _ (.tail _ (.head _)))
        · rcases List.mem_cons.mp hp with rfl | hp
          · exact .head _
          · exact .tail _ (.tail _ (.tail _ (.tail _ hp)))
  · intro p hp
    rcases List.mem_cons.mp hp with rfl | hp
    · exact ho _ (.head _)
    · rcases List.mem_cons.mp hp with rfl | hp
      · exact ho (l₀, o) (.tail _ (.head _))
      · rcases List.mem_cons.mp hp with rfl | hp
        · exact hDI
        · exact ho p (.tail _ (.tail _ hp))
  · intro p hp
    rcases List.mem_cons.mp hp with rfl | hp
    · exact hDl
    · exact hts p hp
  · exact (hcl.mono fun _ hp => .tail _ hp).snoc ⟨D, u1, u2, u3, 0, rfl, .head _⟩
  · intro d hd
    rcases List.mem_append.mp hd with hd | hd
    · exact (hlim d hd).mono (Nat.le_succ _)
    · rw [List.mem_singleton.mp hd]; exact hl
end
theorem pr_nil : Pr (Str.ofString "") := pr_of (by decide +kernel)
theorem clsAt_of {h₀ h : Heap} {L : Addr} {ts : List (Addr × Obj)} {vs : List Value} {cs : List Cl} (N : News h₀ L h ts) (hc : ClsIn ts vs cs) : ClsAt h vs cs := by
  induction hc with
  | nil => exact ⟨rfl, fun i v hv => by cases hv⟩
  | cons a _ ih =>
    refine ⟨by rw [List.length_cons, List.length_cons, ih.1], fun i v hv => ?_⟩
    cases i with
    | zero =>
      cases hv
      obtain ⟨t, u1, u2, u3, nn, e, ht⟩ := a
      exact ⟨_, rfl, t, u1, u2, u3, nn, e, (N _ ht).1⟩
    | succ j => exact ih.2 j v hv
theorem sign_ok (r : Int) : Pr ⟨#[(32 + r.fmod 95).toNat]⟩ := by
  intro c hc
  have : c = (32 + r.fmod 95).toNat := by simpa using hc
  rw [Int.fmod_eq_emod_of_nonneg _ (by decide)] at this
  omega
theorem pieces_ok : ∀ x ∈ [Str.ofString "unknown", Str.ofString "un", Str.ofString "known", Str.ofString "-", Str.ofString " ", Str.ofString "<", Str.ofString ">", Str.ofString "a"], Pr x ∧ x.length ≤ 7 := by
  have h : ([Str.ofString "unknown", Str.ofString "un", Str.ofString "known", Str.ofString "-", Str.ofString " ", Str.ofString "<", Str.ofString ">", Str.ofString "a"].all fun x => (tl x).all (fun c => decide (32 ≤ c ∧ c < 127)) && decide (x.length ≤ 7)) = true := by decide +kernel
  intro x hx
  have := List.all_eq_true.mp h x hx
  rw [Bool.and_eq_true] at this
  exact ⟨pr_of this.1, of_decide_eq_true this.2⟩
local macro_rules | `(tactic| k_all) => `(tactic| assumption)
structure Hold (P : Prop) : Prop where
  out : P
theorem exec_step {M : Model} {A : Around} {E : Value → Shared → Prop} {s : Shared} {st : Stmt} {rest : List Stmt} {env : Env} {Q : Flow → Shared → Prop} (P : Shared → Prop)
    (h1 : wpAny M A (exec st env) (fun f s' => Hold (f = .next ∧ P s')) (fun _ _ => False) s) (h2 : ∀ s', P s' → wpAny M A (execs rest env) Q E s') : wpAny M A (execs (st :: rest) env) Q E s := by
  refine wpAny_execs_cons (wpAny_mono h1 (fun f s' h => ?_) fun _ _ h => h.elim)
  obtain ⟨⟨rfl, hp⟩⟩ := h
  exact h2 s' hp
/-- the frame and the ledger, told anew -/
def At3 (s : Shared) (ps : List (Str × Value)) (nws : List (Addr × Obj)) (s' : Shared) : Prop :=
  ∃ h' tk' m', s' = { s with heap := h', toks := tk' } ∧ Fr s.heap s.heap.objs.size h' m' ∧ (∀ p ∈ ps, m' p.1 = some p.2) ∧ News s.heap s.heap.objs.size h' nws
local macro_rules | `(tactic| walk_at "setItem ref int ref") => `(tactic| (k_here; (refine set_last (pre := [_, _, _]) (by assumption) (by assumption) (List.forall_mem_cons.mpr ⟨neN (by dsimp only; omega), List.forall_mem_cons.mpr ⟨neN (by dsimp only; omega), List.forall_mem_cons.mpr ⟨neN (by dsimp only; omega), by assumption⟩⟩⟩) ?_); intro h' F' N'; (try k_sweep)))
local macro_rules | `(tactic| walk_at "call builtin:list.append") => `(tactic| (k_here; (refine append_K (by assumption) (by assumption) (updOf (pre := [_, _, _]) (List.forall_mem_cons.mpr ⟨neN (by dsimp only; omega), List.forall_mem_cons.mpr ⟨neN (by dsimp only; omega), List.forall_mem_cons.mpr ⟨neN (by dsimp only; omega), by assumption⟩⟩⟩)) ?_ (by rw [sizeLine_eq]; omega)); intro h' F' N'; (try k_sweep)))
theorem law_calls {w : World} {mg mb : Str → Option Value} {A : Around} {s : Shared} {R : Result → Shared → Prop} {l : Addr} {items : Array Value} {ns : List Int}
    (X : (hd.heap_39 w.params).In s.heap) (T : TopRead hd.view_39 (looseW hd.view_39 []) mg mb s.heap)
    (GL : Glob 0 mg mb (List.map itemOf (recsOf hd.view_39)) (scalarsOf [] ++ constsW hd.view_39) [] (namesW hd.view_39 []) s.heap)
    (hroom : A.depth + 30 < recursionLimit) (hu : A.units + 120 < cLine) (hh : A.handled = none)
    (hl : s.heap.IsList l items) (hi : IntsAre items.toList ns) (hlen : items.size ≤ 63)
    (hR : ∀ h' tk l' its n cs ts, (∀ b o, s.heap.get? b = some o → h'.get? b = some o) → s.heap.get? l' = none → h'.get? l' = some (W.listOf its n) → ClsIn ts its.toList cs → (∀ p ∈ ts, h'.get? p.1 = some p.2 ∧ s.heap.get? p.1 = none ∧ p.1 ≠ l') → (∀ c ∈ cs, ClOk c) → 1 ≤ cs.length → cs.length ≤ 15 →
      R (.ok (.ret (.ref l'))) { s with heap := h', toks := tk }) :
    codeAny (model PySem.Challenge.rw_mj0053_01.row.prog w) A (.call (.ref 35) ⟨[.ref l], []⟩) R s := by
  revert X T
  k_fill
  intro X T
  refine' enterF X T.nolimit ?ho ?hcd ?hroom ?hbind ?hloc ?_ ?c2 ?c3 ?c4 ?c5
  case ho => k_is
  case hcd => k_is
  case hroom => omega
  case hbind => exact BindsTo.of_eq rfl
  case hloc => exact locs rfl
  case c2 => exact rfl
  case c3 => exact rfl
  case c4 => exact rfl
  case c5 => decide
  intro h₁ tk₁ F N
  try k_fold
  refine wpAny_execs_cons ?_
  refine wpAny_mono (Q := fun f s' => Hold (f = .next ∧ ∃ h' tk' l₀ t u1 u2 u3 m, s' = { s with heap := h', toks := tk' } ∧ Fr s.heap s.heap.objs.size h' m ∧ m (Str.ofString "script") = some (.ref l) ∧ m (Str.ofString "calls") = some (.ref l₀) ∧
    News s.heap s.heap.objs.size h' [(l₀, W.listOf #[.ref t] 0), (t, tupOf (Str.ofString "~") 0 (Str.ofString "<lambda>") u1 u2 u3 0)] ∧ t ≠ l₀)) (E := fun _ _ => False) ?_ ?_ fun _ _ h => h.elim
  · k_steps
    exact Hold.mk ⟨by first | exact rfl | exact trivial, _, _, _, _, _, _, _, _, rfl, by assumption, rfl, rfl, by assumption, neN (by omega)⟩
  rintro f s' ⟨⟨rfl, h', tk', l₀, t, u1, u2, u3, m, rfl, F1, m1, m2, N1, hlt⟩⟩
  dsimp only
  have F2 := frNames [(Str.ofString "calls", .ref l₀), (Str.ofString "script", .ref l)] F1 (List.forall_mem_cons.mpr ⟨m2, List.forall_mem_cons.mpr ⟨m1, List.forall_mem_nil _⟩⟩)
  clear F1 m1 m2
  simp only [kstB] at F2
  refine wpAny_execs_cons ?_
  refine For_invV s.heap rfl rfl ?_ (fun _ => rfl) (PassesOwn.never)
  k_steps
  rename_i h₂ F3 N3
  dsimp only at F3 N3 ⊢
  have hSl : h'.objs.size + 1 ≠ l₀ := Nat.ne_of_gt (Nat.lt_succ_of_lt (Heap.lt_size (News.get N1 (.head _))))
  generalize h'.objs.size + 1 = S at *
  clear F2 N1 F N
  have hps := pick_size items
  have hpm : ∀ (i : Nat) (v : Value), (slicePick items none (some 14) none)[i]? = some v → ∃ n t, v = Value.int n t := fun i v e => ints_mem hi v (pick_mem e)
  generalize slicePick items none (some 14) none = sl at *
  have hne : ∀ p ∈ [(t, tupOf (Str.ofString "~") 0 (Str.ofString "<lambda>") u1 u2 u3 0)], p.1 ≠ l₀ := List.forall_mem_cons.mpr ⟨hlt, List.forall_mem_nil _⟩
  refine iterMade (items := sl) (nn := 0) (news := [(l₀, W.listOf #[.ref t] 0), (t, tupOf (Str.ofString "~") 0 (Str.ofString "<lambda>") u1 u2 u3 0)])
    (JC l₀) hh F3 N3 ?_ ?_ ?_
  · refine ⟨[], .ref t, 0, _, [], ⟨Str.ofString "~", 0, Str.ofString "<lambda>"⟩, rfl, hne, .cons ⟨t, u1, u2, u3, 0, rfl, .head _⟩ .nil, ?_, Nat.le_refl _, rfl⟩
    intro d hd
    rw [List.mem_singleton.mp hd]
    exact ⟨pr_of (by decide +kernel), pr_of (by decide +kernel), by show (Str.ofString "~").length ≤ _; decide, by show (Str.ofString "<lambda>").length ≤ _; decide, by decide, by decide⟩
  · rintro i v m₁ nx h tk oI hil hv ⟨vi, lv, n, ts, cs, c, rfl, hts, hcl, hlim, hcn, m1⟩ ho F1 N1
    obtain ⟨x, tx, rfl⟩ := hpm i v hv
    have F2 := frTurn [(Str.ofString "calls", .ref l₀)] F1 rfl (List.forall_mem_cons.mpr ⟨m1, List.forall_mem_nil _⟩)
    clear F1 m1 F3 N3
    simp only [kstB] at F2
    dsimp only at ho N1
    change Fr s.heap s.heap.objs.size h _ at F2
    change News s.heap s.heap.objs.size h _ at N1
    obtain ⟨t0, w1, w2, w3, n0, rfl, htm⟩ := ClsIn.last hcl
    refine exec_step (At3 s [(Str.ofString "calls", .ref l₀), (Str.ofString "x", .int x tx), (Str.ofString "where", .str c.wh w1), (Str.ofString "line", .int c.ln w2), (Str.ofString "name", .str c.nm w3)] ((h₂.objs.size, oI) :: (S, W.listOf sl 0) :: (l₀, W.listOf (vi ++ [Value.ref t0]).toArray n) :: ts)) ?_ ?_
    · k_steps
      refine item_last (News.isList N1 (.tail _ (.tail _ (.head _)))) ?_
      k_steps
      refine unpackN_ F2 N1 ⟨_, News.get N1 (.tail _ (.tail _ (.tail _ htm))), rfl, _, rfl⟩ hh rfl rfl ?_
      intro h3 F3 N3
      k_steps
      rename_i F4 N4
      exact Hold.mk ⟨by first | exact rfl | exact trivial, _, _, _, rfl, F4, List.forall_mem_cons.mpr ⟨rfl, List.forall_mem_cons.mpr ⟨rfl, List.forall_mem_cons.mpr ⟨rfl, List.forall_mem_cons.mpr ⟨rfl, List.forall_mem_cons.mpr ⟨rfl, List.forall_mem_nil _⟩⟩⟩⟩⟩, N4⟩
    clear F2 N1
    rintro s' ⟨h3, tk3, m3, rfl, F3, hp3, N3⟩
    have F4 := frNames _ F3 hp3
    clear F3 hp3
    simp only [kstB] at F4
    refine exec_step (fun s' => ∃ kd u, At3 s [(Str.ofString "kind", .int kd u), (Str.ofString "calls", .ref l₀), (Str.ofString "x", .int x tx), (Str.ofString "where", .str c.wh w1), (Str.ofString "line", .int c.ln w2), (Str.ofString "name", .str c.nm w3)] ((h₂.objs.size, oI) :: (S, W.listOf sl 0) :: (l₀, W.listOf (vi ++ [Value.ref t0]).toArray n) :: ts) s') ?_ ?_
    · k_steps
      rename_i F5 N5
      exact Hold.mk ⟨by first | exact rfl | exact trivial, _, _, _, _, _, rfl, F5, List.forall_mem_cons.mpr ⟨rfl, List.forall_mem_cons.mpr ⟨rfl, List.forall_mem_cons.mpr ⟨rfl, List.forall_mem_cons.mpr ⟨rfl, List.forall_mem_cons.mpr ⟨rfl, List.forall_mem_cons.mpr ⟨rfl, List.forall_mem_nil _⟩⟩⟩⟩⟩⟩, N5⟩
    clear F4 N3
    rintro s' ⟨kd, uk, h4, tk4, m4, rfl, F4, hp4, N4⟩
    have F5 := frNames _ F4 hp4
    clear F4 hp4
    simp only [kstB] at F5
    refine exec_step (fun s' => ∃ rs u, At3 s [(Str.ofString "rest", .int rs u), (Str.ofString "kind", .int kd uk), (Str.ofString "calls", .ref l₀), (Str.ofString "where", .str c.wh w1), (Str.ofString "line", .int c.ln w2), (Str.ofString "name", .str c.nm w3)] ((h₂.objs.size, oI) :: (S, W.listOf sl 0) :: (l₀, W.listOf (vi ++ [Value.ref t0]).toArray n) :: ts) s') ?_ ?_
    · k_steps
      rename_i F6 N6
      exact Hold.mk ⟨by first | exact rfl | exact trivial, _, _, _, _, _, rfl, F6, List.forall_mem_cons.mpr ⟨rfl, List.forall_mem_cons.mpr ⟨rfl, List.forall_mem_cons.mpr ⟨rfl, List.forall_mem_cons.mpr ⟨rfl, List.forall_mem_cons.mpr ⟨rfl, List.forall_mem_cons.mpr ⟨rfl, List.forall_mem_nil _⟩⟩⟩⟩⟩⟩, N6⟩
    clear F5 N4
    rintro s' ⟨rs, ur, h5, tk5, m5, rfl, F5, hp5, N5⟩
    have F6 := frNames _ F5 hp5
    clear F5 hp5
    simp only [kstB] at F6
    refine exec_step (fun s' => ∃ pc u, (Pr pc ∧ pc.length ≤ 7) ∧ At3 s [(Str.ofString "piece", .str pc u), (Str.ofString "rest", .int rs ur), (Str.ofString "kind", .int kd uk), (Str.ofString "calls", .ref l₀), (Str.ofString "where", .str c.wh w1), (Str.ofString "line", .int c.ln w2), (Str.ofString "name", .str c.nm w3)] ((h₂.objs.size, oI) :: (S, W.listOf sl 0) :: (l₀, W.listOf (vi ++ [Value.ref t0]).toArray n) :: ts) s') ?_ ?_
    · k_steps
      refine pick_strs (News.isList (by assumption) (.head _)) (.cons _ _ (.cons _ _ (.cons _ _ (.cons _ _ (.cons _ _ (.cons _ _ (.cons _ _ (.cons _ _ .nil)))))))) (by rw [Int.fmod_eq_emod_of_nonneg _ (by decide)]; omega) (by rw [Int.fmod_eq_emod_of_nonneg _ (by decide)]; omega) rfl pieces_ok ?_
      intro pc u hpr hpl
      k_steps
      rename_i F7 N7
      exact Hold.mk ⟨by first | exact rfl | exact trivial, _, _, ⟨hpr, hpl⟩, _, _, _, rfl, F7, List.forall_mem_cons.mpr ⟨rfl, List.forall_mem_cons.mpr ⟨rfl, List.forall_mem_cons.mpr ⟨rfl, List.forall_mem_cons.mpr ⟨rfl, List.forall_mem_cons.mpr ⟨rfl, List.forall_mem_cons.mpr ⟨rfl, List.forall_mem_cons.mpr ⟨rfl, List.forall_mem_nil _⟩⟩⟩⟩⟩⟩⟩, KStt.news_of N7 fun _ hp => .tail _ hp⟩
    clear F6 N5
    rintro s' ⟨pc, up, ⟨hpr, hpl⟩, h6, tk6, m6, rfl, F6, hp6, N6⟩
    have F7 := frNames _ F6 hp6
    clear F6 hp6
    simp only [kstB] at F7
    refine exec_step (fun s' => ∃ sg u, (Pr sg ∧ sg.length ≤ 7) ∧ At3 s [(Str.ofString "sign", .str sg u), (Str.ofString "piece", .str pc up), (Str.ofString "rest", .int rs ur), (Str.ofString "kind", .int kd uk), (Str.ofString "calls", .ref l₀), (Str.ofString "where", .str c.wh w1), (Str.ofString "line", .int c.ln w2), (Str.ofString "name", .str c.nm w3)] ((h₂.objs.size, oI) :: (S, W.listOf sl 0) :: (l₀, W.listOf (vi ++ [Value.ref t0]).toArray n) :: ts) s') ?_ ?_
    · k_steps
      rename_i F8 N8
      exact Hold.mk ⟨by first | exact rfl | exact trivial, _, _, ⟨sign_ok _, Nat.le_of_ble_eq_true rfl⟩, _, _, _, rfl, F8, List.forall_mem_cons.mpr ⟨rfl, List.forall_mem_cons.mpr ⟨rfl, List.forall_mem_cons.mpr ⟨rfl, List.forall_mem_cons.mpr ⟨rfl, List.forall_mem_cons.mpr ⟨rfl, List.forall_mem_cons.mpr ⟨rfl, List.forall_mem_cons.mpr ⟨rfl, List.forall_mem_cons.mpr ⟨rfl, List.forall_mem_nil _⟩⟩⟩⟩⟩⟩⟩⟩, N8⟩
    clear F7 N6
    rintro s' ⟨sg, us, ⟨hsr, hsl⟩, h7, tk7, m7, rfl, F7, hp7, N7⟩
    have F8 := frNames _ F7 hp7
    clear F7 hp7
    simp only [kstB] at F8
    have hIl := neN (ho _ (.tail _ (.head _)))
    have hIS := neN (ho _ (.head _))
    have hSl' := neN hSl
    have hcl9 := hlim c (by simp)
    have hcw := hcl9.wl
    have hcnl := hcl9.nl
    have hi14 : i < 14 := by omega
    dsimp only at hIl hIS
    have hvn := hcl.length
    simp only [List.length_append, List.length_cons, List.length_nil] at hvn
    have hvz : (vi ++ [Value.ref t0]).toArray.size ≤ 20 := by simp; omega
    have lt1 : (Str.ofString "<").length = 1 := by decide
    have lt2 : (Str.ofString ">").length = 1 := by decide
    k_steps
    all_goals first
      | refine JC.app (by assumption) (by assumption) (neN (by omega)) (neN (by omega)) ho hts hcl hlim hcn rfl ?_
      | refine JC.set (by assumption) (by assumption) (neN (by omega)) (neN (by omega)) ho hts hcl hlim hcn rfl ?_
    all_goals first
      | exact ⟨pr_of (by decide +kernel), pr_of (by decide +kernel), by show 1 ≤ _; omega, Nat.zero_le _, by decide, by decide⟩
      | exact ⟨pr_nil, pr_nil, Nat.zero_le _, Nat.zero_le _, by dsimp only; rw [Int.fmod_eq_emod_of_nonneg _ (by decide)]; omega, by dsimp only; rw [Int.fmod_eq_emod_of_nonneg _ (by decide)]; omega⟩
      | exact ⟨Pr.append hcl9.w (by assumption), hcl9.n, by dsimp only; rw [Str.length_append]; omega, by dsimp only; omega, hcl9.l0, hcl9.l1⟩
      | exact ⟨hcl9.w, Pr.append hcl9.n (by assumption), by dsimp only; omega, by dsimp only; rw [Str.length_append]; omega, hcl9.l0, hcl9.l1⟩
      | exact ⟨hcl9.w, Pr.append (Pr.append (pr_of (by decide +kernel)) hcl9.n) (pr_of (by decide +kernel)), by dsimp only; omega, by dsimp only; rw [Str.length_append, Str.length_append]; omega, hcl9.l0, hcl9.l1⟩
  · rintro m₁ nx h tk ⟨vi, lv, n, ts, cs, c, rfl, hts, hcl, hlim, hcn, m1⟩ F1 N1
    have F2 := frNames [(Str.ofString "calls", .ref l₀)] F1 (List.forall_mem_cons.mpr ⟨m1, List.forall_mem_nil _⟩)
    clear F1 m1
    simp only [kstB] at F2
    change Fr s.heap s.heap.objs.size h _ at F2
    change News s.heap s.heap.objs.size h _ at N1
    k_steps
    have N9 : News s.heap s.heap.objs.size h ts := KStt.news_of N1 fun _ hp => .tail _ (.tail _ hp)
    exact hR _ _ _ _ _ (cs ++ [c]) ts F2.keep (News.fresh N1 (.tail _ (.head _))) (News.get N1 (.tail _ (.head _))) hcl (fun p hp => ⟨(N9 p hp).1, (N9 p hp).2.2, hts p hp⟩)
      (fun d hd => let q := hlim d hd; ⟨q.w, q.n, by have := q.wl; omega, by have := q.nl; omega, q.l0, q.l1⟩) (by simp) (by simp; omega)
end Mine
end
section -- F4
set_option maxRecDepth 100000
set_option maxHeartbeats 8000000
namespace Mine

/-- what _law_is_told answers -/
def isTold (wh : Str) (ln : Int) (nm told : Str) : Bool :=
  if wh ≠ Str.ofString "~" ∨ ln ≠ 0 then
    decide (Txt.slice told none (some (wh.length : Int)) = wh ∧ Txt.slice told (some (wh.length : Int)) (some ((told.length : Int) - (nm.length : Int) - 1)) = Str.ofString ":" ++ Str.ofString (toString ln) ++ Str.ofString "(" ∧
      Txt.slice told (some ((told.length : Int) - (nm.length : Int) - 1)) none = nm ++ Str.ofString ")")
  else if Txt.slice nm none (some 1) = Str.ofString "<" ∧ Txt.slice nm (some (-1)) none = Str.ofString ">" then
    decide (Txt.slice told none (some 1) = Str.ofString "{" ∧ Txt.slice told (some 1) (some (-1)) = Txt.slice nm (some 1) (some (-1)) ∧ Txt.slice told (some (-1)) none = Str.ofString "}")
  else told == nm
theorem isTold_1 {wh nm told : Str} {ln : Int} (h : wh ≠ Str.ofString "~" ∨ ln ≠ 0) : isTold wh ln nm told = decide (Txt.slice told none (some (wh.length : Int)) = wh ∧ Txt.slice told (some (wh.length : Int)) (some ((told.length : Int) - (nm.length : Int) - 1)) = Str.ofString ":" ++ Str.ofString (toString ln) ++ Str.ofString "(" ∧
      Txt.slice told (some ((told.length : Int) - (nm.length : Int) - 1)) none = nm ++ Str.ofString ")") := by unfold isTold; rw [if_pos h]
theorem isTold_2 {wh nm told : Str} {ln : Int} (h : ¬ (wh ≠ Str.ofString "~" ∨ ln ≠ 0)) (h2 : Txt.slice nm none (some 1) = Str.ofString "<" ∧ Txt.slice nm (some (-1)) none = Str.ofString ">") :
    isTold wh ln nm told = decide (Txt.slice told none (some 1) = Str.ofString "{" ∧ Txt.slice told (some 1) (some (-1)) = Txt.slice nm (some 1) (some (-1)) ∧ Txt.slice told (some (-1)) none = Str.ofString "}") := by
  unfold isTold; rw [if_neg h, if_pos h2]
theorem isTold_3 {wh nm told : Str} {ln : Int} (h : ¬ (wh ≠ Str.ofString "~" ∨ ln ≠ 0)) (h2 : ¬ (Txt.slice nm none (some 1) = Str.ofString "<" ∧ Txt.slice nm (some (-1)) none = Str.ofString ">")) :
    isTold wh ln nm told = (told == nm) := by
  unfold isTold; rw [if_neg h, if_neg h2]
theorem not_file {wh : Str} {ln : Int} (h1 : (wh != Str.ofString "~") = false) (h2 : ln = 0) : ¬ (wh ≠ Str.ofString "~" ∨ ln ≠ 0) := by
  rintro (q | q)
  · exact absurd (bne_iff_ne.mpr q) (by rw [h1]; simp)
  · exact q h2
local macro_rules | `(tactic| walk_at "compareOp Eq ref ref") => `(tactic| (k_here; refine eq_sss (News.get (by assumption) (.tail _ (.head _))) (News.get (by assumption) (.head _)) (Pr.ok (by repeat (first | assumption | exact pr_line (by assumption) (by assumption) | exact pr_of (by decide +kernel) | refine Pr.append ?_ ?_ | refine Pr.slice ?_ _ _))) (Pr.ok (by repeat (first | assumption | exact pr_line (by assumption) (by assumption) | exact pr_of (by decide +kernel) | refine Pr.append ?_ ?_ | refine Pr.slice ?_ _ _))) (Pr.ok (by repeat (first | assumption | exact pr_line (by assumption) (by assumption) | exact pr_of (by decide +kernel) | refine Pr.append ?_ ?_ | refine Pr.slice ?_ _ _))) (Pr.ok (by repeat (first | assumption | exact pr_line (by assumption) (by assumption) | exact pr_of (by decide +kernel) | refine Pr.append ?_ ?_ | refine Pr.slice ?_ _ _))) (Pr.ok (by repeat (first | assumption | exact pr_line (by assumption) (by assumption) | exact pr_of (by decide +kernel) | refine Pr.append ?_ ?_ | refine Pr.slice ?_ _ _))) (Pr.ok (by repeat (first | assumption | exact pr_line (by assumption) (by assumption) | exact pr_of (by decide +kernel) | refine Pr.append ?_ ?_ | refine Pr.slice ?_ _ _))) (by simp only [units_deeper]; omega) ?_))
theorem law_is_told {w : World} {mg mb : Str → Option Value} {A : Around} {s : Shared} {R : Result → Shared → Prop} {t : Addr} {u1 u2 u3 : Tok} {wh nm : Str} {ln : Int} {nn : Nat} {told : Str} {u : Tok}
    (X : (hd.heap_39 w.params).In s.heap) (T : TopRead hd.view_39 (looseW hd.view_39 []) mg mb s.heap)
    (GL : Glob 0 mg mb (List.map itemOf (recsOf hd.view_39)) (scalarsOf [] ++ constsW hd.view_39) [] (namesW hd.view_39 []) s.heap)
    (hroom : A.depth + 50 < recursionLimit) (hu : A.units + 100 < cLine) (hh : A.handled = none)
    (ht : s.heap.get? t = some { cls := .type "tuple", data := .seq #[.str wh u1, .int ln u2, .str nm u3] nn })
    (hw : Pr wh) (hn : Pr nm) (hwl : wh.length ≤ 1000) (hnl : nm.length ≤ 1000) (hl0 : -20 ≤ ln) (hl1 : ln < 80) (htl : told.length ≤ 3000) (hto : Pr told)
    (hR : ∀ h' tk, (∀ b o, s.heap.get? b = some o → h'.get? b = some o) → R (.ok (.ret (.bool (isTold wh ln nm told)))) { s with heap := h', toks := tk }) :
    codeAny (model PySem.Challenge.rw_mj0053_01.row.prog w) A (.call (.ref 42) ⟨[.ref t, .str told u], []⟩) R s := by
  revert X T
  k_fill
  intro X T
  refine' enterF X T.nolimit ?ho ?hcd ?hroom ?hbind ?hloc ?_ ?c2 ?c3 ?c4 ?c5
  case ho => k_is
  case hcd => k_is
  case hroom => omega
  case hbind => exact BindsTo.of_eq rfl
  case hloc => exact locs rfl
  case c2 => exact rfl
  case c3 => exact rfl
  case c4 => exact rfl
  case c5 => decide
  intro h₁ tk₁ F N
  try k_fold

  k_steps
  refine unpackN_ (by assumption) (by assumption) (IsTup.keeps ⟨_, ht, rfl, _, rfl⟩ (Fr.keep (by assumption))) hh rfl rfl ?_
  intro h2 F2 N2
  k_steps
  · rw [isTold_1 (.inl (bne_iff_ne.mp (by assumption)))] at hR
    exact hR _ _ (Fr.keep (by assumption))
  · rw [isTold_1 (.inr (by assumption))] at hR
    exact hR _ _ (Fr.keep (by assumption))
  · rw [isTold_2 (not_file (by assumption) (by assumption)) ⟨eq_of_beq (by assumption), eq_of_beq (by assumption)⟩] at hR
    exact hR _ _ (Fr.keep (by assumption))
  · rw [isTold_3 (not_file (by assumption) (by assumption)) (fun q => ne_of_beq_false (by assumption) q.2)] at hR
    exact hR _ _ (Fr.keep (by assumption))
  · rw [isTold_3 (not_file (by assumption) (by assumption)) (fun q => ne_of_beq_false (by assumption) q.1)] at hR
    exact hR _ _ (Fr.keep (by assumption))
end Mine
end
section -- F7
set_option maxRecDepth 100000
set_option maxHeartbeats 8000000
namespace Mine
local macro_rules | `(tactic| walk_at "call ref") => `(tactic| (k_here; (with_reducible show wpAny _ _ (call (Value.ref 56) _) _ _ _); (refine call_law_call_words (by assumption) (by assumption) (by assumption) (by assumption) (by assumption) (by simp only [depth_deeper]; omega) (by simp only [units_deeper]; omega) (by assumption) (ClAt.keeps (by assumption) (Fr.keep (by assumption))) (by assumption) ?_); intro h' tk' l' items' n' F' N' l1 hs'; (replace l1 := allNe_of l1); (simp only [AllNe, and_true] at l1); (try k_sweep)))
theorem strs_mem {vs : List Value} {ys : List Str} (h : StrsAre vs ys) : ∀ v ∈ vs, ∃ y t, v = .str y t := by
  induction h with
  | nil => intro v hv; cases hv
  | cons y t _ ih =>
    intro v hv
    rcases List.mem_cons.mp hv with rfl | hv
    · exact ⟨y, t, rfl⟩
    · exact ih v hv
def notEmptyV (v : Value) : Bool := match v with
  | .str y _ => y != Str.ofString ""
  | _ => false
theorem strs_filter {vs : List Value} {ys : List Str} (h : StrsAre vs ys) : StrsAre (vs.filter notEmptyV) (ys.filter fun x => x != Str.ofString "") := by
  induction h with
  | nil => exact .nil
  | cons y t _ ih =>
    have e : notEmptyV (.str y t) = (y != Str.ofString "") := rfl
    simp only [List.filter_cons, e]
    split
    · exact .cons _ _ ih
    · exact ih
theorem paired_eq {as bs : List Value} (h : Paired (fun v y => y = v) as bs) : bs = as := by
  induction h with
  | nil => rfl
  | cons e _ ih => rw [e, ih]
theorem eq_nil {prog : Program} {w : World} {A : Around} {E : Value → Shared → Prop} {s : Shared} {D b : Addr} {ys : Array Value} {Q : Value → Shared → Prop} (hl : s.heap.IsList D ys) (hb : s.heap.IsList b #[]) (hu : A.units < cLine) (h : Q (.bool (decide (ys.size = 0))) s) :
    wpAny (model prog w) A (compareOp .Eq (.ref D) (.ref b)) Q E s := by
  by_cases hz : ys.size = 0
  · refine SeqAt.eq_listAt (e := fun _ => true) hl hb hz hu (fun j h1 h2 => absurd h2 (Nat.not_lt_zero _)) ?_
    have e : ((List.range ys.size).all fun _ => true) = decide (ys.size = 0) := by rw [hz]; rfl
    rw [e]; exact h
  · refine SeqAt.eq_list_lengthsAt hl hb (by simpa using hz) hu ?_
    rw [decide_eq_false hz] at h; exact h
theorem txt_join (sep : Str) (l : List Str) : Txt.join sep l = Str.join sep l := eq_of_beq (join_plain_closes sep l)
theorem join_len (sep : Str) : ∀ l : List Str, (Str.join sep l).length ≤ (l.map (·.length)).sum + l.length * sep.length
  | [] => Nat.zero_le _
  | [x] => by show x.length ≤ _; simp
  | x :: y :: r => by
    have h := join_len sep (y :: r)
    show (x ++ sep ++ Str.join sep (y :: r)).length ≤ _
    rw [Str.length_append, Str.length_append]
    simp only [List.map_cons, List.sum_cons, List.length_cons, Nat.succ_mul] at h ⊢
    omega
theorem sum_filter (q : Str → Bool) : ∀ l : List Str, ((l.filter q).map (·.length)).sum ≤ (l.map (·.length)).sum
  | [] => Nat.le_refl _
  | x :: r => by
    have h := sum_filter q r
    rw [List.filter_cons]
    split
    · simp only [List.map_cons, List.sum_cons]; omega
    · simp only [List.map_cons, List.sum_cons]; omega
theorem head_getD {aw : List Str} (h : aw ≠ []) : aw.head? = some (aw.getD (Int.toNat 0) Str.empty) := by
  cases aw with
  | nil => exact absurd rfl h
  | cons a r => rfl
theorem law_label {w : World} {mg mb : Str → Option Value} {A : Around} {s : Shared} {R : Result → Shared → Prop} {l : Addr} {items : Array Value} {n : Nat} {cs : List Cl}
    (X : (hd.heap_39 w.params).In s.heap) (T : TopRead hd.view_39 (looseW hd.view_39 []) mg mb s.heap)
    (GL : Glob 0 mg mb (List.map itemOf (recsOf hd.view_39)) (scalarsOf [] ++ constsW hd.view_39) [] (namesW hd.view_39 []) s.heap)
    (hroom : A.depth + 30 < recursionLimit) (hu : A.units + 120 < cLine) (hh : A.handled = none)
    (hl : s.heap.get? l = some (W.listOf items n)) (hcs : ClsAt s.heap items.toList cs) (hok : ∀ c ∈ cs, ClOk c) (hlen : cs.length ≤ 20)
    (hR : ∀ h' tk t', (∀ b o, s.heap.get? b = some o → h'.get? b = some o) → R (.ok (.ret (.str (label cs) t'))) { s with heap := h', toks := tk }) :
    codeAny (model PySem.Challenge.rw_mj0053_01.row.prog w) A (.call (.ref 61) ⟨[.ref l], []⟩) R s := by
  revert X T
  k_fill
  intro X T
  refine' enterF X T.nolimit ?ho ?hcd ?hroom ?hbind ?hloc ?_ ?c2 ?c3 ?c4 ?c5
  case ho => k_is
  case hcd => k_is
  case hroom => omega
  case hbind => exact BindsTo.of_eq rfl
  case hloc => exact locs rfl
  case c2 => exact rfl
  case c3 => exact rfl
  case c4 => exact rfl
  case c5 => decide
  intro h₁ tk₁ F N
  try k_fold
  k_steps
  refine For_invV s.heap rfl rfl ?_ (fun _ => rfl) (PassesOwn.never)
  refine ld (by assumption) rfl ?_
  rename_i l₀ _ _ _ F9 N9
  refine iterList (items := items) (news := [(l₀, W.listOf #[] 0)]) (fun i m nx => ∃ its k, nx = [(l₀, W.listOf its k)] ∧ StrsAre its.toList (allWords (cs.take i)) ∧ m (Str.ofString "words") = some (.ref l₀)) hh ⟨_, hl, rfl, _, rfl⟩ F9 N9 ?_ ?_ ?_
  · exact ⟨#[], 0, rfl, .nil, rfl⟩
  · rintro i v m₁ nx h tk oI hi hv ⟨its, k, rfl, hs, m1⟩ ho F1 N1
    obtain ⟨c, hc, hca⟩ := hcs.2 i v (by simpa using hv)
    have hco : ClOk c := hok c (List.mem_of_getElem? hc)
    have hq : allWords (cs.take (i + 1)) = allWords (cs.take i) ++ c.words := by
      rw [List.take_add_one, hc]; simp [allWords]
    have hw1 := (allWords_weight (cs.take i) fun d hd => hok d (List.mem_of_mem_take hd)).2
    have hw2 := (callWords_weight (wh := c.wh) (nm := c.nm) hco.l0 hco.l1 hco.wl hco.nl).2
    have hw3 : (cs.take i).length ≤ 20 := by rw [List.length_take]; omega
    have hz1 := hs.len_eq
    have F2 := frTurn [(Str.ofString "words", .ref l₀)] F1 rfl (List.forall_mem_cons.mpr ⟨m1, List.forall_mem_nil _⟩)
    clear F1 m1 F9 N9
    simp only [kstB] at F2
    dsimp only at ho N1
    change Fr s.heap s.heap.objs.size h _ at F2
    change News s.heap s.heap.objs.size h _ at N1
    have hne := neN (ho _ (.head _))
    k_steps
    rename_i items' n' F' N' hs' l1
    have hz2 := hs'.len_eq
    have hw4 : c.words.length ≤ 700 := hw2
    simp only [Array.length_toList] at hz1 hz2
    refine ext_list (pre := [_, _]) (post := []) F' N' (.head _) (List.forall_mem_cons.mpr ⟨Ne.symm l1.2, List.forall_mem_cons.mpr ⟨Ne.symm hne, List.forall_mem_nil _⟩⟩) (by omega) ?_
    intro h' zs n' F3 N3 ez
    k_steps
    exact TurnEnd.on F3 (KStt.news_of N3 (by intro p hp; exact .tail _ hp)) (off_one ho) ⟨zs, n', rfl, by rw [hq, ez]; exact hs.append' hs', rfl⟩
  · rintro m₁ nx h tk ⟨its, k, rfl, hs, m1⟩ F1 N1
    have hlc : items.size = cs.length := by have := hcs.1; simpa using this
    rw [hlc, List.take_length] at hs
    have hw1 := allWords_weight cs hok
    have hz1 := hs.len_eq
    simp only [Array.length_toList] at hz1
    have F2 := frNames [(Str.ofString "words", .ref l₀)] F1 (List.forall_mem_cons.mpr ⟨m1, List.forall_mem_nil _⟩)
    clear F1 m1 F9 N9
    simp only [kstB] at F2
    change Fr s.heap s.heap.objs.size h _ at F2
    change News s.heap s.heap.objs.size h _ at N1
    unfold label at hR
    generalize allWords cs = aw at *
    k_steps
    refine comp_list notEmptyV (fun v y => y = v) hh (News.isList N1 (.head _)) rfl (N1 _ (.head _)).2.1 F2 N1 (by omega) ?_ ?_ ?_
    · intro C v s₃ m₃ E' hv hn hm hk
      obtain ⟨y, t, rfl⟩ := strs_mem hs v hv
      refine wpAny_tests_one (wpAny_isTrue_Compare1 ?_)
      refine wpAny_Name (wpAny_loadName_local rfl rfl hn hm ?_) (by decide)
      refine Calls.Constant_str ?_
      refine PyProof.Rows.ne_str ?_
      refine wpAny_truthy_bool ?_
      exact ⟨rfl, s₃.heap, _, rfl, fun _ _ e => e⟩
    · intro C v s₃ m₃ E' hv hp hn hm hk
      refine wpAny_Name (wpAny_loadName_local rfl rfl hn hm ?_) (by decide)
      exact ⟨rfl, s₃.heap, _, rfl, fun _ _ e => e⟩
    · intro D h' tk' ys nn F3 N3 hne hG
      have hys := paired_eq hG
      have hfs := strs_filter hs
      rw [← hys] at hfs
      have hfl : (aw.filter fun x => x != Str.ofString "").length ≤ aw.length := List.length_filter_le _ _
      have hz2 := hfs.len_eq
      have hfw := sum_filter (fun x => x != Str.ofString "") aw
      have hawn : (aw.filter fun x => x != Str.ofString "") ≠ [] → aw ≠ [] := fun h q => h (by rw [q]; rfl)
      simp only [Array.length_toList] at hz2
      generalize (aw.filter fun x => x != Str.ofString "") = fs at *
      clear hys hG
      dsimp only
      change Fr s.heap s.heap.objs.size h' _ at F3
      change News s.heap s.heap.objs.size h' _ at N3
      k_steps
      rename_i F4 N4 l4
      refine eq_nil (News.isList N4 (.tail _ (.head _))) (News.isList N4 (.head _)) (by simp only [units_deeper]; omega) ?_
      by_cases hf : fs = []
      · have e : decide (ys.size = 0) = true := decide_eq_true (by rw [hz2, hf]; rfl)
        rw [e]
        rw [if_pos hf] at hR
        k_steps
        exact hR _ _ _ F4.keep
      · have e : decide (ys.size = 0) = false := decide_eq_false (by rw [hz2]; exact fun q => hf (List.eq_nil_of_length_eq_zero q))
        rw [e]
        rw [if_neg hf, head_getD (hawn hf)] at hR
        have ld1 : (Str.ofString "-").length = 1 := by decide
        have hb : (fs.map (·.length)).sum + fs.length * (Str.ofString "-").length ≤ 16777216 := by rw [ld1]; omega
        have hjl := join_len (Str.ofString "-") fs
        rw [ld1] at hjl
        k_steps
        · refine join_list (News.isList N4 (.tail _ (.head _))) hfs hb ?_
          intro t' k'
          rw [txt_join]
          rw [if_pos (congrArg some (eq_of_beq (by assumption)))] at hR
          k_steps
          exact hR _ _ _ F4.keep
        · refine join_list (News.isList N4 (.tail _ (.head _))) hfs hb ?_
          intro t' k'
          rw [txt_join]
          rw [if_neg (fun q => ne_of_beq_false (by assumption) (Option.some.inj q))] at hR
          k_steps
          exact hR _ _ _ F4.keep
theorem call_law_label {w : World} {mg mb : Str → Option Value} {A : Around} {E : Value → Shared → Prop} {s : Shared} {Q : Value → Shared → Prop} {l : Addr} {items : Array Value} {n : Nat} {cs : List Cl}
    (X : (hd.heap_39 w.params).In s.heap) (T : TopRead hd.view_39 (looseW hd.view_39 []) mg mb s.heap)
    (GL : Glob 0 mg mb (List.map itemOf (recsOf hd.view_39)) (scalarsOf [] ++ constsW hd.view_39) [] (namesW hd.view_39 []) s.heap)
    (hroom : A.depth + 30 < recursionLimit) (hu : A.units + 120 < cLine) (hh : A.handled = none)
    (hl : s.heap.get? l = some (W.listOf items n)) (hcs : ClsAt s.heap items.toList cs) (hok : ∀ c ∈ cs, ClOk c) (hlen : cs.length ≤ 20)
    (h : ∀ h' tk t', (∀ b o, s.heap.get? b = some o → h'.get? b = some o) → Q (.str (label cs) t') { s with heap := h', toks := tk }) :
    wpAny (model PySem.Challenge.rw_mj0053_01.row.prog w) A (call (.ref 61) [.ref l]) Q E s :=
  wpAny_call (law_label X T GL hroom hu hh hl hcs hok hlen fun h' tk t' hk => h h' tk t' hk)
end Mine
end
section -- Flt1
set_option maxRecDepth 100000
set_option maxHeartbeats 1000000
namespace Mine
theorem slot_filter_next : Slot "filter" "__next__" "filter.__next__" :=
  .of (owner := "filter") (n := "__next__") (by rw [typeLookup_type, builtinLookup_eq_fast]; kernel_rfl) (by decide +kernel) (by decide +kernel) (by decide +kernel)
    (by first | exact .inl (by decide +kernel) | exact .inr (by decide +kernel)) (by rw [isSubtype_type]; kernel_rfl)
theorem entry_filter_next : entryFor table "filter.__next__" = some Builtin.«filter.__next__» := entryFor_of_tree (by kernel_rfl)
theorem args_filter_next_1 (a : Value) : argsOk "filter.__next__" ⟨[a], []⟩ := by unfold argsOk; kernel_rfl
theorem slot_filter_iter : Slot "filter" "__iter__" "filter.__iter__" :=
  .of (owner := "filter") (n := "__iter__") (by rw [typeLookup_type, builtinLookup_eq_fast]; kernel_rfl) (by decide +kernel) (by decide +kernel) (by decide +kernel)
    (by first | exact .inl (by decide +kernel) | exact .inr (by decide +kernel)) (by rw [isSubtype_type]; kernel_rfl)
theorem entry_filter_iter : entryFor table "filter.__iter__" = some Builtin.«dict_keyiterator.__iter__» :=
  entryFor_alias (id' := "dict_keyiterator.__iter__") (by kernel_rfl) (by first | rfl | decide +kernel | (unfold String.splitOn; simp +decide [String.splitOnAux])) (by decide +kernel) (by kernel_rfl)
theorem args_filter_iter_1 (a : Value) : argsOk "filter.__iter__" ⟨[a], []⟩ := by unfold argsOk; kernel_rfl
theorem slot_filter_init : Slot "filter" "__init__" "object.__init__" :=
  .of (owner := "object") (n := "__init__") (by rw [typeLookup_type, builtinLookup_eq_fast]; kernel_rfl) (by decide +kernel) (by decide +kernel) (by decide +kernel)
    (by first | exact .inl (by decide +kernel) | exact .inr (by decide +kernel)) (by rw [isSubtype_type]; kernel_rfl)
theorem mro_filter : mroOf (.type "filter") = pure [.type "filter", .type "object"] := by rw [mroOf_type]; kernel_rfl
theorem lookup_filter_new : typeLookup (.type "filter") "__new__" = pure (some (.builtin "filter.__new__")) := by rw [typeLookup_type, builtinLookup_eq_fast]; kernel_rfl
theorem called_filter : TypeCalled "filter" "filter.__new__" "object.__init__" :=
  ⟨by decide +kernel, by decide +kernel, ⟨_, _, mro_filter⟩, madeBy_type mro_filter lookup_filter_new (by decide +kernel), by decide +kernel, by rw [isSubtype_type]; kernel_rfl, slot_filter_init⟩
theorem typeCall_filter_2 (a b : Value) : checkTypeCall "filter" ⟨[a, b], []⟩ = pure () := by kernel_rfl
theorem newCall_filter_2 (a b : Value) : checkBuiltinCall "filter.__new__" ⟨[.type "filter", a, b], []⟩ = pure () := by kernel_rfl
theorem entry_filter_new : entryFor table "filter.__new__" = some Builtin.«filter.__new__» := entryFor_of_tree (by kernel_rfl)
theorem sub_filter : isSubtype (.type "filter") (.type "filter") = pure true := by rw [isSubtype_type]; kernel_rfl
end Mine
end
section -- Flt2
open AutoSeq1 (wpAny_loadPart')
set_option maxRecDepth 100000
set_option maxHeartbeats 1000000
namespace Mine
abbrev filtObj (f : Value) (it : Addr) : Obj := { cls := .type "filter", data := .fields #[f, .ref it] }
abbrev tupIt (t : Addr) : Obj := { cls := .type "tuple_iterator", data := .fields #[.ref t, .int 0 0] }
theorem meets_filter_new (f : Value) (t : Addr) (items : Array Value) :
    Meets (Builtin.«filter.__new__» ⟨[.type "filter", f, .ref t], []⟩) (fun _ R s => IsTup s.heap t items ∧
      R (.ok (.ret (.ref (s.heap.push (tupIt t)).objs.size))) { s with heap := (s.heap.push (tupIt t)).push (filtObj f s.heap.objs.size) }) :=
  .of_wp fun prog w A R s h => by
    obtain ⟨hp, g, d, tk, os⟩ := s
    obtain ⟨hl, h⟩ := h
    have hsub := sub_filter
    have hL : IsTup (Shared.heap ⟨hp, g, d, tk, os⟩) t items := hl
    wp_walk using iter_tuple hL
    exact ⟨_, rfl, h⟩
section
variable {prog : Program} {w : World} {A : Around} {E : Value → Shared → Prop} {s : Shared}
theorem filt_make {f : Value} {t : Addr} {items : Array Value} {Q : Value → Shared → Prop} (ht : IsTup s.heap t items)
    (h : ∀ h', h'.get? (s.heap.objs.size + 1) = some (filtObj f s.heap.objs.size) → IsTupIter h' s.heap.objs.size t 0 → h'.objs.size = s.heap.objs.size + 2 → (∀ b o, s.heap.get? b = some o → h'.get? b = some o) → Q (.ref (s.heap.objs.size + 1)) { s with heap := h' }) :
    wpAny (model prog w) A (call (.type "filter") [f, .ref t]) Q E s := by
  refine callType_new called_filter (by decide) (typeCall_filter_2 _ _) (newCall_filter_2 _ _) (fun obj => F.args_object_init_3 obj _ _) entry_filter_new (meets_filter_new f t items) ⟨ht, ?_⟩
  have hz : (s.heap.push (tupIt t)).objs.size = s.heap.objs.size + 1 := Heap.size_push ..
  show _ ∧ _
  rw [hz]
  have he : ((s.heap.push (tupIt t)).push (filtObj f s.heap.objs.size)).get? (s.heap.objs.size + 1) = some (filtObj f s.heap.objs.size) := by
    have := Heap.get?_push_size (s.heap.push (tupIt t)) (o := filtObj f s.heap.objs.size) rfl
    rw [hz] at this; exact this
  exact ⟨⟨_, he, rfl⟩, h _ he ⟨_, Heap.get?_push_of_some _ (Heap.get?_push_size _ rfl), rfl, rfl⟩ (by rw [Heap.size_push, hz]) fun b o y => Heap.get?_push_of_some _ (Heap.get?_push_of_some _ y)⟩
theorem tup_next_item {it t : Addr} {i : Nat} {items : Array Value} {x : Value} {Q : Option Value → Shared → Prop} (hit : IsTupIter s.heap it t i) (ht : IsTup s.heap t items) (hx : items[i]? = some x)
    (hQ : ∀ h', IsTupIter h' it t (i + 1) → Heap.SameBut it s.heap h' → Q (some x) { s with heap := h' }) : wpAny (model prog w) A (callSpecial? (.ref it) "__next__") Q E s := by
  obtain ⟨o, ho, hc, hd⟩ := id hit
  obtain ⟨ol, hol, _, nl, hdl⟩ := ht
  refine wpAny_callSpecial?_slot (name := Str.ofString "__next__") hit.typeIs slot_tupleiter_next (wpAny_call_entry slot_tupleiter_next hit.typeIs entry_tupleiter_next ?_ (args_tupleiter_next _))
  show wpAny _ _ (field (.ref it) 0 >>= _) _ _ s
  refine wpAny_bind (wpAny_field ho hd (x := .ref t) rfl ?_)
  show wpAny _ _ (if (Value.ref t == Value.none) = true then _ else _) _ _ s
  rw [if_neg (show ¬ ((Value.ref t == Value.none) = true) from Bool.false_ne_true)]
  show wpAny _ _ (field (.ref it) 1 >>= _) _ _ s
  refine wpAny_bind (wpAny_field ho hd (x := .int i 0) rfl ?_)
  show wpAny _ _ (seqItems? (.ref t) >>= _) _ _ s
  refine wpAny_bind (wpAny_seqItems hol hdl ?_)
  simp only [Int.toNat_natCast, hx]
  refine wpAny_bind (wpAny_setField ho hd (by simp) (wpAny_pure ⟨x, rfl, hQ _ ?_ (Heap.SameBut.update ..)⟩))
  exact ⟨_, Heap.get?_update_self _ ho (Obj.isFreed_of_fields (Obj.data_mapFields hd _)), (Obj.cls_mapFields ..).trans hc, by
    rw [Obj.data_mapFields hd]; simp [rawInt]⟩
theorem tup_next_end {it t : Addr} {i : Nat} {items : Array Value} {Q : Option Value → Shared → Prop} (hh : A.handled = none) (hit : IsTupIter s.heap it t i) (ht : IsTup s.heap t items) (hx : items[i]? = none)
    (hE : ∀ h' e, Heap.ExtBut it s.heap h' → (∃ o, h'.get? e = some o ∧ o.cls = .type "StopIteration") → E (.ref e) { s with heap := h' }) : wpAny (model prog w) A (callSpecial? (.ref it) "__next__") Q E s := by
  obtain ⟨o, ho, hc, hd⟩ := id hit
  obtain ⟨ol, hol, _, nl, hdl⟩ := ht
  refine wpAny_callSpecial?_slot (name := Str.ofString "__next__") hit.typeIs slot_tupleiter_next (wpAny_call_entry slot_tupleiter_next hit.typeIs entry_tupleiter_next ?_ (args_tupleiter_next _))
  show wpAny _ _ (field (.ref it) 0 >>= _) _ _ s
  refine wpAny_bind (wpAny_field ho hd (x := .ref t) rfl ?_)
  show wpAny _ _ (if (Value.ref t == Value.none) = true then _ else _) _ _ s
  rw [if_neg (show ¬ ((Value.ref t == Value.none) = true) from Bool.false_ne_true)]
  show wpAny _ _ (field (.ref it) 1 >>= _) _ _ s
  refine wpAny_bind (wpAny_field ho hd (x := .int i 0) rfl ?_)
  show wpAny _ _ (seqItems? (.ref t) >>= _) _ _ s
  refine wpAny_bind (wpAny_seqItems hol hdl ?_)
  simp only [Int.toNat_natCast, hx]
  refine wpAny_bind (wpAny_rule (wpAny_bind (wpAny_setField ho hd (by simp) ?_)))
  show wpAny _ _ (newExc (.type "StopIteration") [] >>= _) _ _ _
  refine wpAny_bind ?_
  simp only [newExc, newTuple]
  refine wpAny_bind (wpAny_newObj_type ?_ (by size_fits))
  refine wpAny_bind (m := firstArgMember _ _) (wpAny_of_eq (a := Value.none) (by first | rfl | (simp only [firstArgMember]; rfl)) ?_)
  refine wpAny_newObj_type ?_ (by size_fits)
  simp only [raiseNew]
  refine wpAny_bind (wpAny_handled ?_)
  first | rw [show A.in1.handled = none from hh] | rw [hh]
  refine wpAny_bind (wpAny_pure (wpAny_throw ?_))
  exact hE _ _ (((Heap.SameBut.update ..).extBut.push _).push _) ⟨_, Heap.get?_push_size _ rfl, rfl⟩
theorem plain_filter_next : plainId "filter.__next__" = true := by decide +kernel
theorem filt_code {I it t : Addr} {items : Array Value} {R : Result → Shared → Prop} (hh : A.handled = none) (hne : I ≠ it) (hnt : t ≠ it) : ∀ (ys : List Str) (j : Nat) (s : Shared), StrsAre (items.toList.drop j) ys → (∀ y ∈ ys, y.length ≤ 100000) →
    s.heap.get? I = some (filtObj (.builtin "len") it) → IsTupIter s.heap it t j → IsTup s.heap t items →
    (∀ pre y post u h' tk, ys = pre ++ y :: post → (∀ z ∈ pre, z.length = 0) → y.length ≠ 0 → IsTupIter h' it t (j + pre.length + 1) → (∀ b o, b ≠ it → s.heap.get? b = some o → h'.get? b = some o) → R (.ok (.ret (.str y u))) { s with heap := h', toks := tk }) →
    ((∀ z ∈ ys, z.length = 0) → ∀ h' tk e, (∀ b o, b ≠ it → s.heap.get? b = some o → h'.get? b = some o) → (∃ o, h'.get? e = some o ∧ o.cls = .type "StopIteration") → R (.error (.ref e)) { s with heap := h', toks := tk }) →
    codeAny (model prog w) A (.builtin "filter.__next__" ⟨[.ref I], []⟩) R s := by
  intro ys
  induction ys with
  | nil =>
    intro j s hs _ hI hit ht _ hend
    have hx : items[j]? = none := by
      have e : items.toList.drop j = [] := by cases hs' : items.toList.drop j with
        | nil => rfl
        | cons a r => rw [hs'] at hs; cases hs
      have := List.drop_eq_nil_iff.mp e
      simp only [Array.length_toList] at this
      simp [this]
    refine codeAny_builtin entry_filter_next ?_
    rw [Around.under_plainId plain_filter_next _]
    show wpAny _ A.in1 (field (.ref I) 0 >>= _) _ _ s
    refine wpAny_bind (wpAny_field hI rfl (x := .builtin "len") rfl ?_)
    refine wpAny_bind (wpAny_field hI rfl (x := .ref it) rfl ?_)
    refine wpAny_bind (tup_next_end hh hit ht hx fun h' e hk he => ?_)
    exact hend (fun _ hz => nomatch hz) h' s.toks e (fun b o hb x => hk b o hb x) he
  | cons y r ih =>
    intro j s hs hl hI hit ht hitem hend
    have hlt : j < items.toList.length := by
      false_or_by_contra
      rename_i hc
      rw [List.drop_eq_nil_of_le (Nat.le_of_not_lt hc)] at hs; cases hs
    have hd := List.drop_eq_getElem_cons hlt
    rw [hd] at hs
    obtain ⟨u, hu, hs'⟩ : ∃ u, items.toList[j] = .str y u ∧ StrsAre (items.toList.drop (j + 1)) r := by
      generalize items.toList[j] = v at hs
      generalize items.toList.drop (j + 1) = q at hs
      cases hs with
      | cons _ u h => exact ⟨u, rfl, h⟩
    have hx : items[j]? = some (.str y u) := by
      have : items.toList[j]? = some (.str y u) := by rw [List.getElem?_eq_getElem hlt, hu]
      simpa using this
    refine codeAny_builtin entry_filter_next ?_
    rw [Around.under_plainId plain_filter_next _]
    show wpAny _ A.in1 (field (.ref I) 0 >>= _) _ _ s
    refine wpAny_bind (wpAny_field hI rfl (x := .builtin "len") rfl ?_)
    refine wpAny_bind (wpAny_field hI rfl (x := .ref it) rfl ?_)
    refine wpAny_bind (tup_next_item hit ht hx fun h' hit' hs₁ => ?_)
    dsimp only
    refine wpAny_bind (wpAny_holding ?_)
    rw [if_neg (by decide)]
    have hyl : y.length ≤ 100000 := hl y (.head _)
    refine wpAny_bind (PyProof.Rows.len_str (by omega) ?_)
    refine wpAny_holding ?_
    refine PyProof.Rows.truthy_int ?_
    have up : ∀ b o, b ≠ it → s.heap.get? b = some o → h'.get? b = some o := fun b o hb e => (hs₁.2 b hb).trans e
    have hI' : h'.get? I = some (filtObj (.builtin "len") it) := up _ _ hne hI
    have ht' : IsTup h' t items := let ⟨o, ho, q⟩ := ht; ⟨o, up _ _ hnt ho, q⟩
    by_cases hy : y.length = 0
    · have e : ((y.length : Int) != 0) = false := by rw [hy]; rfl
      rw [e]
      simp only [Bool.false_eq_true, if_false]
      refine wpAny_pure ⟨plainId_quiet plain_filter_next _, ih (j + 1) _ hs' (fun z hz => hl z (.tail _ hz)) hI' hit' ht' ?_ ?_⟩
      · intro pre z post u' h'' tk e1 e2 e3 e4 e5
        have e6 : j + 1 + pre.length + 1 = j + (y :: pre).length + 1 := by rw [List.length_cons]; omega
        rw [e6] at e4
        exact hitem (y :: pre) z post u' h'' tk (by rw [e1]; rfl) (fun q hq => by rcases List.mem_cons.mp hq with rfl | hq; exact hy; exact e2 q hq) e3 e4 fun b o hb x => e5 b o hb (up b o hb x)
      · intro hz h'' tk e hk he
        exact hend (fun q hq => by rcases List.mem_cons.mp hq with rfl | hq; exact hy; exact hz q hq) h'' tk e (fun b o hb x => hk b o hb (up b o hb x)) he
    · have e : ((y.length : Int) != 0) = true := by simpa using hy
      rw [e]
      simp only [if_true]
      exact wpAny_pure (hitem [] y r u h' _ rfl (fun _ hz => nomatch hz) hy hit' up)
/-- a text is not empty -/
def ne0 (x : Str) : Bool := decide (x.length ≠ 0)
theorem filter_split {ys pre post : List Str} {y : Str} (h : ys = pre ++ y :: post) (hp : ∀ z ∈ pre, z.length = 0) (hy : y.length ≠ 0) : ys.filter ne0 = y :: post.filter ne0 := by
  subst h
  have e : pre.filter ne0 = [] := List.filter_eq_nil_iff.mpr fun z hz => by simp [ne0, hp z hz]
  rw [List.filter_append, e, List.nil_append, List.filter_cons, if_pos (by simp [ne0, hy])]
theorem strs_drop : ∀ {vs : List Value} {ys : List Str} (k : Nat), StrsAre vs ys → StrsAre (vs.drop k) (ys.drop k)
  | _, _, 0, h => h
  | _, _, _ + 1, .nil => .nil
  | _, _, k + 1, .cons _ _ h => strs_drop k h
/-- the filter object's walk -/
theorem Walks.filt (hh : A.handled = none) {I it t : Addr} {items : Array Value} {xs : List Str} (hne : I ≠ it) (hnt : t ≠ it) (hx : StrsAre items.toList xs) (hl : ∀ y ∈ xs, y.length ≤ 100000) :
    Walks prog w A I [I, it, t] [it] (xs.filter ne0).length (fun i v => ∃ y u, (xs.filter ne0)[i]? = some y ∧ v = .str y u)
      (fun i h => h.get? I = some (filtObj (.builtin "len") it) ∧ IsTup h t items ∧ ∃ j, IsTupIter h it t j ∧ (xs.drop j).filter ne0 = (xs.filter ne0).drop i) where
  sub := fun b hb => by rw [List.mem_singleton.mp hb]; exact .tail _ (.head _)
  frame := fun i h h' ⟨a, ⟨o, ho, r⟩, j, ⟨o', ho', r'⟩, e⟩ hk => ⟨hk I (.head _) _ a, ⟨o, hk t (.tail _ (.tail _ (.head _))) _ ho, r⟩, j, ⟨o', hk it (.tail _ (.head _)) _ ho', r'⟩, e⟩
  item := fun i s Q E hi ⟨hI, ht, j, hit, e⟩ hQ => by
    have hT : s.TypeIs (.ref I) "filter" := ⟨_, hI, rfl⟩
    unfold pyNext
    refine wpAny_bind (wpAny_attempt (wpAny_callSpecial?_slot (name := Str.ofString "__next__") hT slot_filter_next (wpAny_call (codeAny_call_builtin_code (plainId_quiet plain_filter_next _) (slot_filter_next.check _ _ _ _ _ _ _ _ hT (args_filter_next_1 _) ?_)))))
    refine filt_code (A := A) hh hne hnt (xs.drop j) j s (strs_drop j hx) (fun y hy => hl y (List.mem_of_mem_drop hy)) hI hit ht ?_ ?_
    · intro pre y post u h' tk e1 e2 e3 e4 e5
      have e6 := filter_split e1 e2 e3
      rw [e] at e6
      have hd := List.drop_eq_getElem_cons hi
      rw [hd] at e6
      have e7 : (xs.filter ne0)[i] = y := (List.cons.inj e6).1
      have e8 : (xs.filter ne0).drop (i + 1) = post.filter ne0 := (List.cons.inj e6).2
      refine wpAny_pure (hQ _ h' tk ⟨y, u, by rw [List.getElem?_eq_getElem hi, e7], rfl⟩ ⟨e5 _ _ hne hI, (let ⟨o, ho, q⟩ := ht; ⟨o, e5 _ _ hnt ho, q⟩), _, e4, ?_⟩ fun b o hb x => e5 b o (fun q => hb (by rw [q]; exact .head _)) x)
      rw [e8]
      have e9 : xs.drop (j + pre.length + 1) = post := by
        have : xs.drop (j + (pre.length + 1)) = (xs.drop j).drop (pre.length + 1) := by rw [List.drop_drop]
        rw [show j + pre.length + 1 = j + (pre.length + 1) from by omega, this, e1]
        simp
      rw [e9]
    · intro hz
      exfalso
      have e6 : (xs.drop j).filter ne0 = [] := List.filter_eq_nil_iff.mpr fun z h => by simp [ne0, hz z h]
      rw [e, List.drop_eq_nil_iff] at e6
      omega
  done := fun s Q E ⟨hI, ht, j, hit, e⟩ hQ => by
    have hT : s.TypeIs (.ref I) "filter" := ⟨_, hI, rfl⟩
    unfold pyNext
    refine wpAny_bind (wpAny_attempt (wpAny_callSpecial?_slot (name := Str.ofString "__next__") hT slot_filter_next (wpAny_call (codeAny_call_builtin_code (plainId_quiet plain_filter_next _) (slot_filter_next.check _ _ _ _ _ _ _ _ hT (args_filter_next_1 _) ?_)))))
    refine filt_code (A := A) hh hne hnt (xs.drop j) j s (strs_drop j hx) (fun y hy => hl y (List.mem_of_mem_drop hy)) hI hit ht ?_ ?_
    · intro pre y post u h' tk e1 e2 e3
      exfalso
      have e6 := filter_split e1 e2 e3
      rw [e, List.drop_length] at e6
      cases e6
    · intro _ h' tk ee hk he
      obtain ⟨o, ho, hc⟩ := he
      refine wpAny_bind (wpAny_isInstance (T := "StopIteration") (b := true) ⟨_, ho, hc⟩ isSubtype_stop ?_)
      exact wpAny_pure (hQ h' tk fun b o hb x => hk b o (fun q => hb (by rw [q]; exact .head _)) x)
  self := fun i s Q E ⟨hI, _⟩ hQ => by
    have hT : s.TypeIs (.ref I) "filter" := ⟨_, hI, rfl⟩
    refine wpAny_pyIter_slot hT slot_filter_iter (wpAny_call_entry slot_filter_iter hT entry_filter_iter ?_ (args_filter_iter_1 _))
    show wpAny _ _ (ret (.ref I)) _ _ s
    exact wpAny_pure ⟨_, rfl, "filter", _, hT, slot_filter_next.lookup, hQ⟩
end
end Mine
end
section -- Gen1
set_option maxRecDepth 100000
set_option maxHeartbeats 1000000
namespace Mine
/-- the code's table: still empty, or it holds the expression's code -/
def Found (pos : Pos) (ps : Array Value) : Prop := ∃ c', codeAmong pos ps.toList = some c'
section
variable {prog : Program} {w : World} {A : Around} {E : Value → Shared → Prop} {s : Shared}
theorem genCode {M : Model} {env : Env} {c P : Addr} {ps : Array Value} {pos : Pos} {qualname : Str} {scope : Scope} {Q : Value → Shared → Prop} (hc : env.code = .ref c) (hok : s.heap.IsCode c P ps) (htab : s.heap.TableAt c P ps)
    (hor : codeAmong pos ps.toList = none ∨ Found pos ps)
    (hQ : ∀ code h' tk ps', Heap.ExtBut P s.heap h' → s.heap.objs.size ≤ h'.objs.size → h'.IsCode c P ps' → h'.TableAt c P ps' → Found pos ps' → (∃ more, ps' = ps ++ more) → Q code { s with heap := h', toks := tk }) :
    wpAny M A (genexprCode env pos qualname scope) Q E s := by
  rcases hor with hnf | ⟨c', hf⟩
  · have htr : TriplesOk ps.toList := by
      obtain ⟨o, vs, file, tf, flags, tg, inF, text, tt, op, ho, hd, h11, h2, h7, h9, h10, hop, hpd, htr, hne⟩ := id hok
      exact htr
    refine wpAny_genexprCodeX hc hok htab hnf fun c' h₃ tk₃ hx₃ hge hlt hcode₃ _ htab₃ _ => ?_
    refine hQ _ h₃ tk₃ _ hx₃ (Nat.le_trans hge (Nat.le_of_lt hlt)) hcode₃ htab₃ ⟨.ref c', ?_⟩ ⟨_, rfl⟩
    have hl : (ps ++ #[rawInt pos.line, rawInt pos.col, Value.ref c']).toList = ps.toList ++ [rawInt pos.line, rawInt pos.col, .ref c'] := by simp
    rw [hl]
    exact codeAmong_snoc _ htr hnf
  · exact wpAny_genexprCode_hit hc hok hf (hQ c' s.heap s.toks ps (fun b o _ e => e) (Nat.le_refl _) hok htab ⟨c', hf⟩ ⟨#[], by simp⟩)
theorem genexp_any {env : Env} {elt iter : Expr} {x : Str} {px : Pos} {ifs : List Expr} {scope : Scope} {cl : List (Str × Addr)} {pos : Pos} {Q : Value → Shared → Prop} {c P L : Addr} {ps : Array Value} {mg : Str → Option Value} {bm : Addr} {ob : Obj}
    (hcode : env.code = .ref c) (hor : codeAmong pos ps.toList = none ∨ Found pos ps)
    (hh : A.handled = none) (hco : scope.isCoroutine = false) (hclos : closureFor scope env = pure cl) (hcell : ∀ y ∈ scope.names, y.2 ≠ .cell) (h0 : scope.names.lookup (".0" : Str) = some NameKind.local)
    (hx : scope.names.lookup x = some .local) (hkind : scope.kind = .function) (hroom : A.depth < recursionLimit)
    (h : wpAny (model prog w) A (eval iter env) (fun xv s₁ => wpAny (model prog w) A (pyIter xv) (fun it s₂ => s₂.heap.IsCode c P ps ∧ s₂.heap.TableAt c P ps ∧ BMod s₂.heap env.globals mg bm ob ∧ AllBare s₂.gens ∧ s₂.heap.NoLimit ∧ P ≠ cStatics ∧ L < s₂.heap.objs.size ∧
      ∃ I fp wr n₀ Pi St₀ pz F, it = .ref I ∧ (∀ A' : Around, A'.handled = none → Walks prog w A' I fp wr n₀ Pi St₀) ∧ St₀ 0 s₂.heap ∧ (∀ b ∈ fp, b < s₂.heap.objs.size) ∧ P ∉ fp ∧ (∀ b ∈ wr, L < b) ∧ cStatics ∉ wr ∧
        (∀ (code : Value) (h₃ href : Heap), QuietGen prog w (genEnv scope cl h₃.objs.size code builtinsNs env) x ifs elt (List.range h₃.objs.size) wr Pi pz F href) ∧
        (∀ (a : Addr) (s₅ : Shared) (ps' : Array Value), (∀ b o, b ≠ P → s₂.heap.get? b = some o → s₅.heap.get? b = some o) → s₅.heap.IsCode c P ps' → s₅.heap.TableAt c P ps' → Found pos ps' → (∃ more, ps' = ps ++ more) → AllBare s₅.gens → s₅.os = s₂.os →
          Gen prog w A L a (passing pz n₀ 0).length (fun j y => ∃ i, (passing pz n₀ 0)[j]? = some i ∧ F i y) s₅ → Q (.ref a) s₅)) E s₁) E s)
    (hs : ∀ x, genFold iter env x = pure x) :
    wpAny (model prog w) A (eval (.GeneratorExp elt [⟨.Name x px, iter, ifs, 0⟩] scope pos) env) Q E s := by
  refine wpAny_GeneratorExp_walksQ hh hco hclos hcell h0 hx hkind hroom (wpAny_mono h (fun xv s₁ h₁' => wpAny_mono h₁' (fun it s₂ h₂ => ?_) fun _ _ e => e) fun _ _ e => e) hs
  obtain ⟨hcd, htb, M, G₂, hlim, hPc, hLlt, I, fp, wr, n₀, Pi, St₀, pz, F, rfl, W₀, hst, hfp, hPf, hwr, hcw, hq, hQ⟩ := h₂
  refine ⟨hlim, genCode hcode hcd htb hor fun code h₃ tk₃ ps' hx₃ hsz hcode₃ htab₃ hfd hmore => ?_⟩
  have M₃ : BMod h₃ env.globals mg bm ob := M.extBut htb hx₃
  have hl₃ : h₃.NoLimit := hlim.extBut hx₃ (Ne.symm hPc)
  refine wpAny_builtinsFor M₃.ns M₃.name M₃.ne M₃.obj M₃.cls M₃.dict M₃.data ?_
  refine ⟨I, fp, wr, n₀, Pi, St₀, pz, F, rfl, W₀, (W₀ A hh).frame _ _ _ hst (fun b hb o e => hx₃ b o (fun e' => hPf (e' ▸ hb)) e), (fun b hb => Nat.lt_of_lt_of_le (hfp b hb) hsz), hl₃, hcw,
    (fun href hhref => hq _ h₃ href), fun a h₅ tk gs hgb hag hsz₅ hk₅ W hat => ?_⟩
  refine hQ a _ ps' (fun b o hb e => hk₅ b o (hx₃ b o hb e)) (hcode₃.keeps hk₅) (htab₃.keeps hk₅) hfd hmore (G₂.push hgb) rfl ⟨_, _, _, _, W, hat, (fun i s' st => st.1.typeIs), List.mem_cons_self, ?_, ?_⟩
  · intro b hb
    show b < h₅.objs.size
    rw [hsz₅]
    rcases List.mem_cons.mp hb with rfl | hb
    · exact Nat.lt_succ_self _
    · rcases List.mem_cons.mp hb with rfl | hb
      · exact Nat.lt_succ_of_lt hag
      · exact Nat.lt_succ_of_lt (Nat.lt_trans (List.mem_range.mp hb) hag)
  · intro b hb
    rcases List.mem_cons.mp hb with rfl | hb
    · exact Nat.lt_of_lt_of_le hLlt hsz
    · exact hwr b hb
end
end Mine
end
section -- F2a
set_option maxRecDepth 100000
set_option maxHeartbeats 8000000
namespace Mine
theorem bindV {name qual : Str} {an0 : Option Expr} {pp : Pos} {a : Str} {body : List Stmt} {scope : Scope} {kV doc pm cdv ct : Value} {an : Option Addr} (vals : List Value) :
    bindArgs (fnOf name qual { posonlyargs := [], args := [], vararg := some { arg := a, annotation := an0, pos := pp }, kwonlyargs := [], kw_defaults := [], kwarg := none, defaults := [] } body scope .none kV doc pm an cdv ct) ⟨vals, []⟩ = (newTuple vals >>= fun t => pure [(a, t)]) := by
  unfold bindArgs
  simp
  rfl
theorem enterV {w : World} {A : Around} {s : Shared} {K : Frag} {R : Result → Shared → Prop} {name qual : Str} {an0 : Option Expr} {pp : Pos} {a : Str} {body : List Stmt} {scope : Scope} {kV doc pm cdv ct oc : Value} {an od : Option Addr} {osl : Array (Option Value)} {f : Addr} {vals : List Value}
    (X : K.In s.heap) (hlim : s.heap.NoLimit)
    (ho : K.lookup f = some ⟨oc, od, .func (fnOf name qual { posonlyargs := [], args := [], vararg := some { arg := a, annotation := an0, pos := pp }, kwonlyargs := [], kw_defaults := [], kwarg := none, defaults := [] } body scope .none kV doc pm an cdv ct), osl⟩)
    (hcd : codeIn K cdv qual = true) (hroom : A.depth < recursionLimit) (hz : vals.length ≤ 1000) (hloc : scope.names.lookup a = some .local)
    (h : ∀ h₁ tk, s.toks ≤ tk → Fr s.heap (s.heap.objs.size + 1) h₁ (fun y => [(a, Value.ref s.heap.objs.size)].reverse.lookup y) → News s.heap (s.heap.objs.size + 1) h₁ [(s.heap.objs.size, { cls := .type "tuple", data := .seq vals.toArray })] →
      wpAny (model prog w) (A.deeper (envOf qual scope (s.heap.objs.size + 1) f cdv)) (execs body (envOf qual scope (s.heap.objs.size + 1) f cdv))
        (fun fl s' => R (.ok (.ret (match fl with | .ret v => v | _ => .none))) s') (fun _ _ => False)
        { s with heap := h₁, toks := tk })
    (hco : scope.isCoroutine = false := by rfl) (hgen : scope.isGenerator = false := by rfl) (hk : scope.kind = .function := by rfl)
    (hcell : ∀ x ∈ scope.names, x.2 ≠ .cell := by decide) : codeAny (model prog w) A (.call (.ref f) ⟨vals, []⟩) R s := by
  refine codeAny_call_function hroom (X _ _ ho) rfl hco hgen rfl (codeRec_of X hcd) ?_
  rw [bindV]
  refine wpAny_bind (wpAny_newTuple (wpAny_pure ?_) (by rw [sizeLine_eq]; omega))
  have hsz : (s.heap.push { cls := .type "tuple", data := .seq vals.toArray }).objs.size = s.heap.objs.size + 1 := Heap.size_push ..
  refine wpAny_newFunctionEnv hcell (by intro y hy; rw [List.mem_singleton.mp hy]; exact hloc) (fun h₁ hns hsb => ⟨(hlim.keeps fun b o e => Heap.get?_push_of_some _ e).fresh _ hsb, ?_⟩) hk
  rw [hsz] at hns hsb
  show codeAny _ _ (.func body (envOf qual scope (s.heap.push { cls := .type "tuple", data := .seq vals.toArray }).objs.size f cdv)) _ _
  rw [hsz]
  have up : ∀ b o, (s.heap.push { cls := .type "tuple", data := .seq vals.toArray }).get? b = some o → h₁.get? b = some o := fun b o e =>
    hsb.extBut b o (Nat.ne_of_lt (by have := Heap.lt_size e; rw [hsz] at this; exact this)) (Heap.get?_push_of_some _ e)
  refine codeAny_func (wpAny_mono (h h₁ _ (Nat.le_add_right _ _) ⟨hns, fun b o e => up b o (Heap.get?_push_of_some _ e), Nat.le_succ _⟩ ?_) (fun _ _ x => x) fun _ _ x => x.elim)
  intro p hp
  rw [List.mem_singleton.mp hp]
  exact ⟨up _ _ (Heap.get?_push_size _ rfl), Nat.ne_of_lt (Nat.lt_succ_self _), Heap.get?_none_of_le (Nat.le_refl _)⟩
end Mine
end
section -- Rp
set_option maxRecDepth 100000
set_option maxHeartbeats 1000000
namespace Mine
/-- a text's each a made b, read once from the left -/
inductive Rep (a b : List Nat) : List Nat → List Nat → Prop
  | nil : Rep a b [] []
  | hit {r s : List Nat} : Rep a b r s → Rep a b (a ++ r) (b ++ s)
  | miss {c : Nat} {r s : List Nat} : ¬ a <+: (c :: r) → Rep a b r s → Rep a b (c :: r) (c :: s)
theorem Rep.free {a b : List Nat} : ∀ {l : List Nat}, (∀ k, k < l.length → ¬ a <+: l.drop k) → Rep a b l l
  | [], _ => .nil
  | c :: r, h => .miss (h 0 (by simp)) (Rep.free fun k hk => h (k + 1) (by simpa using hk))
theorem Rep.skip {a b v s : List Nat} (hv : Rep a b v s) : ∀ {u : List Nat}, (∀ k, k < u.length → ¬ a <+: (u ++ v).drop k) → Rep a b (u ++ v) (u ++ s)
  | [], _ => hv
  | c :: r, h => .miss (h 0 (by simp)) (Rep.skip hv fun k hk => h (k + 1) (by simpa using hk))
open Builtin Builtin.Str StrLaws in
theorem at_iff {x y : PySem.Str} {k : Nat} (hk : At x y x.length k) : tl y <+: (tl x).drop k := by
  have := hk.2
  rw [subAt_eq] at this
  have e := eq_of_beq this
  rw [List.prefix_iff_eq_take, tl_length]
  exact e.symm
open Builtin Builtin.Str StrLaws in
theorem not_at {x y : PySem.Str} {k : Nat} (hk : ¬ At x y x.length k) (hy : 1 ≤ y.length) : ¬ tl y <+: (tl x).drop k := by
  intro h
  have hl := h.length_le
  rw [List.length_drop, tl_length, tl_length] at hl
  refine hk ⟨by omega, ?_⟩
  rw [subAt_eq]
  rw [List.prefix_iff_eq_take, tl_length] at h
  rw [beq_iff_eq]; exact h.symm
open Builtin Builtin.Str StrLaws in
theorem rep_parts {x y z : PySem.Str} (hy : 1 ≤ y.length) : ∀ (cuts : List Nat) (a f : Nat), ChainG x y x.length a cuts f → (∀ k, f ≤ k → ¬ At x y x.length k) →
    Rep (tl y) (tl z) ((tl x).drop a) (tl (PySem.Str.join z (partsFrom x y.length a cuts)))
  | [], a, f, h, hf => by
    have e : f = a := h
    subst e
    have e2 : tl (PySem.Str.join z (partsFrom x y.length f [])) = (tl x).drop f := by
      show tl (strSub x f x.length) = _
      unfold tl; rw [strSub_toList, List.take_of_length_le (by rw [List.length_drop]; simp [PySem.Str.length])]
    rw [e2]
    exact Rep.free fun k _ => by rw [List.drop_drop]; exact not_at (hf _ (by omega)) hy
  | c :: r, a, f, ⟨h1, h2, h3, h4⟩, hf => by
    obtain ⟨p, q, hpq⟩ := partsFrom_ne x y.length (c + y.length) r
    have ih := rep_parts (z := z) hy r (c + y.length) f h4 hf
    have hc := at_iff h2
    obtain ⟨t, ht⟩ := hc
    have ht2 : t = (tl x).drop (c + y.length) := by
      have := congrArg (List.drop (tl y).length) ht
      rw [List.drop_left, List.drop_drop, tl_length] at this
      exact this
    have e1 : tl (PySem.Str.join z (partsFrom x y.length a (c :: r))) = ((tl x).drop a).take (c - a) ++ (tl z ++ tl (PySem.Str.join z (partsFrom x y.length (c + y.length) r))) := by
      show tl (PySem.Str.join z (strSub x a c :: partsFrom x y.length (c + y.length) r)) = _
      rw [hpq]
      show tl (strSub x a c ++ z ++ PySem.Str.join z (p :: q)) = _
      rw [tl_append, tl_append, List.append_assoc]
      congr 1
      unfold tl; rw [strSub_toList]
    have e2 : (tl x).drop a = ((tl x).drop a).take (c - a) ++ (tl y ++ (tl x).drop (c + y.length)) := by
      rw [← ht2, ht]
      have : (tl x).drop c = ((tl x).drop a).drop (c - a) := by rw [List.drop_drop]; congr 1; omega
      rw [this, List.take_append_drop]
    have hul : (((tl x).drop a).take (c - a)).length ≤ c - a := by rw [List.length_take]; omega
    generalize ((tl x).drop a).take (c - a) = u at e1 e2 hul
    have key : Rep (tl y) (tl z) (u ++ (tl y ++ (tl x).drop (c + y.length))) (u ++ (tl z ++ tl (PySem.Str.join z (partsFrom x y.length (c + y.length) r)))) := by
      refine Rep.skip (.hit ih) fun k hk => ?_
      rw [← e2, List.drop_drop]
      exact not_at (h3 _ (by omega) (by omega)) hy
    rw [e1, e2]; exact key
open Builtin Builtin.Str StrLaws in
theorem rep_of (x y z : PySem.Str) (hy : 1 ≤ y.length) : Rep (tl y) (tl z) (tl x) (tl (Txt.replace x y z)) := by
  obtain ⟨f, hch, hf⟩ := occ_tight x y hy
  have hr := rep_parts (z := z) hy _ 0 f hch hf
  rw [List.drop_zero] at hr
  unfold Txt.replace
  have h0 : (y.length == 0 && z.length == 0) = false := by
    have : (y.length == 0) = false := by simp; omega
    rw [this]; rfl
  rw [h0, Bool.or_false]
  split
  · rename_i he
    have e : occurrences x y 0 x.length (x.length + 1) = [] := List.isEmpty_iff.mp he
    rw [e] at hch
    have : f = 0 := hch
    subst this
    exact Rep.free fun k _ => not_at (hf k (Nat.zero_le _)) hy
  · rw [glued_eq_join, partsBetween_eq]; exact hr
theorem Rep.one {c d : Nat} {l s : List Nat} (h : Rep [c] [d] l s) : s = l.map fun k => if k = c then d else k := by
  induction h with
  | nil => rfl
  | hit _ ih => simp [ih]
  | @miss k r s hm _ ih =>
    have : k ≠ c := fun e => hm (by rw [e]; exact ⟨r, rfl⟩)
    simp [ih, this]
theorem Rep.le {a b : List Nat} (hab : b.length ≤ a.length) {l s : List Nat} (h : Rep a b l s) : s.length ≤ l.length := by
  induction h with
  | nil => exact Nat.le_refl _
  | hit _ ih => rw [List.length_append, List.length_append]; omega
  | miss _ _ ih => simp only [List.length_cons]; omega
theorem Rep.lt {a b : List Nat} (hab : b.length < a.length) {l s : List Nat} (h : Rep a b l s) : s = l ∨ s.length < l.length := by
  induction h with
  | nil => exact .inl rfl
  | hit h ih => have := h.le (Nat.le_of_lt hab); right; rw [List.length_append, List.length_append]; omega
  | miss _ _ ih =>
    rcases ih with e | e
    · exact .inl (by rw [e])
    · right; simp only [List.length_cons]; omega
theorem replace_len {x y z : Str} (hy : 1 ≤ y.length) (hz : z.length ≤ y.length) : (Txt.replace x y z).length ≤ x.length := by
  have h := (rep_of x y z hy).le (by rw [tl_length, tl_length]; exact hz)
  rw [tl_length, tl_length] at h; exact h
theorem replace_lt {x y z : Str} (hy : 1 ≤ y.length) (hz : z.length < y.length) (hne : Txt.replace x y z ≠ x) : (Txt.replace x y z).length < x.length := by
  rcases (rep_of x y z hy).lt (by rw [tl_length, tl_length]; exact hz) with e | e
  · exact absurd (tl_inj e) hne
  · rw [tl_length, tl_length] at e; exact e
theorem replace_map (x : Str) (c d : Nat) : tl (Txt.replace x ⟨#[c]⟩ ⟨#[d]⟩) = (tl x).map fun k => if k = c then d else k := (rep_of x ⟨#[c]⟩ ⟨#[d]⟩ (Nat.le_refl _)).one
end Mine
end
section -- F2
set_option maxRecDepth 100000
set_option maxHeartbeats 8000000
namespace Mine
abbrev pos13 : Pos := { line := 13, col := 24, endLine := 13, endCol := 62 }
/-- the rows of hyphens cut until none is left -/
inductive Coll : Str → Str → Prop
  | done {p : Str} : Txt.replace p (Str.ofString "--") (Str.ofString "-") = p → Coll p p
  | step {p q : Str} : Txt.replace p (Str.ofString "--") (Str.ofString "-") ≠ p → Coll (Txt.replace p (Str.ofString "--") (Str.ofString "-")) q → Coll p q
/-- the hyphens at the end taken off -/
inductive Rs : Str → Str → Prop
  | empty {p : Str} : p.length = 0 → Rs p p
  | other {p : Str} : p.length ≠ 0 → Txt.item p (-1) ≠ Str.ofString "-" → Rs p p
  | step {p q : Str} : p.length ≠ 0 → Txt.item p (-1) = Str.ofString "-" → Rs (Txt.slice p none (some (-1))) q → Rs p q
def rep8 (p : Str) : Str :=
  let p := Txt.replace p (Str.ofString " ") (Str.ofString "_")
  let p := Txt.replace p (Str.ofString "/") (Str.ofString "-")
  let p := Txt.replace p (Str.ofString "\\") (Str.ofString "-")
  let p := Txt.replace p (Str.ofString ":") (Str.ofString "-")
  let p := Txt.replace p (Str.ofString ";") (Str.ofString "-")
  let p := Txt.replace p (Str.ofString "\"") (Str.ofString "-")
  let p := Txt.replace p (Str.ofString "(") (Str.ofString "-")
  let p := Txt.replace p (Str.ofString ")") (Str.ofString "-")
  Txt.replace p (Str.ofString "unknown") (Str.ofString "")
def PlatR (xs : List Str) (r : Str) : Prop := ∃ q, Coll (rep8 (Str.join (Str.ofString "-") ((xs.filter ne0).map Txt.strip))) q ∧ Rs q r
theorem txt_join' (sep : Str) (l : List Str) : Txt.join sep l = Str.join sep l := eq_of_beq (join_plain_closes sep l)
/-- the frame of _platform behind its first row -/
def AtP (h₀ : Heap) (L : Addr) (s : Shared) (p : Str) (s' : Shared) : Prop := ∃ h' tk' m' t', s' = { s with heap := h', toks := tk' } ∧ Fr h₀ L h' m' ∧ m' (Str.ofString "platform") = some (.str p t')
theorem join_len' (sep : Str) : ∀ l : List Str, (Str.join sep l).length ≤ (l.map (·.length)).sum + l.length * sep.length
  | [] => Nat.zero_le _
  | [x] => by show x.length ≤ _; simp
  | x :: y :: r => by
    have h := join_len' sep (y :: r)
    show (x ++ sep ++ Str.join sep (y :: r)).length ≤ _
    rw [Str.length_append, Str.length_append]
    simp only [List.map_cons, List.sum_cons, List.length_cons, Nat.succ_mul] at h ⊢
    omega
theorem while_I {prog : Program} {w : World} {A : Around} {E : Value → Shared → Prop} {s : Shared} {test : Expr} {body : List Stmt} {pos : Pos} {env : Env} {Q : Flow → Shared → Prop} (I : Nat → Shared → Prop) (Ex : Shared → Prop)
    (turn : ∀ n s', I n s' → 1 ≤ s'.toks → wpAny (model prog w) A (isTrue test env (eval test env)) (fun b s₂ =>
      if b = true then wpAny (model prog w) A (execs body env) (fun f s₃ => Hold ((f = .next ∧ ∃ m, m < n ∧ I m s₃) ∨ (f = .brk ∧ Ex s₃))) (fun _ _ => False) s₂ else Hold (Ex s₂)) (fun _ _ => False) s')
    (n : Nat) (h : I n s) (htk : 1 ≤ s.toks) (done : ∀ s', 1 ≤ s'.toks → Ex s' → Q .next s') : wpAny (model prog w) A (exec (.While test body [] pos) env) Q E s := by
  refine wpAny_While (codeAny_whileLoop (fun n s' => I n s' ∧ 1 ≤ s'.toks) ?_ n ⟨h, htk⟩)
  rintro n s' ⟨hI, ht⟩
  refine wpAny_mono (wpAny_with_toks ht (wpAny_mono (turn n s' hI ht) (fun b s₂ h₂ => fun ht₂ => (?_ : (fun b s₂ => 1 ≤ s₂.toks ∧ (if b = true then wpAny (model prog w) A (execs body env) (fun f s₃ => Hold ((f = .next ∧ ∃ m, m < n ∧ I m s₃) ∨ (f = .brk ∧ Ex s₃))) (fun _ _ => False) s₂ else Hold (Ex s₂))) b s₂)) fun _ _ x => x.elim)) (fun b s₂ h₂ => ?_) (E := fun _ _ => False) fun _ _ x => x.elim
  · exact ⟨ht₂, h₂⟩
  · obtain ⟨ht₂, h₂⟩ := h₂
    cases b with
    | false =>
      simp only [Bool.false_eq_true, if_false] at h₂ ⊢
      exact wpAny_execs_nil (done _ ht₂ h₂.out)
    | true =>
      simp only [if_true] at h₂ ⊢
      refine wpAny_with_toks ht₂ (wpAny_mono h₂ (fun f s₃ h₃ => fun ht₃ => ?_) fun _ _ x => x.elim)
      rcases h₃.out with ⟨rfl, m, hm, hI'⟩ | ⟨rfl, hx⟩
      · exact ⟨m, hm, hI', ht₃⟩
      · exact done _ ht₃ hx
theorem slice_lt {p : Str} (h : p.length ≠ 0) : (Txt.slice p none (some (-1))).length < p.length := by
  have e := slice_to_neg p 1 (by decide)
  have e2 := congrArg List.length e
  rw [tl_length, List.length_take, tl_length] at e2
  have e3 : (Txt.slice p none (some (-1))).length = _ := e2
  rw [e3]; omega
theorem exec_stepT {prog : Program} {w : World} {A : Around} {E : Value → Shared → Prop} {s : Shared} {st : Stmt} {rest : List Stmt} {env : Env} {Q : Flow → Shared → Prop} (P : Shared → Prop) (hn : 1 ≤ s.toks)
    (h1 : wpAny (model prog w) A (exec st env) (fun f s' => Hold (f = .next ∧ P s')) (fun _ _ => False) s) (h2 : ∀ s', 1 ≤ s'.toks → P s' → wpAny (model prog w) A (execs rest env) Q E s') : wpAny (model prog w) A (execs (st :: rest) env) Q E s := by
  refine wpAny_execs_cons (wpAny_with_toks hn (wpAny_mono h1 (fun f s' h => ?_) fun _ _ h => h.elim))
  intro htk
  obtain ⟨⟨rfl, hp⟩⟩ := h
  exact h2 s' htk hp
local macro_rules | `(tactic| walk_at "call builtin:str.replace") => `(tactic| (k_here; (refine SC.replaceW (neN (by omega)) (neN (by omega)) (neN (by omega)) (by decide) (by omega) (by decide) ?_); intro _ _))
theorem law_platform {w : World} {mg mb : Str → Option Value} {A : Around} {s : Shared} {R : Result → Shared → Prop} {vals : List Value} {xs : List Str} {P : Addr} {ps : Array Value} {bm : Addr} {ob : Obj}
    (X : (hd.heap_39 w.params).In s.heap) (T : TopRead hd.view_39 (looseW hd.view_39 []) mg mb s.heap)
    (GL : Glob 0 mg mb (List.map itemOf (recsOf hd.view_39)) (scalarsOf [] ++ constsW hd.view_39) [] (namesW hd.view_39 []) s.heap)
    (hM : BMod s.heap mainGlobals mg bm ob) (hcd : s.heap.IsCode 27 P ps) (htb : s.heap.TableAt 27 P ps) (hP : P ≠ cStatics) (hor : codeAmong pos13 ps.toList = none ∨ Found pos13 ps) (hg : AllBare s.gens)
    (hroom : A.depth + 30 < recursionLimit) (hu : A.units + 120 < cLine) (hh : A.handled = none)
    (htk : 1 ≤ s.toks) (hv : StrsAre vals xs) (hlen : xs.length ≤ 20) (hxl : ∀ x ∈ xs, x.length ≤ 1000)
    (hR : ∀ s' t' r ps', PlatR xs r → (∀ b o, b ≠ P → s.heap.get? b = some o → s'.heap.get? b = some o) → s'.heap.IsCode 27 P ps' → s'.heap.TableAt 27 P ps' → Found pos13 ps' → (∃ more, ps' = ps ++ more) → AllBare s'.gens → s'.os = s.os →
      R (.ok (.ret (.str r t'))) s') :
    codeAny (model PySem.Challenge.rw_mj0053_01.row.prog w) A (.call (.ref 28) ⟨vals, []⟩) R s := by
  revert X T
  k_fill
  intro X T
  refine' enterV X T.nolimit ?ho ?hcd ?hroom ?hz ?hloc ?_ ?c2 ?c3 ?c4 ?c5
  case ho => k_is
  case hcd => k_is
  case hroom => omega
  case hz => rw [hv.len_eq]; omega
  case hloc => exact rfl
  case c2 => exact rfl
  case c3 => exact rfl
  case c4 => exact rfl
  case c5 => decide
  intro h₁ tk₁ htk₁ F N
  try k_fold
  refine exec_stepT (fun s' => ∃ ps' t' m', Fr (regrown s.heap P ps') (s.heap.objs.size + 1) s'.heap m' ∧ m' (Str.ofString "platform") = some (.str (Str.join (Str.ofString "-") ((xs.filter ne0).map Txt.strip)) t') ∧
    s'.heap.IsCode 27 P ps' ∧ s'.heap.TableAt 27 P ps' ∧ Found pos13 ps' ∧ (∃ more, ps' = ps ++ more) ∧ AllBare s'.gens ∧ s'.os = s.os ∧ Based s.heap (regrown s.heap P ps') 27 P ps') (Nat.le_trans htk htk₁) ?_ ?_
  · k_steps
    refine genexp_any (c := 27) (P := P) (L := s.heap.objs.size + 1) (ps := ps) (mg := mg) (bm := bm) (ob := ob) (cl := []) rfl hor hh rfl rfl (by decide) rfl rfl rfl (by simp only [depth_deeper]; omega) ?_ (fun _ => rfl)
    k_steps
    refine filt_make (News.isTup N (.head _)) ?_
    intro h₂ g1 g2 g3 g4
    dsimp only at g1 g2 g3
    have hD : s.heap.objs.size < h₁.objs.size := Nat.lt_trans (Nat.lt_succ_self _) F.ns.lt
    have W : ∀ A' : Around, A'.handled = none → Walks prog w A' (h₁.objs.size + 1) [h₁.objs.size + 1, h₁.objs.size, s.heap.objs.size] [h₁.objs.size] (xs.filter ne0).length _ _ := fun A' hA' =>
      Walks.filt hA' (Nat.succ_ne_self _) (Nat.ne_of_lt hD) hv (fun y hy => Nat.le_trans (hxl y hy) (by omega))
    have keepH : ∀ b o, s.heap.get? b = some o → h₂.get? b = some o := fun b o e => g4 b o (F.keep b o e)
    have hPlt : P < s.heap.objs.size := Heap.lt_size htb.2
    have hClt : cStatics < s.heap.objs.size := by obtain ⟨_, hn, _⟩ := T.nolimit; exact hn.lt
    have tupH : IsTup h₂ s.heap.objs.size { toList := vals } := (News.isTup N (.head _)).keeps g4
    refine Walks.self (W (A.deeper _) hh) 0 _ _ _ (show _ ∧ _ from ?_) ?_
    · exact ⟨g1, tupH, 0, g2, rfl⟩
    refine ⟨hcd.keeps keepH, htb.keeps keepH, hM.keeps keepH, hg, T.nolimit.keeps keepH, hP, ?_, _, _, _, _, _, _, (fun _ => true), (fun i y => ∃ x u, (xs.filter ne0)[i]? = some x ∧ y = .str (Txt.strip x) u), rfl, W, ⟨g1, tupH, 0, g2, rfl⟩, ?_, ?_, ?_, ?_, ?_, ?_⟩
    · show s.heap.objs.size + 1 < h₂.objs.size
      rw [g3]; exact Nat.lt_of_lt_of_le F.ns.lt (Nat.le_add_right _ _)
    · intro b hb
      show b < h₂.objs.size
      rw [g3]
      rcases List.mem_cons.mp hb with e | hb
      · rw [e]; exact Nat.lt_succ_self _
      · rcases List.mem_cons.mp hb with e | hb
        · rw [e]; exact Nat.lt_add_of_pos_right (by decide)
        · rw [List.mem_singleton.mp hb]; exact Nat.lt_of_lt_of_le hD (Nat.le_add_right _ _)
    · intro hb
      have hlt : P < h₁.objs.size := Nat.lt_trans hPlt hD
      rcases List.mem_cons.mp hb with e | hb
      · rw [e] at hlt; exact absurd hlt (Nat.not_lt_of_le (Nat.le_succ _))
      · rcases List.mem_cons.mp hb with e | hb
        · rw [e] at hlt; exact absurd hlt (Nat.lt_irrefl _)
        · rw [List.mem_singleton.mp hb] at hPlt; exact absurd hPlt (Nat.lt_irrefl _)
    · intro b hb; rw [List.mem_singleton.mp hb]; exact F.ns.lt
    · intro hb
      rw [List.mem_singleton.mp hb] at hClt
      exact absurd (Nat.lt_trans hClt hD) (Nat.lt_irrefl _)
    · intro code h₃ href
      refine ⟨fun A' E' i v s₂ m₂ _ _ _ _ _ => ?_, fun A' E' i v s₂ m₂ hA hPv _ hns hm _ => ?_⟩
      · exact wpAny_pure ⟨rfl, s₂.heap, s₂.toks, rfl, fun _ _ e => e⟩
      · obtain ⟨y, u, hy, rfl⟩ := hPv
        have hyl : y.length ≤ 1000 := hxl y (List.mem_filter.mp (List.mem_of_getElem? hy)).1
        refine wpAny_mono (Q := fun v s' => Hold (∃ u', v = Value.str (Txt.strip y) u' ∧ ∃ tk, s' = { s₂ with toks := tk })) (E := E') ?_ (fun v s' q => ?_) fun _ _ e => e
        · refine MethodCall_ ?_
          refine wpAny_Name (wpAny_loadName_local rfl rfl hns hm ?_) (by decide)
          k_steps
          exact Hold.mk ⟨_, rfl, _, rfl⟩
        · obtain ⟨u', rfl, tk, rfl⟩ := q.out
          exact ⟨⟨y, u', hy, rfl⟩, s₂.heap, tk, rfl, fun _ _ e => e⟩
    · intro a s₅ ps' hk hc5 ht5 hfd hmore hbare hos hgen
      obtain ⟨more, rfl⟩ := hmore
      obtain ⟨BG, FG⟩ := (Based.start hcd htb hP).grow (F.grownK g4) hk hc5 ht5
      have XG : (hd.heap_39 w.params).In (regrown s.heap P (ps ++ more)) := kb_in_regrown (Based.start hcd htb hP) X T.g (by rfl)
      have NG : News (regrown s.heap P (ps ++ more)) (s.heap.objs.size + 1) s₅.heap [] := News.nil
      clear F N X GL W g1 g2 g3 g4
      k_steps
      have hpass : passing (fun _ => true) (xs.filter ne0).length 0 = List.range (xs.filter ne0).length := by simp [passing]
      rw [hpass, List.length_range] at hgen
      have hfl : (xs.filter ne0).length ≤ 20 := Nat.le_trans (List.length_filter_le _ _) hlen
      have hjl : ((xs.filter ne0).map Txt.strip) = (List.range (xs.filter ne0).length).map (fun j => Txt.strip ((xs.filter ne0).getD j Str.empty)) := by
        apply List.ext_getElem?
        intro j
        by_cases hj : j < (xs.filter ne0).length
        · simp [hj, List.getD_eq_getElem?_getD]
        · rw [List.getElem?_eq_none (by simpa using hj), List.getElem?_eq_none (by simpa using hj)]
      have hsum : (((xs.filter ne0).map Txt.strip).map (·.length)).sum + ((xs.filter ne0).map Txt.strip).length * (Str.ofString "-").length ≤ 21000 := by
        have h1 : (((xs.filter ne0).map Txt.strip).map (·.length)).sum ≤ ((xs.filter ne0).map Txt.strip).length * 1000 := StrLaws.sumLen_le _ fun y hy => by
          obtain ⟨x, hx, rfl⟩ := List.mem_map.mp hy
          exact Nat.le_trans (stripBy_le _ _ _ _) (hxl x (List.mem_filter.mp hx).1)
        have h2 : (Str.ofString "-").length = 1 := by decide
        rw [List.length_map] at h1
        rw [h2, List.length_map]
        omega
      refine join_rows (n := (xs.filter ne0).length) FG hbare hgen (fun j => Txt.strip ((xs.filter ne0).getD j Str.empty)) ?_ (joinOk_of (by rw [← hjl]; omega)) ?_ (by rw [sizeLine_eq]; omega)
      · rintro j v ⟨i, hi, x, u, hx, rfl⟩
        have hij : i = j := by
          rw [List.getElem?_range] at hi
          · exact (Option.some.inj hi).symm
          · false_or_by_contra
            rename_i hc
            rw [List.getElem?_eq_none (by simpa using hc)] at hi; cases hi
        subst hij
        exact ⟨u, by rw [List.getD_eq_getElem?_getD, hx]; rfl⟩
      · intro s' t' F6 B6 o6
        rw [← hjl, txt_join']
        have N6 : News (regrown s.heap P (ps ++ more)) (s.heap.objs.size + 1) s'.heap [] := News.nil
        clear FG NG
        k_steps
        rename_i F7 N7
        exact Hold.mk ⟨by first | exact rfl | exact trivial, _, _, _, F7, rfl, BG.code.keeps F7.keep, BG.tab.keeps F7.keep, hfd, ⟨more, rfl⟩, B6, o6.trans hos, BG⟩
  · rintro s₂ tk₂ ⟨ps', t', m', F2, q2, hc2, ht2, hfd, hmore, hb2, ho2, BG⟩
    have XG : (hd.heap_39 w.params).In (regrown s.heap P ps') := kb_in_regrown (Based.start hcd htb hP) X T.g (by rfl)
    have hj : (Str.join (Str.ofString "-") ((xs.filter ne0).map Txt.strip)).length ≤ 21000 := by
      have h0 := join_len' (Str.ofString "-") ((xs.filter ne0).map Txt.strip)
      have h1 : (((xs.filter ne0).map Txt.strip).map (·.length)).sum ≤ ((xs.filter ne0).map Txt.strip).length * 1000 := StrLaws.sumLen_le _ fun y hy => by
        obtain ⟨x, hx, rfl⟩ := List.mem_map.mp hy
        exact Nat.le_trans (stripBy_le _ _ _ _) (hxl x (List.mem_filter.mp hx).1)
      have h2 : (Str.ofString "-").length = 1 := by decide
      have h3 : (xs.filter ne0).length ≤ 20 := Nat.le_trans (List.length_filter_le _ _) hlen
      rw [List.length_map] at h1
      rw [h2, List.length_map] at h0
      omega
    have hR' : ∀ s' t' q r, s'.gens = s₂.gens → s'.os = s₂.os → Fr (regrown s.heap P ps') (s.heap.objs.size + 1) s'.heap q → PlatR xs r → R (.ok (.ret (.str r t'))) s' := fun s' t' q r e1 e2 Fq hp =>
      hR s' t' r ps' hp (fun b o hb e => Fq.keep b o ((Heap.get?_update_other _ _ (Ne.symm hb)).trans e)) (BG.code.keeps Fq.keep) (BG.tab.keeps Fq.keep) hfd hmore (e1 ▸ hb2) (e2.trans ho2)
    unfold PlatR rep8 at hR'
    generalize Str.join (Str.ofString "-") ((xs.filter ne0).map Txt.strip) = p at *
    clear F N X GL hR
    have N2 : News (regrown s.heap P ps') (s.heap.objs.size + 1) s₂.heap [] := News.nil
    have F3 := frNames [(Str.ofString "platform", .str p t')] F2 (List.forall_mem_cons.mpr ⟨q2, List.forall_mem_nil _⟩)
    clear F2 q2
    simp only [kstB] at F3
    dsimp only at hR'
    refine exec_stepT (AtP (regrown s.heap P ps') (s.heap.objs.size + 1) s₂ (Txt.replace p (Str.ofString " ") (Str.ofString "_"))) (by assumption) ?_ ?_
    · k_steps
      exact Hold.mk ⟨by first | exact rfl | exact trivial, _, _, _, _, rfl, by assumption, rfl⟩
    clear F3 N2
    rintro _ tk₃ ⟨h₃, tk', m', t', rfl, F3, q3⟩
    have hj : (Txt.replace p (Str.ofString " ") (Str.ofString "_")).length ≤ 21000 := Nat.le_trans (replace_len (by decide) (by decide)) hj
    generalize Txt.replace p (Str.ofString " ") (Str.ofString "_") = p at *
    have N2 : News (regrown s.heap P ps') (s.heap.objs.size + 1) h₃ [] := News.nil
    replace F3 := frNames [(Str.ofString "platform", .str p t')] F3 (List.forall_mem_cons.mpr ⟨q3, List.forall_mem_nil _⟩)
    clear q3
    simp only [kstB] at F3
    dsimp only at tk₃
    refine exec_stepT (AtP (regrown s.heap P ps') (s.heap.objs.size + 1) s₂ (Txt.replace p (Str.ofString "/") (Str.ofString "-"))) (by assumption) ?_ ?_
    · k_steps
      exact Hold.mk ⟨by first | exact rfl | exact trivial, _, _, _, _, rfl, by assumption, rfl⟩
    clear F3 N2
    rintro _ tk₃ ⟨h₃, tk', m', t', rfl, F3, q3⟩
    have hj : (Txt.replace p (Str.ofString "/") (Str.ofString "-")).length ≤ 21000 := Nat.le_trans (replace_len (by decide) (by decide)) hj
    generalize Txt.replace p (Str.ofString "/") (Str.ofString "-") = p at *
    have N2 : News (regrown s.heap P ps') (s.heap.objs.size + 1) h₃ [] := News.nil
    replace F3 := frNames [(Str.ofString "platform", .str p t')] F3 (List.forall_mem_cons.mpr ⟨q3, List.forall_mem_nil _⟩)
    clear q3
    simp only [kstB] at F3
    dsimp only at tk₃
    refine exec_stepT (AtP (regrown s.heap P ps') (s.heap.objs.size + 1) s₂ (Txt.replace p (Str.ofString "\\") (Str.ofString "-"))) (by assumption) ?_ ?_
    · k_steps
      exact Hold.mk ⟨by first | exact rfl | exact trivial, _, _, _, _, rfl, by assumption, rfl⟩
    clear F3 N2
    rintro _ tk₃ ⟨h₃, tk', m', t', rfl, F3, q3⟩
    have hj : (Txt.replace p (Str.ofString "\\") (Str.ofString "-")).length ≤ 21000 := Nat.le_trans (replace_len (by decide) (by decide)) hj
    generalize Txt.replace p (Str.ofString "\\") (Str.ofString "-") = p at *
    have N2 : News (regrown s.heap P ps') (s.heap.objs.size + 1) h₃ [] := News.nil
    replace F3 := frNames [(Str.ofString "platform", .str p t')] F3 (List.forall_mem_cons.mpr ⟨q3, List.forall_mem_nil _⟩)
    clear q3
    simp only [kstB] at F3
    dsimp only at tk₃
    refine exec_stepT (AtP (regrown s.heap P ps') (s.heap.objs.size + 1) s₂ (Txt.replace p (Str.ofString ":") (Str.ofString "-"))) (by assumption) ?_ ?_
    · k_steps
      exact Hold.mk ⟨by first | exact rfl | exact trivial, _, _, _, _, rfl, by assumption, rfl⟩
    clear F3 N2
    rintro _ tk₃ ⟨h₃, tk', m', t', rfl, F3, q3⟩
    have hj : (Txt.replace p (Str.ofString ":") (Str.ofString "-")).length ≤ 21000 := Nat.le_trans (replace_len (by decide) (by decide)) hj
    generalize Txt.replace p (Str.ofString ":") (Str.ofString "-") = p at *
    have N2 : News (regrown s.heap P ps') (s.heap.objs.size + 1) h₃ [] := News.nil
    replace F3 := frNames [(Str.ofString "platform", .str p t')] F3 (List.forall_mem_cons.mpr ⟨q3, List.forall_mem_nil _⟩)
    clear q3
    simp only [kstB] at F3
    dsimp only at tk₃
    refine exec_stepT (AtP (regrown s.heap P ps') (s.heap.objs.size + 1) s₂ (Txt.replace p (Str.ofString ";") (Str.ofString "-"))) (by assumption) ?_ ?_
    · k_steps
      exact Hold.mk ⟨by first | exact rfl | exact trivial, _, _, _, _, rfl, by assumption, rfl⟩
    clear F3 N2
    rintro _ tk₃ ⟨h₃, tk', m', t', rfl, F3, q3⟩
    have hj : (Txt.replace p (Str.ofString ";") (Str.ofString "-")).length ≤ 21000 := Nat.le_trans (replace_len (by decide) (by decide)) hj
    generalize Txt.replace p (Str.ofString ";") (Str.ofString "-") = p at *
    have N2 : News (regrown s.heap P ps') (s.heap.objs.size + 1) h₃ [] := News.nil
    replace F3 := frNames [(Str.ofString "platform", .str p t')] F3 (List.forall_mem_cons.mpr ⟨q3, List.forall_mem_nil _⟩)
    clear q3
    simp only [kstB] at F3
    dsimp only at tk₃
    refine exec_stepT (AtP (regrown s.heap P ps') (s.heap.objs.size + 1) s₂ (Txt.replace p (Str.ofString "\"") (Str.ofString "-"))) (by assumption) ?_ ?_
    · k_steps
      exact Hold.mk ⟨by first | exact rfl | exact trivial, _, _, _, _, rfl, by assumption, rfl⟩
    clear F3 N2
    rintro _ tk₃ ⟨h₃, tk', m', t', rfl, F3, q3⟩
    have hj : (Txt.replace p (Str.ofString "\"") (Str.ofString "-")).length ≤ 21000 := Nat.le_trans (replace_len (by decide) (by decide)) hj
    generalize Txt.replace p (Str.ofString "\"") (Str.ofString "-") = p at *
    have N2 : News (regrown s.heap P ps') (s.heap.objs.size + 1) h₃ [] := News.nil
    replace F3 := frNames [(Str.ofString "platform", .str p t')] F3 (List.forall_mem_cons.mpr ⟨q3, List.forall_mem_nil _⟩)
    clear q3
    simp only [kstB] at F3
    dsimp only at tk₃
    refine exec_stepT (AtP (regrown s.heap P ps') (s.heap.objs.size + 1) s₂ (Txt.replace p (Str.ofString "(") (Str.ofString "-"))) (by assumption) ?_ ?_
    · k_steps
      exact Hold.mk ⟨by first | exact rfl | exact trivial, _, _, _, _, rfl, by assumption, rfl⟩
    clear F3 N2
    rintro _ tk₃ ⟨h₃, tk', m', t', rfl, F3, q3⟩
    have hj : (Txt.replace p (Str.ofString "(") (Str.ofString "-")).length ≤ 21000 := Nat.le_trans (replace_len (by decide) (by decide)) hj
    generalize Txt.replace p (Str.ofString "(") (Str.ofString "-") = p at *
    have N2 : News (regrown s.heap P ps') (s.heap.objs.size + 1) h₃ [] := News.nil
    replace F3 := frNames [(Str.ofString "platform", .str p t')] F3 (List.forall_mem_cons.mpr ⟨q3, List.forall_mem_nil _⟩)
    clear q3
    simp only [kstB] at F3
    dsimp only at tk₃
    refine exec_stepT (AtP (regrown s.heap P ps') (s.heap.objs.size + 1) s₂ (Txt.replace p (Str.ofString ")") (Str.ofString "-"))) (by assumption) ?_ ?_
    · k_steps
      exact Hold.mk ⟨by first | exact rfl | exact trivial, _, _, _, _, rfl, by assumption, rfl⟩
    clear F3 N2
    rintro _ tk₃ ⟨h₃, tk', m', t', rfl, F3, q3⟩
    have hj : (Txt.replace p (Str.ofString ")") (Str.ofString "-")).length ≤ 21000 := Nat.le_trans (replace_len (by decide) (by decide)) hj
    generalize Txt.replace p (Str.ofString ")") (Str.ofString "-") = p at *
    have N2 : News (regrown s.heap P ps') (s.heap.objs.size + 1) h₃ [] := News.nil
    replace F3 := frNames [(Str.ofString "platform", .str p t')] F3 (List.forall_mem_cons.mpr ⟨q3, List.forall_mem_nil _⟩)
    clear q3
    simp only [kstB] at F3
    dsimp only at tk₃
    refine exec_stepT (AtP (regrown s.heap P ps') (s.heap.objs.size + 1) s₂ (Txt.replace p (Str.ofString "unknown") (Str.ofString ""))) (by assumption) ?_ ?_
    · k_steps
      exact Hold.mk ⟨by first | exact rfl | exact trivial, _, _, _, _, rfl, by assumption, rfl⟩
    clear F3 N2
    rintro _ tk₃ ⟨h₃, tk', m', t', rfl, F3, q3⟩
    have hj : (Txt.replace p (Str.ofString "unknown") (Str.ofString "")).length ≤ 21000 := Nat.le_trans (replace_len (by decide) (by decide)) hj
    generalize Txt.replace p (Str.ofString "unknown") (Str.ofString "") = p at *
    have N2 : News (regrown s.heap P ps') (s.heap.objs.size + 1) h₃ [] := News.nil
    replace F3 := frNames [(Str.ofString "platform", .str p t')] F3 (List.forall_mem_cons.mpr ⟨q3, List.forall_mem_nil _⟩)
    clear q3
    simp only [kstB] at F3
    dsimp only at tk₃
    refine exec_stepT (fun s' => ∃ q, Coll p q ∧ q.length ≤ 21000 ∧ AtP (regrown s.heap P ps') (s.heap.objs.size + 1) s₂ q s') (by assumption) ?_ ?_
    · refine while_I (fun n s' => ∃ p', n = p'.length ∧ p'.length ≤ 21000 ∧ (∀ q, Coll p' q → Coll p q) ∧ AtP (regrown s.heap P ps') (s.heap.objs.size + 1) s₂ p' s') (fun s' => ∃ q, Coll p q ∧ q.length ≤ 21000 ∧ AtP (regrown s.heap P ps') (s.heap.objs.size + 1) s₂ q s') ?_ p.length ⟨p, rfl, hj, fun _ h => h, _, _, _, _, rfl, F3, rfl⟩ (by assumption) fun s' _ h => Hold.mk ⟨rfl, h⟩
      clear F3 N2
      rintro n _ ⟨p', rfl, hl', hcc, h₄, tk₄, m₄, t₄, rfl, F4, q4⟩ ht4
      have N2 : News (regrown s.heap P ps') (s.heap.objs.size + 1) h₄ [] := News.nil
      replace F4 := frNames [(Str.ofString "platform", .str p' t₄)] F4 (List.forall_mem_cons.mpr ⟨q4, List.forall_mem_nil _⟩)
      clear q4
      simp only [kstB] at F4
      dsimp only at ht4
      k_steps
      · exact Hold.mk (.inr ⟨rfl, p', hcc p' (.done (eq_of_beq (by assumption))), hl', _, _, _, _, rfl, by assumption, rfl⟩)
      · have hne : Txt.replace p' (Str.ofString "--") (Str.ofString "-") ≠ p' := ne_of_beq_false (by assumption)
        exact Hold.mk (.inl ⟨by first | exact rfl | exact trivial, _, replace_lt (by decide) (by decide) hne, _, rfl, Nat.le_trans (replace_len (by decide) (by decide)) hl', fun q hq => hcc q (.step hne hq), _, _, _, _, rfl, by assumption, rfl⟩)
    · clear F3 N2
      rintro _ tk₃ ⟨q, hcq, hlq, h₃, tk', m', t', rfl, F3, q3⟩
      have N2 : News (regrown s.heap P ps') (s.heap.objs.size + 1) h₃ [] := News.nil
      replace F3 := frNames [(Str.ofString "platform", .str q t')] F3 (List.forall_mem_cons.mpr ⟨q3, List.forall_mem_nil _⟩)
      clear q3
      simp only [kstB] at F3
      dsimp only at tk₃
      refine exec_stepT (fun s' => ∃ r, Rs q r ∧ AtP (regrown s.heap P ps') (s.heap.objs.size + 1) s₂ r s') (by assumption) ?_ ?_
      · refine while_I (fun n s' => ∃ p', n = p'.length ∧ p'.length ≤ 21000 ∧ (∀ r, Rs p' r → Rs q r) ∧ AtP (regrown s.heap P ps') (s.heap.objs.size + 1) s₂ p' s') (fun s' => ∃ r, Rs q r ∧ AtP (regrown s.heap P ps') (s.heap.objs.size + 1) s₂ r s') ?_ q.length ⟨q, rfl, hlq, fun _ h => h, _, _, _, _, rfl, F3, rfl⟩ (by assumption) fun s' _ h => Hold.mk ⟨rfl, h⟩
        clear F3 N2
        rintro n _ ⟨p', rfl, hl', hcc, h₄, tk₄, m₄, t₄, rfl, F4, q4⟩ ht4
        have N2 : News (regrown s.heap P ps') (s.heap.objs.size + 1) h₄ [] := News.nil
        replace F4 := frNames [(Str.ofString "platform", .str p' t₄)] F4 (List.forall_mem_cons.mpr ⟨q4, List.forall_mem_nil _⟩)
        clear q4
        simp only [kstB] at F4
        dsimp only at ht4
        k_steps
        · have h0 : p'.length ≠ 0 := by intro e; rename (↑p'.length : Int) ≠ 0 => h9; exact h9 (by rw [e]; rfl)
          exact Hold.mk (.inl ⟨by first | exact rfl | exact trivial, _, slice_lt h0, _, rfl, Nat.le_trans (Txt.slice_le _ _ _) hl', fun r hr => hcc r (.step h0 (eq_of_beq (by assumption)) hr), _, _, _, _, rfl, by assumption, rfl⟩)
        · have h0 : p'.length ≠ 0 := by intro e; rename (↑p'.length : Int) ≠ 0 => h9; exact h9 (by rw [e]; rfl)
          exact Hold.mk ⟨p', hcc p' (.other h0 (ne_of_beq_false (by assumption))), _, _, _, _, rfl, F4, rfl⟩
        · have h0 : p'.length = 0 := by rename (↑p'.length : Int) = 0 => h9; omega
          exact Hold.mk ⟨p', hcc p' (.empty h0), _, _, _, _, rfl, F4, rfl⟩
      · clear F3 N2
        rintro _ tk₃ ⟨r, hr, h₃, tk', m', t', rfl, F3, q3⟩
        have N2 : News (regrown s.heap P ps') (s.heap.objs.size + 1) h₃ [] := News.nil
        replace F3 := frNames [(Str.ofString "platform", .str r t')] F3 (List.forall_mem_cons.mpr ⟨q3, List.forall_mem_nil _⟩)
        clear q3
        simp only [kstB] at F3
        k_steps
        exact hR' _ _ _ _ rfl rfl F3 ⟨q, hcq, hr⟩
end Mine
end
section -- LB
set_option maxRecDepth 100000
set_option maxHeartbeats 1000000
namespace Mine
theorem based_regrown {h h' : Heap} {c P : Addr} {ps' : Array Value} (B : Based h h c P #[]) (hc' : h'.IsCode c P ps') : Based h (regrown h P ps') c P ps' := by
  have hcP : c ≠ P := by obtain ⟨_, _, _, _, _, _, _, _, _, _, _, _, _, _, _, _, _, _, _, _, x⟩ := B.code; exact x
  have hself : (regrown h P ps').get? P = some { cls := .none, data := .fields ps' } := Heap.get?_update_self _ B.tab.2 rfl
  have hoth : ∀ b, b ≠ P → (regrown h P ps').get? b = h.get? b := fun b hb => Heap.get?_update_other _ _ (Ne.symm hb)
  have htab' : (regrown h P ps').TableAt c P ps' := let ⟨⟨o, vs, e, r⟩, _⟩ := B.tab; ⟨⟨o, vs, (hoth c hcP).trans e, r⟩, hself⟩
  have hcode' : (regrown h P ps').IsCode c P ps' := by
    obtain ⟨o, vs, file, tf, flags, tg, inF, text, tt, op, ho, r1, r2, r3, r4, r5, r6, _, _, _, r9⟩ := B.code
    obtain ⟨o', vs', file', tf', flags', tg', inF', text', tt', op', ho', _, _, _, _, _, _, hop', hpd', htr', _⟩ := hc'
    exact ⟨o, vs, file, tf, flags, tg, inF, text, tt, _, (hoth c hcP).trans ho, r1, r2, r3, r4, r5, r6, hself, rfl, htr', r9⟩
  have e0 : (#[] : Array Value) ++ ps' = ps' := by simp
  refine ⟨B.old.step_table (more := ps') B.tab B.tab (by rw [e0]; exact htab') (fun b o hb e => (hoth b hb).trans e) B.notStatics, ⟨(Heap.SameBut.update h P _).1, fun b hb => hoth b hb⟩, hcode', htab', ⟨#[], B.tab⟩, B.notStatics⟩
/-- what the law's base bears, whatever the table of _platform's code holds -/
structure Bs (w : World) (mg mb : Str → Option Value) (h : Heap) (P : Addr) (bm : Addr) (ob : Obj) : Prop where
  X : (hd.heap_39 w.params).In h
  T : TopRead hd.view_39 (looseW hd.view_39 []) mg mb h
  GL : Glob 0 mg mb (List.map itemOf (recsOf hd.view_39)) (scalarsOf [] ++ constsW hd.view_39) [] (namesW hd.view_39 []) h
  M : BMod h mainGlobals mg bm ob
  B : Based h h 27 P #[]
section
variable {w : World} {mg mb : Str → Option Value} {h h' : Heap} {P bm : Addr} {ob : Obj} {ps' : Array Value}
theorem Bs.x (b : Bs w mg mb h P bm ob) : (hd.heap_39 w.params).In (regrown h P ps') := kb_in_regrown b.B b.X b.T.g (by rfl)
theorem Bs.t (b : Bs w mg mb h P bm ob) : TopRead hd.view_39 (looseW hd.view_39 []) mg mb (regrown h P ps') := by
  obtain ⟨mc, h1, h2⟩ := b.T.nolimit
  exact ⟨LGe.ns_regrown b.B b.T.g, LGe.ns_regrown b.B b.T.b, ⟨mc, LGe.ns_regrown b.B h1, h2⟩, b.T.builtins, b.T.free⟩
theorem Bs.gl (b : Bs w mg mb h P bm ob) : Glob 0 mg mb (List.map itemOf (recsOf hd.view_39)) (scalarsOf [] ++ constsW hd.view_39) [] (namesW hd.view_39 []) (regrown h P ps') := Glob.regrown b.GL b.B
theorem Bs.m (b : Bs w mg mb h P bm ob) : BMod (regrown h P ps') mainGlobals mg bm ob := b.M.regrown b.B
theorem Bs.b (b : Bs w mg mb h P bm ob) (hc : h'.IsCode 27 P ps') : Based h (regrown h P ps') 27 P ps' := based_regrown b.B hc
end
theorem fr_regrow {h hx : Heap} {P L : Addr} {m : Str → Option Value} {ps : Array Value} (B : Based h h 27 P #[]) (F : Fr h L hx m) (ht : hx.TableAt 27 P ps) : Fr (regrown h P ps) L hx m :=
  ⟨F.ns, fun b o e => by
    by_cases hb : b = P
    · subst hb
      rw [show (regrown h b ps).get? b = some { cls := .none, data := .fields ps } from Heap.get?_update_self _ B.tab.2 rfl] at e
      cases e; exact ht.2
    · rw [show (regrown h P ps).get? b = h.get? b from Heap.get?_update_other _ _ (Ne.symm hb)] at e
      exact F.keep b o e, Nat.le_trans (Nat.le_of_eq (Heap.SameBut.update h P _).1) F.above⟩
/-- over a called _platform -/
theorem fr_over {h hx hy : Heap} {P L : Addr} {m : Str → Option Value} {ps ps' : Array Value} (B : Based h h 27 P #[]) (F : Fr (regrown h P ps) L hx m) (hk : ∀ b o, b ≠ P → hx.get? b = some o → hy.get? b = some o) (ht : hy.TableAt 27 P ps') : Fr (regrown h P ps') L hy m := by
  have hPL : L ≠ P := Nat.ne_of_gt (Nat.lt_of_lt_of_le (Heap.lt_size B.tab.2) (Nat.le_trans (Nat.le_of_eq (Heap.SameBut.update h P _).1.symm) F.above))
  refine ⟨F.ns.at' fun o e => hk _ o hPL e, fun b o e => ?_, Nat.le_trans (Nat.le_of_eq ((Heap.SameBut.update h P _).1.trans (Heap.SameBut.update h P _).1.symm)) F.above⟩
  by_cases hb : b = P
  · subst hb
    rw [show (regrown h b ps').get? b = some { cls := .none, data := .fields ps' } from Heap.get?_update_self _ B.tab.2 rfl] at e
    cases e; exact ht.2
  · rw [show (regrown h P ps').get? b = h.get? b from Heap.get?_update_other _ _ (Ne.symm hb)] at e
    exact hk b o hb (F.keep b o ((Heap.get?_update_other _ _ (Ne.symm hb)).trans e))
theorem regrown_none {h : Heap} {P a : Addr} {ps ps' : Array Value} (B : Based h h 27 P #[]) (e : (regrown h P ps).get? a = none) : (regrown h P ps').get? a = none ∧ a ≠ P := by
  have hb : a ≠ P := fun q => by
    subst q
    rw [show (regrown h a ps).get? a = some { cls := .none, data := .fields ps } from Heap.get?_update_self _ B.tab.2 rfl] at e
    cases e
  refine ⟨?_, hb⟩
  rw [show (regrown h P ps).get? a = h.get? a from Heap.get?_update_other _ _ (Ne.symm hb)] at e
  exact (show (regrown h P ps').get? a = h.get? a from Heap.get?_update_other _ _ (Ne.symm hb)).trans e
theorem news_over {h hx hy : Heap} {P L : Addr} {news : List (Addr × Obj)} {ps ps' : Array Value} (B : Based h h 27 P #[]) (N : News (regrown h P ps) L hx news) (hk : ∀ b o, b ≠ P → hx.get? b = some o → hy.get? b = some o) : News (regrown h P ps') L hy news :=
  fun p hp => let q := N p hp; ⟨hk _ _ (regrown_none (ps' := ps') B q.2.2).2 q.1, q.2.1, (regrown_none B q.2.2).1⟩
end Mine
end
section -- LL
set_option maxRecDepth 100000
set_option maxHeartbeats 1000000
namespace Mine
abbrev pos13' : Pos := { line := 13, col := 24, endLine := 13, endCol := 62 }
structure Fa (h : Heap) (P : Addr) (os : OsState) (ps : Array Value) (s : Shared) : Prop where
  B : Based h (regrown h P ps) 27 P ps
  f : codeAmong pos13' ps.toList = none ∨ Found pos13' ps
  g : AllBare s.gens
  o : s.os = os
  t : 1 ≤ s.toks
section
variable {prog : Program} {w : World} {A : Around} {s : Shared} {h : Heap} {P : Addr} {os : OsState} {env : Env}
theorem law_loop {R : Result → Shared → Prop} {x : Str} {px : Pos} {body : List Stmt} {I : Addr} {n : Nat} {ps₀ : Array Value} {m₀ : Str → Option Value} {nps : List (Str × Value)} {nw : List (Addr × Obj)}
    (B0 : Based h h 27 P #[]) (hh : A.handled = none) (hx : env.kindOf x = some .local) (hp : (env.scope.kind == .class || (env.scope.kind == .module && env.locals != env.globals)) = false) (hxn : (nps.map (·.1)).contains x = false)
    (fa : Fa h P os ps₀ s) (F : Fr (regrown h P ps₀) env.locals s.heap m₀) (hm : ∀ p ∈ nps, m₀ p.1 = some p.2) (N : News (regrown h P ps₀) env.locals s.heap nw) (hI : IsRangeIter s.heap I 0 n 1) (hIb : h.get? I = none) (hIL : I ≠ env.locals) (hIn : ∀ p ∈ nw, p.1 ≠ I)
    (turn : ∀ i ps m s' t oI, i < n → Fa h P os ps s' → Fr (regrown h P ps) env.locals s'.heap m → (∀ p ∈ (x, Value.int (i : Nat) t) :: nps, m p.1 = some p.2) → News (regrown h P ps) env.locals s'.heap ((I, oI) :: nw) →
      wpAny (model prog w) A (execs body env) (fun f s₃ => Hold (f = .next ∧ ∃ ps' m', Fa h P os ps' s₃ ∧ Fr (regrown h P ps') env.locals s₃.heap m' ∧ (∀ p ∈ nps, m' p.1 = some p.2) ∧ News (regrown h P ps') env.locals s₃.heap ((I, oI) :: nw))) (fun _ _ => False) s')
    (done : ∀ ps m s', Fa h P os ps s' → Fr (regrown h P ps) env.locals s'.heap m → (∀ p ∈ nps, m p.1 = some p.2) → News (regrown h P ps) env.locals s'.heap nw → R (.ok .next) s') :
    codeAny (model prog w) A (.forLoop (.Name x px) (.ref I) body [] env) R s := by
  have hIP : I ≠ P := fun e => by subst e; rw [B0.tab.2] at hIb; cases hIb
  have baseI : ∀ ps, (regrown h P ps).get? I = none := fun ps => (Heap.get?_update_other _ _ (Ne.symm hIP)).trans hIb
  refine codeAny_forLoop (fun k s' => ∃ i ps m, i ≤ n ∧ k = n + 1 - i ∧ Fa h P os ps s' ∧ Fr (regrown h P ps) env.locals s'.heap m ∧ (∀ p ∈ nps, m p.1 = some p.2) ∧ News (regrown h P ps) env.locals s'.heap nw ∧ IsRangeIter s'.heap I ((i : Nat) : Int) ((n : Int) - (i : Nat)) 1) ?_ (n + 1)
    ⟨0, ps₀, m₀, Nat.zero_le _, rfl, fa, F, hm, N, by simpa using hI⟩
  rintro k s' ⟨i, ps, m, hi, rfl, fa', F', hm', N', hI'⟩
  have over : ∀ h₁ : Heap, (∀ b o, b ∉ [I] → s'.heap.get? b = some o → h₁.get? b = some o) → Fr (regrown h P ps) env.locals h₁ m ∧ News (regrown h P ps) env.locals h₁ nw := fun h₁ hk => by
    have hk' : ∀ b o, b ≠ I → s'.heap.get? b = some o → h₁.get? b = some o := fun b o hb e => hk b o (fun q => hb (List.mem_singleton.mp q)) e
    refine ⟨⟨F'.ns.at' fun o e => hk' _ o (Ne.symm hIL) e, fun b o e => hk' b o (fun q => by rw [q, baseI] at e; cases e) (F'.keep b o e), F'.above⟩, fun p hp => ⟨hk' _ _ (hIn p hp) (N' p hp).1, (N' p hp).2⟩⟩
  have W := Walks.range (prog := prog) (w := w) hh I 0 1 n
  have st : IsRangeIter s'.heap I (0 + (i : Nat) * 1) ((n : Int) - (i : Nat)) 1 := by simpa using hI'
  refine wpAny_with_toks fa'.t ?_
  by_cases hlt : i < n
  · refine W.item i s' _ _ hlt st fun v h₁ tk₁ hv st₁ hk₁ htk₁ => ?_
    obtain ⟨t, rfl⟩ := hv
    obtain ⟨F1, N1⟩ := over h₁ hk₁
    refine wpAny_assign_Name (wpAny_storeName_local hx F1.ns (fun h₂ hn₂ hs₂ => ?_) hp)
    have F2 := F1.set hn₂ hs₂
    have N2 := N1.set hs₂
    have st₂ : IsRangeIter h₂ I (0 + ((i + 1 : Nat) : Int) * 1) ((n : Int) - ((i + 1 : Nat) : Int)) 1 := (hs₂.2 I hIL).trans st₁
    have ev : (0 + (i : Int) * 1 : Int) = (i : Int) := by omega
    rw [ev] at F2
    obtain ⟨oI, hoI⟩ : ∃ o, h₂.get? I = some o := ⟨_, st₂⟩
    have eoI := Option.some.inj (hoI.symm.trans st₂)
    refine wpAny_mono (turn i ps _ _ t oI hlt ⟨fa'.B, fa'.f, fa'.g, fa'.o, Nat.le_succ_of_le htk₁⟩ F2 ?_ ?_) (fun f s₃ q => ?_) fun _ _ e => e.elim
    · intro p hp'
      rcases List.mem_cons.mp hp' with rfl | hp'
      · exact if_pos rfl
      · have hne : p.1 ≠ x := by
          intro e
          have : (nps.map (·.1)).contains x = true := List.contains_iff_mem.mpr (List.mem_map.mpr ⟨p, hp', e⟩)
          rw [hxn] at this; cases this
        exact (if_neg hne).trans (hm' p hp')
    · intro p hp'
      rcases List.mem_cons.mp hp' with rfl | hp'
      · exact ⟨hoI, hIL, baseI _⟩
      · exact N2 p hp'
    · obtain ⟨⟨rfl, ps', m', fa₃, F3, hm3, N3⟩⟩ := q
      refine ⟨n + 1 - (i + 1), by omega, i + 1, ps', m', hlt, rfl, fa₃, F3, hm3, fun p hp' => N3 p (.tail _ hp'), ?_⟩
      have q3 := (N3 _ (.head _)).1
      rw [eoI] at q3
      simpa using q3
  · have hin : i = n := by omega
    subst hin
    refine W.done s' _ _ st fun h₁ tk₁ hk₁ htk₁ => wpAny_execs_nil ?_
    obtain ⟨F1, N1⟩ := over h₁ hk₁
    exact done ps m _ ⟨fa'.B, fa'.f, fa'.g, fa'.o, htk₁⟩ F1 hm' N1
end
end Mine
end
section -- LW
set_option maxRecDepth 100000
set_option maxHeartbeats 8000000
namespace Mine
def Cl.tell (c : Cl) : Str := Mine.tell c.wh c.ln c.nm
theorem tell_ok {c : Cl} (h : ClOk c) : Pr c.tell ∧ c.tell.length ≤ 700 := by
  have hll := lineTxt_len h.l0 h.l1
  have hs := Txt.slice_le c.nm (some 1) (some (-1))
  have hw := h.wl
  have hn := h.nl
  have c1 : (Str.ofString "{").length = 1 := rfl
  have c2 : (Str.ofString "}").length = 1 := rfl
  have c3 : (Str.ofString ":").length = 1 := rfl
  have c4 : (Str.ofString "(").length = 1 := rfl
  have c5 : (Str.ofString ")").length = 1 := rfl
  unfold Cl.tell Mine.tell
  split
  · split
    · split
      · exact ⟨((pr_of (by decide +kernel)).append (h.n.slice _ _)).append (pr_of (by decide +kernel)), by rw [Str.length_append, Str.length_append]; omega⟩
      · exact ⟨h.n, by omega⟩
    · exact ⟨h.n, by omega⟩
  · exact ⟨((((h.w.append (pr_of (by decide +kernel))).append (pr_line h.l0 h.l1)).append (pr_of (by decide +kernel))).append h.n).append (pr_of (by decide +kernel)), by
      rw [Str.length_append, Str.length_append, Str.length_append, Str.length_append, Str.length_append]; omega⟩
theorem ClIn.at {h₀ h : Heap} {L : Addr} {ts : List (Addr × Obj)} {v : Value} {c : Cl} (N : News h₀ L h ts) (x : ClIn ts v c) : ClAt h v c :=
  let ⟨t, a, b, d, n, e, g⟩ := x; ⟨t, a, b, d, n, e, (N _ g).1⟩
theorem ClAt.one {h : Heap} {v : Value} {c d : Cl} (x : ClAt h v c) (y : ClAt h v d) : c = d := by
  obtain ⟨t, u1, u2, u3, n, rfl, g⟩ := x
  obtain ⟨t', v1, v2, v3, n', e, g'⟩ := y
  cases e
  rw [g] at g'
  have q := Option.some.inj g'
  injection q with _ _ q _
  injection q with q _
  have q1 : [Value.str c.wh u1, .int c.ln u2, .str c.nm u3] = [Value.str d.wh v1, .int d.ln v2, .str d.nm v3] := by simpa using congrArg Array.toList q
  injection q1 with a q1
  injection q1 with b q1
  injection q1 with e _
  injection a with a _
  injection b with b _
  injection e with e _
  cases c; cases d; simp_all
theorem told_strs {h : Heap} {vs ys : List Value} {cs : List Cl} (hp : Paired (fun v y => ∃ c u, ClAt h v c ∧ y = Value.str c.tell u) vs ys) : ClsAt h vs cs → StrsAre ys (cs.map Cl.tell) := by
  induction hp generalizing cs with
  | nil =>
    intro hc
    have : cs = [] := List.eq_nil_of_length_eq_zero hc.1.symm
    subst this; exact .nil
  | @cons v y vs ys hv _ ih =>
    intro hc
    cases cs with
    | nil => exact absurd hc.1 (by simp)
    | cons c r =>
      obtain ⟨d, u, hd, rfl⟩ := hv
      obtain ⟨c', hc', ha⟩ := hc.2 0 v rfl
      have e1 : c = c' := by simpa using hc'
      subst e1
      have e2 := hd.one ha
      subst e2
      exact .cons _ _ (ih ⟨by simpa using hc.1, fun i w hw => by simpa using hc.2 (i + 1) w hw⟩)
theorem slice_two {items : Array Value} {i : Nat} (h : i ≤ items.size) : (slicePick items (some (i : Int)) (some ((i : Int) + 2)) none).toList = (items.toList.drop i).take 2 := by
  have e : sliceBounds (some (i : Int)) (some ((i : Int) + 2)) none items.size = ((i : Int), ((min (i + 2) items.size : Nat) : Int), 1) := by
    simp only [sliceBounds, Option.getD_none]
    have h1 : ¬ ((i : Int) < 0) := by omega
    have h2 : ¬ ((i : Int) + 2 < 0) := by omega
    simp only [h1, h2, if_false, show (1 : Int) > 0 by decide, if_true]
    congr 1
    · omega
    · congr 1; omega
  unfold slicePick
  rw [e]
  simp only [sliceRange_one, pick_run]
  show List.take (min (i + 2) items.size - i) (items.toList.drop i) = _
  by_cases hc : i + 2 ≤ items.size
  · congr 1; omega
  · rw [List.take_of_length_le (by rw [List.length_drop, Array.length_toList]; omega), List.take_of_length_le (by rw [List.length_drop, Array.length_toList]; omega)]
theorem strs_take : ∀ {vs : List Value} {ys : List Str} (k : Nat), StrsAre vs ys → StrsAre (vs.take k) (ys.take k)
  | _, _, 0, _ => .nil
  | _, _, _ + 1, .nil => .nil
  | _, _, k + 1, .cons _ _ h => .cons _ _ (strs_take k h)
theorem cls_take {ts : List (Addr × Obj)} : ∀ {vs : List Value} {ys : List Cl} (k : Nat), ClsIn ts vs ys → ClsIn ts (vs.take k) (ys.take k)
  | _, _, 0, _ => .nil
  | _, _, _ + 1, .nil => .nil
  | _, _, k + 1, .cons a h => .cons a (cls_take k h)
theorem cls_drop {ts : List (Addr × Obj)} : ∀ {vs : List Value} {ys : List Cl} (k : Nat), ClsIn ts vs ys → ClsIn ts (vs.drop k) (ys.drop k)
  | _, _, 0, h => h
  | _, _, _ + 1, .nil => .nil
  | _, _, k + 1, .cons _ h => cls_drop k h
theorem cls_get {ts : List (Addr × Obj)} {vs : List Value} {ys : List Cl} (h : ClsIn ts vs ys) : ∀ {i : Nat} {c : Cl}, ys[i]? = some c → ∃ v, vs[i]? = some v ∧ ClIn ts v c := by
  induction h with
  | nil => intro i c e; simp at e
  | cons a _ ih =>
    intro i c e
    cases i with
    | zero => cases e; exact ⟨_, rfl, a⟩
    | succ i => exact ih (by simpa using e)
section
variable {prog : Program} {w : World} {A : Around} {E : Value → Shared → Prop} {s : Shared}
theorem item_at {value slice : PySem.Expr} {l : Addr} {items : Array Value} {i : Nat} {u : Tok} {v : Value} {Q : Value → Shared → Prop} (hl : s.heap.IsList l items) (hi : i ≤ 1000) (hx : items[i]? = some v) (h : Q v s)
    (hs : subscripted slice false (.ref l) (.int (i : Int) u) = operate [.ref l, .int (i : Int) u] (getItem (.ref l) (.int (i : Int) u)) := by with_unfolding_all rfl) :
    wpAny (model prog w) A (subscriptTail value slice (.ref l) (.int (i : Int) u)) Q E s :=
  tail_any hl.typeIs slot_list_getitem.lookup (wpAny_getItem_list hl (by omega) (by omega) (by simpa using hx) h) hs
end
theorem call_platform {w : World} {mg mb : Str → Option Value} {A : Around} {E : Value → Shared → Prop} {s : Shared} {h : Heap} {L P bm : Addr} {ob : Obj} {os : OsState} {ps : Array Value} {m : Str → Option Value} {news : List (Addr × Obj)} {Q : Value → Shared → Prop} {vals : List Value} {xs : List Str}
    (b : Bs w mg mb h P bm ob) (fa : Fa h P os ps s) (F : Fr (regrown h P ps) L s.heap m) (N : News (regrown h P ps) L s.heap news)
    (hroom : A.depth + 30 < recursionLimit) (hu : A.units + 120 < cLine) (hh : A.handled = none) (hv : StrsAre vals xs) (hlen : xs.length ≤ 20) (hxl : ∀ x ∈ xs, x.length ≤ 1000)
    (hq : ∀ s' t' r ps', PlatR xs r → Fa h P os ps' s' → Fr (regrown h P ps') L s'.heap m → News (regrown h P ps') L s'.heap news → Q (.str r t') s') :
    wpAny (model PySem.Challenge.rw_mj0053_01.row.prog w) A (call (.ref 28) vals) Q E s := by
  refine wpAny_with_toks fa.t (wpAny_call (law_platform (b.x.keeps F.keep) (b.t.keeps F.keep) (b.gl.keeps F.keep) (b.m.keeps F.keep) (fa.B.code.keeps F.keep) (fa.B.tab.keeps F.keep) fa.B.notStatics fa.f fa.g hroom hu hh fa.t hv hlen hxl ?_))
  intro s' t' r ps' hp hk hc ht hf hmore hb ho htk
  exact hq s' t' r ps' hp ⟨b.b hc, .inr hf, hb, ho.trans fa.o, htk⟩ (fr_over b.B F hk ht) (news_over b.B N hk)
theorem call_label {w : World} {mg mb : Str → Option Value} {A : Around} {E : Value → Shared → Prop} {s : Shared} {h : Heap} {L P bm : Addr} {ob : Obj} {ps : Array Value} {m : Str → Option Value} {news ts : List (Addr × Obj)} {Q : Value → Shared → Prop} {l : Addr} {items : Array Value} {n : Nat} {cs : List Cl}
    (b : Bs w mg mb h P bm ob) (F : Fr (regrown h P ps) L s.heap m) (N : News (regrown h P ps) L s.heap news)
    (hroom : A.depth + 30 < recursionLimit) (hu : A.units + 120 < cLine) (hh : A.handled = none) (hl : (l, W.listOf items n) ∈ news) (hts : ∀ p ∈ ts, p ∈ news) (hcl : ClsIn ts items.toList cs) (hok : ∀ c ∈ cs, ClOk c) (hlen : cs.length ≤ 20)
    (hq : ∀ h' tk t', Fr (regrown h P ps) L h' m → News (regrown h P ps) L h' news → s.toks ≤ tk → Q (.str (label cs) t') { s with heap := h', toks := tk }) :
    wpAny (model PySem.Challenge.rw_mj0053_01.row.prog w) A (call (.ref 61) [.ref l]) Q E s := by
  refine wpAny_with_toks (Nat.le_refl s.toks) (wpAny_call (law_label (b.x.keeps F.keep) (b.t.keeps F.keep) (b.gl.keeps F.keep) hroom hu hh (News.get N hl) (clsAt_of (KStt.news_of N hts) hcl) hok hlen ?_))
  intro h' tk t' hk htk
  exact hq h' tk t' (F.grownK hk) (N.grown hk) htk
theorem call_told {w : World} {mg mb : Str → Option Value} {A : Around} {E : Value → Shared → Prop} {s : Shared} {h : Heap} {L P bm : Addr} {ob : Obj} {ps : Array Value} {m : Str → Option Value} {news ts : List (Addr × Obj)} {Q : Value → Shared → Prop} {v : Value} {c : Cl} {u : Tok}
    (h1 : ∀ c, ClOk c → isTold c.wh c.ln c.nm c.tell = true)
    (b : Bs w mg mb h P bm ob) (F : Fr (regrown h P ps) L s.heap m) (N : News (regrown h P ps) L s.heap news)
    (hroom : A.depth + 50 < recursionLimit) (hu : A.units + 120 < cLine) (hh : A.handled = none) (hts : ∀ p ∈ ts, p ∈ news) (hcl : ClIn ts v c) (hok : ClOk c)
    (hq : ∀ h' tk, Fr (regrown h P ps) L h' m → News (regrown h P ps) L h' news → s.toks ≤ tk → Q (.bool true) { s with heap := h', toks := tk }) :
    wpAny (model PySem.Challenge.rw_mj0053_01.row.prog w) A (call (.ref 42) [v, .str c.tell u]) Q E s := by
  obtain ⟨t, u1, u2, u3, nn, rfl, hget⟩ := ClIn.at (KStt.news_of N hts) hcl
  have ht := tell_ok hok
  refine wpAny_with_toks (Nat.le_refl s.toks) (wpAny_call (law_is_told (b.x.keeps F.keep) (b.t.keeps F.keep) (b.gl.keeps F.keep) hroom (by omega) hh hget hok.w hok.n (Nat.le_trans hok.wl (by omega)) (Nat.le_trans hok.nl (by omega)) hok.l0 hok.l1 (Nat.le_trans ht.2 (by omega)) ht.1 ?_))
  intro h' tk hk htk
  rw [h1 c hok]
  exact hq h' tk (F.grownK hk) (N.grown hk) htk
theorem range_small {n : Nat} (h : n ≤ 15) : Builtin.Range.small 0 (n : Int) 1 = true := by
  have q : ∀ k : Fin 16, Builtin.Range.small 0 ((k.val : Nat) : Int) 1 = true := by decide +kernel
  exact q ⟨n, by omega⟩
theorem range_size {n : Nat} : Builtin.Range.rangeSize 0 (n : Int) 1 = (n : Int) := by
  unfold Builtin.Range.rangeSize
  simp
  omega
theorem law_law (h1 : ∀ c, ClOk c → isTold c.wh c.ln c.nm c.tell = true) (h2 : ∀ cs, (∀ c ∈ cs, ClOk c) → ∀ r, PlatR (cs.map Cl.tell) r → r = label cs)
    {w : World} {mg mb : Str → Option Value} {A : Around} {s : Shared} {R : Result → Shared → Prop} {l : Addr} {items : Array Value} {ns : List Int} {P bm : Addr} {ob : Obj}
    (b : Bs w mg mb s.heap P bm ob) (hg : AllBare s.gens)
    (hroom : A.depth + 80 < recursionLimit) (hu : A.units + 200 < cLine) (hh : A.handled = none)
    (hl : s.heap.IsList l items) (hi : IntsAre items.toList ns) (hlen : items.size ≤ 63)
    (hR : ∀ s', OldK s.heap s'.heap → AllBare s'.gens → s'.os = s.os → R (.ok (.ret (.bool true))) s') :
    codeAny (model PySem.Challenge.rw_mj0053_01.row.prog w) A (.call (.ref 66) ⟨[.ref l], []⟩) R s := by
  have X := b.X
  have T := b.T
  revert X T
  k_fill
  intro X T
  refine' enterF X T.nolimit ?ho ?hcd ?hroom ?hbind ?hloc ?_ ?c2 ?c3 ?c4 ?c5
  case ho => k_is
  case hcd => k_is
  case hroom => omega
  case hbind => exact BindsTo.of_eq rfl
  case hloc => exact locs rfl
  case c2 => exact rfl
  case c3 => exact rfl
  case c4 => exact rfl
  case c5 => decide
  intro h₁ tk₁ F N
  try k_fold
  refine exec_step (fun s' => ∃ h' tk' m' lc its n cs ts, s' = { s with heap := h', toks := tk' } ∧ 1 ≤ tk' ∧ Fr s.heap s.heap.objs.size h' m' ∧ m' (Str.ofString "calls") = some (.ref lc) ∧ News s.heap s.heap.objs.size h' ((lc, W.listOf its n) :: ts) ∧
    (∀ p ∈ ts, p.1 ≠ lc) ∧ ClsIn ts its.toList cs ∧ (∀ c ∈ cs, ClOk c) ∧ 1 ≤ cs.length ∧ cs.length ≤ 15) ?_ ?_
  · k_steps
    refine wpAny_call (law_calls (X.keeps F.keep) (T.keeps F.keep) (b.GL.keeps F.keep) (by simp only [depth_deeper]; omega) (by simp only [units_deeper]; omega) hh (hl.at fun o e => F.keep _ _ e) hi hlen ?_)
    intro h' tk lc its n cs ts hk hf hget hcl hts hok hc1 hc15
    dsimp only at hk hf
    have F2 := F.grownK hk
    have N2 : News s.heap s.heap.objs.size h' ((lc, W.listOf its n) :: ts) := by
      have q := (news_new F N hk hf hget).1
      intro p hp
      rcases List.mem_cons.mp hp with rfl | hp
      · exact q _ (.head _)
      · have q2 := hts p hp
        dsimp only at q2
        exact (news_new (news := []) F News.nil hk q2.2.1 q2.1).1 p (.head _)
    clear F N
    dsimp only
    k_steps
    rename_i F3 N3
    exact Hold.mk ⟨by first | exact rfl | exact trivial, _, _, _, lc, its, n, cs, ts, rfl, Nat.succ_le_succ (Nat.zero_le _), F3, rfl, N3, fun p hp => (hts p hp).2.2, hcl, hok, hc1, hc15⟩
  · clear F N
    rintro _ ⟨h₂, tk₂, m₂, lc, its, n, cs, ts, rfl, ht2, F2, q2, N2, hts, hcl, hok, hc1, hc15⟩
    have F3 := frNames [(Str.ofString "calls", .ref lc)] F2 (List.forall_mem_cons.mpr ⟨q2, List.forall_mem_nil _⟩)
    clear F2 q2
    simp only [kstB] at F3
    refine exec_stepT (fun s' => ∃ h' tk' m' lt tys k, s' = { s with heap := h', toks := tk' } ∧ Fr s.heap s.heap.objs.size h' m' ∧ m' (Str.ofString "calls") = some (.ref lc) ∧ m' (Str.ofString "told") = some (.ref lt) ∧
      News s.heap s.heap.objs.size h' ((lt, W.listOf tys k) :: (lc, W.listOf its n) :: ts) ∧ (∀ p ∈ (lc, W.listOf its n) :: ts, p.1 ≠ lt) ∧ StrsAre tys.toList (cs.map Cl.tell)) ht2 ?_ ?_
    · k_steps
      have NT : News s.heap s.heap.objs.size h₂ ts := KStt.news_of N2 fun _ hp => .tail _ hp
      have hca : ClsAt h₂ its.toList cs := clsAt_of NT hcl
      have hzi : its.size ≤ 15 := by have := hca.1; simp only [Array.length_toList] at this; omega
      refine comp_list (fun _ => true) (fun v y => ∃ c u, ClAt h₂ v c ∧ y = Value.str c.tell u) hh (News.isList N2 (.head _)) rfl (N2 _ (.head _)).2.1 F3 N2 (by omega) ?_ ?_ ?_
      · intro C v s₃ m₃ E' _ _ _ _
        exact wpAny_pure ⟨rfl, s₃.heap, s₃.toks, rfl, fun _ _ e => e⟩
      · intro C v s₃ m₃ E' hv _ hn hm hk
        dsimp only at hk
        obtain ⟨i, hi'⟩ := List.getElem?_of_mem hv
        obtain ⟨c, hc, ha⟩ := hca.2 i v hi'
        have hco := hok c (List.mem_of_getElem? hc)
        have hkb : ∀ b o, s.heap.get? b = some o → s₃.heap.get? b = some o := fun b o e => hk b o (F3.keep b o e)
        refine wpAny_Call_Name_kw ?_
        refine Calls.Name_function_global rfl rfl (Calls.loadGlobal_global (v := .ref 21) (T.g.keeps hkb) (mg_of X T.g (by k_is)) ?_) (by decide)
        refine callWith_K (K := hd.heap_39 w.params) X (by k_is) ?_
        walk1
        refine wpAny_Name (wpAny_loadName_local rfl rfl hn hm ?_) (by decide)
        walk1
        obtain ⟨t, u1, u2, u3, nn, rfl, hget⟩ := id ha
        refine ⟨X.keeps hkb, wpAny_call (fss (X.keeps hkb) (T.keeps hkb) (b.GL.keeps hkb) (by simp only [depth_deeper]; omega) (by simp only [units_deeper]; omega) hh (hk _ _ hget) hco.w.ok (Nat.le_trans hco.wl (by omega)) (Nat.le_trans hco.nl (by omega)) hco.l0 hco.l1 ?_)⟩
        intro h' tk t' hk'
        exact ⟨⟨c, t', ha, rfl⟩, h', tk, rfl, hk'⟩
      · intro D h' tk' ys nn F4 N4 hne hG
        have eft : its.toList.filter (fun _ => true) = its.toList := List.filter_eq_self.mpr fun _ _ => rfl
        rw [eft] at hG
        have hst := told_strs hG hca
        change Fr s.heap s.heap.objs.size h' _ at F4
        change News s.heap s.heap.objs.size h' _ at N4
        dsimp only
        k_steps
        exact Hold.mk ⟨by first | exact rfl | exact trivial, _, _, _, D, ys, nn, rfl, F4, rfl, rfl, N4, hne, hst⟩
    · clear F3 N2
      rintro _ ht3 ⟨h₃, tk₃, m₃, lt, tys, k, rfl, F3, q1, q2, N3, hlt, hst⟩
      dsimp only at ht3
      have hzi : its.size = cs.length := by have := hcl.length; simp only [Array.length_toList] at this; exact this
      have hPn : ∀ a, s.heap.get? a = none → (regrown s.heap P #[]).get? a = none := fun a e => (Heap.get?_update_other _ _ (fun q => by rw [← q, b.B.tab.2] at e; cases e)).trans e
      have FR := fr_regrow b.B F3 (b.B.tab.keeps F3.keep)
      have NR : News (regrown s.heap P #[]) s.heap.objs.size h₃ ((lt, W.listOf tys k) :: (lc, W.listOf its n) :: ts) := fun p hp => ⟨(N3 p hp).1, (N3 p hp).2.1, hPn _ (N3 p hp).2.2⟩
      have F4 := frNames [(Str.ofString "calls", .ref lc), (Str.ofString "told", .ref lt)] FR (List.forall_mem_cons.mpr ⟨q1, List.forall_mem_cons.mpr ⟨q2, List.forall_mem_nil _⟩⟩)
      clear F3 N3 q1 q2 FR
      simp only [kstB] at F4
      have X' := b.x (ps' := #[])
      have T' := b.t (ps' := #[])
      clear X T
      refine wpAny_execs_cons ?_
      refine wpAny_For ?_
      refine wpAny_with_toks (n := 1) ht3 ?_
      k_steps
      rename_i h₄ tk₄ r1 r2 r3 hr F5 N5 hk5 ht4
      dsimp only at hr hk5 ⊢
      have hsz4 : s.heap.objs.size < h₄.objs.size := F5.ns.lt
      refine wpAny_pyIter_range hr (range_small hc15) ?_
      rw [range_size]
      refine law_loop (n := cs.length) (os := s.os) (ps₀ := #[]) (nps := [(Str.ofString "calls", .ref lc), (Str.ofString "told", .ref lt)]) (nw := (lt, W.listOf tys k) :: (lc, W.listOf its n) :: ts) b.B hh rfl rfl rfl ⟨b.b (b.B.code), .inl rfl, hg, rfl, ?_⟩ (F5.push _) ?_ (N5.grown fun _ _ e => Heap.get?_push_of_some _ e) (Heap.get?_push_size _ rfl) ?_ ?_ ?_ ?_ ?_
      · exact ht4
      · exact List.forall_mem_cons.mpr ⟨rfl, List.forall_mem_cons.mpr ⟨rfl, List.forall_mem_nil _⟩⟩
      · exact Heap.get?_none_of_le (Nat.le_of_lt hsz4)
      · exact Nat.ne_of_gt hsz4
      · intro p hp; exact Nat.ne_of_lt (Heap.lt_size (N5 p hp).1)
      · clear F5 N5
        intro i ps m s' t oI hi' fa' F6 hm6 N6
        have F7 := frNames _ F6 hm6
        clear F6 hm6
        simp only [kstB] at F7
        have X' := b.x (ps' := ps)
        have T' := b.t (ps' := ps)
        have hic : cs[i]? = some cs[i] := List.getElem?_eq_getElem hi'
        obtain ⟨v, hv, hvc⟩ := cls_get hcl hic
        have hoc : ClOk cs[i] := hok _ (List.getElem_mem hi')
        k_steps
        refine item_at (News.isList N6 (.tail _ (.tail _ (.head _)))) (by omega) (by simpa using hv) ?_
        k_steps
        have etl : (List.map Cl.tell cs).getD ((i : Int)).toNat Str.empty = cs[i].tell := by simp [hi']
        rw [etl]
        refine call_told (ts := ts) h1 b F7 N6 (by simp only [depth_deeper]; omega) (by simp only [units_deeper]; omega) hh (fun p hp => .tail _ (.tail _ (.tail _ hp))) hvc hoc ?_
        intro h8 tk8 F8 N8 ht8
        clear F7 N6
        have htz : tys.size = cs.length := by have := hst.len_eq; simp only [Array.length_toList, List.length_map] at this; exact this
        k_steps
        rename_i F9 N9
        have hsl := slice_two (items := tys) (i := i) (by omega)
        have hss : StrsAre (slicePick tys (some (i : Int)) (some ((i : Int) + 2)) none).toList (((cs.drop i).take 2).map Cl.tell) := by
          rw [hsl, List.map_take, List.map_drop]; exact strs_take 2 (strs_drop i hst)
        have hsz : (slicePick tys (some (i : Int)) (some ((i : Int) + 2)) none).size ≤ 2 := by
          rw [← Array.length_toList, hsl, List.length_take]; omega
        have hck : ∀ c ∈ (cs.drop i).take 2, ClOk c := fun c hc => hok c (List.mem_of_mem_drop (List.mem_of_mem_take hc))
        refine star_seq F9 N9 (.head _) rfl rfl (.inl rfl) rfl (Nat.le_trans hsz (by decide)) ?_
        intro h10 F10 N10
        refine ⟨X'.keeps F10.keep, ?_⟩
        refine call_platform (xs := ((cs.drop i).take 2).map Cl.tell) b ⟨fa'.B, fa'.f, fa'.g, fa'.o, Nat.le_trans fa'.t (by dsimp only; omega)⟩ F10 N10 (by simp only [depth_deeper]; omega) (by simp only [units_deeper]; omega) hh (by simpa using hss) (by rw [List.length_map, List.length_take]; omega) (fun x hx => by obtain ⟨c, hc, rfl⟩ := List.mem_map.mp hx; exact Nat.le_trans (tell_ok (hck c hc)).2 (by omega)) ?_
        intro s11 t11 r ps11 hp fa11 F11 N11
        have e := h2 _ hck r hp
        subst e
        have X'' := b.x (ps' := ps11)
        have T'' := b.t (ps' := ps11)
        clear F8 N8 F9 N9 F10 N10 X' T'
        k_steps
        rename_i F12 N12
        have hcl2 : ClsIn ts (slicePick its (some (i : Int)) (some ((i : Int) + 2)) none).toList ((cs.drop i).take 2) := by
          rw [slice_two (items := its) (i := i) (by omega)]; exact cls_take 2 (cls_drop i hcl)
        refine call_label (ts := ts) b F12 N12 (by simp only [depth_deeper]; omega) (by simp only [units_deeper]; omega) hh (.head _) (by intro p hp; repeat (first | exact hp | refine List.Mem.tail _ ?_)) hcl2 hck (by rw [List.length_take]; omega) ?_
        intro h13 tk13 t13 F13 N13 ht13
        clear F11 N11 F12 N12
        k_steps
        · exfalso
          rename_i hx
          simp at hx
        · exact Hold.mk ⟨by first | exact rfl | exact trivial, ps11, _, ⟨fa11.B, fa11.f, fa11.g, fa11.o, Nat.le_trans (by dsimp only; omega) ht13⟩, F13, List.forall_mem_cons.mpr ⟨rfl, List.forall_mem_cons.mpr ⟨rfl, List.forall_mem_nil _⟩⟩, KStt.news_of N13 (by intro p hp; repeat (first | exact hp | refine List.Mem.tail _ ?_))⟩
      · clear F5 N5
        intro ps m s' fa' F6 hm6 N6
        have F7 := frNames _ F6 hm6
        clear F6 hm6
        simp only [kstB] at F7
        have X' := b.x (ps' := ps)
        have T' := b.t (ps' := ps)
        dsimp only
        have htz : tys.size ≤ 15 := by have := hst.len_eq; simp only [Array.length_toList, List.length_map] at this; omega
        k_steps
        refine star_seq F7 N6 (.head _) rfl rfl (.inl rfl) rfl (Nat.le_trans htz (by decide)) ?_
        intro h8 F8 N8
        refine ⟨X'.keeps F8.keep, ?_⟩
        refine call_platform (xs := cs.map Cl.tell) b ⟨fa'.B, fa'.f, fa'.g, fa'.o, fa'.t⟩ F8 N8 (by simp only [depth_deeper]; omega) (by simp only [units_deeper]; omega) hh (by simpa using hst) (by rw [List.length_map]; omega) (fun x hx => by obtain ⟨c, hc, rfl⟩ := List.mem_map.mp hx; exact Nat.le_trans (tell_ok (hok c hc)).2 (by omega)) ?_
        intro s9 t9 r ps9 hp fa9 F9 N9
        have e := h2 cs hok r hp
        subst e
        have X'' := b.x (ps' := ps9)
        have T'' := b.t (ps' := ps9)
        clear F8 N8 F7 N6 X' T'
        k_steps
        refine call_label (ts := ts) b F9 N9 (by simp only [depth_deeper]; omega) (by simp only [units_deeper]; omega) hh (.tail _ (.head _)) (fun p hp => .tail _ (.tail _ hp)) hcl hok (by omega) ?_
        intro h10 tk10 t10 F10 N10 ht10
        clear F9 N9
        k_steps
        rw [beq_self_eq_true]
        exact hR _ (fa9.B.finish F10) fa9.g fa9.o
end Mine
end
section -- L1
set_option maxRecDepth 100000
set_option maxHeartbeats 8000000
namespace Mine
theorem main_of (h1 : ∀ c, ClOk c → isTold c.wh c.ln c.nm c.tell = true) (h2 : ∀ cs, (∀ c ∈ cs, ClOk c) → ∀ r, PlatR (cs.map Cl.tell) r → r = label cs) : PySem.Challenge.rw_mj0053_01.Holds := hd (by
  k_fill
  intro w s₀ s₁ mg mb G Y fa o pm cd doc dV kV ho hdat hcd hD hmg hg args vals as hpre hlay hrd hwl hlo
  have KX := kIn_of Y
  have X := (Ground.X G).1
  have V := (Ground.X G).2
  have GL := glob_more (Ground.glob G (by decide +kernel) (by decide +kernel)) V
  refine Ground.open G ?_
  intro T B D TE TW
  obtain ⟨_, _, M⟩ := bmod_of_top T
  have hfa : fa = 66 := by
    have h1 : mg (Str.ofString "law") = some (.ref 66) := mg_of KX T.g (by k_is)
    rw [h1] at hmg
    exact (Value.ref.inj (Option.some.inj hmg)).symm
  subst hfa
  wrow_args hpre hlay hrd hwl hlo
  rename_i ns _ _ _ _ _ _ _ l its _ hL _ _ _ hI _ hc _
  obtain ⟨c, P, hc0, B0⟩ := based_of_top T rfl (mg_of KX T.g (by k_is) : mg (Str.ofString "_platform") = some (.ref 28)) (KX _ _ (by k_is)) rfl
  have hcc : c = 27 := (Value.ref.inj hc0).symm
  subst hcc
  have hz : its.length = ns.length := hI.length
  refine wpAny_call (law_law h1 h2 (P := P) ⟨KX, topRead_of T, GL, M, B0⟩ (AllBare.of_eq hg) (by decide) (by decide) rfl hL (by simpa using hI) (by simp only [List.size_toArray]; omega) ?_)
  intro s' hO hB hos
  refine ⟨.inl ⟨_, .bool true, [], rfl, raisesW_false ?_, .bool true, ?_, unshared_nil⟩, hO, hos, hB⟩
  · wrow_none_raised
  · wrow_post)
end Mine
end
section -- PL1
set_option maxRecDepth 100000
set_option maxHeartbeats 1000000
namespace Mine
def sepc (c : Nat) : Bool := [45, 47, 92, 58, 59, 34, 40, 41].contains c
def mpc (c : Nat) : Nat := if sepc c = true then 45 else if c = 32 then 95 else c
def unk : List Nat := [117, 110, 107, 110, 111, 119, 110]
/-- the words of a text's signs: K done, t under way -/
def scanW (K t : List Nat) : List Nat → List (List Nat)
  | [] => [K ++ t]
  | c :: r => if sepc c = true then (K ++ t) :: scanW [] [] r
    else if unk <:+ (t ++ [mpc c]) then scanW (K ++ (t ++ [mpc c]).take ((t ++ [mpc c]).length - 7)) [] r
    else scanW K (t ++ [mpc c]) r
def j45 : List (List Nat) → List Nat
  | [] => []
  | [x] => x
  | x :: y :: r => x ++ 45 :: j45 (y :: r)
theorem j45_cons (x : List Nat) {r : List (List Nat)} (h : r ≠ []) : j45 (x :: r) = x ++ 45 :: j45 r := by
  cases r with
  | nil => exact absurd rfl h
  | cons y r => rfl
theorem scanW_ne (l : List Nat) : ∀ K t, scanW K t l ≠ [] := by
  induction l with
  | nil => intro K t; simp [scanW]
  | cons c r ih =>
    intro K t
    unfold scanW
    split
    · simp
    · split
      · exact ih _ _
      · exact ih _ _
theorem scanW_cons (K t : List Nat) (c : Nat) (r : List Nat) : scanW K t (c :: r) = if sepc c = true then (K ++ t) :: scanW [] [] r
    else if unk <:+ (t ++ [mpc c]) then scanW (K ++ (t ++ [mpc c]).take ((t ++ [mpc c]).length - 7)) [] r
    else scanW K (t ++ [mpc c]) r := by rw [scanW]
theorem scanW_app {c : Nat} (hc : sepc c = true) (y : List Nat) : ∀ (x K t : List Nat), scanW K t (x ++ c :: y) = scanW K t x ++ scanW [] [] y
  | [], K, t => by rw [List.nil_append, scanW_cons, if_pos hc]; simp [scanW]
  | d :: x, K, t => by
    rw [List.cons_append, scanW_cons, scanW_cons]
    split
    · rw [scanW_app hc y x]; rfl
    · split
      · exact scanW_app hc y x _ _
      · exact scanW_app hc y x _ _
theorem mpc_ne {c : Nat} (h : ¬ sepc c = true) : mpc c ≠ 45 := by
  unfold mpc
  rw [if_neg h]
  split
  · decide
  · rintro rfl; exact h (by decide)
theorem scanW_no45 (l : List Nat) : ∀ K t, 45 ∉ K → 45 ∉ t → ∀ w ∈ scanW K t l, 45 ∉ w := by
  induction l with
  | nil => intro K t hK ht w hw; simp [scanW] at hw; subst hw; simp [hK, ht]
  | cons c r ih =>
    intro K t hK ht w hw
    unfold scanW at hw
    have h' : ¬ sepc c = true → 45 ∉ t ++ [mpc c] := fun h => by
      have := mpc_ne h
      simp [ht]; exact fun e => this e.symm
    split at hw
    · rcases List.mem_cons.mp hw with rfl | hw
      · simp [hK, ht]
      · exact ih [] [] (by simp) (by simp) w hw
    · rename_i hs
      split at hw
      · refine ih _ [] ?_ (by simp) w hw
        intro hm
        rcases List.mem_append.mp hm with hm | hm
        · exact hK hm
        · exact h' hs (List.mem_of_mem_take hm)
      · exact ih K _ hK (h' hs) w hw
theorem Rep.det {a b : List Nat} (ha : a ≠ []) {l s : List Nat} (h : Rep a b l s) : ∀ {l' s' : List Nat}, Rep a b l' s' → l = l' → s = s' := by
  induction h with
  | nil =>
    intro l' s' h' e
    cases h' with
    | nil => rfl
    | hit _ => exact absurd (List.append_eq_nil_iff.mp e.symm).1 ha
    | miss _ _ => cases e
  | @hit r s _ ih =>
    intro l' s' h' e
    cases h' with
    | nil => exact absurd (List.append_eq_nil_iff.mp e).1 ha
    | hit h2 => rw [ih h2 (List.append_cancel_left e)]
    | miss hm _ => exact absurd ⟨r, e⟩ hm
  | @miss c r s hm _ ih =>
    intro l' s' h' e
    cases h' with
    | nil => cases e
    | @hit r2 _ _ => exact absurd ⟨r2, e.symm⟩ hm
    | miss _ h2 => injection e with e1 e2; rw [e1, ih h2 e2]
theorem pre_short {a x y : List Nat} (h : a <+: x ++ y) (hl : a.length ≤ x.length) : a <+: x := List.prefix_of_prefix_length_le h (List.prefix_append x y) hl
theorem pre_45 {t M : List Nat} (h : unk <+: t ++ 45 :: M) : unk <+: t := by
  rcases Nat.lt_or_ge t.length 7 with hl | hl
  · exfalso
    have e := h.getElem (i := t.length) (by show t.length < unk.length; exact hl)
    have e2 : (t ++ 45 :: M)[t.length]'(by simp) = 45 := by simp
    have : (45 : Nat) ∈ unk := by rw [← e2, ← e]; exact List.getElem_mem _
    exact absurd this (by decide)
  · exact pre_short h hl
/-- Rep over the scan -/
theorem scan_rep (l : List Nat) : ∀ K t, (∀ k, ¬ unk <+: t.drop k) → ∃ s, Rep unk [] (t ++ l.map mpc) s ∧ j45 (scanW K t l) = K ++ s := by
  induction l with
  | nil =>
    intro K t ht
    refine ⟨t, ?_, rfl⟩
    rw [List.map_nil, List.append_nil]
    exact Rep.free fun k _ => ht k
  | cons c r ih =>
    intro K t ht
    unfold scanW
    split
    · rename_i hs
      obtain ⟨s, h1, h2⟩ := ih [] [] (by intro k; simp [unk])
      rw [List.nil_append] at h1 h2
      refine ⟨t ++ 45 :: s, ?_, by rw [j45_cons _ (scanW_ne _ _ _), h2, List.append_assoc]⟩
      have em : mpc c = 45 := by unfold mpc; rw [if_pos hs]
      rw [List.map_cons, em]
      have := Rep.skip h1 (u := t ++ [45]) (fun k hk hp => by
        rw [List.length_append, List.length_singleton] at hk
        rw [List.append_assoc, List.singleton_append, List.drop_append_of_le_length (by omega)] at hp
        exact ht k (pre_45 hp))
      rw [List.append_assoc, List.append_assoc, List.singleton_append, List.singleton_append] at this
      exact this
    · rename_i hs
      split
      · rename_i hu
        obtain ⟨p, hp⟩ := hu
        obtain ⟨s, h1, h2⟩ := ih (K ++ (t ++ [mpc c]).take ((t ++ [mpc c]).length - 7)) [] (by intro k; simp [unk])
        rw [List.nil_append] at h1
        have el : (t ++ [mpc c]).take ((t ++ [mpc c]).length - 7) = p := by
          rw [← hp, List.length_append, show unk.length = 7 from rfl, Nat.add_sub_cancel, List.take_left]
        rw [el] at h2
        rw [el]
        refine ⟨p ++ s, ?_, by rw [h2, List.append_assoc]⟩
        have e : t ++ List.map mpc (c :: r) = p ++ (unk ++ List.map mpc r) := by
          rw [List.map_cons, ← List.append_assoc, hp, List.append_assoc, List.singleton_append]
        have hpl : p.length + 7 = t.length + 1 := by
          have := congrArg List.length hp
          rw [List.length_append, List.length_append, show unk.length = 7 from rfl] at this
          exact this
        rw [e]
        have := Rep.skip (Rep.hit h1) (u := p) (fun k hk hq => by
          rw [← e, List.drop_append_of_le_length (by omega)] at hq
          exact ht k (pre_short hq (by rw [List.length_drop]; show 7 ≤ _; omega)))
        rw [List.nil_append] at this
        exact this
      · rename_i hu
        obtain ⟨s, h1, h2⟩ := ih K (t ++ [mpc c]) (fun k hq => by
          have hql := hq.length_le
          rw [List.length_drop, List.length_append, List.length_singleton, show unk.length = 7 from rfl] at hql
          rcases Nat.lt_or_ge t.length (k + 7) with hl | hl
          · refine hu ?_
            have : unk = (t ++ [mpc c]).drop k := hq.eq_of_length (by rw [List.length_drop, List.length_append, List.length_singleton, show unk.length = 7 from rfl]; omega)
            rw [this]; exact List.drop_suffix k _
          · rw [List.drop_append_of_le_length (by omega)] at hq
            exact ht k (pre_short hq (by rw [List.length_drop]; show 7 ≤ _; omega)))
        refine ⟨s, ?_, h2⟩
        rw [List.map_cons]
        rw [List.append_assoc, List.singleton_append] at h1
        exact h1
theorem rep_words {l s : List Nat} (h : Rep unk [] (l.map mpc) s) : s = j45 (scanW [] [] l) := by
  obtain ⟨s', h1, h2⟩ := scan_rep l [] [] (by intro k; simp [unk])
  rw [List.nil_append] at h1 h2
  rw [h2]
  exact h.det (by decide) h1 rfl
/-- rows of hyphens -/
def sq : List Nat → List Nat
  | [] => []
  | c :: r => if c = 45 ∧ r.head? = some 45 then sq r else c :: sq r
theorem rep_head {l s : List Nat} (h : Rep [45, 45] [45] l s) : s.head? = l.head? := by
  cases h <;> rfl
theorem rep_sq {l s : List Nat} (h : Rep [45, 45] [45] l s) : sq s = sq l := by
  induction h with
  | nil => rfl
  | @hit r s h ih =>
    have hh := rep_head h
    show sq (45 :: s) = sq (45 :: 45 :: r)
    rw [show sq (45 :: 45 :: r) = sq (45 :: r) from by rw [sq]; simp]
    rw [sq, sq, hh, ih]
  | @miss c r s hm h ih =>
    rw [sq, sq, rep_head h, ih]
theorem rep_fix {l s : List Nat} (h : Rep [45, 45] [45] l s) : s.length = l.length → sq l = l := by
  induction h with
  | nil => intro _; rfl
  | @hit r s h _ =>
    intro e
    have := h.le (by decide)
    simp at e
    omega
  | @miss c r s hm h ih =>
    intro e
    have e' : s.length = r.length := by simpa using e
    have hn : ¬ (c = 45 ∧ r.head? = some 45) := by
      rintro ⟨rfl, hr⟩
      cases r with
      | nil => cases hr
      | cons d r => simp at hr; subst hr; exact hm ⟨r, rfl⟩
    rw [sq, if_neg hn, ih e']
def rst (l : List Nat) : List Nat := (l.reverse.dropWhile (· == 45)).reverse
theorem rst_nil : rst [] = [] := rfl
theorem rst_hy (l : List Nat) : rst (l ++ [45]) = rst l := by simp [rst]
theorem rst_other (l : List Nat) {c : Nat} (h : c ≠ 45) : rst (l ++ [c]) = l ++ [c] := by simp [rst, h]
theorem rst_app (x : List Nat) {y : List Nat} (h : rst y ≠ []) : rst (x ++ y) = x ++ rst y := by
  unfold rst at *
  rw [List.reverse_append, List.dropWhile_append]
  have : (List.dropWhile (· == 45) y.reverse).isEmpty = false := by
    cases hq : List.dropWhile (· == 45) y.reverse with
    | nil => rw [hq] at h; exact absurd rfl h
    | cons => rfl
  rw [this]; simp
theorem rst_app0 (x : List Nat) {y : List Nat} (h : rst y = []) : rst (x ++ y) = rst x := by
  unfold rst at *
  rw [List.reverse_append, List.dropWhile_append]
  have : (List.dropWhile (· == 45) y.reverse).isEmpty = true := by
    rw [List.reverse_eq_nil_iff] at h; rw [h]; rfl
  rw [this]; simp
theorem rst_no {w : List Nat} (h : 45 ∉ w) : rst w = w := by
  rcases List.eq_nil_or_concat w with rfl | ⟨l, c, rfl⟩
  · rfl
  · rw [List.concat_eq_append] at *; exact rst_other _ fun e => h (by simp [e])
theorem sq_no {w : List Nat} (h : 45 ∉ w) (z : List Nat) : sq (w ++ z) = w ++ sq z := by
  induction w with
  | nil => rfl
  | cons c r ih =>
    have hc : c ≠ 45 := fun e => h (by simp [e])
    rw [List.cons_append, sq, if_neg (fun q => hc q.1), ih (fun q => h (.tail _ q))]; rfl
theorem sq_no' {w : List Nat} (h : 45 ∉ w) : sq w = w := by have := sq_no h []; simpa [sq] using this
theorem nonempty_last {v : List Nat} (hv : v ≠ []) (h : 45 ∉ v) (x : List Nat) : rst (x ++ v) = x ++ v := by
  have e := rst_no h
  rw [rst_app x (by rw [e]; exact hv), e]
theorem norm1 : ∀ rest : List (List Nat), (∀ w ∈ rest, 45 ∉ w) → rst (sq (45 :: j45 rest)) = if rest.filter (fun x => x != []) = [] then [] else 45 :: j45 (rest.filter fun x => x != [])
  | [], _ => by simp [j45, sq, rst]
  | [v], h => by
    have hv := h v (.head _)
    have hh : ¬ (45 = 45 ∧ v.head? = some 45) := fun q => hv (List.mem_of_mem_head? q.2)
    rw [j45, sq, if_neg hh, sq_no' hv]
    by_cases e : v = []
    · subst e; rfl
    · have := nonempty_last e hv [45]
      simp only [List.singleton_append] at this
      rw [this]
      simp [e, j45]
  | v :: u :: more, h => by
    have hv := h v (.head _)
    have ih := norm1 (u :: more) fun w hw => h w (.tail _ hw)
    by_cases e : v = []
    · subst e
      rw [show j45 ([] :: u :: more) = 45 :: j45 (u :: more) from rfl, sq, if_pos ⟨rfl, rfl⟩, ih]
      have : List.filter (fun x => x != []) ([] :: u :: more) = List.filter (fun x => x != []) (u :: more) := by simp
      rw [this]
    · rw [show j45 (v :: u :: more) = v ++ 45 :: j45 (u :: more) from rfl]
      have hh : ¬ (45 = 45 ∧ (v ++ 45 :: j45 (u :: more)).head? = some 45) := fun q => by
        cases v with
        | nil => exact e rfl
        | cons c r => have := q.2; simp at this; exact hv (by simp [this])
      rw [sq, if_neg hh, sq_no hv]
      have ef : List.filter (fun x => x != []) (v :: u :: more) = v :: List.filter (fun x => x != []) (u :: more) := by simp [e]
      rw [ef, if_neg (by simp)]
      have hl := nonempty_last e hv [45]
      by_cases hf : List.filter (fun x => x != []) (u :: more) = []
      · rw [if_pos hf] at ih
        rw [hf, show (45 :: (v ++ sq (45 :: j45 (u :: more)))) = ([45] ++ v) ++ sq (45 :: j45 (u :: more)) from rfl, rst_app0 _ ih, hl]; rfl
      · rw [if_neg hf] at ih
        rw [show (45 :: (v ++ sq (45 :: j45 (u :: more)))) = ([45] ++ v) ++ sq (45 :: j45 (u :: more)) from rfl, rst_app _ (by rw [ih]; simp), ih, j45_cons _ hf]; rfl
theorem norm2 (aw : List (List Nat)) (h : ∀ w ∈ aw, 45 ∉ w) : rst (sq (j45 aw)) = if aw.filter (fun x => x != []) = [] then [] else (if aw.head? = some [] then [45] else []) ++ j45 (aw.filter fun x => x != []) := by
  match aw, h with
  | [], _ => rfl
  | [v], h =>
    have hv := h v (.head _)
    rw [j45, sq_no' hv, rst_no hv]
    by_cases e : v = []
    · subst e; rfl
    · simp [e, j45]
  | v :: u :: more, h =>
    have hv := h v (.head _)
    have ih := norm1 (u :: more) fun w hw => h w (.tail _ hw)
    by_cases e : v = []
    · subst e
      rw [show j45 ([] :: u :: more) = 45 :: j45 (u :: more) from rfl, ih]
      have : List.filter (fun x => x != []) ([] :: u :: more) = List.filter (fun x => x != []) (u :: more) := by simp
      rw [this]; rfl
    · rw [show j45 (v :: u :: more) = v ++ 45 :: j45 (u :: more) from rfl, sq_no hv]
      have ef : List.filter (fun x => x != []) (v :: u :: more) = v :: List.filter (fun x => x != []) (u :: more) := by simp [e]
      rw [ef, if_neg (by simp), List.head?_cons, if_neg (by simpa using e), List.nil_append]
      by_cases hf : List.filter (fun x => x != []) (u :: more) = []
      · rw [if_pos hf] at ih
        rw [hf, rst_app0 _ ih, rst_no hv]; rfl
      · rw [if_neg hf] at ih
        rw [rst_app _ (by rw [ih]; simp), ih, j45_cons _ hf]
end Mine
end
section -- PL2
set_option maxRecDepth 100000
set_option maxHeartbeats 1000000
namespace Mine
theorem sep_has (c : Fin 127) : Txt.contains (Str.ofString "-/\\:;\"()") ⟨#[c.val]⟩ = sepc c.val := by
  revert c; decide +kernel
theorem sep_has' {c : Nat} (h : c < 127) : Txt.contains (Str.ofString "-/\\:;\"()") ⟨#[c]⟩ = sepc c := sep_has ⟨c, h⟩
theorem space_is (c : Fin 127) : 32 ≤ c.val → Unicode.isSpace c.val = (c.val == 32) := by
  revert c; decide +kernel
theorem tl_sgn {c : Nat} (h : ¬ sepc c = true) : tl (sgn c) = [mpc c] := by
  unfold sgn mpc
  rw [if_neg h]
  by_cases e : c = 32
  · subst e; rw [if_pos rfl, if_pos (by rfl)]; rfl
  · rw [if_neg e, if_neg]
    intro q
    have := congrArg tl q
    have e2 : tl (Str.ofString " ") = [32] := rfl
    rw [e2] at this
    exact e (List.cons.inj this).1
theorem tl_unknown : tl (Str.ofString "unknown") = unk := rfl
theorem suf_iff (u v : List Nat) : (decide (v.length ≤ u.length) && (u.drop (u.length - v.length) == v)) = true ↔ v <:+ u := by
  rw [Bool.and_eq_true, decide_eq_true_iff, beq_iff_eq]
  constructor
  · rintro ⟨_, h⟩; rw [← h]; exact List.drop_suffix _ _
  · intro h; exact ⟨h.length_le, (List.suffix_iff_eq_drop.mp h).symm⟩
theorem run_scan (l : List Nat) : (∀ c ∈ l, c < 127) → ∀ (q : WS) (K t : List Nat), tl q.wd = K ++ t → q.kp = K.length →
    ((l.foldl wstep q).ws ++ [(l.foldl wstep q).wd]).map tl = q.ws.map tl ++ scanW K t l := by
  induction l with
  | nil => intro _ q K t hw _; simp [scanW, hw]
  | cons c r ih =>
    intro hl q K t hw hk
    have hc := hl c (.head _)
    have hr : ∀ d ∈ r, d < 127 := fun d hd => hl d (.tail _ hd)
    rw [List.foldl_cons, scanW_cons]
    by_cases hs : sepc c = true
    · have e : wstep q c = ⟨q.ws ++ [q.wd], Str.ofString "", 0⟩ := by unfold wstep; rw [if_pos (by rw [sep_has' hc]; exact hs)]
      rw [e, if_pos hs, ih hr _ [] [] rfl rfl]
      simp [hw]
    · rw [if_neg hs]
      have hn : ¬ Txt.contains (Str.ofString "-/\\:;\"()") ⟨#[c]⟩ = true := by rw [sep_has' hc]; exact hs
      have hwd : tl (q.wd ++ sgn c) = K ++ (t ++ [mpc c]) := by rw [tl_append, hw, tl_sgn hs, List.append_assoc]
      have hen : Txt.endswith (Txt.slice (q.wd ++ sgn c) (some (q.kp : Int)) none) (Str.ofString "unknown") = true ↔ unk <:+ t ++ [mpc c] := by
        rw [endswith_tl, slice_from, hwd, hk, List.drop_left, tl_unknown]
        exact suf_iff _ _
      by_cases hu : unk <:+ t ++ [mpc c]
      · rw [if_pos hu]
        have e : wstep q c = ⟨q.ws, Txt.slice (q.wd ++ sgn c) none (some (-7)), (Txt.slice (q.wd ++ sgn c) none (some (-7))).length⟩ := by
          unfold wstep; rw [if_neg hn, if_pos (hen.mpr hu)]
        have hul := hu.length_le
        rw [show unk.length = 7 from rfl] at hul
        have e2 : tl (Txt.slice (q.wd ++ sgn c) none (some (-7))) = K ++ (t ++ [mpc c]).take ((t ++ [mpc c]).length - 7) := by
          have := slice_to_neg (q.wd ++ sgn c) 7 (by decide)
          rw [show ((-((7 : Nat) : Int)) : Int) = -7 from rfl] at this
          rw [this, ← tl_length, hwd, List.take_append, List.length_append]
          congr 1
          · exact List.take_of_length_le (by omega)
          · congr 1; omega
        rw [e]
        rw [ih hr _ (K ++ (t ++ [mpc c]).take ((t ++ [mpc c]).length - 7)) [] (by rw [List.append_nil]; exact e2) (by rw [← e2, tl_length])]
      · rw [if_neg hu]
        have e : wstep q c = ⟨q.ws, q.wd ++ sgn c, q.kp⟩ := by
          unfold wstep; rw [if_neg hn, if_neg (fun h => hu (hen.mp h))]
        rw [e]; exact ih hr ⟨q.ws, q.wd ++ sgn c, q.kp⟩ K (t ++ [mpc c]) hwd hk
theorem words_scan {x : Str} (h : Pr x) : (words x).map tl = scanW [] [] (tl x) := by
  unfold words wrun
  have := run_scan (tl x) (fun c hc => (h c hc).2) ⟨[], Str.ofString "", 0⟩ [] [] rfl rfl
  simpa using this
open Builtin Builtin.Str StrLaws in
theorem sp_sub (x : Str) (lo : Nat) : tl (strSub x lo x.length) = (tl x).drop lo := by
  unfold tl; rw [StrLaws.strSub_toList, List.take_of_length_le]
  rw [List.length_drop]; simp [PySem.Str.length]
theorem drop_takeWhile (g : Nat → Bool) : ∀ l : List Nat, l.drop (l.takeWhile g).length = l.dropWhile g
  | [] => rfl
  | c :: r => by
    by_cases h : g c = true
    · rw [List.takeWhile_cons_of_pos h, List.dropWhile_cons_of_pos h, List.length_cons, List.drop_succ_cons, drop_takeWhile g r]
    · rw [List.takeWhile_cons_of_neg h, List.dropWhile_cons_of_neg h]; rfl
theorem tl_lstrip (x : Str) : tl (Txt.lstrip x) = (tl x).dropWhile Unicode.isSpace := by
  unfold Txt.lstrip Txt.stripBy
  rw [← drop_takeWhile]
  split
  · rename_i h
    have h1 : (stripLo Unicode.isSpace true x == 0) = true := (Bool.and_eq_true _ _ ▸ h).1
    have : ((tl x).takeWhile Unicode.isSpace).length = 0 := eq_of_beq h1
    rw [this]; rfl
  · exact sp_sub x _
theorem dropWhile_app (g : Nat → Bool) {c : Nat} (hc : g c = false) (r : List Nat) : ∀ l : List Nat, (l ++ c :: r).dropWhile g = l.dropWhile g ++ c :: r
  | [] => by rw [List.nil_append, List.dropWhile_cons_of_neg (by rw [hc]; simp)]; rfl
  | d :: l => by
    by_cases h : g d = true
    · rw [List.cons_append, List.dropWhile_cons_of_pos h, List.dropWhile_cons_of_pos h, dropWhile_app g hc r l]
    · rw [List.cons_append, List.dropWhile_cons_of_neg h, List.dropWhile_cons_of_neg h]; rfl
theorem tl_strip {x : Str} {l : List Nat} {c : Nat} (hx : tl x = l ++ [c]) (hc : Unicode.isSpace c = false) : tl (Txt.strip x) = (tl x).dropWhile Unicode.isSpace := by
  have hhi : stripHi Unicode.isSpace true x (stripLo Unicode.isSpace true x) = x.length := by
    show x.length - (((tl x).drop ((tl x).takeWhile Unicode.isSpace).length).reverse.takeWhile Unicode.isSpace).length = x.length
    rw [drop_takeWhile, hx, dropWhile_app _ hc, List.reverse_append, List.reverse_singleton, List.singleton_append, List.takeWhile_cons_of_neg (by rw [hc]; simp)]
    rfl
  unfold Txt.strip Txt.stripBy
  rw [← drop_takeWhile]
  split
  · rename_i h
    have h1 : (stripLo Unicode.isSpace true x == 0) = true := (Bool.and_eq_true _ _ ▸ h).1
    have : ((tl x).takeWhile Unicode.isSpace).length = 0 := eq_of_beq h1
    rw [this]; rfl
  · unfold PySem.stripped; rw [hhi]; exact sp_sub x _
theorem tl_join : ∀ xs : List Str, tl (Str.join (Str.ofString "-") xs) = j45 (xs.map tl)
  | [] => rfl
  | [x] => rfl
  | x :: y :: r => by
    show tl (x ++ Str.ofString "-" ++ Str.join (Str.ofString "-") (y :: r)) = _
    rw [tl_append, tl_append, tl_join (y :: r), List.append_assoc]; rfl
theorem scan_join : ∀ ls : List (List Nat), ls ≠ [] → scanW [] [] (j45 ls) = ls.flatMap (scanW [] [])
  | [], h => absurd rfl h
  | [x], _ => by simp [j45]
  | x :: y :: r, _ => by
    rw [j45_cons x (by simp), scanW_app (by decide), scan_join (y :: r) (by simp)]; rfl
end Mine
end
section -- PL3
set_option maxRecDepth 100000
set_option maxHeartbeats 1000000
namespace Mine
theorem last_of {p : Str} (h : p.length ≠ 0) : ∃ l c, tl p = l ++ [c] := by
  rcases List.eq_nil_or_concat (tl p) with e | ⟨l, c, e⟩
  · exact absurd (by rw [← tl_length, e]; rfl) h
  · exact ⟨l, c, by rw [e, List.concat_eq_append]⟩
theorem item_last {p : Str} {l : List Nat} {c : Nat} (h : tl p = l ++ [c]) : Txt.item p (-1) = ⟨#[c]⟩ := by
  have hn : p.length = l.length + 1 := by rw [← tl_length, h, List.length_append]; rfl
  have e : Txt.charAt p (-1) = (tl p)[l.length]? := by
    unfold Txt.charAt seqIndex?
    rw [hn]
    simp
    rw [if_pos (by omega)]
    simp
    congr 1
    omega
  unfold Txt.item
  rw [e, h]; simp
theorem tl_hh : tl (Str.ofString "--") = [45, 45] := rfl
theorem tl_h : tl (Str.ofString "-") = [45] := rfl
theorem tl_e : tl (Str.ofString "") = [] := rfl
theorem coll_sq {p q : Str} (h : Coll p q) : tl q = sq (tl p) := by
  induction h with
  | @done p e =>
    have r := rep_of p (Str.ofString "--") (Str.ofString "-") (by decide)
    rw [e, tl_hh, tl_h] at r
    exact (rep_fix r rfl).symm
  | @step p q _ _ ih =>
    have r := rep_of p (Str.ofString "--") (Str.ofString "-") (by decide)
    rw [tl_hh, tl_h] at r
    rw [ih]; exact rep_sq r
theorem rs_rst {p q : Str} (h : Rs p q) : tl q = rst (tl p) := by
  induction h with
  | @empty p e =>
    have : tl p = [] := List.eq_nil_of_length_eq_zero (by rw [tl_length]; exact e)
    rw [this]; rfl
  | @other p e ne =>
    obtain ⟨l, c, hl⟩ := last_of e
    have : c ≠ 45 := fun q => ne (by rw [item_last hl, q]; rfl)
    rw [hl, rst_other _ this]
  | @step p q e he _ ih =>
    obtain ⟨l, c, hl⟩ := last_of e
    have hc : c = 45 := by
      rw [item_last hl] at he
      have := congrArg tl he
      rw [tl_h] at this
      exact (List.cons.inj this).1
    have e1 : tl (Txt.slice p none (some (-1))) = l := by
      have := slice_to_neg p 1 (by decide)
      rw [show ((-((1 : Nat) : Int)) : Int) = -1 from rfl] at this
      rw [this, ← tl_length, hl, List.length_append, List.length_singleton, Nat.add_sub_cancel, List.take_left]
    rw [ih, e1, hl, hc, rst_hy]
theorem rep8_scan (p : Str) : tl (rep8 p) = j45 (scanW [] [] (tl p)) := by
  have r := rep_of (Txt.replace (Txt.replace (Txt.replace (Txt.replace (Txt.replace (Txt.replace (Txt.replace (Txt.replace p (Str.ofString " ") (Str.ofString "_")) (Str.ofString "/") (Str.ofString "-")) (Str.ofString "\\") (Str.ofString "-")) (Str.ofString ":") (Str.ofString "-")) (Str.ofString ";") (Str.ofString "-")) (Str.ofString "\"") (Str.ofString "-")) (Str.ofString "(") (Str.ofString "-")) (Str.ofString ")") (Str.ofString "-")) (Str.ofString "unknown") (Str.ofString "") (by decide)
  rw [show Str.ofString " " = ⟨#[32]⟩ from rfl, show Str.ofString "_" = ⟨#[95]⟩ from rfl, show Str.ofString "/" = ⟨#[47]⟩ from rfl, show Str.ofString "-" = ⟨#[45]⟩ from rfl,
    show Str.ofString "\\" = ⟨#[92]⟩ from rfl, show Str.ofString ":" = ⟨#[58]⟩ from rfl, show Str.ofString ";" = ⟨#[59]⟩ from rfl, show Str.ofString "\"" = ⟨#[34]⟩ from rfl,
    show Str.ofString "(" = ⟨#[40]⟩ from rfl, show Str.ofString ")" = ⟨#[41]⟩ from rfl] at r
  rw [replace_map, replace_map, replace_map, replace_map, replace_map, replace_map, replace_map, replace_map] at r
  simp only [List.map_map] at r
  rw [tl_unknown, tl_e] at r
  have em : ∀ l : List Nat, l.map mpc = l.map ((fun k => if k = 41 then 45 else k) ∘ (fun k => if k = 40 then 45 else k) ∘ (fun k => if k = 34 then 45 else k) ∘ (fun k => if k = 59 then 45 else k) ∘ (fun k => if k = 58 then 45 else k) ∘ (fun k => if k = 92 then 45 else k) ∘ (fun k => if k = 47 then 45 else k) ∘ fun k => if k = 32 then 95 else k) := by
    intro l
    apply List.map_congr_left
    intro c _
    simp only [Function.comp_apply]
    unfold mpc sepc
    simp only [List.contains_cons, List.contains_nil, Bool.or_eq_true, beq_iff_eq, Bool.or_false]
    repeat' split
    all_goals omega
  rw [← em] at r
  have := rep_words r
  rw [← this]; rfl
end Mine
end
section -- PL4
set_option maxRecDepth 100000
set_option maxHeartbeats 1000000
namespace Mine
theorem tl_lt : tl (Str.ofString "<") = [60] := rfl
theorem tl_gt : tl (Str.ofString ">") = [62] := rfl
theorem tl_bo : tl (Str.ofString "{") = [123] := rfl
theorem tl_bc : tl (Str.ofString "}") = [125] := rfl
theorem tl_co : tl (Str.ofString ":") = [58] := rfl
theorem tl_po : tl (Str.ofString "(") = [40] := rfl
theorem tl_pc : tl (Str.ofString ")") = [41] := rfl
theorem starts_iff (x : Str) : Txt.startswith x (Str.ofString "<") = true ↔ Txt.slice x none (some 1) = Str.ofString "<" := by
  have e := slice_to x 1
  rw [show (((1 : Nat)) : Int) = 1 from rfl] at e
  rw [startswith_tl, tl_lt, beq_iff_eq]
  constructor
  · intro h; exact tl_inj (by rw [e, tl_lt]; exact h)
  · intro h; rw [h, tl_lt] at e; exact e.symm
theorem ends_iff (x : Str) : Txt.endswith x (Str.ofString ">") = true ↔ Txt.slice x (some (-1)) none = Str.ofString ">" := by
  have e := slice_from_neg x 1 (by decide)
  rw [show ((-((1 : Nat) : Int)) : Int) = -1 from rfl, ← tl_length] at e
  rw [endswith_tl, tl_gt, Bool.and_eq_true, beq_iff_eq, decide_eq_true_iff]
  constructor
  · intro h; exact tl_inj (by rw [e, tl_gt]; exact h.2)
  · intro h
    rw [h, tl_gt] at e
    refine ⟨?_, e.symm⟩
    have q : 1 = (tl x).length - ((tl x).length - 1) := by rw [← List.length_drop, ← e]; rfl
    show 1 ≤ (tl x).length
    omega
theorem tell_file {wh nm : Str} {ln : Int} (h : wh ≠ Str.ofString "~" ∨ ln ≠ 0) : tell wh ln nm = wh ++ Str.ofString ":" ++ Str.ofString (toString ln) ++ Str.ofString "(" ++ nm ++ Str.ofString ")" := by
  unfold tell
  rw [if_neg]
  rintro ⟨a, b⟩
  exact h.elim (fun q => q a) (fun q => q b)
theorem no_file {wh : Str} {ln : Int} (h : ¬ (wh ≠ Str.ofString "~" ∨ ln ≠ 0)) : wh = Str.ofString "~" ∧ ln = 0 :=
  ⟨Classical.byContradiction fun q => h (.inl q), Classical.byContradiction fun q => h (.inr q)⟩
theorem tell_bare {wh nm : Str} {ln : Int} (h : ¬ (wh ≠ Str.ofString "~" ∨ ln ≠ 0)) (h2 : ¬ (Txt.slice nm none (some 1) = Str.ofString "<" ∧ Txt.slice nm (some (-1)) none = Str.ofString ">")) : tell wh ln nm = nm := by
  rw [← starts_iff, ← ends_iff] at h2
  by_cases a : Txt.startswith nm (Str.ofString "<") = true
  · exact tell_name1 (no_file h) a (by simpa using fun b => h2 ⟨a, b⟩)
  · exact tell_name0 (no_file h) (by simpa using a)
theorem tell_curly {wh nm : Str} {ln : Int} (h : ¬ (wh ≠ Str.ofString "~" ∨ ln ≠ 0)) (h2 : Txt.slice nm none (some 1) = Str.ofString "<" ∧ Txt.slice nm (some (-1)) none = Str.ofString ">") :
    tell wh ln nm = Str.ofString "{" ++ Txt.slice nm (some 1) (some (-1)) ++ Str.ofString "}" := by
  rw [← starts_iff, ← ends_iff] at h2
  exact tell_braces (no_file h) h2.1 h2.2
theorem tl_file (wh ml nm : Str) : tl (wh ++ Str.ofString ":" ++ ml ++ Str.ofString "(" ++ nm ++ Str.ofString ")") = tl wh ++ 58 :: (tl ml ++ 40 :: (tl nm ++ [41])) := by
  rw [tl_append, tl_append, tl_append, tl_append, tl_append, tl_co, tl_po, tl_pc]
  simp
theorem tl_curly (m : Str) : tl (Str.ofString "{" ++ m ++ Str.ofString "}") = 123 :: tl m ++ [125] := by
  rw [tl_append, tl_append, tl_bo, tl_bc]; rfl
/-- every call is told as asked -/
theorem told_all (c : Cl) : isTold c.wh c.ln c.nm c.tell = true := by
  obtain ⟨wh, ln, nm⟩ := c
  unfold Cl.tell
  dsimp only
  by_cases h : wh ≠ Str.ofString "~" ∨ ln ≠ 0
  · rw [isTold_1 h, tell_file h]
    generalize Str.ofString (toString ln) = ml
    have et := tl_file wh ml nm
    have en : (wh ++ Str.ofString ":" ++ ml ++ Str.ofString "(" ++ nm ++ Str.ofString ")").length = wh.length + ml.length + nm.length + 3 := by
      rw [← tl_length, et]
      simp only [List.length_append, List.length_cons, List.length_nil, tl_length]
      omega
    generalize (wh ++ Str.ofString ":" ++ ml ++ Str.ofString "(" ++ nm ++ Str.ofString ")") = td at *
    have ei : (td.length : Int) - (nm.length : Int) - 1 = ((wh.length + ml.length + 2 : Nat) : Int) := by omega
    rw [ei]
    refine decide_eq_true ⟨tl_inj ?_, tl_inj ?_, tl_inj ?_⟩
    · rw [slice_to, et, ← tl_length, List.take_left]
    · rw [slice_nat _ (by omega), et, ← tl_length wh, List.drop_left, tl_append, tl_append, tl_co, tl_po]
      rw [show (tl wh).length + ml.length + 2 - (tl wh).length = (58 :: (tl ml ++ [40])).length from by simp only [List.length_append, List.length_cons, List.length_nil, tl_length]; omega]
      rw [show 58 :: (tl ml ++ 40 :: (tl nm ++ [41])) = (58 :: (tl ml ++ [40])) ++ (tl nm ++ [41]) from by simp, List.take_left]
      rfl
    · rw [slice_from, et, tl_append, tl_pc]
      rw [show tl wh ++ 58 :: (tl ml ++ 40 :: (tl nm ++ [41])) = (tl wh ++ 58 :: (tl ml ++ [40])) ++ (tl nm ++ [41]) from by simp]
      rw [show wh.length + ml.length + 2 = (tl wh ++ 58 :: (tl ml ++ [40])).length from by simp only [List.length_append, List.length_cons, List.length_nil, tl_length]; omega, List.drop_left]
  · by_cases h2 : Txt.slice nm none (some 1) = Str.ofString "<" ∧ Txt.slice nm (some (-1)) none = Str.ofString ">"
    · rw [isTold_2 h h2, tell_curly h h2]
      generalize Txt.slice nm (some 1) (some (-1)) = m
      have et := tl_curly m
      have en : (Str.ofString "{" ++ m ++ Str.ofString "}").length = m.length + 2 := by
        rw [← tl_length, et]
        simp only [List.length_append, List.length_cons, List.length_nil, tl_length]
      generalize (Str.ofString "{" ++ m ++ Str.ofString "}") = td at *
      refine decide_eq_true ⟨tl_inj ?_, tl_inj ?_, tl_inj ?_⟩
      · have := slice_to td 1
        rw [show (((1 : Nat)) : Int) = 1 from rfl] at this
        rw [this, et, tl_bo]; rfl
      · rw [slice_mid, et, en, List.cons_append, List.drop_succ_cons, List.drop_zero, Nat.add_sub_cancel, ← tl_length, List.take_left]
      · have := slice_from_neg td 1 (by decide)
        rw [show ((-((1 : Nat) : Int)) : Int) = -1 from rfl] at this
        rw [this, et, en, tl_bc, show m.length + 2 - 1 = (123 :: tl m).length from by simp only [List.length_cons, tl_length]; omega, List.drop_left]
    · rw [isTold_3 h h2, tell_bare h h2, beq_iff_eq]
/-- the signs of what a call gives -/
def callScan (c : Cl) : List (List Nat) := (([c.tell].filter ne0).map Txt.strip).flatMap fun x => scanW [] [] (tl x)
theorem ne0_of {x : Str} {a : Nat} {l r : List Nat} (h : tl x = l ++ a :: r) : ne0 x = true := by
  unfold ne0
  rw [decide_eq_true_iff, ← tl_length, h]; simp
theorem callScan_one {c : Cl} (h : ne0 c.tell = true) : callScan c = scanW [] [] (tl (Txt.strip c.tell)) := by
  unfold callScan
  rw [List.filter_cons_of_pos h]; simp
theorem call_scan {c : Cl} (k : ClOk c) : callScan c = c.words.map tl := by
  unfold Cl.words
  by_cases h : c.wh ≠ Str.ofString "~" ∨ c.ln ≠ 0
  · have e : c.tell = _ := tell_file (nm := c.nm) h
    have et := tl_file c.wh (Str.ofString (toString c.ln)) c.nm
    rw [callScan_one (by rw [e]; exact ne0_of et), e]
    rw [tl_strip (l := tl c.wh ++ 58 :: (tl (Str.ofString (toString c.ln)) ++ 40 :: tl c.nm)) (c := 41) (by rw [et]; simp) (by decide +kernel)]
    rw [et, dropWhile_app _ (by decide +kernel), scanW_app (by decide), scanW_app (by decide), scanW_app (by decide), ← tl_lstrip]
    rw [← words_scan k.w.lstrip, ← words_scan (pr_line k.l0 k.l1), ← words_scan k.n, callWords_1 h]
    simp [scanW, tl_e]
  · by_cases h2 : Txt.slice c.nm none (some 1) = Str.ofString "<" ∧ Txt.slice c.nm (some (-1)) none = Str.ofString ">"
    · have e : c.tell = _ := tell_curly h h2
      have et := tl_curly (Txt.slice c.nm (some 1) (some (-1)))
      rw [callScan_one (by rw [e]; exact ne0_of et), e, tl_strip et (by decide +kernel), callWords_2 h h2]
      rw [words_scan (((pr_of (by decide +kernel)).append (k.n.slice _ _)).append (pr_of (by decide +kernel)))]
      rw [et, List.cons_append, List.dropWhile_cons_of_neg (by decide +kernel)]
    · have e : c.tell = _ := tell_bare h h2
      by_cases h3 : c.nm = Str.ofString ""
      · rw [callWords_3 h h2 h3]
        unfold callScan
        rw [e, h3]; rfl
      · rw [callWords_4 h h2 h3]
        have hn : ne0 c.tell = true := by
          rw [e]; unfold ne0
          rw [decide_eq_true_iff]
          intro q
          exact h3 (tl_inj (by rw [tl_e]; exact List.eq_nil_of_length_eq_zero (by rw [tl_length]; exact q)))
        rw [callScan_one hn, e, words_scan k.n.strip]
theorem all_scan : ∀ cs : List Cl, (∀ c ∈ cs, ClOk c) → (((cs.map Cl.tell).filter ne0).map Txt.strip).flatMap (fun x => scanW [] [] (tl x)) = (allWords cs).map tl
  | [], _ => rfl
  | c :: r, h => by
    have ih := all_scan r fun d hd => h d (.tail _ hd)
    have e := call_scan (h c (.head _))
    have ea : allWords (c :: r) = c.words ++ allWords r := rfl
    rw [ea, List.map_append, ← e, ← ih]
    unfold callScan
    rw [← List.flatMap_append, ← List.map_append, ← List.filter_append]; rfl
theorem filter_tl (ws : List Str) : (ws.filter fun x => x != Str.ofString "").map tl = (ws.map tl).filter fun x => x != [] := by
  rw [List.filter_map]
  congr 1
  apply List.filter_congr
  intro x _
  show (x != Str.ofString "") = (tl x != [])
  by_cases h : x = Str.ofString ""
  · subst h; rfl
  · have : tl x ≠ [] := fun q => h (tl_inj q)
    rw [bne_iff_ne.mpr h, bne_iff_ne.mpr this]
theorem words_no45 {cs : List Cl} (h : ∀ c ∈ cs, ClOk c) : ∀ w ∈ (allWords cs).map tl, 45 ∉ w := by
  rw [← all_scan cs h]
  intro w hw
  obtain ⟨x, _, hx⟩ := List.mem_flatMap.mp hw
  exact scanW_no45 _ _ _ (by simp) (by simp) w hx
theorem tl_label (cs : List Cl) : tl (label cs) = if ((allWords cs).map tl).filter (fun x => x != []) = [] then [] else (if ((allWords cs).map tl).head? = some [] then [45] else []) ++ j45 (((allWords cs).map tl).filter fun x => x != []) := by
  unfold label
  rw [← filter_tl]
  generalize allWords cs = aw
  by_cases h : (aw.filter fun x => x != Str.ofString "") = []
  · rw [if_pos h, if_pos (by rw [h]; rfl)]; rfl
  · have h' : ¬ (aw.filter fun x => x != Str.ofString "").map tl = [] := by rwa [List.map_eq_nil_iff]
    rw [if_neg h, if_neg h', tl_append, tl_join]
    congr 1
    cases aw with
    | nil => rfl
    | cons a r =>
      rw [List.map_cons, List.head?_cons, List.head?_cons]
      by_cases e : a = Str.ofString ""
      · subst e; rfl
      · rw [if_neg (fun q => e (Option.some.inj q)), if_neg (fun q : some (tl a) = some [] => e (tl_inj (Option.some.inj q)))]; rfl
theorem plat_label {cs : List Cl} (h : ∀ c ∈ cs, ClOk c) {r : Str} (hp : PlatR (cs.map Cl.tell) r) : r = label cs := by
  obtain ⟨q, h1, h2⟩ := hp
  apply tl_inj
  rw [rs_rst h2, coll_sq h1, rep8_scan, tl_join, tl_label]
  have ea := all_scan cs h
  have e3 := norm2 _ (words_no45 h)
  rw [← e3]
  generalize (((cs.map Cl.tell).filter ne0).map Txt.strip) = ls at ea
  by_cases hl : ls = []
  · subst hl
    rw [← ea]; rfl
  · rw [scan_join _ (by simpa using hl), ← ea]
    congr 3
    rw [List.flatMap_map]
end Mine
end
set_option maxRecDepth 100000 in
set_option maxHeartbeats 8000000 in
theorem PySem.Challenge.cw_mj0053_01_holds : PySem.Challenge.rw_mj0053_01.Holds :=
  Mine.main_of (fun c _ => Mine.told_all c) (fun _ h _ hp => Mine.plat_label h hp)
