import PyProof.Rows.All
import Wide.All
import OpenK.AllK
import Wide.FinOn
import PySem.Challenge.RW_ny0123_01
set_option Elab.async false

section PartTop1
open PySem PySem.W PyProof.Rows
set_option maxRecDepth 100000
set_option maxHeartbeats 8000000
namespace Mine
open_top hd for PySem.Challenge.rw_ny0123_01
end Mine

end PartTop1
section PartC1
open PySem PySem.W PySem.Spec PySem.Calls PyProof.Rows
set_option maxRecDepth 100000
set_option maxHeartbeats 8000000
namespace Mine
theorem quietC1 : True := by (w_top off); trivial
abbrev Con (r : Nat) (w : World) (mean : ExcName → Option Value) (mg mb : Str → Option Value) (f : Addr) (news : List (Addr × Obj)) (pre : Prop) (vs : List Value) (R : Tok → Value) : Prop :=
  ∀ (dp un : Nat) (gd : Option (List Code)) (cn : Str) (cs : Scope) (a : Addr) (ccd : Value) (cl : List (Str × Addr)) (outer : List Env) (A₀ : Around) (base h₀ : Heap) (L : Addr) (m : Str → Option Value) (s : Shared) (Q E : Value → Shared → Prop),
    Below A₀ base outer h₀ → Fr h₀ L s.heap m → (hd.heap_39 w.params).In h₀ → News h₀ L s.heap news → Top hd.view_39 (looseW hd.view_39 [Str.ofString "_filemode_table"]) mean mg mb h₀ → cs.kind = .function →
    pre → dp + r < recursionLimit → un + 8 * r < cLine → CbRet h₀ L m news s Q R →
      wpAny (model PySem.Challenge.rw_ny0123_01.row.prog w) (ktrTop dp un gd cn cs L a ccd cl outer) (call (.ref f) vs) Q E s

theorem Con.use {r w mean mg mb f news pre vs R} (C : Con r w mean mg mb f news pre vs R) {dp un : Nat} {gd : Option (List Code)} {cn : Str} {cs : Scope} {a : Addr} {ccd : Value} {cl : List (Str × Addr)} {outer : List Env} {A₀ : Around} {base h₀ : Heap} {L : Addr} {m : Str → Option Value} {s : Shared} {Q E : Value → Shared → Prop}
    (B : Below A₀ base outer h₀) (F : Fr h₀ L s.heap m) (X : (hd.heap_39 w.params).In h₀) (N : News h₀ L s.heap news) (T : Top hd.view_39 (looseW hd.view_39 [Str.ofString "_filemode_table"]) mean mg mb h₀) (hk : cs.kind = .function)
    (hp : pre) (hd : dp + r < recursionLimit) (hu : un + 8 * r < cLine) (ret : CbRet h₀ L m news s Q R) :
    wpAny (model PySem.Challenge.rw_ny0123_01.row.prog w) (ktrTop dp un gd cn cs L a ccd cl outer) (call (.ref f) vs) Q E s :=
  C _ _ _ _ _ _ _ _ _ _ _ _ _ _ _ _ _ B F X N T hk hp hd hu ret

section
variable {prog : Program} {w : World} {A₀ A : Around} {E : Value → Shared → Prop} {s : Shared} {base h₀ : Heap} {outer : List Env} {L : Addr} {m : Str → Option Value} {env : Env} {news : List (Addr × Obj)}
/-- a def is entered with an empty ledger: all that stood ahead of the call stands behind it -/
theorem code_pure {K : Frag} {p : Program} {loose : List Str} {mean : ExcName → Option Value} {mg mb : Str → Option Value} {R : Result → Shared → Prop} {name qual : Str} {params : Arguments} {body : List Stmt} {scope : Scope} {dV kV doc pm cdv ct oc : Value} {an od : Option Addr} {osl : Array (Option Value)} {f : Addr} {args : Args} {binds : List (Str × Value)}
    (B : Below A₀ base outer h₀) (F : Fr h₀ L s.heap m) (X₀ : K.In h₀) (N : News h₀ L s.heap news) (T : Top p loose mean mg mb h₀) (hA : A.frames = some (env :: outer)) (hf : env.frame = some L) (hke : env.scope.kind = .function)
    (ho : K.lookup f = some ⟨oc, od, .func (fnOf name qual params body scope dV kV doc pm an cdv ct), osl⟩) (hcd : codeIn K cdv qual = true) (hroom : A.depth < recursionLimit)
    (hbind : BindsTo s (fnOf name qual params body scope dV kV doc pm an cdv ct) args binds) (hloc : ∀ y ∈ binds, scope.names.lookup y.1 = some .local)
    (h : ∀ g L' h₁, Fr h₀ L g m → Fr g L' h₁ (fun y => binds.reverse.lookup y) → News g L' h₁ [] → Below A base (env :: outer) g → K.In g → Top p loose mean mg mb g → (∀ b o, s.heap.get? b = some o → g.get? b = some o) →
      wpAny (model prog w) (A.deeper (envOf qual scope L' f cdv)) (execs body (envOf qual scope L' f cdv))
        (fun fl s' => LeaveK h₀ L m g (fun r s'' => News h₀ L s''.heap news → R r s'') (match fl with | .ret v => v | _ => .none) s')
        (fun e s' => wpAny (model prog w) (A.deeper (envOf qual scope L' f cdv)) (leaving (envOf qual scope L' f cdv) e) (fun _ s'' => R (.error e) s'') (fun e' s'' => R (.error e') s'') s')
        { s with heap := h₁, toks := s.toks + binds.length })
    (hco : scope.isCoroutine = false) (hgen : scope.isGenerator = false) (hk : scope.kind = .function)
    (hcell : ∀ x ∈ scope.names, x.2 ≠ .cell) : codeAny (model prog w) A (.call (.ref f) args) R s := by
  refine code_defG (news := []) B F X₀ News.nil T hA hf hke ho hcd hroom hbind hloc (fun g L' h₁ FG F' N' B' X' T' G => ?_) hco hgen hk hcell
  have hg : ∀ b o, s.heap.get? b = some o → g.get? b = some o := fun b o e => G b o e (by simp)
  refine wpAny_mono (h g L' h₁ FG F' N' B' X' T' hg) (fun fl s' hl => ?_) (fun _ _ e => e)
  obtain ⟨L'', m'', news'', F'', N'', hr⟩ := hl
  exact ⟨L'', m'', news'', F'', N'', fun a b => hr a b (fun p hp => ⟨F''.keep _ _ (hg _ _ (N p hp).1), (N p hp).2⟩)⟩
end
local macro_rules | `(tactic| walk_at "pure enter") => `(tactic| (refine' code_pure ?k1 ?k2 ?k3 ?k4 ?k5 ?kA ?kF ?kK ?k6 ?k7 ?k8 ?k9 ?kB ?_ ?c2 ?c3 ?c4 ?c5; (case kA => exact rfl); (case kF => exact rfl); (case kK => assumption); (case k1 => k_asm); (case k2 => k_asm); (case k3 => k_asm); (case k4 => k_asm); (case k5 => k_asm); (case k6 => k_is); (case k7 => k_is); (case k8 => ktr_room); (case k9 => exact BindsTo.of_eq rfl); (case c5 => decide); (case kB => exact locs rfl); (case c2 => exact rfl); (case c3 => exact rfl); (case c4 => exact rfl); k_whole; intro g' L' h' FG' F' N' B' X' T' hg9; (try dsimp only); (try k_lift B'); (try k_fold)))

def kindOf (k : Int) : Str := if k = 8 then "-" else if k = 6 then "b" else if k = 2 then "c" else if k = 4 then "d" else if k = 10 then "l" else if k = 1 then "p" else if k = 12 then "s" else "?"
def kindS (x : Int) : Str := kindOf ((x.fdiv 4096).fmod 16)

theorem kindS_of {x k : Int} (h : (x.fdiv 4096).fmod 16 = k) : kindS x = kindOf k := by unfold kindS; rw [h]
theorem kind_c {w mean mg mb news} (x : Int) (t : Tok) : Con 1 w mean mg mb 103 news True [Value.int x t] (fun t => Value.str (kindS x) t) := by
  dsimp only [Con, CbRet]; k_fill; intros; rename_i hret
  refine wpAny_call ?_
  k_dflt (walk_at "pure enter")
  generalize hv : kindS x = v at hret
  k_steps
  · rename (x.fdiv 4096).fmod 16 = 8 => hk
    have e : v = Str.ofString "-" := by rw [← hv, kindS_of hk]; rfl
    subst e
    cb_end hret
  · rename (x.fdiv 4096).fmod 16 = 6 => hk
    have e : v = Str.ofString "b" := by rw [← hv, kindS_of hk]; rfl
    subst e
    cb_end hret
  · rename (x.fdiv 4096).fmod 16 = 2 => hk
    have e : v = Str.ofString "c" := by rw [← hv, kindS_of hk]; rfl
    subst e
    cb_end hret
  · rename (x.fdiv 4096).fmod 16 = 4 => hk
    have e : v = Str.ofString "d" := by rw [← hv, kindS_of hk]; rfl
    subst e
    cb_end hret
  · rename (x.fdiv 4096).fmod 16 = 10 => hk
    have e : v = Str.ofString "l" := by rw [← hv, kindS_of hk]; rfl
    subst e
    cb_end hret
  · rename (x.fdiv 4096).fmod 16 = 1 => hk
    have e : v = Str.ofString "p" := by rw [← hv, kindS_of hk]; rfl
    subst e
    cb_end hret
  · rename (x.fdiv 4096).fmod 16 = 12 => hk
    have e : v = Str.ofString "s" := by rw [← hv, kindS_of hk]; rfl
    subst e
    cb_end hret
  · have e : v = Str.ofString "?" := by
      rw [← hv]
      unfold kindS kindOf
      rw [if_neg (by assumption), if_neg (by assumption), if_neg (by assumption), if_neg (by assumption), if_neg (by assumption), if_neg (by assumption), if_neg (by assumption)]
    subst e
    cb_end hret

def cmp3 (x y : Str) : Int := b2i (decide (y.cps.toList < x.cps.toList)) - b2i (decide (x.cps.toList < y.cps.toList))
theorem cmp_c {w mean mg mb news} (x : Str) (t : Tok) (y : Str) (u : Tok): Con 1 w mean mg mb 96 news True [Value.str x t, Value.str y u] (fun t => Value.int (cmp3 x y) t) := by
  dsimp only [Con, CbRet]; k_fill; intros; rename_i hret
  refine wpAny_call ?_
  k_dflt (walk_at "pure enter")
  k_steps
  all_goals cb_end hret

theorem ifmt_c {w mean mg mb news} (x : Int) (t : Tok) : Con 1 w mean mg mb 21 news True [Value.int x t] (fun t => Value.int (Builtin.bitAnd x 61440) t) := by
  dsimp only [Con, CbRet]; k_fill; intros; rename_i hret
  refine wpAny_call ?_
  k_dflt (walk_at "pure enter")
  k_steps
  all_goals cb_end hret
end Mine

end PartC1
section PartC2
open PySem PySem.W PySem.Spec PySem.Calls PyProof.Rows
set_option maxRecDepth 100000
set_option maxHeartbeats 800000
namespace Mine
theorem quietC2 : True := by (w_top off); trivial
local macro_rules | `(tactic| walk_at "pure enter") => `(tactic| (refine' code_pure ?k1 ?k2 ?k3 ?k4 ?k5 ?kA ?kF ?kK ?k6 ?k7 ?k8 ?k9 ?kB ?_ ?c2 ?c3 ?c4 ?c5; (case kA => exact rfl); (case kF => exact rfl); (case kK => assumption); (case k1 => k_asm); (case k2 => k_asm); (case k3 => k_asm); (case k4 => k_asm); (case k5 => k_asm); (case k6 => k_is); (case k7 => k_is); (case k8 => ktr_room); (case k9 => exact BindsTo.of_eq rfl); (case c5 => decide); (case kB => exact locs rfl); (case c2 => exact rfl); (case c3 => exact rfl); (case c4 => exact rfl); k_whole; intro g' L' h' FG' F' N' B' X' T' hg9; (try dsimp only); (try k_lift B'); (try k_fold)))
local macro_rules | `(tactic| walk_at "con args") => `(tactic| ((case k1 => k_asm); (case k2 => k_asm); (case k3 => k_asm); (case k4 => k_asm); (case k5 => k_asm); (case kK => first | exact rfl | assumption); (case kp => first | trivial | assumption | omega); (case kd => ktr_room); (case ku => ktr_units); (intro t9 h9 tk9 F9 N9; (try dsimp only); (try k_fold))))
local macro_rules | `(tactic| walk_at "call ref") => `(tactic| (k_here; k_dflt (refine' Con.use (kind_c _ _) ?k1 ?k2 ?k3 ?k4 ?k5 ?kK ?kp ?kd ?ku ?_); walk_at "con args"))


theorem item_len (x : Str) (i : Int) : (Txt.item x i).length = 1 := rfl
theorem kindS_len (x : Int) : (kindS x).length = 1 := by
  unfold kindS kindOf
  repeat' split
  all_goals rfl
theorem item_any {prog : Program} {w : World} {A : Around} {E : Value → Shared → Prop} {s : Shared} {Q : Value → Shared → Prop} {value slice : Expr} {x : Str} {t u : Tok} {i : Int} {n : Nat} (hk : x.length = n) (h0 : -(n : Int) ≤ i) (h1 : i < (n : Int)) (hn : n ≤ 16777216) (h : ∀ t' k', Q (.str (Txt.item x i) t') { s with toks := k' })
    (hs : subscripted slice false (.str x t) (.int i u) = operate [.str x t, .int i u] (getItem (.str x t) (.int i u)) := by with_unfolding_all rfl)
    (ht : ∀ r, letTemporaryGo value (.str x t) r = pure () := by intro _; with_unfolding_all rfl) :
    wpAny (model prog w) A (subscriptTail value slice (.str x t) (.int i u)) Q E s := KXi.item hk h0 h1 hn (fun _ => h _ _) hs ht
local macro_rules | `(tactic| walk_at "binaryOp Add str str") => `(tactic| (k_here; (with_reducible show wpAny _ _ (binaryOp Operator.Add (Value.str _ _) (Value.str _ _)) _ _ _); (refine PyProof.Rows.add_str (hsz := ?hsz) ?_); (case hsz => ((simp only [Str.length_append, kindS_len, item_len, sizeLine_eq]); omega)); intro _ _; (try dsimp only)))
local macro_rules | `(tactic| walk_at "subscriptTail") => `(tactic| (k_here; (with_reducible show wpAny _ _ (subscriptTail _ _ (Value.str _ _) (Value.int _ _)) _ _ _); (refine item_any (by kxi_len) (by kxi_fact) (by kxi_fact) (by decide) ?_); intro _ _; (try dsimp only)))
theorem pw82 : (8 : Int) ^ Int.toNat 2 = 64 := rfl
theorem pw81 : (8 : Int) ^ Int.toNat 1 = 8 := rfl
theorem pw80 : (8 : Int) ^ Int.toNat 0 = 1 := rfl
theorem pm2 : (512 : Int) * 2 ^ Int.toNat 2 = 2048 := rfl
theorem pm1 : (512 : Int) * 2 ^ Int.toNat 1 = 1024 := rfl
theorem pm0 : (512 : Int) * 2 ^ Int.toNat 0 = 512 := rfl
local macro_rules | `(tactic| walk_at "binaryOp FloorDiv int int") => `(tactic| (k_here; (simp only [pw82, pw81, pw80, pm2, pm1, pm0])))
local macro_rules | `(tactic| walk_at "steps") => `(tactic| repeat' (first | (k_unfold; (try dsimp only)) | (k_end; kc_close) | ((try dsimp only); walk1) | (leave1; (try dsimp only)) | fail "no step"))
def signsOf (x : Int) : Str := kindS x ++ Txt.item "-r" (((x.fdiv 64).fmod 8).fdiv 4) ++ Txt.item "-w" ((((x.fdiv 64).fmod 8).fdiv 2).fmod 2) ++ Txt.item "-xSs" ((x.fdiv 2048).fmod 2 * 2 + ((x.fdiv 64).fmod 8).fmod 2) ++ Txt.item "-r" (((x.fdiv 8).fmod 8).fdiv 4) ++ Txt.item "-w" ((((x.fdiv 8).fmod 8).fdiv 2).fmod 2) ++ Txt.item "-xSs" ((x.fdiv 1024).fmod 2 * 2 + ((x.fdiv 8).fmod 8).fmod 2) ++ Txt.item "-r" (((x.fdiv 1).fmod 8).fdiv 4) ++ Txt.item "-w" ((((x.fdiv 1).fmod 8).fdiv 2).fmod 2) ++ Txt.item "-xTt" ((x.fdiv 512).fmod 2 * 2 + ((x.fdiv 1).fmod 8).fmod 2)
theorem signs_c {w mean mg mb news} (x : Int) (t : Tok) : Con 2 w mean mg mb 110 news True [Value.int x t] (fun t => Value.str (signsOf x) t) := by
  dsimp only [Con, CbRet]; k_fill; intros; rename_i hret
  refine wpAny_call ?_
  k_dflt (walk_at "pure enter")
  walk_at "steps"
  all_goals cb_end hret

theorem find_kind (x : Int) : Txt.find "-?bcdlps" (kindS x) ≠ -1 := by
  unfold kindS kindOf
  repeat' split
  all_goals decide +kernel
def numOf (x : Int) : Int := ((Txt.find "-?bcdlps" (kindS x) * 16 + ((x.fdiv 64).fmod 8).fdiv 2 * 4 + ((x.fdiv 64).fmod 8).fmod 2 * 2 + ((x.fdiv 64).fmod 8 + (x.fdiv 2048).fmod 2).fmod 2) * 16 + ((x.fdiv 8).fmod 8).fdiv 2 * 4 + ((x.fdiv 8).fmod 8).fmod 2 * 2 + ((x.fdiv 8).fmod 8 + (x.fdiv 1024).fmod 2).fmod 2) * 16 + ((x.fdiv 1).fmod 8).fdiv 2 * 4 + ((x.fdiv 1).fmod 8).fmod 2 * 2 + ((x.fdiv 1).fmod 8 + (x.fdiv 512).fmod 2).fmod 2
theorem number_c {w mean mg mb news} (x : Int) (t : Tok) : Con 2 w mean mg mb 117 news True [Value.int x t] (fun t => Value.int (numOf x) t) := by
  dsimp only [Con, CbRet]; k_fill; intros; rename_i hret
  refine wpAny_call ?_
  k_dflt (walk_at "pure enter")
  walk_at "steps"
  all_goals first | exact absurd (by assumption) (find_kind x) | cb_end hret
end Mine

end PartC2
section PartH1
open PySem PySem.W PySem.Spec PySem.Calls PyProof.Rows
set_option maxRecDepth 100000
set_option maxHeartbeats 4000000
namespace Mine
theorem quietH1 : True := by (w_top off); trivial

/-- a family of pairs (a text, its place) laid as tuples -/
structure Fam where
  ad : Nat → Addr
  sg : Nat → Str
  ts : Nat → Tok
  ti : Nat → Tok
def Fam.obj (f : Fam) (i : Nat) : Obj := { cls := .type "tuple", data := .seq #[.str (f.sg i) (f.ts i), .int (i : Int) (f.ti i)] }
def Fam.vals (f : Fam) (H : List Nat) : List Value := H.map fun i => .ref (f.ad i)
def ltS (sg : Nat → Str) (i j : Nat) : Bool := if sg i = sg j then decide (i < j) else decide ((sg i).cps.toList < (sg j).cps.toList)

section
variable {prog : Program} {w : World} {A : Around} {E : Value → Shared → Prop} {s : Shared}

theorem tup_lt {a b : Addr} {x y : Str} {i j : Int} {t u t' u' : Tok} {n k : Nat} {Q : Value → Shared → Prop} (hu : A.units < cLine)
    (ha : s.heap.get? a = some { cls := .type "tuple", data := .seq #[.str x t, .int i t'] n }) (hb : s.heap.get? b = some { cls := .type "tuple", data := .seq #[.str y u, .int j u'] k })
    (h : Q (.bool (if x = y then decide (i < j) else decide (x.cps.toList < y.cps.toList))) s) :
    wpAny (model prog w) A (compareOp .Lt (.ref a) (.ref b)) Q E s := by
  refine cmp_ofLt ?_
  have hTa : s.TypeIs (.ref a) "tuple" := ⟨_, ha, rfl⟩
  have hTb : s.TypeIs (.ref b) "tuple" := ⟨_, hb, rfl⟩
  refine wpAny_richCompare_same_room (op := .Lt) hTa hTb F.slot_tuple_lt (wpAny_call_entry F.slot_tuple_lt hTa F.entry_tuple_lt ?_ (F.args_tuple_lt_2 _ _)) hu
  show wpAny _ _ (isInstance (.ref b) (.type "tuple") >>= _) _ _ s
  refine wpAny_bind (wpAny_isInstance hTb isSubtype_tuple_tuple ?_)
  simp only [Bool.not_true, Bool.false_eq_true, if_false]
  refine wpAny_bind (wpAny_tupleItemsOf ha rfl ?_)
  refine wpAny_bind (wpAny_tupleItemsOf hb rfl ?_)
  refine wpAny_bind ?_
  show wpAny _ _ (forIn [(Value.str x t, Value.str y u), (Value.int i t', Value.int j u')] _ _) _ _ s
  rw [List.forIn_cons]
  refine wpAny_bind (wpAny_bind (wpAny_eqBool_str ?_))
  by_cases hxy : x = y
  · rw [if_pos hxy] at h
    rw [decide_eq_true hxy]
    simp only [Bool.not_true, Bool.false_eq_true, if_false]
    refine wpAny_pure ?_
    dsimp only
    rw [List.forIn_cons]
    refine wpAny_bind (wpAny_bind (wpAny_eqBool_int ?_))
    by_cases hij : i = j
    · subst hij
      simp only [beq_self_eq_true, Bool.not_true, Bool.false_eq_true, if_false]
      refine wpAny_pure ?_
      dsimp only
      rw [List.forIn_nil]
      refine wpAny_pure ?_
      refine wpAny_pure ⟨_, rfl, (fun e => nomatch e), ?_⟩
      rw [decide_eq_false (by omega)] at h
      exact h
    · have e : (i == j) = false := by simpa using hij
      rw [e]
      simp only [Bool.not_false, if_true]
      refine wpAny_bind (wpAny_rule ?_)
      refine wpAny_bind (m := richCompare .Lt (.int i t') (.int j u')) ?_
      refine (show wpAny _ _ (compareOp .Lt (.int i t') (.int j u')) _ _ _ from ?_)
      refine PyProof.Rows.lt_int ?_
      refine wpAny_bind (wpAny_pure ?_)
      refine wpAny_pure ?_
      refine wpAny_pure ?_
      exact wpAny_pure ⟨_, rfl, (fun e => nomatch e), h⟩
  · rw [if_neg hxy] at h
    rw [decide_eq_false hxy]
    simp only [Bool.not_false, if_true]
    refine wpAny_bind (wpAny_rule ?_)
    refine wpAny_bind (m := richCompare .Lt (.str x t) (.str y u)) ?_
    refine (show wpAny _ _ (compareOp .Lt (.str x t) (.str y u)) _ _ _ from ?_)
    refine PyProof.Rows.lt_str ?_
    refine wpAny_bind (wpAny_pure ?_)
    refine wpAny_pure ?_
    refine wpAny_pure ?_
    exact wpAny_pure ⟨_, rfl, (fun e => nomatch e), h⟩

theorem fam_lt {f : Fam} {i j : Nat} {tups : List (Addr × Obj)} {h₀ : Heap} {L l : Addr} {o : Obj} {Q : Value → Shared → Prop} (hu : A.units < cLine) (N : News h₀ L s.heap ((l, o) :: tups)) (hi : (f.ad i, f.obj i) ∈ tups) (hj : (f.ad j, f.obj j) ∈ tups)
    (h : Q (.bool (ltS f.sg i j)) s) : wpAny (model prog w) A (compareOp .Lt (.ref (f.ad i)) (.ref (f.ad j))) Q E s := by
  refine tup_lt (x := f.sg i) (y := f.sg j) (i := (i : Int)) (j := (j : Int)) hu (N _ (.tail _ hi)).1 (N _ (.tail _ hj)).1 ?_
  have e : (if f.sg i = f.sg j then decide ((i : Int) < (j : Int)) else decide ((f.sg i).cps.toList < (f.sg j).cps.toList)) = ltS f.sg i j := by
    unfold ltS
    by_cases q : f.sg i = f.sg j
    · rw [if_pos q, if_pos q]; simp
    · rw [if_neg q, if_neg q]
  rw [e]
  exact h

theorem fam_get {f : Fam} {H : List Nat} {e : Nat} {k : Int} {u : Tok} {tups : List (Addr × Obj)} {h₀ : Heap} {L l : Addr} {value slice : Expr} {Q : Value → Shared → Prop} (N : News h₀ L s.heap ((l, W.listOf (f.vals H).toArray e) :: tups))
    (h0 : 0 ≤ k) (h1 : k.toNat < H.length) (hfit : k < 2 ^ 63) (h : Q (.ref (f.ad (H.getD k.toNat 0))) s)
    (hs : subscripted slice false (.ref l) (.int k u) = operate [.ref l, .int k u] (getItem (.ref l) (.int k u)) := by with_unfolding_all rfl) :
    wpAny (model prog w) A (subscriptTail value slice (.ref l) (.int k u)) Q E s := by
  have hl : s.heap.IsList l (f.vals H).toArray := PySem.IsL.isList (n := e) (N _ (.head _)).1
  refine tail_any hl.typeIs slot_list_getitem.lookup (wpAny_getItem_list hl h0 hfit ?_ h) hs
  simp [Fam.vals, h1]

theorem fam_set {f : Fam} {H : List Nat} {e j : Nat} {k : Int} {u : Tok} {tups : List (Addr × Obj)} {h₀ : Heap} {L l : Addr} {m : Str → Option Value} {Q : Unit → Shared → Prop} (F : Fr h₀ L s.heap m) (N : News h₀ L s.heap ((l, W.listOf (f.vals H).toArray e) :: tups)) (ht : ∀ p ∈ tups, p.1 ≠ l)
    (h0 : 0 ≤ k) (h1 : k.toNat < H.length) (hfit : k < 2 ^ 63) (h : ∀ h', Fr h₀ L h' m → News h₀ L h' ((l, W.listOf (f.vals (H.set k.toNat j)).toArray e) :: tups) → Q () { s with heap := h' }) :
    wpAny (model prog w) A (setItem (.ref l) (.int k u) (.ref (f.ad j))) Q E s := by
  have z := N (l, W.listOf (f.vals H).toArray e) (.head _)
  have hsz : (f.vals H).toArray.size = H.length := by simp [Fam.vals]
  refine ki_setAt z.1 h0 hfit (by omega) (h _ (F.change (Heap.SameBut.update ..) z.2.1 z.2.2) ?_)
  refine ki_turn (pre := []) (post := tups) _ N (by simp) ht ?_ ?_
  · show (f.vals H).toArray.setIfInBounds k.toNat (.ref (f.ad j)) = (f.vals (H.set k.toNat j)).toArray
    apply Array.toList_inj.mp
    simp [Fam.vals, List.map_set]
  · simp [Fam.vals]
end

section
variable {prog : Program} {w : World} {A : Around} {E : Value → Shared → Prop} {Q : Flow → Shared → Prop} {s : Shared} {env : Env} {h₀ : Heap} {L : Addr}
/-- a seal: the walk stops here -/
def WEnd (P : Prop) : Prop := P
def WStep (h₀ : Heap) (L : Addr) (s : Shared) (J : Nat → (Str → Option Value) → List (Addr × Obj) → Prop) (Q : Flow → Shared → Prop) (n : Nat) (f : Flow) (s₃ : Shared) : Prop :=
  match f with
  | .ret v => Q (.ret v) s₃
  | .brk => Q .next s₃
  | _ => WEnd (∃ h' tk m₂ news₂ n', s₃ = { s with heap := h', toks := tk } ∧ Fr h₀ L h' m₂ ∧ News h₀ L h' news₂ ∧ n' < n ∧ J n' m₂ news₂)
theorem While_br {test : Expr} {body : List Stmt} {pos : Pos} {m : Str → Option Value} {news : List (Addr × Obj)} (J : Nat → (Str → Option Value) → List (Addr × Obj) → Prop) {n₀ : Nat}
    (F : Fr h₀ L s.heap m) (N : News h₀ L s.heap news) (hJ : J n₀ m news)
    (turn : ∀ n m₁ news₁ h₁ tk₁, Fr h₀ L h₁ m₁ → News h₀ L h₁ news₁ → J n m₁ news₁ →
      wpAny (model prog w) A (isTrue test env (eval test env)) (fun b s₂ =>
        if b = true then wpAny (model prog w) A (execs body env) (WStep h₀ L s J Q n) E s₂ else Q .next s₂) E { s with heap := h₁, toks := tk₁ })
    (hE : PassesOwn (model prog w) A env E := by passes_own) :
    wpAny (model prog w) A (exec (.While test body [] pos) env) Q E s := by
  refine While_inv2 J F N hJ (fun n m₁ news₁ h₁ tk₁ F₁ N₁ J₁ => wpAny_mono (turn n m₁ news₁ h₁ tk₁ F₁ N₁ J₁) (fun b s₂ hb => ?_) fun _ _ e => e) hE
  cases b with
  | false => exact hb
  | true => exact wpAny_mono (Q := WStep h₀ L s J Q n) hb (fun f s₃ hf => by cases f <;> exact hf) fun _ _ e => e
end
end Mine

end PartH1
section PartH2
open PySem PySem.W PySem.Spec PySem.Calls PyProof.Rows
set_option maxRecDepth 100000
set_option maxHeartbeats 8000000
namespace Mine
theorem quietH2 : True := by (w_top off); trivial
abbrev ConM (r : Nat) (w : World) (mean : ExcName → Option Value) (mg mb : Str → Option Value) (f : Addr) (news news' : List (Addr × Obj)) (vs : List Value) (R : Tok → Value) : Prop :=
  ∀ (dp un : Nat) (gd : Option (List Code)) (cn : Str) (cs : Scope) (a : Addr) (ccd : Value) (cl : List (Str × Addr)) (outer : List Env) (A₀ : Around) (base h₀ : Heap) (L : Addr) (m : Str → Option Value) (s : Shared) (Q E : Value → Shared → Prop),
    Below A₀ base outer h₀ → Fr h₀ L s.heap m → (hd.heap_39 w.params).In h₀ → News h₀ L s.heap news → Top hd.view_39 (looseW hd.view_39 [Str.ofString "_filemode_table"]) mean mg mb h₀ → cs.kind = .function →
    dp + r < recursionLimit → un + 8 * r < cLine → CbRet h₀ L m news' s Q R →
      wpAny (model PySem.Challenge.rw_ny0123_01.row.prog w) (ktrTop dp un gd cn cs L a ccd cl outer) (call (.ref f) vs) Q E s
theorem ConM.use {r w mean mg mb f news news' vs R} (C : ConM r w mean mg mb f news news' vs R) {dp un : Nat} {gd : Option (List Code)} {cn : Str} {cs : Scope} {a : Addr} {ccd : Value} {cl : List (Str × Addr)} {outer : List Env} {A₀ : Around} {base h₀ : Heap} {L : Addr} {m : Str → Option Value} {s : Shared} {Q E : Value → Shared → Prop}
    (B : Below A₀ base outer h₀) (F : Fr h₀ L s.heap m) (X : (hd.heap_39 w.params).In h₀) (N : News h₀ L s.heap news) (T : Top hd.view_39 (looseW hd.view_39 [Str.ofString "_filemode_table"]) mean mg mb h₀) (hk : cs.kind = .function)
    (hd : dp + r < recursionLimit) (hu : un + 8 * r < cLine) (ret : CbRet h₀ L m news' s Q R) :
    wpAny (model PySem.Challenge.rw_ny0123_01.row.prog w) (ktrTop dp un gd cn cs L a ccd cl outer) (call (.ref f) vs) Q E s :=
  C _ _ _ _ _ _ _ _ _ _ _ _ _ _ _ _ _ B F X N T hk hd hu ret

/-- what _siftdown(heap, 0, p) makes of the places, x being the new one -/
def sdP (lt : Nat → Nat → Bool) (x : Nat) : Nat → List Nat → Nat → List Nat
  | 0, H, p => H.set p x
  | f + 1, H, p => if 0 < p then (if lt x (H.getD ((p - 1) / 2) 0) = true then sdP lt x f (H.set p (H.getD ((p - 1) / 2) 0)) ((p - 1) / 2) else H.set p x) else H.set p x
theorem sdP_len (lt : Nat → Nat → Bool) (x : Nat) : ∀ (f : Nat) (H : List Nat) (p : Nat), (sdP lt x f H p).length = H.length
  | 0, H, p => by simp [sdP]
  | f + 1, H, p => by
    unfold sdP
    split
    · split
      · rw [sdP_len lt x f]; simp
      · simp
    · simp

local macro_rules | `(tactic| walk_at "steps") => `(tactic| repeat' (first | (k_unfold; (try dsimp only)) | (k_end; kc_close) | ((try dsimp only); walk1) | (leave1; (try dsimp only)) | fail "no step"))
local macro_rules | `(tactic| walk_at "step1") => `(tactic| (first | (k_unfold; (try dsimp only)) | (k_end; kc_close) | ((try dsimp only); walk1) | (leave1; (try dsimp only)) | fail "no step"))
local macro_rules | `(tactic| walk_at "fam idx") => `(tactic| first | omega | (simp only [List.length_set]; omega))
local macro_rules | `(tactic| walk_at "subscriptTail") => `(tactic| (k_here; (with_reducible show wpAny _ _ (subscriptTail _ _ (Value.ref _) (Value.int _ _)) _ _ _); k_dflt (refine' fam_get ?k1 ?k2 ?k3 ?k4 ?_ ?k6; (case k1 => assumption); (case k2 => walk_at "fam idx"); (case k3 => walk_at "fam idx"); (case k4 => walk_at "fam idx"); (case k6 => with_unfolding_all rfl))))

theorem Fr.congrM {h₀ h : Heap} {L : Addr} {m m' : Str → Option Value} (F : Fr h₀ L h m) (e : ∀ y, m y = m' y) : Fr h₀ L h m' := by
  have : m = m' := funext e
  exact this ▸ F
theorem look3 {y a b c : Str} {va vb vc : Value} : List.lookup y [(a, va), (b, vb), (c, vc)] = if y = a then some va else if y = b then some vb else if y = c then some vc else none := by
  simp only [List.lookup_cons, List.lookup_nil]
  by_cases h1 : y = a
  · simp [h1]
  · have e1 : (y == a) = false := by simpa using h1
    rw [e1, if_neg h1]
    by_cases h2 : y = b
    · simp [h2]
    · have e2 : (y == b) = false := by simpa using h2
      rw [e2, if_neg h2]
      by_cases h3 : y = c
      · simp [h3]
      · have e3 : (y == c) = false := by simpa using h3
        rw [e3, if_neg h3]
theorem fam_mem {f : Fam} {n i : Nat} {H : List Nat} {tups : List (Addr × Obj)} (hT : ∀ i, i < n → (f.ad i, f.obj i) ∈ tups) (hH : ∀ i ∈ H, i < n) (hi : i < H.length) : (f.ad (H.getD i 0), f.obj (H.getD i 0)) ∈ tups := by
  refine hT _ (hH _ ?_)
  rw [List.getD_eq_getElem?_getD, List.getElem?_eq_getElem hi]
  exact List.getElem_mem hi
section
variable {prog : Program} {w : World} {A : Around} {E : Value → Shared → Prop} {s : Shared}
theorem rshift_half {k : Nat} {t u : Tok} {Q : Value → Shared → Prop} (hk : 0 < k) (h : ∀ t' k', Q (.int (((k - 1) / 2 : Nat) : Int) t') { s with toks := k' }) : wpAny (model prog w) A (binaryOp .RShift (.int ((k : Int) - 1) t) (.int 1 u)) Q E s := by
  refine rshift_int (by omega) ?_
  have e : ((k : Int) - 1).fdiv (2 ^ Int.toNat 1) = (((k - 1) / 2 : Nat) : Int) := by
    rw [show (2 : Int) ^ Int.toNat 1 = 2 from rfl, Int.fdiv_eq_ediv_of_nonneg _ (by omega)]
    omega
  rw [e]
  exact h _ _
end
local macro_rules | `(tactic| walk_at "binaryOp RShift int int") => `(tactic| (k_here; (refine rshift_half (by omega) ?_); intro _ _; (try dsimp only)))
local macro_rules | `(tactic| walk_at "setItem ref int") => `(tactic| (k_here; (with_reducible show wpAny _ _ (PySem.setItem (Value.ref _) (Value.int _ _) (Value.ref _)) _ _ _); k_dflt (refine' fam_set ?k1 ?k2 ?k3 ?k4 ?k5 ?k6 ?_; (case k1 => assumption); (case k2 => assumption); (case k3 => assumption); (case k4 => walk_at "fam idx"); (case k5 => walk_at "fam idx"); (case k6 => walk_at "fam idx")); intro h' F' N'))
local macro_rules | `(tactic| walk_at "compareOp Lt ref ref") => `(tactic| (k_here; (with_reducible show wpAny _ _ (compareOp CmpOp.Lt (Value.ref _) (Value.ref _)) _ _ _); k_dflt (refine' fam_lt ?k1 ?k2 ?k3 ?k4 ?_; (case k2 => assumption); (case k1 => ktr_units); (case k3 => first | assumption | exact fam_mem (by assumption) (by assumption) (by first | omega | assumption)); (case k4 => first | assumption | exact fam_mem (by assumption) (by assumption) (by first | omega | assumption)))))
local macro_rules | `(tactic| walk_at "WStep") => `(tactic| (dsimp only [WStep]))
def sdM (f : Fam) (l : Addr) (x p : Nat) (t0 t1 : Tok) (vq vp : Option Value) : Str → Option Value := fun y => if y = "parent" then vp else if y = "parentpos" then vq else if y = "pos" then some (.int (p : Int) t1) else if y = "newitem" then some (.ref (f.ad x)) else if y = "startpos" then some (.int 0 t0) else if y = "heap" then some (.ref l) else none
theorem sd_turn {g h : Heap} {L' l : Addr} {f : Fam} {x k q : Nat} {t0 t1 t' : Tok} {v : Value} {vq vq' vp : Option Value} (F : Fr g L' h fun y => if y = Str.ofString "pos" then some (.int (q : Int) t') else if y = Str.ofString "parent" then some v else if y = Str.ofString "parentpos" then vq' else sdM f l x k t0 t1 vq vp y) :
    Fr g L' h (sdM f l x q t0 t' vq' (some v)) := by
  refine Fr.congrM F (fun y => ?_)
  unfold sdM
  repeat' split
  all_goals first | rfl | (subst_vars; contradiction)
theorem sdP_fuel {lt : Nat → Nat → Bool} {x : Nat} : ∀ (f f' k : Nat) (H : List Nat), k ≤ f → k ≤ f' → sdP lt x f H k = sdP lt x f' H k
  | 0, 0, _, _, _, _ => rfl
  | 0, f' + 1, k, H, h, _ => by
    have : k = 0 := by omega
    subst this
    simp [sdP]
  | f + 1, 0, k, H, _, h => by
    have : k = 0 := by omega
    subst this
    simp [sdP]
  | f + 1, f' + 1, k, H, h, h' => by
    unfold sdP
    split
    · split
      · exact sdP_fuel f f' _ _ (by omega) (by omega)
      · rfl
    · rfl
theorem sdP_step {lt : Nat → Nat → Bool} {x k : Nat} {H : List Nat} (hk : 0 < k) (h : lt x (H.getD ((k - 1) / 2) 0) = true) :
    sdP lt x k H k = sdP lt x ((k - 1) / 2) (H.set k (H.getD ((k - 1) / 2) 0)) ((k - 1) / 2) := by
  obtain ⟨f, rfl⟩ : ∃ f, k = f + 1 := ⟨k - 1, by omega⟩
  rw [sdP, if_pos hk, if_pos h]
  exact sdP_fuel _ _ _ _ (by omega) (by omega)
theorem sdP_stop {lt : Nat → Nat → Bool} {x k : Nat} {H : List Nat} (h : 0 < k → lt x (H.getD ((k - 1) / 2) 0) = false) : ∀ f, sdP lt x f H k = H.set k x
  | 0 => rfl
  | f + 1 => by
    unfold sdP
    split
    · rename_i hk
      rw [h hk]; simp
    · rfl
theorem siftdown_c {w mean mg mb} {f : Fam} {n e : Nat} {H : List Nat} {l : Addr} {tups : List (Addr × Obj)} {p : Nat} {t0 t1 : Tok} (hT : ∀ i, i < n → (f.ad i, f.obj i) ∈ tups) (hl : ∀ q ∈ tups, q.1 ≠ l) (hH : ∀ i ∈ H, i < n) (hp : p < H.length) (hz : H.length < 64) :
    ConM 1 w mean mg mb 82 ((l, W.listOf (f.vals H).toArray e) :: tups) ((l, W.listOf (f.vals (sdP (ltS f.sg) (H.getD p 0) p H p)).toArray e) :: tups) [.ref l, .int 0 t0, .int (p : Int) t1] (fun _ => .none) := by
  dsimp only [ConM, CbRet]; k_fill
  intro dp un gd cn cs a ccd cl outer A₀ base h₀ L m s Q E hB hF hX hN hTop hk hdp hun hret
  refine wpAny_call ?_
  k_dflt cell_enter
  iterate 10 (walk_at "step1")
  rename_i g L' h0 FG B' X' T' tk0 h1 F1 N1
  have F2 : Fr g L' h1 (sdM f l (H.getD p 0) p t0 t1 none none) := by
    refine Fr.congrM F1 (fun y => ?_)
    show (if y = Str.ofString "newitem" then some (Value.ref (f.ad (H.getD (p : Int).toNat 0))) else List.lookup y [(Str.ofString "pos", .int (p : Int) t1), (Str.ofString "startpos", .int 0 t0), (Str.ofString "heap", Value.ref l)]) = _
    rw [look3, Int.toNat_natCast]
    unfold sdM
    repeat' split
    all_goals first | rfl | (subst_vars; contradiction)
  clear F1
  refine While_br (fun k m₁ news₁ => ∃ H' t1' vq vp, m₁ = sdM f l (H.getD p 0) k t0 t1' vq vp ∧ news₁ = (l, W.listOf (f.vals H').toArray e) :: tups ∧ sdP (ltS f.sg) (H.getD p 0) k H' k = sdP (ltS f.sg) (H.getD p 0) p H p ∧ H'.length = H.length ∧ k < H'.length ∧ (∀ i ∈ H', i < n)) (n₀ := p) F2 N1 ⟨H, t1, none, none, rfl, rfl, rfl, rfl, hp, hH⟩ ?_
  rintro k m₁ news₁ h₁ tk₁ F₁ N₁ ⟨H', t1', vq, vp, rfl, rfl, hs, hlen, hk', hH'⟩
  walk_at "steps"
  · rename_i hlt _ _ F5 N5
    rw [Int.toNat_natCast] at hlt
    rw [Int.toNat_natCast, Int.toNat_natCast] at N5
    have hk0 : 0 < k := by omega
    refine ⟨_, _, _, _, (k - 1) / 2, rfl, sd_turn F5, N5, by omega, _, _, _, _, rfl, rfl, ?_, ?_, ?_, ?_⟩
    · rw [← hs, sdP_step hk0 hlt]
    · rw [List.length_set, hlen]
    · rw [List.length_set]; omega
    · intro i hi
      rcases List.mem_or_eq_of_mem_set hi with h | h
      · exact hH' i h
      · rw [h]
        refine hH' _ ?_
        rw [List.getD_eq_getElem?_getD, List.getElem?_eq_getElem (by omega)]
        exact List.getElem_mem _
  · rename_i hlt _ _ _ kF kN _ kX
    rw [Int.toNat_natCast] at hlt
    rw [Int.toNat_natCast] at kN
    refine hret 0 _ _ kF ?_
    rw [← hs, sdP_stop (fun _ => hlt)]
    exact kN
  · rename_i hk0 _ _ _ kF kN _ kX
    rw [Int.toNat_natCast] at kN
    refine hret 0 _ _ kF ?_
    rw [← hs, sdP_stop (fun h => absurd (by omega) hk0)]
    exact kN
end Mine

end PartH2
section PartH3
open PySem PySem.W PySem.Spec PySem.Calls PyProof.Rows
set_option maxRecDepth 100000
set_option maxHeartbeats 8000000
namespace Mine
theorem quietH3 : True := by (w_top off); trivial
local macro_rules | `(tactic| walk_at "steps") => `(tactic| repeat' (first | (k_unfold; (try dsimp only)) | (k_end; kc_close) | ((try dsimp only); walk1) | (leave1; (try dsimp only)) | fail "no step"))
local macro_rules | `(tactic| walk_at "step1") => `(tactic| (first | (k_unfold; (try dsimp only)) | (k_end; kc_close) | ((try dsimp only); walk1) | (leave1; (try dsimp only)) | fail "no step"))
local macro_rules | `(tactic| walk_at "fam idx") => `(tactic| first | omega | (simp only [List.length_set]; omega))
local macro_rules | `(tactic| walk_at "subscriptTail") => `(tactic| (k_here; (with_reducible show wpAny _ _ (subscriptTail _ _ (Value.ref _) (Value.int _ _)) _ _ _); k_dflt (refine' fam_get ?k1 ?k2 ?k3 ?k4 ?_ ?k6; (case k1 => assumption); (case k2 => walk_at "fam idx"); (case k3 => walk_at "fam idx"); (case k4 => walk_at "fam idx"); (case k6 => with_unfolding_all rfl))))
local macro_rules | `(tactic| walk_at "binaryOp RShift int int") => `(tactic| (k_here; (refine rshift_half (by omega) ?_); intro _ _; (try dsimp only)))
local macro_rules | `(tactic| walk_at "setItem ref int") => `(tactic| (k_here; (with_reducible show wpAny _ _ (PySem.setItem (Value.ref _) (Value.int _ _) (Value.ref _)) _ _ _); k_dflt (refine' fam_set ?k1 ?k2 ?k3 ?k4 ?k5 ?k6 ?_; (case k1 => assumption); (case k2 => assumption); (case k3 => assumption); (case k4 => walk_at "fam idx"); (case k5 => walk_at "fam idx"); (case k6 => walk_at "fam idx")); intro h' F' N'))
local macro_rules | `(tactic| walk_at "compareOp Lt ref ref") => `(tactic| (k_here; (with_reducible show wpAny _ _ (compareOp CmpOp.Lt (Value.ref _) (Value.ref _)) _ _ _); k_dflt (refine' fam_lt ?k1 ?k2 ?k3 ?k4 ?_; (case k2 => assumption); (case k1 => ktr_units); (case k3 => first | assumption | exact fam_mem (by assumption) (by assumption) (by first | omega | assumption)); (case k4 => first | assumption | exact fam_mem (by assumption) (by assumption) (by first | omega | assumption)))))
local macro_rules | `(tactic| walk_at "WStep") => `(tactic| (dsimp only [WStep]))
section
variable {prog : Program} {w : World} {A : Around} {E : Value → Shared → Prop} {s : Shared}
theorem fam_len {f : Fam} {H : List Nat} {e : Nat} {tups : List (Addr × Obj)} {h₀ : Heap} {L l : Addr} {Q : Value → Shared → Prop} (N : News h₀ L s.heap ((l, W.listOf (f.vals H).toArray e) :: tups)) (hz : H.length < 64)
    (h : ∀ t k, Q (.int (H.length : Int) t) { s with toks := k }) : wpAny (model prog w) A (call (.builtin "len") [.ref l]) Q E s := by
  have hl : s.heap.IsList l (f.vals H).toArray := PySem.IsL.isList (n := e) (N _ (.head _)).1
  have e : (f.vals H).toArray.size = H.length := by simp [Fam.vals]
  refine PyProof.Rows.len_list hl (by omega) ?_
  rw [e]
  exact h _ _
end
local macro_rules | `(tactic| walk_at "call builtin:len") => `(tactic| (k_here; (with_reducible show wpAny _ _ (call (Value.builtin "len") [Value.ref _]) _ _ _); k_dflt (refine' fam_len ?k1 ?k2 ?_; (case k1 => assumption); (case k2 => omega)); intro _ _; (try dsimp only)))
def suC (lt : Nat → Nat → Bool) (H : List Nat) (p : Nat) : Nat := if 2 * p + 2 < H.length ∧ lt (H.getD (2 * p + 1) 0) (H.getD (2 * p + 2) 0) = false then 2 * p + 2 else 2 * p + 1
def suLoop (lt : Nat → Nat → Bool) : Nat → List Nat → Nat → List Nat × Nat
  | 0, H, p => (H, p)
  | f + 1, H, p => if 2 * p + 1 < H.length then suLoop lt f (H.set p (H.getD (suC lt H p) 0)) (suC lt H p) else (H, p)
def suR (lt : Nat → Nat → Bool) (x : Nat) (r : List Nat × Nat) : List Nat := sdP lt x r.2 (r.1.set r.2 x) r.2
def su (lt : Nat → Nat → Bool) (H : List Nat) : List Nat := suR lt (H.getD 0 0) (suLoop lt H.length H 0)

def suM (f : Fam) (l : Addr) (x : Nat) (t0 t1 t2 t3 : Tok) (n pi ci : Int) (vr : Option Value) : Str → Option Value := fun y => if y = "rightpos" then vr else if y = "childpos" then some (.int ci t3) else if y = "pos" then some (.int pi t1) else if y = "newitem" then some (.ref (f.ad x)) else if y = "startpos" then some (.int 0 t0) else if y = "endpos" then some (.int n t2) else if y = "heap" then some (.ref l) else none

theorem suC_ge (lt : Nat → Nat → Bool) (H : List Nat) (p : Nat) : 2 * p + 1 ≤ suC lt H p := by
  unfold suC; split <;> omega
theorem suC_lt {lt : Nat → Nat → Bool} {H : List Nat} {p : Nat} (h : 2 * p + 1 < H.length) : suC lt H p < H.length := by
  unfold suC; split <;> omega
theorem suLoop_fuel {lt : Nat → Nat → Bool} : ∀ (f f' : Nat) (H : List Nat) (p : Nat), p < H.length → H.length - p ≤ f → H.length - p ≤ f' → suLoop lt f H p = suLoop lt f' H p
  | 0, _, H, p, h, h1, _ => by omega
  | _ + 1, 0, H, p, h, _, h1 => by omega
  | f + 1, f' + 1, H, p, h, h1, h2 => by
    unfold suLoop
    split
    · rename_i hc
      have g1 := suC_ge lt H p
      have g2 := suC_lt (lt := lt) hc
      exact suLoop_fuel f f' _ _ (by rw [List.length_set]; exact g2) (by rw [List.length_set]; omega) (by rw [List.length_set]; omega)
    · rfl
theorem su_next {lt : Nat → Nat → Bool} {k n p c : Nat} {H : List Nat} (hk : k = n - p) (hlen : H.length = n) (hp : p < n) (hc : 2 * p + 1 < n) (hcc : suC lt H p = c) : suLoop lt k H p = suLoop lt (n - c) (H.set p (H.getD c 0)) c := by
  subst hcc hlen
  have g1 := suC_ge lt H p
  have g2 := suC_lt (lt := lt) hc
  obtain ⟨f, hf⟩ : ∃ f, k = f + 1 := ⟨k - 1, by omega⟩
  rw [hf, suLoop, if_pos hc]
  exact suLoop_fuel _ _ _ _ (by rw [List.length_set]; exact g2) (by rw [List.length_set]; omega) (by rw [List.length_set]; omega)
theorem su_stop {lt : Nat → Nat → Bool} {k p : Nat} {H : List Nat} (hc : ¬ 2 * p + 1 < H.length) : suLoop lt k H p = (H, p) := by
  cases k with
  | zero => rfl
  | succ f => rw [suLoop, if_neg hc]
theorem getD_mem {H : List Nat} {i n : Nat} (hH : ∀ j ∈ H, j < n) (hi : i < H.length) : H.getD i 0 < n := by
  refine hH _ ?_
  rw [List.getD_eq_getElem?_getD, List.getElem?_eq_getElem hi]
  exact List.getElem_mem hi
theorem set_all {H : List Nat} {k x n : Nat} (hH : ∀ j ∈ H, j < n) (hx : x < n) : ∀ j ∈ H.set k x, j < n := fun j hj => by
  rcases List.mem_or_eq_of_mem_set hj with h | h
  · exact hH j h
  · rw [h]; exact hx
theorem look2 {y a b : Str} {va vb : Value} : List.lookup y [(a, va), (b, vb)] = if y = a then some va else if y = b then some vb else none := by
  simp only [List.lookup_cons, List.lookup_nil]
  by_cases h1 : y = a
  · simp [h1]
  · have e1 : (y == a) = false := by simpa using h1
    rw [e1, if_neg h1]
    by_cases h2 : y = b
    · simp [h2]
    · have e2 : (y == b) = false := by simpa using h2
      rw [e2, if_neg h2]
theorem su_start {g h : Heap} {L' l : Addr} {f : Fam} {x : Nat} {n c : Int} {t0 t2 t3 : Tok} (F : Fr g L' h fun y => if y = Str.ofString "childpos" then some (.int c t3) else if y = Str.ofString "newitem" then some (.ref (f.ad x)) else if y = Str.ofString "startpos" then some (.int 0 t0) else if y = Str.ofString "endpos" then some (.int n t2) else List.lookup y [(Str.ofString "pos", .int 0 t0), (Str.ofString "heap", .ref l)]) :
    Fr g L' h (suM f l x t0 t0 t2 t3 n 0 c none) := by
  refine Fr.congrM F (fun y => ?_)
  rw [look2]
  unfold suM
  repeat' split
  all_goals first | rfl | (subst_vars; contradiction)
theorem su_turn {g h : Heap} {L' l : Addr} {f : Fam} {x : Nat} {n pi ci c q : Int} {t0 t1 t2 t3 t1' t3' : Tok} {vr vr' : Option Value} (F : Fr g L' h fun y => if y = Str.ofString "childpos" then some (.int c t3') else if y = Str.ofString "pos" then some (.int q t1') else if y = Str.ofString "rightpos" then vr' else suM f l x t0 t1 t2 t3 n pi ci vr y) :
    Fr g L' h (suM f l x t0 t1' t2 t3' n q c vr') := by
  refine Fr.congrM F (fun y => ?_)
  unfold suM
  repeat' split
  all_goals first | rfl | (subst_vars; contradiction)
theorem su_turn' {g h : Heap} {L' l : Addr} {f : Fam} {x : Nat} {n pi ci c q : Int} {t0 t1 t2 t3 t1' t3' : Tok} {vr vr' vc : Option Value} (F : Fr g L' h fun y => if y = Str.ofString "childpos" then some (.int c t3') else if y = Str.ofString "pos" then some (.int q t1') else if y = Str.ofString "childpos" then vc else if y = Str.ofString "rightpos" then vr' else suM f l x t0 t1 t2 t3 n pi ci vr y) :
    Fr g L' h (suM f l x t0 t1' t2 t3' n q c vr') := by
  refine Fr.congrM F (fun y => ?_)
  unfold suM
  repeat' split
  all_goals first | rfl | (subst_vars; contradiction)


theorem siftup_c {w mean mg mb} {f : Fam} {n e : Nat} {H : List Nat} {l : Addr} {tups : List (Addr × Obj)} {t0 : Tok} (hT : ∀ i, i < n → (f.ad i, f.obj i) ∈ tups) (hl : ∀ q ∈ tups, q.1 ≠ l) (hH : ∀ i ∈ H, i < n) (hp : 0 < H.length) (hz : H.length < 64) :
    ConM 2 w mean mg mb 89 ((l, W.listOf (f.vals H).toArray e) :: tups) ((l, W.listOf (f.vals (su (ltS f.sg) H)).toArray e) :: tups) [.ref l, .int 0 t0] (fun _ => .none) := by
  dsimp only [ConM, CbRet]; k_fill
  intro dp un gd cn cs a ccd cl outer A₀ base h₀ L m s Q E hB hF hX hN hTop hk hdp hun hret
  refine wpAny_call ?_
  k_dflt cell_enter
  iterate 37 (walk_at "step1")
  rename_i F1 N1
  have F2 := su_start F1
  rw [show H.getD (Int.toNat 0) 0 = H.getD 0 0 from rfl] at F2
  clear F1
  refine While_br (fun k m₁ news₁ => ∃ H' p pi ci t1' t3' vr, k = H.length - p ∧ m₁ = suM f l (H.getD 0 0) t0 t1' _ t3' (H.length : Int) pi ci vr ∧ pi = (p : Int) ∧ ci = 2 * (p : Int) + 1 ∧ news₁ = (l, W.listOf (f.vals H').toArray e) :: tups ∧ suR (ltS f.sg) (H.getD 0 0) (suLoop (ltS f.sg) k H' p) = su (ltS f.sg) H ∧ H'.length = H.length ∧ p < H.length ∧ (∀ i ∈ H', i < n)) (n₀ := H.length) F2 N1 ⟨H, 0, 0, _, _, _, none, rfl, rfl, rfl, rfl, rfl, rfl, rfl, hp, hH⟩ ?_
  rintro k m₁ news₁ h₁ tk₁ F₁ N₁ ⟨H', p, pi, ci, t1', t3', vr, hkk, rfl, hpi, hci, rfl, hs, hlen, hk', hH'⟩
  walk_at "steps"
  · rename_i F5 N5
    rename ltS _ _ _ = true => hlt
    rw [show pi.toNat = p by omega, show ci.toNat = 2 * p + 1 by omega] at N5
    rw [show ci.toNat = 2 * p + 1 by omega, show (ci + 1).toNat = 2 * p + 2 by omega] at hlt
    refine ⟨_, _, _, _, H.length - (2 * p + 1), rfl, su_turn F5, N5, by omega, _, 2 * p + 1, _, _, _, _, _, rfl, rfl, by omega, by omega, rfl, ?_, by rw [List.length_set, hlen], by omega, set_all hH' (getD_mem hH' (by omega))⟩
    rw [← hs, su_next hkk hlen hk' (by omega) (c := 2 * p + 1) (by unfold suC; rw [if_neg (by rw [hlt]; simp)])]
  · rename_i F5 N5
    rename ltS _ _ _ = false => hlt
    rw [show pi.toNat = p by omega, show (ci + 1).toNat = 2 * p + 2 by omega] at N5
    rw [show ci.toNat = 2 * p + 1 by omega, show (ci + 1).toNat = 2 * p + 2 by omega] at hlt
    refine ⟨_, _, _, _, H.length - (2 * p + 2), rfl, su_turn' F5, N5, by omega, _, 2 * p + 2, _, _, _, _, _, rfl, rfl, by omega, by omega, rfl, ?_, by rw [List.length_set, hlen], by omega, set_all hH' (getD_mem hH' (by omega))⟩
    rw [← hs, su_next hkk hlen hk' (by omega) (c := 2 * p + 2) (by unfold suC; rw [if_pos ⟨by omega, hlt⟩])]
  · rename_i F5 N5
    rw [show pi.toNat = p by omega, show ci.toNat = 2 * p + 1 by omega] at N5
    refine ⟨_, _, _, _, H.length - (2 * p + 1), rfl, su_turn F5, N5, by omega, _, 2 * p + 1, _, _, _, _, _, rfl, rfl, by omega, by omega, rfl, ?_, by rw [List.length_set, hlen], by omega, set_all hH' (getD_mem hH' (by omega))⟩
    rw [← hs, su_next hkk hlen hk' (by omega) (c := 2 * p + 1) (by unfold suC; rw [if_neg (by omega)])]
  · rename_i F5 N5
    rename ¬ _ < _ => hstop
    subst hpi
    rw [Int.toNat_natCast] at N5
    have hx0 : H.getD 0 0 < n := getD_mem hH hp
    have hxe : (H'.set p (H.getD 0 0)).getD p 0 = H.getD 0 0 := by
      rw [List.getD_eq_getElem?_getD, List.getElem?_set_self (by omega)]; rfl
    k_here
    k_dflt (refine' ConM.use (siftdown_c (n := n) (e := e) (p := p) (H := H'.set p (H.getD 0 0)) hT hl (set_all hH' hx0) (by rw [List.length_set]; omega) (by rw [List.length_set]; omega)) ?k1 ?k2 ?k3 ?k4 ?k5 ?kK ?kd ?ku ?_)
    case k1 => k_asm
    case k2 => k_asm
    case k3 => k_asm
    case k4 => exact N5
    case k5 => k_asm
    case kK => first | exact rfl | assumption
    case kd => ktr_room
    case ku => ktr_units
    intro t9 h9 tk9 F9 N9
    dsimp only
    walk_at "steps"
    rename_i kF kN _ _
    refine hret 0 _ _ kF ?_
    rw [hxe] at kN
    rw [← hs, su_stop (by omega)]
    exact kN
end Mine

end PartH3
section PartH4
open PySem PySem.W PySem.Spec PySem.Calls PyProof.Rows
set_option maxRecDepth 100000
set_option maxHeartbeats 8000000
namespace Mine
theorem quietH4 : True := by (w_top off); trivial
local macro_rules | `(tactic| walk_at "steps") => `(tactic| repeat' (first | (k_unfold; (try dsimp only)) | (k_end; kc_close) | ((try dsimp only); walk1) | (leave1; (try dsimp only)) | fail "no step"))
local macro_rules | `(tactic| walk_at "step1") => `(tactic| (first | (k_unfold; (try dsimp only)) | (k_end; kc_close) | ((try dsimp only); walk1) | (leave1; (try dsimp only)) | fail "no step"))
local macro_rules | `(tactic| walk_at "fam idx") => `(tactic| first | omega | (simp only [List.length_set]; omega))
local macro_rules | `(tactic| walk_at "subscriptTail") => `(tactic| (k_here; (with_reducible show wpAny _ _ (subscriptTail _ _ (Value.ref _) (Value.int _ _)) _ _ _); k_dflt (refine' fam_get ?k1 ?k2 ?k3 ?k4 ?_ ?k6; (case k1 => assumption); (case k2 => walk_at "fam idx"); (case k3 => walk_at "fam idx"); (case k4 => walk_at "fam idx"); (case k6 => with_unfolding_all rfl))))
local macro_rules | `(tactic| walk_at "binaryOp RShift int int") => `(tactic| (k_here; (refine rshift_half (by omega) ?_); intro _ _; (try dsimp only)))
local macro_rules | `(tactic| walk_at "setItem ref int") => `(tactic| (k_here; (with_reducible show wpAny _ _ (PySem.setItem (Value.ref _) (Value.int _ _) (Value.ref _)) _ _ _); k_dflt (refine' fam_set ?k1 ?k2 ?k3 ?k4 ?k5 ?k6 ?_; (case k1 => assumption); (case k2 => assumption); (case k3 => assumption); (case k4 => walk_at "fam idx"); (case k5 => walk_at "fam idx"); (case k6 => walk_at "fam idx")); intro h' F' N'))
local macro_rules | `(tactic| walk_at "compareOp Lt ref ref") => `(tactic| (k_here; (with_reducible show wpAny _ _ (compareOp CmpOp.Lt (Value.ref _) (Value.ref _)) _ _ _); k_dflt (refine' fam_lt ?k1 ?k2 ?k3 ?k4 ?_; (case k2 => assumption); (case k1 => ktr_units); (case k3 => first | assumption | exact fam_mem (by assumption) (by assumption) (by first | omega | assumption)); (case k4 => first | assumption | exact fam_mem (by assumption) (by assumption) (by first | omega | assumption)))))
local macro_rules | `(tactic| walk_at "WStep") => `(tactic| (dsimp only [WStep]))
local macro_rules | `(tactic| walk_at "call builtin:len") => `(tactic| (k_here; (with_reducible show wpAny _ _ (call (Value.builtin "len") [Value.ref _]) _ _ _); k_dflt (refine' fam_len ?k1 ?k2 ?_; (case k1 => assumption); (case k2 => omega)); intro _ _; (try dsimp only)))
section
variable {prog : Program} {w : World} {A : Around} {E : Value → Shared → Prop} {s : Shared} {f : Fam} {H : List Nat} {e x : Nat} {tups : List (Addr × Obj)} {h₀ : Heap} {L l : Addr} {m : Str → Option Value}
theorem fam_append {Q : Value → Shared → Prop} (F : Fr h₀ L s.heap m) (N : News h₀ L s.heap ((l, W.listOf (f.vals H).toArray e) :: tups)) (ht : ∀ p ∈ tups, p.1 ≠ l) (hz : H.length < 64)
    (h : ∀ h', Fr h₀ L h' m → News h₀ L h' ((l, W.listOf (f.vals (H ++ [x])).toArray (e + 1)) :: tups) → Q .none { s with heap := h' }) : wpAny (model prog w) A (call (.builtin "list.append") [.ref l, .ref (f.ad x)]) Q E s := by
  refine append_K (its := (f.vals H).toArray) (n := e) F N (news' := (l, W.listOf (f.vals (H ++ [x])).toArray (e + 1)) :: tups) ?_ h ?_
  · have : (f.vals (H ++ [x])).toArray = (f.vals H).toArray.push (.ref (f.ad x)) := by simp [Fam.vals]
    rw [this]
    exact Upd.head ht
  · have : (f.vals H).toArray.size = H.length := by simp [Fam.vals]
    rw [this, sizeLine_eq]; omega
theorem kl_last_app : ∀ (l : List Value) (y : Value), kl_last (l ++ [y]) = some (l, y)
  | [], _ => rfl
  | a :: r, y => by
    show (match kl_last (r ++ [y]) with | some (p, y) => some (a :: p, y) | none => some ([], a)) = _
    rw [kl_last_app r y]
theorem fam_pop {Q : Value → Shared → Prop} (F : Fr h₀ L s.heap m) (N : News h₀ L s.heap ((l, W.listOf (f.vals (H ++ [x])).toArray e) :: tups)) (ht : ∀ p ∈ tups, p.1 ≠ l) (hz : H.length < 60)
    (h : ∀ h', Fr h₀ L h' m → News h₀ L h' ((l, W.listOf (f.vals H).toArray (e + 1)) :: tups) → Q (.ref (f.ad x)) { s with heap := h' }) : wpAny (model prog w) A (call (.builtin "list.pop") [.ref l]) Q E s := by
  refine kl_pop F N (p := f.vals H) (y := .ref (f.ad x)) (news' := (l, W.listOf (f.vals H).toArray (e + 1)) :: tups) ?_ (Upd.head ht) ?_ h
  · have : (f.vals (H ++ [x])).toArray.toList = f.vals H ++ [.ref (f.ad x)] := by simp [Fam.vals]
    rw [this, kl_last_app]
  · have : (f.vals (H ++ [x])).toArray.toList.length = H.length + 1 := by simp [Fam.vals]
    rw [this, sizeLine_eq]; omega
theorem fam_truthy {Q : Bool → Shared → Prop} (N : News h₀ L s.heap ((l, W.listOf (f.vals H).toArray e) :: tups)) (hz : H.length < 60) (h : ∀ k, Q (decide (0 < H.length)) { s with toks := k }) : wpAny (model prog w) A (truthy (.ref l)) Q E s := by
  have hl : s.heap.IsList l (f.vals H).toArray := PySem.IsL.isList (n := e) (N _ (.head _)).1
  have hs : (f.vals H).toArray.size = H.length := by simp [Fam.vals]
  refine wpAny_truthy_list hl (by omega) ?_
  have : (!(f.vals H).toArray.isEmpty) = decide (0 < H.length) := by
    cases H with
    | nil => rfl
    | cons a r => simp [Fam.vals]
  rw [this]
  exact h _
end
local macro_rules | `(tactic| walk_at "call builtin:list.append") => `(tactic| (k_here; (with_reducible show wpAny _ _ (call (Value.builtin _) [Value.ref _, Value.ref _]) _ _ _); k_dflt (refine' fam_append ?k1 ?k2 ?k3 ?k4 ?_; (case k1 => assumption); (case k2 => assumption); (case k3 => assumption); (case k4 => walk_at "fam idx")); intro h' F' N'))
local macro_rules | `(tactic| walk_at "call builtin:list.pop") => `(tactic| (k_here; (with_reducible show wpAny _ _ (call (Value.builtin _) [Value.ref _]) _ _ _); k_dflt (refine' fam_pop ?k1 ?k2 ?k3 ?k4 ?_; (case k1 => assumption); (case k2 => assumption); (case k3 => assumption); (case k4 => walk_at "fam idx")); intro h' F' N'))
local macro_rules | `(tactic| walk_at "truthy ref") => `(tactic| (k_here; (with_reducible show wpAny _ _ (truthy (Value.ref _)) _ _ _); k_dflt (refine' fam_truthy ?k1 ?k2 ?_; (case k1 => assumption); (case k2 => walk_at "fam idx")); intro _; (try dsimp only)))
local macro_rules | `(tactic| walk_at "fam idx") => `(tactic| first | omega | (simp only [List.length_set]; omega) | (simp only [List.length_append, List.length_cons, List.length_nil]; omega))
local macro_rules | `(tactic| walk_at "call builtin:len") => `(tactic| (k_here; (with_reducible show wpAny _ _ (call (Value.builtin "len") [Value.ref _]) _ _ _); k_dflt (refine' fam_len ?k1 ?k2 ?_; (case k1 => assumption); (case k2 => walk_at "fam idx")); intro _ _; (try dsimp only)))
theorem app_all {H : List Nat} {x n : Nat} (hH : ∀ j ∈ H, j < n) (hx : x < n) : ∀ j ∈ H ++ [x], j < n := fun j hj => by
  rcases List.mem_append.mp hj with h | h
  · exact hH j h
  · rw [List.mem_singleton.mp h]; exact hx

theorem heappush_c {w mean mg mb} {f : Fam} {n e x : Nat} {H : List Nat} {l : Addr} {tups : List (Addr × Obj)} (hT : ∀ i, i < n → (f.ad i, f.obj i) ∈ tups) (hl : ∀ q ∈ tups, q.1 ≠ l) (hH : ∀ i ∈ H, i < n) (hx : x < n) (hz : H.length < 60) :
    ConM 2 w mean mg mb 68 ((l, W.listOf (f.vals H).toArray e) :: tups) ((l, W.listOf (f.vals (sdP (ltS f.sg) x H.length (H ++ [x]) H.length)).toArray (e + 1)) :: tups) [.ref l, .ref (f.ad x)] (fun _ => .none) := by
  dsimp only [ConM, CbRet]; k_fill
  intro dp un gd cn cs a ccd cl outer A₀ base h₀ L m s Q E hB hF hX hN hTop hk hdp hun hret
  refine wpAny_call ?_
  k_dflt cell_enter
  walk_at "steps"
  rename_i F5 N5 _ _
  rw [show ((H ++ [x]).length : Int) - 1 = (H.length : Int) by simp]
  have hxe : (H ++ [x]).getD H.length 0 = x := by
    rw [List.getD_eq_getElem?_getD, List.getElem?_append_right (Nat.le_refl _)]; simp
  k_here
  k_dflt (refine' ConM.use (siftdown_c (n := n) (e := e + 1) (p := H.length) (H := H ++ [x]) hT hl (app_all hH hx) (by simp) (by simp; omega)) ?k1 ?k2 ?k3 ?k4 ?k5 ?kK ?kd ?ku ?_)
  case k1 => k_asm
  case k2 => k_asm
  case k3 => k_asm
  case k4 => exact N5
  case k5 => k_asm
  case kK => first | exact rfl | assumption
  case kd => ktr_room
  case ku => ktr_units
  intro t9 h9 tk9 F9 N9
  dsimp only
  rw [hxe] at N9
  walk_at "steps"
  rename_i kF kN _ _
  exact hret 0 _ _ kF kN

def popL (lt : Nat → Nat → Bool) (H : List Nat) (x : Nat) : List Nat := if H = [] then [] else su lt (H.set 0 x)
theorem heappop_c {w mean mg mb} {f : Fam} {n e x : Nat} {H : List Nat} {l : Addr} {tups : List (Addr × Obj)} (hT : ∀ i, i < n → (f.ad i, f.obj i) ∈ tups) (hl : ∀ q ∈ tups, q.1 ≠ l) (hH : ∀ i ∈ H, i < n) (hx : x < n) (hz : H.length < 60) :
    ConM 3 w mean mg mb 75 ((l, W.listOf (f.vals (H ++ [x])).toArray e) :: tups) ((l, W.listOf (f.vals (popL (ltS f.sg) H x)).toArray (e + 1)) :: tups) [.ref l] (fun _ => .ref (f.ad ((H ++ [x]).getD 0 0))) := by
  dsimp only [ConM, CbRet]; k_fill
  intro dp un gd cn cs a ccd cl outer A₀ base h₀ L m s Q E hB hF hX hN hTop hk hdp hun hret
  refine wpAny_call ?_
  k_dflt cell_enter
  walk_at "steps"
  · rename_i F5 N5
    rename 0 < H.length => hpos
    rw [show Int.toNat 0 = 0 from rfl] at N5
    have hne : H ≠ [] := fun h => by rw [h] at hpos; exact absurd hpos (by simp)
    k_here
    k_dflt (refine' ConM.use (siftup_c (n := n) (e := e + 1) (H := H.set 0 x) hT hl (set_all hH hx) (by rw [List.length_set]; omega) (by rw [List.length_set]; omega)) ?k1 ?k2 ?k3 ?k4 ?k5 ?kK ?kd ?ku ?_)
    case k1 => k_asm
    case k2 => k_asm
    case k3 => k_asm
    case k4 => exact N5
    case k5 => k_asm
    case kK => first | exact rfl | assumption
    case kd => ktr_room
    case ku => ktr_units
    intro t9 h9 tk9 F9 N9
    dsimp only
    walk_at "steps"
    rename_i kF kN _ _
    have e1 : (H ++ [x]).getD 0 0 = H.getD (Int.toNat 0) 0 := by
      cases H with
      | nil => exact absurd rfl hne
      | cons a r => rfl
    rw [e1] at hret
    refine hret 0 _ _ kF ?_
    rw [show popL (ltS f.sg) H x = su (ltS f.sg) (H.set 0 x) from if_neg hne]
    exact kN
  · rename_i kF kN _ _
    rename ¬ 0 < H.length => hpos
    have hne : H = [] := by
      cases H with
      | nil => rfl
      | cons a r => exact absurd (by simp) hpos
    subst hne
    exact hret 0 _ _ kF kN
end Mine

end PartH4
section PartG1
open PySem PySem.W PySem.Spec PySem.Calls PyProof.Rows
set_option maxRecDepth 100000
set_option maxHeartbeats 4000000
namespace Mine
theorem quietG1 : True := by (w_top off); trivial
section
variable {prog : Program} {w : World} {A : Around} {R : Result → Shared → Prop} {s : Shared} {h₀ : Heap} {L D C I : Addr} {m : Str → Option Value} {fp wr : List Addr} {n : Nat} {P Md : Nat → Value → Heap → Prop} {St : Nat → Heap → Prop} {target elt iter : Expr} {scope : Scope} {pos : Pos} {cenv : Env}

def CStep (h₀ : Heap) (L : Addr) (m : Str → Option Value) (s : Shared) (D C : Addr) (own : List (Addr × Obj)) (wr : List Addr) (ys : List Value) (e : Nat) (J : List Value → List (Addr × Obj) → Prop) (y : Value) (s₃ : Shared) : Prop :=
  ∃ h' tk' news₂ mC, s₃ = { s with heap := h', toks := tk' } ∧ Fr h₀ L h' m ∧ News h₀ L h' ((D, W.listOf ys.toArray e) :: (own ++ news₂)) ∧ h'.Ns C mC ∧ (∀ p ∈ news₂, p.1 ≠ D ∧ p.1 ≠ C ∧ p.1 ∉ wr) ∧ J (ys ++ [y]) news₂

theorem compLoop_turns {news : List (Addr × Obj)} {mC₀ : Str → Option Value} {e₀ : Nat} (J : Nat → List Value → List (Addr × Obj) → Prop) (KT : KTurns prog w A target I fp wr n P Md St) (hC : cenv.locals = C)
    (hDf : D ∉ fp) (hCf : C ∉ fp) (hLf : L ∉ fp) (hDC : D ≠ C) (hwr : ∀ b ∈ wr, h₀.get? b = none) (hn64 : n < 64)
    (hst : St 0 s.heap) (F : Fr h₀ L s.heap m) (N : News h₀ L s.heap ((D, W.listOf #[] e₀) :: news)) (hnews : ∀ p ∈ news, p.1 ≠ D ∧ p.1 ≠ C ∧ p.1 ∉ wr) (hns : s.heap.Ns C mC₀) (hJ : J 0 [] news)
    (turn : ∀ i v ys e news₁ h tk own mC, i < n → P i v h → St (i + 1) h → J i ys news₁ → ys.length = i → (∀ p ∈ news₁, p.1 ≠ D ∧ p.1 ≠ C ∧ p.1 ∉ wr) → (∀ p ∈ own, p.1 ∈ fp) → (∀ b ∈ fp, h₀.get? b = none → ∀ o, h.get? b = some o → (b, o) ∈ own) → Fr h₀ L h m → News h₀ L h ((D, W.listOf ys.toArray e) :: (own ++ news₁)) → h.Ns C mC →
      wpAny (model prog w) A (assign target cenv v) (fun _ s₂ => wpAny (model prog w) A (eval elt cenv) (CStep h₀ L m s D C own wr ys e (J (i + 1))) (fun _ _ => False) s₂) (fun _ _ => False) { s with heap := h, toks := tk })
    (done : ∀ ys e news' h tk mC, J n ys news' → ys.length = n → Fr h₀ L h m → News h₀ L h ((D, W.listOf ys.toArray e) :: news') → (∀ p ∈ news', p.1 ≠ D ∧ p.1 ≠ C) → h.Ns C mC → R (.ok .next) { s with heap := h, toks := tk }) :
    codeAny (model prog w) A (.compLoop (.ListComp elt [⟨target, iter, [], 0⟩] scope pos) 0 (.ref I) (.ref D) cenv) R s := by
  subst hC
  have hLw : L ∉ wr := fun h => hLf (KT.sub _ h)
  have hDw : D ∉ wr := fun h => hDf (KT.sub _ h)
  have hCw : cenv.locals ∉ wr := fun h => hCf (KT.sub _ h)
  have old : ∀ b o, h₀.get? b = some o → b ∉ wr := fun b o e hb => by rw [hwr b hb] at e; cases e
  refine codeAny_loop rfl (fun k s' => ∃ i ys e news₁ h tk mC, s' = { s with heap := h, toks := tk } ∧ St i h ∧ Fr h₀ L h m ∧ News h₀ L h ((D, W.listOf ys.toArray e) :: news₁) ∧ (∀ p ∈ news₁, p.1 ≠ D ∧ p.1 ≠ cenv.locals ∧ p.1 ∉ wr) ∧ h.Ns cenv.locals mC ∧ J i ys news₁ ∧ ys.length = i ∧ i ≤ n ∧ k = n + 1 - i) (fun k s' hI => ?_) (n + 1)
    ⟨0, [], e₀, news, s.heap, s.toks, mC₀, rfl, hst, F, N, hnews, hns, hJ, rfl, Nat.zero_le _, rfl⟩
  obtain ⟨i, ys, e, news₁, h, tk, mC, rfl, hst', F', N', hap, hns', hJ', hyl, hi, rfl⟩ := hI
  show wpAny _ _ ((compTurn (.ListComp elt [⟨target, iter, [], 0⟩] scope pos) 0 (.ref I) (.ref D) cenv).onRaise (fun x => do noteFrame x cenv; theTreesLotGoes x)) _ _ _
  refine wpAny_noted ?_
  rw [compTurn_list1]
  refine wpAny_bind (wpAny_standAt (wpAny_bind ?_))
  have next : ∀ h₁ : Heap, (∀ b o, b ∉ wr → h.get? b = some o → h₁.get? b = some o) → Fr h₀ L h₁ m ∧ News h₀ L h₁ ((D, W.listOf ys.toArray e) :: news₁) ∧ h₁.Ns cenv.locals mC := fun h₁ hk₁ =>
    ⟨⟨F'.ns.at' fun o x => hk₁ _ o hLw x, fun b o x => hk₁ b o (old b o x) (F'.keep b o x), F'.above⟩, fun p hp => ⟨hk₁ _ _ (by
      rcases List.mem_cons.mp hp with rfl | hp
      · exact hDw
      · exact (hap p hp).2.2) (N' p hp).1, (N' p hp).2⟩, hns'.at' fun o x => hk₁ _ o hCw x⟩
  by_cases hlt : i < n
  · refine KT.item i _ _ _ hlt hst' fun v h₁ tk₁ hMd hk₁ => ?_
    refine wpAny_bind (KT.go i v _ _ _ hMd fun h₂ hP hst₂ hk₂ => ?_)
    obtain ⟨F₂, N₂, ns₂⟩ := next h₂ fun b o hb x => hk₂ b o hb (hk₁ b o hb x)
    have Nown : News h₀ L h₂ (PyProof.Rows.ownOf h₀ fp h₂) := news_ownOf hLf
    have N₃ : News h₀ L h₂ ((D, W.listOf ys.toArray e) :: (PyProof.Rows.ownOf h₀ fp h₂ ++ news₁)) := fun p hp => by
      rcases List.mem_cons.mp hp with rfl | hp
      · exact N₂ _ (.head _)
      · rcases List.mem_append.mp hp with hp | hp
        · exact Nown p hp
        · exact N₂ _ (.tail _ hp)
    refine wpAny_bind (wpAny_noRaise (wpAny_mono (turn i v ys e news₁ h₂ tk₁ _ mC hlt hP hst₂ hJ' hyl hap ownOf_sub (fun b hb hn o x => mem_ownOf hb hn x) F₂ N₃ ns₂) (fun _ s₂ hs₂ => ?_) fun _ _ x => x))
    refine wpAny_bind (wpAny_bind (wpAny_noRaise (wpAny_mono hs₂ (fun y s₃ hs₃ => ?_) fun _ _ x => x)))
    obtain ⟨h₃, tk₃, news₂, mC', rfl, F₃, N₄, ns₃, hap₂, hJ₂⟩ := hs₃
    have zD := N₄ _ (.head _)
    refine wpAny_bind (append_at zD.1 (fun h₄ hs₄ ho₄ => ?_) (by rw [List.size_toArray, hyl, sizeLine_eq]; omega))
    refine wpAny_pure (wpAny_pure ⟨rfl, n + 1 - (i + 1), by omega, i + 1, ys ++ [y], e + 1, news₂, h₄, tk₃, mC', rfl, ?_, F₃.change hs₄ zD.2.1 zD.2.2, ?_, hap₂, ?_, hJ₂, by simp [hyl], hlt, rfl⟩)
    · refine KT.frame _ _ _ hst₂ fun b hb o x => ?_
      have hbD : b ≠ D := fun q => hDf (q ▸ hb)
      rw [hs₄.2 b hbD]
      cases hn : h₀.get? b with
      | some o₀ =>
        have : o₀ = o := by have q := F₂.keep b o₀ hn; rw [x] at q; exact (Option.some.inj q).symm
        exact this ▸ F₃.keep b o₀ hn
      | none => exact (N₄ _ (.tail _ (List.mem_append_left _ (mem_ownOf hb hn x)))).1
    · intro p hp
      rcases List.mem_cons.mp hp with rfl | hp
      · refine ⟨?_, zD.2⟩
        rw [ho₄]
        simp
      · have q := N₄ p (.tail _ (List.mem_append_right _ hp))
        exact ⟨(hs₄.2 p.1 (hap₂ p hp).1).trans q.1, q.2⟩
    · exact ns₃.sameBut hs₄ (Ne.symm hDC)
  · have hin : i = n := by omega
    subst hin
    refine KT.done _ _ _ hst' fun h₁ tk₁ hk₁ => ?_
    obtain ⟨F₁, N₁, ns₁⟩ := next h₁ hk₁
    exact wpAny_pure (done ys e news₁ h₁ tk₁ mC hJ' hyl F₁ N₁ (fun p hp => ⟨(hap p hp).1, (hap p hp).2.1⟩) ns₁)
end
end Mine

end PartG1
section PartG2
open PySem PySem.W PySem.Spec PySem.Calls PyProof.Rows
set_option maxRecDepth 100000
set_option maxHeartbeats 4000000
namespace Mine
theorem quietG2 : True := by (w_top off); trivial
section
variable {prog : Program} {w : World} {A : Around} {E : Value → Shared → Prop} {env : Env} {h₀ : Heap} {L : Addr}

/-- what a comprehension asks behind its iterator: Fin is the end, at the list's place and in a heap where the block's own names may have gone -/
def CompAt (prog : Program) (w : World) (A : Around) (h₀ : Heap) (L : Addr) (env : Env) (scope : Scope) (cl : List (Str × Addr)) (target elt : Expr) (Fin : Addr → Addr → Shared → Prop) (it : Value) (s₂ : Shared) : Prop :=
  ∃ (I : Addr) (fp wr : List Addr) (n : Nat) (P Md : Nat → Value → Heap → Prop) (St : Nat → Heap → Prop) (m : Str → Option Value) (news : List (Addr × Obj)) (J : Nat → List Value → List (Addr × Obj) → Prop),
    it = .ref I ∧ KTurns prog w A target I fp wr n P Md St ∧ (∀ (s : Shared) (Q : Value → Shared → Prop) (E : Value → Shared → Prop), St 0 s.heap → Q (.ref I) s → wpAny (model prog w) A (pyIter (.ref I)) Q E s) ∧
    (∀ b ∈ fp, b < s₂.heap.objs.size) ∧ L ∉ fp ∧ (∀ b ∈ wr, h₀.get? b = none) ∧ n < 64 ∧ St 0 s₂.heap ∧ Fr h₀ L s₂.heap m ∧ News h₀ L s₂.heap news ∧ (∀ p ∈ news, p.1 ∉ wr) ∧ J 0 [] news ∧
    (∀ i v ys e news₁ h tk own mC, i < n → P i v h → St (i + 1) h → J i ys news₁ → ys.length = i → (∀ p ∈ news₁, p.1 ≠ s₂.heap.objs.size ∧ p.1 ≠ s₂.heap.objs.size + 1 ∧ p.1 ∉ wr) → (∀ p ∈ own, p.1 ∈ fp) → (∀ b ∈ fp, h₀.get? b = none → ∀ o, h.get? b = some o → (b, o) ∈ own) → Fr h₀ L h m → News h₀ L h ((s₂.heap.objs.size, W.listOf ys.toArray e) :: (own ++ news₁)) → h.Ns (s₂.heap.objs.size + 1) mC →
      wpAny (model prog w) A (assign target (compEnvC scope cl (s₂.heap.objs.size + 1) env) v) (fun _ s₃ => wpAny (model prog w) A (eval elt (compEnvC scope cl (s₂.heap.objs.size + 1) env)) (CStep h₀ L m s₂ s₂.heap.objs.size (s₂.heap.objs.size + 1) own wr ys e (J (i + 1))) (fun _ _ => False) s₃) (fun _ _ => False) { s₂ with heap := h, toks := tk }) ∧
    (∀ ys e news' h tk mC, J n ys news' → ys.length = n → Fr h₀ L h m → News h₀ L h ((s₂.heap.objs.size, W.listOf ys.toArray e) :: news') → (∀ p ∈ news', p.1 ≠ s₂.heap.objs.size ∧ p.1 ≠ s₂.heap.objs.size + 1) → h.Ns (s₂.heap.objs.size + 1) mC → Fin s₂.heap.objs.size (s₂.heap.objs.size + 1) { s₂ with heap := h, toks := tk })

theorem comp_block {s₂ : Shared} {target elt iter : Expr} {scope : Scope} {cl : List (Str × Addr)} {pos : Pos} {it : Value} {RR : Value → Addr → Result → Shared → Prop}
    (hcell : ∀ y ∈ scope.names, y.2 ≠ .cell) (hkind : scope.kind = .function)
    (h : CompAt prog w A h₀ L env scope cl target elt (fun D C s' => RR (.ref D) C (.ok .next) s') it s₂) :
    wpAny (model prog w) A (newList []) (fun acc s₃ => wpAny (model prog w) A (newFunctionEnv scope env.globals cl [] env.qual none .none (some env)) (fun cenv s₄ =>
      codeAny (model prog w) A (.compStart (.ListComp elt [⟨target, iter, [], 0⟩] scope pos) 0 it acc { cenv with scope := relabel scope env }) (RR acc cenv.locals) s₄) E s₃) E s₂ := by
  obtain ⟨I, fp, wr, n, P, Md, St, m, news, J, rfl, KT, hself, hfp, hLf, hwr, hn, hst, F, N, hnw, hJ, turn, done⟩ := h
  refine wpAny_newObj_type (wpAny_newFunctionEnv hcell (by intro y hy; simp at hy) (fun h₁ hns₁ hsb₁ => ?_) hkind)
  dsimp only at hns₁ hsb₁ ⊢
  generalize hH2 : s₂.heap.push { cls := .type "list", dict := none, data := .seq ([] : List Value).toArray } = H2 at hns₁ hsb₁ ⊢
  have hC : H2.objs.size = s₂.heap.objs.size + 1 := by rw [← hH2, Heap.size_push]
  have hDC : s₂.heap.objs.size ≠ s₂.heap.objs.size + 1 := Nat.ne_of_lt (Nat.lt_succ_self _)
  have below : ∀ b, b < s₂.heap.objs.size → b ≠ s₂.heap.objs.size + 1 ∧ b ≠ s₂.heap.objs.size := fun b hb => ⟨Nat.ne_of_lt (Nat.lt_succ_of_lt hb), Nat.ne_of_lt hb⟩
  rw [hC] at hns₁ hsb₁
  have old : ∀ b o, s₂.heap.get? b = some o → h₁.get? b = some o := fun b o e => hsb₁.extBut b o (below b (Heap.lt_size e)).1 (Heap.get?_push_of_some _ (hH2 ▸ Heap.get?_push_of_some _ e))
  have hD1 : h₁.get? s₂.heap.objs.size = some (W.listOf #[] 0) := hsb₁.extBut _ _ hDC (Heap.get?_push_of_some _ (hH2 ▸ Heap.get?_push_size _ rfl))
  have hLlt : L < s₂.heap.objs.size := F.ns.lt
  have fresh : ∀ a, s₂.heap.objs.size ≤ a → h₀.get? a = none := fun a ha => by
    cases e : h₀.get? a with
    | none => rfl
    | some o' => exact absurd (Heap.lt_size (F.keep _ _ e)) (Nat.not_lt.mpr ha)
  have hst₁ : St 0 h₁ := KT.frame _ _ _ hst fun b _ o e => old b o e
  have F₁ : Fr h₀ L h₁ m := F.keeps old
  have N₁ : News h₀ L h₁ ((s₂.heap.objs.size, W.listOf #[] 0) :: news) := fun p hp => by
    rcases List.mem_cons.mp hp with rfl | hp
    · exact ⟨hD1, Nat.ne_of_gt hLlt, fresh _ (Nat.le_refl _)⟩
    · exact ⟨old _ _ (N p hp).1, (N p hp).2⟩
  have hap : ∀ p ∈ news, p.1 ≠ s₂.heap.objs.size ∧ p.1 ≠ s₂.heap.objs.size + 1 ∧ p.1 ∉ wr := fun p hp => ⟨(below _ (Heap.lt_size (N p hp).1)).2, (below _ (Heap.lt_size (N p hp).1)).1, hnw p hp⟩
  have loop : codeAny (model prog w) A (.compLoop (.ListComp elt [⟨target, iter, [], 0⟩] scope pos) 0 (.ref I) (.ref s₂.heap.objs.size) (compEnvC scope cl (s₂.heap.objs.size + 1) env)) (RR (.ref s₂.heap.objs.size) (s₂.heap.objs.size + 1)) { s₂ with heap := h₁, toks := s₂.toks + ([] : List (Str × Value)).length } := by
    refine compLoop_turns (cenv := compEnvC scope cl (s₂.heap.objs.size + 1) env) (C := s₂.heap.objs.size + 1) J KT rfl (fun q => Nat.lt_irrefl _ (hfp _ q)) (fun q => Nat.lt_irrefl _ (Nat.lt_of_succ_lt (hfp _ q))) hLf hDC hwr hn hst₁ F₁ N₁ hap hns₁ hJ ?_ ?_
    · intro i v ys e news₁ h tk own mC a1 a2 a0 a3 a4 a5 a6 b1 a7 a8 a9
      exact turn i v ys e news₁ h tk own mC a1 a2 a0 a3 a4 a5 a6 b1 a7 a8 a9
    · intro ys e news' h tk mC a1 a2 a3 a4 a5 a6
      exact done ys e news' h tk mC a1 a2 a3 a4 a5 a6
  rw [hC]
  exact codeAny_compStart_list loop (hself _ _ _ hst₁ loop)

theorem comp_eval {s : Shared} {target elt iter : Expr} {scope : Scope} {cl : List (Str × Addr)} {pos : Pos} {Q : Value → Shared → Prop}
    (hclos : closureFor scope env = pure cl) (hcell : ∀ y ∈ scope.names, y.2 ≠ .cell) (hkind : scope.kind = .function) (hnames : ∀ y ∈ scope.names, y.2 = .local → scope.names.lookup y.1 = some .local)
    (h : wpAny (model prog w) A (eval iter env) (fun xv s₁ => wpAny (model prog w) A (pyIter xv) (fun it s₂ => CompAt prog w A h₀ L env scope cl target elt (fun D C s' => ∃ m, s'.heap.Ns C m ∧ ∀ h', Heap.SameBut C s'.heap h' → Q (.ref D) { s' with heap := h' }) it s₂) E s₁) E s)
    (hs : ∀ x, foldedSetIterable iter env x = pure x := by intro _; rfl) :
    wpAny (model prog w) A (eval (.ListComp elt [⟨target, iter, [], 0⟩] scope pos) env) Q E s := by
  rw [eval_ListComp]
  refine wpAny_comprehension_free (use := none) rfl hs hclos hkind hnames (wpAny_mono h (fun xv s₁ h₁ => wpAny_mono h₁ (fun it s₂ h₂ => ?_) fun _ _ e => e) fun _ _ e => e)
  exact comp_block (RR := fun acc C => compPost (model prog w) A E none Q acc C) hcell hkind h₂

theorem comp_assign {s : Shared} {target elt iter : Expr} {scope : Scope} {cl : List (Str × Addr)} {pos spos py : Pos} {y : Str} {Q : Flow → Shared → Prop}
    (hsw : swapsWith (.ListComp elt [⟨target, iter, [], 0⟩] scope pos) (some (.Name y py)) spos.line env = pure true)
    (hclos : closureFor scope env = pure cl) (hcell : ∀ z ∈ scope.names, z.2 ≠ .cell) (hkind : scope.kind = .function) (hnames : ∀ z ∈ scope.names, z.2 = .local → scope.names.lookup z.1 = some .local)
    (h : wpAny (model prog w) A (eval iter env) (fun xv s₁ => wpAny (model prog w) A (pyIter xv) (fun it s₂ => CompAt prog w A h₀ L env scope cl target elt (fun D C s' => wpAny (model prog w) A (storeName env y (.ref D)) (fun _ s'' => ∃ m, s''.heap.Ns C m ∧ ∀ h', Heap.SameBut C s''.heap h' → Q .next { s'' with heap := h' }) E s') it s₂) E s₁) E s)
    (hs : ∀ x, foldedSetIterable iter env x = pure x := by intro _; rfl) :
    wpAny (model prog w) A (exec (.Assign [.Name y py] (.ListComp elt [⟨target, iter, [], 0⟩] scope pos) spos) env) Q E s := by
  rw [exec_Assign_Name_used _ _ _ _ hsw]
  refine wpAny_bind (wpAny_standAt (wpAny_bind ?_))
  show wpAny _ A (do let _ ← comprehension (.ListComp elt [⟨target, iter, [], 0⟩] scope pos) scope env _ (newList []) false (eval iter env) (some (assign (.Name y py) env))) _ _ s
  refine wpAny_bind (wpAny_mono (wpAny_comprehension_free (use := some (assign (.Name y py) env)) (Q := fun _ s' => Q .next s') rfl hs hclos hkind hnames
    (wpAny_mono h (fun xv s₁ h₁ => wpAny_mono h₁ (fun it s₂ h₂ => ?_) fun _ _ e => e) fun _ _ e => e)) (fun _ s' hq => wpAny_pure (wpAny_pure hq)) fun _ _ e => e)
  refine comp_block (h₀ := h₀) (L := L) (RR := fun acc C => compPost (model prog w) A E (some (assign (.Name y py) env)) (fun _ s' => Q .next s') acc C) hcell hkind ?_
  obtain ⟨I, fp, wr, n, P, Md, St, m, news, J, rfl, KT, hself, hfp, hLf, hwr, hn, hst, F, N, hnw, hJ, turn, done⟩ := h₂
  refine ⟨I, fp, wr, n, P, Md, St, m, news, J, rfl, KT, hself, hfp, hLf, hwr, hn, hst, F, N, hnw, hJ, turn, fun ys e news' h tk mC a1 a2 a3 a4 a5 a6 => ?_⟩
  exact wpAny_assign_Name (done ys e news' h tk mC a1 a2 a3 a4 a5 a6)

/-- the end of a comprehension that is a value -/
theorem comp_fin {D C : Addr} {s' : Shared} {m mC : Str → Option Value} {ys : List Value} {e : Nat} {news' : List (Addr × Obj)} {Q : Value → Shared → Prop} (F : Fr h₀ L s'.heap m) (N : News h₀ L s'.heap ((D, W.listOf ys.toArray e) :: news')) (hap : ∀ p ∈ news', p.1 ≠ D ∧ p.1 ≠ C) (hDC : D ≠ C) (hCL : C ≠ L) (hC0 : h₀.get? C = none) (hns : s'.heap.Ns C mC)
    (h : ∀ h', Fr h₀ L h' m → News h₀ L h' ((D, W.listOf ys.toArray e) :: news') → Q (.ref D) { s' with heap := h' }) : ∃ m, s'.heap.Ns C m ∧ ∀ h', Heap.SameBut C s'.heap h' → Q (.ref D) { s' with heap := h' } := by
  refine ⟨mC, hns, fun h' hs => h h' (F.change hs hCL hC0) fun p hp => ?_⟩
  have hpC : p.1 ≠ C := by
    rcases List.mem_cons.mp hp with rfl | hp
    · exact hDC
    · exact (hap p hp).2
  exact ⟨(hs.2 _ hpC).trans (N p hp).1, (N p hp).2⟩
end
end Mine

end PartG2
section PartG3
open PySem PySem.W PySem.Spec PySem.Calls PyProof.Rows
set_option maxRecDepth 100000
set_option maxHeartbeats 4000000
namespace Mine
theorem quietG3 : True := by (w_top off); trivial
section
variable {prog : Program} {w : World} {A : Around} {E : Value → Shared → Prop} {env : Env} {h₀ : Heap} {L : Addr}

def FStep (h₀ : Heap) (L : Addr) (s : Shared) (own : List (Addr × Obj)) (wr : List Addr) (J : (Str → Option Value) → List (Addr × Obj) → Prop) (Q : Flow → Shared → Prop) (f : Flow) (s₃ : Shared) : Prop :=
  match f with
  | .ret v => Q (.ret v) s₃
  | .brk => Q .next s₃
  | _ => WEnd (∃ h' tk m₂ news₂, s₃ = { s with heap := h', toks := tk } ∧ Fr h₀ L h' m₂ ∧ News h₀ L h' (own ++ news₂) ∧ (∀ p ∈ news₂, p.1 ∉ wr) ∧ J m₂ news₂)

def ForAt (prog : Program) (w : World) (A : Around) (h₀ : Heap) (env : Env) (target : Expr) (body orelse : List Stmt) (Q : Flow → Shared → Prop) (it : Value) (s₂ : Shared) : Prop :=
  ∃ (I : Addr) (fp wr : List Addr) (n : Nat) (P Md : Nat → Value → Heap → Prop) (St : Nat → Heap → Prop) (m : Str → Option Value) (news : List (Addr × Obj)) (J : Nat → (Str → Option Value) → List (Addr × Obj) → Prop),
    it = .ref I ∧ KTurns prog w A target I fp wr n P Md St ∧ env.locals ∉ fp ∧ (∀ b ∈ wr, h₀.get? b = none) ∧ St 0 s₂.heap ∧ Fr h₀ env.locals s₂.heap m ∧ News h₀ env.locals s₂.heap news ∧ (∀ p ∈ news, p.1 ∉ wr) ∧ J 0 m news ∧
    (∀ i v m₁ news₁ h tk own, i < n → P i v h → St (i + 1) h → J i m₁ news₁ → (∀ p ∈ news₁, p.1 ∉ wr) → (∀ p ∈ own, p.1 ∈ fp) → (∀ b ∈ fp, h₀.get? b = none → ∀ o, h.get? b = some o → (b, o) ∈ own) → Fr h₀ env.locals h m₁ → News h₀ env.locals h (own ++ news₁) →
      wpAny (model prog w) A (assign target env v) (fun _ s₃ => wpAny (model prog w) A (execs body env) (FStep h₀ env.locals s₂ own wr (J (i + 1)) Q) (fun _ _ => False) s₃) (fun _ _ => False) { s₂ with heap := h, toks := tk }) ∧
    (∀ m' news' h tk, J n m' news' → Fr h₀ env.locals h m' → News h₀ env.locals h news' → (∀ p ∈ news', p.1 ∉ wr) → wpAny (model prog w) A (execs orelse env) Q (fun _ _ => False) { s₂ with heap := h, toks := tk })

theorem for_at {s : Shared} {target iter : Expr} {body orelse : List Stmt} {pos : Pos} {Q : Flow → Shared → Prop}
    (h : wpAny (model prog w) A (eval iter env) (fun xv s₁ => wpAny (model prog w) A (pyIter xv) (fun it s₂ => ForAt prog w A h₀ env target body orelse Q it s₂) E s₁) E s)
    (hs : ∀ x, foldedSetIterable iter env x = pure x := by intro _; rfl) :
    wpAny (model prog w) A (exec (.For target iter body orelse pos) env) Q E s := by
  refine wpAny_For (wpAny_mono h (fun xv s₁ h₁ => wpAny_mono h₁ (fun it s₂ h₂ => ?_) fun _ _ e => e) fun _ _ e => e) hs
  obtain ⟨I, fp, wr, n, P, Md, St, m, news, J, rfl, KT, hLf, hwr, hst, F, N, hnw, hJ, turn, done⟩ := h₂
  have hLw : env.locals ∉ wr := fun h => hLf (KT.sub _ h)
  have old : ∀ b o, h₀.get? b = some o → b ∉ wr := fun b o e hb => by rw [hwr b hb] at e; cases e
  refine codeAny_forLoop_any (fun k s' => ∃ i m₁ news₁ h tk, s' = { s₂ with heap := h, toks := tk } ∧ St i h ∧ Fr h₀ env.locals h m₁ ∧ News h₀ env.locals h news₁ ∧ (∀ p ∈ news₁, p.1 ∉ wr) ∧ J i m₁ news₁ ∧ i ≤ n ∧ k = n + 1 - i) ?_ (n + 1)
    ⟨0, m, news, s₂.heap, s₂.toks, rfl, hst, F, N, hnw, hJ, Nat.zero_le _, rfl⟩
  rintro k s' ⟨i, m₁, news₁, h, tk, rfl, hst', F', N', hap, hJ', hi, rfl⟩
  have next : ∀ h₁ : Heap, (∀ b o, b ∉ wr → h.get? b = some o → h₁.get? b = some o) → Fr h₀ env.locals h₁ m₁ ∧ News h₀ env.locals h₁ news₁ := fun h₁ hk₁ =>
    ⟨⟨F'.ns.at' fun o x => hk₁ _ o hLw x, fun b o x => hk₁ b o (old b o x) (F'.keep b o x), F'.above⟩, fun p hp => ⟨hk₁ _ _ (hap p hp) (N' p hp).1, (N' p hp).2⟩⟩
  by_cases hlt : i < n
  · refine KT.item i _ _ _ hlt hst' fun v h₁ tk₁ hMd hk₁ => ?_
    refine KT.go i v _ _ _ hMd fun h₂ hP hst₂ hk₂ => ?_
    obtain ⟨F₂, N₂⟩ := next h₂ fun b o hb x => hk₂ b o hb (hk₁ b o hb x)
    have Nown : News h₀ env.locals h₂ (PyProof.Rows.ownOf h₀ fp h₂) := news_ownOf hLf
    refine wpAny_noRaise (wpAny_mono (turn i v m₁ news₁ h₂ tk₁ _ hlt hP hst₂ hJ' hap ownOf_sub (fun b hb hn o x => mem_ownOf hb hn x) F₂ (Nown.append N₂)) (fun _ s₃ hs₃ => wpAny_noRaise (wpAny_mono hs₃ (fun f s₄ hs₄ => ?_) fun _ _ x => x)) fun _ _ x => x)
    have fin : (∃ h' tk m₂ news₂, s₄ = { s₂ with heap := h', toks := tk } ∧ Fr h₀ env.locals h' m₂ ∧ News h₀ env.locals h' (PyProof.Rows.ownOf h₀ fp h₂ ++ news₂) ∧ (∀ p ∈ news₂, p.1 ∉ wr) ∧ J (i + 1) m₂ news₂) →
        ∃ m_1, m_1 < n + 1 - i ∧ ∃ i m₁ news₁ h tk, s₄ = { s₂ with heap := h, toks := tk } ∧ St i h ∧ Fr h₀ env.locals h m₁ ∧ News h₀ env.locals h news₁ ∧ (∀ p ∈ news₁, p.1 ∉ wr) ∧ J i m₁ news₁ ∧ i ≤ n ∧ m_1 = n + 1 - i := by
      rintro ⟨h₃, tk₃, m₃, news₃, rfl, F₃, N₃, hap₃, hJ₃⟩
      refine ⟨n + 1 - (i + 1), by omega, i + 1, m₃, news₃, h₃, tk₃, rfl, ?_, F₃, N₃.right, hap₃, hJ₃, hlt, rfl⟩
      refine KT.frame _ _ _ hst₂ fun b hb o x => ?_
      cases hn : h₀.get? b with
      | some o₀ =>
        have : o₀ = o := by have q := F₂.keep b o₀ hn; rw [x] at q; exact (Option.some.inj q).symm
        exact this ▸ F₃.keep b o₀ hn
      | none => exact (N₃ _ (List.mem_append_left _ (mem_ownOf hb hn x))).1
    cases f with
    | ret v => exact hs₄
    | brk => exact hs₄
    | next => exact fin hs₄
    | cont => exact fin hs₄
  · have hin : i = n := by omega
    subst hin
    refine KT.done _ _ _ hst' fun h₁ tk₁ hk₁ => ?_
    obtain ⟨F₁, N₁⟩ := next h₁ hk₁
    exact wpAny_noRaise (done m₁ news₁ h₁ tk₁ hJ' F₁ N₁ hap)

theorem kt_list {target : Expr} (hh : A.handled = none) (I l : Addr) (hne : l ≠ I) (items : Array Value) :
    KTurns prog w A target I [I, l] [I] items.size (fun i v _ => items[i]? = some v) (fun i v h => items[i]? = some v ∧ h.IsListIter I l (i + 1) ∧ h.IsList l items) (fun i h => h.IsListIter I l i ∧ h.IsList l items) :=
  KTurns.ofWalks (Walks.list hh I l hne items) fun _ _ _ _ _ st q => letGo_listiter st.1 q

theorem for_enum {s : Shared} {l : Addr} {vs : List Value} {elts : List Expr} {k : Nat} {pos : Pos} {body orelse : List Stmt} {Q : Flow → Shared → Prop} {m : Str → Option Value} {news : List (Addr × Obj)} (J : Nat → (Str → Option Value) → List (Addr × Obj) → Prop)
    (hh : A.handled = none) (hl : s.heap.IsList l vs.toArray) (hlL : l ≠ env.locals) (F : Fr h₀ env.locals s.heap m) (N : News h₀ env.locals s.heap news) (hJ : J 0 m news)
    (turn : ∀ (i : Nat) v T t m₁ news₁ h tk own, vs[i]? = some v → IsTup h T #[.int (i : Int) t, v] → (∃ o, (s.heap.objs.size + 1, o) ∈ own) → (∃ o, (s.heap.objs.size, o) ∈ own) → J i m₁ news₁ → (∀ p ∈ news₁, p.1 ≠ s.heap.objs.size + 1 ∧ p.1 ≠ s.heap.objs.size) → (∀ p ∈ own, p.1 = s.heap.objs.size + 1 ∨ p.1 = s.heap.objs.size ∨ p.1 = l) → Fr h₀ env.locals h m₁ → News h₀ env.locals h (own ++ news₁) →
      wpAny (model prog w) A (assign (.Tuple elts k pos) env (.ref T)) (fun _ s₃ => wpAny (model prog w) A (execs body env) (FStep h₀ env.locals s own [s.heap.objs.size + 1, s.heap.objs.size] (J (i + 1)) Q) (fun _ _ => False) s₃) (fun _ _ => False) { s with heap := h, toks := tk })
    (done : ∀ m' news' h tk, J vs.length m' news' → Fr h₀ env.locals h m' → News h₀ env.locals h news' → wpAny (model prog w) A (execs orelse env) Q (fun _ _ => False) { s with heap := h, toks := tk }) :
    wpAny (model prog w) A (call (.type "enumerate") [.ref l]) (fun xv s₁ => wpAny (model prog w) A (pyIter xv) (fun it s₂ => ForAt prog w A h₀ env (.Tuple elts k pos) body orelse Q it s₂) E s₁) E s := by
  have hlt : l < s.heap.objs.size := by obtain ⟨o, ho, _⟩ := hl; exact Heap.lt_size ho
  have hLs : env.locals < s.heap.objs.size := F.ns.lt
  refine call_enumerate_list hl fun h' hE hI hsz hk => ?_
  refine wpAny_pyIter_enum hE ?_
  refine ⟨s.heap.objs.size + 1, [s.heap.objs.size + 1, s.heap.objs.size, l], [s.heap.objs.size + 1, s.heap.objs.size], vs.toArray.size, _, _, _, m, news, J, rfl, KTurns.ofWalksU (elts := elts) (k := k) (pos := pos) (WalksT.enumerate (prog := prog) (w := w) (A := A) hh (s.heap.objs.size + 1) s.heap.objs.size l (Nat.succ_ne_self _) (ktu_ne 1 hlt) (Nat.ne_of_lt hlt) vs.toArray).toU, ?_, ?_, ⟨⟨.none, hE⟩, hI, hl.at fun o e => hk l o e⟩, F.keeps hk, N.grown hk, ?_, hJ, ?_, ?_⟩
  · intro hm
    have hb' : env.locals = s.heap.objs.size + 1 ∨ env.locals = s.heap.objs.size ∨ env.locals = l := by simpa using hm
    rcases hb' with e | e | e
    · exact ktu_ne 1 hLs e
    · exact Nat.ne_of_lt hLs e
    · exact hlL e.symm
  · intro b hb
    have hb' : b = s.heap.objs.size + 1 ∨ b = s.heap.objs.size := by simpa using hb
    rcases hb' with rfl | rfl
    · exact ktu_new F (Nat.le_add_right _ _)
    · exact ktu_new F (Nat.le_refl _)
  · intro p hp hI'
    have hb' : p.1 = s.heap.objs.size + 1 ∨ p.1 = s.heap.objs.size := by simpa using hI'
    have hlp := Heap.lt_size (N p hp).1
    rcases hb' with e | e
    · exact ktu_ne 1 hlp e
    · exact Nat.ne_of_lt hlp e
  · rintro i v m₁ news₁ h tk own _ ⟨T, vals, rfl, ⟨t, x, hx, rfl⟩, hT⟩ hSt hJ' hap hown hall F' N'
    have hsz : ∃ o, (s.heap.objs.size + 1, o) ∈ own := by obtain ⟨⟨old, ho⟩, _⟩ := hSt; exact ⟨_, hall _ (by simp) (ktu_new F (Nat.le_add_right _ _)) _ ho⟩
    have hsz2 : ∃ o, (s.heap.objs.size, o) ∈ own := by obtain ⟨_, ⟨o, ho, _⟩, _⟩ := hSt; exact ⟨_, hall _ (by simp) (ktu_new F (Nat.le_refl _)) _ ho⟩
    exact turn i x T t m₁ news₁ h tk own (by simpa using hx) hT hsz hsz2 hJ' (fun p hp => ⟨fun e => hap p hp (by simp [e]), fun e => hap p hp (by simp [e])⟩) (fun p hp => by simpa using hown p hp) F' N'
  · intro m' news' h tk hJ' F' N' _
    exact done m' news' h tk (by simpa using hJ') F' N'
end
end Mine

end PartG3
section PartG4
open PySem PySem.W PySem.Spec PySem.Calls PyProof.Rows
set_option maxRecDepth 100000
set_option maxHeartbeats 4000000
namespace Mine
theorem quietG4 : True := by (w_top off); trivial
section
variable {prog : Program} {w : World} {A : Around} {E : Value → Shared → Prop} {env : Env} {h₀ : Heap} {L : Addr}

theorem comp_store {C : Addr} {scope : Scope} {cl : List (Str × Addr)} {x : Str} {px : Pos} {v : Value} {s : Shared} {mC m : Str → Option Value} {led : List (Addr × Obj)} {Q : Unit → Shared → Prop} (hx : scope.names.lookup x = some .local) (hkind : scope.kind = .function)
    (hCL : C ≠ L) (hC0 : h₀.get? C = none) (F : Fr h₀ L s.heap m) (N : News h₀ L s.heap led) (hap : ∀ p ∈ led, p.1 ≠ C) (hns : s.heap.Ns C mC)
    (h : ∀ h' tk', Fr h₀ L h' m → News h₀ L h' led → h'.Ns C (fun y => if y = x then some v else mC y) → Q () { s with heap := h', toks := tk' }) :
    wpAny (model prog w) A (assign (.Name x px) (compEnvC scope cl C env) v) Q E s := by
  refine wpAny_assign_Name (wpAny_storeName_local (env := compEnvC scope cl C env) (lookup_relabel_local hx) hns (fun h' hn hs => ?_) (by simp [compEnvC, relabel, hkind]))
  exact h h' _ (F.change hs hCL hC0) (fun p hp => ⟨(hs.2 _ (hap p hp)).trans (N p hp).1, (N p hp).2⟩) hn

theorem comp_list {s : Shared} {l : Addr} {vs : List Value} {x : Str} {px : Pos} {elt : Expr} {scope : Scope} {cl : List (Str × Addr)} {Fin : Addr → Addr → Shared → Prop} {m : Str → Option Value} {news : List (Addr × Obj)} (J : Nat → List Value → List (Addr × Obj) → Prop)
    (hx : scope.names.lookup x = some .local) (hkind : scope.kind = .function)
    (hh : A.handled = none) (hl : s.heap.IsList l vs.toArray) (hlL : l ≠ L) (hn64 : vs.length < 64) (F : Fr h₀ L s.heap m) (N : News h₀ L s.heap news) (hJ : J 0 [] news)
    (turn : ∀ i v ys e news₁ h tk own (mC : Str → Option Value), vs[i]? = some v → J i ys news₁ → ys.length = i → (∀ p ∈ news₁, p.1 ≠ s.heap.objs.size ∧ p.1 ≠ s.heap.objs.size + 1 ∧ p.1 ≠ s.heap.objs.size + 2) → (∀ p ∈ own, p.1 = s.heap.objs.size ∨ p.1 = l) → (∃ o, (s.heap.objs.size, o) ∈ own) → Fr h₀ L h m → News h₀ L h ((s.heap.objs.size + 1, W.listOf ys.toArray e) :: (own ++ news₁)) →
      h.Ns (s.heap.objs.size + 2) (fun y => if y = x then some v else mC y) →
      wpAny (model prog w) A (eval elt (compEnvC scope cl (s.heap.objs.size + 2) env)) (CStep h₀ L m s (s.heap.objs.size + 1) (s.heap.objs.size + 2) own [s.heap.objs.size] ys e (J (i + 1))) (fun _ _ => False) { s with heap := h, toks := tk })
    (done : ∀ ys e news' h tk mC, J vs.length ys news' → ys.length = vs.length → Fr h₀ L h m → News h₀ L h ((s.heap.objs.size + 1, W.listOf ys.toArray e) :: news') → (∀ p ∈ news', p.1 ≠ s.heap.objs.size + 1 ∧ p.1 ≠ s.heap.objs.size + 2) → h.Ns (s.heap.objs.size + 2) mC → Fin (s.heap.objs.size + 1) (s.heap.objs.size + 2) { s with heap := h, toks := tk }) :
    wpAny (model prog w) A (pyIter (.ref l)) (fun it s₂ => CompAt prog w A h₀ L env scope cl (.Name x px) elt Fin it s₂) E s := by
  have hlt : l < s.heap.objs.size := by obtain ⟨o, ho, _⟩ := hl; exact Heap.lt_size ho
  have hLs : L < s.heap.objs.size := F.ns.lt
  have hnew := next_is_new F
  refine wpAny_pyIter_list hl ?_
  have hsz : (s.heap.push { cls := .type "list_iterator", data := .fields #[.ref l, .int 0 0] }).objs.size = s.heap.objs.size + 1 := Heap.size_push ..
  have KT := kt_list (prog := prog) (w := w) (A := A) (target := .Name x px) hh s.heap.objs.size l (Nat.ne_of_lt hlt) vs.toArray
  refine ⟨s.heap.objs.size, [s.heap.objs.size, l], [s.heap.objs.size], vs.toArray.size, _, _, _, m, news, J, rfl, KT, ?_, ?_, ?_, ?_, by simpa using hn64, ⟨⟨_, Heap.get?_push_size _ rfl, rfl, rfl⟩, hl.at fun o e => Heap.get?_push_of_some _ e⟩, F.push _, (fun p hp => ⟨Heap.get?_push_of_some _ (N p hp).1, (N p hp).2⟩), ?_, hJ, ?_, ?_⟩
  · intro s' Q' E' hst hQ
    exact wpAny_pyIter_listiter hst.1 hQ
  · intro b hb
    dsimp only
    rw [hsz]
    have hb' : b = s.heap.objs.size ∨ b = l := by simpa using hb
    rcases hb' with rfl | rfl
    · exact Nat.lt_succ_self _
    · exact Nat.lt_succ_of_lt hlt
  · intro hm
    have hb' : L = s.heap.objs.size ∨ L = l := by simpa using hm
    rcases hb' with e | e
    · exact absurd hLs (e ▸ Nat.lt_irrefl _)
    · exact hlL e.symm
  · intro b hb
    rw [List.mem_singleton.mp hb]
    exact hnew
  · intro p hp hI
    exact absurd (Heap.lt_size (N p hp).1) ((List.mem_singleton.mp hI) ▸ Nat.lt_irrefl _)
  · dsimp only
    rw [hsz]
    intro i v ys e news₁ h tk own mC _ hP hSt hJ' hyl hap hown hall F' N' ns'
    have hC0 : h₀.get? (s.heap.objs.size + 1 + 1) = none := ktu_new F (Nat.le_add_right _ 2)
    have hCL : s.heap.objs.size + 1 + 1 ≠ L := Nat.ne_of_gt (Nat.lt_of_lt_of_le hLs (Nat.le_add_right _ 2))
    refine comp_store hx hkind hCL hC0 F' N' ?_ ns' (fun h' tk' F2 N2 ns2 => ?_)
    · intro p hp
      rcases List.mem_cons.mp hp with rfl | hp
      · exact Nat.ne_of_lt (Nat.lt_succ_self _)
      · rcases List.mem_append.mp hp with hp | hp
        · have := hown p hp
          have hb' : p.1 = s.heap.objs.size ∨ p.1 = l := by simpa using this
          rcases hb' with e | e
          · rw [e]; exact Nat.ne_of_lt (Nat.lt_succ_of_lt (Nat.lt_succ_self _))
          · rw [e]; exact Nat.ne_of_lt (Nat.lt_succ_of_lt (Nat.lt_succ_of_lt hlt))
        · exact (hap p hp).2.1
    · have hw : ∃ o, (s.heap.objs.size, o) ∈ own := by obtain ⟨⟨o, ho, _⟩, _⟩ := hSt; exact ⟨o, hall _ (by simp) hnew o ho⟩
      exact turn i v ys e news₁ h' tk' own mC (by simpa using hP) hJ' hyl (fun p hp => ⟨fun q => (hap p hp).2.2 (by simp [q]), (hap p hp).1, (hap p hp).2.1⟩) (fun p hp => by simpa using hown p hp) hw F2 N2 ns2
  · dsimp only
    rw [hsz]
    intro ys e news' h tk mC a1 a2 a3 a4 a5 a6
    exact done ys e news' h tk mC (by simpa using a1) (by simpa using a2) a3 a4 a5 a6
end
end Mine

end PartG4
section PartE1
open PySem PySem.W PySem.Spec PySem.Calls PyProof.Rows
set_option maxRecDepth 100000
set_option maxHeartbeats 4000000
namespace Mine
theorem quietE1 : True := by (w_top off); trivial
/-- no tree ends nowhere -/
theorem wp_never {α : Type} {M : Model} {Γ : PySem.Ctx} (t : Sem α) : ∀ p s, Sem.wp M Γ t (fun _ _ _ => False) (fun _ _ _ => False) p s → False := by
  induction t <;> intro p s h <;> unfold Sem.wp at h <;> first
    | exact h
    | (rename_i ih; exact ih _ _ _ h)
    | (rename_i ih; exact ih _ _ h)
    | (rename_i ih; obtain ⟨_, h⟩ := h; exact ih _ _ _ h)
    | (rename_i ih; obtain ⟨_, _, h⟩ := h; exact ih _ _ _ h)
    | (rename_i ih; obtain ⟨_, _, _, h⟩ := h; exact ih _ _ _ h)
/-- an item that the for protocol draws is the item that a builtin draws -/
theorem nextOf_item {M : Model} {A : Around} {E : Value → Shared → Prop} {s : Shared} {v : Value} {Q : Value → Shared → Prop}
    (h : wpAny M A (pyNext v) (fun r s' => ∃ x, r = some x ∧ Q x s') (fun _ _ => False) s) : wpAny M A (Builtin.SmallTypes.nextOf v) Q E s := by
  intro Γ p hΓ
  have h1 := h Γ p hΓ
  unfold pyNext at h1
  rw [Sem.wp_bind', Sem.wp_attempt] at h1
  unfold Builtin.SmallTypes.nextOf
  rw [Sem.wp_bind']
  refine Sem.wp_mono M Γ _ (fun r p' s' q => ?_) (fun e p' s' q => ?_) p s h1
  · cases r with
    | none => exact (show False from q).elim
    | some x =>
      obtain ⟨y, e, hy⟩ : ∃ y, some x = some y ∧ Q y s' := q
      cases e
      exact hy
  · rw [Sem.wp_bind'] at q
    refine (wp_never _ p' s' (Sem.wp_mono M Γ _ (fun b p2 s2 hb => ?_) (fun _ _ _ hr => hr) p' s' q)).elim
    cases b with
    | true =>
      obtain ⟨y, e, _⟩ : ∃ y, (none : Option Value) = some y ∧ Q y s2 := hb
      cases e
    | false => exact hb
section
variable {prog : Program} {w : World} {A : Around}
open PySem.AutoSeq1 (wpAny_loadPart')
theorem tup_over {E : Value → Shared → Prop} {s : Shared} {it t : Addr} {i : Nat} {items : Array Value} {Q : Value → Shared → Prop} (hh : A.handled = none) (hit : s.heap.IsTupleIter it t i) (ht : s.heap.IsTuple t items) (hx : items[i]? = none)
    (hE : ∀ h' e, Heap.ExtBut it s.heap h' → (∃ o, h'.get? e = some o ∧ o.cls = .type "StopIteration") → E (.ref e) { s with heap := h' }) :
    wpAny (model prog w) A (Builtin.SmallTypes.nextOf (.ref it)) Q E s := by
  have hT := hit.typeIs
  obtain ⟨hp, g, d, tk, os⟩ := s
  obtain ⟨o, ho, -, hd⟩ := hit
  obtain ⟨ot, hot, -, k, hdt⟩ := ht
  refine wpAny_bind (wpAny_callSpecial?_slot hT F.slot_tuple_iterator_next (wpAny_call_entry F.slot_tuple_iterator_next hT F.entry_tuple_iterator_next ?_ (F.args_tuple_iterator_next_1 _)))
  have hh' : A.in1.handled = none := hh
  wp_walk using wpAny_field ho hd rfl, wpAny_seqItems hot hdt
  rw [hdt]
  wp_walk
  rw [Int.toNat_natCast, hx]
  wp_walk
  rw [hd]
  wp_walk
  exact wpAny_raiseNew_none hh (hE _ _ (fun b o' hb e => Heap.get?_push_of_some _ (Heap.get?_push_of_some _ (Heap.get?_update_of_ne _ (Ne.symm hb) e))) ⟨_, Heap.get?_push_size _ rfl, rfl⟩)
/-- a tuple's iterator, drawn from by a builtin -/
theorem tup_draws (hh : A.handled = none) (it t : Addr) (hne : t ≠ it) (items : Array Value) :
    Draws prog w A it [it, t] items.size (fun i v => items[i]? = some v) (fun i h => h.IsTupleIter it t i ∧ h.IsTuple t items) where
  live := by
    rintro _ _ ⟨⟨o, ho, _⟩, _⟩
    exact ⟨o, ho⟩
  frame := by
    rintro _ _ _ ⟨⟨o, ho, ro⟩, ⟨u, hu, ru⟩⟩ keep
    exact ⟨⟨o, keep it (.head _) o ho, ro⟩, ⟨u, keep t (.tail _ (.head _)) u hu, ru⟩⟩
  item := by
    rintro i s Q E hi ⟨hit, ht⟩ hQ
    have hx := Array.getElem?_eq_getElem hi
    exact nextOf_item (wpAny_pyNext_tuple_item hit ht hx fun h' hit' same => ⟨_, rfl, hQ _ h' s.toks hx ⟨hit', ht.extBut same.extBut hne⟩ same⟩)
  done := by
    rintro s Q E ⟨hit, ht⟩ hE
    exact tup_over hh hit ht (Array.getElem?_eq_none (Nat.le_refl _)) hE
/-- the objects that a call of enumerate makes: the tuple's iterator, and the enumerate over it -/
def tupIt (t : Addr) : Obj := { cls := .type "tuple_iterator", data := .fields #[.ref t, .int 0 0] }
def enumOn (it : Addr) : Obj := { cls := .type "enumerate", data := .fields #[.none, .bool false, .ref it, rawInt 0, .none, .none] }
theorem enum_new (t : Addr) (o : Obj) (items : Array Value) (hc : o.cls = .type "tuple") (hdt : ∃ n, o.data = .seq items n) :
    Meets (Builtin.«enumerate.__new__» ⟨[.type "enumerate", .ref t], []⟩) (fun _ R s => s.heap.get? t = some o ∧
      R (.ok (.ret (.ref (s.heap.push (tupIt t)).objs.size))) { s with heap := (s.heap.push (tupIt t)).push (enumOn s.heap.objs.size) }) := by
  refine .of_wp fun prog w A R s ⟨ho, hR⟩ => ?_
  have hty := sub_enumerate
  have ht : s.heap.IsTuple t items := ⟨o, ho, hc, hdt⟩
  obtain ⟨hp, g, d, tk, os⟩ := s
  wp_walk using wpAny_loadPart' ho
  refine wpAny_stack_any fun st => wpAny_pure ?_
  split
  all_goals (try (rename_i c _ _ _ _ _; cases (c == Value.type "enumerate")))
  all_goals (wp_walk using wpAny_loadPart' ho, wpAny_pyIter_tuple ht; exact ⟨_, rfl, hR⟩)
theorem enum_call {E : Value → Shared → Prop} {s : Shared} {t : Addr} {items : Array Value} {Q : Value → Shared → Prop} (ht : s.heap.IsTuple t items)
    (h : ∀ h', IsEnum h' (s.heap.objs.size + 1) s.heap.objs.size 0 .none → h'.IsTupleIter s.heap.objs.size t 0 → (∀ b o, s.heap.get? b = some o → h'.get? b = some o) → Q (.ref (s.heap.objs.size + 1)) { s with heap := h' }) :
    wpAny (model prog w) A (call (.type "enumerate") [.ref t]) Q E s := by
  obtain ⟨o, ho, hc, hdt⟩ := ht
  have size1 : (s.heap.push (tupIt t)).objs.size = s.heap.objs.size + 1 := Heap.size_push ..
  have made : IsEnum ((s.heap.push (tupIt t)).push (enumOn s.heap.objs.size)) (s.heap.objs.size + 1) s.heap.objs.size 0 .none := size1 ▸ Heap.get?_push_size (s.heap.push (tupIt t)) (o := enumOn s.heap.objs.size) rfl
  have kept : ∀ b u, s.heap.get? b = some u → ((s.heap.push (tupIt t)).push (enumOn s.heap.objs.size)).get? b = some u := fun b u e => Heap.get?_push_of_some _ (Heap.get?_push_of_some _ e)
  have iter : ((s.heap.push (tupIt t)).push (enumOn s.heap.objs.size)).IsTupleIter s.heap.objs.size t 0 := ⟨_, Heap.get?_push_of_some _ (Heap.get?_push_size _ rfl), rfl, rfl⟩
  refine callType_new F.called_enumerate (by decide) (F.typeCall_enumerate_1 _) (F.newCall_enumerate_1 _) (fun obj => F.args_object_init_2 obj _) F.entry_enumerate_new (enum_new t o items hc hdt) ⟨ho, ?_⟩
  rw [size1]
  exact ⟨⟨_, made, rfl⟩, h _ made iter kept⟩
end
end Mine

end PartE1
section PartE2
open PySem PySem.W PySem.Spec PySem.Calls PyProof.Rows
set_option maxRecDepth 100000
set_option maxHeartbeats 4000000
namespace Mine
theorem quietE2 : True := by (w_top off); trivial
section
variable {prog : Program} {w : World} {A : Around} {E : Value → Shared → Prop} {env : Env} {h₀ : Heap}

theorem for_enumT {s : Shared} {l : Addr} {vs : List Value} {elts : List Expr} {k : Nat} {pos : Pos} {body orelse : List Stmt} {Q : Flow → Shared → Prop} {m : Str → Option Value} {news : List (Addr × Obj)} (J : Nat → (Str → Option Value) → List (Addr × Obj) → Prop)
    (hh : A.handled = none) (hl : s.heap.IsTuple l vs.toArray) (hlL : l ≠ env.locals) (F : Fr h₀ env.locals s.heap m) (N : News h₀ env.locals s.heap news) (hJ : J 0 m news)
    (turn : ∀ (i : Nat) v T t m₁ news₁ h tk own, vs[i]? = some v → IsTup h T #[.int (i : Int) t, v] → J i m₁ news₁ → (∀ p ∈ news₁, p.1 ≠ s.heap.objs.size + 1 ∧ p.1 ≠ s.heap.objs.size) → (∀ p ∈ own, p.1 = s.heap.objs.size + 1 ∨ p.1 = s.heap.objs.size ∨ p.1 = l) → Fr h₀ env.locals h m₁ → News h₀ env.locals h (own ++ news₁) →
      wpAny (model prog w) A (assign (.Tuple elts k pos) env (.ref T)) (fun _ s₃ => wpAny (model prog w) A (execs body env) (FStep h₀ env.locals s own [s.heap.objs.size + 1, s.heap.objs.size] (J (i + 1)) Q) (fun _ _ => False) s₃) (fun _ _ => False) { s with heap := h, toks := tk })
    (done : ∀ m' news' h tk, J vs.length m' news' → Fr h₀ env.locals h m' → News h₀ env.locals h news' → wpAny (model prog w) A (execs orelse env) Q (fun _ _ => False) { s with heap := h, toks := tk }) :
    wpAny (model prog w) A (call (.type "enumerate") [.ref l]) (fun xv s₁ => wpAny (model prog w) A (pyIter xv) (fun it s₂ => ForAt prog w A h₀ env (.Tuple elts k pos) body orelse Q it s₂) E s₁) E s := by
  have hlt : l < s.heap.objs.size := by obtain ⟨o, ho, _⟩ := hl; exact Heap.lt_size ho
  have hLs : env.locals < s.heap.objs.size := F.ns.lt
  have far : ∀ {a : Addr}, a < s.heap.objs.size → a ≠ s.heap.objs.size + 1 ∧ a ≠ s.heap.objs.size := fun h => ⟨ktu_ne 1 h, Nat.ne_of_lt h⟩
  refine enum_call hl fun h' hE hI hk => wpAny_pyIter_enum hE ?_
  have hl' : h'.IsTuple l vs.toArray := by obtain ⟨o, ho, r⟩ := hl; exact ⟨o, hk l o ho, r⟩
  have D : Draws prog w A.in1 s.heap.objs.size [s.heap.objs.size, l] vs.toArray.size _ _ := tup_draws (A := A.in1) hh s.heap.objs.size l (far hlt).2 vs.toArray
  have KT := KTurns.ofWalksU (elts := elts) (k := k) (pos := pos) (WalksT.enumerateD D (s.heap.objs.size + 1) (Nat.succ_ne_self _) (fun q => by
    rcases List.mem_cons.mp q with e | q
    · exact Nat.succ_ne_self _ e
    · exact (far hlt).1 (List.mem_singleton.mp q).symm) (.head _)).toU
  refine ⟨_, _, _, _, _, _, _, m, news, J, rfl, KT, fun q => ?_, fun b hb => ?_, ⟨⟨.none, hE⟩, hI, hl'⟩, F.keeps hk, N.grown hk, fun p hp q => ?_, hJ, ?_, ?_⟩
  · rcases List.mem_cons.mp q with e | q
    · exact (far hLs).1 e
    rcases List.mem_cons.mp q with e | q
    · exact (far hLs).2 e
    · exact hlL (List.mem_singleton.mp q).symm
  · rcases List.mem_cons.mp hb with e | hb
    · exact ktu_new F (e ▸ Nat.le_add_right _ _)
    · exact ktu_new F (Nat.le_of_eq (List.mem_singleton.mp hb).symm)
  · have z := far (Heap.lt_size (N p hp).1)
    rcases List.mem_cons.mp q with e | q
    · exact z.1 e
    · exact z.2 (List.mem_singleton.mp q)
  · rintro i v m₁ news₁ h tk own _ ⟨T, vals, rfl, ⟨t, x, hx, rfl⟩, hT⟩ hSt hJ' hap hown hall F' N'
    exact turn i x T t m₁ news₁ h tk own (by simpa using hx) hT hJ' (fun p hp => ⟨fun e => hap p hp (by simp [e]), fun e => hap p hp (by simp [e])⟩) (fun p hp => by simpa using hown p hp) F' N'
  · intro m' news' h tk hJ' F' N' _
    exact done m' news' h tk (by simpa using hJ') F' N'

theorem for_tuple {s : Shared} {l : Addr} {vs : List Value} {target : Expr} {body orelse : List Stmt} {Q : Flow → Shared → Prop} {m : Str → Option Value} {news : List (Addr × Obj)} (J : Nat → (Str → Option Value) → List (Addr × Obj) → Prop)
    (hh : A.handled = none) (hl : s.heap.IsTuple l vs.toArray) (hlL : l ≠ env.locals) (F : Fr h₀ env.locals s.heap m) (N : News h₀ env.locals s.heap news) (hJ : J 0 m news)
    (turn : ∀ i v m₁ news₁ h tk own, vs[i]? = some v → J i m₁ news₁ → (∀ p ∈ news₁, p.1 ≠ s.heap.objs.size) → (∀ p ∈ own, p.1 = s.heap.objs.size ∨ p.1 = l) → Fr h₀ env.locals h m₁ → News h₀ env.locals h (own ++ news₁) →
      wpAny (model prog w) A (assign target env v) (fun _ s₃ => wpAny (model prog w) A (execs body env) (FStep h₀ env.locals s own [s.heap.objs.size] (J (i + 1)) Q) (fun _ _ => False) s₃) (fun _ _ => False) { s with heap := h, toks := tk })
    (done : ∀ m' news' h tk, J vs.length m' news' → Fr h₀ env.locals h m' → News h₀ env.locals h news' → wpAny (model prog w) A (execs orelse env) Q (fun _ _ => False) { s with heap := h, toks := tk }) :
    wpAny (model prog w) A (pyIter (.ref l)) (fun it s₂ => ForAt prog w A h₀ env target body orelse Q it s₂) E s := by
  have hlt : l < s.heap.objs.size := by obtain ⟨o, ho, _⟩ := hl; exact Heap.lt_size ho
  have hLs : env.locals < s.heap.objs.size := F.ns.lt
  have hnew := next_is_new F
  refine wpAny_pyIter_tuple hl ?_
  refine ⟨s.heap.objs.size, [s.heap.objs.size, l], [s.heap.objs.size], vs.toArray.size, _, _, _, m, news, J, rfl, KTurns.ofWalks (Walks.tuple (prog := prog) (w := w) (A := A) hh s.heap.objs.size l (Nat.ne_of_lt hlt) vs.toArray) (fun _ _ _ _ _ st q => letGo_tupleiter st.1 q), ?_, ?_, ⟨⟨_, Heap.get?_push_size _ rfl, rfl, rfl⟩, hl.push _⟩, F.push _, (fun p hp => ⟨Heap.get?_push_of_some _ (N p hp).1, (N p hp).2⟩), ?_, hJ, ?_, ?_⟩
  · intro hm
    rcases List.mem_cons.mp hm with e | hm
    · exact absurd hLs (e ▸ Nat.lt_irrefl _)
    · exact hlL (List.mem_singleton.mp hm).symm
  · intro b hb
    rw [List.mem_singleton.mp hb]
    exact hnew
  · intro p hp hI
    exact absurd (Heap.lt_size (N p hp).1) ((List.mem_singleton.mp hI) ▸ Nat.lt_irrefl _)
  · intro i v m₁ news₁ h tk own _ hP hSt hJ' hap hown hall F' N'
    exact turn i v m₁ news₁ h tk own (by simpa using hP) hJ' (fun p hp e => hap p hp (by simp [e])) (fun p hp => by simpa using hown p hp) F' N'
  · intro m' news' h tk hJ' F' N' _
    exact done m' news' h tk (by simpa using hJ') F' N'
end
end Mine

end PartE2
section PartT1
open PySem PySem.W PySem.Spec PySem.Calls PyProof.Rows
set_option maxRecDepth 100000
set_option maxHeartbeats 8000000
namespace Mine
theorem quietT1 : True := by (w_top off); trivial
section
variable {prog : Program} {w : World} {A₀ A : Around} {E : Value → Shared → Prop} {s : Shared} {base h₀ : Heap} {outer : List Env} {L : Addr} {m : Str → Option Value} {env : Env} {news : List (Addr × Obj)}
/-- a def with cells, entered with the cells alone in the ledger -/
theorem code_pureC {K : Frag} {p : Program} {loose : List Str} {mean : ExcName → Option Value} {mg mb : Str → Option Value} {R : Result → Shared → Prop} {name qual : Str} {params : Arguments} {body : List Stmt} {scope : Scope} {dV kV doc pm cdv ct oc : Value} {an od : Option Addr} {osl : Array (Option Value)} {f : Addr} {args : Args} {binds : List (Str × Value)}
    (B : Below A₀ base outer h₀) (F : Fr h₀ L s.heap m) (X₀ : K.In h₀) (N : News h₀ L s.heap news) (T : Top p loose mean mg mb h₀) (hA : A.frames = some (env :: outer)) (hf : env.frame = some L) (hke : env.scope.kind = .function)
    (ho : K.lookup f = some ⟨oc, od, .func (fnOf name qual params body scope dV kV doc pm an cdv ct), osl⟩) (hcd : codeIn K cdv qual = true) (hroom : A.depth < recursionLimit)
    (hbind : BindsTo s (fnOf name qual params body scope dV kV doc pm an cdv ct) args binds) (hkind : (binds.all fun y => scope.names.lookup y.1 == some .local || scope.names.lookup y.1 == some .cell) = true)
    (hnd : ((cellsFrom 0 scope.names []).map (·.1)).Nodup)
    (h : ∀ g L' h₁ tk cells, Fr h₀ L g m → Fr g L' h₁ (bindL (envOfC qual scope L' f cdv).kindOf binds fun _ => none) → News g L' h₁ cells →
      CellsAre (bindC (envOfC qual scope L' f cdv).kindOf binds fun _ => none) (cellsFrom (L' + 1) scope.names []) cells → Below A base (env :: outer) g → K.In g → Top p loose mean mg mb g → (∀ b o, s.heap.get? b = some o → g.get? b = some o) →
      wpAny (model prog w) (A.deeper (envOfC qual scope L' f cdv)) (execs body (envOfC qual scope L' f cdv))
        (fun fl s' => LeaveK h₀ L m g (fun r s'' => News h₀ L s''.heap news → R r s'') (match fl with | .ret v => v | _ => .none) s')
        (fun e s' => wpAny (model prog w) (A.deeper (envOfC qual scope L' f cdv)) (leaving (envOfC qual scope L' f cdv) e) (fun _ s'' => R (.error e) s'') (fun e' s'' => R (.error e') s'') s')
        { s with heap := h₁, toks := tk })
    (hco : scope.isCoroutine = false) (hgen : scope.isGenerator = false) (hk : scope.kind = .function) : codeAny (model prog w) A (.call (.ref f) args) R s := by
  -- with an empty ledger nothing is hidden: the ground is the heap itself
  have ground := groundX (R := R) (news := []) B F News.nil hA hf hke
  change Fr h₀ L s.heap m ∧ Below A base (env :: outer) s.heap ∧ h₀.StaysIn s.heap ∧ ∀ v s', LeaveK h₀ L m s.heap R v s' → R (.ok (.ret v)) s' at ground
  have K₁ : K.In s.heap := X₀.keeps F.keep
  refine codeAny_call_function hroom (K₁ _ _ ho) rfl hco hgen rfl (codeRec_of K₁ hcd) (hbind _ _ _ _ (wpAny_newFunctionEnv_cells hk (kindsX hkind _) ?_))
  rintro _ rfl s₁ entry
  have kept := entry.toInCall.keep
  refine ⟨(T.nolimit.keeps F.keep).keeps kept, codeAny_func ?_⟩
  have names := cellsFrom_names scope.names 0 (s.heap.objs.size + 1) [] [] rfl ▸ hnd
  have own : ∀ n c, (n, c) ∈ cellsFrom (s.heap.objs.size + 1) scope.names [] → _ ∧ _ := fun n c hm => ⟨entry.cell n c (lookup_of_mem_nodup names hm), entry.above n c hm⟩
  obtain ⟨cells, made, cellsAre⟩ := Cl.news (h₀ := s.heap) (Nat.le_refl _) own
  obtain ⟨h₁, tk, rfl, _⟩ := entry.done
  have body := h s.heap s.heap.objs.size h₁ tk cells ground.1 ⟨entry.toInCall.ns, kept, Nat.le_refl _⟩ made cellsAre ground.2.1 (X₀.keeps ground.2.2.1) (T.keeps ground.2.2.1) (fun _ _ e => e)
  refine wpAny_mono body (fun fl s₂ left => ground.2.2.2 _ _ ?_) fun _ _ e => e
  obtain ⟨L₂, m₂, news₂, F₂, N₂, back⟩ := left
  exact ⟨L₂, m₂, news₂, F₂, N₂, fun a b => back a b fun p hp => ⟨F₂.keep _ _ (N p hp).1, (N p hp).2⟩⟩
end
local macro_rules | `(tactic| walk_at "pureC enter") => `(tactic| (refine' code_pureC ?k1 ?k2 ?k3 ?k4 ?k5 ?kA ?kF ?kK ?k6 ?k7 ?k8 ?k9 ?kB ?kD ?_ ?c2 ?c3 ?c4; (case kA => exact rfl); (case kF => exact rfl); (case kK => assumption); (case k1 => k_asm); (case k2 => k_asm); (case k3 => k_asm); (case k4 => k_asm); (case k5 => k_asm); (case k6 => k_is); (case k7 => k_is); (case k8 => ktr_room); (case k9 => exact BindsTo.of_eq rfl); (case kB => exact rfl); (case kD => decide +kernel); (case c2 => exact rfl); (case c3 => exact rfl); (case c4 => exact rfl); k_whole; intro g' L' h' tk' cells' FG' F' N' Y' B' X' T' hg9; k_cells Y'; (try dsimp only); (try k_lift B'); (try k_fold)))
local macro_rules | `(tactic| walk_at "steps") => `(tactic| repeat' (first | (k_unfold; (try dsimp only)) | (k_end; kc_close) | ((try dsimp only); walk1) | (leave1; (try dsimp only)) | fail "no step"))
local macro_rules | `(tactic| walk_at "step1") => `(tactic| (first | (k_unfold; (try dsimp only)) | (k_end; kc_close) | ((try dsimp only); walk1) | (leave1; (try dsimp only)) | fail "no step"))

/-- the heap behind i pushes -/
def hp (lt : Nat → Nat → Bool) : Nat → List Nat
  | 0 => []
  | i + 1 => sdP lt i (hp lt i).length (hp lt i ++ [i]) (hp lt i).length
theorem hp_len (lt : Nat → Nat → Bool) : ∀ i, (hp lt i).length = i
  | 0 => rfl
  | i + 1 => by rw [hp, sdP_len, List.length_append, hp_len lt i]; rfl
theorem sdP_all {lt : Nat → Nat → Bool} {x n : Nat} (hx : x < n) : ∀ (f : Nat) (H : List Nat) (p : Nat), (∀ j ∈ H, j < n) → 0 < H.length → ∀ j ∈ sdP lt x f H p, j < n
  | 0, H, p, hH, h0 => by unfold sdP; exact set_all hH hx
  | f + 1, H, p, hH, h0 => by
    unfold sdP
    split
    · split
      · refine sdP_all hx f _ _ (set_all hH ?_) (by rw [List.length_set]; exact h0)
        by_cases hq : (p - 1) / 2 < H.length
        · exact getD_mem hH hq
        · rw [List.getD_eq_getElem?_getD, List.getElem?_eq_none (by omega)]
          have := hH _ (List.getElem_mem h0)
          show 0 < n
          omega
      · exact set_all hH hx
    · exact set_all hH hx
theorem hp_all (lt : Nat → Nat → Bool) : ∀ i, ∀ j ∈ hp lt i, j < i
  | 0 => by simp [hp]
  | i + 1 => by
    unfold hp
    refine sdP_all (Nat.lt_succ_self i) _ _ _ ?_ (by simp)
    intro j hj
    rcases List.mem_append.mp hj with h | h
    · exact Nat.lt_succ_of_lt (hp_all lt i j h)
    · rw [List.mem_singleton.mp h]; exact Nat.lt_succ_self i
def tkM (ls : Addr) (v1 v2 : Option Value) : Str → Option Value := fun y => if y = "one" then v1 else if y = "place" then v2 else if y = "signs" then some (.ref ls) else none

def lastOf (H : List Nat) : Nat := H.getD (H.length - 1) 0
theorem last_split {H : List Nat} (h : 0 < H.length) : H.dropLast ++ [lastOf H] = H := by
  have hne : H ≠ [] := fun e => by rw [e] at h; exact absurd h (by simp)
  have e : lastOf H = H.getLast hne := by
    unfold lastOf
    rw [List.getLast_eq_getElem, List.getD_eq_getElem?_getD, List.getElem?_eq_getElem (by omega)]
    rfl
  rw [e]
  exact List.dropLast_concat_getLast hne
def pop1 (lt : Nat → Nat → Bool) (H : List Nat) : List Nat := popL lt H.dropLast (lastOf H)
def popsL (lt : Nat → Nat → Bool) (H : List Nat) : Nat → List Nat
  | 0 => H
  | i + 1 => pop1 lt (popsL lt H i)
def outs (lt : Nat → Nat → Bool) (H : List Nat) : Nat → List Nat
  | 0 => []
  | i + 1 => outs lt H i ++ [(popsL lt H i).getD 0 0]
theorem suLoop_len (lt : Nat → Nat → Bool) : ∀ (f : Nat) (H : List Nat) (p : Nat), (suLoop lt f H p).1.length = H.length
  | 0, H, p => rfl
  | f + 1, H, p => by
    unfold suLoop
    split
    · rw [suLoop_len lt f]; simp
    · rfl
theorem su_len (lt : Nat → Nat → Bool) (H : List Nat) : (su lt H).length = H.length := by
  unfold su suR
  rw [sdP_len, List.length_set, suLoop_len]
theorem pop1_len (lt : Nat → Nat → Bool) (H : List Nat) : (pop1 lt H).length = H.length - 1 := by
  unfold pop1 popL
  split
  · rename_i h
    have := congrArg List.length h
    simp at this
    simp [this]
  · rw [su_len, List.length_set, List.length_dropLast]
theorem popsL_len (lt : Nat → Nat → Bool) (H : List Nat) : ∀ i, (popsL lt H i).length = H.length - i
  | 0 => rfl
  | i + 1 => by rw [popsL, pop1_len, popsL_len lt H i]; omega
theorem suLoop_all {lt : Nat → Nat → Bool} {n : Nat} : ∀ (f : Nat) (H : List Nat) (p : Nat), (∀ j ∈ H, j < n) → ∀ j ∈ (suLoop lt f H p).1, j < n
  | 0, H, p, hH => hH
  | f + 1, H, p, hH => by
    unfold suLoop
    split
    · rename_i hc
      exact suLoop_all f _ _ (set_all hH (getD_mem hH (suC_lt hc)))
    · exact hH
theorem su_all {lt : Nat → Nat → Bool} {n : Nat} {H : List Nat} (hH : ∀ j ∈ H, j < n) (h0 : 0 < H.length) : ∀ j ∈ su lt H, j < n := by
  unfold su suR
  exact sdP_all (getD_mem hH h0) _ _ _ (set_all (suLoop_all _ _ _ hH) (getD_mem hH h0)) (by rw [List.length_set, suLoop_len]; exact h0)
theorem pop1_all {lt : Nat → Nat → Bool} {n : Nat} {H : List Nat} (hH : ∀ j ∈ H, j < n) (h0 : 0 < H.length) : ∀ j ∈ pop1 lt H, j < n := by
  unfold pop1 popL
  split
  · simp
  · rename_i h
    refine su_all (set_all (fun j hj => hH j (List.dropLast_subset _ hj)) (getD_mem hH (by omega))) ?_
    rw [List.length_set]
    exact List.length_pos_iff.mpr h
theorem popsL_all {lt : Nat → Nat → Bool} {n : Nat} {H : List Nat} (hH : ∀ j ∈ H, j < n) : ∀ i, i ≤ H.length → ∀ j ∈ popsL lt H i, j < n
  | 0, _ => hH
  | i + 1, h => pop1_all (popsL_all hH i (by omega)) (by rw [popsL_len]; omega)

theorem taken_c {w mean mg mb} {news : List (Addr × Obj)} {vs : List Value} {sg : Nat → Str} {ts : Nat → Tok} {ls : Addr} {n : Nat}
    (dp un : Nat) (gd : Option (List Code)) (cn : Str) (cs : Scope) (a : Addr) (ccd : Value) (cl : List (Str × Addr)) (outer : List Env) (A₀ : Around) (base h₀ : Heap) (L : Addr) (m : Str → Option Value) (s : Shared) (Q E : Value → Shared → Prop)
    (hB : Below A₀ base outer h₀) (hF : Fr h₀ L s.heap m) (hX : (hd.heap_39 w.params).In h₀) (hN : News h₀ L s.heap news) (hTop : Top hd.view_39 (looseW hd.view_39 [Str.ofString "_filemode_table"]) mean mg mb h₀) (hk : cs.kind = .function)
    (hdp : dp + 4 < recursionLimit) (hun : un + 8 * 4 < cLine)
    (hl : s.heap.IsList ls vs.toArray) (hvs : ∀ i, i < n → vs[i]? = some (.str (sg i) (ts i))) (hn : vs.length = n) (hn60 : n < 60)
    (hret : ∀ (ti : Nat → Tok) e h' tk' r, Fr h₀ L h' m → News h₀ L h' ((r, W.listOf ((outs (ltS sg) (hp (ltS sg) n) n).map fun (k : Nat) => Value.int (k : Int) (ti k)).toArray e) :: news) → (∀ q ∈ news, q.1 ≠ r) → Q (.ref r) { s with heap := h', toks := tk' }) :
    wpAny (model PySem.Challenge.rw_ny0123_01.row.prog w) (ktrTop dp un gd cn cs L a ccd cl outer) (call (.ref 122) [.ref ls]) Q E s := by
  revert hX; k_fill; intro hX
  refine wpAny_call ?_
  k_dflt (walk_at "pureC enter")
  iterate 7 (walk_at "step1")
  rename_i g L' hx tk0 FG B1 X1 T1 hg9 oc d1 l hy ltl h2 oc2 F2 N2 d2
  have F3 : Fr g L' h2 (tkM ls none none) := by
    refine Fr.congrM F2 (fun y => ?_)
    show (if y = Str.ofString "signs" then some (Value.ref ls) else none) = _
    unfold tkM
    repeat' split
    all_goals first | rfl | (subst_vars; contradiction)
  clear F2
  refine for_at (h₀ := g) ?_
  iterate 6 (walk_at "step1")
  have hl2 : h2.IsList ls vs.toArray := hl.at fun o e => F3.keep _ _ (hg9 _ _ e)
  have hls : ls ≠ L' := by
    obtain ⟨o, ho, _⟩ := hl
    exact Nat.ne_of_lt (Nat.lt_of_lt_of_le (Heap.lt_size (hg9 _ _ ho)) F3.above)
  have hl2' : l < h2.objs.size := Heap.lt_size (N2 _ (.head _)).1
  have hlsl : ls ≠ l := by
    obtain ⟨o, ho, _⟩ := hl
    intro q
    have q1 := (N2 _ (.head _)).2.2
    rw [← q, hg9 _ _ ho] at q1
    cases q1
  refine for_enum (s := { s with heap := h2, toks := _ }) (vs := vs) (fun i m₁ news₁ => ∃ (f : Fam) (tups : List (Addr × Obj)) (e : Nat) (v1 v2 : Option Value), m₁ = tkM ls v1 v2 ∧ news₁ = (l, W.listOf (f.vals (hp (ltS sg) i)).toArray e) :: tups ∧ (L' + 1, oc2) ∈ tups ∧ f.sg = sg ∧ (∀ k, k < i → (f.ad k, f.obj k) ∈ tups) ∧ (∀ p ∈ tups, p.1 ≠ l)) rfl hl2 hls F3 N2
    ⟨⟨fun _ => 0, sg, fun _ => 0, fun _ => 0⟩, [(L' + 1, oc2)], 0, none, none, rfl, rfl, .head _, rfl, (fun k hk => absurd hk (Nat.not_lt_zero _)), (fun p hp => by rw [List.mem_singleton.mp hp]; exact Nat.ne_of_lt ltl)⟩ ?_ ?_
  · rintro i v T t m₁ news₁ h tk own hv hT hw1 hw2 ⟨f, tups, e, v1, v2, rfl, rfl, hcm, hsg, hft, htl⟩ hap hown F₁ N₁
    have hin : i < n := by rw [← hn]; exact (List.getElem?_eq_some_iff.mp hv).1
    have hve : v = .str (sg i) (ts i) := by rw [hvs i hin] at hv; exact (Option.some.inj hv).symm
    subst hve
    iterate 15 (walk_at "step1")
    rename_i h5 F5 N5
    k_here
    k_dflt (refine nameX_C (c := L' + 1) (o := oc2) N5 rfl (List.mem_append_right _ (.tail _ hcm)) d2 ?_)
    iterate 7 (walk_at "step1")
    refine newTuple_N F5 N5 (fun h6 F6 N6 => ?_) (by rw [sizeLine_eq]; exact Nat.le_of_ble_eq_true rfl)
    iterate 2 (walk_at "step1")
    dsimp only at N6
    have hlt5 : ∀ q ∈ own ++ (l, W.listOf (f.vals (hp (ltS sg) i)).toArray e) :: tups, q.1 < h5.objs.size := fun q hq => Heap.lt_size (N5 q hq).1
    have hl5 : l < h5.objs.size := hlt5 (l, _) (List.mem_append_right _ (.head _))
    obtain ⟨ow1, hw1⟩ := hw1
    obtain ⟨ow2, hw2⟩ := hw2
    have ha1 := hlt5 _ (List.mem_append_left _ hw1)
    have ha2 := hlt5 _ (List.mem_append_left _ hw2)
    dsimp only at ha1 ha2 hown hap
    have hownl : ∀ q ∈ own, q.1 ≠ l := fun q hq => by
      rcases hown q hq with e | e | e
      · rw [e]; exact Nat.ne_of_gt (Nat.lt_succ_of_lt hl2')
      · rw [e]; exact Nat.ne_of_gt hl2'
      · rw [e]; exact hlsl
    generalize hae : h5.objs.size = ah at N6 hl5 ha1 ha2 hlt5 ⊢
    let f' : Fam := ⟨fun k => if k = i then ah else f.ad k, sg, fun k => if k = i then ts i else f.ts k, fun k => if k = i then t else f.ti k⟩
    have hvals : f'.vals (hp (ltS sg) i) = f.vals (hp (ltS sg) i) := by
      refine List.map_congr_left fun k hk => ?_
      have : k ≠ i := Nat.ne_of_lt (hp_all _ i k hk)
      show Value.ref (if k = i then ah else f.ad k) = _
      rw [if_neg this]
    have hfi : (ah, ({ cls := .type "tuple", data := .seq #[.str (sg i) (ts i), .int (i : Int) t] } : Obj)) = (f'.ad i, f'.obj i) := by
      show _ = ((if i = i then ah else f.ad i), (⟨.type "tuple", none, .seq #[.str (sg i) (if i = i then ts i else f.ts i), .int (i : Int) (if i = i then t else f.ti i)] 0, #[]⟩ : Obj))
      rw [if_pos rfl, if_pos rfl, if_pos rfl]
    have hfk : ∀ k, k < i → (f'.ad k, f'.obj k) = (f.ad k, f.obj k) := fun k hk => by
      have : k ≠ i := Nat.ne_of_lt hk
      show ((if k = i then ah else f.ad k), (⟨.type "tuple", none, .seq #[.str (sg k) (if k = i then ts i else f.ts k), .int (k : Int) (if k = i then t else f.ti k)] 0, #[]⟩ : Obj)) = _
      rw [if_neg this, if_neg this, if_neg this]
      unfold Fam.obj
      rw [hsg]
    have hT' : ∀ k, k < i + 1 → (f'.ad k, f'.obj k) ∈ (ah, ({ cls := .type "tuple", data := .seq #[.str (sg i) (ts i), .int (i : Int) t] } : Obj)) :: (own ++ tups) := fun k hk => by
      by_cases q : k = i
      · rw [q, hfi]; exact .head _
      · rw [hfk k (by omega)]; exact .tail _ (List.mem_append_right _ (hft k (by omega)))
    have htl' : ∀ q ∈ (ah, ({ cls := .type "tuple", data := .seq #[.str (sg i) (ts i), .int (i : Int) t] } : Obj)) :: (own ++ tups), q.1 ≠ l := fun q hq => by
      rcases List.mem_cons.mp hq with rfl | hq
      · exact Nat.ne_of_gt hl5
      · rcases List.mem_append.mp hq with hq | hq
        · exact hownl q hq
        · exact htl q hq
    have N7 : News g L' h6 ((l, W.listOf (f'.vals (hp (ltS sg) i)).toArray e) :: (ah, ({ cls := .type "tuple", data := .seq #[.str (sg i) (ts i), .int (i : Int) t] } : Obj)) :: (own ++ tups)) := fun q hq => by
      rw [hvals] at hq
      rcases List.mem_cons.mp hq with rfl | hq
      · exact N6 _ (.tail _ (List.mem_append_right _ (.head _)))
      · rcases List.mem_cons.mp hq with rfl | hq
        · exact N6 _ (.head _)
        · rcases List.mem_append.mp hq with hq | hq
          · exact N6 _ (.tail _ (List.mem_append_left _ hq))
          · exact N6 _ (.tail _ (List.mem_append_right _ (.tail _ hq)))
    have hadi : f'.ad i = ah := if_pos rfl
    rw [← hadi]
    k_here
    k_dflt (refine' ConM.use (heappush_c (f := f') (n := i + 1) (e := e) (x := i) (H := hp (ltS sg) i) hT' htl' (fun j hj => Nat.lt_succ_of_lt (hp_all _ i j hj)) (Nat.lt_succ_self i) (by rw [hp_len]; omega)) ?k1 ?k2 ?k3 ?k4 ?k5 ?kK ?kd ?ku ?_)
    case k1 => k_asm
    case k2 => k_asm
    case k3 => k_asm
    case k4 => exact N7
    case k5 => k_asm
    case kK => first | exact rfl | assumption
    case kd => ktr_room
    case ku => ktr_units
    intro t9 h9 tk9 F9 N9
    dsimp only
    refine wpAny_execs_nil ?_
    refine (show WEnd _ from ?_)
    refine ⟨h9, tk9, _, (l, W.listOf (f'.vals (hp (ltS sg) (i + 1))).toArray (e + 1)) :: (ah, ({ cls := .type "tuple", data := .seq #[.str (sg i) (ts i), .int (i : Int) t] } : Obj)) :: tups, rfl, F9, ?_, ?_, f', (ah, ({ cls := .type "tuple", data := .seq #[.str (sg i) (ts i), .int (i : Int) t] } : Obj)) :: tups, e + 1, some (.str (sg i) (ts i)), some (.int (i : Int) t), ?_, rfl, .tail _ hcm, rfl, ?_, ?_⟩
    · intro q hq
      rcases List.mem_append.mp hq with hq | hq
      · exact N9 _ (.tail _ (.tail _ (List.mem_append_left _ hq)))
      · rcases List.mem_cons.mp hq with rfl | hq
        · exact N9 _ (.head _)
        · rcases List.mem_cons.mp hq with rfl | hq
          · exact N9 _ (.tail _ (.head _))
          · exact N9 _ (.tail _ (.tail _ (List.mem_append_right _ hq)))
    · intro q hq hw
      have hw' : q.1 = h2.objs.size + 1 ∨ q.1 = h2.objs.size := by simpa using hw
      rcases List.mem_cons.mp hq with rfl | hq
      · rcases hw' with e | e
        · exact absurd e (Nat.ne_of_lt (Nat.lt_succ_of_lt hl2'))
        · exact absurd e (Nat.ne_of_lt hl2')
      · rcases List.mem_cons.mp hq with rfl | hq
        · rcases hw' with e | e
          · exact absurd e (Nat.ne_of_gt ha1)
          · exact absurd e (Nat.ne_of_gt ha2)
        · have := hap q (.tail _ hq)
          rcases hw' with e | e
          · exact this.1 e
          · exact this.2 e
    · funext y
      unfold tkM
      repeat' split
      all_goals first | rfl | (subst_vars; contradiction)
    · intro k hk
      by_cases q : k = i
      · rw [q, hfi]; exact .head _
      · rw [hfk k (by omega)]; exact .tail _ (hft k (by omega))
    · intro q hq
      rcases List.mem_cons.mp hq with rfl | hq
      · exact Nat.ne_of_gt hl5
      · exact htl q hq
  · rintro m' news' h tk ⟨f, tups, e, v1, v2, rfl, rfl, hcm, hsg, hft, htl⟩ F₁ N₁
    refine wpAny_execs_nil ?_
    dsimp only
    iterate 2 (walk_at "step1")
    refine comp_eval (h₀ := g) (L := L') (cl := [(Str.ofString "heap", L' + 1)]) rfl (by decide) rfl (by decide) ?_
    iterate 1 (walk_at "step1")
    have hl3 : h.IsList ls vs.toArray := hl.at fun o e => F₁.keep _ _ (hg9 _ _ e)
    refine comp_list (s := { s with heap := h, toks := tk }) (vs := vs) (fun i ys news₁ => ∃ e', news₁ = (l, W.listOf (f.vals (popsL (ltS sg) (hp (ltS sg) n) i)).toArray e') :: tups ∧ ys = (outs (ltS sg) (hp (ltS sg) n) i).map fun (k : Nat) => Value.int (k : Int) (f.ti k)) rfl rfl rfl hl3 hls (by omega) F₁ N₁ ⟨e, by rw [hn]; rfl, rfl⟩ ?_ ?_
    · dsimp only
      rintro i v ys e2 news₁ h3 tk3 own mC hv ⟨e', rfl, hys⟩ hyl hap hown hw F₃ N₃ ns₃
      have hin : i < n := by rw [← hn]; exact (List.getElem?_eq_some_iff.mp hv).1
      iterate 6 (walk_at "step1")
      refine wpAny_Name (wpAny_loadName_cell rfl rfl rfl ⟨oc2, N₃.get (.tail _ (List.mem_append_right _ (.tail _ hcm))), d2⟩ ?_) (by decide)
      iterate 2 (walk_at "step1")
      have hplen : (popsL (ltS sg) (hp (ltS sg) n) i).length = n - i := by rw [popsL_len, hp_len]
      have hall : ∀ j ∈ popsL (ltS sg) (hp (ltS sg) n) i, j < n := popsL_all (hp_all _ n) i (by rw [hp_len]; omega)
      have hsplit := last_split (H := popsL (ltS sg) (hp (ltS sg) n) i) (by omega)
      obtain ⟨oC, hoC⟩ : ∃ oC, h3.get? (h.objs.size + 2) = some oC := by obtain ⟨o, _, _, ho, _⟩ := ns₃; exact ⟨o, ho⟩
      have hl4 : l < h.objs.size := Heap.lt_size (N₁ _ (.head _)).1
      have hft' : ∀ k, k < n → (f.ad k, f.obj k) ∈ tups := by rw [hn] at hft; exact hft
      have N4 : News g L' h3 ((l, W.listOf (f.vals ((popsL (ltS sg) (hp (ltS sg) n) i).dropLast ++ [lastOf (popsL (ltS sg) (hp (ltS sg) n) i)])).toArray e') :: (h.objs.size + 2, oC) :: (h.objs.size + 1, W.listOf ys.toArray e2) :: (own ++ tups)) := fun q hq => by
        rw [hsplit] at hq
        rcases List.mem_cons.mp hq with rfl | hq
        · exact N₃ _ (.tail _ (List.mem_append_right _ (.head _)))
        · rcases List.mem_cons.mp hq with rfl | hq
          · exact ⟨hoC, Nat.ne_of_gt (Nat.lt_of_lt_of_le F₁.ns.lt (Nat.le_add_right _ 2)), ktu_new F₁ (Nat.le_add_right _ 2)⟩
          · rcases List.mem_cons.mp hq with rfl | hq
            · exact N₃ _ (.head _)
            · rcases List.mem_append.mp hq with hq | hq
              · exact N₃ _ (.tail _ (List.mem_append_left _ hq))
              · exact N₃ _ (.tail _ (List.mem_append_right _ (.tail _ hq)))
      have htl4 : ∀ q ∈ (h.objs.size + 2, oC) :: (h.objs.size + 1, W.listOf ys.toArray e2) :: (own ++ tups), q.1 ≠ l := fun q hq => by
        rcases List.mem_cons.mp hq with rfl | hq
        · exact Nat.ne_of_gt (Nat.lt_of_lt_of_le hl4 (Nat.le_add_right _ 2))
        · rcases List.mem_cons.mp hq with rfl | hq
          · exact Nat.ne_of_gt (Nat.lt_of_lt_of_le hl4 (Nat.le_add_right _ 1))
          · rcases List.mem_append.mp hq with hq | hq
            · rcases hown q hq with e | e
              · rw [e]; exact Nat.ne_of_gt hl4
              · rw [e]; exact hlsl
            · exact htl q hq
      k_here
      k_dflt (refine' ConM.use (heappop_c (f := f) (n := n) (e := e') (x := lastOf (popsL (ltS sg) (hp (ltS sg) n) i)) (H := (popsL (ltS sg) (hp (ltS sg) n) i).dropLast) (fun k hk => .tail _ (.tail _ (List.mem_append_right _ (hft' k hk)))) htl4 (fun j hj => hall j (List.dropLast_subset _ hj)) (getD_mem hall (by omega)) (by rw [List.length_dropLast]; omega)) ?k1 ?k2 ?k3 ?k4 ?k5 ?kK ?kd ?ku ?_)
      case k1 => k_asm
      case k2 => k_asm
      case k3 => k_asm
      case k4 => exact N4
      case k5 => k_asm
      case kK => first | exact rfl | assumption
      case kd => ktr_room
      case ku => ktr_units
      intro t9 h9 tk9 F9 N9
      dsimp only
      rw [hsg] at N9
      have hk0 : (popsL (ltS sg) (hp (ltS sg) n) i).getD 0 0 < n := getD_mem hall (by omega)
      rw [hsplit]
      iterate 1 (walk_at "step1")
      have htup : IsTup h9 (f.ad ((popsL (ltS sg) (hp (ltS sg) n) i).getD 0 0)) #[.str (f.sg ((popsL (ltS sg) (hp (ltS sg) n) i).getD 0 0)) (f.ts ((popsL (ltS sg) (hp (ltS sg) n) i).getD 0 0)), .int (((popsL (ltS sg) (hp (ltS sg) n) i).getD 0 0 : Nat) : Int) (f.ti ((popsL (ltS sg) (hp (ltS sg) n) i).getD 0 0))] :=
        ⟨_, (N9 _ (.tail _ (.tail _ (.tail _ (List.mem_append_right _ (hft' _ hk0)))))).1, rfl, _, rfl⟩
      refine item_tupleT (l := [_, _]) htup (by decide) (by decide) (j := 1) rfl rfl ?_
      refine ⟨h9, _, (l, W.listOf (f.vals (popsL (ltS sg) (hp (ltS sg) n) (i + 1))).toArray (e' + 1)) :: tups, _, rfl, F9, ?_, ns₃.at' (fun o ho => ?_), ?_, e' + 1, rfl, ?_⟩
      · intro q hq
        rcases List.mem_cons.mp hq with rfl | hq
        · exact N9 _ (.tail _ (.tail _ (.head _)))
        · rcases List.mem_append.mp hq with hq | hq
          · exact N9 _ (.tail _ (.tail _ (.tail _ (List.mem_append_left _ hq))))
          · rcases List.mem_cons.mp hq with rfl | hq
            · exact N9 _ (.head _)
            · exact N9 _ (.tail _ (.tail _ (.tail _ (List.mem_append_right _ hq))))
      · rw [hoC] at ho
        cases ho
        exact (N9 _ (.tail _ (.head _))).1
      · intro q hq
        rcases List.mem_cons.mp hq with rfl | hq
        · exact ⟨Nat.ne_of_lt (Nat.lt_succ_of_lt hl4), Nat.ne_of_lt (Nat.lt_succ_of_lt (Nat.lt_succ_of_lt hl4)), fun e => Nat.ne_of_lt hl4 (List.mem_singleton.mp e)⟩
        · have := hap q (.tail _ hq)
          exact ⟨this.2.1, this.2.2, fun e => this.1 (List.mem_singleton.mp e)⟩
      · rw [hys, outs, List.map_append]
        rfl
    · dsimp only
      rintro ys e2 news' h3 tk3 mC ⟨e', rfl, hys⟩ hyl F₃ N₃ hap ns₃
      rw [hn] at hys
      subst hys
      refine comp_fin (s' := { s with heap := h3, toks := tk3 }) F₃ N₃ hap (Nat.ne_of_lt (Nat.lt_succ_self _)) (Nat.ne_of_gt (Nat.lt_of_lt_of_le F₁.ns.lt (Nat.le_add_right _ 2))) (ktu_new F₁ (Nat.le_add_right _ 2)) ns₃ (fun h4 F4 N4 => ?_)
      walk_at "steps"
      rename_i kF kN _ _ kN2
      refine hret f.ti e2 _ _ _ kF (fun q hq => ?_) (fun q hq => Nat.ne_of_lt (Nat.lt_succ_of_lt (Heap.lt_size (F₁.keep _ _ (hg9 _ _ (hN q hq).1)))))
      rcases List.mem_cons.mp hq with rfl | hq
      · exact kN _ (.head _)
      · exact kN2 q hq
end Mine

end PartT1
section PartF1
open PySem PySem.W PySem.Spec PySem.Calls PyProof.Rows
set_option maxRecDepth 100000
set_option maxHeartbeats 8000000
namespace Mine
theorem quietF1 : True := by (w_top off); trivial
local macro_rules | `(tactic| walk_at "pure enter") => `(tactic| (refine' code_pure ?k1 ?k2 ?k3 ?k4 ?k5 ?kA ?kF ?kK ?k6 ?k7 ?k8 ?k9 ?kB ?_ ?c2 ?c3 ?c4 ?c5; (case kA => exact rfl); (case kF => exact rfl); (case kK => assumption); (case k1 => k_asm); (case k2 => k_asm); (case k3 => k_asm); (case k4 => k_asm); (case k5 => k_asm); (case k6 => k_is); (case k7 => k_is); (case k8 => ktr_room); (case k9 => exact BindsTo.of_eq rfl); (case c5 => decide); (case kB => exact locs rfl); (case c2 => exact rfl); (case c3 => exact rfl); (case c4 => exact rfl); k_whole; intro g' L' h' FG' F' N' B' X' T' hg9; (try dsimp only); (try k_lift B'); (try k_fold)))
local macro_rules | `(tactic| walk_at "con args") => `(tactic| ((case k1 => k_asm); (case k2 => k_asm); (case k3 => k_asm); (case k4 => k_asm); (case k5 => k_asm); (case kK => first | exact rfl | assumption); (case kp => first | trivial | assumption | omega); (case kd => ktr_room); (case ku => ktr_units); (intro t9 h9 tk9 F9 N9; (try dsimp only); (try k_fold))))
local macro_rules | `(tactic| walk_at "steps") => `(tactic| repeat' (first | (k_unfold; (try dsimp only)) | (k_end; kc_close) | ((try dsimp only); walk1) | (leave1; (try dsimp only)) | fail "no step"))
local macro_rules | `(tactic| walk_at "step1") => `(tactic| (first | (k_unfold; (try dsimp only)) | (k_end; kc_close) | ((try dsimp only); walk1) | (leave1; (try dsimp only)) | fail "no step"))
local macro_rules | `(tactic| walk_at "call ref") => `(tactic| (k_here; k_dflt (refine' Con.use (ifmt_c _ _) ?k1 ?k2 ?k3 ?k4 ?k5 ?kK ?kp ?kd ?ku ?_); walk_at "con args"))

/-- an entry of the table: its tuple's place, its bit, its sign -/
structure Ent where
  a : Addr
  b : Int
  tb : Tok
  c : Str
  tc : Tok
def Ent.obj (e : Ent) : Obj := { cls := .type "tuple", data := .seq #[.int e.b e.tb, .str e.c e.tc] }
def tabs : List (Addr × List Ent) := [(29, [⟨22, 40960, 206, Str.ofString "l", 234⟩, ⟨23, 49152, 208, Str.ofString "s", 235⟩, ⟨24, 32768, 202, Str.ofString "-", 236⟩, ⟨25, 24576, 200, Str.ofString "b", 237⟩, ⟨26, 16384, 196, Str.ofString "d", 238⟩, ⟨27, 8192, 198, Str.ofString "c", 239⟩, ⟨28, 4096, 204, Str.ofString "p", 240⟩]), (31, [⟨30, 256, 216, Str.ofString "r", 241⟩]), (33, [⟨32, 128, 218, Str.ofString "w", 242⟩]), (37, [⟨34, 2112, 243, Str.ofString "s", 244⟩, ⟨35, 2048, 210, Str.ofString "S", 245⟩, ⟨36, 64, 220, Str.ofString "x", 246⟩]), (39, [⟨38, 32, 222, Str.ofString "r", 247⟩]), (41, [⟨40, 16, 224, Str.ofString "w", 248⟩]), (45, [⟨42, 1032, 249, Str.ofString "s", 250⟩, ⟨43, 1024, 212, Str.ofString "S", 251⟩, ⟨44, 8, 226, Str.ofString "x", 252⟩]), (47, [⟨46, 4, 228, Str.ofString "r", 253⟩]), (49, [⟨48, 2, 230, Str.ofString "w", 254⟩]), (53, [⟨50, 513, 255, Str.ofString "t", 256⟩, ⟨51, 512, 214, Str.ofString "T", 257⟩, ⟨52, 1, 232, Str.ofString "x", 258⟩])]
def tabAt (i : Nat) : Addr × List Ent := tabs.getD i (0, [])
def tabVals : List Value := tabs.map fun p => .ref p.1
def tabObj (p : Addr × List Ent) : Obj := { cls := .type "tuple", data := .seq (p.2.map fun e => Value.ref e.a).toArray }

theorem tabs_in {P : Params} {g : Heap} (X : (hd.heap_39 P).In g) : g.IsTuple 54 tabVals.toArray ∧ ∀ p ∈ tabs, g.get? p.1 = some (tabObj p) ∧ ∀ e ∈ p.2, g.get? e.a = some e.obj := by
  refine ⟨⟨_, X 54 _ rfl, rfl, _, rfl⟩, ?_⟩
  simp only [tabs, List.forall_mem_cons, List.not_mem_nil, false_imp_iff, implies_true, and_true]
  refine ⟨?_, ?_, ?_, ?_, ?_, ?_, ?_, ?_, ?_, ?_⟩
  all_goals first
    | exact ⟨X _ _ rfl, X _ _ rfl⟩
    | exact ⟨X _ _ rfl, X _ _ rfl, X _ _ rfl, X _ _ rfl⟩
    | exact ⟨X _ _ rfl, X _ _ rfl, X _ _ rfl, X _ _ rfl, X _ _ rfl, X _ _ rfl, X _ _ rfl, X _ _ rfl⟩

def fmCond (i : Nat) (x : Int) (e : Ent) : Bool := if i = 0 then decide (Builtin.bitAnd x 61440 = e.b) else decide (Builtin.bitAnd x e.b = e.b)
def tabChar (x : Int) (i : Nat) : Str := match (tabAt i).2.find? (fmCond i x) with
  | some e => e.c
  | none => if i = 0 then "?" else "-"
def fmM (x : Int) (t : Tok) (l : Addr) (vi vt vb vc : Option Value) : Str → Option Value := fun y => if y = "char" then vc else if y = "bit" then vb else if y = "table" then vt else if y = "index" then vi else if y = "perm" then some (.ref l) else if y = "mode" then some (.int x t) else none
theorem fm_start {g h : Heap} {L' l : Addr} {x : Int} {t : Tok} (F : Fr g L' h fun y => if y = Str.ofString "perm" then some (.ref l) else List.lookup y [(Str.ofString "mode", .int x t)]) : Fr g L' h (fmM x t l none none none none) := by
  refine Fr.congrM F (fun y => ?_)
  have e : List.lookup y [(Str.ofString "mode", Value.int x t)] = if y = Str.ofString "mode" then some (.int x t) else none := by
    simp only [List.lookup_cons, List.lookup_nil]
    by_cases h1 : y = Str.ofString "mode"
    · simp [h1]
    · have e1 : (y == Str.ofString "mode") = false := by simpa using h1
      rw [e1, if_neg h1]
  rw [e]
  unfold fmM
  repeat' split
  all_goals first | rfl | (subst_vars; contradiction)
theorem fm_idx {g h : Heap} {L' l : Addr} {x : Int} {t : Tok} {vi vt vb vc vi' vt' : Option Value} (F : Fr g L' h fun y => if y = Str.ofString "table" then vt' else if y = Str.ofString "index" then vi' else fmM x t l vi vt vb vc y) : Fr g L' h (fmM x t l vi' vt' vb vc) := by
  refine Fr.congrM F (fun y => ?_)
  unfold fmM
  repeat' split
  all_goals first | rfl | (subst_vars; contradiction)
theorem fm_bit {g h : Heap} {L' l : Addr} {x : Int} {t : Tok} {vi vt vb vc vb' vc' : Option Value} (F : Fr g L' h fun y => if y = Str.ofString "char" then vc' else if y = Str.ofString "bit" then vb' else fmM x t l vi vt vb vc y) : Fr g L' h (fmM x t l vi vt vb' vc') := by
  refine Fr.congrM F (fun y => ?_)
  unfold fmM
  repeat' split
  all_goals first | rfl | (subst_vars; contradiction)

section
variable {prog : Program} {w : World} {A : Around} {E : Value → Shared → Prop} {s : Shared} {h₀ : Heap} {L l : Addr} {m : Str → Option Value}
theorem app_in {B : List (Addr × Obj)} {ys : List Value} {e : Nat} {x : Value} {Q : Value → Shared → Prop} (F : Fr h₀ L s.heap m) (N : News h₀ L s.heap (B ++ [(l, W.listOf ys.toArray e)])) (hB : ∀ p ∈ B, p.1 ≠ l) (hz : ys.length < 64)
    (h : ∀ h', Fr h₀ L h' m → News h₀ L h' (B ++ [(l, W.listOf (ys ++ [x]).toArray (e + 1))]) → Q .none { s with heap := h' }) : wpAny (model prog w) A (call (.builtin "list.append") [.ref l, x]) Q E s := by
  have z := N (l, W.listOf ys.toArray e) (List.mem_append_right _ (.head _))
  refine append_at z.1 (fun h' hs ho => h h' (F.change hs z.2.1 z.2.2) fun p hp => ?_) (by rw [List.size_toArray, sizeLine_eq]; omega)
  rcases List.mem_append.mp hp with hp | hp
  · have q := N p (List.mem_append_left _ hp)
    exact ⟨(hs.2 _ (hB p hp)).trans q.1, q.2⟩
  · rw [List.mem_singleton.mp hp]
    refine ⟨?_, z.2⟩
    rw [ho]
    simp
end
local macro_rules | `(tactic| walk_at "call builtin:list.append") => `(tactic| (k_here; (with_reducible show wpAny _ _ (call (Value.builtin _) [Value.ref _, _]) _ _ _); k_dflt (refine' app_in ?k1 ?k2 ?k3 ?k4 ?_; (case k1 => assumption); (case k2 => assumption); (case k3 => assumption); (case k4 => omega)); intro h' F' N'))
local macro_rules | `(tactic| walk_at "FStep") => `(tactic| (dsimp only [FStep]))
theorem find_hit {α : Type} {p : α → Bool} {l : List α} {j : Nat} {e : α} (he : l[j]? = some e) (hb : ∀ a ∈ l.take j, p a = false) (hp : p e = true) : l.find? p = some e := by
  obtain ⟨hj, he⟩ := List.getElem?_eq_some_iff.mp he
  have : l = l.take j ++ e :: l.drop (j + 1) := by
    rw [← he, ← List.drop_eq_getElem_cons hj, List.take_append_drop]
  rw [this]
  rw [List.find?_append, List.find?_eq_none.mpr (fun a ha => by rw [hb a ha]; simp)]
  simp [hp]
theorem take_step {α : Type} {p : α → Bool} {l : List α} {j : Nat} {e : α} (he : l[j]? = some e) (hb : ∀ a ∈ l.take j, p a = false) (hp : p e = false) : ∀ a ∈ l.take (j + 1), p a = false := by
  intro a ha
  rw [List.take_add_one, he] at ha
  rcases List.mem_append.mp ha with h | h
  · exact hb a h
  · simp at h; rw [h]; exact hp
theorem strs_snoc {vs : List Value} {ys : List Str} {y : Str} {t : Tok} (h : StrsAre vs ys) : StrsAre (vs ++ [.str y t]) (ys ++ [y]) := by
  induction h with
  | nil => exact .cons y t .nil
  | cons z u _ ih => exact .cons z u ih
theorem range_snoc (f : Nat → Str) (i : Nat) : (List.range (i + 1)).map f = (List.range i).map f ++ [f i] := by
  rw [List.range_succ, List.map_append]; rfl
theorem strs_len {vs : List Value} {ys : List Str} (h : StrsAre vs ys) : vs.length = ys.length := by
  induction h with
  | nil => rfl
  | cons z u _ ih => simp [ih]
theorem sum_ones {ys : List Str} (h : ∀ y ∈ ys, y.length = 1) : (ys.map (·.length)).sum = ys.length := by
  induction ys with
  | nil => rfl
  | cons y ys ih =>
    rw [List.map_cons, List.sum_cons, h y (.head _), ih (fun z hz => h z (.tail _ hz)), List.length_cons]; omega
theorem ent_len : ∀ p ∈ tabs, ∀ e ∈ p.2, e.c.length = 1 := by decide
theorem tabChar_len (x : Int) (i : Nat) (hi : i < 10) : (tabChar x i).length = 1 := by
  have hmem : tabAt i ∈ tabs := by
    unfold tabAt
    rw [List.getD_eq_getElem?_getD, List.getElem?_eq_getElem (show i < tabs.length from hi)]
    exact List.getElem_mem _
  unfold tabChar
  split
  · rename_i e he
    exact ent_len _ hmem e (List.mem_of_find?_eq_some he)
  · split <;> rfl
def fmOf (x : Int) : Str := Txt.join "" ((List.range 10).map (tabChar x))
theorem filemode_c {w mean mg mb news} (x : Int) (t : Tok) : Con 2 w mean mg mb 61 news True [Value.int x t] (fun t => Value.str (fmOf x) t) := by
  dsimp only [Con, CbRet]; k_fill
  intro dp un gd cn cs a ccd cl outer A₀ base h₀ L m s Q E hB hF hX hN hTop hk _ hdp hun hret
  refine wpAny_call ?_
  k_dflt (walk_at "pure enter")
  iterate 9 (walk_at "step1")
  rename_i g L' h1 FG B' X' T' hg9 tk1 l h2 _ h3 F1 N1
  have F2 := fm_start F1
  clear F1
  refine for_at (h₀ := g) ?_
  iterate 6 (walk_at "step1")
  obtain ⟨hT54, hTabs⟩ := tabs_in X'
  have h54 : h3.IsTuple 54 tabVals.toArray := by obtain ⟨o, ho, r⟩ := hT54; exact ⟨o, F2.keep _ _ ho, r⟩
  have h54L : (54 : Addr) ≠ L' := by obtain ⟨o, ho, r⟩ := hT54; exact Nat.ne_of_lt (Nat.lt_of_lt_of_le (Heap.lt_size ho) F2.above)
  have hlg : g.get? l = none := (N1 _ (.head _)).2.2
  have hl3 : l < h3.objs.size := Heap.lt_size (N1 _ (.head _)).1
  refine for_enumT (s := { s with heap := h3, toks := _ }) (vs := tabVals) (fun i m₁ news₁ => ∃ ch e vi vt vb vc, m₁ = fmM x t l vi vt vb vc ∧ news₁ = [(l, W.listOf ch.toArray e)] ∧ StrsAre ch ((List.range i).map (tabChar x))) rfl h54 h54L F2 N1 ⟨[], 0, none, none, none, none, rfl, rfl, .nil⟩ ?_ ?_
  · rintro i v T t' m₁ news₁ h tk own hv hT ⟨ch, e, vi, vt, vb, vc, rfl, rfl, hcs⟩ hap hown F₁ N₁
    have hi : i < tabs.length := by
      have := (List.getElem?_eq_some_iff.mp hv).1
      simpa [tabVals] using this
    have hmem : tabAt i ∈ tabs := by
      unfold tabAt
      rw [List.getD_eq_getElem?_getD, List.getElem?_eq_getElem hi]
      exact List.getElem_mem hi
    have hve : v = .ref (tabAt i).1 := by
      unfold tabVals at hv
      rw [List.getElem?_map, List.getElem?_eq_getElem hi] at hv
      unfold tabAt
      rw [List.getD_eq_getElem?_getD, List.getElem?_eq_getElem hi]
      exact (Option.some.inj hv).symm
    subst hve
    obtain ⟨htab, hents⟩ := hTabs _ hmem
    iterate 10 (walk_at "step1")
    rename_i h5 F5 N5
    have F6 := fm_idx F5
    clear F5
    refine for_at (h₀ := g) ?_
    iterate 1 (walk_at "step1")
    have hlen : ch.length < 60 := by
      have := strs_len hcs
      rw [List.length_map, List.length_range] at this
      have : tabs.length = 10 := rfl
      omega
    have htab5 : h5.IsTuple (tabAt i).1 ((tabAt i).2.map fun e => Value.ref e.a).toArray := ⟨_, F6.keep _ _ htab, rfl, _, rfl⟩
    have htabL : (tabAt i).1 ≠ L' := Nat.ne_of_lt (Nat.lt_of_lt_of_le (Heap.lt_size htab) F6.above)
    have hownl : ∀ q ∈ own, q.1 ≠ l := fun q hq => by
      rcases hown q hq with e | e | e
      · rw [e]; exact Nat.ne_of_gt (Nat.lt_succ_of_lt hl3)
      · rw [e]; exact Nat.ne_of_gt hl3
      · rw [e]
        intro q
        obtain ⟨o, ho, _⟩ := hT54
        rw [q, hlg] at ho
        cases ho
    have hapl : ∀ (o : Obj), ∀ q ∈ [((l, o) : Addr × Obj)], q.1 ∉ [h3.objs.size + 1, h3.objs.size] := fun o q hq hw => by
      rw [List.mem_singleton.mp hq] at hw
      have hw' : l = h3.objs.size + 1 ∨ l = h3.objs.size := by simpa using hw
      rcases hw' with e | e
      · exact Nat.ne_of_lt (Nat.lt_succ_of_lt hl3) e
      · exact Nat.ne_of_lt hl3 e
    have hl5 : l < h5.objs.size := Heap.lt_size (N5 _ (List.mem_append_right _ (.head _))).1
    refine for_tuple (s := { s with heap := h5, toks := _ }) (vs := (tabAt i).2.map fun e => Value.ref e.a) (fun j m₁ news₁ => ∃ vb vc, m₁ = fmM x t l (some (.int (i : Int) t')) (some (.ref (tabAt i).1)) vb vc ∧ news₁ = own ++ [(l, W.listOf ch.toArray e)] ∧ ∀ a ∈ (tabAt i).2.take j, fmCond i x a = false) rfl htab5 htabL F6 N5 ⟨vb, vc, rfl, rfl, by simp⟩ ?_ ?_
    · rintro j v m₁ news₁ h7 tk7 own2 hv ⟨vb', vc', rfl, rfl, hfalse⟩ hap2 hown2 F7 N7
      obtain ⟨ej, hej, rfl⟩ : ∃ ej, (tabAt i).2[j]? = some ej ∧ v = .ref ej.a := by
        rw [List.getElem?_map] at hv
        cases hq : (tabAt i).2[j]? with
        | none => rw [hq] at hv; cases hv
        | some ej => rw [hq] at hv; exact ⟨ej, rfl, (Option.some.inj hv).symm⟩
      have htup : IsTup h7 ej.a #[.int ej.b ej.tb, .str ej.c ej.tc] := ⟨_, F7.keep _ _ (hents ej (List.mem_of_getElem? hej)), rfl, _, rfl⟩
      rw [← List.append_assoc] at N7
      have hB : ∀ q ∈ own2 ++ own, q.1 ≠ l := fun q hq => by
        rcases List.mem_append.mp hq with hq | hq
        · rcases hown2 q hq with e | e
          · rw [e]; exact Nat.ne_of_gt hl5
          · rw [e]
            intro q
            rw [q, hlg] at htab
            cases htab
        · exact hownl q hq
      have hap' : ∀ q ∈ own ++ [(l, W.listOf ch.toArray e)], q.1 ∉ [h5.objs.size] := fun q hq hw => hap2 q hq (List.mem_singleton.mp hw)
      have hnext : fmCond i x ej = false → ∀ a ∈ (tabAt i).2.take (j + 1), fmCond i x a = false := fun h => take_step hej hfalse h
      have hhit : fmCond i x ej = true → tabChar x i = ej.c := fun h => by unfold tabChar; rw [find_hit hej hfalse h]
      walk_at "steps"
      · rename (i : Int) = 0 => hi0
        rename Builtin.bitAnd x 61440 = ej.b => hc
        rename_i F9 N9
        refine ⟨_, _, _, [(l, W.listOf (ch ++ [Value.str ej.c ej.tc]).toArray (e + 1))], rfl, fm_bit F9, fun q hq => ?_, hapl _, _, e + 1, _, _, _, _, rfl, rfl, ?_⟩
        · rcases List.mem_append.mp hq with hq | hq
          · exact N9 q (List.mem_append_left _ (List.mem_append_right _ hq))
          · exact N9 q (List.mem_append_right _ hq)
        · rw [range_snoc, hhit (by unfold fmCond; rw [if_pos (by omega)]; exact decide_eq_true hc)]
          exact strs_snoc hcs
      · rename (i : Int) = 0 => hi0
        rename Builtin.bitAnd x 61440 ≠ ej.b => hc
        rename_i F9 N9
        refine ⟨_, _, _, own ++ [(l, W.listOf ch.toArray e)], rfl, fm_bit F9, by rw [← List.append_assoc]; exact N9, hap', _, _, rfl, rfl, hnext ?_⟩
        unfold fmCond; rw [if_pos (by omega)]; exact decide_eq_false hc
      · rename (i : Int) ≠ 0 => hi0
        rename Builtin.bitAnd x ej.b = ej.b => hc
        rename_i F9 N9
        refine ⟨_, _, _, [(l, W.listOf (ch ++ [Value.str ej.c ej.tc]).toArray (e + 1))], rfl, fm_bit F9, fun q hq => ?_, hapl _, _, e + 1, _, _, _, _, rfl, rfl, ?_⟩
        · rcases List.mem_append.mp hq with hq | hq
          · exact N9 q (List.mem_append_left _ (List.mem_append_right _ hq))
          · exact N9 q (List.mem_append_right _ hq)
        · rw [range_snoc, hhit (by unfold fmCond; rw [if_neg (by omega)]; exact decide_eq_true hc)]
          exact strs_snoc hcs
      · rename (i : Int) ≠ 0 => hi0
        rename Builtin.bitAnd x ej.b ≠ ej.b => hc
        rename News g _ _ _ => N9
        rename Fr g _ _ _ => F9
        refine ⟨_, _, _, own ++ [(l, W.listOf ch.toArray e)], rfl, fm_bit F9, by rw [← List.append_assoc]; exact N9, hap', _, _, rfl, rfl, hnext ?_⟩
        unfold fmCond; rw [if_neg (by omega)]; exact decide_eq_false hc
    · rintro m' news' h7 tk7 ⟨vb', vc', rfl, rfl, hfalse⟩ F7 N7
      have hnone : (tabAt i).2.find? (fmCond i x) = none := List.find?_eq_none.mpr fun a ha => by
        rw [hfalse a (by rw [List.length_map, List.take_length]; exact ha)]; simp
      walk_at "steps"
      · rename (i : Int) = 0 => hi0
        rename_i F9 N9
        refine ⟨_, _, _, [(l, W.listOf (ch ++ [Value.str "?" _]).toArray (e + 1))], rfl, F9, N9, hapl _, _, e + 1, _, _, _, _, rfl, rfl, ?_⟩
        rw [range_snoc]
        have : tabChar x i = "?" := by unfold tabChar; rw [hnone]; exact if_pos (by omega)
        rw [this]
        exact strs_snoc hcs
      · rename (i : Int) ≠ 0 => hi0
        rename_i F9 N9
        refine ⟨_, _, _, [(l, W.listOf (ch ++ [Value.str "-" _]).toArray (e + 1))], rfl, F9, N9, hapl _, _, e + 1, _, _, _, _, rfl, rfl, ?_⟩
        rw [range_snoc]
        have : tabChar x i = "-" := by unfold tabChar; rw [hnone]; exact if_neg (by omega)
        rw [this]
        exact strs_snoc hcs
  · rintro m' news' h tk ⟨ch, e, vi, vt, vb, vc, rfl, rfl, hcs⟩ F₁ N₁
    walk_at "steps"
    k_here
    refine join_list ⟨_, (N₁ _ (.head _)).1, rfl, _, rfl⟩ hcs ?_ ?_
    · have hc : ∀ y ∈ (List.range 10).map (tabChar x), y.length = 1 := fun y hy => by
        obtain ⟨i, hi, rfl⟩ := List.mem_map.mp hy
        exact tabChar_len x i (List.mem_range.mp hi)
      have hs := sum_ones hc
      have e0 : ("" : Str).length = 0 := rfl
      rw [List.length_map, List.length_range] at hs
      rw [show tabVals.length = 10 from rfl, hs, List.length_map, List.length_range]
      show 10 + 10 * ("" : Str).length ≤ 16777216
      rw [e0]
      omega
    · intro t9 k9
      dsimp only
      change qk (Flow.ret (Value.str (fmOf x) t9)) _
      clear hTabs hT54 h54 hcs
      walk_at "steps"
      cb_end hret
end Mine

end PartF1
section PartL0
open PySem PySem.W PySem.Spec PySem.Calls PyProof.Rows
set_option maxRecDepth 100000
set_option maxHeartbeats 8000000
namespace Mine
theorem quietL0 : True := by (w_top off); trivial
theorem mod_words (a : Int) : 0 ≤ a.fmod (2 ^ Int.toNat 32) ∧ a.fmod (2 ^ Int.toNat 32) < 4294967296 := by
  have e : (2 : Int) ^ Int.toNat 32 = 4294967296 := by decide
  rw [e]
  exact ⟨Int.fmod_nonneg_of_pos a (by decide), Int.fmod_lt_of_pos a (by decide)⟩
def wordsOf (sc : List Int) : List Int := [33252, 16877, 35236, 35300, 33188] ++ List.map (fun a => a.fmod (2 ^ Int.toNat 32)) (List.filter (fun _ => true) (List.take 4 sc))
theorem words_len (sc : List Int) : (wordsOf sc).length ≤ 9 := by
  unfold wordsOf
  rw [List.length_append, List.length_map]
  have h1 := List.length_filter_le (fun _ => true) (List.take 4 sc)
  have h2 := List.length_take_le 4 sc
  simp only [List.length_cons, List.length_nil]
  omega
theorem words_in (sc : List Int) : ∀ x ∈ wordsOf sc, 0 ≤ x ∧ x < 4294967296 := by
  intro x hx
  unfold wordsOf at hx
  rcases List.mem_append.mp hx with hx | hx
  · have h : ∀ x ∈ [(33252 : Int), 16877, 35236, 35300, 33188], 0 ≤ x ∧ x < 4294967296 := by decide
    exact h x hx
  · obtain ⟨a, _, rfl⟩ := List.mem_map.mp hx
    exact mod_words a
theorem ints_at {us : List Value} {ws : List Int} (h : IntsAre us ws) {i : Nat} {v : Value} (hv : us[i]? = some v) : ∃ x t, v = .int x t ∧ ws[i]? = some x := by
  induction h generalizing i with
  | nil => simp at hv
  | cons x t _ ih =>
    cases i with
    | zero => simp at hv; exact ⟨x, t, hv.symm, rfl⟩
    | succ i => simp at hv; obtain ⟨y, u, h1, h2⟩ := ih hv; exact ⟨y, u, h1, by simpa using h2⟩
theorem strs_get {us : List Value} {ws : List Str} (h : StrsAre us ws) {i : Nat} {x : Str} (hx : ws[i]? = some x) : ∃ t, us[i]? = some (.str x t) := by
  induction h generalizing i with
  | nil => simp at hx
  | cons y t _ ih =>
    cases i with
    | zero => simp at hx; exact ⟨t, by simp [hx]⟩
    | succ i => simp at hx; obtain ⟨u, h2⟩ := ih hx; exact ⟨u, by simpa using h2⟩
theorem ints_snoc {vs : List Value} {ys : List Int} {y : Int} {t : Tok} (h : IntsAre vs ys) : IntsAre (vs ++ [.int y t]) (ys ++ [y]) := by
  induction h with
  | nil => exact .cons y t .nil
  | cons z u _ ih => exact .cons z u ih
theorem take_snoc {α β : Type} (f : α → β) {l : List α} {i : Nat} {x : α} (h : l[i]? = some x) : (l.take (i + 1)).map f = (l.take i).map f ++ [f x] := by
  rw [List.take_add_one, h, List.map_append]; rfl

section
variable {h₀ h h9 : Heap} {L D C : Addr} {m : Str → Option Value} {s : Shared} {own news₁ : List (Addr × Obj)} {wr : List Addr} {ys : List Value} {e : Nat} {J : List Value → List (Addr × Obj) → Prop} {y : Value} {oC : Obj} {mC : Str → Option Value} {tk9 : Nat}
theorem cstep_same (ho : h.get? C = some oC) (ns : h.Ns C mC) (F9 : Fr h₀ L h9 m) (N9 : News h₀ L h9 ((C, oC) :: (D, W.listOf ys.toArray e) :: (own ++ news₁))) (hap : ∀ p ∈ news₁, p.1 ≠ D ∧ p.1 ≠ C ∧ p.1 ∉ wr) (hJ : J (ys ++ [y]) news₁) : CStep h₀ L m s D C own wr ys e J y { s with heap := h9, toks := tk9 } := by
  refine ⟨h9, tk9, news₁, mC, rfl, F9, fun p hp => N9 p (.tail _ hp), ns.at' (fun o x => ?_), hap, hJ⟩
  rw [ho] at x
  cases x
  exact (N9 _ (.head _)).1
theorem comp_led {hh : Heap} (F : Fr h₀ L hh m) (hC : hh.objs.size ≤ C) (ns : h.Ns C mC) (N : News h₀ L h own) : ∃ oC, h.get? C = some oC ∧ News h₀ L h ((C, oC) :: own) := by
  obtain ⟨o, _, _, ho, _⟩ := id ns
  refine ⟨o, ho, fun p hp => ?_⟩
  rcases List.mem_cons.mp hp with rfl | hp
  · exact ⟨ho, Nat.ne_of_gt (Nat.lt_of_lt_of_le F.ns.lt hC), ktu_new F hC⟩
  · exact N p hp
end
section
variable {prog : Program} {w : World} {A : Around} {E : Value → Shared → Prop} {env : Env} {h₀ : Heap} {L D C : Addr} {m mC : Str → Option Value} {s : Shared} {ys : List Value} {e : Nat} {news' : List (Addr × Obj)}
theorem comp_keep {y : Str} {Q : Shared → Prop} (hkind : env.scope.kind = .function) (hl : env.kindOf y = some .local) (hL : env.locals = L) (F : Fr h₀ L s.heap m) (N : News h₀ L s.heap ((D, W.listOf ys.toArray e) :: news')) (hap : ∀ p ∈ news', p.1 ≠ D ∧ p.1 ≠ C) (hDC : D ≠ C) (hCL : C ≠ L) (hC0 : h₀.get? C = none) (ns : s.heap.Ns C mC)
    (h : ∀ h' tk', Fr h₀ L h' (fun z => if z = y then some (.ref D) else m z) → News h₀ L h' ((D, W.listOf ys.toArray e) :: news') → Q { s with heap := h', toks := tk' }) :
    wpAny (model prog w) A (storeName env y (.ref D)) (fun _ s'' => ∃ m, s''.heap.Ns C m ∧ ∀ h', Heap.SameBut C s''.heap h' → Q { s'' with heap := h' }) E s := by
  subst hL
  refine wpAny_storeName_local hl F.ns (fun h1 hn1 hs1 => ?_) (by simp [hkind])
  refine ⟨mC, ns.sameBut hs1 hCL, fun h' hs => ?_⟩
  refine h h' _ ((F.set hn1 hs1).change hs hCL hC0) fun p hp => ?_
  have hpC : p.1 ≠ C := by
    rcases List.mem_cons.mp hp with rfl | hp
    · exact hDC
    · exact (hap p hp).2
  have q := N p hp
  exact ⟨(hs.2 _ hpC).trans ((hs1.2 _ q.2.1).trans q.1), q.2⟩
end
def lwM (vs vw vg vn vo vt vd : Option Value) : Str → Option Value := fun y => if y = "due" then vd else if y = "other" then vt else if y = "one" then vo else if y = "numbers" then vn else if y = "signs" then vg else if y = "words" then vw else if y = "script" then vs else none
theorem lw_start {g h : Heap} {L : Addr} {v w : Value} (F : Fr g L h fun y => if y = Str.ofString "words" then some w else List.lookup y [(Str.ofString "script", v)]) : Fr g L h (lwM (some v) (some w) none none none none none) := by
  refine Fr.congrM F (fun y => ?_)
  have e : List.lookup y [(Str.ofString "script", v)] = if y = Str.ofString "script" then some v else none := by
    simp only [List.lookup_cons, List.lookup_nil]
    by_cases h1 : y = Str.ofString "script"
    · simp [h1]
    · have e1 : (y == Str.ofString "script") = false := by simpa using h1
      rw [e1, if_neg h1]
  rw [e]
  unfold lwM
  repeat' split
  all_goals first | rfl | (subst_vars; contradiction)
theorem lw_signs {g h : Heap} {L : Addr} {vs vw vg vn vo vt vd v : Option Value} (F : Fr g L h fun y => if y = Str.ofString "signs" then v else lwM vs vw vg vn vo vt vd y) : Fr g L h (lwM vs vw v vn vo vt vd) := by
  refine Fr.congrM F (fun y => ?_)
  unfold lwM
  repeat' split
  all_goals first | rfl | (subst_vars; contradiction)
theorem lw_numbers {g h : Heap} {L : Addr} {vs vw vg vn vo vt vd v : Option Value} (F : Fr g L h fun y => if y = Str.ofString "numbers" then v else lwM vs vw vg vn vo vt vd y) : Fr g L h (lwM vs vw vg v vo vt vd) := by
  refine Fr.congrM F (fun y => ?_)
  unfold lwM
  repeat' split
  all_goals first | rfl | (subst_vars; contradiction)
theorem lw_one {g h : Heap} {L : Addr} {vs vw vg vn vo vt vd v : Option Value} (F : Fr g L h fun y => if y = Str.ofString "one" then v else lwM vs vw vg vn vo vt vd y) : Fr g L h (lwM vs vw vg vn v vt vd) := by
  refine Fr.congrM F (fun y => ?_)
  unfold lwM
  repeat' split
  all_goals first | rfl | (subst_vars; contradiction)
theorem lw_other {g h : Heap} {L : Addr} {vs vw vg vn vo vt vd v : Option Value} (F : Fr g L h fun y => if y = Str.ofString "other" then v else lwM vs vw vg vn vo vt vd y) : Fr g L h (lwM vs vw vg vn vo v vd) := by
  refine Fr.congrM F (fun y => ?_)
  unfold lwM
  repeat' split
  all_goals first | rfl | (subst_vars; contradiction)
theorem lw_due {g h : Heap} {L : Addr} {vs vw vg vn vo vt vd v : Option Value} (F : Fr g L h fun y => if y = Str.ofString "due" then v else lwM vs vw vg vn vo vt vd y) : Fr g L h (lwM vs vw vg vn vo vt v) := by
  refine Fr.congrM F (fun y => ?_)
  unfold lwM
  repeat' split
  all_goals first | rfl | (subst_vars; contradiction)
end Mine

end PartL0
section PartG5
open PySem PySem.W PySem.Spec PySem.Calls PyProof.Rows
set_option maxRecDepth 100000
set_option maxHeartbeats 4000000
namespace Mine
theorem quietG5 : True := by (w_top off); trivial
section
variable {prog : Program} {w : World} {A : Around} {E : Value → Shared → Prop} {env : Env} {h₀ : Heap} {L : Addr}

theorem letGo_rangeiter {target : Expr} {I : Addr} {x left step : Int} {v : Value} {Q' : Unit → Shared → Prop} {s' : Shared} (hit : IsRangeIter s'.heap I x left step) (h : Q' () s') :
    wpAny (model prog w) A (letOwnedTupleGo target (.ref I) v) Q' E s' := by
  have stay : ∀ {f : Obj → Sem Unit} {o : Obj}, s'.heap.get? I = some o → f o = pure () → wpAny (model prog w) A (load I >>= f) Q' E s' := fun ho e => wpAny_bind (wpAny_load ho (by rw [e]; exact wpAny_pure h))
  unfold letOwnedTupleGo
  split <;> first | exact wpAny_pure h | (cases v <;> first | exact stay hit rfl | exact wpAny_pure h)
theorem kt_range {target : Expr} (hh : A.handled = none) (I : Addr) (n : Nat) :
    KTurns prog w A target I [I] [I] n (fun i v _ => ∃ t, v = .int (0 + (i : Int) * 1) t) (fun i v h => (∃ t, v = .int (0 + (i : Int) * 1) t) ∧ IsRangeIter h I (0 + ((i + 1 : Nat) : Int) * 1) ((n : Int) - ((i + 1 : Nat) : Int)) 1) (fun i h => IsRangeIter h I (0 + (i : Nat) * 1) ((n : Int) - (i : Nat)) 1) :=
  KTurns.ofWalks (Walks.range hh I 0 1 n) fun _ _ _ _ _ st q => letGo_rangeiter st q

theorem for_range {s : Shared} {r : Addr} {n : Nat} {t₀ u₀ v₀ : Tok} {target : Expr} {body orelse : List Stmt} {Q : Flow → Shared → Prop} {m : Str → Option Value} {news : List (Addr × Obj)} (J : Nat → (Str → Option Value) → List (Addr × Obj) → Prop)
    (hh : A.handled = none) (hr : IsRange s.heap r 0 (n : Int) 1 t₀ u₀ v₀) (hsmall : Builtin.Range.small 0 (n : Int) 1 = true) (hn : Builtin.Range.rangeSize 0 (n : Int) 1 = (n : Int)) (F : Fr h₀ env.locals s.heap m) (N : News h₀ env.locals s.heap news) (hJ : J 0 m news)
    (turn : ∀ i t m₁ news₁ h tk own, i < n → (∃ o, (s.heap.objs.size, o) ∈ own) → J i m₁ news₁ → (∀ p ∈ news₁, p.1 ≠ s.heap.objs.size) → (∀ p ∈ own, p.1 = s.heap.objs.size) → Fr h₀ env.locals h m₁ → News h₀ env.locals h (own ++ news₁) →
      wpAny (model prog w) A (assign target env (.int (i : Int) t)) (fun _ s₃ => wpAny (model prog w) A (execs body env) (FStep h₀ env.locals s own [s.heap.objs.size] (J (i + 1)) Q) (fun _ _ => False) s₃) (fun _ _ => False) { s with heap := h, toks := tk })
    (done : ∀ m' news' h tk, J n m' news' → Fr h₀ env.locals h m' → News h₀ env.locals h news' → wpAny (model prog w) A (execs orelse env) Q (fun _ _ => False) { s with heap := h, toks := tk }) :
    wpAny (model prog w) A (pyIter (.ref r)) (fun it s₂ => ForAt prog w A h₀ env target body orelse Q it s₂) E s := by
  have hLs : env.locals < s.heap.objs.size := F.ns.lt
  have hnew := next_is_new F
  refine wpAny_pyIter_range hr hsmall ?_
  refine ⟨s.heap.objs.size, [s.heap.objs.size], [s.heap.objs.size], n, _, _, _, m, news, J, rfl, kt_range (prog := prog) (w := w) (target := target) hh s.heap.objs.size n, ?_, ?_, (by show IsRangeIter _ _ _ _ _; rw [hn]; simpa using Heap.get?_push_size _ rfl), F.push _, (fun p hp => ⟨Heap.get?_push_of_some _ (N p hp).1, (N p hp).2⟩), ?_, hJ, ?_, ?_⟩
  · intro hm
    exact absurd hLs ((List.mem_singleton.mp hm) ▸ Nat.lt_irrefl _)
  · intro b hb
    rw [List.mem_singleton.mp hb]
    exact hnew
  · intro p hp hI
    exact absurd (Heap.lt_size (N p hp).1) ((List.mem_singleton.mp hI) ▸ Nat.lt_irrefl _)
  · rintro i v m₁ news₁ h tk own hi ⟨t, rfl⟩ hSt hJ' hap hown hall F' N'
    have hsz : ∃ o, (s.heap.objs.size, o) ∈ own := ⟨_, hall _ (by simp) hnew _ hSt⟩
    have e1 : (0 : Int) + (i : Int) * 1 = (i : Int) := by omega
    rw [e1]
    refine turn i t m₁ news₁ h tk own hi hsz hJ' (fun p hp e => hap p hp (by simp [e])) (fun p hp => by simpa using hown p hp) F' N'
  · intro m' news' h tk hJ' F' N' _
    exact done m' news' h tk hJ' F' N'

/-- two names of a block are stored from a pair -/
theorem comp_pair {C : Addr} {scope : Scope} {cl : List (Str × Addr)} {a b : Str} {pa pb tp : Pos} {kk : Nat} {T : Addr} {x y : Value} {s : Shared} {mC m : Str → Option Value} {led : List (Addr × Obj)} {Q : Unit → Shared → Prop} (hh : A.handled = none) (ht : s.heap.IsTuple T #[x, y])
    (ha : scope.names.lookup a = some .local) (hb : scope.names.lookup b = some .local) (hkind : scope.kind = .function)
    (hCL : C ≠ L) (hC0 : h₀.get? C = none) (F : Fr h₀ L s.heap m) (N : News h₀ L s.heap led) (hap : ∀ p ∈ led, p.1 ≠ C) (hns : s.heap.Ns C mC)
    (h : ∀ h' tk', Fr h₀ L h' m → News h₀ L h' led → h'.Ns C (fun z => if z = b then some y else if z = a then some x else mC z) → Q () { s with heap := h', toks := tk' }) :
    wpAny (model prog w) A (assign (.Tuple [.Name a pa, .Name b pb] kk tp) (compEnvC scope cl C env) (.ref T)) Q E s := by
  refine kcp_assign (env := compEnvC scope cl C env) hh ht (lookup_relabel_local ha) (lookup_relabel_local hb) (by simp [compEnvC, relabel, hkind]) hns (fun h' tk hn hk => ?_)
  have hk' : ∀ c o, c ≠ C → s.heap.get? c = some o → h'.get? c = some o := hk
  refine h h' tk ⟨F.ns.at' fun o e => hk' _ o (Ne.symm hCL) e, fun c o e => hk' c o (fun q => ?_) (F.keep c o e), F.above⟩ (fun p hp => ⟨hk' _ _ (hap p hp) (N p hp).1, (N p hp).2⟩) hn
  rw [q, hC0] at e
  cases e

theorem comp_listA {s : Shared} {l : Addr} {vs : List Value} {target : Expr} {elt : Expr} {scope : Scope} {cl : List (Str × Addr)} {Fin : Addr → Addr → Shared → Prop} {m : Str → Option Value} {news : List (Addr × Obj)} (J : Nat → List Value → List (Addr × Obj) → Prop)
    (hh : A.handled = none) (hl : s.heap.IsList l vs.toArray) (hlL : l ≠ L) (hn64 : vs.length < 64) (F : Fr h₀ L s.heap m) (N : News h₀ L s.heap news) (hJ : J 0 [] news)
    (turn : ∀ i v ys e news₁ h tk own (mC : Str → Option Value), vs[i]? = some v → J i ys news₁ → ys.length = i → (∀ p ∈ news₁, p.1 ≠ s.heap.objs.size ∧ p.1 ≠ s.heap.objs.size + 1 ∧ p.1 ≠ s.heap.objs.size + 2) → (∀ p ∈ own, p.1 = s.heap.objs.size ∨ p.1 = l) → (∃ o, (s.heap.objs.size, o) ∈ own) → Fr h₀ L h m → News h₀ L h ((s.heap.objs.size + 1, W.listOf ys.toArray e) :: (own ++ news₁)) → (∀ p ∈ (s.heap.objs.size + 1, W.listOf ys.toArray e) :: (own ++ news₁), p.1 ≠ s.heap.objs.size + 2) →
      h.Ns (s.heap.objs.size + 2) mC →
      wpAny (model prog w) A (assign target (compEnvC scope cl (s.heap.objs.size + 2) env) v) (fun _ s₃ => wpAny (model prog w) A (eval elt (compEnvC scope cl (s.heap.objs.size + 2) env)) (CStep h₀ L m s (s.heap.objs.size + 1) (s.heap.objs.size + 2) own [s.heap.objs.size] ys e (J (i + 1))) (fun _ _ => False) s₃) (fun _ _ => False) { s with heap := h, toks := tk })
    (done : ∀ ys e news' h tk mC, J vs.length ys news' → ys.length = vs.length → Fr h₀ L h m → News h₀ L h ((s.heap.objs.size + 1, W.listOf ys.toArray e) :: news') → (∀ p ∈ news', p.1 ≠ s.heap.objs.size + 1 ∧ p.1 ≠ s.heap.objs.size + 2) → h.Ns (s.heap.objs.size + 2) mC → Fin (s.heap.objs.size + 1) (s.heap.objs.size + 2) { s with heap := h, toks := tk }) :
    wpAny (model prog w) A (pyIter (.ref l)) (fun it s₂ => CompAt prog w A h₀ L env scope cl target elt Fin it s₂) E s := by
  have hlt : l < s.heap.objs.size := by obtain ⟨o, ho, _⟩ := hl; exact Heap.lt_size ho
  have hLs : L < s.heap.objs.size := F.ns.lt
  have hnew := next_is_new F
  refine wpAny_pyIter_list hl ?_
  have hsz : (s.heap.push { cls := .type "list_iterator", data := .fields #[.ref l, .int 0 0] }).objs.size = s.heap.objs.size + 1 := Heap.size_push ..
  have KT := kt_list (prog := prog) (w := w) (A := A) (target := target) hh s.heap.objs.size l (Nat.ne_of_lt hlt) vs.toArray
  refine ⟨s.heap.objs.size, [s.heap.objs.size, l], [s.heap.objs.size], vs.toArray.size, _, _, _, m, news, J, rfl, KT, ?_, ?_, ?_, ?_, by simpa using hn64, ⟨⟨_, Heap.get?_push_size _ rfl, rfl, rfl⟩, hl.at fun o e => Heap.get?_push_of_some _ e⟩, F.push _, (fun p hp => ⟨Heap.get?_push_of_some _ (N p hp).1, (N p hp).2⟩), ?_, hJ, ?_, ?_⟩
  · intro s' Q' E' hst hQ
    exact wpAny_pyIter_listiter hst.1 hQ
  · intro b hb
    dsimp only
    rw [hsz]
    have hb' : b = s.heap.objs.size ∨ b = l := by simpa using hb
    rcases hb' with rfl | rfl
    · exact Nat.lt_succ_self _
    · exact Nat.lt_succ_of_lt hlt
  · intro hm
    have hb' : L = s.heap.objs.size ∨ L = l := by simpa using hm
    rcases hb' with e | e
    · exact absurd hLs (e ▸ Nat.lt_irrefl _)
    · exact hlL e.symm
  · intro b hb
    rw [List.mem_singleton.mp hb]
    exact hnew
  · intro p hp hI
    exact absurd (Heap.lt_size (N p hp).1) ((List.mem_singleton.mp hI) ▸ Nat.lt_irrefl _)
  · dsimp only
    rw [hsz]
    intro i v ys e news₁ h tk own mC _ hP hSt hJ' hyl hap hown hall F' N' ns'
    have hw : ∃ o, (s.heap.objs.size, o) ∈ own := by obtain ⟨⟨o, ho, _⟩, _⟩ := hSt; exact ⟨o, hall _ (by simp) hnew o ho⟩
    refine turn i v ys e news₁ h tk own mC (by simpa using hP) hJ' hyl (fun p hp => ⟨fun q => (hap p hp).2.2 (by simp [q]), (hap p hp).1, (hap p hp).2.1⟩) (fun p hp => by simpa using hown p hp) hw F' N' ?_ ns'
    intro p hp
    rcases List.mem_cons.mp hp with rfl | hp
    · exact Nat.ne_of_lt (Nat.lt_succ_self _)
    · rcases List.mem_append.mp hp with hp | hp
      · have := hown p hp
        have hb' : p.1 = s.heap.objs.size ∨ p.1 = l := by simpa using this
        rcases hb' with e | e
        · rw [e]; exact Nat.ne_of_lt (Nat.lt_succ_of_lt (Nat.lt_succ_self _))
        · rw [e]; exact Nat.ne_of_lt (Nat.lt_succ_of_lt (Nat.lt_succ_of_lt hlt))
      · exact (hap p hp).2.1
  · dsimp only
    rw [hsz]
    intro ys e news' h tk mC a1 a2 a3 a4 a5 a6
    exact done ys e news' h tk mC (by simpa using a1) (by simpa using a2) a3 a4 a5 a6

theorem comp_enumA {s : Shared} {l : Addr} {vs : List Value} {elts : List Expr} {k : Nat} {pos : Pos} {elt : Expr} {scope : Scope} {cl : List (Str × Addr)} {Fin : Addr → Addr → Shared → Prop} {m : Str → Option Value} {news : List (Addr × Obj)} (J : Nat → List Value → List (Addr × Obj) → Prop)
    (hh : A.handled = none) (hl : s.heap.IsList l vs.toArray) (hlL : l ≠ L) (hn64 : vs.length < 64) (F : Fr h₀ L s.heap m) (N : News h₀ L s.heap news) (hJ : J 0 [] news)
    (turn : ∀ (i : Nat) v T t ys e news₁ h tk own (mC : Str → Option Value), vs[i]? = some v → h.IsTuple T #[.int (i : Int) t, v] → J i ys news₁ → ys.length = i → (∀ p ∈ news₁, p.1 ≠ s.heap.objs.size ∧ p.1 ≠ s.heap.objs.size + 1 ∧ p.1 ≠ s.heap.objs.size + 2 ∧ p.1 ≠ s.heap.objs.size + 3) → (∀ p ∈ own, p.1 = s.heap.objs.size + 1 ∨ p.1 = s.heap.objs.size ∨ p.1 = l) → Fr h₀ L h m → News h₀ L h ((s.heap.objs.size + 2, W.listOf ys.toArray e) :: (own ++ news₁)) → (∀ p ∈ (s.heap.objs.size + 2, W.listOf ys.toArray e) :: (own ++ news₁), p.1 ≠ s.heap.objs.size + 3) → (∃ o, (s.heap.objs.size + 1, o) ∈ own) →
      h.Ns (s.heap.objs.size + 3) mC →
      wpAny (model prog w) A (assign (.Tuple elts k pos) (compEnvC scope cl (s.heap.objs.size + 3) env) (.ref T)) (fun _ s₃ => wpAny (model prog w) A (eval elt (compEnvC scope cl (s.heap.objs.size + 3) env)) (CStep h₀ L m s (s.heap.objs.size + 2) (s.heap.objs.size + 3) own [s.heap.objs.size + 1, s.heap.objs.size] ys e (J (i + 1))) (fun _ _ => False) s₃) (fun _ _ => False) { s with heap := h, toks := tk })
    (done : ∀ ys e news' h tk mC, J vs.length ys news' → ys.length = vs.length → Fr h₀ L h m → News h₀ L h ((s.heap.objs.size + 2, W.listOf ys.toArray e) :: news') → (∀ p ∈ news', p.1 ≠ s.heap.objs.size + 2 ∧ p.1 ≠ s.heap.objs.size + 3) → h.Ns (s.heap.objs.size + 3) mC → Fin (s.heap.objs.size + 2) (s.heap.objs.size + 3) { s with heap := h, toks := tk }) :
    wpAny (model prog w) A (call (.type "enumerate") [.ref l]) (fun xv s₁ => wpAny (model prog w) A (pyIter xv) (fun it s₂ => CompAt prog w A h₀ L env scope cl (.Tuple elts k pos) elt Fin it s₂) E s₁) E s := by
  have hlt : l < s.heap.objs.size := by obtain ⟨o, ho, _⟩ := hl; exact Heap.lt_size ho
  have hLs : L < s.heap.objs.size := F.ns.lt
  refine call_enumerate_list hl fun h' hE hI hsz hk => ?_
  refine wpAny_pyIter_enum hE ?_
  refine ⟨s.heap.objs.size + 1, [s.heap.objs.size + 1, s.heap.objs.size, l], [s.heap.objs.size + 1, s.heap.objs.size], vs.toArray.size, _, _, _, m, news, J, rfl, KTurns.ofWalksU (elts := elts) (k := k) (pos := pos) (WalksT.enumerate (prog := prog) (w := w) (A := A) hh (s.heap.objs.size + 1) s.heap.objs.size l (Nat.succ_ne_self _) (ktu_ne 1 hlt) (Nat.ne_of_lt hlt) vs.toArray).toU, ?_, ?_, ?_, ?_, by simpa using hn64, ⟨⟨.none, hE⟩, hI, hl.at fun o e => hk l o e⟩, F.keeps hk, N.grown hk, ?_, hJ, ?_, ?_⟩
  · rintro s' Q' E' ⟨⟨old, hst⟩, _⟩ hQ
    exact wpAny_pyIter_enum hst hQ
  · intro b hb
    dsimp only
    rw [hsz]
    have hb' : b = s.heap.objs.size + 1 ∨ b = s.heap.objs.size ∨ b = l := by simpa using hb
    rcases hb' with rfl | rfl | rfl
    · exact Nat.lt_succ_self _
    · exact Nat.lt_succ_of_lt (Nat.lt_succ_self _)
    · exact Nat.lt_succ_of_lt (Nat.lt_succ_of_lt hlt)
  · intro hm
    have hb' : L = s.heap.objs.size + 1 ∨ L = s.heap.objs.size ∨ L = l := by simpa using hm
    rcases hb' with e | e | e
    · exact ktu_ne 1 hLs e
    · exact Nat.ne_of_lt hLs e
    · exact hlL e.symm
  · intro b hb
    have hb' : b = s.heap.objs.size + 1 ∨ b = s.heap.objs.size := by simpa using hb
    rcases hb' with rfl | rfl
    · exact ktu_new F (Nat.le_add_right _ _)
    · exact ktu_new F (Nat.le_refl _)
  · intro p hp hI'
    have hb' : p.1 = s.heap.objs.size + 1 ∨ p.1 = s.heap.objs.size := by simpa using hI'
    have hlp := Heap.lt_size (N p hp).1
    rcases hb' with e | e
    · exact ktu_ne 1 hlp e
    · exact Nat.ne_of_lt hlp e
  · dsimp only
    rw [hsz]
    rintro i v ys e news₁ h tk own mC _ ⟨T, vals, rfl, ⟨t, x, hx, rfl⟩, hT⟩ hSt hJ' hyl hap hown hall F' N' ns'
    have hw : ∃ o, (s.heap.objs.size + 1, o) ∈ own := by obtain ⟨⟨old, ho⟩, _⟩ := hSt; exact ⟨_, hall _ (by simp) (ktu_new F (Nat.le_add_right _ _)) _ ho⟩
    refine turn i x T t ys e news₁ h tk own mC (by simpa using hx) hT hJ' hyl (fun p hp => ⟨fun q => (hap p hp).2.2 (by simp [q]), fun q => (hap p hp).2.2 (by simp [q]), (hap p hp).1, (hap p hp).2.1⟩) (fun p hp => by simpa using hown p hp) F' N' ?_ hw ns'
    intro p hp
    rcases List.mem_cons.mp hp with rfl | hp
    · exact Nat.ne_of_lt (Nat.lt_succ_self _)
    · rcases List.mem_append.mp hp with hp | hp
      · have hb' : p.1 = s.heap.objs.size + 1 ∨ p.1 = s.heap.objs.size ∨ p.1 = l := by simpa using hown p hp
        rcases hb' with e | e | e
        · rw [e]; exact Nat.ne_of_lt (Nat.lt_succ_of_lt (Nat.lt_succ_self _))
        · rw [e]; exact Nat.ne_of_lt (Nat.lt_succ_of_lt (Nat.lt_succ_of_lt (Nat.lt_succ_self _)))
        · rw [e]; exact Nat.ne_of_lt (Nat.lt_succ_of_lt (Nat.lt_succ_of_lt (Nat.lt_succ_of_lt hlt)))
      · exact (hap p hp).2.1
  · dsimp only
    rw [hsz]
    intro ys e news' h tk mC a1 a2 a3 a4 a5 a6
    exact done ys e news' h tk mC (by simpa using a1) (by simpa using a2) a3 a4 a5 a6
end
end Mine

end PartG5
section PartS1
open PySem PySem.W PySem.Spec PySem.Calls PyProof.Rows
set_option maxRecDepth 100000
set_option maxHeartbeats 4000000
namespace Mine
theorem quietS1 : True := by (w_top off); trivial
theorem st_canLayAll0 : ∀ ns : List Str, (∀ y ∈ ns, PyData.strOk y = true) → PyData.canLayAll0 (ns.map PyData.str) = true
  | [], _ => rfl
  | x :: r, h => by simp [PyData.canLayAll0, PyData.canLay0, h x (.head _), st_canLayAll0 r (fun y hy => h y (.tail _ hy))]
theorem st_depthAll : ∀ ns : List Str, PyData.depthAll (ns.map PyData.str) = 0
  | [] => rfl
  | _ :: r => by simp [PyData.depthAll, PyData.depth, st_depthAll r]
theorem st_shaped (ns : List Str) (h : ∀ y ∈ ns, PyData.strOk y = true) : SeqAt.shaped (.list (ns.map PyData.str)) = true := by
  simp [SeqAt.shaped, PyData.canLay0, PyData.depth, st_canLayAll0 ns h, st_depthAll]
theorem st_sameAll (ns : List Str) : ∀ ms : List Str, PySem.Spec.sameAll (ns.map PyData.str) (ms.map PyData.str) = decide (ns = ms) := by
  induction ns with
  | nil => intro ms; cases ms <;> rfl
  | cons a r ih =>
    intro ms
    cases ms with
    | nil => rfl
    | cons b t =>
      show (PySem.Spec.same (.str a) (.str b) && PySem.Spec.sameAll (r.map PyData.str) (t.map PyData.str)) = _
      rw [ih t, Bool.eq_iff_iff]
      simp [PySem.Spec.same]
theorem st_same (ns ms : List Str) : PySem.Spec.same (.list (ns.map PyData.str)) (.list (ms.map PyData.str)) = decide (ns = ms) := by
  simp only [PySem.Spec.same]; exact st_sameAll ns ms
theorem st_carried : ∀ {vs : List Value} {ns : List Str}, StrsAre vs ns → CarriedAll vs (ns.map PyData.str)
  | _, _, .nil => .nil
  | _, _, .cons _ t r => .cons (.str _ t) (st_carried r)
theorem comp_finH {h₀ hh : Heap} {L D C : Addr} {m mC : Str → Option Value} {ys : List Value} {e : Nat} {news' : List (Addr × Obj)} {P : Heap → Prop} (F : Fr h₀ L hh m) (N : News h₀ L hh ((D, W.listOf ys.toArray e) :: news')) (hap : ∀ p ∈ news', p.1 ≠ D ∧ p.1 ≠ C) (hDC : D ≠ C) (hCL : C ≠ L) (hC0 : h₀.get? C = none) (hns : hh.Ns C mC)
    (h : ∀ h', Fr h₀ L h' m → News h₀ L h' ((D, W.listOf ys.toArray e) :: news') → P h') : ∃ m, hh.Ns C m ∧ ∀ h', Heap.SameBut C hh h' → P h' := by
  refine ⟨mC, hns, fun h' hs => h h' (F.change hs hCL hC0) fun p hp => ?_⟩
  have hpC : p.1 ≠ C := by
    rcases List.mem_cons.mp hp with rfl | hp
    · exact hDC
    · exact (hap p hp).2
  exact ⟨(hs.2 _ hpC).trans (N p hp).1, (N p hp).2⟩
theorem news_turn {g h : Heap} {L : Addr} {a b c : Addr × Obj} {own own2 : List (Addr × Obj)} (N : News g L h (a :: b :: c :: (own ++ own2))) : News g L h (own2 ++ a :: b :: c :: own) := fun p hp => N p (by
  simp only [List.mem_append, List.mem_cons] at hp ⊢
  rcases hp with h | h | h | h | h
  · exact .inr (.inr (.inr (.inr h)))
  · exact .inl h
  · exact .inr (.inl h)
  · exact .inr (.inr (.inl h))
  · exact .inr (.inr (.inr (.inl h))))
theorem news_back {g h : Heap} {L : Addr} {a b c : Addr × Obj} {own own2 : List (Addr × Obj)} (N : News g L h (own2 ++ a :: b :: c :: own)) : News g L h (a :: b :: c :: (own ++ own2)) := fun p hp => N p (by
  simp only [List.mem_append, List.mem_cons] at hp ⊢
  rcases hp with h | h | h | h | h
  · exact .inr (.inl h)
  · exact .inr (.inr (.inl h))
  · exact .inr (.inr (.inr (.inl h)))
  · exact .inr (.inr (.inr (.inr h)))
  · exact .inl h)
def sgOf (ws : List Int) (i : Nat) : Str := (ws.map signsOf).getD i Str.empty
theorem strs_fun {us : List Value} {ss : List Str} (h : StrsAre us ss) : ∃ ts : Nat → Tok, ∀ (i : Nat) (x : Str), ss[i]? = some x → us[i]? = some (Value.str x (ts i)) := by
  refine ⟨fun i => match us[i]? with | some (.str _ t) => t | _ => 0, fun i x hx => ?_⟩
  obtain ⟨t, ht⟩ := strs_get h hx
  simp only [ht]
theorem sg_at {us : List Value} {ws : List Int} {ts : Nat → Tok} (h : ∀ (i : Nat) (x : Str), (ws.map signsOf)[i]? = some x → us[i]? = some (Value.str x (ts i))) {i : Nat} (hi : i < ws.length) : us[i]? = some (Value.str (sgOf ws i) (ts i)) := by
  have hi' : i < (ws.map signsOf).length := by rw [List.length_map]; exact hi
  refine h i _ ?_
  unfold sgOf
  rw [List.getD_eq_getElem?_getD, List.getElem?_eq_getElem hi']
  rfl
def nmOf (ws : List Int) (i : Nat) : Int := (ws.map numOf).getD i 0
def tupObj (y : Int) (t : Tok) (k : Nat) (u : Tok) : Obj := { cls := .type "tuple", data := .seq #[.int y t, .int (k : Int) u] }
theorem cstep_gen {h₀ h h9 : Heap} {L D C : Addr} {m : Str → Option Value} {s : Shared} {own news₂ led : List (Addr × Obj)} {wr : List Addr} {ys : List Value} {e : Nat} {J : List Value → List (Addr × Obj) → Prop} {y : Value} {oC : Obj} {mC : Str → Option Value} {tk9 : Nat} (ho : h.get? C = some oC) (ns : h.Ns C mC) (F9 : Fr h₀ L h9 m) (N9 : News h₀ L h9 led) (hC : (C, oC) ∈ led) (hsub : ∀ p ∈ (D, W.listOf ys.toArray e) :: (own ++ news₂), p ∈ led) (hap : ∀ p ∈ news₂, p.1 ≠ D ∧ p.1 ≠ C ∧ p.1 ∉ wr) (hJ : J (ys ++ [y]) news₂) : CStep h₀ L m s D C own wr ys e J y { s with heap := h9, toks := tk9 } := by
  refine ⟨h9, tk9, news₂, mC, rfl, F9, fun p hp => N9 p (hsub p hp), ns.at' (fun o x => ?_), hap, hJ⟩
  rw [ho] at x
  cases x
  exact (N9 _ hC).1
theorem range9 : ∀ n : Nat, n < 10 → Builtin.Range.small 0 (n : Int) 1 = true ∧ Builtin.Range.rangeSize 0 (n : Int) 1 = (n : Int) := by decide
section
variable {prog : Program} {w : World} {A : Around} {E : Value → Shared → Prop} {s : Shared} {a b : Addr} {xs ys : List Value} {ns ms : List Str} {Q : Value → Shared → Prop}
theorem ne_strs (ha : s.heap.IsList a xs.toArray) (hb : s.heap.IsList b ys.toArray) (hi : StrsAre xs ns) (hj : StrsAre ys ms) (hok : ∀ y ∈ ns, PyData.strOk y = true) (hok' : ∀ y ∈ ms, PyData.strOk y = true) (hu : A.units + 64 < cLine) (h : Q (.bool (!decide (ns = ms))) s) :
    wpAny (model prog w) A (compareOp .NotEq (.ref a) (.ref b)) Q E s :=
  ne_dataH_same (reads_newData ha (st_carried hi)) (reads_newData hb (st_carried hj)) (st_shaped _ hok) (st_shaped _ hok') hu (SeqAt.noMix_of_shape (.list .str) rfl _ _ (list_map_has fun _ => rfl) (list_map_has fun _ => rfl)) (by rw [st_same]; exact h)
end
end Mine

end PartS1
section PartQ1
open PySem PySem.W PySem.Spec PySem.Calls PyProof.Rows
set_option maxRecDepth 100000
set_option maxHeartbeats 4000000
namespace Mine
theorem quietQ1 : True := by (w_top off); trivial
/-- the sort's questions, answered by a plain order -/
def KOk {α : Type} (lt : Nat → Nat → Bool) (n : Nat) (P : α → Prop) : KasT α → Prop
  | .ret a => P a
  | .ask i j k => i < n ∧ j < n ∧ KOk lt n P (k (lt i j))
theorem KOk.bind {α β : Type} {lt : Nat → Nat → Bool} {n : Nat} {P : β → Prop} {f : α → KasT β} : ∀ (t : KasT α), KOk lt n (fun a => KOk lt n P (f a)) t → KOk lt n P (t.bind f)
  | .ret _, h => h
  | .ask _ _ k, h => ⟨h.1, h.2.1, KOk.bind (k _) h.2.2⟩
theorem KOk.mono {α : Type} {lt : Nat → Nat → Bool} {n : Nat} {P P' : α → Prop} (hp : ∀ a, P a → P' a) : ∀ (t : KasT α), KOk lt n P t → KOk lt n P' t
  | .ret a, h => hp a h
  | .ask _ _ k, h => ⟨h.1, h.2.1, KOk.mono hp (k _) h.2.2⟩
theorem KOk.wp {α : Type} {lt : Nat → Nat → Bool} {n : Nat} {P : α → Prop} {cmp : Nat → Nat → (Bool → Shared → Prop) → Shared → Prop} {Q : α → Shared → Prop} {s : Shared}
    (hc : ∀ i j (C : Bool → Shared → Prop), i < n → j < n → C (lt i j) s → cmp i j C s) (hQ : ∀ a, P a → Q a s) : ∀ (t : KasT α), KOk lt n P t → t.kasWp cmp Q s
  | .ret a, h => hQ a h
  | .ask i j k, h => hc i j _ h.1 h.2.1 (KOk.wp hc hQ (k (lt i j)) h.2.2)

theorem refs_snoc {ad : Nat → Addr} {a : Addr} (i : Nat) : (List.range i).map (fun k => Value.ref (ad k)) ++ [Value.ref a] = (List.range (i + 1)).map fun k => Value.ref (if k = i then a else ad k) := by
  have e : (List.range i).map (fun k => Value.ref (ad k)) = (List.range i).map (fun k => Value.ref (if k = i then a else ad k)) := List.map_congr_left fun k hk => by
    rw [if_neg (Nat.ne_of_lt (List.mem_range.mp hk))]
  rw [List.range_succ, List.map_append, e, List.map_cons, List.map_nil, if_pos rfl]
def ltN (nm : Nat → Int) (i j : Nat) : Bool := decide (nm i < nm j) || (decide (nm i = nm j) && decide (i < j))

section
variable {prog : Program} {w : World} {A : Around} {E : Value → Shared → Prop} {s : Shared} {h₀ : Heap} {L l : Addr} {m : Str → Option Value} {led : List (Addr × Obj)}

theorem tup_ask {x y : Addr} {nx ny : Int} {tx ty ux uy : Tok} {i j : Nat} {C : Bool → Shared → Prop} (hx : s.heap.get? x = some (tupObj nx tx i ux)) (hy : s.heap.get? y = some (tupObj ny ty j uy))
    (h : C (decide (nx < ny) || (decide (nx = ny) && decide (i < j))) s) : wpAny (model prog w) A (keyLt' (tuples' true) (.ref x) (.ref y)) C E s := by
  refine kat_lt hx rfl hy rfl ?_
  show KatLex prog w A true (decide (2 < 2)) C [(.int nx tx, .int ny ty), (.int (i : Int) ux, .int (j : Int) uy)] 0 s
  refine kat_cons (wpAny_eqBool_int ?_)
  by_cases e : nx = ny
  · subst e
    have e1 : (nx == nx) = true := by simp
    rw [e1]
    refine kat_yes (kat_cons (wpAny_eqBool_int ?_))
    have hlt : decide (nx < nx) = false := by simp
    rw [hlt, Bool.false_or, decide_eq_true rfl, Bool.true_and] at h
    by_cases e2 : (i : Int) = (j : Int)
    · rw [e2, show ((j : Int) == (j : Int)) = true by simp]
      refine kat_yes (kat_nil ?_)
      have : i = j := by omega
      subst this
      simpa using h
    · rw [show ((i : Int) == (j : Int)) = false by simpa using e2]
      refine kat_no ?_
      show wpAny _ _ (oneLt' false _ _) _ _ _
      refine kat_one _ _ (wpAny_lt_int ?_)
      show C (decide ((i : Int) < (j : Int))) s
      have : decide ((i : Int) < (j : Int)) = decide (i < j) := by simp
      rw [this]
      exact h
  · rw [show (nx == ny) = false by simpa using e]
    refine kat_no ?_
    show wpAny _ _ (oneLt' true _ _) _ _ _
    refine oneLt_int ?_
    rw [decide_eq_false e, Bool.false_and, Bool.or_false] at h
    exact h

theorem katTups_of {h : Heap} {ad : Nat → Addr} {nm : Nat → Int} {tn ti : Nat → Tok} : ∀ (ks : List Nat), (∀ k ∈ ks, h.get? (ad k) = some (tupObj (nm k) (tn k) k (ti k))) → KatTups h (ks.map fun k => Value.ref (ad k)) (ks.map fun k => Value.int (nm k) (tn k))
  | [], _ => KatTups.nil
  | k :: ks, hk => KatTups.cons (hk k (.head _)) rfl rfl rfl (katTups_of ks fun j hj => hk j (.tail _ hj))

theorem sorted_tups {ad : Nat → Addr} {nm : Nat → Int} {tn ti : Nat → Tok} {n : Nat} {P : Array Nat → Prop} {Q : Value → Shared → Prop} (F : Fr h₀ L s.heap m) (N : News h₀ L s.heap led) (hl : s.heap.IsList l ((List.range n).map fun k => Value.ref (ad k)).toArray) (h2 : 2 ≤ n) (h64 : n < 64)
    (hmem : ∀ k, k < n → (ad k, tupObj (nm k) (tn k) k (ti k)) ∈ led) (hs : KOk (ltN nm) n P (kas_sort n)) (hP : ∀ p, P p → ∀ k ∈ p.toList, k < n)
    (h : ∀ D e p h', P p → Fr h₀ L h' m → News h₀ L h' ((D, W.listOf (p.toList.map fun k => Value.ref (ad k)).toArray e) :: led) → (∀ q ∈ led, q.1 < D) → Q (.ref D) { s with heap := h' }) :
    wpAny (model prog w) A (call (.builtin "sorted") [.ref l]) Q E s := by
  have hlen : ((List.range n).map fun k => Value.ref (ad k)).length = n := by rw [List.length_map, List.length_range]
  refine kat_sorted F N hl (by rw [hlen]; exact h2) (by rw [hlen]; exact h64) (fun D e1 h' F' N' hlt => ?_)
  have hget : ∀ k, k < n → h'.get? (ad k) = some (tupObj (nm k) (tn k) k (ti k)) := fun k hk => (N' _ (.tail _ (hmem k hk))).1
  have hD : ∀ k, k < n → ((List.range n).map fun k => Value.ref (ad k)).getD k Value.none = .ref (ad k) := fun k hk => by
    rw [List.getD_eq_getElem?_getD, List.getElem?_map, List.getElem?_range hk]; rfl
  refine kat_kind (s := { s with heap := h' }) (T := Value.type "int") (katTups_of (h := h') (nm := nm) (tn := tn) (ti := ti) (List.range n) fun k hk => hget k (List.mem_range.mp hk)) (by rw [List.length_map, List.length_range]; omega) (fun v hv => ?_) rfl ?_
  · obtain ⟨k, _, rfl⟩ := List.mem_map.mp hv
    exact Looks.of_pure rfl
  · rw [hlen]
    refine KOk.wp (fun i j C hi hj hC => ?_) (fun p hp => ?_) _ hs
    · show wpAny _ _ (keyLt' _ _ _) _ _ _
      rw [hD i hi, hD j hj]
      exact tup_ask (s := { s with heap := h' }) (hget i hi) (hget j hj) hC
    · refine KasFin.intro F' N' (UpdF.head fun q hq => Nat.ne_of_lt (hlt q hq)) (fun h'' c F'' N'' => ?_)
      refine h D c p h'' hp F'' ?_ hlt
      have e : (p.toList.map fun i => ((List.range n).map fun k => Value.ref (ad k)).getD i Value.none) = p.toList.map fun k => Value.ref (ad k) := List.map_congr_left fun k hk => hD k (hP p hp k hk)
      rw [e] at N''
      exact N''
end
end Mine

end PartQ1
section PartA3
set_option maxRecDepth 100000
namespace Mine
theorem quietA3 : True := by (w_top off); trivial
structure STO (lt : Nat → Nat → Bool) : Prop where
  irrefl : ∀ i, lt i i = false
  trans : ∀ i j k, lt i j = true → lt j k = true → lt i k = true
  total : ∀ i j, i ≠ j → lt i j = true ∨ lt j i = true
section
variable {lt : Nat → Nat → Bool} (o : STO lt)
include o
theorem STO.asymm {i j : Nat} (h : lt i j = true) : lt j i = false := by
  cases e : lt j i with
  | false => rfl
  | true => have := o.trans _ _ _ h e; rw [o.irrefl] at this; cases this
theorem STO.ge_trans {i j k : Nat} (h1 : lt j i = false) (h2 : lt k j = false) : lt k i = false := by
  cases e : lt k i with
  | false => rfl
  | true =>
    by_cases q : k = j
    · subst q; rw [h1] at e; cases e
    · rcases o.total k j q with h | h
      · rw [h2] at h; cases h
      · have := o.trans _ _ _ h e; rw [h1] at this; cases this
theorem STO.lt_of {i j : Nat} (hne : i ≠ j) (h : lt j i = false) : lt i j = true := by
  rcases o.total i j hne with h' | h'
  · exact h'
  · rw [h] at h'; cases h'
end

theorem getD_set (H : List Nat) (p x i : Nat) : (H.set p x).getD i 0 = if i = p ∧ p < H.length then x else H.getD i 0 := by
  rw [List.getD_eq_getElem?_getD, List.getD_eq_getElem?_getD, List.getElem?_set]
  by_cases h : p = i
  · subst h
    by_cases h2 : p < H.length
    · simp [h2]
    · simp [h2]
  · rw [if_neg h, if_neg (fun q => h q.1.symm)]
theorem getD_set_eq {H : List Nat} {p x : Nat} (h : p < H.length) : (H.set p x).getD p 0 = x := by rw [getD_set, if_pos ⟨rfl, h⟩]
theorem getD_set_ne {H : List Nat} {p x i : Nat} (h : i ≠ p) : (H.set p x).getD i 0 = H.getD i 0 := by rw [getD_set, if_neg (fun q => h q.1)]

theorem set_swap_perm {H : List Nat} {p c x : Nat} (hp : p < H.length) (hc : c < H.length) (hne : p ≠ c) : ((H.set p (H.getD c 0)).set c x).Perm (H.set p x) := by
  rw [List.perm_iff_count]
  intro b
  have hc' : c < (H.set p (H.getD c 0)).length := by rw [List.length_set]; exact hc
  rw [List.count_set hc', List.count_set hp, List.count_set hp]
  have e1 : (H.set p (H.getD c 0))[c] = H[c] := by rw [List.getElem_set_ne hne]
  have e2 : H.getD c 0 = H[c] := by rw [List.getD_eq_getElem?_getD, List.getElem?_eq_getElem hc]; rfl
  rw [e1, e2]
  have m1 : H[c] ∈ H := List.getElem_mem hc
  have m2 : H[p] ∈ H := List.getElem_mem hp
  by_cases q1 : H[c] = b
  · by_cases q2 : H[p] = b
    · by_cases q3 : x = b <;> simp [q1, q2, q3]
    · by_cases q3 : x = b <;> simp [q1, q2, q3]
  · by_cases q2 : H[p] = b
    · by_cases q3 : x = b <;> simp [q1, q2, q3]
    · by_cases q3 : x = b <;> simp [q1, q2, q3]

def Hp (lt : Nat → Nat → Bool) (H : List Nat) : Prop := ∀ c, 0 < c → c < H.length → lt (H.getD c 0) (H.getD ((c - 1) / 2) 0) = false

theorem sdP_perm {lt : Nat → Nat → Bool} {x : Nat} : ∀ (f : Nat) (H : List Nat) (p : Nat), p < H.length → (sdP lt x f H p).Perm (H.set p x)
  | 0, H, p, _ => List.Perm.refl _
  | f + 1, H, p, hp => by
    unfold sdP
    split
    · rename_i h0
      split
      · have hq : (p - 1) / 2 < H.length := by omega
        refine (sdP_perm f _ _ (by rw [List.length_set]; exact hq)).trans ?_
        exact set_swap_perm hp hq (by omega)
      · exact List.Perm.refl _
    · exact List.Perm.refl _

theorem sdP_heap {lt : Nat → Nat → Bool} (o : STO lt) {x : Nat} : ∀ (f : Nat) (H : List Nat) (p : Nat), p < H.length → p ≤ f →
    (∀ c, 0 < c → c < H.length → c ≠ p → lt ((H.set p x).getD c 0) ((H.set p x).getD ((c - 1) / 2) 0) = false) →
    (0 < p → ∀ c, 0 < c → c < H.length → (c - 1) / 2 = p → lt (H.getD c 0) (H.getD ((p - 1) / 2) 0) = false) → Hp lt (sdP lt x f H p)
  | 0, H, p, hp, hf, h1, _ => by
    intro c hc hcl
    rw [sdP, List.length_set] at hcl
    exact h1 c hc hcl (by omega)
  | f + 1, H, p, hp, hf, h1, h2 => by
    unfold sdP
    split
    · rename_i h0
      have hq : (p - 1) / 2 < H.length := by omega
      have hqp : (p - 1) / 2 ≠ p := by omega
      split
      · rename_i hlt
        have hlen : (H.set p (H.getD ((p - 1) / 2) 0)).length = H.length := List.length_set ..
        refine sdP_heap o f _ _ (by rw [hlen]; exact hq) (by omega) ?_ ?_
        · intro c hc hcl hcq
          rw [hlen] at hcl
          rw [getD_set_ne hcq]
          by_cases e : (c - 1) / 2 = (p - 1) / 2
          · rw [e, getD_set_eq (by rw [hlen]; exact hq)]
            by_cases ecp : c = p
            · rw [ecp, getD_set_eq hp]
              exact o.asymm hlt
            · rw [getD_set_ne ecp]
              have := h1 c hc hcl ecp
              rw [getD_set_ne ecp, e, getD_set_ne hqp] at this
              exact o.ge_trans (o.asymm hlt) this
          · rw [getD_set_ne e]
            have ecp : c ≠ p := fun q => e (by rw [q])
            rw [getD_set_ne ecp]
            by_cases e2 : (c - 1) / 2 = p
            · rw [e2, getD_set_eq hp]
              exact h2 h0 c hc hcl e2
            · rw [getD_set_ne e2]
              have := h1 c hc hcl ecp
              rwa [getD_set_ne ecp, getD_set_ne e2] at this
        · intro hq0 c hc hcl hcq
          rw [hlen] at hcl
          have hqq : ((p - 1) / 2 - 1) / 2 ≠ p := by omega
          rw [getD_set_ne hqq]
          have hqr : lt (H.getD ((p - 1) / 2) 0) (H.getD (((p - 1) / 2 - 1) / 2) 0) = false := by
            have := h1 ((p - 1) / 2) hq0 hq hqp
            rwa [getD_set_ne hqp, getD_set_ne hqq] at this
          by_cases ecp : c = p
          · rw [ecp, getD_set_eq hp]
            exact hqr
          · rw [getD_set_ne ecp]
            have := h1 c hc hcl ecp
            rw [getD_set_ne ecp, hcq, getD_set_ne hqp] at this
            exact o.ge_trans hqr this
      · rename_i hlt
        intro c hc hcl
        rw [List.length_set] at hcl
        by_cases ecp : c = p
        · subst ecp
          rw [getD_set_eq hp, getD_set_ne hqp]
          simpa using hlt
        · exact h1 c hc hcl ecp
    · rename_i h0
      intro c hc hcl
      rw [List.length_set] at hcl
      exact h1 c hc hcl (by omega)

theorem hp_heap {lt : Nat → Nat → Bool} (o : STO lt) : ∀ n, Hp lt (hp lt n)
  | 0 => fun c _ hc => by simp [hp] at hc
  | n + 1 => by
    rw [hp]
    have ih := hp_heap o n
    have hl := hp_len lt n
    rw [hl]
    have hset : (hp lt n ++ [n]).set n n = hp lt n ++ [n] := by
      rw [List.set_append_right _ _ (by omega), hl]; simp
    refine sdP_heap o n _ n (by rw [List.length_append, hl]; simp) (Nat.le_refl _) ?_ ?_
    · intro c hc hcl hcn
      rw [List.length_append, hl] at hcl
      simp only [List.length_cons, List.length_nil] at hcl
      rw [hset]
      have := ih c hc (by omega)
      rw [List.getD_eq_getElem?_getD, List.getD_eq_getElem?_getD, List.getElem?_append_left (by omega), List.getElem?_append_left (by omega), ← List.getD_eq_getElem?_getD, ← List.getD_eq_getElem?_getD]
      exact this
    · intro _ c hc hcl hcn
      rw [List.length_append, hl] at hcl
      simp only [List.length_cons, List.length_nil] at hcl
      omega
theorem hp_perm {lt : Nat → Nat → Bool} : ∀ n, (hp lt n).Perm (List.range n)
  | 0 => List.Perm.refl _
  | n + 1 => by
    rw [hp]
    have hl := hp_len lt n
    rw [hl]
    refine (sdP_perm _ _ _ (by rw [List.length_append, hl]; simp)).trans ?_
    have hset : (hp lt n ++ [n]).set n n = hp lt n ++ [n] := by
      rw [List.set_append_right _ _ (by omega), hl]; simp
    rw [hset, List.range_succ]
    exact (hp_perm n).append_right _

theorem heap_min {lt : Nat → Nat → Bool} (o : STO lt) {H : List Nat} (h : Hp lt H) : ∀ i, i < H.length → lt (H.getD i 0) (H.getD 0 0) = false := by
  intro i
  induction i using Nat.strongRecOn with
  | ind i ih =>
    intro hi
    by_cases h0 : i = 0
    · rw [h0]; exact o.irrefl _
    · exact o.ge_trans (ih ((i - 1) / 2) (by omega) (by omega)) (h i (by omega) hi)

/-- a hole at p: all else is a heap -/
structure Hole (lt : Nat → Nat → Bool) (H : List Nat) (p : Nat) : Prop where
  off : ∀ c, 0 < c → c < H.length → c ≠ p → (c - 1) / 2 ≠ p → lt (H.getD c 0) (H.getD ((c - 1) / 2) 0) = false
  up : 0 < p → ∀ c, 0 < c → c < H.length → (c - 1) / 2 = p → lt (H.getD c 0) (H.getD ((p - 1) / 2) 0) = false

theorem suC_child (lt : Nat → Nat → Bool) (H : List Nat) (p : Nat) : suC lt H p = 2 * p + 1 ∨ suC lt H p = 2 * p + 2 := by
  unfold suC; split
  · exact .inr rfl
  · exact .inl rfl
theorem suC_min {lt : Nat → Nat → Bool} (o : STO lt) {H : List Nat} {p c : Nat} (hc : 0 < c) (hl : c < H.length) (hp : (c - 1) / 2 = p) : lt (H.getD c 0) (H.getD (suC lt H p) 0) = false := by
  have hcc : c = 2 * p + 1 ∨ c = 2 * p + 2 := by omega
  unfold suC
  split
  · rename_i h
    rcases hcc with rfl | rfl
    · exact h.2
    · exact o.irrefl _
  · rename_i h
    rcases hcc with rfl | rfl
    · exact o.irrefl _
    · have h' : ¬ lt (H.getD (2 * p + 1) 0) (H.getD (2 * p + 2) 0) = false := fun q => h ⟨hl, q⟩
      exact o.asymm (by simpa using h')

theorem hole_step {lt : Nat → Nat → Bool} (o : STO lt) {H : List Nat} {p : Nat} (hh : Hole lt H p) (hc : 2 * p + 1 < H.length) : Hole lt (H.set p (H.getD (suC lt H p) 0)) (suC lt H p) := by
  have hcl := suC_lt (lt := lt) hc
  have hch := suC_child lt H p
  have hcp : suC lt H p ≠ p := by omega
  have hp : p < H.length := by omega
  constructor
  · intro d hd hdl hdc hpd
    rw [List.length_set] at hdl
    by_cases e : d = p
    · subst e
      rw [getD_set_eq hp, getD_set_ne (by omega)]
      exact hh.up hd _ (by omega) hcl (by omega)
    · rw [getD_set_ne e]
      by_cases e2 : (d - 1) / 2 = p
      · rw [e2, getD_set_eq hp]
        exact suC_min o hd hdl e2
      · rw [getD_set_ne e2]
        exact hh.off d hd hdl e e2
  · intro h0 d hd hdl hpd
    rw [List.length_set] at hdl
    have hpc : (suC lt H p - 1) / 2 = p := by omega
    rw [hpc, getD_set_eq hp, getD_set_ne (by omega)]
    have := hh.off d hd hdl (by omega) (by omega)
    rwa [hpd] at this

theorem suLoop_ok {lt : Nat → Nat → Bool} (o : STO lt) {x : Nat} : ∀ (f : Nat) (H : List Nat) (p : Nat), p < H.length → H.length - p ≤ f → Hole lt H p →
    Hole lt (suLoop lt f H p).1 (suLoop lt f H p).2 ∧ (suLoop lt f H p).2 < H.length ∧ ¬ 2 * (suLoop lt f H p).2 + 1 < H.length ∧ ((suLoop lt f H p).1.set (suLoop lt f H p).2 x).Perm (H.set p x)
  | 0, H, p, hp, hf, hh => by omega
  | f + 1, H, p, hp, hf, hh => by
    by_cases hc : 2 * p + 1 < H.length
    · have hcl := suC_lt (lt := lt) hc
      have hch := suC_child lt H p
      have e : suLoop lt (f + 1) H p = suLoop lt f (H.set p (H.getD (suC lt H p) 0)) (suC lt H p) := by
        rw [suLoop, if_pos hc]
      have ih := suLoop_ok o (x := x) f (H.set p (H.getD (suC lt H p) 0)) (suC lt H p) (by rw [List.length_set]; exact hcl) (by rw [List.length_set]; omega) (hole_step o hh hc)
      rw [List.length_set] at ih
      rw [e]
      exact ⟨ih.1, ih.2.1, ih.2.2.1, ih.2.2.2.trans (set_swap_perm hp hcl (by omega))⟩
    · have e : suLoop lt (f + 1) H p = (H, p) := su_stop hc
      rw [e]
      exact ⟨hh, hp, hc, List.Perm.refl _⟩

theorem su_ok {lt : Nat → Nat → Bool} (o : STO lt) {H : List Nat} (hl : 0 < H.length) (hh : Hole lt H 0) : Hp lt (su lt H) ∧ (su lt H).Perm H := by
  have h := suLoop_ok o (x := H.getD 0 0) H.length H 0 hl (by omega) hh
  unfold su suR
  generalize hr : suLoop lt H.length H 0 = r at h
  obtain ⟨H1, p⟩ := r
  dsimp only at h ⊢
  obtain ⟨hole, hp, hleaf, hperm⟩ := h
  have hlen : H1.length = H.length := by
    have := suLoop_len lt H.length H 0
    rw [hr] at this
    exact this
  have hset : (H1.set p (H.getD 0 0)).set p (H.getD 0 0) = H1.set p (H.getD 0 0) := List.set_set ..
  have hlen2 : (H1.set p (H.getD 0 0)).length = H.length := by rw [List.length_set, hlen]
  constructor
  · refine sdP_heap o p _ p (by rw [hlen2]; exact hp) (Nat.le_refl _) ?_ ?_
    · intro c hc hcl hcp
      rw [hlen2] at hcl
      have h1 : (c - 1) / 2 ≠ p := by omega
      rw [hset, getD_set_ne hcp, getD_set_ne h1]
      exact hole.off c hc (by omega) hcp h1
    · intro _ c hc hcl hcp
      rw [hlen2] at hcl
      omega
  · refine (sdP_perm _ _ _ (by rw [hlen2]; exact hp)).trans ?_
    rw [hset]
    refine hperm.trans ?_
    have : H.set 0 (H.getD 0 0) = H := by
      cases H with
      | nil => rfl
      | cons a t => rfl
    rw [this]

theorem pop1_ok {lt : Nat → Nat → Bool} (o : STO lt) {H : List Nat} (hl : 0 < H.length) (hh : Hp lt H) : Hp lt (pop1 lt H) ∧ (H.getD 0 0 :: pop1 lt H).Perm H := by
  unfold pop1 popL
  have hs := last_split hl
  by_cases e : H.dropLast = []
  · rw [if_pos e]
    rw [e, List.nil_append] at hs
    refine ⟨fun c _ hc => by simp at hc, ?_⟩
    rw [← hs]
    exact List.Perm.refl _
  · rw [if_neg e]
    have hdl : 0 < H.dropLast.length := by
      cases hq : H.dropLast with
      | nil => exact absurd hq e
      | cons a t => simp
    have hle : H.dropLast.length = H.length - 1 := List.length_dropLast
    have hole : Hole lt (H.dropLast.set 0 (lastOf H)) 0 := by
      refine ⟨fun c hc hcl h0 hp => ?_, fun h => absurd h (Nat.lt_irrefl _)⟩
      rw [List.length_set] at hcl
      rw [getD_set_ne h0, getD_set_ne hp]
      have := hh c hc (by omega)
      have ed : ∀ i, i < H.dropLast.length → H.dropLast.getD i 0 = H.getD i 0 := fun i hi => by
        have : (H.dropLast ++ [lastOf H]).getD i 0 = H.getD i 0 := by rw [hs]
        rw [← this, List.getD_eq_getElem?_getD, List.getD_eq_getElem?_getD, List.getElem?_append_left hi]
      rw [ed c hcl, ed _ (by omega)]
      exact this
    have h := su_ok o (H := H.dropLast.set 0 (lastOf H)) (by rw [List.length_set]; exact hdl) hole
    refine ⟨h.1, (List.Perm.cons _ h.2).trans ?_⟩
    cases hq : H.dropLast with
    | nil => exact absurd hq e
    | cons a t =>
      have h0 : H.getD 0 0 = a := by
        have : (H.dropLast ++ [lastOf H]).getD 0 0 = H.getD 0 0 := by rw [hs]
        rw [← this, hq]; rfl
      rw [h0]
      have hsH : H = a :: (t ++ [lastOf H]) := by rw [hq] at hs; exact hs.symm
      show (a :: lastOf H :: t).Perm H
      refine List.Perm.trans ?_ (List.Perm.of_eq hsH.symm)
      exact List.Perm.cons _ (List.perm_append_singleton _ _).symm
end Mine

end PartA3
section PartA4
open PySem PySem.W
set_option maxRecDepth 100000
namespace Mine
theorem quietA4 : True := by (w_top off); trivial
structure SortOut (lt : Nat → Nat → Bool) (n : Nat) (p : List Nat) : Prop where
  perm : p.Perm (List.range n)
  sorted : p.Pairwise fun i j => lt i j = true
theorem SortOut.lt {lt : Nat → Nat → Bool} {n : Nat} {p : List Nat} (h : SortOut lt n p) : ∀ k ∈ p, k < n := fun k hk => List.mem_range.mp (h.perm.subset hk)

theorem outs_ok {lt : Nat → Nat → Bool} (o : STO lt) {H : List Nat} (hh : Hp lt H) (hnd : H.Nodup) : ∀ i, i ≤ H.length →
    (outs lt H i ++ popsL lt H i).Perm H ∧ Hp lt (popsL lt H i) ∧ (outs lt H i).Pairwise (fun a b => lt a b = true) ∧ ∀ a ∈ outs lt H i, ∀ b ∈ popsL lt H i, lt a b = true
  | 0, _ => ⟨List.Perm.refl _, hh, List.Pairwise.nil, fun a ha => by simp [outs] at ha⟩
  | i + 1, hi => by
    obtain ⟨h1, h2, h3, h4⟩ := outs_ok o hh hnd i (by omega)
    have hpl : 0 < (popsL lt H i).length := by rw [popsL_len]; omega
    obtain ⟨k1, k2⟩ := pop1_ok o hpl h2
    have hP : (popsL lt H i).Nodup := (List.nodup_append.mp (h1.nodup_iff.mpr hnd)).2.1
    have hrP : ((popsL lt H i).getD 0 0 :: pop1 lt (popsL lt H i)).Nodup := k2.nodup_iff.mpr hP
    have hr : (popsL lt H i).getD 0 0 ∈ popsL lt H i := k2.subset (.head _)
    rw [outs, popsL]
    refine ⟨?_, k1, ?_, ?_⟩
    · rw [List.append_assoc]
      exact (List.Perm.append_left _ k2).trans h1
    · rw [List.pairwise_append]
      exact ⟨h3, List.pairwise_singleton _ _, fun a ha b hb => by rw [List.mem_singleton.mp hb]; exact h4 a ha _ hr⟩
    · intro a ha b hb
      have hbP : b ∈ popsL lt H i := k2.subset (.tail _ hb)
      rcases List.mem_append.mp ha with ha | ha
      · exact h4 a ha b hbP
      · rw [List.mem_singleton.mp ha]
        have hne : (popsL lt H i).getD 0 0 ≠ b := fun q => (List.nodup_cons.mp hrP).1 (q ▸ hb)
        obtain ⟨j, hj, rfl⟩ := List.mem_iff_getElem.mp hbP
        have := heap_min o h2 j hj
        have e : (popsL lt H i).getD j 0 = (popsL lt H i)[j] := by rw [List.getD_eq_getElem?_getD, List.getElem?_eq_getElem hj]; rfl
        rw [e] at this
        exact o.lt_of hne this

theorem heap_out {lt : Nat → Nat → Bool} (o : STO lt) (n : Nat) : SortOut lt n (outs lt (hp lt n) n) := by
  have hperm := hp_perm (lt := lt) n
  have hl := hp_len lt n
  obtain ⟨h1, _, h3, _⟩ := outs_ok o (hp_heap o n) (hperm.nodup_iff.mpr List.nodup_range) n (by omega)
  have he : popsL lt (hp lt n) n = [] := List.eq_nil_of_length_eq_zero (by rw [popsL_len]; omega)
  rw [he, List.append_nil] at h1
  exact ⟨h1.trans hperm, h3⟩

theorem sorted_unique {lt : Nat → Nat → Bool} (o : STO lt) : ∀ (p q : List Nat), p.Perm q → p.Pairwise (fun i j => lt i j = true) → q.Pairwise (fun i j => lt i j = true) → p = q
  | [], q, h, _, _ => by rw [List.Perm.nil_eq h]
  | a :: p, [], h, _, _ => by have := h.length_eq; simp at this
  | a :: p, b :: q, h, hp, hq => by
    have hab : a = b := by
      have ha : a ∈ b :: q := h.subset (.head _)
      have hb : b ∈ a :: p := h.symm.subset (.head _)
      rcases List.mem_cons.mp ha with e | ha
      · exact e
      · rcases List.mem_cons.mp hb with e | hb
        · exact e.symm
        · have h1 := (List.pairwise_cons.mp hq).1 a ha
          have h2 := (List.pairwise_cons.mp hp).1 b hb
          rw [o.asymm h1] at h2
          cases h2
    subst hab
    rw [sorted_unique o p q (List.Perm.cons_inv h) (List.pairwise_cons.mp hp).2 (List.pairwise_cons.mp hq).2]

theorem ltN_sto (nm : Nat → Int) : STO (ltN nm) := by
  constructor
  · intro i; unfold ltN; simp
  · intro i j k h1 h2
    unfold ltN at *
    simp only [Bool.or_eq_true, Bool.and_eq_true, decide_eq_true_eq] at *
    omega
  · intro i j h
    unfold ltN
    simp only [Bool.or_eq_true, Bool.and_eq_true, decide_eq_true_eq]
    omega
end Mine

end PartA4
section PartA5
open PySem PySem.W PyProof.Rows
set_option maxRecDepth 100000
namespace Mine
theorem quietA5 : True := by (w_top off); trivial
def PP (n : Nat) (p : Array Nat) : Prop := p.toList.Perm (List.range n)
theorem PP.size {n : Nat} {p : Array Nat} (h : PP n p) : p.size = n := by
  have := h.length_eq
  rw [List.length_range, Array.length_toList] at this
  exact this
theorem PP.perm {n : Nat} {p q : Array Nat} (h : PP n p) (e : q.Perm p) : PP n q := (Array.perm_iff_toList_perm.mp e).trans h
theorem getD_some {p : Array Nat} {i : Nat} (hi : i < p.size) : p.getD i 0 = p[i] := by simp [Array.getD, hi]
theorem getD_opt {p q : Array Nat} {i j : Nat} (h : p[i]? = q[j]?) : p.getD i 0 = q.getD j 0 := by
  rw [Array.getD_eq_getD_getElem?, Array.getD_eq_getD_getElem?, h]
theorem PP.lt {n : Nat} {p : Array Nat} (h : PP n p) (hn : 0 < n) (i : Nat) : p.getD i 0 < n := by
  by_cases hi : i < p.size
  · rw [getD_some hi]
    exact List.mem_range.mp (h.subset (by simp))
  · have : p.getD i 0 = 0 := by simp [Array.getD, hi]
    omega
theorem PP.inj {n : Nat} {p : Array Nat} (h : PP n p) {i j : Nat} (hi : i < n) (hj : j < n) (hne : i ≠ j) : p.getD i 0 ≠ p.getD j 0 := by
  have hnd : p.toList.Nodup := h.nodup_iff.mpr List.nodup_range
  have hs := h.size
  rw [getD_some (by omega), getD_some (by omega)]
  intro e
  apply hne
  have := (List.getElem_inj (i := i) (j := j) (h₀ := by simp; omega) (h₁ := by simp; omega) hnd).mp (by simpa using e)
  exact this

def Srt (lt : Nat → Nat → Bool) (p : Array Nat) (k : Nat) : Prop := ∀ i j, i < j → j < k → lt (p.getD i 0) (p.getD j 0) = true
def Dsc (lt : Nat → Nat → Bool) (p : Array Nat) (k : Nat) : Prop := ∀ i j, i < j → j < k → lt (p.getD j 0) (p.getD i 0) = true
section
variable {lt : Nat → Nat → Bool} (o : STO lt) {n : Nat}
include o
theorem Srt.snoc {p : Array Nat} {k : Nat} (h : Srt lt p k) (h1 : 1 ≤ k) (h2 : lt (p.getD (k - 1) 0) (p.getD k 0) = true) : Srt lt p (k + 1) := by
  intro i j hij hj
  by_cases e : j = k
  · subst e
    by_cases e2 : i = j - 1
    · subst e2; exact h2
    · exact o.trans _ _ _ (h i (j - 1) (by omega) (by omega)) h2
  · exact h i j hij (by omega)
theorem Dsc.snoc {p : Array Nat} {k : Nat} (h : Dsc lt p k) (h1 : 1 ≤ k) (h2 : lt (p.getD k 0) (p.getD (k - 1) 0) = true) : Dsc lt p (k + 1) := by
  intro i j hij hj
  by_cases e : j = k
  · subst e
    by_cases e2 : i = j - 1
    · subst e2; exact h2
    · exact o.trans _ _ _ h2 (h i (j - 1) (by omega) (by omega))
  · exact h i j hij (by omega)

theorem asc_ok {p : Array Nat} (hp : PP n p) : ∀ (f a : Nat), 1 ≤ a → a + f ≤ n → Srt lt p a → KOk lt n (fun m => a ≤ m ∧ m ≤ a + f ∧ Srt lt p m ∧ (m = a + f ∨ lt (p.getD m 0) (p.getD (m - 1) 0) = true)) (kas_asc p f a)
  | 0, a, h1, hn, hs => ⟨Nat.le_refl _, Nat.le_refl _, hs, .inl rfl⟩
  | f + 1, a, h1, hn, hs => by
    refine ⟨hp.lt (by omega) _, hp.lt (by omega) _, ?_⟩
    cases e : lt (p.getD a 0) (p.getD (a - 1) 0) with
    | true => exact ⟨Nat.le_refl _, Nat.le_add_right _ _, hs, .inr e⟩
    | false =>
      have h2 : lt (p.getD (a - 1) 0) (p.getD a 0) = true := o.lt_of (hp.inj (by omega) (by omega) (by omega)) e
      refine KOk.mono (fun m hm => ?_) _ (asc_ok hp f (a + 1) (by omega) (by omega) (hs.snoc o h1 h2))
      obtain ⟨a1, a2, a3, a4⟩ := hm
      exact ⟨by omega, by omega, a3, a4.imp (fun q => by omega) id⟩

theorem desc_ok {p : Array Nat} (hp : PP n p) : ∀ (f k : Nat), 1 ≤ k → k + f ≤ n → Dsc lt p k → KOk lt n (fun r => r.1 = p ∧ r.2.2 = 0 ∧ k ≤ r.2.1 ∧ r.2.1 ≤ k + f ∧ Dsc lt p r.2.1) (kas_desc f p k 0)
  | 0, k, h1, hn, hs => ⟨rfl, rfl, Nat.le_refl _, Nat.le_refl _, hs⟩
  | f + 1, k, h1, hn, hs => by
    refine ⟨hp.lt (by omega) _, hp.lt (by omega) _, ?_⟩
    cases e : lt (p.getD k 0) (p.getD (k - 1) 0) with
    | true =>
      dsimp only
      rw [if_pos rfl, if_neg (by omega)]
      refine KOk.mono (fun r hr => ?_) _ (desc_ok hp f (k + 1) (by omega) (by omega) (hs.snoc o h1 e))
      obtain ⟨a1, a2, a3, a4, a5⟩ := hr
      exact ⟨a1, a2, by omega, by omega, a5⟩
    | false =>
      dsimp only
      rw [if_neg (by simp)]
      refine ⟨hp.lt (by omega) _, hp.lt (by omega) _, ?_⟩
      have h2 : lt (p.getD (k - 1) 0) (p.getD k 0) = true := o.lt_of (hp.inj (by omega) (by omega) (by omega)) e
      rw [h2]
      dsimp only
      rw [if_pos rfl]
      exact ⟨rfl, rfl, Nat.le_refl _, Nat.le_add_right _ _, hs⟩

theorem rev_ok {p : Array Nat} (hp : PP n p) {m : Nat} (hm : m ≤ n) (hd : Dsc lt p m) : PP n (kas_rev p 0 m) ∧ Srt lt (kas_rev p 0 m) m := by
  refine ⟨hp.perm (mirror_perm _ _ _ _), fun i j hij hj => ?_⟩
  have hg : ∀ k, k < m → (kas_rev p 0 m).getD k 0 = p.getD (m - 1 - k) 0 := fun k hk => by
    refine getD_opt ?_
    show (mirror p 0 m ((m - 0) / 2))[k]? = _
    rw [getElem?_mirror_all (by rw [hp.size]; exact hm), if_pos ⟨Nat.zero_le _, hk⟩]
    congr 1
    omega
  rw [hg i (by omega), hg j hj]
  exact hd _ _ (by omega) (by omega)

def CntOut (lt : Nat → Nat → Bool) (n : Nat) (r : Nat × Array Nat) : Prop := PP n r.2 ∧ 1 ≤ r.1 ∧ r.1 ≤ n ∧ Srt lt r.2 r.1

theorem tail3_ok {p : Array Nat} (hp : PP n p) {m : Nat} (h1 : 1 ≤ m) (hm : m ≤ n) (hd : Dsc lt p m) : KOk lt n (CntOut lt n) (kas_tail3 m n p) := by
  obtain ⟨r1, r2⟩ := rev_ok o hp hm hd
  refine KOk.bind _ (KOk.mono (fun k hk => ?_) _ (asc_ok o r1 (n - m) m h1 (by omega) r2))
  exact ⟨r1, by have := hk.1; show 1 ≤ k; omega, by have := hk.2.1; show k ≤ n; omega, hk.2.2.1⟩

theorem count_ok {p : Array Nat} (hp : PP n p) (hn : 1 ≤ n) : KOk lt n (CntOut lt n) (kas_count n p) := by
  have h0 : Srt lt p 1 := fun i j _ _ => by omega
  refine KOk.bind _ (KOk.mono (fun m hm => ?_) _ (asc_ok o hp (n - 1) 1 (Nat.le_refl _) (by omega) h0))
  obtain ⟨a1, a2, a3, a4⟩ := hm
  by_cases e : m = n
  · rw [if_pos (by simpa using e)]
    exact ⟨hp, a1, by show m ≤ n; omega, a3⟩
  · rw [if_neg (by simpa using e)]
    by_cases e2 : m > 1
    · rw [if_pos e2]
      refine ⟨hp.lt (by omega) _, hp.lt (by omega) _, ?_⟩
      rw [a3 0 (m - 1) (by omega) (by omega)]
      dsimp only
      rw [if_pos rfl]
      exact ⟨hp, a1, by show m ≤ n; omega, a3⟩
    · rw [if_neg e2]
      have em : m = 1 := by omega
      subst em
      have hlt : lt (p.getD 1 0) (p.getD 0 0) = true := by
        rcases a4 with q | q
        · omega
        · exact q
      have hd : Dsc lt p 2 := fun i j hij hj => by
        have e1 : i = 0 := by omega
        have e3 : j = 1 := by omega
        subst e1 e3
        exact hlt
      refine KOk.bind _ (KOk.mono (fun r hr => ?_) _ (desc_ok o hp (n - (1 + 1)) (1 + 1) (by omega) (by omega) hd))
      obtain ⟨b1, b2, b3, b4, b5⟩ := hr
      rw [b2, if_neg (Nat.lt_irrefl _), b1]
      exact tail3_ok o hp (by omega) (by omega) b5

theorem place_ok {p : Array Nat} (hp : PP n p) {k : Nat} (hk : k < n) (hs : Srt lt p k) : ∀ (f l r : Nat), l ≤ r → r ≤ k → r - l ≤ f → (∀ i, i < l → lt (p.getD i 0) (p.getD k 0) = true) → (∀ i, r ≤ i → i < k → lt (p.getD k 0) (p.getD i 0) = true) →
    KOk lt n (fun l' => l' ≤ k ∧ (∀ i, i < l' → lt (p.getD i 0) (p.getD k 0) = true) ∧ ∀ i, l' ≤ i → i < k → lt (p.getD k 0) (p.getD i 0) = true) (kas_place p k f l r)
  | 0, l, r, hlr, hrk, hf, h1, h2 => ⟨by omega, h1, fun i hi hik => h2 i (by omega) hik⟩
  | f + 1, l, r, hlr, hrk, hf, h1, h2 => by
    unfold kas_place
    by_cases e : l ≥ r
    · rw [if_pos e]
      exact ⟨by omega, h1, fun i hi hik => h2 i (by omega) hik⟩
    · rw [if_neg e]
      refine ⟨hp.lt (by omega) _, hp.lt (by omega) _, ?_⟩
      have hmk : (l + r) / 2 < k := by omega
      cases c : lt (p.getD k 0) (p.getD ((l + r) / 2) 0) with
      | true =>
        dsimp only
        rw [if_pos rfl]
        refine place_ok hp hk hs f l _ (by omega) (by omega) (by omega) h1 (fun i hi hik => ?_)
        by_cases q : i = (l + r) / 2
        · rw [q]; exact c
        · exact o.trans _ _ _ c (hs _ i (by omega) hik)
      | false =>
        dsimp only
        rw [if_neg (by simp)]
        have c2 : lt (p.getD ((l + r) / 2) 0) (p.getD k 0) = true := o.lt_of (hp.inj (by omega) hk (by omega)) c
        refine place_ok hp hk hs f _ r (by omega) hrk (by omega) (fun i hi => ?_) h2
        by_cases q : i = (l + r) / 2
        · rw [q]; exact c2
        · exact o.trans _ _ _ (hs i _ (by omega) hmk) c2

theorem bin_ok : ∀ (f : Nat) (p : Array Nat) (k : Nat), PP n p → k + f = n → Srt lt p k → KOk lt n (fun q => PP n q ∧ Srt lt q n) (kas_bin f p k)
  | 0, p, k, hp, hk, hs => ⟨hp, by have : k = n := by omega
                                   exact this ▸ hs⟩
  | f + 1, p, k, hp, hk, hs => by
    refine KOk.bind _ (KOk.mono (fun l hl => ?_) _ (place_ok o hp (k := k) (by omega) hs k 0 k (Nat.zero_le _) (Nat.le_refl _) (by omega) (fun i hi => absurd hi (Nat.not_lt_zero _)) (fun i hi hik => by omega)))
    obtain ⟨b1, b2, b3⟩ := hl
    refine bin_ok f _ (k + 1) (hp.perm (bubble_perm _ _ _)) (by omega) (fun i j hij hj => ?_)
    have hg : ∀ i, (bubble p k (k - l)).getD i 0 = if i = l then p.getD k 0 else if l < i ∧ i ≤ k then p.getD (i - 1) 0 else p.getD i 0 := fun i => by
      have := getElem?_bubble (xs := p) (src := k) (by rw [hp.size]; omega) (k - l) (by omega) i
      have e : k - (k - l) = l := by omega
      rw [e] at this
      by_cases q : i = l
      · rw [if_pos q] at this ⊢; exact getD_opt this
      · rw [if_neg q] at this ⊢
        by_cases q2 : l < i ∧ i ≤ k
        · rw [if_pos q2] at this ⊢; exact getD_opt this
        · rw [if_neg q2] at this ⊢; exact getD_opt this
    rw [hg i, hg j]
    by_cases q1 : i = l
    · rw [if_pos q1, if_neg (by omega), if_pos (by omega)]
      exact b3 _ (by omega) (by omega)
    · rw [if_neg q1]
      by_cases q2 : j = l
      · rw [if_pos q2, if_neg (by omega)]
        exact b2 _ (by omega)
      · rw [if_neg q2]
        by_cases q3 : l < i ∧ i ≤ k
        · rw [if_pos q3, if_pos (by omega)]
          exact hs _ _ (by omega) (by omega)
        · rw [if_neg q3]
          by_cases q4 : l < j ∧ j ≤ k
          · rw [if_pos q4]
            exact hs _ _ (by omega) (by omega)
          · rw [if_neg q4]
            exact hs _ _ hij (by omega)

theorem sort_out {p : Array Nat} (hp : PP n p) (hs : Srt lt p n) : SortOut lt n p.toList := by
  refine ⟨hp, List.pairwise_iff_getElem.mpr fun i j hi hj hij => ?_⟩
  have hz := hp.size
  have hi' : i < p.size := by simpa using hi
  have hj' : j < p.size := by simpa using hj
  have := hs i j hij (by omega)
  rw [getD_some hi', getD_some hj'] at this
  simpa using this

theorem sort_okL (h1 : 1 ≤ n) : KOk lt n (fun p => SortOut lt n p.toList) (kas_sort n) := by
  have hp : PP n (List.toArray (List.range n)) := List.Perm.refl _
  refine KOk.bind _ (KOk.mono (fun r hr => ?_) _ (count_ok o hp h1))
  obtain ⟨c1, c2, c3, c4⟩ := hr
  by_cases e : r.1 < n
  · rw [if_pos e]
    have em : max r.1 1 = r.1 := by omega
    rw [em]
    exact KOk.mono (fun q hq => sort_out o hq.1 hq.2) _ (bin_ok o (n - r.1) r.2 r.1 c1 (by omega) c4)
  · rw [if_neg e]
    have en : r.1 = n := by omega
    exact sort_out o c1 (en ▸ c4)
end
theorem sort_ok (nm : Nat → Int) (n : Nat) (h2 : 2 ≤ n) : KOk (ltN nm) n (fun p => SortOut (ltN nm) n p.toList) (kas_sort n) := sort_okL (ltN_sto nm) (by omega)
end Mine

end PartA5
section PartB1
open PySem PySem.W PySem.Spec PySem.Calls PyProof.Rows
set_option maxRecDepth 100000
namespace Mine
theorem quietB1 : True := by (w_top off); trivial
theorem md2 (x : Nat) : x % 2 < 2 := Nat.mod_lt _ (by decide)
theorem m22 (x y : Nat) : x % 2 * 2 + y % 2 < 4 := by
  have h1 := md2 x
  have h2 := md2 y
  revert h1 h2
  generalize x % 2 = a
  generalize y % 2 = b
  omega
theorem bit2 (x : Nat) : x % 2 = 0 ∨ x % 2 = 1 := Nat.mod_two_eq_zero_or_one x
theorem band (n m : Nat) : Builtin.bitAnd (n : Int) (m : Int) = ((n &&& m : Nat) : Int) := rfl
theorem and_pow (n i : Nat) : n &&& 2 ^ i = n / 2 ^ i % 2 * 2 ^ i := by
  rw [← Nat.toNat_testBit]
  apply Nat.eq_of_testBit_eq
  intro j
  rw [Nat.testBit_and, Nat.testBit_two_pow]
  by_cases h : i = j
  · subst h
    cases e : n.testBit i with
    | true => simp
    | false => simp
  · cases e : n.testBit i with
    | true => simp [h]
    | false => simp [h]
theorem and_1 (n : Nat) : n &&& 1 = n % 2 := by have := and_pow n 0; simpa using this
theorem and_2 (n : Nat) : n &&& 2 = n / 2 % 2 * 2 := and_pow n 1
theorem and_4 (n : Nat) : n &&& 4 = n / 4 % 2 * 4 := and_pow n 2
theorem and_8 (n : Nat) : n &&& 8 = n / 8 % 2 * 8 := and_pow n 3
theorem and_16 (n : Nat) : n &&& 16 = n / 16 % 2 * 16 := and_pow n 4
theorem and_32 (n : Nat) : n &&& 32 = n / 32 % 2 * 32 := and_pow n 5
theorem and_64 (n : Nat) : n &&& 64 = n / 64 % 2 * 64 := and_pow n 6
theorem and_128 (n : Nat) : n &&& 128 = n / 128 % 2 * 128 := and_pow n 7
theorem and_256 (n : Nat) : n &&& 256 = n / 256 % 2 * 256 := and_pow n 8
theorem and_512 (n : Nat) : n &&& 512 = n / 512 % 2 * 512 := and_pow n 9
theorem and_1024 (n : Nat) : n &&& 1024 = n / 1024 % 2 * 1024 := and_pow n 10
theorem and_2048 (n : Nat) : n &&& 2048 = n / 2048 % 2 * 2048 := and_pow n 11
theorem or_two {a b p q : Nat} (ha : a < 2) (hb : b < 2) (h3 : p ||| q = p + q) : a * p ||| b * q = a * p + b * q := by
  have ha' : a = 0 ∨ a = 1 := by omega
  have hb' : b = 0 ∨ b = 1 := by omega
  rcases ha' with rfl | rfl <;> rcases hb' with rfl | rfl <;> simp [h3]
theorem and_2112 (n : Nat) : n &&& 2112 = n / 2048 % 2 * 2048 + n / 64 % 2 * 64 := by
  rw [show (2112 : Nat) = 2048 ||| 64 from rfl, Nat.and_or_distrib_left, and_2048, and_64]
  exact or_two (md2 _) (md2 _) rfl
theorem and_1032 (n : Nat) : n &&& 1032 = n / 1024 % 2 * 1024 + n / 8 % 2 * 8 := by
  rw [show (1032 : Nat) = 1024 ||| 8 from rfl, Nat.and_or_distrib_left, and_1024, and_8]
  exact or_two (md2 _) (md2 _) rfl
theorem and_513 (n : Nat) : n &&& 513 = n / 512 % 2 * 512 + n % 2 * 1 := by
  rw [show (513 : Nat) = 512 ||| 1 from rfl, Nat.and_or_distrib_left, and_512, and_1]
  have := or_two (a := n / 512 % 2) (b := n % 2) (p := 512) (q := 1) (md2 _) (md2 _) rfl
  rwa [Nat.mul_one] at this ⊢
theorem dig16 (x : Nat) : x % 16 = x % 2 + x / 2 % 2 * 2 + x / 4 % 2 * 4 + x / 8 % 2 * 8 := by omega
theorem and_61440 (n : Nat) : n &&& 61440 = n / 4096 % 16 * 4096 := by
  have e1 : n &&& 4096 = n / 4096 % 2 * 4096 := and_pow n 12
  have e2 : n &&& 8192 = n / 8192 % 2 * 8192 := and_pow n 13
  have e3 : n &&& 16384 = n / 16384 % 2 * 16384 := and_pow n 14
  have e4 : n &&& 32768 = n / 32768 % 2 * 32768 := and_pow n 15
  have e : n / 4096 % 16 = n / 4096 % 2 + n / 8192 % 2 * 2 + n / 16384 % 2 * 4 + n / 32768 % 2 * 8 := by
    have h := dig16 (n / 4096)
    rw [Nat.div_div_eq_div_mul, Nat.div_div_eq_div_mul, Nat.div_div_eq_div_mul] at h
    exact h
  rw [show (61440 : Nat) = ((4096 ||| 8192) ||| 16384) ||| 32768 from rfl, Nat.and_or_distrib_left, Nat.and_or_distrib_left, Nat.and_or_distrib_left, e1, e2, e3, e4, e]
  have h1 : n / 4096 % 2 = 0 ∨ n / 4096 % 2 = 1 := bit2 _
  have h2 : n / 8192 % 2 = 0 ∨ n / 8192 % 2 = 1 := bit2 _
  have h3 : n / 16384 % 2 = 0 ∨ n / 16384 % 2 = 1 := bit2 _
  have h4 : n / 32768 % 2 = 0 ∨ n / 32768 % 2 = 1 := bit2 _
  rcases h1 with h1 | h1 <;> rcases h2 with h2 | h2 <;> rcases h3 with h3 | h3 <;> rcases h4 with h4 | h4 <;> rw [h1, h2, h3, h4] <;> rfl

theorem it_r (i : Nat) (h : i < 2) : Txt.item "-r" (i : Int) = if i = 1 then "r" else "-" := by
  have : ∀ i : Nat, i < 2 → Txt.item "-r" (i : Int) = if i = 1 then "r" else "-" := by decide +kernel
  exact this i h
theorem it_w (i : Nat) (h : i < 2) : Txt.item "-w" (i : Int) = if i = 1 then "w" else "-" := by
  have : ∀ i : Nat, i < 2 → Txt.item "-w" (i : Int) = if i = 1 then "w" else "-" := by decide +kernel
  exact this i h
theorem it_x (i : Nat) (h : i < 4) : Txt.item "-xSs" (i : Int) = if i = 3 then "s" else if i = 2 then "S" else if i = 1 then "x" else "-" := by
  have : ∀ i : Nat, i < 4 → Txt.item "-xSs" (i : Int) = if i = 3 then "s" else if i = 2 then "S" else if i = 1 then "x" else "-" := by decide +kernel
  exact this i h
theorem it_t (i : Nat) (h : i < 4) : Txt.item "-xTt" (i : Int) = if i = 3 then "t" else if i = 2 then "T" else if i = 1 then "x" else "-" := by
  have : ∀ i : Nat, i < 4 → Txt.item "-xTt" (i : Int) = if i = 3 then "t" else if i = 2 then "T" else if i = 1 then "x" else "-" := by decide +kernel
  exact this i h

theorem tab0 (n : Nat) : tabChar (n : Int) 0 = kindS (n : Int) := by
  have e : Builtin.bitAnd (n : Int) 61440 = ((n / 4096 % 16 * 4096 : Nat) : Int) := by rw [← and_61440]; rfl
  have hk : kindS (n : Int) = kindOf ((n / 4096 % 16 : Nat) : Int) := by
    unfold kindS
    rw [Int.fdiv_eq_ediv_of_nonneg _ (by decide), Int.fmod_eq_emod_of_nonneg _ (by decide)]
    congr 1
  rw [hk]
  unfold tabChar fmCond
  simp only [if_true, e]
  have : ∀ k : Nat, k < 16 → (match (tabAt 0).2.find? (fun e => decide (((k * 4096 : Nat) : Int) = e.b)) with | some e => e.c | none => if (0 : Nat) = 0 then "?" else "-") = kindOf (k : Int) := by decide +kernel
  exact this _ (Nat.mod_lt _ (by decide))
theorem fmC {n b i : Nat} {a : Addr} {tb tc : Tok} {c : Str} (hi : i ≠ 0) : fmCond i (n : Int) ⟨a, (b : Int), tb, c, tc⟩ = decide (n &&& b = b) := by
  unfold fmCond
  rw [if_neg hi]
  exact decide_eq_decide.mpr (by rw [band]; exact Int.ofNat_inj)
theorem tab1 (n i : Nat) (c : Str) (b : Nat) (tb tc : Tok) (a a' : Addr) (hi : i ≠ 0) (ht : tabAt i = (a', [⟨a, (b : Int), tb, c, tc⟩])) : tabChar (n : Int) i = if n &&& b = b then c else "-" := by
  unfold tabChar
  rw [ht]
  simp only [List.find?_cons, List.find?_nil, fmC hi]
  by_cases h : n &&& b = b <;> simp [h, hi]
theorem tab3 (n i : Nat) (c1 c2 c3 : Str) (b1 b2 b3 : Nat) (t1 t2 t3 u1 u2 u3 : Tok) (a1 a2 a3 a' : Addr) (hi : i ≠ 0) (ht : tabAt i = (a', [⟨a1, (b1 : Int), t1, c1, u1⟩, ⟨a2, (b2 : Int), t2, c2, u2⟩, ⟨a3, (b3 : Int), t3, c3, u3⟩])) :
    tabChar (n : Int) i = if n &&& b1 = b1 then c1 else if n &&& b2 = b2 then c2 else if n &&& b3 = b3 then c3 else "-" := by
  unfold tabChar
  rw [ht]
  simp only [List.find?_cons, List.find?_nil, fmC hi]
  by_cases h1 : n &&& b1 = b1 <;> by_cases h2 : n &&& b2 = b2 <;> by_cases h3 : n &&& b3 = b3 <;> simp [h1, h2, h3, hi]
theorem fdN (n b : Nat) : (n : Int).fdiv (b : Int) = ((n / b : Nat) : Int) := by
  rw [Int.fdiv_eq_ediv_of_nonneg _ (Int.natCast_nonneg b)]; rfl
theorem fmN (n b : Nat) : (n : Int).fmod (b : Int) = ((n % b : Nat) : Int) := by
  rw [Int.fmod_eq_emod_of_nonneg _ (Int.natCast_nonneg b)]; rfl
theorem fm8 (n : Nat) : (n : Int).fmod 8 = ((n % 8 : Nat) : Int) := fmN n 8
theorem fm2 (n : Nat) : (n : Int).fmod 2 = ((n % 2 : Nat) : Int) := fmN n 2
theorem fd4 (n : Nat) : (n : Int).fdiv 4 = ((n / 4 : Nat) : Int) := fdN n 4
theorem fd2 (n : Nat) : (n : Int).fdiv 2 = ((n / 2 : Nat) : Int) := fdN n 2
theorem p4 (x : Nat) : x % 8 / 4 = x / 4 % 2 := by omega
theorem p2 (x : Nat) : x % 8 / 2 % 2 = x / 2 % 2 := by omega
theorem p1 (x : Nat) : x % 8 % 2 = x % 2 := by omega
theorem q2 (x : Nat) : x % 8 / 2 = x / 4 % 2 * 2 + x / 2 % 2 := by omega
theorem q3 (x y : Nat) : (x % 8 + y % 2) % 2 = (x % 2 + y % 2) % 2 := by omega
theorem idx (n : Nat) : (((n : Int).fdiv 64).fmod 8).fdiv 4 = ((n / 256 % 2 : Nat) : Int) ∧ ((((n : Int).fdiv 64).fmod 8).fdiv 2).fmod 2 = ((n / 128 % 2 : Nat) : Int) ∧ ((n : Int).fdiv 2048).fmod 2 * 2 + (((n : Int).fdiv 64).fmod 8).fmod 2 = ((n / 2048 % 2 * 2 + n / 64 % 2 : Nat) : Int) ∧
    (((n : Int).fdiv 8).fmod 8).fdiv 4 = ((n / 32 % 2 : Nat) : Int) ∧ ((((n : Int).fdiv 8).fmod 8).fdiv 2).fmod 2 = ((n / 16 % 2 : Nat) : Int) ∧ ((n : Int).fdiv 1024).fmod 2 * 2 + (((n : Int).fdiv 8).fmod 8).fmod 2 = ((n / 1024 % 2 * 2 + n / 8 % 2 : Nat) : Int) ∧
    (((n : Int).fdiv 1).fmod 8).fdiv 4 = ((n / 4 % 2 : Nat) : Int) ∧ ((((n : Int).fdiv 1).fmod 8).fdiv 2).fmod 2 = ((n / 2 % 2 : Nat) : Int) ∧ ((n : Int).fdiv 512).fmod 2 * 2 + (((n : Int).fdiv 1).fmod 8).fmod 2 = ((n / 512 % 2 * 2 + n % 2 : Nat) : Int) := by
  rw [(show (n : Int).fdiv 64 = ((n / 64 : Nat) : Int) from fdN n 64), (show (n : Int).fdiv 8 = ((n / 8 : Nat) : Int) from fdN n 8), (show (n : Int).fdiv 1 = ((n / 1 : Nat) : Int) from fdN n 1), (show (n : Int).fdiv 2048 = ((n / 2048 : Nat) : Int) from fdN n 2048), (show (n : Int).fdiv 1024 = ((n / 1024 : Nat) : Int) from fdN n 1024), (show (n : Int).fdiv 512 = ((n / 512 : Nat) : Int) from fdN n 512), fm8, fm8, fm8, Nat.div_one, fd4, fd4, fd4, fd2, fd2, fd2, fm2, fm2, fm2, fm2, fm2, fm2, fm2, fm2, fm2]
  rw [p4, p4, p4, p2, p2, p2, p1, p1, p1, Nat.div_div_eq_div_mul, Nat.div_div_eq_div_mul, Nat.div_div_eq_div_mul, Nat.div_div_eq_div_mul]
  exact ⟨rfl, rfl, rfl, rfl, rfl, rfl, rfl, rfl, rfl⟩
theorem tabs9 (n : Nat) :
    tabChar (n : Int) 1 = Txt.item "-r" ((((n : Int).fdiv 64).fmod 8).fdiv 4) ∧
    tabChar (n : Int) 2 = Txt.item "-w" (((((n : Int).fdiv 64).fmod 8).fdiv 2).fmod 2) ∧
    tabChar (n : Int) 3 = Txt.item "-xSs" (((n : Int).fdiv 2048).fmod 2 * 2 + (((n : Int).fdiv 64).fmod 8).fmod 2) ∧
    tabChar (n : Int) 4 = Txt.item "-r" ((((n : Int).fdiv 8).fmod 8).fdiv 4) ∧
    tabChar (n : Int) 5 = Txt.item "-w" (((((n : Int).fdiv 8).fmod 8).fdiv 2).fmod 2) ∧
    tabChar (n : Int) 6 = Txt.item "-xSs" (((n : Int).fdiv 1024).fmod 2 * 2 + (((n : Int).fdiv 8).fmod 8).fmod 2) ∧
    tabChar (n : Int) 7 = Txt.item "-r" ((((n : Int).fdiv 1).fmod 8).fdiv 4) ∧
    tabChar (n : Int) 8 = Txt.item "-w" (((((n : Int).fdiv 1).fmod 8).fdiv 2).fmod 2) ∧
    tabChar (n : Int) 9 = Txt.item "-xTt" (((n : Int).fdiv 512).fmod 2 * 2 + (((n : Int).fdiv 1).fmod 8).fmod 2) := by
  obtain ⟨i1, i2, i3, i4, i5, i6, i7, i8, i9⟩ := idx n
  rw [i1, i2, i3, i4, i5, i6, i7, i8, i9]
  refine ⟨?_, ?_, ?_, ?_, ?_, ?_, ?_, ?_, ?_⟩
  · rw [tab1 n 1 "r" 256 _ _ _ _ (by decide) rfl, it_r _ (md2 _), and_256]
    have h1 : n / 256 % 2 = 0 ∨ n / 256 % 2 = 1 := bit2 _
    rcases h1 with h1 | h1 <;> rw [h1] <;> rfl
  · rw [tab1 n 2 "w" 128 _ _ _ _ (by decide) rfl, it_w _ (md2 _), and_128]
    have h1 : n / 128 % 2 = 0 ∨ n / 128 % 2 = 1 := bit2 _
    rcases h1 with h1 | h1 <;> rw [h1] <;> rfl
  · rw [tab3 n 3 "s" "S" "x" 2112 2048 64 _ _ _ _ _ _ _ _ _ _ (by decide) rfl, it_x _ (m22 _ _), and_2112, and_2048, and_64]
    have h1 : n / 2048 % 2 = 0 ∨ n / 2048 % 2 = 1 := bit2 _
    have h2 : n / 64 % 2 = 0 ∨ n / 64 % 2 = 1 := bit2 _
    rcases h1 with h1 | h1 <;> rcases h2 with h2 | h2 <;> rw [h1, h2] <;> rfl
  · rw [tab1 n 4 "r" 32 _ _ _ _ (by decide) rfl, it_r _ (md2 _), and_32]
    have h1 : n / 32 % 2 = 0 ∨ n / 32 % 2 = 1 := bit2 _
    rcases h1 with h1 | h1 <;> rw [h1] <;> rfl
  · rw [tab1 n 5 "w" 16 _ _ _ _ (by decide) rfl, it_w _ (md2 _), and_16]
    have h1 : n / 16 % 2 = 0 ∨ n / 16 % 2 = 1 := bit2 _
    rcases h1 with h1 | h1 <;> rw [h1] <;> rfl
  · rw [tab3 n 6 "s" "S" "x" 1032 1024 8 _ _ _ _ _ _ _ _ _ _ (by decide) rfl, it_x _ (m22 _ _), and_1032, and_1024, and_8]
    have h1 : n / 1024 % 2 = 0 ∨ n / 1024 % 2 = 1 := bit2 _
    have h2 : n / 8 % 2 = 0 ∨ n / 8 % 2 = 1 := bit2 _
    rcases h1 with h1 | h1 <;> rcases h2 with h2 | h2 <;> rw [h1, h2] <;> rfl
  · rw [tab1 n 7 "r" 4 _ _ _ _ (by decide) rfl, it_r _ (md2 _), and_4]
    have h1 : n / 4 % 2 = 0 ∨ n / 4 % 2 = 1 := bit2 _
    rcases h1 with h1 | h1 <;> rw [h1] <;> rfl
  · rw [tab1 n 8 "w" 2 _ _ _ _ (by decide) rfl, it_w _ (md2 _), and_2]
    have h1 : n / 2 % 2 = 0 ∨ n / 2 % 2 = 1 := bit2 _
    rcases h1 with h1 | h1 <;> rw [h1] <;> rfl
  · rw [tab3 n 9 "t" "T" "x" 513 512 1 _ _ _ _ _ _ _ _ _ _ (by decide) rfl, it_t _ (m22 _ _), and_513, and_512, and_1]
    have h1 : n / 512 % 2 = 0 ∨ n / 512 % 2 = 1 := bit2 _
    have h2 : n % 2 = 0 ∨ n % 2 = 1 := bit2 _
    rcases h1 with h1 | h1 <;> rcases h2 with h2 | h2 <;> rw [h1, h2] <;> rfl
theorem str_empty (x : Str) : x ++ ("" : Str) = x := by
  show (⟨x.cps ++ #[]⟩ : Str) = x
  simp
theorem str_assoc (x y z : Str) : x ++ y ++ z = x ++ (y ++ z) := by
  show (⟨x.cps ++ y.cps ++ z.cps⟩ : Str) = ⟨x.cps ++ (y.cps ++ z.cps)⟩
  rw [Array.append_assoc]
theorem fm_sign (n : Nat) : fmOf (n : Int) = signsOf (n : Int) := by
  obtain ⟨h1, h2, h3, h4, h5, h6, h7, h8, h9⟩ := tabs9 n
  unfold fmOf Txt.join signsOf
  rw [StrLaws.glued_eq_join]
  show Str.join "" [tabChar (n : Int) 0, tabChar (n : Int) 1, tabChar (n : Int) 2, tabChar (n : Int) 3, tabChar (n : Int) 4, tabChar (n : Int) 5, tabChar (n : Int) 6, tabChar (n : Int) 7, tabChar (n : Int) 8, tabChar (n : Int) 9] = _
  rw [tab0, h1, h2, h3, h4, h5, h6, h7, h8, h9]
  simp only [Str.join, str_empty, str_assoc]
end Mine

end PartB1
section PartB2
open PySem PySem.W PySem.Spec PySem.Calls PyProof.Rows
set_option maxRecDepth 100000
namespace Mine
theorem quietB2 : True := by (w_top off); trivial
/-- codes of a sign and its rank -/
def kC (k : Nat) : Nat := if k = 8 then 45 else if k = 6 then 98 else if k = 2 then 99 else if k = 4 then 100 else if k = 10 then 108 else if k = 1 then 112 else if k = 12 then 115 else 63
def kR (k : Nat) : Nat := if k = 8 then 0 else if k = 6 then 2 else if k = 2 then 3 else if k = 4 then 4 else if k = 10 then 5 else if k = 1 then 6 else if k = 12 then 7 else 1
def xC (i : Nat) : Nat := if i = 3 then 115 else if i = 2 then 83 else if i = 1 then 120 else 45
def tC (i : Nat) : Nat := if i = 3 then 116 else if i = 2 then 84 else if i = 1 then 120 else 45
def xR (i : Nat) : Nat := if i = 3 then 2 else if i = 2 then 1 else if i = 1 then 3 else 0
theorem kC_of : ∀ k : Nat, k < 16 → (kindOf (k : Int)).cps = #[kC k] ∧ Txt.find "-?bcdlps" (kindOf (k : Int)) = (kR k : Int) := by decide +kernel
theorem kC_ord : ∀ a : Nat, a < 16 → ∀ b : Nat, b < 16 → (kC a < kC b ↔ kR a < kR b) ∧ (kC a = kC b ↔ kR a = kR b) ∧ kR a < 8 ∧ kC a < 200 := by decide +kernel
theorem xC_ord : ∀ a : Nat, a < 4 → ∀ b : Nat, b < 4 → (xC a < xC b ↔ xR a < xR b) ∧ (xC a = xC b ↔ xR a = xR b) ∧ xR a < 4 ∧ xC a < 200 := by decide +kernel
theorem tC_ord : ∀ a : Nat, a < 4 → ∀ b : Nat, b < 4 → (tC a < tC b ↔ xR a < xR b) ∧ (tC a = tC b ↔ xR a = xR b) ∧ xR a < 4 ∧ tC a < 200 := by decide +kernel
theorem rC_of : ∀ i : Nat, i < 2 → (Txt.item "-r" (i : Int)).cps = #[45 + 69 * i] := by decide +kernel
theorem wC_of : ∀ i : Nat, i < 2 → (Txt.item "-w" (i : Int)).cps = #[45 + 74 * i] := by decide +kernel
theorem xC_of : ∀ i : Nat, i < 4 → (Txt.item "-xSs" (i : Int)).cps = #[xC i] := by decide +kernel
theorem tC_of : ∀ i : Nat, i < 4 → (Txt.item "-xTt" (i : Int)).cps = #[tC i] := by decide +kernel
def codes (n : Nat) : List Nat := [kC (n / 4096 % 16), 45 + 69 * (n / 256 % 2), 45 + 74 * (n / 128 % 2), xC (n / 2048 % 2 * 2 + n / 64 % 2), 45 + 69 * (n / 32 % 2), 45 + 74 * (n / 16 % 2), xC (n / 1024 % 2 * 2 + n / 8 % 2), 45 + 69 * (n / 4 % 2), 45 + 74 * (n / 2 % 2), tC (n / 512 % 2 * 2 + n % 2)]
def rank (n : Nat) : Nat := ((kR (n / 4096 % 16) * 16 + n / 256 % 2 * 8 + n / 128 % 2 * 4 + xR (n / 2048 % 2 * 2 + n / 64 % 2)) * 16 + n / 32 % 2 * 8 + n / 16 % 2 * 4 + xR (n / 1024 % 2 * 2 + n / 8 % 2)) * 16 + n / 4 % 2 * 8 + n / 2 % 2 * 4 + xR (n / 512 % 2 * 2 + n % 2)
theorem xR_of {s e : Nat} (hs : s < 2) (he : e < 2) : xR (s * 2 + e) = e * 2 + (e + s) % 2 := by
  have h1 : s = 0 ∨ s = 1 := by omega
  have h2 : e = 0 ∨ e = 1 := by omega
  rcases h1 with rfl | rfl <;> rcases h2 with rfl | rfl <;> rfl
theorem str_cps (a b : Str) : (a ++ b).cps = a.cps ++ b.cps := rfl
theorem kind_nat (n : Nat) : kindS (n : Int) = kindOf ((n / 4096 % 16 : Nat) : Int) := by
  unfold kindS
  rw [show (4096 : Int) = ((4096 : Nat) : Int) from rfl, show (16 : Int) = ((16 : Nat) : Int) from rfl, fdN, fmN]
theorem signs_nat (n : Nat) : signsOf (n : Int) = kindOf ((n / 4096 % 16 : Nat) : Int) ++ Txt.item "-r" ((n / 256 % 2 : Nat) : Int) ++ Txt.item "-w" ((n / 128 % 2 : Nat) : Int) ++ Txt.item "-xSs" ((n / 2048 % 2 * 2 + n / 64 % 2 : Nat) : Int) ++ Txt.item "-r" ((n / 32 % 2 : Nat) : Int) ++ Txt.item "-w" ((n / 16 % 2 : Nat) : Int) ++ Txt.item "-xSs" ((n / 1024 % 2 * 2 + n / 8 % 2 : Nat) : Int) ++ Txt.item "-r" ((n / 4 % 2 : Nat) : Int) ++ Txt.item "-w" ((n / 2 % 2 : Nat) : Int) ++ Txt.item "-xTt" ((n / 512 % 2 * 2 + n % 2 : Nat) : Int) := by
  obtain ⟨i1, i2, i3, i4, i5, i6, i7, i8, i9⟩ := idx n
  unfold signsOf
  rw [kind_nat, i1, i2, i3, i4, i5, i6, i7, i8, i9]
theorem signs_codes (n : Nat) : (signsOf (n : Int)).cps.toList = codes n := by
  rw [signs_nat]
  simp only [str_cps]
  rw [(kC_of _ (Nat.mod_lt _ (by decide))).1, rC_of _ (md2 _), wC_of _ (md2 _), xC_of _ (m22 _ _), rC_of _ (md2 _), wC_of _ (md2 _), xC_of _ (m22 _ _), rC_of _ (md2 _), wC_of _ (md2 _), tC_of _ (m22 _ _)]
  rfl
theorem nstep (acc x y : Nat) : (acc : Int) * 16 + ((x : Int).fmod 8).fdiv 2 * 4 + ((x : Int).fmod 8).fmod 2 * 2 + ((x : Int).fmod 8 + (y : Int).fmod 2).fmod 2 = ((acc * 16 + x / 4 % 2 * 8 + x / 2 % 2 * 4 + xR (y % 2 * 2 + x % 2) : Nat) : Int) := by
  have e1 : ((x : Int).fmod 8).fdiv 2 = ((x / 4 % 2 * 2 + x / 2 % 2 : Nat) : Int) := by rw [fm8, fd2, q2]
  have e2 : ((x : Int).fmod 8).fmod 2 = ((x % 2 : Nat) : Int) := by rw [fm8, fm2, p1]
  have e3 : ((x : Int).fmod 8 + (y : Int).fmod 2).fmod 2 = (((x % 2 + y % 2) % 2 : Nat) : Int) := by rw [fm8, fm2, ← Int.natCast_add, fm2, q3]
  rw [e1, e2, e3, xR_of (md2 _) (md2 _)]
  generalize (x % 2 + y % 2) % 2 = z
  generalize x / 4 % 2 = a
  generalize x / 2 % 2 = b
  generalize x % 2 = c
  omega
theorem num_rank (n : Nat) : numOf (n : Int) = (rank n : Int) := by
  unfold numOf rank
  rw [kind_nat, (kC_of _ (Nat.mod_lt _ (by decide))).2]
  rw [(show (n : Int).fdiv 64 = ((n / 64 : Nat) : Int) from fdN n 64), (show (n : Int).fdiv 8 = ((n / 8 : Nat) : Int) from fdN n 8), (show (n : Int).fdiv 1 = ((n / 1 : Nat) : Int) from fdN n 1), (show (n : Int).fdiv 2048 = ((n / 2048 : Nat) : Int) from fdN n 2048), (show (n : Int).fdiv 1024 = ((n / 1024 : Nat) : Int) from fdN n 1024), (show (n : Int).fdiv 512 = ((n / 512 : Nat) : Int) from fdN n 512), Nat.div_one]
  rw [nstep _ (n / 64) (n / 2048), nstep _ (n / 8) (n / 1024), nstep _ n (n / 512), Nat.div_div_eq_div_mul, Nat.div_div_eq_div_mul, Nat.div_div_eq_div_mul, Nat.div_div_eq_div_mul]
theorem lex_step {a b r r' M : Nat} {P : Prop} (hr : r < M) (hr' : r' < M) (h : r < r' ↔ P) : a * M + r < b * M + r' ↔ a < b ∨ a = b ∧ P := by
  rw [← h]
  constructor
  · intro q
    by_cases e : a < b
    · exact .inl e
    · by_cases e2 : a = b
      · subst e2; exact .inr ⟨rfl, by omega⟩
      · have h1 : b + 1 ≤ a := by omega
        have h2 : (b + 1) * M ≤ a * M := Nat.mul_le_mul_right _ h1
        rw [Nat.add_mul, Nat.one_mul] at h2
        omega
  · rintro (e | ⟨rfl, e⟩)
    · have h2 : (a + 1) * M ≤ b * M := Nat.mul_le_mul_right _ e
      rw [Nat.add_mul, Nat.one_mul] at h2
      omega
    · omega
theorem lt_step {a r A M : Nat} (ha : a < A) (hr : r < M) : a * M + r < A * M := by
  have h : (a + 1) * M ≤ A * M := Nat.mul_le_mul_right _ ha
  rw [Nat.add_mul, Nat.one_mul] at h
  exact Nat.lt_of_lt_of_le (Nat.add_lt_add_left hr _) h
theorem ten_sum (a0 a1 a2 a3 a4 a5 a6 a7 a8 a9 : Nat) : ((a0 * 16 + a1 * 8 + a2 * 4 + a3) * 16 + a4 * 8 + a5 * 4 + a6) * 16 + a7 * 8 + a8 * 4 + a9 = a0 * 4096 + (a1 * 2048 + (a2 * 1024 + (a3 * 256 + (a4 * 128 + (a5 * 64 + (a6 * 16 + (a7 * 8 + (a8 * 4 + a9)))))))) := by
  omega
theorem ten_lex {a0 a1 a2 a3 a4 a5 a6 a7 a8 a9 b0 b1 b2 b3 b4 b5 b6 b7 b8 b9 : Nat} (h1 : a1 < 2 ∧ b1 < 2) (h2 : a2 < 2 ∧ b2 < 2) (h3 : a3 < 4 ∧ b3 < 4) (h4 : a4 < 2 ∧ b4 < 2) (h5 : a5 < 2 ∧ b5 < 2) (h6 : a6 < 4 ∧ b6 < 4) (h7 : a7 < 2 ∧ b7 < 2) (h8 : a8 < 2 ∧ b8 < 2) (h9 : a9 < 4 ∧ b9 < 4) :
    ((a0 * 16 + a1 * 8 + a2 * 4 + a3) * 16 + a4 * 8 + a5 * 4 + a6) * 16 + a7 * 8 + a8 * 4 + a9 < ((b0 * 16 + b1 * 8 + b2 * 4 + b3) * 16 + b4 * 8 + b5 * 4 + b6) * 16 + b7 * 8 + b8 * 4 + b9 ↔
      a0 < b0 ∨ a0 = b0 ∧ (a1 < b1 ∨ a1 = b1 ∧ (a2 < b2 ∨ a2 = b2 ∧ (a3 < b3 ∨ a3 = b3 ∧ (a4 < b4 ∨ a4 = b4 ∧ (a5 < b5 ∨ a5 = b5 ∧ (a6 < b6 ∨ a6 = b6 ∧ (a7 < b7 ∨ a7 = b7 ∧ (a8 < b8 ∨ a8 = b8 ∧ a9 < b9)))))))) := by
  have t8 := lex_step (a := a8) (b := b8) (M := 4) h9.1 h9.2 Iff.rfl
  have u8 := lt_step h8.1 h9.1
  have v8 := lt_step h8.2 h9.2
  have t7 := lex_step (a := a7) (b := b7) (M := 8) u8 v8 t8
  have u7 := lt_step h7.1 u8
  have v7 := lt_step h7.2 v8
  have t6 := lex_step (a := a6) (b := b6) (M := 16) u7 v7 t7
  have u6 := lt_step h6.1 u7
  have v6 := lt_step h6.2 v7
  have t5 := lex_step (a := a5) (b := b5) (M := 64) u6 v6 t6
  have u5 := lt_step h5.1 u6
  have v5 := lt_step h5.2 v6
  have t4 := lex_step (a := a4) (b := b4) (M := 128) u5 v5 t5
  have u4 := lt_step h4.1 u5
  have v4 := lt_step h4.2 v5
  have t3 := lex_step (a := a3) (b := b3) (M := 256) u4 v4 t4
  have u3 := lt_step h3.1 u4
  have v3 := lt_step h3.2 v4
  have t2 := lex_step (a := a2) (b := b2) (M := 1024) u3 v3 t3
  have u2 := lt_step h2.1 u3
  have v2 := lt_step h2.2 v3
  have t1 := lex_step (a := a1) (b := b1) (M := 2048) u2 v2 t2
  have u1 := lt_step h1.1 u2
  have v1 := lt_step h1.2 v2
  have t0 := lex_step (a := a0) (b := b0) (M := 4096) u1 v1 t1
  rw [← t0, ten_sum, ten_sum]
theorem md16 (x : Nat) : x % 16 < 16 := Nat.mod_lt _ (by decide)
theorem codes_lt (n m : Nat) : codes n < codes m ↔ rank n < rank m := by
  have k := kC_ord (n / 4096 % 16) (md16 _) (m / 4096 % 16) (md16 _)
  have x3 := xC_ord (n / 2048 % 2 * 2 + n / 64 % 2) (m22 _ _) (m / 2048 % 2 * 2 + m / 64 % 2) (m22 _ _)
  have x6 := xC_ord (n / 1024 % 2 * 2 + n / 8 % 2) (m22 _ _) (m / 1024 % 2 * 2 + m / 8 % 2) (m22 _ _)
  have x9 := tC_ord (n / 512 % 2 * 2 + n % 2) (m22 _ _) (m / 512 % 2 * 2 + m % 2) (m22 _ _)
  have x3' := xC_ord (m / 2048 % 2 * 2 + m / 64 % 2) (m22 _ _) (m / 2048 % 2 * 2 + m / 64 % 2) (m22 _ _)
  have x6' := xC_ord (m / 1024 % 2 * 2 + m / 8 % 2) (m22 _ _) (m / 1024 % 2 * 2 + m / 8 % 2) (m22 _ _)
  have x9' := tC_ord (m / 512 % 2 * 2 + m % 2) (m22 _ _) (m / 512 % 2 * 2 + m % 2) (m22 _ _)
  have r1 : ∀ a b : Nat, (45 + 69 * a < 45 + 69 * b ↔ a < b) ∧ (45 + 69 * a = 45 + 69 * b ↔ a = b) := fun a b => ⟨by omega, by omega⟩
  have w1 : ∀ a b : Nat, (45 + 74 * a < 45 + 74 * b ↔ a < b) ∧ (45 + 74 * a = 45 + 74 * b ↔ a = b) := fun a b => ⟨by omega, by omega⟩
  unfold rank codes
  rw [ten_lex ⟨md2 _, md2 _⟩ ⟨md2 _, md2 _⟩ ⟨x3.2.2.1, x3'.2.2.1⟩ ⟨md2 _, md2 _⟩ ⟨md2 _, md2 _⟩ ⟨x6.2.2.1, x6'.2.2.1⟩ ⟨md2 _, md2 _⟩ ⟨md2 _, md2 _⟩ ⟨x9.2.2.1, x9'.2.2.1⟩]
  simp only [List.cons_lt_cons_iff, k.1, k.2.1, x3.1, x3.2.1, x6.1, x6.2.1, x9.1, x9.2.1, (r1 _ _).1, (r1 _ _).2, (w1 _ _).1, (w1 _ _).2, List.not_lt_nil, and_false, or_false]
theorem codes_eq {n m : Nat} : codes n = codes m ↔ rank n = rank m := by
  constructor
  · intro e
    have h1 : ¬ rank n < rank m := fun q => absurd ((codes_lt n m).mpr q) (by rw [e]; exact List.lt_irrefl _)
    have h2 : ¬ rank m < rank n := fun q => absurd ((codes_lt m n).mpr q) (by rw [e]; exact List.lt_irrefl _)
    omega
  · intro e
    exact List.le_antisymm (fun q => absurd ((codes_lt m n).mp q) (by omega)) (fun q => absurd ((codes_lt n m).mp q) (by omega))
theorem rLt (x : Nat) : 45 + 69 * (x % 2) < 1114112 := by omega
theorem wLt (x : Nat) : 45 + 74 * (x % 2) < 1114112 := by omega
theorem codes_ok (n : Nat) : ∀ c ∈ codes n, c < 1114112 := by
  have k := kC_ord (n / 4096 % 16) (md16 _) (n / 4096 % 16) (md16 _)
  have x3 := xC_ord (n / 2048 % 2 * 2 + n / 64 % 2) (m22 _ _) (n / 2048 % 2 * 2 + n / 64 % 2) (m22 _ _)
  have x6 := xC_ord (n / 1024 % 2 * 2 + n / 8 % 2) (m22 _ _) (n / 1024 % 2 * 2 + n / 8 % 2) (m22 _ _)
  have x9 := tC_ord (n / 512 % 2 * 2 + n % 2) (m22 _ _) (n / 512 % 2 * 2 + n % 2) (m22 _ _)
  unfold codes
  simp only [List.forall_mem_cons, List.not_mem_nil, false_imp_iff, implies_true, and_true]
  have c2 : ∀ {c : Nat}, c < 200 → c < 1114112 := fun h => Nat.lt_trans h (by decide)
  exact ⟨c2 k.2.2.2, rLt _, wLt _, c2 x3.2.2.2, rLt _, wLt _, c2 x6.2.2.2, rLt _, wLt _, c2 x9.2.2.2⟩
end Mine

end PartB2
section PartP0
open PySem PySem.W PySem.Spec PySem.Calls PyProof.Rows
set_option maxRecDepth 100000
namespace Mine
theorem quietP0 : True := by (w_top off); trivial
theorem nat_of {x : Int} (h : 0 ≤ x) : ∃ n : Nat, x = (n : Int) := ⟨x.toNat, (Int.toNat_of_nonneg h).symm⟩
theorem signs_ok {ws : List Int} (hin : ∀ x ∈ ws, 0 ≤ x ∧ x < 4294967296) : ∀ y ∈ ws.map signsOf, PyData.strOk y = true := by
  intro y hy
  obtain ⟨x, hx, rfl⟩ := List.mem_map.mp hy
  obtain ⟨n, rfl⟩ := nat_of (hin x hx).1
  unfold PyData.strOk
  rw [← Array.all_toList, signs_codes, List.all_eq_true]
  intro c hc
  exact decide_eq_true (codes_ok n c hc)
theorem fm_signs {ws : List Int} (hin : ∀ x ∈ ws, 0 ≤ x ∧ x < 4294967296) : ws.map fmOf = ws.map signsOf := by
  refine List.map_congr_left fun x hx => ?_
  obtain ⟨n, rfl⟩ := nat_of (hin x hx).1
  exact fm_sign n
theorem fm_ok {ws : List Int} (hin : ∀ x ∈ ws, 0 ≤ x ∧ x < 4294967296) : ∀ y ∈ ws.map fmOf, PyData.strOk y = true := by
  rw [fm_signs hin]
  exact signs_ok hin
theorem cmp3_small (x y : Str) : ¬ 10 ^ 4300 ≤ (cmp3 x y).natAbs := by
  have h1 : (cmp3 x y).natAbs ≤ 1 := by
    unfold cmp3
    cases decide (y.cps.toList < x.cps.toList) <;> cases decide (x.cps.toList < y.cps.toList) <;> decide
  have h2 : 1 < 10 ^ 4300 := Nat.one_lt_pow (by decide) (by decide)
  exact Nat.not_le_of_lt (Nat.lt_of_le_of_lt h1 h2)
theorem cmp_rank (n m : Nat) : (rank n < rank m → cmp3 (signsOf (n : Int)) (signsOf (m : Int)) = -1) ∧ (rank n = rank m → cmp3 (signsOf (n : Int)) (signsOf (m : Int)) = 0) ∧ (rank m < rank n → cmp3 (signsOf (n : Int)) (signsOf (m : Int)) = 1) := by
  unfold cmp3
  rw [signs_codes, signs_codes]
  refine ⟨fun h => ?_, fun h => ?_, fun h => ?_⟩
  · rw [decide_eq_true ((codes_lt n m).mpr h), decide_eq_false (fun q => absurd ((codes_lt m n).mp q) (by omega))]; rfl
  · rw [decide_eq_false (fun q => absurd ((codes_lt n m).mp q) (by omega)), decide_eq_false (fun q => absurd ((codes_lt m n).mp q) (by omega))]; rfl
  · rw [decide_eq_true ((codes_lt m n).mpr h), decide_eq_false (fun q => absurd ((codes_lt n m).mp q) (by omega))]; rfl
theorem map_at {α β : Type} {f : α → β} {l : List α} {i : Nat} {d : β} (hi : i < l.length) : (l.map f).getD i d = f l[i] := by
  rw [List.getD_eq_getElem?_getD, List.getElem?_map, List.getElem?_eq_getElem hi]; rfl
theorem word_at {ws : List Int} (hin : ∀ x ∈ ws, 0 ≤ x ∧ x < 4294967296) {i : Nat} (hi : i < ws.length) : ∃ n : Nat, (∀ d, (ws.map numOf).getD i d = (rank n : Int)) ∧ ∀ d, (ws.map signsOf).getD i d = signsOf (n : Int) := by
  obtain ⟨n, hn⟩ := nat_of (hin _ (List.getElem_mem hi)).1
  exact ⟨n, fun d => by rw [map_at hi, hn, num_rank], fun d => by rw [map_at hi, hn]⟩
theorem due_cmp {ws : List Int} (hin : ∀ x ∈ ws, 0 ≤ x ∧ x < 4294967296) {i j : Nat} (hi : i < ws.length) (hj : j < ws.length) :
    ((List.map numOf ws).getD (Int.toNat (i : Int)) 0 < (List.map numOf ws).getD (Int.toNat (j : Int)) 0 → cmp3 ((List.map signsOf ws).getD (Int.toNat (i : Int)) Str.empty) ((List.map signsOf ws).getD (Int.toNat (j : Int)) Str.empty) = -1) ∧
    ((List.map numOf ws).getD (Int.toNat (i : Int)) 0 = (List.map numOf ws).getD (Int.toNat (j : Int)) 0 → cmp3 ((List.map signsOf ws).getD (Int.toNat (i : Int)) Str.empty) ((List.map signsOf ws).getD (Int.toNat (j : Int)) Str.empty) = 0) ∧
    (¬ (List.map numOf ws).getD (Int.toNat (i : Int)) 0 < (List.map numOf ws).getD (Int.toNat (j : Int)) 0 → (List.map numOf ws).getD (Int.toNat (i : Int)) 0 ≠ (List.map numOf ws).getD (Int.toNat (j : Int)) 0 → cmp3 ((List.map signsOf ws).getD (Int.toNat (i : Int)) Str.empty) ((List.map signsOf ws).getD (Int.toNat (j : Int)) Str.empty) = 1) := by
  obtain ⟨n, hn1, hn2⟩ := word_at hin hi
  obtain ⟨m, hm1, hm2⟩ := word_at hin hj
  rw [Int.toNat_natCast, Int.toNat_natCast, hn1, hm1, hn2, hm2]
  obtain ⟨c1, c2, c3⟩ := cmp_rank n m
  exact ⟨fun h => c1 (by omega), fun h => c2 (by omega), fun h1 h2 => c3 (by omega)⟩
theorem words_len2 (sc : List Int) : 2 ≤ (wordsOf sc).length := by
  unfold wordsOf
  rw [List.length_append]
  simp only [List.length_cons, List.length_nil]
  omega
def hp' (ws : List Int) : List Nat := hp (ltS (sgOf ws)) ws.length
theorem ints_map (ks : List Nat) (tr : Nat → Tok) : IntsAre (ks.map fun (k : Nat) => Value.int (k : Int) (tr k)) (ks.map fun (k : Nat) => (k : Int)) := by
  induction ks with
  | nil => exact .nil
  | cons k ks ih => exact .cons _ _ ih
theorem str_ext {a b : Str} (h : a.cps.toList = b.cps.toList) : a = b := by
  cases a; cases b
  simp only [Str.mk.injEq]
  exact Array.toList_inj.mp h
theorem ltS_sto (sg : Nat → Str) : STO (ltS sg) := by
  constructor
  · intro i; unfold ltS; rw [if_pos rfl]; simp
  · intro i j k h1 h2
    unfold ltS at *
    by_cases e1 : sg i = sg j
    · rw [if_pos e1] at h1
      by_cases e2 : sg j = sg k
      · rw [if_pos e2] at h2
        rw [if_pos (e1.trans e2)]
        simp only [decide_eq_true_eq] at *
        omega
      · rw [if_neg e2] at h2
        rw [e1, if_neg e2]
        exact h2
    · rw [if_neg e1] at h1
      by_cases e2 : sg j = sg k
      · rw [← e2, if_neg e1]
        exact h1
      · rw [if_neg e2] at h2
        have h3 := List.lt_trans (of_decide_eq_true h1) (of_decide_eq_true h2)
        rw [if_neg (fun q => absurd h3 (by rw [q]; exact List.lt_irrefl _))]
        exact decide_eq_true h3
  · intro i j hij
    unfold ltS
    by_cases e : sg i = sg j
    · rw [if_pos e, if_pos e.symm]
      simp only [decide_eq_true_eq]
      omega
    · rw [if_neg e, if_neg (fun q => e q.symm)]
      simp only [decide_eq_true_eq]
      by_cases h1 : (sg i).cps.toList < (sg j).cps.toList
      · exact .inl h1
      · by_cases h2 : (sg j).cps.toList < (sg i).cps.toList
        · exact .inr h2
        · exact absurd (str_ext (List.le_antisymm h2 h1)) e
theorem lt_same {ws : List Int} (hin : ∀ x ∈ ws, 0 ≤ x ∧ x < 4294967296) {i j : Nat} (hi : i < ws.length) (hj : j < ws.length) : ltS (sgOf ws) i j = ltN (nmOf ws) i j := by
  obtain ⟨n, hn1, hn2⟩ := word_at hin hi
  obtain ⟨m, hm1, hm2⟩ := word_at hin hj
  unfold ltS ltN sgOf nmOf
  rw [hn1, hm1, hn2, hm2, signs_codes, signs_codes]
  by_cases e : rank n = rank m
  · have es : signsOf (n : Int) = signsOf (m : Int) := str_ext (by rw [signs_codes, signs_codes]; exact codes_eq.mpr e)
    have e1 : decide ((rank n : Int) < (rank m : Int)) = false := decide_eq_false (by omega)
    have e2 : decide ((rank n : Int) = (rank m : Int)) = true := decide_eq_true (by omega)
    rw [if_pos es, e1, e2, Bool.false_or, Bool.true_and]
  · have es : ¬ signsOf (n : Int) = signsOf (m : Int) := fun q => e (codes_eq.mp (by rw [← signs_codes, ← signs_codes, q]))
    have en : decide ((rank n : Int) = (rank m : Int)) = false := decide_eq_false (by omega)
    rw [if_neg es, en, Bool.false_and, Bool.or_false]
    exact decide_eq_decide.mpr ((codes_lt n m).trans (by omega))
theorem outs_eq {ws : List Int} (hin : ∀ x ∈ ws, 0 ≤ x ∧ x < 4294967296) {p : List Nat} (h : SortOut (ltN (nmOf ws)) ws.length p) : (outs (ltS (sgOf ws)) (hp' ws) ws.length).map (fun (k : Nat) => (k : Int)) = p.map fun (k : Nat) => (k : Int) := by
  have ho := heap_out (ltS_sto (sgOf ws)) ws.length
  have hs : p.Pairwise fun i j => ltS (sgOf ws) i j = true := h.sorted.imp_of_mem fun {i j} hi hj q => by rw [lt_same hin (h.lt i hi) (h.lt j hj)]; exact q
  have := sorted_unique (ltS_sto (sgOf ws)) _ p (ho.perm.trans h.perm.symm) ho.sorted hs
  rw [hp', this]
end Mine

end PartP0
section PartL3
open PySem PySem.W PySem.Spec PySem.Calls PyProof.Rows
set_option maxRecDepth 100000
set_option maxHeartbeats 8000000
namespace Mine
theorem quietL3 : True := by (w_top off); trivial
local macro_rules | `(tactic| walk_at "steps") => `(tactic| repeat' (first | (k_unfold; (try dsimp only)) | (k_end; kc_close) | ((try dsimp only); walk1) | (leave1; (try dsimp only)) | fail "no step"))
local macro_rules | `(tactic| walk_at "step1") => `(tactic| (first | (k_unfold; (try dsimp only)) | (k_end; kc_close) | ((try dsimp only); walk1) | (leave1; (try dsimp only)) | fail "no step"))
local macro_rules | `(tactic| walk_at "con args") => `(tactic| ((case k1 => k_asm); (case k2 => k_asm); (case k3 => k_asm); (case k4 => k_asm); (case k5 => k_asm); (case kK => first | exact rfl | assumption); (case kp => first | trivial | assumption | omega); (case kd => ktr_room); (case ku => ktr_units); (intro t9 h9 tk9 F9 N9; (try dsimp only); (try k_fold))))
local macro_rules | `(tactic| walk_at "call ref") => `(tactic| (k_here; k_dflt (refine' Con.use (cmp_c _ _ _ _) ?k1 ?k2 ?k3 ?k4 ?k5 ?kK ?kp ?kd ?ku ?_); walk_at "con args"))
theorem law_holds : PySem.Challenge.rw_ny0123_01.Holds := hd (by
  k_go0
  (all_goals try k_fold)
  k_steps
  rename Shared => s₁
  rename Below callerA _ _ _ => K0
  rename (hd.heap_39 _).In _ => KX
  rename_i l' _ _ _ _ _ _ _ _ _ _ _ D ys h' tk F N _ hD _ hC
  have hj := CarriedAll.intsOf hC
  have hLl := N.get (List.mem_cons_of_mem _ (List.mem_cons_self ..))
  refine kmk_add_ints (vs := [_, _, _, _, _]) F N ⟨_, hLl, rfl, _, rfl⟩ hD (.cons _ _ (.cons _ _ (.cons _ _ (.cons _ _ (.cons _ _ .nil))))) hj ?_ ?_
  · intro D2 us h2 F2 N2 hlt hus
    obtain ⟨ws, hus, hlen, hlen2, hin⟩ : ∃ ws, IntsAre us ws ∧ ws.length ≤ 9 ∧ 2 ≤ ws.length ∧ ∀ x ∈ ws, 0 ≤ x ∧ x < 4294967296 := ⟨_, hus, words_len _, words_len2 _, words_in _⟩
    dsimp only
    iterate 3 (walk_at "step1")
    rename_i h3 F3 N3
    obtain ⟨vsc, F4⟩ : ∃ v, Fr s₁.heap s₁.heap.objs.size h3 (lwM v (some (.ref D2)) none none none none none) := ⟨_, lw_start F3⟩
    have N4 := fun p (hp : p ∈ [(D2, W.listOf us.toArray 0)]) => N3 p (by rw [List.mem_singleton.mp hp]; exact .head _)
    clear F3 N3
    clear hlt hLl hj hC hD
    have hB := K0
    refine comp_assign (h₀ := s₁.heap) (L := s₁.heap.objs.size) (cl := []) rfl rfl (by decide) rfl (by decide) ?_
    iterate 1 (walk_at "step1")
    refine comp_list (s := { s₁ with heap := h3, toks := _ }) (vs := us) (fun i ys news₁ => news₁ = [(D2, W.listOf us.toArray 0)] ∧ StrsAre ys ((ws.take i).map signsOf)) rfl rfl rfl ⟨_, (N4 _ (.head _)).1, rfl, _, rfl⟩ (N4 _ (.head _)).2.1 (by rw [hus.length]; omega) F4 N4 ⟨rfl, .nil⟩ ?_ ?_
    · dsimp only
      rintro i v ys e news₁ h tk own mC hv ⟨rfl, hys⟩ hyl hap hown hw F₃ N₃ ns₃
      obtain ⟨x, t, rfl, hx⟩ := ints_at hus hv
      iterate 5 (walk_at "step1")
      refine wpAny_Name (wpAny_loadName_local rfl rfl ns₃ (if_pos rfl) ?_) (by decide)
      iterate 1 (walk_at "step1")
      obtain ⟨oC, hoC, N4'⟩ := comp_led F4 (Nat.le_add_right _ 2) ns₃ N₃
      refine ⟨fun a o e => F₃.keep _ _ (KX a o e), ?_⟩
      k_dflt (refine' Con.use (signs_c x t) ?k1 ?k2 ?k3 ?k4 ?k5 ?kK ?kp ?kd ?ku ?_)
      case k1 => k_asm
      case k2 => k_asm
      case k3 => k_asm
      case k4 => exact N4'
      case k5 => k_asm
      case kK => first | exact rfl | assumption
      case kp => trivial
      case kd => ktr_room
      case ku => ktr_units
      intro t9 h9 tk9 F9 N9
      dsimp only
      refine cstep_same hoC ns₃ F9 N9 (fun p hp => ⟨(hap p hp).2.1, (hap p hp).2.2, fun q => (hap p hp).1 (List.mem_singleton.mp q)⟩) ⟨rfl, ?_⟩
      rw [take_snoc _ hx]
      exact strs_snoc hys
    · dsimp only
      rintro ys e news' h tk mC ⟨rfl, hys⟩ hyl F₃ N₃ hap ns₃
      rw [List.take_of_length_le (by rw [hus.length]; exact Nat.le_refl _)] at hys
      refine comp_keep (s := { s₁ with heap := h, toks := tk }) rfl rfl rfl F₃ N₃ hap (Nat.ne_of_lt (Nat.lt_succ_self _)) (Nat.ne_of_gt (Nat.lt_of_lt_of_le F4.ns.lt (Nat.le_add_right _ 2))) (ktu_new F4 (Nat.le_add_right _ 2)) ns₃ (fun h5 tk5 F5 N5 => ?_)
      have F6 := lw_signs F5
      generalize hS : h3.objs.size + 1 = S at N5 F6
      clear hap F5 N₃ F₃ ns₃ N4 F4
      iterate 3 (walk_at "step1")
      have hS1 : S < h5.objs.size := Heap.lt_size (N5 _ (.head _)).1
      refine comp_eval (h₀ := s₁.heap) (L := s₁.heap.objs.size) (cl := []) rfl (by decide) rfl (by decide) ?_
      iterate 1 (walk_at "step1")
      refine comp_list (s := { s₁ with heap := h5, toks := tk5 }) (vs := us) (fun i zs news₁ => news₁ = [(S, W.listOf ys.toArray e), (D2, W.listOf us.toArray 0)] ∧ StrsAre zs ((ws.take i).map fmOf)) rfl rfl rfl ⟨_, (N5 _ (.tail _ (.head _))).1, rfl, _, rfl⟩ (N5 _ (.tail _ (.head _))).2.1 (by rw [hus.length]; omega) F6 N5 ⟨rfl, .nil⟩ ?_ ?_
      · dsimp only
        rintro i v zs e2 news₁ h tk own mC hv ⟨rfl, hzs⟩ hyl hap hown hw F₃ N₃ ns₃
        obtain ⟨x, t, rfl, hx⟩ := ints_at hus hv
        iterate 5 (walk_at "step1")
        refine wpAny_Name (wpAny_loadName_local rfl rfl ns₃ (if_pos rfl) ?_) (by decide)
        iterate 1 (walk_at "step1")
        obtain ⟨oC, hoC, N4'⟩ := comp_led F6 (Nat.le_add_right _ 2) ns₃ N₃
        refine ⟨fun a o e => F₃.keep _ _ (KX a o e), ?_⟩
        k_dflt (refine' Con.use (filemode_c x t) ?k1 ?k2 ?k3 ?k4 ?k5 ?kK ?kp ?kd ?ku ?_)
        case k1 => k_asm
        case k2 => k_asm
        case k3 => k_asm
        case k4 => exact N4'
        case k5 => k_asm
        case kK => first | exact rfl | assumption
        case kp => trivial
        case kd => ktr_room
        case ku => ktr_units
        intro t9 h9 tk9 F9 N9
        dsimp only
        refine cstep_same hoC ns₃ F9 N9 (fun p hp => ⟨(hap p hp).2.1, (hap p hp).2.2, fun q => (hap p hp).1 (List.mem_singleton.mp q)⟩) ⟨rfl, ?_⟩
        rw [take_snoc _ hx]
        exact strs_snoc hzs
      · dsimp only
        rintro zs e2 news' h tk mC ⟨rfl, hzs⟩ hzl F₃ N₃ hap ns₃
        rw [List.take_of_length_le (by rw [hus.length]; exact Nat.le_refl _)] at hzs
        refine comp_finH F₃ N₃ hap (Nat.ne_of_lt (Nat.lt_succ_self _)) (Nat.ne_of_gt (Nat.lt_of_lt_of_le F6.ns.lt (Nat.le_add_right _ 2))) (ktu_new F6 (Nat.le_add_right _ 2)) ns₃ (fun h7 F7 N7 => ?_)
        clear hap N₃ F₃ ns₃ N5 F6
        iterate 1 (walk_at "step1")
        refine ne_strs ⟨_, (N7 _ (.head _)).1, rfl, _, rfl⟩ ⟨_, (N7 _ (.tail _ (.head _))).1, rfl, _, rfl⟩ hzs hys (fm_ok hin) (signs_ok hin) (by ke_room) ?_
        rw [decide_eq_true (fm_signs hin)]
        have N8 := fun p (hp : p ∈ [(S, W.listOf ys.toArray e), (D2, W.listOf us.toArray 0)]) => N7 p (.tail _ hp)
        clear N7
        iterate 4 (walk_at "step1")
        refine comp_assign (h₀ := s₁.heap) (L := s₁.heap.objs.size) (cl := []) rfl rfl (by decide) rfl (by decide) ?_
        iterate 1 (walk_at "step1")
        refine comp_list (s := { s₁ with heap := h7, toks := _ }) (vs := us) (fun i zs news₁ => news₁ = [(S, W.listOf ys.toArray e), (D2, W.listOf us.toArray 0)] ∧ IntsAre zs ((ws.take i).map numOf)) rfl rfl rfl ⟨_, (N8 _ (.tail _ (.head _))).1, rfl, _, rfl⟩ (N8 _ (.tail _ (.head _))).2.1 (by rw [hus.length]; omega) F7 N8 ⟨rfl, .nil⟩ ?_ ?_
        · dsimp only
          rintro i v zs e2 news₁ h tk own mC hv ⟨rfl, hzs⟩ hyl hap hown hw F₃ N₃ ns₃
          obtain ⟨x, t, rfl, hx⟩ := ints_at hus hv
          iterate 5 (walk_at "step1")
          refine wpAny_Name (wpAny_loadName_local rfl rfl ns₃ (if_pos rfl) ?_) (by decide)
          iterate 1 (walk_at "step1")
          obtain ⟨oC, hoC, N4'⟩ := comp_led F7 (Nat.le_add_right _ 2) ns₃ N₃
          refine ⟨fun a o e => F₃.keep _ _ (KX a o e), ?_⟩
          k_dflt (refine' Con.use (number_c x t) ?k1 ?k2 ?k3 ?k4 ?k5 ?kK ?kp ?kd ?ku ?_)
          case k1 => k_asm
          case k2 => k_asm
          case k3 => k_asm
          case k4 => exact N4'
          case k5 => k_asm
          case kK => first | exact rfl | assumption
          case kp => trivial
          case kd => ktr_room
          case ku => ktr_units
          intro t9 h9 tk9 F9 N9
          dsimp only
          refine cstep_same hoC ns₃ F9 N9 (fun p hp => ⟨(hap p hp).2.1, (hap p hp).2.2, fun q => (hap p hp).1 (List.mem_singleton.mp q)⟩) ⟨rfl, ?_⟩
          rw [take_snoc _ hx]
          exact ints_snoc hzs
        · dsimp only
          rintro ns e3 news' h tk mC ⟨rfl, hns⟩ hnl F₃ N₃ hap ns₃
          rw [List.take_of_length_le (by rw [hus.length]; exact Nat.le_refl _)] at hns
          refine comp_keep (s := { s₁ with heap := h, toks := tk }) rfl rfl rfl F₃ N₃ hap (Nat.ne_of_lt (Nat.lt_succ_self _)) (Nat.ne_of_gt (Nat.lt_of_lt_of_le F7.ns.lt (Nat.le_add_right _ 2))) (ktu_new F7 (Nat.le_add_right _ 2)) ns₃ (fun h8 tk8 F8 N9 => ?_)
          have F9 := lw_numbers F8
          generalize hM : h7.objs.size + 1 = M at N9 F9
          clear hap F8 N₃ F₃ ns₃ N8 F7
          change Fr s₁.heap s₁.heap.objs.size h8 _ at F9
          change News s₁.heap s₁.heap.objs.size h8 _ at N9
          iterate 1 (walk_at "step1")
          refine for_at (h₀ := s₁.heap) ?_
          walk_at "steps"
          rename_i h9 tk9 _ _ _ hr F10 N10 _
          obtain ⟨hsm, hrs⟩ := range9 ws.length (by omega)
          refine for_range (s := { s₁ with heap := h9, toks := tk9 }) (n := ws.length) (fun i m₁ news₁ => ∃ vo vt vd, m₁ = lwM vsc (some (.ref D2)) (some (.ref S)) (some (.ref M)) vo vt vd ∧ news₁ = [(M, W.listOf ns.toArray e3), (S, W.listOf ys.toArray e), (D2, W.listOf us.toArray 0)]) rfl hr hsm hrs F10 N10 ⟨none, none, none, rfl, rfl⟩ ?_ ?_
          · rintro i ti m₁ news₁ h11 tk11 own hi hown0 ⟨vo, vt, vd, rfl, rfl⟩ hap hown F11 N11
            iterate 2 (walk_at "step1")
            rename_i h12 F12 N12
            have F13 := lw_one F12
            have N13 : News s₁.heap s₁.heap.objs.size h12 ((M, W.listOf ns.toArray e3) :: (S, W.listOf ys.toArray e) :: (D2, W.listOf us.toArray 0) :: ([] ++ own)) := news_back N12
            rw [List.nil_append] at N13
            clear F12 N12
            iterate 1 (walk_at "step1")
            refine for_at (h₀ := s₁.heap) ?_
            walk_at "steps"
            rename_i h14 tk14 _ _ _ hr2 F14 N14 _
            refine for_range (s := { s₁ with heap := h14, toks := tk14 }) (n := ws.length) (fun j m₁ news₁ => ∃ vt vd, m₁ = lwM vsc (some (.ref D2)) (some (.ref S)) (some (.ref M)) (some (.int (i : Int) ti)) vt vd ∧ news₁ = (M, W.listOf ns.toArray e3) :: (S, W.listOf ys.toArray e) :: (D2, W.listOf us.toArray 0) :: own) rfl hr2 hsm hrs F14 N14 ⟨vt, vd, rfl, rfl⟩ ?_ ?_
            · rintro j tj m₁ news₁ h15 tk15 own2 hj hown2 ⟨vt2, vd2, rfl, rfl⟩ hap2 hown2' F15 N15
              iterate 2 (walk_at "step1")
              rename_i h16 F16 N16
              have F17 := lw_other F16
              have N17 : News s₁.heap s₁.heap.objs.size h16 ((M, W.listOf ns.toArray e3) :: (S, W.listOf ys.toArray e) :: (D2, W.listOf us.toArray 0) :: (own ++ own2)) := news_back N16
              clear F16 N16
              obtain ⟨hcLt, hcEq, hcGt⟩ := due_cmp hin hi hj
              walk_at "steps"
              all_goals try (rename 10 ^ 4300 ≤ _ => hbig; exact absurd hbig (cmp3_small _ _))
              · rename_i hb
                rw [hcLt (by assumption)] at hb
                simp at hb
              · exact ⟨_, _, _, _, rfl, lw_due (by assumption), news_turn (by assumption), fun p hp hq => hap2 p hp (List.mem_singleton.mp hq), _, _, rfl, rfl⟩
              · rename_i hb
                rw [hcEq (by assumption)] at hb
                simp at hb
              · exact ⟨_, _, _, _, rfl, lw_due (by assumption), news_turn (by assumption), fun p hp hq => hap2 p hp (List.mem_singleton.mp hq), _, _, rfl, rfl⟩
              · rename_i hb
                rw [hcGt (by assumption) (by assumption)] at hb
                simp at hb
              · exact ⟨_, _, _, _, rfl, lw_due (by assumption), news_turn (by assumption), fun p hp hq => hap2 p hp (List.mem_singleton.mp hq), _, _, rfl, rfl⟩
            · rintro m' news' h18 tk18 ⟨vt2, vd2, rfl, rfl⟩ F18 N18
              walk_at "steps"
              refine ⟨_, _, _, _, rfl, F18, news_turn (own := []) N18, fun p hp hq => hap p hp (List.mem_singleton.mp hq), _, _, _, rfl, rfl⟩
          · rintro m' news' h20 tk20 ⟨vo, vt, vd, rfl, rfl⟩ F20 N20
            change Fr s₁.heap s₁.heap.objs.size h20 _ at F20
            change News s₁.heap s₁.heap.objs.size h20 _ at N20
            iterate 11 (walk_at "step1")
            obtain ⟨ts, hts⟩ := strs_fun hys
            have hlS : h20.IsList S ys.toArray := ⟨_, (N20 _ (.tail _ (.head _))).1, rfl, _, rfl⟩
            k_dflt (refine' taken_c (vs := ys) (sg := sgOf ws) (ts := ts) (n := ws.length) _ _ _ _ _ _ _ _ _ _ _ _ _ _ _ _ _ ?k1 ?k2 ?k3 ?k4 ?k5 ?kK ?kd ?ku hlS ?k6 ?k7 ?k8 ?_)
            case k1 => k_asm
            case k2 => k_asm
            case k3 => k_asm
            case k4 => exact N20
            case k5 => k_asm
            case kK => first | exact rfl | assumption
            case kd => ktr_room
            case ku => ktr_units
            case k6 => exact fun i hi => sg_at hts hi
            case k7 => rw [strs_len hys, List.length_map]
            case k8 => omega
            intro tr er h21 tk21 R F21 N21 hR
            dsimp only
            clear N20 F20
            refine comp_eval (h₀ := s₁.heap) (L := s₁.heap.objs.size) (cl := []) rfl (by decide) rfl (by decide) ?_
            iterate 4 (walk_at "step1")
            refine comp_eval (h₀ := s₁.heap) (L := s₁.heap.objs.size) (cl := []) rfl (by decide) rfl (by decide) ?_
            iterate 6 (walk_at "step1")
            obtain ⟨bs, hbs⟩ : ∃ bs : List (Addr × Obj), bs = (R, W.listOf ((outs (ltS (sgOf ws)) (hp (ltS (sgOf ws)) ws.length) ws.length).map fun (k : Nat) => Value.int (k : Int) (tr k)).toArray er) :: [(M, W.listOf ns.toArray e3), (S, W.listOf ys.toArray e), (D2, W.listOf us.toArray 0)] := ⟨_, rfl⟩
            have hMl : h21.IsList M ns.toArray := ⟨_, (N21 _ (.tail _ (.head _))).1, rfl, _, rfl⟩
            have hML : M ≠ s₁.heap.objs.size := (N21 _ (.tail _ (.head _))).2.1
            have hnl' : ns.length = ws.length := by rw [hns.length, List.length_map]
            rw [← hbs] at N21
            refine comp_enumA (s := { s₁ with heap := h21, toks := tk21 }) (vs := ns) (fun i zs news₁ => ∃ (ad : Nat → Addr) (tn ti : Nat → Tok) (tups : List (Addr × Obj)), news₁ = tups ++ bs ∧ zs = (List.range i).map (fun k => Value.ref (ad k)) ∧ ∀ k, k < i → (ad k, tupObj (nmOf ws k) (tn k) k (ti k)) ∈ tups) rfl hMl hML (by omega) F21 N21 ⟨fun _ => 0, fun _ => 0, fun _ => 0, [], rfl, rfl, fun k hk => absurd hk (Nat.not_lt_zero _)⟩ ?_ ?_
            · dsimp only
              rintro i v T t zs e4 news₁ h22 tk22 own mC hv hT ⟨ad, tn, ti, tups, rfl, hzs, had⟩ hzl hap hown F22 N22 hapC hw ns22
              obtain ⟨y, ty, rfl, hy⟩ := ints_at hns hv
              refine comp_pair rfl hT rfl rfl rfl (Nat.ne_of_gt (Nat.lt_of_lt_of_le F21.ns.lt (Nat.le_add_right _ 3))) (ktu_new F21 (Nat.le_add_right _ 3)) F22 N22 hapC ns22 (fun h23 tk23 F23 N23 ns23 => ?_)
              iterate 2 (walk_at "step1")
              refine wpAny_Name (wpAny_loadName_local rfl rfl ns23 (if_pos rfl) ?_) (by decide)
              iterate 1 (walk_at "step1")
              refine wpAny_Name (wpAny_loadName_local rfl rfl ns23 ((if_neg (by decide)).trans (if_pos rfl)) ?_) (by decide)
              iterate 1 (walk_at "step1")
              obtain ⟨oC, hoC, N24⟩ := comp_led F21 (Nat.le_add_right _ 3) ns23 N23
              refine newTuple_N F23 N24 (fun h25 F25 N25 => ?_) (by rw [sizeLine_eq]; exact Nat.le_of_ble_eq_true rfl)
              dsimp only at N25 ⊢
              have hltC : h21.objs.size + 3 < h23.objs.size := Heap.lt_size (N24 _ (.head _)).1
              generalize hA : h23.objs.size = AA at N25 hltC ⊢
              have hyn : nmOf ws i = y := by unfold nmOf; rw [List.getD_eq_getElem?_getD, hy]; rfl
              refine cstep_gen (news₂ := ((AA, tupObj y ty i t) :: tups) ++ bs) hoC ns23 F25 N25 (.tail _ (.head _)) (fun p hp => ?_) (fun p hp => ?_) ⟨fun k => if k = i then AA else ad k, fun k => if k = i then ty else tn k, fun k => if k = i then t else ti k, (AA, tupObj y ty i t) :: tups, rfl, ?_, fun k hk => ?_⟩
              · rcases List.mem_cons.mp hp with rfl | hp
                · exact .tail _ (.tail _ (.head _))
                · rcases List.mem_append.mp hp with hp | hp
                  · exact .tail _ (.tail _ (.tail _ (List.mem_append_left _ hp)))
                  · rcases List.mem_cons.mp hp with rfl | hp
                    · exact .head _
                    · exact .tail _ (.tail _ (.tail _ (List.mem_append_right _ hp)))
              · rcases List.mem_cons.mp hp with rfl | hp
                · have h3 : h21.objs.size + 3 < AA := hltC
                  refine ⟨fun q => ?_, fun q => ?_, fun q => ?_⟩
                  · exact absurd h3 (by rw [show AA = h21.objs.size + 2 from q]; exact Nat.not_lt.mpr (Nat.le_succ _))
                  · exact absurd h3 (by rw [show AA = h21.objs.size + 3 from q]; exact Nat.lt_irrefl _)
                  · have q' : AA = h21.objs.size + 1 ∨ AA = h21.objs.size := by simpa using q
                    rcases q' with q | q
                    · exact absurd h3 (by rw [q]; exact Nat.not_lt.mpr (Nat.le_add_right _ 2))
                    · exact absurd h3 (by rw [q]; exact Nat.not_lt.mpr (Nat.le_add_right _ 3))
                · have := hap p hp
                  refine ⟨this.2.2.1, this.2.2.2, fun q => ?_⟩
                  have q' : p.1 = h21.objs.size + 1 ∨ p.1 = h21.objs.size := by simpa using q
                  rcases q' with q | q
                  · exact this.2.1 q
                  · exact this.1 q
              · rw [hzs]
                exact refs_snoc i
              · dsimp only
                by_cases q : k = i
                · subst q
                  rw [if_pos rfl, if_pos rfl, if_pos rfl, hyn]
                  exact .head _
                · rw [if_neg q, if_neg q, if_neg q]
                  exact .tail _ (had k (by omega))
            · dsimp only
              rintro zs e4 news' h26 tk26 mC ⟨ad, tn, ti, tups, rfl, hzs, had⟩ hzl F26 N26 hap ns26
              refine comp_finH F26 N26 hap (Nat.ne_of_lt (Nat.lt_succ_self _)) (Nat.ne_of_gt (Nat.lt_of_lt_of_le F21.ns.lt (Nat.le_add_right _ 3))) (ktu_new F21 (Nat.le_add_right _ 3)) ns26 (fun h27 F27 N27 => ?_)
              iterate 1 (walk_at "step1")
              have hzl2 : h27.IsList (h21.objs.size + 2) ((List.range ws.length).map fun k => Value.ref (ad k)).toArray := ⟨_, (N27 _ (.head _)).1, rfl, _, by rw [hzs, hnl']⟩
              rw [hnl'] at had
              refine sorted_tups (s := { s₁ with heap := h27, toks := tk26 }) (nm := nmOf ws) (P := fun p => SortOut (ltN (nmOf ws)) ws.length p.toList) F27 N27 hzl2 (by omega) (by omega) (fun k hk => .tail _ (List.mem_append_left _ (had k hk))) (sort_ok _ _ (by omega)) (fun p hp k hk => hp.lt k hk) (fun D e5 p h28 hp F28 N28 hlt28 => ?_)
              dsimp only
              have hDl : h28.IsList D (p.toList.map fun k => Value.ref (ad k)).toArray := ⟨_, (N28 _ (.head _)).1, rfl, _, rfl⟩
              have hDL : D ≠ s₁.heap.objs.size := (N28 _ (.head _)).2.1
              have hpl : p.toList.length = ws.length := by rw [hp.perm.length_eq, List.length_range]
              obtain ⟨led, hled⟩ : ∃ led : List (Addr × Obj), led = (D, W.listOf (p.toList.map fun k => Value.ref (ad k)).toArray e5) :: (h21.objs.size + 2, W.listOf zs.toArray e4) :: (tups ++ bs) := ⟨_, rfl⟩
              rw [← hled] at N28
              refine comp_listA (s := { s₁ with heap := h28, toks := tk26 }) (vs := p.toList.map fun k => Value.ref (ad k)) (fun i qs news₁ => news₁ = led ∧ IntsAre qs ((p.toList.take i).map fun (k : Nat) => (k : Int))) rfl hDl hDL (by rw [List.length_map]; omega) F28 N28 ⟨rfl, .nil⟩ ?_ ?_
              · dsimp only
                rintro i v qs e6 news₁ h29 tk29 own mC hv ⟨rfl, hqs⟩ hql hap2 hown hw F29 N29 hapC ns29
                obtain ⟨k, hk, rfl⟩ : ∃ k, p.toList[i]? = some k ∧ v = .ref (ad k) := by
                  rw [List.getElem?_map] at hv
                  cases hq : p.toList[i]? with
                  | none => rw [hq] at hv; cases hv
                  | some k => rw [hq] at hv; exact ⟨k, rfl, (Option.some.inj hv).symm⟩
                have hkn : k < ws.length := hp.lt k (List.mem_of_getElem? hk)
                have hT : h29.IsTuple (ad k) #[.int (nmOf ws k) (tn k), .int (k : Int) (ti k)] := ⟨_, (N29 _ (.tail _ (List.mem_append_right _ (by rw [hled]; exact .tail _ (.tail _ (List.mem_append_left _ (had k hkn))))))).1, rfl, _, rfl⟩
                refine comp_pair rfl hT rfl rfl rfl (Nat.ne_of_gt (Nat.lt_of_lt_of_le F28.ns.lt (Nat.le_add_right _ 2))) (ktu_new F28 (Nat.le_add_right _ 2)) F29 N29 hapC ns29 (fun h30 tk30 F30 N30 ns30 => ?_)
                refine wpAny_Name (wpAny_loadName_local rfl rfl ns30 (if_pos rfl) ?_) (by decide)
                obtain ⟨oC, hoC, N31⟩ := comp_led F28 (Nat.le_add_right _ 2) ns30 N30
                refine cstep_same hoC ns30 F30 N31 (fun p hp => ⟨(hap2 p hp).2.1, (hap2 p hp).2.2, fun q => (hap2 p hp).1 (List.mem_singleton.mp q)⟩) ⟨rfl, ?_⟩
                rw [take_snoc _ hk]
                exact ints_snoc hqs
              · dsimp only
                rintro qs e6 news' h29 tk29 mC ⟨rfl, hqs⟩ hql F29 N29 hap2 ns29
                rw [List.take_of_length_le (by rw [List.length_map]; exact Nat.le_refl _)] at hqs
                refine comp_finH F29 N29 hap2 (Nat.ne_of_lt (Nat.lt_succ_self _)) (Nat.ne_of_gt (Nat.lt_of_lt_of_le F28.ns.lt (Nat.le_add_right _ 2))) (ktu_new F28 (Nat.le_add_right _ 2)) ns29 (fun h31 F31 N31 => ?_)
                have hRl : h31.IsList R ((outs (ltS (sgOf ws)) (hp' ws) ws.length).map fun (k : Nat) => Value.int (k : Int) (tr k)).toArray := ⟨_, (N31 _ (.tail _ (by rw [hled]; exact .tail _ (.tail _ (List.mem_append_right _ (by rw [hbs]; exact .head _)))))).1, rfl, _, rfl⟩
                refine ke_eq_ints hRl ⟨_, (N31 _ (.head _)).1, rfl, _, rfl⟩ (ints_map _ _) hqs (by ke_room) ?_
                rw [decide_eq_true (outs_eq hin hp)]
                walk_at "steps"
  · refine Nat.le_trans (Nat.le_of_eq (List.length_append ..).symm) (Nat.le_trans (words_len _) ?_)
    rw [sizeLine_eq]
    exact Nat.le_of_ble_eq_true rfl)
end Mine

end PartL3
theorem PySem.Challenge.cw_ny0123_01_holds : PySem.Challenge.rw_ny0123_01.Holds :=
  Mine.law_holds
