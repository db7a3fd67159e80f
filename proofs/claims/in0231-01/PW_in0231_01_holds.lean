import PyProof.Rows.All
import Wide.All
import OpenK.AllK
import Wide.FinOn
import Lean
import PySem.Challenge.RW_in0231_01
open PySem PySem.W PyProof.Rows
set_option Elab.async false
set_option linter.all false
set_option maxRecDepth 100000
set_option maxHeartbeats 8000000
namespace Mine
def pick : List Bool → List Stmt → List Stmt
  | true :: bs, s :: r => s :: pick bs r
  | false :: bs, _ :: r => pick bs r
  | _, _ => []
abbrev pw := PySem.Challenge.pw_in0231_01
def view : Program := { pw with main := { pw.main with body := pick [true, false, true, true, false, true, true, false, true, true, false, true, true, false, true, true, true, true, true, true, true] pw.main.body } }
local macro_rules | `(tactic| o_head $H) => `(tactic| (
  refine (fun hb => holds_open (q := view) (loose := [Str.ofString "_twin_re_1", Str.ofString "_special_chars_map"]) (Xt := fun s => xlAt view [] s && recOk (RowW.records (OpenRow.toRowW PySem.Challenge.rw_in0231_01.row)) s) (XP := XL view []) (Yf := Hook.obs $H) (Ya := Hook.val $H) (YP := Hook.says $H) (N := 3662) (And.left hb) (Hook.of $H) (Hook.keeps $H) (fun s e => xl_of s (Bool.and_eq_true_iff.mp e).1) XL.keeps (by rfl) (by rfl) (by rfl) (fun s e => recFacts_of (Bool.and_eq_true_iff.mp e).2) (by rfl) (by first | assumption | decide +kernel) (by decide +kernel) ⟨rfl, rfl, rfl, rfl, rfl, by decide +kernel⟩ ?hw (And.right hb)) ?hc
  rotate_left))
open_top hd for PySem.Challenge.rw_in0231_01
abbrev lse : List Str := [Str.ofString "_twin_re_1", Str.ofString "_special_chars_map"]
abbrev lXt : Shared → Bool := fun s => xlAt view [] s && recOk Challenge.rw_in0231_01.row.records s
noncomputable abbrev HH : Hook := kmHook hd.heap_39 [2, 3, 6, 11, 12, 32, 34, 35, 37, 38, 42, 43, 44, 46, 47, 49, 50, 52, 56, 58, 59, 61, 62, 63, 65, 66, 68, 69,
            70, 72, 73, 75, 76, 77, 79, 80, 82, 83, 84, 86, 87, 89, 90, 91, 94, 95, 96, 99, 100, 101, 103, 104, 106,
            107, 108, 110, 111, 113, 114, 115, 118, 119] (fun _ => by kernel_rfl) [64]
abbrev LP (w : World) : Prop := (openEnds treeTable Challenge.rw_in0231_01.row.prog w 3662).map (fun s => (openSeen view lse (importedModules Challenge.rw_in0231_01.row.prog.main.body) lXt true s, HH.obs s)) = some (openGood view lse, HH.val w)
theorem leftff (w : World) : (openEnds treeTable Challenge.rw_in0231_01.row.prog ((w.withFollow "comprehension-iter-twice" false).withFollow "special-get-raises" false) 3662).map (fun s => (openSeen view lse (importedModules Challenge.rw_in0231_01.row.prog.main.body) lXt true s, HH.obs s)) =
      some (openGood view lse, HH.val ((w.withFollow "comprehension-iter-twice" false).withFollow "special-get-raises" false)) := by kernel_rfl
theorem leftft (w : World) : (openEnds treeTable Challenge.rw_in0231_01.row.prog ((w.withFollow "comprehension-iter-twice" true).withFollow "special-get-raises" false) 3662).map (fun s => (openSeen view lse (importedModules Challenge.rw_in0231_01.row.prog.main.body) lXt true s, HH.obs s)) =
      some (openGood view lse, HH.val ((w.withFollow "comprehension-iter-twice" true).withFollow "special-get-raises" false)) := by kernel_rfl
theorem lefttf (w : World) : (openEnds treeTable Challenge.rw_in0231_01.row.prog ((w.withFollow "comprehension-iter-twice" false).withFollow "special-get-raises" true) 3662).map (fun s => (openSeen view lse (importedModules Challenge.rw_in0231_01.row.prog.main.body) lXt true s, HH.obs s)) =
      some (openGood view lse, HH.val ((w.withFollow "comprehension-iter-twice" false).withFollow "special-get-raises" true)) := by kernel_rfl
theorem lefttt (w : World) : (openEnds treeTable Challenge.rw_in0231_01.row.prog ((w.withFollow "comprehension-iter-twice" true).withFollow "special-get-raises" true) 3662).map (fun s => (openSeen view lse (importedModules Challenge.rw_in0231_01.row.prog.main.body) lXt true s, HH.obs s)) =
      some (openGood view lse, HH.val ((w.withFollow "comprehension-iter-twice" true).withFollow "special-get-raises" true)) := by kernel_rfl
theorem left : LeftO Challenge.rw_in0231_01.row.prog view lse lXt HH.obs HH.val 3662 :=
  byRow2 (P := LP) "special-get-raises" (byRow2 (P := fun w => LP (w.withFollow "special-get-raises" false)) "comprehension-iter-twice" leftff leftft) (byRow2 (P := fun w => LP (w.withFollow "special-get-raises" true)) "comprehension-iter-twice" lefttf lefttt)
end Mine
open PySem.Calls PySem.Spec
namespace Mine
noncomputable abbrev KK : Params → Frag := hd.heap_39

structure Abs (Q Q0 : Flow → Shared → Prop) : Prop where
  le : ∀ f s, Q f s → Q0 f s
structure AbsV (Q Q0 : Value → Shared → Prop) : Prop where
  le : ∀ v s, Q v s → Q0 v s
theorem r_leaf {Q Q0 : Flow → Shared → Prop} {f : Flow} {s : Shared} (h : Abs Q Q0) (k : Q f s) : Q0 f s := h.le f s k
theorem r_leafV {Q Q0 : Value → Shared → Prop} {v : Value} {s : Shared} (h : AbsV Q Q0) (k : Q v s) : Q0 v s := h.le v s k
theorem r_abs {M : Model} {A : Around} {t : Sem Flow} {Q : Flow → Shared → Prop} {E : Value → Shared → Prop} {s : Shared} (k : ∀ Q0, Abs Q Q0 → wpAny M A t Q0 E s) : wpAny M A t Q E s := k Q ⟨fun _ _ x => x⟩
structure Nx (M : Model) (A : Around) (E : Value → Shared → Prop) (rest : List Stmt) (env : Env) (Q Q' : Flow → Shared → Prop) : Prop where
  nx : ∀ s', wpAny M A (execs rest env) Q E s' → Q' .next s'
  br : ∀ s', Q .brk s' → Q' .brk s'
  ct : ∀ s', Q .cont s' → Q' .cont s'
  rt : ∀ v s', Q (.ret v) s' → Q' (.ret v) s'
section
variable {M : Model} {A : Around} {E : Value → Shared → Prop} {rest : List Stmt} {env : Env} {Q Q' : Flow → Shared → Prop} {stm : Stmt} {s : Shared} {v : Value}
theorem r_nx (h : Nx M A E rest env Q Q') (k : wpAny M A (execs rest env) Q E s) : Q' .next s := h.nx _ k
theorem r_nbr (h : Nx M A E rest env Q Q') (k : Q .brk s) : Q' .brk s := h.br _ k
theorem r_nct (h : Nx M A E rest env Q Q') (k : Q .cont s) : Q' .cont s := h.ct _ k
theorem r_nrt (h : Nx M A E rest env Q Q') (k : Q (.ret v) s) : Q' (.ret v) s := h.rt _ _ k
theorem r_cons (k : ∀ Q', Nx M A E rest env Q Q' → wpAny M A (exec stm env) Q' E s) : wpAny M A (execs (stm :: rest) env) Q E s :=
  wpAny_execs_cons (k _ ⟨fun _ x => x, fun _ x => x, fun _ x => x, fun _ _ x => x⟩)
theorem r_one (k : wpAny M A (exec stm env) Q E s) : wpAny M A (execs [stm] env) Q E s :=
  wpAny_execs_cons (wpAny_mono k (fun f s' x => by cases f <;> first | exact x | exact wpAny_execs_nil x) fun _ _ x => x)
end
def tx (l : List Nat) : Str := ⟨l.toArray⟩
def st (s : Shared) (h : Heap) (tk : Nat) : Shared := { s with heap := h, toks := tk }
abbrev NoE : Value → Shared → Prop := fun _ _ => False

structure TopOk (P : Params) (h : Heap) : Prop where
  ex : ∃ g₀ p loose mean mg mb, (KK P).In g₀ ∧ Top p loose mean mg mb g₀ ∧ g₀.get? 64 = none ∧ ∀ b o, g₀.get? b = some o → h.get? b = some o
theorem TopOk.keeps {P : Params} {g h : Heap} (T : TopOk P g) (k : ∀ b o, g.get? b = some o → h.get? b = some o) : TopOk P h :=
  let ⟨g₀, p, loose, mean, mg, mb, a, b, c, d⟩ := T.ex; ⟨g₀, p, loose, mean, mg, mb, a, b, c, fun x o e => k x o (d x o e)⟩
theorem TopOk.X {P : Params} {h : Heap} (T : TopOk P h) : (KK P).In h := let ⟨_, _, _, _, _, _, a, _, _, d⟩ := T.ex; a.keeps d
theorem TopOk.top {P : Params} {h : Heap} (T : TopOk P h) : ∃ p loose mean mg mb, Top p loose mean mg mb h := let ⟨_, p, loose, mean, mg, mb, _, b, _, d⟩ := T.ex; ⟨p, loose, mean, mg, mb, b.keeps d⟩
theorem TopOk.mg {P : Params} {h : Heap} (T : TopOk P h) : ∃ mg, h.Ns mainGlobals mg := let ⟨_, _, _, mg, _, b⟩ := T.top; ⟨mg, b.g⟩
theorem TopOk.mb {P : Params} {h : Heap} (T : TopOk P h) : ∃ mb, h.Ns builtinsNs mb ∧ ∀ x : Str, x ≠ "__name__" → mb x = bootBuiltins x := let ⟨_, _, _, _, mb, b⟩ := T.top; ⟨mb, b.b, b.builtins⟩
theorem TopOk.nl {P : Params} {h : Heap} (T : TopOk P h) : h.NoLimit := let ⟨_, _, _, _, _, b⟩ := T.top; b.nolimit

def lkv : List Str → List (Option Value) → Str → Option Value
  | n :: ns, v :: vs, x => if x = n then v else lkv ns vs x
  | _, _, _ => none
def putv : List Str → List (Option Value) → Str → Value → List (Option Value)
  | n :: ns, v :: vs, x, w => if x = n then some w :: vs else v :: putv ns vs x w
  | _, vs, _, _ => vs
def hasv : List Str → List (Option Value) → Str → Bool
  | n :: ns, _ :: vs, x => if x = n then true else hasv ns vs x
  | _, _, _ => false
theorem lkv_put : ∀ (ns : List Str) (vs : List (Option Value)) (x : Str) (w : Value), hasv ns vs x = true → lkv ns (putv ns vs x w) = fun y => if y = x then some w else lkv ns vs y
  | n :: ns, v :: vs, x, w, h => by
    funext y
    unfold putv
    unfold hasv at h
    by_cases e : x = n
    · subst e
      rw [if_pos rfl]
      unfold lkv
      by_cases q : y = x
      · rw [if_pos q, if_pos q]
      · rw [if_neg q, if_neg q, if_neg q]
    · rw [if_neg e] at h ⊢
      have ih := congrFun (lkv_put ns vs x w h) y
      unfold lkv
      by_cases q : y = x
      · subst q
        rw [if_neg e, if_pos rfl]
        rw [ih, if_pos rfl]
      · rw [if_neg q]
        rw [ih, if_neg q]
  | [], _, _, _, h => by unfold hasv at h; cases h
  | _ :: _, [], _, _, h => by unfold hasv at h; cases h

structure S (P : Params) (g : Heap) (K0 : Addr → Obj → Prop) (L : Addr) (ns : List Str) (vs : List (Option Value)) (mu D : List (Addr × Obj)) (h : Heap) : Prop where
  T : TopOk P g
  fr : Fr g L h (lkv ns vs)
  nw : News g L h (mu ++ D)
  k0 : ∀ b o, K0 b o → g.get? b = some o
  sep : ∀ p ∈ mu, ∀ q ∈ D, p.1 ≠ q.1
  nd : (mu.map (·.1)).Nodup

section
variable {prog : Program} {w : World} {A : Around} {s : Shared} {h : Heap} {tk : Nat} {P : Params} {g : Heap} {K0 : Addr → Obj → Prop} {L : Addr} {ns : List Str} {vs : List (Option Value)} {mu D : List (Addr × Obj)}
  {nm : Str} {sc : Scope} {a : Addr} {cd : Value} {E : Value → Shared → Prop}

theorem S.chg {h' : Heap} (hS : S P g K0 L ns vs mu D h) (F : Fr g L h' (lkv ns vs)) (N : News g L h' (mu ++ D)) : S P g K0 L ns vs mu D h' := ⟨hS.T, F, N, hS.k0, hS.sep, hS.nd⟩

theorem r_ld {x : Str} {pos : Pos} {v : Value} {Q : Value → Shared → Prop} (hS : S P g K0 L ns vs mu D h) (hv : lkv ns vs x = some v) (hk : sc.kind = .function) (hl : (envOf nm sc L a cd).kindOf x = some .local)
    (hd : (x == ("__debug__" : Str)) = false) (k : Q v (st s h tk)) : wpAny (model prog w) A (eval (.Name x pos) (envOf nm sc L a cd)) Q E (st s h tk) := ld hS.fr hv k hk hl hd
theorem r_ldn {x : Str} {v : Value} {Q : Value → Shared → Prop} (hS : S P g K0 L ns vs mu D h) (hv : lkv ns vs x = some v) (hk : sc.kind = .function) (hl : (envOf nm sc L a cd).kindOf x = some .local)
    (k : Q v (st s h tk)) : wpAny (model prog w) A (loadName (envOf nm sc L a cd) x) Q E (st s h tk) := ldn hS.fr hv k hk hl
theorem r_st {x : Str} {v : Value} {Q : Unit → Shared → Prop} (hS : S P g K0 L ns vs mu D h) (hv : hasv ns vs x = true) (hk : sc.kind = .function) (hl : (envOf nm sc L a cd).kindOf x = some .local)
    (k : ∀ h', S P g K0 L ns (putv ns vs x v) mu D h' → Q () (st s h' (tk + 1))) : wpAny (model prog w) A (storeName (envOf nm sc L a cd) x v) Q E (st s h tk) :=
  stN (s := st s h tk) hS.fr hS.nw (fun h' F N => k h' ⟨hS.T, by rw [lkv_put ns vs x v hv]; exact F, N, hS.k0, hS.sep, hS.nd⟩) hk hl

theorem mg_none {K : Frag} {h : Heap} {mg : Str → Option Value} {n : Str} (X : K.In h) (G : h.Ns mainGlobals mg) (e : nsIn K mainGlobals n = some none) : mg n = none := by
  obtain ⟨o, es, ep, ho, hd, _, hf⟩ := G
  unfold nsIn at e
  split at e
  · rename_i c d es' n' sl q
    have := X _ _ q
    rw [ho] at this
    cases this
    cases hd
    split at e
    · cases e
    · rename_i he
      rw [← hf]
      unfold nsFind findBy
      rw [← Array.find?_toList, he]
      rfl
  · cases e
theorem r_ldg {x : Str} {pos : Pos} {v : Value} {Q : Value → Shared → Prop} (hS : S P g K0 L ns vs mu D h) (hv : nsIn (KK P) mainGlobals x = some (some v)) (hk : sc.kind = .function) (hl : (envOf nm sc L a cd).kindOf x = some .globalImplicit)
    (hd : (x == ("__debug__" : Str)) = false) (k : Q v (st s h tk)) : wpAny (model prog w) A (eval (.Name x pos) (envOf nm sc L a cd)) Q E (st s h tk) := by
  obtain ⟨mg, G⟩ := hS.T.mg
  exact ld_global_at hS.fr G (mg_of hS.T.X G hv) k hk hl hd
theorem r_ldb {x : Str} {pos : Pos} {v : Value} {Q : Value → Shared → Prop} (hS : S P g K0 L ns vs mu D h) (hv : nsIn (KK P) mainGlobals x = some none) (hb : bootBuiltins x = some v) (hk : sc.kind = .function) (hl : (envOf nm sc L a cd).kindOf x = some .globalImplicit)
    (hd : (x == ("__debug__" : Str)) = false) (hn : x ≠ ("__name__" : Str)) (k : Q v (st s h tk)) : wpAny (model prog w) A (eval (.Name x pos) (envOf nm sc L a cd)) Q E (st s h tk) := by
  obtain ⟨mg, G⟩ := hS.T.mg
  obtain ⟨mb, B, hB⟩ := hS.T.mb
  have G' := G.keeps hS.fr.keep
  have B' := B.keeps hS.fr.keep
  refine Name_function_global hk hl ?_ (by assumption)
  exact loadGlobal_builtin (s := st s h tk) G' (mg_none hS.T.X G hv) B' ((hB x hn).trans hb) k
end

inductive FL {σ : Type} (s : Shared) (P : Params) (g : Heap) (K0 : Addr → Obj → Prop) (L : Addr) (ns : List Str) (vs1 : σ → List (Option Value)) (mu1 D1 : σ → List (Addr × Obj)) (I1 : σ → Prop) (s₃ : Shared) : Prop
  | mk (x' : σ) (h' : Heap) (tk' : Nat) (e : s₃ = st s h' tk') (hS : S P g K0 L ns (vs1 x') (mu1 x') (D1 x') h') (hI : I1 x') : FL s P g K0 L ns vs1 mu1 D1 I1 s₃
structure Okay (n : Nat) (A : Around) : Prop where
  d : A.depth ≤ n
  u : A.units ≤ 10 * n
  hh : A.handled = none
theorem Okay.deeper {n : Nat} {A : Around} (O : Okay n A) (env : Env) : Okay (n + 1) (A.deeper env) :=
  ⟨Nat.succ_le_succ O.d, by have := O.u; show A.units + 3 ≤ _; omega, O.hh⟩

def Kn (K0 : Addr → Obj → Prop) (D : List (Addr × Obj)) : Addr → Obj → Prop := fun b o => K0 b o ∨ (b, o) ∈ D

def Back (s : Shared) (h : Heap) (R : List (Addr × Obj) → Value → Prop) (v : Value) (s' : Shared) : Prop :=
  ∃ h' tk' D, s' = st s h' tk' ∧ (∀ b o, h.get? b = some o → h'.get? b = some o) ∧ (∀ p ∈ D, h'.get? p.1 = some p.2 ∧ h.get? p.1 = none) ∧ R D v

def Pure (prog : Program) (w : World) (n : Nat) (f : Addr) (args : List Value) (h : Heap) (R : List (Addr × Obj) → Value → Prop) : Prop :=
  ∀ (A : Around) (s : Shared) (tk : Nat), Okay n A → codeAny (model prog w) A (.call (.ref f) ⟨args, []⟩) (fun r s' => ∃ v, r = .ok (.ret v) ∧ Back s h R v s') (st s h tk)

theorem lkv_map (f : Str → Option Value) : ∀ (ns : List Str) (x : Str), lkv ns (ns.map f) x = if x ∈ ns then f x else none
  | [], x => by simp [lkv]
  | n :: ns, x => by
    rw [List.map_cons]
    unfold lkv
    by_cases e : x = n
    · subst e; simp
    · rw [if_neg e, lkv_map f ns x]
      simp [e]
theorem lookup_none_of {binds : List (Str × Value)} {x : Str} (h : ∀ b ∈ binds, b.1 ≠ x) : binds.lookup x = none := by
  induction binds with
  | nil => rfl
  | cons b r ih =>
    obtain ⟨y, v⟩ := b
    have hy : (x == y) = false := beq_eq_false_iff_ne.mpr fun e => h (y, v) (.head _) e.symm
    rw [List.lookup_cons, hy]
    exact ih fun b hb => h b (.tail _ hb)

section
variable {prog : Program} {w : World} {A : Around} {s : Shared} {h : Heap} {tk : Nat} {P : Params} {g : Heap} {K0 : Addr → Obj → Prop} {L : Addr} {ns : List Str} {vs : List (Option Value)} {mu D : List (Addr × Obj)}
  {nm : Str} {sc : Scope} {a : Addr} {cd : Value} {E : Value → Shared → Prop} {n : Nat} {R : List (Addr × Obj) → Value → Prop}

theorem S.kn (hS : S P g K0 L ns vs mu D h) : ∀ b o, Kn K0 D b o → h.get? b = some o := fun b o k => by
  rcases k with k | k
  · exact hS.fr.keep b o (hS.k0 b o k)
  · exact (hS.nw _ (List.mem_append_right _ k)).1

theorem enter {f : Addr} {args : List Value} {name qual : Str} {params : Arguments} {body : List Stmt} {scope : Scope} {dV kV doc pm cdv ct oc : Value} {an od : Option Addr} {osl : Array (Option Value)} {binds : List (Str × Value)}
    (T : TopOk P h) (hk0 : ∀ b o, K0 b o → h.get? b = some o)
    (ho : (KK P).lookup f = some ⟨oc, od, .func (fnOf name qual params body scope dV kV doc pm an cdv ct), osl⟩) (hcd : codeIn (KK P) cdv qual = true) (hn : n < recursionLimit)
    (hbind : bindArgs (fnOf name qual params body scope dV kV doc pm an cdv ct) ⟨args, []⟩ = pure binds) (hloc : (binds.all fun x => decide (scope.names.lookup x.1 = some .local)) = true)
    (hvs : ns.map (fun x => binds.reverse.lookup x) = vs) (hns : (binds.all fun b => ns.contains b.1) = true)
    (hb : ∀ A L s h₁ tk, Okay (n + 1) A → S P h K0 L ns vs [] [] h₁ → ∀ Q0, Abs (fun fl s' => ∃ v, fl = .ret v ∧ Back s h R v s') Q0 →
      wpAny (model prog w) A (execs body (envOf qual scope L f cdv)) Q0 NoE (st s h₁ tk))
    (hco : scope.isCoroutine = false := by rfl) (hgen : scope.isGenerator = false := by rfl) (hk : scope.kind = .function := by rfl) (hcell : ∀ x ∈ scope.names, x.2 ≠ .cell := by decide) :
    Pure prog w n f args h R := by
  intro A s tk O
  have hlk : lkv ns vs = fun x => binds.reverse.lookup x := by
    funext x
    rw [← hvs, lkv_map]
    split
    · rfl
    · rename_i hx
      refine (lookup_none_of fun b hb e => hx ?_).symm
      have := List.all_eq_true.mp hns b (List.mem_reverse.mp hb)
      rw [← e]
      exact List.contains_iff_mem.mp this
  refine codeAny_call_def (s := st s h tk) (fd := fnOf name qual params body scope dV kV doc pm an cdv ct) (body := body) (binds := binds) (Nat.lt_of_le_of_lt O.d hn) (T.X _ _ ho) rfl T.nl (codeRec_of T.X hcd) rfl (BindsTo.of_eq hbind) hcell
    (locs hloc) (fun h₁ hns₁ hk₁ => ?_) hco hgen hk
  have F : Fr h h.objs.size h₁ (lkv ns vs) := ⟨by rw [hlk]; exact hns₁, hk₁, Nat.le_refl _⟩
  refine wpAny_mono (hb _ h.objs.size s h₁ (tk + binds.length) (O.deeper _) ⟨T, F, News.nil, hk0, fun _ hp => (nomatch hp), List.nodup_nil⟩ _ ⟨fun _ _ x => x⟩) (fun fl s' hq => ?_) fun _ _ x => x.elim
  obtain ⟨v, rfl, hB⟩ := hq
  exact ⟨v, rfl, hB⟩

theorem S.back {h' : Heap} {v : Value} (hS : S P h K0 L ns vs mu D h') (hR : R D v) : Back s h R v (st s h' tk) :=
  ⟨h', tk, D, rfl, hS.fr.keep, fun p hp => ⟨(hS.nw p (List.mem_append_right _ hp)).1, (hS.nw p (List.mem_append_right _ hp)).2.2⟩, hR⟩

theorem r_call {f : Addr} {args : List Value} {Q : Value → Shared → Prop} (hS : S P g K0 L ns vs mu D h) (hp : Pure prog w n f args h R) (O : Okay n A)
    (k : ∀ v h' tk' Dn, S P g K0 L ns vs mu (Dn ++ D) h' → R Dn v → Q v (st s h' tk')) : wpAny (model prog w) A (call (.ref f) args) Q E (st s h tk) := by
  refine wpAny_call (codeAny_mono (hp A s tk O) fun r s' hr => ?_)
  obtain ⟨v, rfl, h', tk', Dn, rfl, hk, hD, hR⟩ := hr
  refine k v h' tk' Dn ⟨hS.T, ⟨hS.fr.ns.keeps hk, fun b o e => hk b o (hS.fr.keep b o e), hS.fr.above⟩, fun p hp => ?_, hS.k0, fun p hp q hq => ?_, hS.nd⟩ hR
  · rcases List.mem_append.mp hp with q | q
    · have := hS.nw p (List.mem_append_left _ q)
      exact ⟨hk _ _ this.1, this.2⟩
    · rcases List.mem_append.mp q with q | q
      · obtain ⟨a1, a2⟩ := hD p q
        obtain ⟨oL, _, _, hL, _⟩ := hS.fr.ns
        refine ⟨a1, fun e => ?_, ?_⟩
        · rw [e, hL] at a2; cases a2
        · cases z : g.get? p.1 with
          | none => rfl
          | some o => rw [hS.fr.keep _ _ z] at a2; cases a2
      · have := hS.nw p (List.mem_append_right _ q)
        exact ⟨hk _ _ this.1, this.2⟩
  · rcases List.mem_append.mp hq with z | z
    · intro e
      have a1 := (hS.nw p (List.mem_append_left _ hp)).1
      rw [e, (hD q z).2] at a1; cases a1
    · exact hS.sep p hp q z

theorem r_while {σ : Type} {test : Expr} {body : List Stmt} {pos : Pos} {env : Env} {Q : Flow → Shared → Prop} (vsx : σ → List (Option Value)) (mux Dx : σ → List (Addr × Obj)) (I : σ → Prop) (μ : σ → Nat) (x0 : σ)
    (hS : S P g K0 L ns (vsx x0) (mux x0) (Dx x0) h) (hI : I x0)
    (turn : ∀ x h tk, S P g K0 L ns (vsx x) (mux x) (Dx x) h → I x → ∀ Q1, Abs (fun f s₃ => match f with
        | .next | .cont => FL s P g K0 L ns vsx mux Dx (fun x' => I x' ∧ μ x' < μ x) s₃
        | .brk => Q .next s₃
        | .ret v => Q (.ret v) s₃) Q1 → wpAny (model prog w) A (isTrue test env (eval test env)) (fun b s₂ => if b = true then wpAny (model prog w) A (execs body env) Q1 NoE s₂ else Q .next s₂) NoE (st s h tk)) :
    wpAny (model prog w) A (exec (.While test body [] pos) env) Q E (st s h tk) := by
  refine wpAny_While (codeAny_whileLoop (fun n s' => ∃ x h tk, s' = st s h tk ∧ S P g K0 L ns (vsx x) (mux x) (Dx x) h ∧ I x ∧ μ x = n) ?_ (μ x0) ⟨x0, h, tk, rfl, hS, hI, rfl⟩)
  rintro n s' ⟨x, h₁, tk₁, rfl, hS₁, hI₁, rfl⟩
  refine wpAny_mono (turn x h₁ tk₁ hS₁ hI₁ _ ⟨fun _ _ x => x⟩) (fun b s₂ h₂ => ?_) fun _ _ e => e.elim
  cases b with
  | false => exact wpAny_execs_nil h₂
  | true =>
    refine wpAny_mono h₂ (fun f s₃ h₃ => ?_) fun _ _ e => e.elim
    cases f with
    | next => obtain ⟨x', h', tk', rfl, a, b, c⟩ := h₃; exact ⟨_, c, x', h', tk', rfl, a, b, rfl⟩
    | cont => obtain ⟨x', h', tk', rfl, a, b, c⟩ := h₃; exact ⟨_, c, x', h', tk', rfl, a, b, rfl⟩
    | brk => exact h₃
    | ret v => exact h₃
end
section
variable {prog : Program} {w : World} {A : Around} {s : Shared} {h : Heap} {tk : Nat} {P : Params} {g : Heap} {K0 : Addr → Obj → Prop} {L : Addr} {ns : List Str} {vs : List (Option Value)} {mu D : List (Addr × Obj)}
  {nm : Str} {sc : Scope} {a : Addr} {cd : Value} {E : Value → Shared → Prop} {n : Nat} {env : Env}

theorem tx_length (l : List Nat) : (tx l).length = l.length := by simp [tx, Str.length]
theorem tx_toList (l : List Nat) : (tx l).cps.toList = l := by simp [tx]
theorem tx_append (a b : List Nat) : tx a ++ tx b = tx (a ++ b) := Str.ext' (by simp [tx, Str.cps_append])
theorem tx_inj {a b : List Nat} (h : tx a = tx b) : a = b := by
  have := congrArg (fun x => x.cps.toList) h
  simpa [tx] using this
theorem tx_beq (a b : List Nat) : (tx a == tx b) = decide (a = b) := by
  by_cases h : a = b
  · subst h; simp
  · have : tx a ≠ tx b := fun e => h (tx_inj e)
    simp [h, this]

theorem clamp_hi (l : Option Int) (j : Int) (len : Nat) (h0 : 0 ≤ j) : Builtin.Str.strSliceIndices l (some j) 1 len = Builtin.Str.strSliceIndices l (some (min j len)) 1 len := by
  have a : ¬ (j < 0) := by omega
  have b : ¬ (min j (len : Int) < 0) := by omega
  have c : min (min j (len : Int)) (len : Int) = min j len := by omega
  simp only [Builtin.Str.strSliceIndices, a, b, c, if_false, show ((1 : Int) > 0) from by decide, if_true]
theorem clamp_lo (u : Option Int) (j : Int) (len : Nat) (h0 : 0 ≤ j) : Builtin.Str.strSliceIndices (some j) u 1 len = Builtin.Str.strSliceIndices (some (min j len)) u 1 len := by
  have a : ¬ (j < 0) := by omega
  have b : ¬ (min j (len : Int) < 0) := by omega
  have c : min (min j (len : Int)) (len : Int) = min j len := by omega
  simp only [Builtin.Str.strSliceIndices, a, b, c, if_false, show ((1 : Int) > 0) from by decide, if_true]

theorem slice_ss (l : List Nat) (i j : Int) (h0 : 0 ≤ i) (h1 : i ≤ j) : StrLaws.sliceText (tx l) (some i) (some j) = tx ((l.drop i.toNat).take (j - i).toNat) := by
  have e : StrLaws.sliceText (tx l) (some i) (some j) = StrLaws.sliceText (tx l) (some (min i l.length)) (some (min j l.length)) := by
    unfold StrLaws.sliceText
    rw [clamp_lo _ _ _ h0, clamp_hi _ _ _ (by omega), tx_length]
  rw [e, StrLaws.sliceText_plain (by rw [tx_toList]; omega), tx_toList]
  unfold tx
  congr 2
  by_cases q : i ≤ l.length
  · have e1 : min i (l.length : Int) = i := by omega
    rw [e1]
    by_cases z : j ≤ l.length
    · have e2 : min j (l.length : Int) = j := by omega
      rw [e2]
    · have e2 : min j (l.length : Int) = l.length := by omega
      rw [e2, List.take_of_length_le, List.take_of_length_le] <;> simp <;> omega
  · have e1 : min i (l.length : Int) = l.length := by omega
    have e2 : min j (l.length : Int) = l.length := by omega
    rw [e1, e2, List.drop_eq_nil_of_le (show l.length ≤ ((l.length : Int)).toNat by omega), List.drop_eq_nil_of_le (show l.length ≤ i.toNat by omega)]
    rw [List.take_nil, List.take_nil]
theorem slice_ns (l : List Nat) (j : Int) (h0 : 0 ≤ j) : StrLaws.sliceText (tx l) none (some j) = tx (l.take j.toNat) := by
  have e : StrLaws.sliceText (tx l) none (some j) = StrLaws.sliceText (tx l) (some 0) (some j) := by unfold StrLaws.sliceText; rw [StrLaws.sliceIdx_none_lo]
  rw [e, slice_ss l 0 j (by omega) h0]
  simp
theorem slice_sn_neg (l : List Nat) (i : Int) (h0 : i < 0) (h1 : -(l.length : Int) ≤ i) : StrLaws.sliceText (tx l) (some i) none = tx (l.drop (l.length + i).toNat) := by
  rw [StrLaws.sliceText_from_neg h0 (by rw [tx_length]; exact h1), tx_toList, tx_length]
  unfold tx
  congr 2
  have e : ((i : Int) + (l.length : Nat)).toNat = ((l.length : Int) + i).toNat := by omega
  rw [e, List.take_of_length_le]
  simp; omega

theorem t_len {l : List Nat} {t : Tok} {Q : Value → Shared → Prop} (hl : l.length ≤ 1000000) (k : ∀ t' tk', Q (.int l.length t') (st s h tk')) : wpAny (model prog w) A (call (.builtin "len") [.str (tx l) t]) Q E (st s h tk) := by
  refine P.len_str (by rw [tx_length]; omega) ?_
  rw [tx_length]
  exact k _ _
theorem t_slice_ss {value slice : Expr} {l : List Nat} {t ui uj : Tok} {i j : Int} {Q : Value → Shared → Prop} (hS : S P g K0 L ns vs mu D h) (hl : l.length ≤ 1000000) (h0 : 0 ≤ i) (h1 : i ≤ j)
    (hs : subscripted slice false (.str (tx l) t) (.ref h.objs.size) = operate [.ref h.objs.size, .str (tx l) t] (getItem (.str (tx l) t) (.ref h.objs.size)))
    (ht : ∀ r, letTemporaryGo value (.str (tx l) t) r = pure ())
    (k : ∀ h' t' tk', S P g K0 L ns vs mu D h' → Q (.str (tx ((l.drop i.toNat).take (j - i).toNat)) t') (st s h' tk')) :
    wpAny (model prog w) A (subscriptTail value slice (.str (tx l) t) (.ref h.objs.size)) Q E (st s (h.push { cls := .type "slice", data := .fields #[.int i ui, .int j uj, .none] }) tk) :=
  slice_strN_ss (s := st s h tk) hS.fr hS.nw (fun h' t' k' F N => (show Txt.slice (tx l) (some i) (some j) = _ from slice_ss l i j h0 h1) ▸ k h' t' k' (hS.chg F N)) hs ht (by rw [tx_length, sizeLine_eq]; omega)
theorem t_slice_ns {value slice : Expr} {l : List Nat} {t uj : Tok} {j : Int} {Q : Value → Shared → Prop} (hS : S P g K0 L ns vs mu D h) (hl : l.length ≤ 1000000) (h0 : 0 ≤ j)
    (hs : subscripted slice false (.str (tx l) t) (.ref h.objs.size) = operate [.ref h.objs.size, .str (tx l) t] (getItem (.str (tx l) t) (.ref h.objs.size)))
    (ht : ∀ r, letTemporaryGo value (.str (tx l) t) r = pure ())
    (k : ∀ h' t' tk', S P g K0 L ns vs mu D h' → Q (.str (tx (l.take j.toNat)) t') (st s h' tk')) :
    wpAny (model prog w) A (subscriptTail value slice (.str (tx l) t) (.ref h.objs.size)) Q E (st s (h.push { cls := .type "slice", data := .fields #[.none, .int j uj, .none] }) tk) :=
  slice_strN_ns (s := st s h tk) hS.fr hS.nw (fun h' t' k' F N => (show Txt.slice (tx l) none (some j) = _ from slice_ns l j h0) ▸ k h' t' k' (hS.chg F N)) hs ht (by rw [tx_length, sizeLine_eq]; omega)
theorem t_slice_sn {value slice : Expr} {l : List Nat} {t ui : Tok} {i : Int} {Q : Value → Shared → Prop} (hS : S P g K0 L ns vs mu D h) (hl : l.length ≤ 1000000) (h0 : i < 0) (h1 : -(l.length : Int) ≤ i)
    (hs : subscripted slice false (.str (tx l) t) (.ref h.objs.size) = operate [.ref h.objs.size, .str (tx l) t] (getItem (.str (tx l) t) (.ref h.objs.size)))
    (ht : ∀ r, letTemporaryGo value (.str (tx l) t) r = pure ())
    (k : ∀ h' t' tk', S P g K0 L ns vs mu D h' → Q (.str (tx (l.drop (l.length + i).toNat)) t') (st s h' tk')) :
    wpAny (model prog w) A (subscriptTail value slice (.str (tx l) t) (.ref h.objs.size)) Q E (st s (h.push { cls := .type "slice", data := .fields #[.int i ui, .none, .none] }) tk) :=
  slice_strN_sn (s := st s h tk) hS.fr hS.nw (fun h' t' k' F N => (show Txt.slice (tx l) (some i) none = _ from slice_sn_neg l i h0 h1) ▸ k h' t' k' (hS.chg F N)) hs ht (by rw [tx_length, sizeLine_eq]; omega)
theorem t_item {value slice : Expr} {l : List Nat} {t u : Tok} {i : Int} {Q : Value → Shared → Prop} (h0 : 0 ≤ i) (h1 : i < l.length) (hl : l.length ≤ 1000000)
    (hs : subscripted slice false (.str (tx l) t) (.int i u) = operate [.str (tx l) t, .int i u] (getItem (.str (tx l) t) (.int i u)))
    (ht : ∀ r, letTemporaryGo value (.str (tx l) t) r = pure ())
    (k : ∀ t' tk', Q (.str (tx [l.getD i.toNat 0]) t') (st s h tk')) : wpAny (model prog w) A (subscriptTail value slice (.str (tx l) t) (.int i u)) Q E (st s h tk) := by
  refine item_str (s := st s h tk) (by unfold fitsSsize; simp; omega) (by rw [tx_length]; omega) (by rw [tx_length]; exact h1) (fun _ => ?_) hs ht
  have e : Txt.item (tx l) i = tx [l.getD i.toNat 0] := by
    unfold Txt.item Txt.charAt
    rw [StrLaws.seqIndex_nonneg h0 (by rw [tx_length]; exact h1)]
    have hi : i.toNat < l.length := by omega
    simp [tx, List.getD, hi]
  rw [e]
  exact k _ _
theorem t_add {a b : List Nat} {t u : Tok} {Q : Value → Shared → Prop} (hl : a.length + b.length ≤ 1000000) (k : ∀ t' tk', Q (.str (tx (a ++ b)) t') (st s h tk')) :
    wpAny (model prog w) A (binaryOp .Add (.str (tx a) t) (.str (tx b) u)) Q E (st s h tk) :=
  add_str (s := st s h tk) (fun t' k' => (tx_append a b) ▸ k t' k') (by rw [tx_length, tx_length, sizeLine_eq]; omega)
theorem t_iadd {a b : List Nat} {t u : Tok} {Q : Value → Shared → Prop} (hl : a.length + b.length ≤ 1000000) (k : ∀ t' tk', Q (.str (tx (a ++ b)) t') (st s h tk')) :
    wpAny (model prog w) A (inplaceOp .Add (.str (tx a) t) (.str (tx b) u)) Q E (st s h tk) :=
  iadd_str (s := st s h tk) (fun t' k' => (tx_append a b) ▸ k t' k') (by rw [tx_length, tx_length, sizeLine_eq]; omega)
theorem t_eq {a b : List Nat} {t u : Tok} {Q : Value → Shared → Prop} (k : Q (.bool (decide (a = b))) (st s h tk)) : wpAny (model prog w) A (compareOp .Eq (.str (tx a) t) (.str (tx b) u)) Q E (st s h tk) :=
  eq_str (by rw [tx_beq]; exact k)
theorem t_ne {a b : List Nat} {t u : Tok} {Q : Value → Shared → Prop} (k : Q (.bool (!decide (a = b))) (st s h tk)) : wpAny (model prog w) A (compareOp .NotEq (.str (tx a) t) (.str (tx b) u)) Q E (st s h tk) :=
  ne_str (by
    have e : (tx a != tx b) = !decide (a = b) := by rw [bne, tx_beq]
    first | (rw [e]; exact k) | (rw [tx_beq]; exact k))
theorem t_in1 {a : List Nat} {c : Nat} {t u : Tok} {Q : Value → Shared → Prop} (k : Q (.bool (decide (c ∈ a))) (st s h tk)) : wpAny (model prog w) A (compareOp .In (.str (tx [c]) u) (.str (tx a) t)) Q E (st s h tk) :=
  in_str (by
    have e := StrLaws.found_one (tx a) c
    rw [tx_toList] at e
    show Q (.bool (!(Builtin.Str.occurrences (tx a) ⟨#[c]⟩ 0 (tx a).length 1).isEmpty)) (st s h tk)
    rw [e]; exact k)
theorem t_notin1 {a : List Nat} {c : Nat} {t u : Tok} {Q : Value → Shared → Prop} (k : Q (.bool (!decide (c ∈ a))) (st s h tk)) : wpAny (model prog w) A (compareOp .NotIn (.str (tx [c]) u) (.str (tx a) t)) Q E (st s h tk) :=
  notIn_str (by
    have e := StrLaws.found_one (tx a) c
    rw [tx_toList] at e
    show Q (.bool (!(!(Builtin.Str.occurrences (tx a) ⟨#[c]⟩ 0 (tx a).length 1).isEmpty))) (st s h tk)
    rw [e]; exact k)
theorem t_lit {x : Str} {l : List Nat} {kk : Nat} {pos : Pos} {Q : Value → Shared → Prop} (e : x = tx l) (k : ∀ t tk', Q (.str (tx l) t) (st s h tk')) : wpAny (model prog w) A (eval (.Constant (.str x) kk pos) env) Q E (st s h tk) :=
  Calls.Constant_str (by rw [e]; exact k _ _)
theorem t_int {i : Int} {kk : Nat} {pos : Pos} {Q : Value → Shared → Prop} (k : ∀ t tk', Q (.int i t) (st s h tk')) : wpAny (model prog w) A (eval (.Constant (.int i) kk pos) env) Q E (st s h tk) :=
  wpAny_Constant_int (s := st s h tk) (k _ _)
theorem t_addi {a b : Int} {t u : Tok} {Q : Value → Shared → Prop} (k : ∀ t' tk', Q (.int (a + b) t') (st s h tk')) : wpAny (model prog w) A (binaryOp .Add (.int a t) (.int b u)) Q E (st s h tk) := add_int (s := st s h tk) (k _ _)
theorem t_subi {a b : Int} {t u : Tok} {Q : Value → Shared → Prop} (k : ∀ t' tk', Q (.int (a - b) t') (st s h tk')) : wpAny (model prog w) A (binaryOp .Sub (.int a t) (.int b u)) Q E (st s h tk) := sub_int (s := st s h tk) (k _ _)
theorem t_iaddi {a b : Int} {t u : Tok} {Q : Value → Shared → Prop} (k : ∀ t' tk', Q (.int (a + b) t') (st s h tk')) : wpAny (model prog w) A (inplaceOp .Add (.int a t) (.int b u)) Q E (st s h tk) := iadd_int (s := st s h tk) (k _ _)
theorem t_isubi {a b : Int} {t u : Tok} {Q : Value → Shared → Prop} (k : ∀ t' tk', Q (.int (a - b) t') (st s h tk')) : wpAny (model prog w) A (inplaceOp .Sub (.int a t) (.int b u)) Q E (st s h tk) := isub_int (s := st s h tk) (k _ _)
end
theorem r_if {c : Prop} [Decidable c] {X Y : Prop} (ht : c → X) (hf : ¬ c → Y) : if decide c = true then X else Y := by
  by_cases h : c
  · rw [decide_eq_true h, if_pos rfl]; exact ht h
  · rw [decide_eq_false h, if_neg Bool.false_ne_true]; exact hf h
theorem r_ifn {c : Prop} [Decidable c] {X Y : Prop} (ht : ¬ c → X) (hf : c → Y) : if (!decide c) = true then X else Y := by
  by_cases h : c
  · rw [decide_eq_true h]; exact hf h
  · rw [decide_eq_false h]; exact ht h

theorem lit_0 : Str.ofString "" = tx [] := by decide
theorem lit_1 : Str.ofString "..." = tx [46, 46, 46] := by decide
theorem lit_2 : Str.ofString "*" = tx [42] := by decide
theorem lit_3 : Str.ofString "[" = tx [91] := by decide
theorem lit_4 : Str.ofString "]" = tx [93] := by decide
theorem lit_5 : Str.ofString "*?[" = tx [42, 63, 91] := by decide

theorem b_len : bootBuiltins (Str.ofString "len") = some (.builtin "len") := by rfl
section
variable {prog : Program} {w : World} {A : Around} {s : Shared} {h : Heap} {tk : Nat} {P : Params} {g : Heap} {K0 : Addr → Obj → Prop} {L : Addr} {ns : List Str} {vs : List (Option Value)} {mu D : List (Addr × Obj)}
  {nm : Str} {sc : Scope} {a : Addr} {cd : Value} {E : Value → Shared → Prop} {n : Nat} {env : Env}
theorem r_Slice {lower upper step : Option Expr} {p : Pos} {Q : Value → Shared → Prop}
    (k : wpAny (model prog w) A (evalPart lower env) (fun l s₁ => wpAny (model prog w) A (evalPart upper env) (fun u s₂ => wpAny (model prog w) A (evalPart step env) (fun z s₃ =>
      ∃ h' tk', s₃ = st s h' tk' ∧ Q (.ref h'.objs.size) (st s (h'.push { cls := .type "slice", data := .fields #[l, u, z] }) tk')) E s₂) E s₁) E (st s h tk)) :
    wpAny (model prog w) A (eval (.Slice lower upper step p) env) Q E (st s h tk) :=
  wpAny_Slice (wpAny_mono k (fun l s₁ h₁ => wpAny_mono h₁ (fun u s₂ h₂ => wpAny_mono h₂ (fun z s₃ h₃ => by obtain ⟨h', tk', rfl, q⟩ := h₃; exact q) fun _ _ e => e) fun _ _ e => e) fun _ _ e => e)
theorem r_lit {x : Str} {l : List Nat} {kk : Nat} {pos : Pos} {Q : Value → Shared → Prop} (e : x = tx l) (k : ∀ t tk', Q (.str (tx l) t) (st s h tk')) : wpAny (model prog w) A (eval (.Constant (.str x) kk pos) env) Q E (st s h tk) := t_lit e k
theorem r_callB {pos : Pos} {id : String} {e : Expr} {rest : List Expr} {Q : Value → Shared → Prop} (k : wpAny (model prog w) A (spliced (backTo pos (starEach (e :: rest) env))) (fun vs s₁ => wpAny (model prog w) A (call (.builtin id) vs) Q E s₁) E (st s h tk))
    (h1 : starEach (e :: rest) env = (false, eval e env) :: starEach rest env) (h2 : ((backTo pos (starEach rest env)).any fun x => x.1) = false) :
    wpAny (model prog w) A (callWith pos (.builtin id) [] (backTo pos (starEach (e :: rest) env)) []) Q E (st s h tk) := PyProof.Rows.callWith_builtin1 k h1 h2
end
local macro_rules | `(tactic| walk_at "m") => `(tactic| first
  | with_reducible refine r_one ?_
  | ((with_reducible refine r_cons ?_); intro Q' hQ')
  | with_reducible refine wpAny_execs_nil ?_
  | ((with_reducible refine wpAny_Assign_Name ?_ ?m1); (case m1 => with_unfolding_all rfl))
  | ((with_reducible refine' r_ld ?S ?m1 ?m2 ?m3 ?m4 ?_); (case S => assumption); (case m2 => rfl); (case m3 => rfl); (case m1 => rfl); (case m4 => decide))
  | ((with_reducible refine' r_ldb ?S ?m1 ?m2 ?m3 ?m4 ?m5 ?m6 ?_); (case S => assumption); (case m3 => rfl); (case m4 => rfl); (case m1 => rfl); (case m2 => first | exact b_len); (case m5 => decide); (case m6 => decide))
  | ((with_reducible refine' r_ldn ?S ?m1 ?m2 ?m3 ?_); (case S => assumption); (case m2 => rfl); (case m3 => rfl); (case m1 => rfl))
  | ((with_reducible refine' r_st ?S ?m1 ?m2 ?m3 ?_); (case S => assumption); (case m2 => rfl); (case m3 => rfl); (case m1 => rfl); intro h hS)
  | ((with_reducible refine t_lit lit_0 ?_); intro t tk)
  | ((with_reducible refine t_lit lit_1 ?_); intro t tk)
  | ((with_reducible refine t_lit lit_2 ?_); intro t tk)
  | ((with_reducible refine t_lit lit_3 ?_); intro t tk)
  | ((with_reducible refine t_lit lit_4 ?_); intro t tk)
  | ((with_reducible refine t_lit lit_5 ?_); intro t tk)
  | ((with_reducible refine t_int ?_); intro t tk)
  | with_reducible refine wpAny_If ?_
  | ((with_reducible refine wpAny_isTrue_Compare1 ?_ ?m1); (case m1 => with_unfolding_all rfl))
  | with_reducible refine wpAny_truthy_bool ?_
  | ((with_reducible refine Call_ ?_ ?m1); (case m1 => with_unfolding_all rfl))
  | ((with_reducible refine r_callB ?_ ?m1 ?m2); (case m1 => rfl); (case m2 => rfl))
  | ((with_reducible refine spliced_more ?_ ?m1); (case m1 => rfl))
  | with_reducible refine spliced_none ?_
  | with_reducible refine Subscript_ ?_
  | with_reducible refine wpAny_BinOp ?_
  | with_reducible refine evalPart_some_step ?_
  | with_reducible refine evalPart_none_step ?_
  | with_reducible refine r_Slice ?_
  | ((with_reducible refine t_addi ?_); intro t tk)
  | ((with_reducible refine t_iaddi ?_); intro t tk)
  | ((with_reducible refine t_subi ?_); intro t tk)
  | with_reducible refine t_eq ?_
  | with_reducible refine t_in1 ?_
  | with_reducible refine lt_int ?_
  | with_reducible refine IfExp_ ?_
  | with_reducible refine wpAny_AugAssign_Name ?_
  | with_reducible refine wpAny_Return_some ?_
  | ((with_reducible refine t_len ?m1 ?_); (case m1 => first | assumption | omega); intro t tk)
  | ((with_reducible refine' t_slice_ss ?S ?m1 ?m2 ?m3 ?m4 ?m5 ?_); (case S => assumption); (case m1 => first | assumption | omega); (case m2 => first | assumption | omega); (case m3 => first | assumption | omega); (case m4 => with_unfolding_all rfl); (case m5 => intro _; with_unfolding_all rfl); intro h t tk hS)
  | ((with_reducible refine' t_item ?m1 ?m2 ?m3 ?m4 ?m5 ?_); (case m1 => first | assumption | omega); (case m2 => first | assumption | omega); (case m3 => first | assumption | omega); (case m4 => with_unfolding_all rfl); (case m5 => intro _; with_unfolding_all rfl); intro t tk)
  | ((with_reducible refine t_add ?m1 ?_); (case m1 => (simp only [List.length_append, List.length_cons, List.length_nil] at *; omega)); intro t tk)
  | ((with_reducible refine t_iadd ?m1 ?_); (case m1 => (simp only [List.length_append, List.length_cons, List.length_nil] at *; omega)); intro t tk)
  | refine ⟨_, _, rfl, ?_⟩
  | ((with_reducible refine' r_nx ?m0 ?_); (case m0 => assumption))
  | ((with_reducible refine' r_nrt ?m0 ?_); (case m0 => assumption))
  | ((with_reducible refine' r_nct ?m0 ?_); (case m0 => assumption))
  | ((with_reducible refine' r_nbr ?m0 ?_); (case m0 => assumption))
  | ((with_reducible refine' r_leaf ?m0 ?_); (case m0 => assumption))
  | ((with_reducible refine' r_leafV ?m0 ?_); (case m0 => assumption)))

def esc3 (a : Nat) : List Nat := if a ∈ [42, 63, 91] then [91, a, 93] else [a]
def patL : List Nat → List Nat
  | [] => []
  | [a] => esc3 a
  | [a, b] => esc3 a ++ esc3 b
  | a :: b :: c :: r => if a = 46 ∧ b = 46 ∧ c = 46 then 42 :: patL r else esc3 a ++ patL (b :: c :: r)
theorem patL_dots {l : List Nat} (h : l.take 3 = [46, 46, 46]) : patL l = 42 :: patL (l.drop 3) := by
  match l, h with
  | a :: b :: c :: r, h =>
    simp at h
    obtain ⟨rfl, rfl, rfl⟩ := h
    rw [patL, if_pos ⟨rfl, rfl, rfl⟩]
    rfl
theorem patL_other {a : Nat} {r : List Nat} (h : (a :: r).take 3 ≠ [46, 46, 46]) : patL (a :: r) = esc3 a ++ patL r := by
  match r, h with
  | [], _ => simp [patL]
  | [b], _ => simp [patL]
  | b :: c :: r, h =>
    rw [patL, if_neg]
    rintro ⟨rfl, rfl, rfl⟩
    exact h rfl
theorem drop_cons {l : List Nat} {k : Nat} (h : k < l.length) : l.drop k = l.getD k 0 :: l.drop (k + 1) := by
  rw [List.drop_eq_getElem_cons h, List.getD_eq_getElem?_getD, List.getElem?_eq_getElem h]
  rfl

theorem pattern_spec {prog : Program} {w : World} {h : Heap} {l : List Nat} {t : Tok} {n : Nat} (T : TopOk w.params h) (hl : l.length ≤ 1000) (hn : n ≤ 800) :
    Pure prog w n 107 [.str (tx l) t] h (fun _ v => ∃ t, v = .str (tx (patL l)) t) := by
  refine enter (K0 := fun _ _ => False) (ns := [Str.ofString "want", Str.ofString "pattern", Str.ofString "k"]) (vs := [some (.str (tx l) t), none, none]) T (fun _ _ e => e.elim) rfl rfl (by show n < 1000; omega) rfl rfl rfl rfl ?_
  intro A L s h tk hO hS Q0 hQ0
  repeat walk_at "m"
  refine r_while (σ := Nat × List Nat × Tok × Tok) (fun x => [some (.str (tx l) t), some (.str (tx x.2.1) x.2.2.1), some (.int (x.1 : Int) x.2.2.2)]) (fun _ => []) (fun _ => [])
    (fun x => x.1 ≤ l.length ∧ x.2.1 ++ patL (l.drop x.1) = patL l ∧ x.2.1.length ≤ 3 * x.1) (fun x => l.length - x.1) (0, [], _, _) (by assumption) ⟨Nat.zero_le _, rfl, Nat.le_refl _⟩ ?_
  rintro ⟨k, acc, t1, t2⟩ h tk hS ⟨hk, hacc, hlen⟩ Q1 hQ1
  dsimp only at hS hk hacc hlen
  repeat walk_at "m"
  refine @r_if _ _ _ _ (fun hc => ?_) (fun hc => ?_)
  · repeat walk_at "m"
    refine @r_if _ _ _ _ (fun hc2 => ?_) (fun hc2 => ?_)
    · repeat walk_at "m"
      refine ⟨(k + 3, acc ++ [42], _, _), _, _, rfl, by assumption, ⟨?_, ?_, ?_⟩, ?_⟩
      all_goals (have e3 : ((k : Int) + 3 - (k : Int)).toNat = 3 := by omega)
      all_goals (simp only [e3, Int.toNat_natCast] at hc2)
      all_goals (have hlen2 := congrArg List.length hc2)
      all_goals (simp only [List.length_take, List.length_drop, List.length_cons, List.length_nil] at hlen2)
      · omega
      · show (acc ++ [42]) ++ patL (l.drop (k + 3)) = patL l
        rw [← hacc, patL_dots hc2, List.drop_drop, List.append_assoc]
        rfl
      · simp only [List.length_append, List.length_cons, List.length_nil]; omega
      · show l.length - (k + 3) < l.length - k; omega
    · repeat walk_at "m"
      refine @r_if _ _ _ _ (fun hc3 => ?_) (fun hc3 => ?_)
      · repeat walk_at "m"
        refine ⟨(k + 1, acc ++ [91, l.getD k 0, 93], _, _), _, _, rfl, by assumption, ⟨?_, ?_, ?_⟩, ?_⟩
        · omega
        · show (acc ++ [91, l.getD k 0, 93]) ++ patL (l.drop (k + 1)) = patL l
          have e3 : ((k : Int) + 3 - (k : Int)).toNat = 3 := by omega
          simp only [e3, Int.toNat_natCast] at hc2 hc3
          rw [drop_cons (by omega)] at hc2
          rw [← hacc, drop_cons (k := k) (by omega), patL_other hc2, esc3, if_pos hc3, List.append_assoc]
        · simp only [List.length_append, List.length_cons, List.length_nil]; omega
        · show l.length - (k + 1) < l.length - k; omega
      · repeat walk_at "m"
        refine ⟨(k + 1, acc ++ [l.getD k 0], _, _), _, _, rfl, by assumption, ⟨?_, ?_, ?_⟩, ?_⟩
        · omega
        · show (acc ++ [l.getD k 0]) ++ patL (l.drop (k + 1)) = patL l
          have e3 : ((k : Int) + 3 - (k : Int)).toNat = 3 := by omega
          simp only [e3, Int.toNat_natCast] at hc2 hc3
          rw [drop_cons (by omega)] at hc2
          rw [← hacc, drop_cons (k := k) (by omega), patL_other hc2, esc3, if_neg hc3, List.append_assoc]
        · simp only [List.length_append, List.length_cons, List.length_nil]; omega
        · show l.length - (k + 1) < l.length - k; omega
  · repeat walk_at "m"
    refine ⟨_, rfl, S.back (by assumption) ⟨t1, ?_⟩⟩
    have e : k = l.length := by omega
    subst e
    rw [← hacc, List.drop_length]
    simp [patL]
abbrev lo (l : List Value) (n : Nat) : Obj := { cls := .type "list", data := .seq l.toArray n }
abbrev to (l : List Value) : Obj := { cls := .type "tuple", data := .seq l.toArray }
inductive ForI (prog : Program) (w : World) (A : Around) (s : Shared) (P : Params) (g : Heap) (K0 : Addr → Obj → Prop) (L : Addr) (ns : List Str) (target : Expr) (body : List Stmt) (env : Env) (Q : Flow → Shared → Prop) (σ : Type) (x : Value) (s₁ : Shared) : Prop
  | mk (b : Addr) (its : List Value) (m : Nat) (h₁ : Heap) (tk₁ : Nat) (vs₁ : List (Option Value)) (mu₁ D₁ : List (Addr × Obj)) (e : s₁ = st s h₁ tk₁) (hS : S P g K0 L ns vs₁ mu₁ D₁ h₁) (hx : x = .ref b) (hK : Kn K0 D₁ b (lo its m))
      (vsx : Nat → σ → List (Option Value)) (mux Dx : Nat → σ → List (Addr × Obj)) (I : Nat → σ → Prop) (x0 : σ) (ev : vsx 0 x0 = vs₁) (em : mux 0 x0 = mu₁) (ed : Dx 0 x0 = D₁) (hI : I 0 x0) (hKx : ∀ i x, Kn K0 (Dx i x) b (lo its m))
      (turn : ∀ i x h tk p, i < its.length → I i x → S P g K0 L ns (vsx i x) (p :: mux i x) (Dx i x) h →
          ∀ Q1, Abs (fun f s₃ => match f with
            | .next | .cont => FL s P g K0 L ns (vsx (i + 1)) (fun x' => p :: mux (i + 1) x') (Dx (i + 1)) (I (i + 1)) s₃
            | .brk => Q .next s₃
            | .ret v => Q (.ret v) s₃) Q1 → wpAny (model prog w) A (assign target env (its.getD i .none)) (fun _ s₂ => wpAny (model prog w) A (execs body env) Q1 NoE s₂) NoE (st s h tk))
      (fin : ∀ x h tk, I its.length x → S P g K0 L ns (vsx its.length x) (mux its.length x) (Dx its.length x) h → Q .next (st s h tk)) : ForI prog w A s P g K0 L ns target body env Q σ x s₁
section
variable {prog : Program} {w : World} {A : Around} {s : Shared} {h : Heap} {tk : Nat} {P : Params} {g : Heap} {K0 : Addr → Obj → Prop} {L : Addr} {ns : List Str} {vs : List (Option Value)} {mu D : List (Addr × Obj)}
  {nm : Str} {sc : Scope} {a : Addr} {cd : Value} {E : Value → Shared → Prop} {n : Nat} {env : Env}

theorem S.lt (hS : S P g K0 L ns vs mu D h) : ∀ p ∈ mu ++ D, p.1 < h.objs.size := fun p hp => Heap.lt_size (hS.nw p hp).1
theorem S.pushD (hS : S P g K0 L ns vs mu D h) (o : Obj) (hf : o.isFreed = false) : S P g K0 L ns vs mu ((h.objs.size, o) :: D) (h.push o) := by
  have N := News.push hS.fr hS.nw o hf
  refine ⟨hS.T, hS.fr.push o, fun p hp => N p ?_, hS.k0, fun p hp q hq => ?_, hS.nd⟩
  · rcases List.mem_append.mp hp with z | z
    · exact .tail _ (List.mem_append_left _ z)
    · rcases List.mem_cons.mp z with rfl | z
      · exact .head _
      · exact .tail _ (List.mem_append_right _ z)
  · rcases List.mem_cons.mp hq with rfl | z
    · exact Nat.ne_of_lt (hS.lt p (List.mem_append_left _ hp))
    · exact hS.sep p hp q z
theorem S.pushM (hS : S P g K0 L ns vs mu D h) (o : Obj) (hf : o.isFreed = false) : S P g K0 L ns vs ((h.objs.size, o) :: mu) D (h.push o) := by
  have N := News.push hS.fr hS.nw o hf
  refine ⟨hS.T, hS.fr.push o, N, hS.k0, fun p hp q hq => ?_, ?_⟩
  · rcases List.mem_cons.mp hp with rfl | z
    · exact Nat.ne_of_gt (hS.lt q (List.mem_append_right _ hq))
    · exact hS.sep p z q hq
  · rw [List.map_cons]
    refine List.nodup_cons.mpr ⟨fun z => ?_, hS.nd⟩
    obtain ⟨q, hq, e⟩ := List.mem_map.mp z
    exact Nat.ne_of_lt (hS.lt q (List.mem_append_left _ hq)) e
theorem S.upd {pre post : List (Addr × Obj)} {b : Addr} {o o' : Obj} {h' : Heap} (hS : S P g K0 L ns vs (pre ++ (b, o) :: post) D h) (hs : Heap.SameBut b h h') (ho : h'.get? b = some o') : S P g K0 L ns vs (pre ++ (b, o') :: post) D h' := by
  have hm : (b, o) ∈ pre ++ (b, o) :: post := List.mem_append_right _ (.head _)
  have z := hS.nw _ (List.mem_append_left D hm)
  have nd := hS.nd
  rw [List.map_append, List.map_cons] at nd
  have n1 := (List.nodup_append.mp nd)
  have N := hS.nw
  rw [List.append_assoc, List.cons_append] at N
  refine ⟨hS.T, hS.fr.change hs z.2.1 z.2.2, ?_, hS.k0, ?_, ?_⟩
  · rw [List.append_assoc, List.cons_append]
    refine news_set N (fun p hp e => ?_) (fun p hp e => ?_) hs ho
    · exact n1.2.2 p.1 (List.mem_map_of_mem hp) b (.head _) e
    · rcases List.mem_append.mp hp with q | q
      · exact (List.nodup_cons.mp n1.2.1).1 (List.mem_map.mpr ⟨p, q, e⟩)
      · exact hS.sep _ hm p q e.symm
  · intro p hp q hq
    rcases List.mem_append.mp hp with y | y
    · exact hS.sep p (List.mem_append_left _ y) q hq
    · rcases List.mem_cons.mp y with rfl | y
      · exact hS.sep _ hm q hq
      · exact hS.sep p (List.mem_append_right _ (.tail _ y)) q hq
  · rw [List.map_append, List.map_cons]; exact nd
theorem S.freeze {p : Addr × Obj} (hS : S P g K0 L ns vs (p :: mu) D h) : S P g K0 L ns vs mu (p :: D) h := by
  have nd := hS.nd
  rw [List.map_cons, List.nodup_cons] at nd
  refine ⟨hS.T, hS.fr, fun q hq => hS.nw q ?_, hS.k0, fun q hq r hr => ?_, nd.2⟩
  · rcases List.mem_append.mp hq with z | z
    · exact List.mem_append_left _ (.tail _ z)
    · rcases List.mem_cons.mp z with rfl | z
      · exact List.mem_append_left _ (.head _)
      · exact List.mem_append_right _ z
  · rcases List.mem_cons.mp hr with rfl | z
    · exact fun e => nd.1 (e ▸ List.mem_map_of_mem hq)
    · exact hS.sep q (.tail _ hq) r z
theorem S.swap {p q : Addr × Obj} (hS : S P g K0 L ns vs (p :: q :: mu) D h) : S P g K0 L ns vs (q :: p :: mu) D h := by
  have nd := hS.nd
  simp only [List.map_cons, List.nodup_cons, List.mem_cons, not_or] at nd
  refine ⟨hS.T, hS.fr, fun r hr => hS.nw r ?_, hS.k0, fun r hr x hx => hS.sep r ?_ x hx, ?_⟩
  · rcases List.mem_cons.mp hr with rfl | z
    · exact .tail _ (.head _)
    · rcases List.mem_cons.mp z with rfl | z
      · exact .head _
      · exact .tail _ (.tail _ z)
  · rcases List.mem_cons.mp hr with rfl | z
    · exact .tail _ (.head _)
    · rcases List.mem_cons.mp z with rfl | z
      · exact .head _
      · exact .tail _ (.tail _ z)
  · simp only [List.map_cons, List.nodup_cons, List.mem_cons, not_or]
    exact ⟨⟨fun e => nd.1.1 e.symm, nd.2.1⟩, nd.1.2, nd.2.2⟩
theorem S.drop {p : Addr × Obj} (hS : S P g K0 L ns vs (p :: mu) D h) : S P g K0 L ns vs mu D h := by
  have nd := hS.nd
  rw [List.map_cons, List.nodup_cons] at nd
  refine ⟨hS.T, hS.fr, fun q hq => hS.nw q ?_, hS.k0, fun q hq r hr => hS.sep q (.tail _ hq) r hr, nd.2⟩
  exact .tail _ hq
theorem S.mem {b : Addr} {o : Obj} (hS : S P g K0 L ns vs mu D h) (hm : (b, o) ∈ mu) : h.get? b = some o := (hS.nw _ (List.mem_append_left _ hm)).1
theorem S.forgetD {D' : List (Addr × Obj)} (hS : S P g K0 L ns vs mu D h) (hsub : ∀ p ∈ D', p ∈ D) : S P g K0 L ns vs mu D' h :=
  ⟨hS.T, hS.fr, fun q hq => hS.nw q ((List.mem_append.mp hq).elim (List.mem_append_left _) fun z => List.mem_append_right _ (hsub q z)), hS.k0, fun p hp q hq => hS.sep p hp q (hsub q hq), hS.nd⟩

theorem r_newList {l : List Value} {Q : Value → Shared → Prop} (hS : S P g K0 L ns vs mu D h) (hl : l.length ≤ 1000000) (k : ∀ b h', S P g K0 L ns vs ((b, lo l 0) :: mu) D h' → Q (.ref b) (st s h' tk)) :
    wpAny (model prog w) A (newList l) Q E (st s h tk) := wpAny_newObj_type (s := st s h tk) (k _ _ (hS.pushM _ rfl)) (by show l.toArray.size ≤ sizeLine; rw [List.size_toArray, sizeLine_eq]; omega)
theorem r_newListD {l : List Value} {Q : Value → Shared → Prop} (hS : S P g K0 L ns vs mu D h) (hl : l.length ≤ 1000000) (k : ∀ b h', S P g K0 L ns vs mu ((b, lo l 0) :: D) h' → Q (.ref b) (st s h' tk)) :
    wpAny (model prog w) A (newList l) Q E (st s h tk) := wpAny_newObj_type (s := st s h tk) (k _ _ (hS.pushD _ rfl)) (by show l.toArray.size ≤ sizeLine; rw [List.size_toArray, sizeLine_eq]; omega)
theorem r_newTuple {l : List Value} {Q : Value → Shared → Prop} (hS : S P g K0 L ns vs mu D h) (hl : l.length ≤ 1000000) (k : ∀ b h', S P g K0 L ns vs mu ((b, to l) :: D) h' → Q (.ref b) (st s h' tk)) :
    wpAny (model prog w) A (newTuple l) Q E (st s h tk) := wpAny_newObj_type (s := st s h tk) (k _ _ (hS.pushD _ rfl)) (by show l.toArray.size ≤ sizeLine; rw [List.size_toArray, sizeLine_eq]; omega)
theorem r_gmApp {b : Addr} {l : List Value} {m : Nat} {pl : Sem Bool} {Q : Value × List Value → Shared → Prop} (ho : h.get? b = some (lo l m)) (k : Q (.builtin "list.append", [.ref b]) (st s h tk)) :
    wpAny (model prog w) A (getMethod (.ref b) "append" pl) Q E (st s h tk) := Calls.getMethod_list_append (s := st s h tk) ho rfl rfl k
theorem r_app {pre post : List (Addr × Obj)} {b : Addr} {l : List Value} {m : Nat} {x : Value} {Q : Value → Shared → Prop} (hS : S P g K0 L ns vs (pre ++ (b, lo l m) :: post) D h) (hl : l.length ≤ 1000000)
    (k : ∀ h', S P g K0 L ns vs (pre ++ (b, lo (l ++ [x]) (m + 1)) :: post) D h' → Q .none (st s h' tk)) : wpAny (model prog w) A (call (.builtin "list.append") [.ref b, x]) Q E (st s h tk) :=
  append_at (s := st s h tk) (hS.mem (List.mem_append_right _ (.head _))) (fun h' hs ho => k h' (hS.upd hs (by rw [ho]; simp))) (by rw [List.size_toArray, sizeLine_eq]; omega)
theorem r_app0 {b : Addr} {l : List Value} {m : Nat} {x : Value} {Q : Value → Shared → Prop} (hS : S P g K0 L ns vs ((b, lo l m) :: mu) D h) (hl : l.length ≤ 1000000)
    (k : ∀ h', S P g K0 L ns vs ((b, lo (l ++ [x]) (m + 1)) :: mu) D h' → Q .none (st s h' tk)) : wpAny (model prog w) A (call (.builtin "list.append") [.ref b, x]) Q E (st s h tk) := r_app (pre := []) hS hl k
theorem r_app1 {b : Addr} {p : Addr × Obj} {l : List Value} {m : Nat} {x : Value} {Q : Value → Shared → Prop} (hS : S P g K0 L ns vs (p :: (b, lo l m) :: mu) D h) (hl : l.length ≤ 1000000)
    (k : ∀ h', S P g K0 L ns vs (p :: (b, lo (l ++ [x]) (m + 1)) :: mu) D h' → Q .none (st s h' tk)) : wpAny (model prog w) A (call (.builtin "list.append") [.ref b, x]) Q E (st s h tk) := r_app (pre := [p]) hS hl k
theorem r_app2 {b : Addr} {p q : Addr × Obj} {l : List Value} {m : Nat} {x : Value} {Q : Value → Shared → Prop} (hS : S P g K0 L ns vs (p :: q :: (b, lo l m) :: mu) D h) (hl : l.length ≤ 1000000)
    (k : ∀ h', S P g K0 L ns vs (p :: q :: (b, lo (l ++ [x]) (m + 1)) :: mu) D h' → Q .none (st s h' tk)) : wpAny (model prog w) A (call (.builtin "list.append") [.ref b, x]) Q E (st s h tk) := r_app (pre := [p, q]) hS hl k
theorem isList_lo {b : Addr} {l : List Value} {m : Nat} (ho : h.get? b = some (lo l m)) : h.IsList b l.toArray := ⟨_, ho, rfl, m, rfl⟩
theorem isTup_to {b : Addr} {l : List Value} (ho : h.get? b = some (to l)) : IsTup h b l.toArray := ⟨_, ho, rfl, 0, rfl⟩
theorem r_lenL {b : Addr} {l : List Value} {m : Nat} {Q : Value → Shared → Prop} (ho : h.get? b = some (lo l m)) (hl : l.length ≤ 1000000) (k : ∀ t tk', Q (.int l.length t) (st s h tk')) :
    wpAny (model prog w) A (call (.builtin "len") [.ref b]) Q E (st s h tk) :=
  Calls.call_len_list (s := st s h tk) (isList_lo ho) (by rw [List.size_toArray]; omega) (by rw [List.size_toArray]; exact k _ _)
theorem r_truthyL {b : Addr} {l : List Value} {m : Nat} {Q : Bool → Shared → Prop} (ho : h.get? b = some (lo l m)) (hl : l.length ≤ 1000000) (k : ∀ tk', Q (!l.isEmpty) (st s h tk')) :
    wpAny (model prog w) A (truthy (.ref b)) Q E (st s h tk) :=
  wpAny_truthy_list (s := st s h tk) (isList_lo ho) (by rw [List.size_toArray]; omega) (by
    have e : (!l.toArray.isEmpty) = !l.isEmpty := by cases l <;> rfl
    rw [e]; exact k _)
theorem r_itemL {value slice : Expr} {b : Addr} {l : List Value} {m : Nat} {i : Int} {u : Tok} {Q : Value → Shared → Prop} (ho : h.get? b = some (lo l m)) (h0 : 0 ≤ i) (h1 : i < l.length) (hl : l.length ≤ 1000000)
    (hs : subscripted slice false (.ref b) (.int i u) = operate [.ref b, .int i u] (getItem (.ref b) (.int i u))) (k : Q (l.getD i.toNat .none) (st s h tk)) :
    wpAny (model prog w) A (subscriptTail value slice (.ref b) (.int i u)) Q E (st s h tk) :=
  tail_any (isList_lo ho).typeIs slot_list_getitem.lookup (wpAny_getItem_list (s := st s h tk) (isList_lo ho) h0 (by omega) (by
    have hi : i.toNat < l.length := by omega
    rw [List.getElem?_toArray, List.getD_eq_getElem?_getD, List.getElem?_eq_getElem hi]; rfl) k) hs
theorem r_itemL_last {value slice : Expr} {b : Addr} {l : List Value} {m : Nat} {x : Value} {u : Tok} {Q : Value → Shared → Prop} (ho : h.get? b = some (lo (l ++ [x]) m)) (hl : l.length ≤ 1000000)
    (hs : subscripted slice false (.ref b) (.int (-1) u) = operate [.ref b, .int (-1) u] (getItem (.ref b) (.int (-1) u))) (k : Q x (st s h tk)) :
    wpAny (model prog w) A (subscriptTail value slice (.ref b) (.int (-1) u)) Q E (st s h tk) :=
  tail_any (isList_lo ho).typeIs slot_list_getitem.lookup (wpAny_getItem_list_neg (s := st s h tk) (isList_lo ho) (by omega) (by simp only [List.size_toArray, List.length_append, List.length_cons, List.length_nil]; omega) (by omega) (by
    have e : (-1 + ((l ++ [x]).toArray.size : Int)).toNat = l.length := by simp only [List.size_toArray, List.length_append, List.length_cons, List.length_nil]; omega
    rw [e, List.getElem?_toArray]; simp) k) hs
theorem r_unpack {elts : List Expr} {kk : Nat} {pos : Pos} {b : Addr} {l : List Value} {Q : Unit → Shared → Prop} (hS : S P g K0 L ns vs mu D h) (ho : h.get? b = some (to l)) (hh : A.handled = none)
    (h1 : (assignEach elts env).length = l.length) (h2 : (assignEach elts env).findIdx? (fun x => x.1) = none)
    (k : ∀ h', S P g K0 L ns vs mu D h' → wpAny (model prog w) A (assignInOrder ((assignEach elts env).map fun x => x.2) l) Q E (st s h' tk)) :
    wpAny (model prog w) A (assign (.Tuple elts kk pos) env (.ref b)) Q E (st s h tk) :=
  unpackN_ (s := st s h tk) hS.fr hS.nw (isTup_to ho) hh (by rw [List.size_toArray]; exact h1) h2 fun h' F N => k h' (hS.chg F N)
theorem r_asgName {x : Str} {pos : Pos} {v : Value} {Q : Unit → Shared → Prop} (k : wpAny (model prog w) A (storeName env x v) Q E (st s h tk)) : wpAny (model prog w) A (assign (.Name x pos) env v) Q E (st s h tk) := PyProof.Rows.assign_Name k

theorem r_forX {σ : Type} {target iter : Expr} {body : List Stmt} {pos : Pos} {Q : Flow → Shared → Prop} (_h0 : S P g K0 L ns vs mu D h)
    (hi : ∀ Qi, AbsV (ForI prog w A s P g K0 L ns target body env Q σ) Qi → wpAny (model prog w) A (eval iter env) Qi NoE (st s h tk))
    (hh : A.handled = none) (hs : ∀ x, foldedSetIterable iter env x = pure x) :
    wpAny (model prog w) A (exec (.For target iter body [] pos) env) Q E (st s h tk) := by
  refine wpAny_For (wpAny_mono (hi _ ⟨fun _ _ x => x⟩) (fun x s₁ hq => ?_) fun _ _ e => e.elim) hs
  obtain ⟨b, its, m, h₁, tk₁, vs₁, mu₁, D₁, rfl, hS, rfl, hK, vsx, mux, Dx, I, x0, rfl, rfl, rfl, hI, hKx, turn, fin⟩ := hq
  refine wpAny_pyIter_list (s := st s h₁ tk₁) (isList_lo (hS.kn _ _ hK)) ?_
  have hS1 := hS.pushM { cls := .type "list_iterator", data := .fields #[.ref b, .int 0 0] } rfl
  refine codeAny_forLoop_any (fun q s' => ∃ i x h tk o, s' = st s h tk ∧ q = its.length - i ∧ i ≤ its.length ∧ I i x ∧ o.cls = .type "list_iterator" ∧ o.data = .fields #[.ref b, .int (i : Int) 0] ∧ S P g K0 L ns (vsx i x) ((h₁.objs.size, o) :: mux i x) (Dx i x) h) ?_ its.length
    ⟨0, x0, _, tk₁, _, rfl, rfl, Nat.zero_le _, hI, rfl, rfl, hS1⟩
  rintro q s' ⟨i, x, h₂, tk₂, o, rfl, rfl, hle, hIx, hoc, hod, hS₂⟩
  have hit2 := hS₂.mem (.head _)
  have iter : (st s h₂ tk₂).heap.IsListIter h₁.objs.size b i := ⟨o, hit2, hoc, hod⟩
  have lst : (st s h₂ tk₂).heap.IsList b its.toArray := isList_lo (hS₂.kn _ _ (hKx i x))
  by_cases hlt : i < its.length
  · refine wpAny_pyNext_list_item (s := st s h₂ tk₂) iter lst (x := its.getD i .none) (by rw [List.getElem?_toArray, List.getD_eq_getElem?_getD, List.getElem?_eq_getElem hlt]; rfl) fun h' hit' hsb => ?_
    obtain ⟨o', ho', hc', hd'⟩ := id hit'
    refine letGo_listiter (s' := st s h' tk₂) hit' ?_
    have hS₃ : S P g K0 L ns (vsx i x) ((h₁.objs.size, o') :: mux i x) (Dx i x) h' := S.upd (pre := []) hS₂ hsb ho'
    refine wpAny_mono (turn i x h' tk₂ (h₁.objs.size, o') hlt hIx hS₃ _ ⟨fun _ _ x => x⟩) (fun _ s₂ h₂' => wpAny_mono h₂' (fun f s₃ h₃ => ?_) fun _ _ e => e.elim) fun _ _ e => e.elim
    have key : FL s P g K0 L ns (vsx (i + 1)) (fun x' => (h₁.objs.size, o') :: mux (i + 1) x') (Dx (i + 1)) (I (i + 1)) s₃ →
        ∃ m, m < its.length - i ∧ ∃ i x h tk o, s₃ = st s h tk ∧ m = its.length - i ∧ i ≤ its.length ∧ I i x ∧ o.cls = .type "list_iterator" ∧ o.data = .fields #[.ref b, .int (i : Int) 0] ∧ S P g K0 L ns (vsx i x) ((h₁.objs.size, o) :: mux i x) (Dx i x) h := by
      rintro ⟨x', h', tk', rfl, hS', hI'⟩
      exact ⟨its.length - (i + 1), by omega, i + 1, x', h', tk', o', rfl, rfl, hlt, hI', hc', hd', hS'⟩
    cases f with
    | next => exact key h₃
    | cont => exact key h₃
    | brk => exact h₃
    | ret v => exact h₃
  · have e : i = its.length := by omega
    subst e
    refine wpAny_pyNext_list_end (s := st s h₂ tk₂) hh iter lst (by rw [List.getElem?_toArray]; exact List.getElem?_eq_none (Nat.le_refl _)) fun h' hx => wpAny_execs_nil ?_
    refine fin x h' tk₂ hIx ?_
    have hS₃ := hS₂.drop
    have nd := hS₂.nd
    rw [List.map_cons, List.nodup_cons] at nd
    have z := hS₂.nw _ (.head _)
    have off : ∀ p ∈ mux its.length x ++ Dx its.length x, p.1 ≠ h₁.objs.size := fun p hp e => by
      rcases List.mem_append.mp hp with y | y
      · exact nd.1 (List.mem_map.mpr ⟨p, y, e⟩)
      · exact hS₂.sep _ (.head _) p y e.symm
    refine hS₃.chg ⟨hS₃.fr.ns.extBut hx (Ne.symm z.2.1), fun b o e => hx b o (fun q => ?_) (hS₃.fr.keep b o e), hS₃.fr.above⟩ fun p hp => ⟨hx _ _ (off p hp) (hS₃.nw p hp).1, (hS₃.nw p hp).2⟩
    have zz : g.get? h₁.objs.size = none := z.2.2
    have qq : b = h₁.objs.size := q
    rw [← qq, e] at zz
    cases zz
end
def inB (b a : List Nat) : Bool := !(Builtin.Str.occurrences (tx a) (tx b) 0 (tx a).length 1).isEmpty
def fits (a b : List Nat) (hi i : Nat) : Bool := decide (i + b.length ≤ hi) && ((a.drop i).take b.length == b)
def findL (a b : List Nat) (lo hi : Nat) : Option Nat := (List.range' lo (hi + 1 - lo)).find? (fits a b hi)
theorem at_iff (a b : List Nat) (hi i : Nat) : StrLaws.At (tx a) (tx b) hi i ↔ fits a b hi i = true := by
  unfold StrLaws.At fits
  rw [StrLaws.subAt_eq, tx_length, tx_toList, tx_toList]
  simp
theorem inB_iff (b a : List Nat) : inB b a = true ↔ ∃ i, i + b.length ≤ a.length ∧ (a.drop i).take b.length = b := by
  unfold inB
  rw [StrLaws.found_iff]
  constructor
  · rintro ⟨i, h1, h2⟩
    have := (at_iff a b (tx a).length i).mp ⟨h1, h2⟩
    rw [tx_length] at this
    simp only [fits, Bool.and_eq_true, decide_eq_true_eq, beq_iff_eq] at this
    exact ⟨i, this⟩
  · rintro ⟨i, h1, h2⟩
    have : fits a b (tx a).length i = true := by rw [tx_length]; simp only [fits, Bool.and_eq_true, decide_eq_true_eq, beq_iff_eq]; exact ⟨h1, h2⟩
    have := (at_iff a b (tx a).length i).mpr this
    exact ⟨i, this.1, this.2⟩
theorem find?_split {p : Nat → Bool} : ∀ {pre post : List Nat} {x : Nat}, (∀ y ∈ pre, p y = false) → p x = true → (pre ++ x :: post).find? p = some x
  | [], _, _, _, h => by simp [h]
  | y :: r, post, x, hn, h => by
    rw [List.cons_append, List.find?_cons, hn y (.head _)]
    exact find?_split (fun z hz => hn z (.tail _ hz)) h
theorem occ_findL (a b : List Nat) (lo hi : Nat) : (match Builtin.Str.occurrences (tx a) (tx b) lo hi 1 with | k :: _ => (k : Int) | [] => -1) = (match findL a b lo hi with | some k => (k : Int) | none => -1) := by
  rw [StrLaws.occ_eq]
  unfold findL
  rcases StrLaws.occ_first (tx a) (tx b) hi 1 (Nat.le_refl 1) (List.range' lo (hi + 1 - lo)) lo (fun i hi => by have := List.mem_range'_1.mp hi; omega) with ⟨h0, hn⟩ | ⟨pre, x, post, e, h0, ha, hn⟩
  · rw [h0]
    have : (List.range' lo (hi + 1 - lo)).find? (fits a b hi) = none := List.find?_eq_none.mpr fun i hi' q => hn i hi' ((at_iff a b hi i).mpr q)
    rw [this]
  · have : (List.range' lo (hi + 1 - lo)).find? (fits a b hi) = some x := by
      rw [e]
      exact find?_split (fun y hy => by
        cases q : fits a b hi y with
        | false => rfl
        | true => exact absurd ((at_iff a b hi y).mpr q) (hn y hy)) ((at_iff a b hi x).mp ha)
    rw [this]
    generalize (forIn (List.range' lo (hi + 1 - lo)) ((#[] : Array Nat), lo) (StrLaws.occBody (tx a) (tx b) hi 1)).run.fst = arr at h0
    have h1 : arr.toList[0]? = some x := by simpa using h0
    cases hL : arr.toList with
    | nil => rw [hL] at h1; cases h1
    | cons c t => rw [hL] at h1; simp at h1; rw [h1]
theorem startswith_tx (a b : List Nat) : Txt.startswith (tx a) (tx b) = b.isPrefixOf a := by
  unfold Txt.startswith
  rw [StrLaws.subAt_eq, tx_length, tx_length, tx_toList, tx_toList, List.drop_zero]
  apply Bool.eq_iff_iff.mpr
  rw [Bool.and_eq_true, decide_eq_true_eq, beq_iff_eq, List.isPrefixOf_iff_prefix, List.prefix_iff_eq_take]
  constructor
  · rintro ⟨_, h⟩; exact h.symm
  · intro h
    refine ⟨?_, h.symm⟩
    have := congrArg List.length h
    rw [List.length_take] at this
    omega
theorem endswith_tx (a b : List Nat) : Txt.endswith (tx a) (tx b) = b.isSuffixOf a := by
  unfold Txt.endswith
  rw [StrLaws.subAt_eq, tx_length, tx_length, tx_toList, tx_toList]
  apply Bool.eq_iff_iff.mpr
  rw [Bool.and_eq_true, decide_eq_true_eq, beq_iff_eq, List.isSuffixOf_iff_suffix, List.suffix_iff_eq_drop]
  constructor
  · rintro ⟨h0, h⟩
    rw [List.take_of_length_le (by rw [List.length_drop]; omega)] at h
    exact h.symm
  · intro h
    have hl := congrArg List.length h
    rw [List.length_drop] at hl
    refine ⟨by omega, ?_⟩
    rw [List.take_of_length_le (by rw [List.length_drop]; omega)]
    exact h.symm

def sv (l : List (List Nat × Tok)) : List Value := l.map fun p => .str (tx p.1) p.2
theorem sv_of {l : List (Str × Tok)} {ss : List (List Nat)} (h : l.map (·.1) = ss.map tx) : ∃ l', strValues l = sv l' ∧ l'.map (·.1) = ss := by
  refine ⟨l.map fun p => (p.1.cps.toList, p.2), ?_, ?_⟩
  · unfold sv strValues
    rw [List.map_map]
    refine List.map_congr_left fun p _ => ?_
    show Value.str p.1 p.2 = Value.str (tx p.1.cps.toList) p.2
    unfold tx
    simp
  · rw [List.map_map]
    have : l.map ((fun x => x.1) ∘ fun p : Str × Tok => (p.1.cps.toList, p.2)) = (l.map (·.1)).map fun x => x.cps.toList := by rw [List.map_map]; rfl
    rw [this, h, List.map_map]
    have e : ((fun x : Str => x.cps.toList) ∘ tx) = id := by funext x; exact tx_toList x
    rw [e, List.map_id]

section
variable {prog : Program} {w : World} {A : Around} {s : Shared} {h : Heap} {tk : Nat} {P : Params} {g : Heap} {K0 : Addr → Obj → Prop} {L : Addr} {ns : List Str} {vs : List (Option Value)} {mu D : List (Addr × Obj)}
  {nm : Str} {sc : Scope} {a : Addr} {cd : Value} {E : Value → Shared → Prop} {n : Nat} {env : Env}
theorem r_cut {σ : Type} {stm : Stmt} {rest : List Stmt} {Q : Flow → Shared → Prop} (_h0 : S P g K0 L ns vs mu D h) (vsx : σ → List (Option Value)) (mux Dx : σ → List (Addr × Obj)) (I : σ → Prop)
    (k2 : ∀ x h tk, S P g K0 L ns (vsx x) (mux x) (Dx x) h → I x → wpAny (model prog w) A (execs rest env) Q E (st s h tk))
    (k1 : ∀ Q1, Abs (fun f s' => match f with | .next => FL s P g K0 L ns vsx mux Dx I s' | f => Q f s') Q1 → wpAny (model prog w) A (exec stm env) Q1 E (st s h tk)) :
    wpAny (model prog w) A (execs (stm :: rest) env) Q E (st s h tk) := by
  refine wpAny_execs_cons (wpAny_mono (k1 _ ⟨fun _ _ x => x⟩) (fun f s' hq => ?_) fun _ _ e => e)
  cases f with
  | next => obtain ⟨x, h', tk', rfl, a, b⟩ := hq; exact k2 x h' tk' a b
  | brk => exact hq
  | cont => exact hq
  | ret v => exact hq
theorem r_ldgS {x : Str} {pos : Pos} {y : Str} {t : Tok} {l : List Nat} {Q : Value → Shared → Prop} (hS : S P g K0 L ns vs mu D h) (hv : nsIn (KK P) mainGlobals x = some (some (.str y t))) (e : y = tx l) (hk : sc.kind = .function) (hl : (envOf nm sc L a cd).kindOf x = some .globalImplicit)
    (hd : (x == ("__debug__" : Str)) = false) (k : Q (.str (tx l) t) (st s h tk)) : wpAny (model prog w) A (eval (.Name x pos) (envOf nm sc L a cd)) Q E (st s h tk) := r_ldg hS hv hk hl hd (e ▸ k)
theorem t_notinS {a b : List Nat} {t u : Tok} {Q : Value → Shared → Prop} (k : Q (.bool (!inB b a)) (st s h tk)) : wpAny (model prog w) A (compareOp .NotIn (.str (tx b) u) (.str (tx a) t)) Q E (st s h tk) := notIn_str k
theorem t_inS {a b : List Nat} {t u : Tok} {Q : Value → Shared → Prop} (k : Q (.bool (inB b a)) (st s h tk)) : wpAny (model prog w) A (compareOp .In (.str (tx b) u) (.str (tx a) t)) Q E (st s h tk) := in_str k
theorem t_split {a b : List Nat} {t u : Tok} {ss : List (List Nat)} {Q : Value → Shared → Prop} (hS : S P g K0 L ns vs mu D h) (hb : b ≠ []) (hl : a.length ≤ 1000000) (hs : Txt.split (tx a) (tx b) = ss.map tx)
    (k : ∀ c l h' tk', l.map (·.1) = ss → S P g K0 L ns vs ((c, lo (sv l) 0) :: mu) D h' → Q (.ref c) (st s h' tk')) : wpAny (model prog w) A (call (.builtin "str.split") [.str (tx a) t, .str (tx b) u]) Q E (st s h tk) := by
  have lt := hS.lt
  refine splitN1 (s := st s h tk) hS.fr hS.nw (by rw [tx_length]; simp [hb]) (fun l h' tk' hm F N => ?_) (by rw [tx_length, sizeLine_eq]; omega)
  rw [hs] at hm
  obtain ⟨l', e1, e2⟩ := sv_of hm
  rw [e1] at N
  refine k _ l' h' tk' e2 ⟨hS.T, F, N, hS.k0, fun p hp q hq => ?_, ?_⟩
  · rcases List.mem_cons.mp hp with rfl | z
    · exact Nat.ne_of_gt (lt q (List.mem_append_right _ hq))
    · exact hS.sep p z q hq
  · rw [List.map_cons]
    refine List.nodup_cons.mpr ⟨fun z => ?_, hS.nd⟩
    obtain ⟨q, hq, e⟩ := List.mem_map.mp z
    exact Nat.ne_of_lt (lt q (List.mem_append_left _ hq)) e
theorem t_truthy {a : List Nat} {t : Tok} {Q : Bool → Shared → Prop} (hl : a.length ≤ 1000000) (k : ∀ tk', Q (decide (a ≠ [])) (st s h tk')) : wpAny (model prog w) A (truthy (.str (tx a) t)) Q E (st s h tk) :=
  P.truthy_str (s := st s h tk) (by rw [tx_length]; omega) (by
    have e : (((tx a).length : Int) != 0) = decide (a ≠ []) := by
      rw [tx_length]
      cases a <;> simp
      omega
    rw [e]; exact k _)
theorem t_starts {a b : List Nat} {t u : Tok} {Q : Value → Shared → Prop} (k : Q (.bool (b.isPrefixOf a)) (st s h tk)) : wpAny (model prog w) A (call (.builtin "str.startswith") [.str (tx a) t, .str (tx b) u]) Q E (st s h tk) :=
  SC.startswith (by rw [startswith_tx]; exact k)
theorem t_ends {a b : List Nat} {t u : Tok} {Q : Value → Shared → Prop} (k : Q (.bool (b.isSuffixOf a)) (st s h tk)) : wpAny (model prog w) A (call (.builtin "str.endswith") [.str (tx a) t, .str (tx b) u]) Q E (st s h tk) :=
  SC.endswith (by rw [endswith_tx]; exact k)
theorem gives_find4 (x y : Str) (i j : Int) (t u v z : Tok) : Gives (Builtin.«str.find» ⟨[.str x t, .str y u, .int i v, .int j z], []⟩) (.int (match Builtin.Str.occurrences x y (fromIndex x.length i) (min (fromIndex x.length j) x.length) 1 with | k :: _ => (k : Int) | [] => -1)) := by
  show Gives (match Builtin.Str.occurrences x y (fromIndex x.length i) (min (fromIndex x.length j) x.length) 1 with | k :: _ => retInt k | [] => (do rule "str.find.not-found"; retInt (-1))) _
  cases Builtin.Str.occurrences x y (fromIndex x.length i) (min (fromIndex x.length j) x.length) 1 with
  | nil => exact .rule (.of_eq rfl)
  | cons k _ => exact .of_eq rfl
theorem t_find4 {a b : List Nat} {t u v z : Tok} {i j : Nat} {Q : Value → Shared → Prop} (hj : j ≤ a.length) (k : ∀ t' tk', Q (.int (match findL a b i j with | some k => (k : Int) | none => -1) t') (st s h tk')) :
    wpAny (model prog w) A (call (.builtin "str.find") [.str (tx a) t, .str (tx b) u, .int (i : Int) v, .int (j : Int) z]) Q E (st s h tk) := by
  refine call_gives F.slot_str_find (typeIs_str _ _ _) F.entry_str_find (F.args_str_find_4 _ _ _ _) (gives_find4 (tx a) (tx b) i j t u v z) ?_
  have e1 : fromIndex (tx a).length (i : Int) = i := by unfold fromIndex; rw [if_neg (by omega)]; omega
  have e2 : min (fromIndex (tx a).length (j : Int)) (tx a).length = j := by unfold fromIndex; rw [if_neg (by omega), tx_length]; omega
  rw [e1, e2, occ_findL]
  exact k _ _
theorem r_del {pre post : List (Addr × Obj)} {b : Addr} {l : List Value} {m : Nat} {i : Int} {u : Tok} {kk : Nat} {Q : Unit → Shared → Prop} (hS : S P g K0 L ns vs (pre ++ (b, lo l m) :: post) D h) (hl : l.length ≤ 1000000)
    (hi : -1000000 ≤ i ∧ i ≤ 1000000) (hk : seqIndex? i l.length = some kk)
    (k : ∀ h', S P g K0 L ns vs (pre ++ (b, lo (l.eraseIdx kk) (m + 1)) :: post) D h' → Q () (st s h' tk)) : wpAny (model prog w) A (delItem (.ref b) (.int i u)) Q E (st s h tk) :=
  delItem_at (s := st s h tk) (hS.mem (List.mem_append_right _ (.head _))) (by unfold Builtin.List.listFitsIndex; simp; omega) (by rw [List.size_toArray]; exact hk) (fun h' hs ho => k h' (hS.upd hs ho)) (by rw [List.size_toArray, sizeLine_eq]; omega)
theorem r_del0 {b : Addr} {l : List Value} {m : Nat} {x : Value} {u : Tok} {Q : Unit → Shared → Prop} (hS : S P g K0 L ns vs ((b, lo (x :: l) m) :: mu) D h) (hl : (x :: l).length ≤ 1000000)
    (k : ∀ h', S P g K0 L ns vs ((b, lo l (m + 1)) :: mu) D h' → Q () (st s h' tk)) : wpAny (model prog w) A (delItem (.ref b) (.int 0 u)) Q E (st s h tk) :=
  r_del (pre := []) (kk := 0) hS hl (by omega) (by rw [StrLaws.seqIndex_nonneg (by omega) (by simp only [List.length_cons]; omega)]; rfl) k
theorem r_delm1 {b : Addr} {l : List Value} {m : Nat} {x : Value} {u : Tok} {Q : Unit → Shared → Prop} (hS : S P g K0 L ns vs ((b, lo (l ++ [x]) m) :: mu) D h) (hl : (l ++ [x]).length ≤ 1000000)
    (k : ∀ h', S P g K0 L ns vs ((b, lo l (m + 1)) :: mu) D h' → Q () (st s h' tk)) : wpAny (model prog w) A (delItem (.ref b) (.int (-1) u)) Q E (st s h tk) :=
  r_del (pre := []) (kk := l.length) hS hl (by omega) (by rw [StrLaws.seqIndex_neg (by omega) (by simp only [List.length_append, List.length_cons, List.length_nil]; omega)]; simp only [List.length_append, List.length_cons, List.length_nil]; congr 1; omega) (by
    have e : (l ++ [x]).eraseIdx l.length = l := by simp [List.eraseIdx_append_of_length_le]
    rw [e]; exact k)
end
abbrev dots : List Nat := [46, 46, 46]
def consHd (a : Nat) : List (List Nat) → List (List Nat)
  | [] => [[a]]
  | x :: r => (a :: x) :: r
def segs : List Nat → List (List Nat)
  | [] => [[]]
  | [a] => [[a]]
  | [a, b] => [[a, b]]
  | a :: b :: c :: r => if a = 46 ∧ b = 46 ∧ c = 46 then [] :: segs r else consHd a (segs (b :: c :: r))
theorem segs_ne : ∀ l, segs l ≠ []
  | [] => by simp [segs]
  | [a] => by simp [segs]
  | [a, b] => by simp [segs]
  | a :: b :: c :: r => by
    rw [segs]
    split
    · simp
    · cases segs (b :: c :: r) <;> simp [consHd]
theorem segs_dots {l : List Nat} (h : l.take 3 = dots) : segs l = [] :: segs (l.drop 3) := by
  match l, h with
  | a :: b :: c :: r, h =>
    simp at h
    obtain ⟨rfl, rfl, rfl⟩ := h
    rw [segs, if_pos ⟨rfl, rfl, rfl⟩]
    rfl
theorem segs_other {a : Nat} {r : List Nat} (h : (a :: r).take 3 ≠ dots) : segs (a :: r) = consHd a (segs r) := by
  match r, h with
  | [], _ => simp [segs, consHd]
  | [b], _ => simp [segs, consHd]
  | b :: c :: r, h =>
    rw [segs, if_neg]
    rintro ⟨rfl, rfl, rfl⟩
    exact h rfl

def cutsF : List Nat → Nat → Nat → List Nat
  | [], _, _ => []
  | c :: r, i, free => if free ≤ i ∧ (c :: r).take 3 = dots then i :: cutsF r (i + 1) (i + 3) else cutsF r (i + 1) free
theorem cutsF_skip : ∀ (k : Nat) (l : List Nat) (i free : Nat), i + k = free → cutsF l i free = cutsF (l.drop k) (i + k) free
  | 0, l, i, free, _ => by simp
  | k + 1, [], i, free, _ => by simp [cutsF]
  | k + 1, c :: r, i, free, h => by
    rw [cutsF, if_neg (by omega), cutsF_skip k r (i + 1) free (by omega)]
    simp only [List.drop_succ_cons]
    congr 1
    omega

theorem occ_run (l : List Nat) (lim : Nat) : ∀ (m i : Nat) (found : Array Nat) (free : Nat), i + m = l.length + 1 → found.size + m ≤ lim →
    (forIn (List.range' i m) (found, free) (StrLaws.occBody (tx l) (tx dots) l.length lim)).run.fst.toList = found.toList ++ cutsF (l.drop i) i free
  | 0, i, found, free, hi, _ => by
    have : l.drop i = [] := List.drop_eq_nil_of_le (by omega)
    rw [this]
    simp [cutsF]
  | m + 1, i, found, free, hi, hs => by
    rw [List.range'_succ, List.forIn_cons]
    have hsub : Builtin.Str.subAt (tx l) (tx dots) i = ((l.drop i).take 3 == dots) := by rw [StrLaws.subAt_eq, tx_toList, tx_toList, tx_length]; rfl
    have hlen : (tx dots).length = 3 := rfl
    by_cases hm : free ≤ i ∧ (l.drop i).take 3 = dots
    · have hl3 : i + 3 ≤ l.length := by
        have := congrArg List.length hm.2
        simp only [List.length_take, List.length_drop, List.length_cons, List.length_nil] at this
        omega
      have hb : StrLaws.occBody (tx l) (tx dots) l.length lim i (found, free) = pure (ForInStep.yield (found.push i, i + 3)) := by
        unfold StrLaws.occBody
        rw [if_pos]
        · rfl
        · simp only [hsub, hlen, Bool.and_eq_true, decide_eq_true_eq, beq_iff_eq]
          exact ⟨⟨⟨by omega, hm.1⟩, hl3⟩, hm.2⟩
      rw [hb]
      show (forIn (List.range' (i + 1) m) (found.push i, i + 3) (StrLaws.occBody (tx l) (tx dots) l.length lim)).run.fst.toList = _
      rw [occ_run l lim m (i + 1) (found.push i) (i + 3) (by omega) (by rw [Array.size_push]; omega)]
      rw [drop_cons (k := i) (by omega), cutsF, if_pos ⟨hm.1, by rw [← drop_cons (k := i) (by omega)]; exact hm.2⟩]
      simp
    · have hb : StrLaws.occBody (tx l) (tx dots) l.length lim i (found, free) = pure (ForInStep.yield (found, free)) := by
        unfold StrLaws.occBody
        rw [if_neg]
        simp only [hsub, hlen, Bool.and_eq_true, decide_eq_true_eq, beq_iff_eq]
        rintro ⟨⟨⟨_, a⟩, _⟩, b⟩
        exact hm ⟨a, b⟩
      rw [hb]
      show (forIn (List.range' (i + 1) m) (found, free) (StrLaws.occBody (tx l) (tx dots) l.length lim)).run.fst.toList = _
      rw [occ_run l lim m (i + 1) found free (by omega) (by omega)]
      by_cases hi' : i < l.length
      · rw [drop_cons (k := i) hi', cutsF, if_neg (by rw [← drop_cons (k := i) hi']; exact hm)]
      · have e1 : l.drop i = [] := List.drop_eq_nil_of_le (by omega)
        have e2 : l.drop (i + 1) = [] := List.drop_eq_nil_of_le (by omega)
        rw [e1, e2]
        simp [cutsF]
theorem occ_cuts (l : List Nat) : Builtin.Str.occurrences (tx l) (tx dots) 0 (tx l).length ((tx l).length + 1) = cutsF l 0 0 := by
  rw [StrLaws.occ_eq, tx_length]
  have := occ_run l (l.length + 1) (l.length + 1) 0 #[] 0 (by omega) (by simp)
  simpa using this

def preHd (p : List Nat) : List (List Nat) → List (List Nat)
  | [] => [p]
  | x :: r => (p ++ x) :: r
theorem strSub_tx (l : List Nat) (i j : Nat) : Builtin.Str.strSub (tx l) i j = tx ((l.drop i).take (j - i)) := by
  apply Str.ext'
  apply Array.ext'
  rw [StrLaws.strSub_toList, tx_toList, tx_toList]
theorem parts_segs (l : List Nat) : ∀ (m i a : Nat), l.length - i ≤ m → a ≤ i → i ≤ l.length → StrLaws.partsFrom (tx l) 3 a (cutsF (l.drop i) i i) = (preHd ((l.drop a).take (i - a)) (segs (l.drop i))).map tx
  | 0, i, a, hm, ha, hi => by
    have e : i = l.length := by omega
    subst e
    rw [List.drop_length]
    simp only [cutsF, StrLaws.partsFrom, segs, preHd, List.map_cons, List.map_nil, List.append_nil, strSub_tx, tx_length]
  | m + 1, i, a, hm, ha, hi => by
    by_cases hl : i < l.length
    · rw [drop_cons hl]
      by_cases hd : (l.getD i 0 :: l.drop (i + 1)).take 3 = dots
      · rw [cutsF, if_pos ⟨Nat.le_refl _, hd⟩]
        have hl3 : i + 3 ≤ l.length := by
          have := congrArg List.length hd
          simp only [List.length_take, List.length_drop, List.length_cons, List.length_nil] at this
          omega
        rw [cutsF_skip 2 (l.drop (i + 1)) (i + 1) (i + 3) (by omega), List.drop_drop, StrLaws.partsFrom, segs_dots hd, strSub_tx]
        have e1 : i + 1 + 2 = i + 3 := by omega
        rw [e1, parts_segs l m (i + 3) (i + 3) (by omega) (Nat.le_refl _) hl3]
        have e2 : (l.getD i 0 :: l.drop (i + 1)).drop 3 = l.drop (i + 3) := by rw [← drop_cons hl, List.drop_drop]
        rw [e2]
        have e3 : ((l.drop (i + 3)).take (i + 3 - (i + 3))) = [] := by simp
        rw [e3]
        cases hs : segs (l.drop (i + 3)) with
        | nil => exact absurd hs (segs_ne _)
        | cons x r => simp [preHd]
      · rw [cutsF, if_neg (fun q => hd q.2), segs_other hd]
        have e0 : cutsF (l.drop (i + 1)) (i + 1) i = cutsF (l.drop (i + 1)) (i + 1) (i + 1) := by
          cases hr : l.drop (i + 1) with
          | nil => simp [cutsF]
          | cons c r =>
            rw [cutsF, cutsF]
            by_cases q : (c :: r).take 3 = dots
            · rw [if_pos ⟨by omega, q⟩, if_pos ⟨by omega, q⟩]
            · rw [if_neg (fun z => q z.2), if_neg (fun z => q z.2)]
              clear hr
              suffices H : ∀ (r : List Nat) (j f1 f2 : Nat), f1 ≤ j → f2 ≤ j → cutsF r j f1 = cutsF r j f2 from H r _ _ _ (by omega) (by omega)
              intro r
              induction r with
              | nil => intros; simp [cutsF]
              | cons d r ih =>
                intro j f1 f2 h1 h2
                rw [cutsF, cutsF]
                by_cases q : (d :: r).take 3 = dots
                · rw [if_pos ⟨h1, q⟩, if_pos ⟨h2, q⟩]
                · rw [if_neg (fun z => q z.2), if_neg (fun z => q z.2)]
                  exact ih _ _ _ (by omega) (by omega)
        rw [e0, parts_segs l m (i + 1) a (by omega) (by omega) (by omega)]
        have e4 : (l.drop a).take (i + 1 - a) = (l.drop a).take (i - a) ++ [l.getD i 0] := by
          have e5 : i + 1 - a = (i - a) + 1 := by omega
          rw [e5, List.take_add_one, List.getElem?_drop]
          have e6 : a + (i - a) = i := by omega
          rw [e6, List.getElem?_eq_getElem hl, List.getD_eq_getElem?_getD, List.getElem?_eq_getElem hl]
          rfl
        rw [e4]
        cases hs : segs (l.drop (i + 1)) with
        | nil => exact absurd hs (segs_ne _)
        | cons x r => simp [preHd, consHd]
    · have e : i = l.length := by omega
      subst e
      rw [List.drop_length]
      simp only [cutsF, StrLaws.partsFrom, segs, preHd, List.map_cons, List.map_nil, List.append_nil, strSub_tx, tx_length]
theorem strKind_pos (x : Str) : ¬ Builtin.Str.strKind x < 1 := by
  unfold Builtin.Str.strKind
  split
  · omega
  · split <;> omega
theorem split_segs {l : List Nat} (h : inB dots l = true) : Txt.split (tx l) (tx dots) = (segs l).map tx := by
  obtain ⟨i, h1, h2⟩ := (inB_iff dots l).mp h
  have hk : Builtin.Str.strKind (tx dots) = 1 := by decide +kernel
  unfold Txt.split
  have hl : ¬ (tx l).length < (tx dots).length := by rw [tx_length, tx_length]; omega
  rw [if_neg (by rw [hk]; simp only [Bool.or_eq_true, decide_eq_true_eq]; rintro (q | q); exact hl q; exact strKind_pos _ q)]
  have ho : ¬ ((Builtin.Str.occurrences (tx l) (tx dots) 0 (tx l).length ((tx l).length + 1)).isEmpty = true) := by
    intro q
    rcases StrLaws.occ_head (tx l) (tx dots) ((tx l).length + 1) (by omega) with ⟨e, hn⟩ | ⟨j, r, e, _⟩
    · refine hn i ((at_iff l dots _ i).mpr ?_)
      rw [tx_length]
      simp only [fits, Bool.and_eq_true, decide_eq_true_eq, beq_iff_eq]
      exact ⟨h1, h2⟩
    · rw [e] at q; cases q
  rw [if_neg ho, StrLaws.partsBetween_eq, occ_cuts]
  have := parts_segs l l.length 0 0 (by omega) (Nat.le_refl _) (Nat.zero_le _)
  simp only [List.drop_zero, Nat.sub_zero, List.take_zero] at this
  have hlen : (tx dots).length = 3 := rfl
  rw [hlen, this]
  cases hs : segs l with
  | nil => exact absurd hs (segs_ne _)
  | cons x r => rfl
section
variable {prog : Program} {w : World} {A : Around} {s : Shared} {h : Heap} {tk : Nat} {P : Params} {g : Heap} {K0 : Addr → Obj → Prop} {L : Addr} {ns : List Str} {vs : List (Option Value)} {mu D : List (Addr × Obj)}
  {nm : Str} {sc : Scope} {a : Addr} {cd : Value} {E : Value → Shared → Prop} {n : Nat} {env : Env} {pos : Pos} {id : String} {Q : Value → Shared → Prop} {e e1 e2 e3 : Expr}
theorem r_callM1 {o : Value} (k : wpAny (model prog w) A (eval e env) (fun v s₁ => wpAny (model prog w) A (call (.builtin id) [o, v]) Q E s₁) E (st s h tk))
    (h1 : starEach [e] env = [(false, eval e env)]) : wpAny (model prog w) A (callWith pos (.builtin id) [o] (backTo pos (starEach [e] env)) []) Q E (st s h tk) :=
  callWith_method1 (spliced_more (wpAny_mono k (fun _ _ q => spliced_none q) fun _ _ x => x) h1) h1 rfl
theorem r_callM3 {o : Value} (k : wpAny (model prog w) A (eval e1 env) (fun v1 s₁ => wpAny (model prog w) A (eval e2 env) (fun v2 s₂ => wpAny (model prog w) A (eval e3 env) (fun v3 s₃ => wpAny (model prog w) A (call (.builtin id) [o, v1, v2, v3]) Q E s₃) E s₂) E s₁) E (st s h tk))
    (h1 : starEach [e1, e2, e3] env = (false, eval e1 env) :: starEach [e2, e3] env) (h2 : starEach [e2, e3] env = (false, eval e2 env) :: starEach [e3] env) (h3 : starEach [e3] env = [(false, eval e3 env)])
    (h4 : ((backTo pos (starEach [e2, e3] env)).any fun x => x.1) = false) : wpAny (model prog w) A (callWith pos (.builtin id) [o] (backTo pos (starEach [e1, e2, e3] env)) []) Q E (st s h tk) :=
  callWith_method1 (spliced_more (wpAny_mono k (fun _ _ q => spliced_more (wpAny_mono q (fun _ _ q => spliced_more (wpAny_mono q (fun _ _ q => spliced_none q) fun _ _ x => x) h3) fun _ _ x => x) h2) fun _ _ x => x) h1) h1 h4
theorem r_callB1 (k : wpAny (model prog w) A (eval e env) (fun v s₁ => wpAny (model prog w) A (call (.builtin id) [v]) Q E s₁) E (st s h tk))
    (h1 : starEach [e] env = [(false, eval e env)]) : wpAny (model prog w) A (callWith pos (.builtin id) [] (backTo pos (starEach [e] env)) []) Q E (st s h tk) :=
  PyProof.Rows.callWith_builtin1 (spliced_more (wpAny_mono k (fun _ _ q => spliced_none q) fun _ _ x => x) h1) h1 rfl
theorem r_tup2 {kk : Nat} (k : wpAny (model prog w) A (eval e1 env) (fun v1 s₁ => wpAny (model prog w) A (eval e2 env) (fun v2 s₂ => wpAny (model prog w) A (newTuple [v1, v2]) Q E s₂) E s₁) E (st s h tk))
    (h1 : starEach [e1, e2] env = (false, eval e1 env) :: starEach [e2] env) (h2 : starEach [e2] env = [(false, eval e2 env)]) : wpAny (model prog w) A (eval (.Tuple [e1, e2] kk pos) env) Q E (st s h tk) :=
  Tuple_ (spliced_more (wpAny_mono k (fun _ _ q => spliced_more (wpAny_mono q (fun _ _ q => spliced_none q) fun _ _ x => x) h2) fun _ _ x => x) h1)
theorem r_itemL_m1 {value slice : Expr} {b : Addr} {l : List Value} {m : Nat} {u : Tok} (ho : h.get? b = some (lo l m)) (h0 : l ≠ []) (hl : l.length ≤ 1000000)
    (hs : subscripted slice false (.ref b) (.int (-1) u) = operate [.ref b, .int (-1) u] (getItem (.ref b) (.int (-1) u))) (k : Q (l.getLastD .none) (st s h tk)) :
    wpAny (model prog w) A (subscriptTail value slice (.ref b) (.int (-1) u)) Q E (st s h tk) := by
  have e : l = l.dropLast ++ [l.getLastD .none] := by
    rw [List.getLastD_eq_getLast?, List.getLast?_eq_some_getLast h0]
    exact (List.dropLast_concat_getLast h0).symm
  rw [e] at ho
  exact r_itemL_last ho (by rw [List.length_dropLast]; omega) hs k
theorem r_pair {elts : List Expr} {kk : Nat} {b : Addr} {x1 x2 : Str} {p1 p2 : Pos} {v1 v2 : Value} {Q : Unit → Shared → Prop} (hS : S P g K0 L ns vs mu D h) (ho : h.get? b = some (to [v1, v2])) (hh : A.handled = none)
    (h1 : hasv ns vs x1 = true) (h2 : hasv ns (putv ns vs x1 v1) x2 = true) (hk : sc.kind = .function) (hl1 : (envOf nm sc L a cd).kindOf x1 = some .local) (hl2 : (envOf nm sc L a cd).kindOf x2 = some .local)
    (k : ∀ h' tk', S P g K0 L ns (putv ns (putv ns vs x1 v1) x2 v2) mu D h' → Q () (st s h' tk')) :
    wpAny (model prog w) A (assign (.Tuple [.Name x1 p1, .Name x2 p2] kk pos) (envOf nm sc L a cd) (.ref b)) Q E (st s h tk) := by
  refine r_unpack hS ho hh rfl rfl fun h' hS' => ?_
  refine assignInOrder_cons (r_asgName (r_st hS' h1 hk hl1 fun h'' hS'' => ?_))
  refine assignInOrder_cons (r_asgName (r_st hS'' h2 hk hl2 fun h3 hS3 => ?_))
  exact assignInOrder_nil (k _ _ hS3)
theorem r_swap2 {b : Addr} {x1 x2 : Str} {v1 v2 : Value} {Q : Unit → Shared → Prop} (hS : S P g K0 L ns vs mu D h) (ho : h.get? b = some (to [v1, v2])) (hh : A.handled = none)
    (h1 : hasv ns vs x2 = true) (h2 : hasv ns (putv ns vs x2 v2) x1 = true) (hk : sc.kind = .function) (hl1 : (envOf nm sc L a cd).kindOf x2 = some .local) (hl2 : (envOf nm sc L a cd).kindOf x1 = some .local)
    (k : ∀ h' tk', S P g K0 L ns (putv ns (putv ns vs x2 v2) x1 v1) mu D h' → Q () (st s h' tk')) :
    wpAny (model prog w) A (unpackItems (.ref b) ([x1, x2] : List Str).length none) (fun items s₂ => wpAny (model prog w) A (assignInOrder (([x1, x2] : List Str).reverse.map fun n => bindName (envOf nm sc L a cd) n) items.reverse) Q E s₂) E (st s h tk) := by
  refine unpackItemsN_ (s := st s h tk) hS.fr hS.nw (isTup_to ho) hh (by simp) fun h' F N => ?_
  have hS' := hS.chg F N
  show wpAny (model prog w) A (assignInOrder [bindName (envOf nm sc L a cd) x2, bindName (envOf nm sc L a cd) x1] [v2, v1]) Q E (st s h' tk)
  refine assignInOrder_cons (wpAny_bindName (r_st hS' h1 hk hl1 fun h'' hS'' => ?_))
  refine assignInOrder_cons (wpAny_bindName (r_st hS'' h2 hk hl2 fun h3 hS3 => ?_))
  exact assignInOrder_nil (k _ _ hS3)
theorem r_itemLv {value slice : Expr} {b : Addr} {l : List Value} {m : Nat} {i : Int} {u : Tok} {v : Value} (ho : h.get? b = some (lo l m)) (h0 : 0 ≤ i) (h1 : i < l.length) (hl : l.length ≤ 1000000) (hx : l.getD i.toNat .none = v)
    (hs : subscripted slice false (.ref b) (.int i u) = operate [.ref b, .int i u] (getItem (.ref b) (.int i u))) (k : Q v (st s h tk)) :
    wpAny (model prog w) A (subscriptTail value slice (.ref b) (.int i u)) Q E (st s h tk) := r_itemL ho h0 h1 hl hs (hx ▸ k)
theorem r_itemLm1v {value slice : Expr} {b : Addr} {l : List Value} {m : Nat} {u : Tok} {v : Value} (ho : h.get? b = some (lo l m)) (h0 : l ≠ []) (hl : l.length ≤ 1000000) (hx : l.getLastD .none = v)
    (hs : subscripted slice false (.ref b) (.int (-1) u) = operate [.ref b, .int (-1) u] (getItem (.ref b) (.int (-1) u))) (k : Q v (st s h tk)) :
    wpAny (model prog w) A (subscriptTail value slice (.ref b) (.int (-1) u)) Q E (st s h tk) := r_itemL_m1 ho h0 hl hs (hx ▸ k)
theorem t_find4c {a b : List Nat} {t u v z : Tok} {i j : Nat} (hj : j ≤ a.length) (k0 : findL a b i j = none → ∀ t' tk', Q (.int (-1) t') (st s h tk')) (k1 : ∀ k, findL a b i j = some k → ∀ t' tk', Q (.int (k : Int) t') (st s h tk')) :
    wpAny (model prog w) A (call (.builtin "str.find") [.str (tx a) t, .str (tx b) u, .int (i : Int) v, .int (j : Int) z]) Q E (st s h tk) :=
  t_find4 hj fun t' tk' => by
    cases q : findL a b i j with
    | none => exact k0 q _ _
    | some k => exact k1 k q _ _
theorem t_neg {x : Int} {t : Tok} (k : ∀ t' tk', Q (.int (-x) t') (st s h tk')) : wpAny (model prog w) A (unaryOp .USub (.int x t)) Q E (st s h tk) := neg_int (s := st s h tk) (k _ _)
theorem get_mu0 {b : Addr} {o : Obj} (hS : S P g K0 L ns vs ((b, o) :: mu) D h) : h.get? b = some o := hS.mem (.head _)
theorem get_mu1 {b : Addr} {p : Addr × Obj} {o : Obj} (hS : S P g K0 L ns vs (p :: (b, o) :: mu) D h) : h.get? b = some o := hS.mem (.tail _ (.head _))
theorem get_mu2 {b : Addr} {p q : Addr × Obj} {o : Obj} (hS : S P g K0 L ns vs (p :: q :: (b, o) :: mu) D h) : h.get? b = some o := hS.mem (.tail _ (.tail _ (.head _)))
theorem get_D0 {b : Addr} {o : Obj} (hS : S P g K0 L ns vs mu ((b, o) :: D) h) : h.get? b = some o := hS.kn b o (.inr (.head _))
theorem get_K0 {b : Addr} {o : Obj} (hS : S P g K0 L ns vs mu D h) (hk : K0 b o) : h.get? b = some o := hS.kn b o (.inl hk)
end
theorem r_ifb {c : Bool} {X Y : Prop} (ht : c = true → X) (hf : c = false → Y) : if c = true then X else Y := by
  cases c
  · exact hf rfl
  · exact ht rfl
theorem r_ifnb {c : Bool} {X Y : Prop} (ht : c = false → X) (hf : c = true → Y) : if (!c) = true then X else Y := by
  cases c
  · exact ht rfl
  · exact hf rfl
local macro_rules | `(tactic| walk_at "m") => `(tactic| first
  | ((with_reducible refine' MethodCall_ ?_ ?m1); (case m1 => with_unfolding_all rfl))
  | ((with_reducible refine r_callM1 ?_ ?m1); (case m1 => rfl))
  | ((with_reducible refine r_callM3 ?_ ?m1 ?m2 ?m3 ?m4); (case m1 => rfl); (case m2 => rfl); (case m3 => rfl); (case m4 => rfl))
  | ((with_reducible refine r_callB1 ?_ ?m1); (case m1 => rfl))
  | ((with_reducible refine r_tup2 ?_ ?m1 ?m2); (case m1 => rfl); (case m2 => rfl))
  | ((with_reducible refine' r_newTuple ?S ?m1 ?_); (case S => assumption); (case m1 => exact Nat.le_of_ble_eq_true rfl); intro b h hS)
  | ((with_reducible refine Assign_Tuple ?_ ?m1 ?m2); (case m1 => with_unfolding_all rfl); (case m2 => with_unfolding_all rfl))
  | ((with_reducible refine' Assign_Tuple_swapped (names := [_, _]) ?_ ?m1 ?m2); (case m1 => with_unfolding_all rfl); (case m2 => with_unfolding_all rfl))
  | ((with_reducible refine' r_swap2 ?S ?m1 ?m2 ?m3 ?m4 ?m5 ?m6 ?m7 ?_); (case S => assumption); (case m2 => exact Okay.hh (by assumption)); (case m5 => rfl); (case m6 => rfl); (case m7 => rfl); (case m1 => exact get_D0 (by assumption)); (case m3 => rfl); (case m4 => rfl); intro h tk hS)
  | ((with_reducible refine' r_pair ?S ?m1 ?m2 ?m3 ?m4 ?m5 ?m6 ?m7 ?_); (case S => assumption); (case m2 => exact Okay.hh (by assumption)); (case m5 => rfl); (case m6 => rfl); (case m7 => rfl); (case m3 => rfl); (case m4 => rfl); (case m1 => exact get_D0 (by assumption)); intro h tk hS)
  | with_reducible refine GM.split ?_
  | with_reducible refine GM.startswith ?_
  | with_reducible refine GM.endswith ?_
  | with_reducible refine GM.find ?_
  | with_reducible refine GM.join ?_
  | with_reducible refine ge_int ?_
  | with_reducible refine gt_int ?_
  | with_reducible refine t_starts ?_
  | with_reducible refine t_ends ?_
  | with_reducible refine Constant_bool ?_
  | with_reducible refine Constant_none ?_
  | with_reducible refine UnaryOp_ ?_
  | ((with_reducible refine t_truthy ?m1 ?_); (case m1 => first | assumption | omega); intro tk)
  | ((with_reducible refine isTrue_plain ?_ ?m1); (case m1 => rfl))
  | with_reducible refine wpAny_Delete ?_
  | with_reducible refine wpAny_deleteEach_cons ?_
  | with_reducible refine wpAny_deleteEach_nil ?_
  | with_reducible refine wpAny_delete_Subscript ?_
  | ((with_reducible refine t_isubi ?_); intro t tk)
  | ((with_reducible refine t_neg ?_); intro t tk)
  | ((with_reducible refine wpAny_Compare1 ?_ ?m1); (case m1 => with_unfolding_all rfl)))

def scanL (got : List Nat) (ep : Nat) : List (List Nat) → Nat → Bool
  | [], _ => true
  | w :: r, sp => match findL got w sp ep with
    | none => false
    | some i => scanL got ep r (i + w.length)
def wsA (ss : List (List Nat)) : List (List Nat) := if ss.headD [] = [] then ss else ss.tail
def wsB (ss : List (List Nat)) : List (List Nat) := if (wsA ss).getLastD [] = [] then wsA ss else (wsA ss).dropLast
def ellS (ss : List (List Nat)) (got : List Nat) : Bool :=
  if (ss.headD []).isPrefixOf got = false then false
  else if ((wsA ss).getLastD []).isSuffixOf got = false then false
  else if got.length - ((wsA ss).getLastD []).length < (ss.headD []).length then false
  else scanL got (got.length - ((wsA ss).getLastD []).length) (wsB ss) (ss.headD []).length
def ellL (want got : List Nat) : Bool := if inB dots want = false then decide (want = got) else ellS (segs want) got

theorem segs_len : ∀ l : List Nat, inB dots l = true → 2 ≤ (segs l).length := by
  intro l h
  obtain ⟨i, h1, h2⟩ := (inB_iff dots l).mp h
  suffices H : ∀ (k : Nat) (l : List Nat) (i : Nat), l.length ≤ k → i + 3 ≤ l.length → (l.drop i).take 3 = dots → 2 ≤ (segs l).length from H _ l i (Nat.le_refl _) h1 h2
  intro k
  induction k with
  | zero => intro l i a b _; omega
  | succ k ih =>
    intro l i hk hi hd
    by_cases q : l.take 3 = dots
    · rw [segs_dots q, List.length_cons]
      cases hs : segs (l.drop 3) with
      | nil => exact absurd hs (segs_ne _)
      | cons x r => simp
    · cases l with
      | nil => simp at hi
      | cons c r =>
        cases i with
        | zero => exact absurd hd q
        | succ i =>
          rw [segs_other q]
          have := ih r i (by simp at hk; omega) (by simp at hi; omega) (by simpa using hd)
          cases hs : segs r with
          | nil => exact absurd hs (segs_ne _)
          | cons x y => rw [hs] at this; simpa [consHd] using this

theorem segs_bound : ∀ (k : Nat) (l : List Nat), l.length ≤ k → (segs l).length ≤ l.length + 1 ∧ ∀ x ∈ segs l, x.length ≤ l.length := by
  intro k
  induction k with
  | zero =>
    intro l h
    cases l with
    | nil => simp [segs]
    | cons a r => simp at h
  | succ k ih =>
    intro l h
    by_cases q : l.take 3 = dots
    · rw [segs_dots q]
      have hlen := congrArg List.length q
      simp only [List.length_take, List.length_cons, List.length_nil] at hlen
      have := ih (l.drop 3) (by rw [List.length_drop]; omega)
      rw [List.length_drop] at this
      refine ⟨by rw [List.length_cons]; omega, fun x hx => ?_⟩
      rcases List.mem_cons.mp hx with rfl | hx
      · simp
      · have := this.2 x hx; omega
    · cases l with
      | nil => simp [segs]
      | cons c r =>
        rw [segs_other q]
        have := ih r (by simp at h; omega)
        cases hs : segs r with
        | nil => exact absurd hs (segs_ne _)
        | cons x y =>
          rw [hs] at this
          simp only [consHd, List.length_cons] at this ⊢
          refine ⟨by omega, fun z hz => ?_⟩
          rcases List.mem_cons.mp hz with rfl | hz
          · have := this.2 x (.head _); simp; omega
          · have := this.2 z (.tail _ hz); omega
theorem sv_snoc (l : List (List Nat × Tok)) (q : List Nat × Tok) : sv (l ++ [q]) = sv l ++ [.str (tx q.1) q.2] := by simp [sv]
theorem snoc_of {α : Type} {l : List α} (h : l ≠ []) : ∃ r q, l = r ++ [q] := ⟨l.dropLast, l.getLast h, (List.dropLast_concat_getLast h).symm⟩
theorem findL_bound {a b : List Nat} {lo hi k : Nat} (h : findL a b lo hi = some k) : lo ≤ k ∧ k + b.length ≤ hi := by
  unfold findL at h
  have h1 := List.mem_of_find?_eq_some h
  have h2 := List.find?_some h
  simp only [fits, Bool.and_eq_true, decide_eq_true_eq, beq_iff_eq] at h2
  exact ⟨(List.mem_range'_1.mp h1).1, h2.1⟩

structure EA where
  lw : List (List Nat × Tok)
  m : Nat
  sp : Int
  ep : Int
  t1 : Tok
  t2 : Tok
  w : List Nat
  t3 : Tok
  D : List (Addr × Obj)
theorem sv_length (l : List (List Nat × Tok)) : (sv l).length = l.length := by simp [sv]
theorem sv_getD {l : List (List Nat × Tok)} {i : Nat} (hi : i < l.length) : (sv l).getD i .none = .str (tx (l.getD i ([], 0)).1) (l.getD i ([], 0)).2 := by
  unfold sv
  rw [List.getD_eq_getElem?_getD, List.getElem?_map, List.getD_eq_getElem?_getD, List.getElem?_eq_getElem hi]
  rfl

theorem ell_spec {prog : Program} {w : World} {h : Heap} {l x : List Nat} {t u : Tok} {n : Nat} (T : TopOk w.params h) (hl : l.length ≤ 1000) (hx : x.length ≤ 1000) (hn : n ≤ 800) :
    Pure prog w n 38 [.str (tx l) t, .str (tx x) u] h (fun _ v => v = .bool (ellL l x)) := by
  refine enter (K0 := fun _ _ => False) (ns := [Str.ofString "want", Str.ofString "got", Str.ofString "ws", Str.ofString "startpos", Str.ofString "endpos", Str.ofString "w"]) (vs := [some (.str (tx l) t), some (.str (tx x) u), none, none, none, none]) T (fun _ _ e => e.elim) rfl rfl (by show n < 1000; omega) rfl rfl rfl rfl ?_
  intro A L s h tk hO hS Q0 hQ0
  walk_at "m"
  walk_at "m"
  walk_at "m"
  refine r_ldgS (l := dots) (by assumption) (by rfl) (by decide) (by rfl) (by rfl) (by decide) ?_
  repeat walk_at "m"
  refine t_notinS ?_
  repeat walk_at "m"
  refine r_ifnb (fun hc => ?_) (fun hc => ?_)
  · repeat walk_at "m"
    refine ⟨_, rfl, S.back (by assumption) ?_⟩
    unfold ellL
    rw [if_pos hc]
  repeat walk_at "m"
  refine r_ldgS (l := dots) (by assumption) (by rfl) (by decide) (by rfl) (by rfl) (by decide) ?_
  repeat walk_at "m"
  refine t_split (by assumption) (by decide) (by omega) (split_segs hc) ?_
  intro c lw h tk hw hS
  repeat walk_at "m"
  refine wpAny_Assert_holds ?_
  repeat walk_at "m"
  have hlw : lw.length = (segs l).length := by rw [← hw, List.length_map]
  have hsl := segs_len l hc
  have hb := segs_bound _ l (Nat.le_refl _)
  have hlb : ∀ p ∈ lw, p.1.length ≤ 1000 := fun p hp => by
    have := hb.2 p.1 (by rw [← hw]; exact List.mem_map_of_mem hp)
    omega
  have hsl2 : lw.length ≤ 2000 := by omega
  refine r_lenL (get_mu0 (by assumption)) (by rw [sv_length]; omega) ?_
  intro t5 tk5
  repeat walk_at "m"
  refine ⟨by rw [sv_length]; exact decide_eq_true (by omega), ?_⟩
  obtain ⟨p0, lr, rfl⟩ : ∃ p r, lw = p :: r := by
    cases lw with
    | nil => simp at hlw; omega
    | cons p r => exact ⟨p, r, rfl⟩
  have hlr : 1 ≤ lr.length ∧ lr.length ≤ 1000 ∧ (segs l).length = lr.length + 1 := by rw [List.length_cons] at hlw; omega
  obtain ⟨w0, u0⟩ := p0
  have hw0b : w0.length ≤ 1000 := hlb (w0, u0) (.head _)
  repeat walk_at "m"
  refine r_itemLv (v := .str (tx w0) u0) (get_mu0 (by assumption)) (by omega) (by rw [sv_length, List.length_cons]; omega) (by rw [sv_length]; omega) rfl (by with_unfolding_all rfl) ?_
  walk_at "m"
  walk_at "m"
  have hss : segs l = w0 :: lr.map (·.1) := by rw [← hw]; rfl
  have hhd : (segs l).headD [] = w0 := by rw [hss]; rfl
  have hE : ellL l x = ellS (segs l) x := by unfold ellL; rw [if_neg (by rw [hc]; exact Bool.true_eq_false.mp)]
  refine r_cut (σ := EA) (by assumption) (fun y => [some (.str (tx l) t), some (.str (tx x) u), some (.ref c), some (.int y.sp y.t1), some (.int y.ep y.t2), some (.str (tx y.w) y.t3)]) (fun y => [(c, lo (sv y.lw) y.m)]) (fun y => y.D)
    (fun y => y.lw.map (·.1) = wsA (segs l) ∧ w0.isPrefixOf x = true ∧ y.sp = w0.length ∧ y.ep = x.length) ?_ ?_
  · rintro ⟨lw1, m1, sp, ep, t1, t2, w1, t3, D1⟩ h tk hS ⟨hA, hpre, hsp, hep⟩
    dsimp only at hS hA hsp hep
    subst hsp hep
    have hA0 : wsA (segs l) ≠ [] := by
      unfold wsA
      rw [hhd, hss]
      split
      · simp
      · intro e
        rw [List.tail_cons] at e
        have := congrArg List.length e
        rw [List.length_map, List.length_nil] at this
        omega
    obtain ⟨ys, ⟨wl, ul⟩, rfl⟩ := snoc_of (l := lw1) (fun e => hA0 (by rw [← hA, e]; rfl))
    rw [sv_snoc] at hS
    have hlast : (wsA (segs l)).getLastD [] = wl := by rw [← hA]; simp
    have hwl : wl.length ≤ 1000 ∧ ys.length ≤ 2000 := by
      have h1 : wl ∈ wsA (segs l) := by rw [← hA]; simp
      have h2 : wsA (segs l) = segs l ∨ wsA (segs l) = (segs l).tail := by unfold wsA; split <;> simp
      have h3 : ∀ z ∈ wsA (segs l), z ∈ segs l := by
        intro z hz
        rcases h2 with e | e
        · rw [e] at hz; exact hz
        · rw [e] at hz; exact List.mem_of_mem_tail hz
      have h4 : (wsA (segs l)).length ≤ (segs l).length := by
        rcases h2 with e | e
        · rw [e]; exact Nat.le_refl _
        · rw [e, List.length_tail]; omega
      have h5 := congrArg List.length hA
      simp only [List.length_map, List.length_append, List.length_cons, List.length_nil] at h5
      have := hb.2 wl (h3 wl h1)
      omega
    repeat walk_at "m"
    refine r_itemLm1v (v := .str (tx wl) ul) (get_mu0 (by assumption)) (by simp) (by rw [List.length_append, sv_length, List.length_singleton]; omega) (by simp) (by with_unfolding_all rfl) ?_
    walk_at "m"
    walk_at "m"
    have hB : (ys.map (·.1) ++ [wl]) = wsA (segs l) := by rw [← hA]; simp
    refine r_cut (σ := EA) (by assumption) (fun y => [some (.str (tx l) t), some (.str (tx x) u), some (.ref c), some (.int y.sp y.t1), some (.int y.ep y.t2), some (.str (tx y.w) y.t3)]) (fun y => [(c, lo (sv y.lw) y.m)]) (fun y => y.D)
      (fun y => y.lw.map (·.1) = wsB (segs l) ∧ wl.isSuffixOf x = true ∧ y.sp = w0.length ∧ y.ep = ((x.length - wl.length : Nat) : Int)) ?_ ?_
    · rintro ⟨lw2, m2, sp, ep, t1, t2, w1, t3, D2⟩ h tk hS ⟨hB2, hsuf, hsp, hep⟩
      dsimp only at hS hB2 hsp hep
      subst hsp hep
      have hE2 : ellS (segs l) x = if x.length - wl.length < w0.length then false else scanL x (x.length - wl.length) (wsB (segs l)) w0.length := by
        unfold ellS
        rw [hhd, hlast, if_neg (by rw [hpre]; exact Bool.true_eq_false.mp), if_neg (by rw [hsuf]; exact Bool.true_eq_false.mp)]
      have hl2 : lw2.length ≤ 2001 := by
        have h1 := congrArg List.length hB2
        have h2 : (wsB (segs l)).length ≤ (wsA (segs l)).length := by
          unfold wsB
          split
          · exact Nat.le_refl _
          · rw [List.length_dropLast]; omega
        have h3 := congrArg List.length hB
        simp only [List.length_map, List.length_append, List.length_cons, List.length_nil] at h1 h3
        omega
      have hlb2 : ∀ p ∈ lw2, p.1.length ≤ 1000 := by
        intro p hp
        have h1 : p.1 ∈ wsB (segs l) := by rw [← hB2]; exact List.mem_map_of_mem hp
        have h2 : p.1 ∈ wsA (segs l) := by
          unfold wsB at h1
          split at h1
          · exact h1
          · exact List.dropLast_subset _ h1
        have h3 : p.1 ∈ segs l := by
          unfold wsA at h2
          split at h2
          · exact h2
          · exact List.mem_of_mem_tail h2
        have := hb.2 p.1 h3
        omega
      repeat walk_at "m"
      refine @r_if _ _ _ _ (fun hlt => ?_) (fun hlt => ?_)
      · repeat walk_at "m"
        refine ⟨_, rfl, S.back (by assumption) ?_⟩
        rw [hE, hE2, if_pos (by omega)]
      · walk_at "m"
        walk_at "m"
        refine r_cons ?_
        intro Qf hQf
        have hS := S.freeze (by assumption)
        refine r_forX (σ := Nat × Tok × Option Value) hS ?_ hO.hh (by intro _; with_unfolding_all rfl)
        intro Qi hQi
        repeat walk_at "m"
        refine ⟨c, sv lw2, m2, _, _, _, _, _, rfl, hS, rfl, .inr (.head _), (fun i y => [some (.str (tx l) t), some (.str (tx x) u), some (.ref c), some (.int (y.1 : Int) y.2.1), some (.int ((x.length - wl.length : Nat) : Int) t2), y.2.2]), (fun _ _ => []), (fun _ _ => (c, lo (sv lw2) m2) :: D2),
          (fun i y => scanL x (x.length - wl.length) ((lw2.drop i).map (·.1)) y.1 = scanL x (x.length - wl.length) (lw2.map (·.1)) w0.length), ⟨w0.length, t1, some (.str (tx w1) t3)⟩, rfl, rfl, rfl, rfl, fun _ _ => .inr (.head _), ?_, ?_⟩
        · rintro i ⟨sp, t6, ow⟩ h tk p hi hI hS Q1 hQ1
          dsimp only at hS hI
          rw [sv_length] at hi
          rw [sv_getD hi]
          have hdr : lw2.drop i = lw2.getD i ([], 0) :: lw2.drop (i + 1) := by
            rw [List.drop_eq_getElem_cons hi, List.getD_eq_getElem?_getD, List.getElem?_eq_getElem hi]; rfl
          have hwb : (lw2.getD i ([], 0)).1.length ≤ 1000 := by
            refine hlb2 _ ?_
            rw [List.getD_eq_getElem?_getD, List.getElem?_eq_getElem hi]
            exact List.getElem_mem hi
          refine r_asgName ?_
          repeat walk_at "m"
          refine t_find4c (by omega) (fun hf => ?_) (fun kf hf => ?_)
          · intro t7 tk7
            repeat walk_at "m"
            refine @r_if _ _ _ _ (fun hneg => ?_) (fun hneg => ?_)
            · repeat walk_at "m"
              refine ⟨_, rfl, S.back (by assumption) ?_⟩
              rw [hE, hE2, if_neg (by omega), ← hB2, ← hI, hdr, List.map_cons, scanL, hf]
            · exact absurd (by decide) hneg
          · intro t7 tk7
            repeat walk_at "m"
            refine @r_if _ _ _ _ (fun hneg => ?_) (fun hneg => ?_)
            · omega
            · repeat walk_at "m"
              refine ⟨(kf + (lw2.getD i ([], 0)).1.length, _, _), _, _, rfl, by assumption, ?_⟩
              show scanL _ _ _ _ = _
              rw [← hI, hdr, List.map_cons, scanL, hf]
        · rintro ⟨sp, t6, ow⟩ h tk hI hS
          dsimp only at hS hI
          rw [sv_length, List.drop_length] at hI
          repeat walk_at "m"
          refine ⟨_, rfl, S.back (by assumption) ?_⟩
          rw [hE, hE2, if_neg (by omega), ← hB2, ← hI]
          rfl
    · intro Qb hQb
      repeat walk_at "m"
      refine @r_if _ _ _ _ (fun hw1 => ?_) (fun hw1 => ?_)
      · repeat walk_at "m"
        refine r_ifb (fun hp => ?_) (fun hp => ?_)
        · repeat walk_at "m"
          refine r_delm1 (by assumption) (by rw [List.length_append, sv_length, List.length_singleton]; omega) ?_
          intro h hS
          repeat walk_at "m"
          have hle : wl.length ≤ x.length := (List.isSuffixOf_iff_suffix.mp hp).length_le
          refine ⟨⟨ys, _, w0.length, (x.length : Int) - wl.length, _, _, wl, _, _⟩, _, _, rfl, by assumption, ?_, hp, rfl, by show (x.length : Int) - wl.length = _; omega⟩
          unfold wsB
          rw [hlast, if_neg hw1, ← hB]
          simp
        · repeat walk_at "m"
          refine ⟨_, rfl, S.back (by assumption) ?_⟩
          rw [hE]
          unfold ellS
          rw [hhd, hlast, if_neg (by rw [hpre]; exact Bool.true_eq_false.mp), if_pos hp]
      · have e : wl = [] := Classical.not_not.mp hw1
        subst e
        repeat walk_at "m"
        refine ⟨⟨ys ++ [([], ul)], _, w0.length, x.length, _, _, [], _, _⟩, _, _, rfl, by (rw [sv_snoc]; assumption), ?_, ?_, rfl, rfl⟩
        · unfold wsB
          rw [hlast, if_pos rfl, ← hA]
        · simp
  · intro Qa hQa
    repeat walk_at "m"
    refine @r_if _ _ _ _ (fun hw0 => ?_) (fun hw0 => ?_)
    · repeat walk_at "m"
      refine r_ifb (fun hp => ?_) (fun hp => ?_)
      · repeat walk_at "m"
        refine r_del0 (by assumption) (by simp only [List.length_cons, List.length_map]; omega) ?_
        intro h hS
        repeat walk_at "m"
        refine ⟨⟨lr, _, w0.length, x.length, _, _, w0, _, _⟩, _, _, rfl, by assumption, ?_, hp, rfl, rfl⟩
        unfold wsA
        rw [hhd, if_neg hw0, hss]
        rfl
      · repeat walk_at "m"
        refine ⟨_, rfl, S.back (by assumption) ?_⟩
        rw [hE]
        unfold ellS
        rw [hhd, if_pos hp]
    · have e : w0 = [] := Classical.not_not.mp hw0
      subst e
      repeat walk_at "m"
      refine ⟨⟨([], u0) :: lr, _, 0, x.length, _, _, [], _, _⟩, _, _, rfl, by assumption, ?_, rfl, rfl, rfl⟩
      unfold wsA
      rw [hhd, if_pos rfl, hss]
      rfl
open Builtin Builtin.Str in
theorem translate_slow (c : Nat) (t : Tok) (tbl : Value) (hc : ¬ c < 128) : ∃ F : Mapped → Sem Fin, Builtin.«str.translate» ⟨[.str ⟨#[c]⟩ t, tbl], []⟩ = (tableLookup tbl c >>= F) ∧ F .keep = retStr ⟨#[c]⟩ := by
  refine ⟨?F, ?h1, ?h2⟩
  case h1 =>
    unfold Builtin.«str.translate»
    have e1 : (strOneArg "translate" ⟨[.str ⟨#[c]⟩ t, tbl], []⟩ : Sem (Value × Str × Value)) = pure (.str ⟨#[c]⟩ t, ⟨#[c]⟩, tbl) := rfl
    have e2 : tooLong 0 = false := by decide
    rw [e1]
    have e4 : (#[c].all fun x => decide (x < 128)) = decide (c < 128) := by simp
    have e5 : (#[c].size == 0) = false := rfl
    simp only [pure_bind, Str.length, e5, e4, hc, decide_false, Bool.false_eq_true, if_false, ← Array.forIn_toList, List.forIn_cons, List.forIn_nil, e2, bind_assoc]
    rfl
  case h2 => rfl
open Builtin Builtin.Str in
theorem translate_fast (c : Nat) (t : Tok) (tbl : Value) (hc : c < 128) : ∃ F G : Mapped → Sem Fin, Builtin.«str.translate» ⟨[.str ⟨#[c]⟩ t, tbl], []⟩ = (tableLookup tbl c >>= F) ∧ F .keep = retStr ⟨#[c]⟩ ∧
    (∀ a b, F (.text ⟨#[a, b]⟩) = (rule "str.translate.fast-road-left" >>= fun _ => tableLookup tbl c >>= G)) ∧ ∀ a b, G (.text ⟨#[a, b]⟩) = retStr ⟨#[a, b]⟩ := by
  refine ⟨?F, ?G, ?h1, ?h2, ?h3, ?h4⟩
  case h1 =>
    unfold Builtin.«str.translate»
    have e1 : (strOneArg "translate" ⟨[.str ⟨#[c]⟩ t, tbl], []⟩ : Sem (Value × Str × Value)) = pure (.str ⟨#[c]⟩ t, ⟨#[c]⟩, tbl) := rfl
    have e2 : tooLong 0 = false := by decide
    rw [e1]
    have e4 : (#[c].all fun x => decide (x < 128)) = decide (c < 128) := by simp
    have e5 : (#[c].size == 0) = false := rfl
    simp only [pure_bind, Str.length, e5, e4, hc, decide_true, if_true, Bool.false_eq_true, if_false, ← Array.forIn_toList, List.forIn_cons, List.forIn_nil, e2, bind_assoc, List.lookup_nil]
    rfl
  case h2 => rfl
  case h3 =>
    intro a b
    have e6 : (#[a, b].size == 1 && #[a, b].all fun x => decide (x < 128)) = false := rfl
    dsimp only
    simp only [e6, Bool.false_eq_true, if_false, bind_assoc]
    rfl
  case h4 => intro a b; rfl

def scm : List Nat := [40, 41, 91, 93, 123, 125, 63, 42, 43, 45, 124, 94, 36, 92, 46, 38, 126, 35, 32, 9, 10, 13, 11, 12]
noncomputable def esE (P : Params) : Array DictEntry := match (KK P).lookup 52 with | some ⟨_, _, .dict es _, _⟩ => es | _ => #[]
theorem esE_at (P : Params) : (KK P).lookup 52 = some ⟨.type "dict", none, .dict (esE P) 24, #[]⟩ := by kernel_rfl
def keyOk (e : DictEntry) : Bool := match e.key with | .int k _ => e.hash == hashInt k && scm.contains k.toNat && decide (0 ≤ k) | _ => false
def valOk (es : Array DictEntry) (c : Nat) : Bool := match findBy Value.isInt es (c : Int) with | some (.str x _) => x == ⟨#[92, c]⟩ | _ => false
theorem esE_keys (P : Params) : (esE P).all keyOk = true := by kernel_rfl
theorem esE_vals (P : Params) : scm.all (valOk (esE P)) = true := by kernel_rfl
theorem esE_some (P : Params) {c : Nat} (h : c ∈ scm) : ∃ t, findBy Value.isInt (esE P) (c : Int) = some (.str ⟨#[92, c]⟩ t) := by
  have := List.all_eq_true.mp (esE_vals P) c h
  unfold valOk at this
  split at this
  · rename_i x t e
    rw [e, beq_iff_eq.mp this]
    exact ⟨t, rfl⟩
  · cases this
theorem esE_none (P : Params) {c : Nat} (h : c ∉ scm) : findBy Value.isInt (esE P) (c : Int) = none := by
  unfold findBy
  rw [Array.find?_eq_none.mpr]
  · rfl
  · intro e he q
    have := Array.all_eq_true'.mp (esE_keys P) e he
    unfold keyOk at this
    split at this
    · rename_i k t ek
      simp only [Bool.and_eq_true, decide_eq_true_eq] at this
      rw [ek] at q
      have : k = (c : Int) := by
        unfold Value.isInt at q
        simpa using q
      subst this
      refine h ?_
      simpa using this.1.2
    · cases this
section
variable {prog : Program} {w : World} {A : Around} {s : Shared} {h : Heap} {tk : Nat} {P : Params} {g : Heap} {K0 : Addr → Obj → Prop} {L : Addr} {ns : List Str} {vs : List (Option Value)} {mu D : List (Addr × Obj)}
  {nm : Str} {sc : Scope} {a : Addr} {cd : Value} {E : Value → Shared → Prop} {n : Nat} {env : Env}
theorem esMap (X : (KK P).In h) : h.MapOf (intKind prog w) 52 (fun k => findBy Value.isInt (esE P) k) :=
  ⟨_, esE P, 24, X _ _ (esE_at P), ⟨rfl, rfl, rfl⟩, rfl, (fun e he => by
    have := Array.all_eq_true'.mp (esE_keys P) e he
    unfold keyOk at this
    split at this
    · rename_i k t ek
      simp only [Bool.and_eq_true, beq_iff_eq] at this
      exact ⟨k, by rw [ek]; exact intKind_is prog w k t, this.1.1⟩
    · cases this), fun k => rfl⟩
open Builtin Builtin.Str in
theorem tl_text {c : Nat} {Q : Mapped → Shared → Prop} (X : (KK P).In h) (hc : c ∈ scm) (k : ∀ tk', Q (.text ⟨#[92, c]⟩) (st s h tk')) : wpAny (model prog w) A (tableLookup (.ref 52) c) Q E (st s h tk) := by
  obtain ⟨t, e⟩ := esE_some P hc
  unfold tableLookup
  refine wpAny_bind (wpAny_attempt (wpAny_bind (wpAny_mkInt ?_)))
  refine wpAny_getItem_of (s := st s h (tk + 1)) (intKind_is prog w (c : Int) _) (esMap (prog := prog) (w := w) X) e ?_
  show wpAny _ _ (pure (Mapped.text ⟨#[92, c]⟩)) _ _ (st s h (tk + 1 + 1))
  exact wpAny_pure (k _)
open Builtin Builtin.Str in
theorem tl_keep {c : Nat} {Q : Mapped → Shared → Prop} (hS : S P g K0 L ns vs mu D h) (hh : A.handled = none) (hc : c ∉ scm) (k : ∀ h' tk', S P g K0 L ns vs mu D h' → Q .keep (st s h' tk')) : wpAny (model prog w) A (tableLookup (.ref 52) c) Q E (st s h tk) := by
  have X := (hS.T.keeps hS.fr.keep).X
  unfold tableLookup
  refine wpAny_bind (wpAny_attempt (wpAny_bind (wpAny_mkInt ?_)))
  refine wpAny_getItem_missing_of (s := st s h (tk + 1)) (intKind_is prog w (c : Int) _) (by decide +kernel) hh (esMap (prog := prog) (w := w) X) (esE_none P hc) fun h' e hx => ?_
  obtain ⟨ob, t, ho, hcls, _⟩ := hx.there
  refine wpAny_bind (wpAny_isInstance (s := st s h' (tk + 2)) (T := "KeyError") (b := true) ⟨ob, ho, hcls⟩ (by rw [isSubtype_type]; kernel_rfl) ?_)
  have hk := hx.keeps
  have hS' : S P g K0 L ns vs mu D h' := ⟨hS.T, ⟨hS.fr.ns.keeps hk, fun b o e => hk b o (hS.fr.keep b o e), hS.fr.above⟩, fun p hp => ⟨hk _ _ (hS.nw p hp).1, (hS.nw p hp).2⟩, hS.k0, hS.sep, hS.nd⟩
  exact wpAny_bind (wpAny_rule (wpAny_pure (k h' _ hS')))
end

def ut1 (c : Nat) : List Nat := if c ∈ scm then [92, c] else [c]
theorem b_isinstance : bootBuiltins (Str.ofString "isinstance") = some (.builtin "isinstance") := by rfl
theorem b_str : bootBuiltins (Str.ofString "str") = some (.type "str") := by rfl
section
variable {prog : Program} {w : World} {A : Around} {s : Shared} {h : Heap} {tk : Nat} {P : Params} {g : Heap} {K0 : Addr → Obj → Prop} {L : Addr} {ns : List Str} {vs : List (Option Value)} {mu D : List (Addr × Obj)}
  {nm : Str} {sc : Scope} {a : Addr} {cd : Value} {E : Value → Shared → Prop} {n : Nat} {env : Env} {pos : Pos} {id : String} {Q : Value → Shared → Prop} {e e1 e2 e3 : Expr}
theorem r_callB2 (k : wpAny (model prog w) A (eval e1 env) (fun v1 s₁ => wpAny (model prog w) A (eval e2 env) (fun v2 s₂ => wpAny (model prog w) A (call (.builtin id) [v1, v2]) Q E s₂) E s₁) E (st s h tk))
    (h1 : starEach [e1, e2] env = (false, eval e1 env) :: starEach [e2] env) (h2 : starEach [e2] env = [(false, eval e2 env)]) (h3 : ((backTo pos (starEach [e2] env)).any fun x => x.1) = false) :
    wpAny (model prog w) A (callWith pos (.builtin id) [] (backTo pos (starEach [e1, e2] env)) []) Q E (st s h tk) :=
  PyProof.Rows.callWith_builtin1 (spliced_more (wpAny_mono k (fun _ _ q => spliced_more (wpAny_mono q (fun _ _ q => spliced_none q) fun _ _ x => x) h2) fun _ _ x => x) h1) h1 h3
theorem gm_translate {x : Str} {t : Tok} {pl : Sem Bool} {Q : Value × List Value → Shared → Prop} (k : Q (.builtin "str.translate", [.str x t]) (st s h tk)) : wpAny (model prog w) A (getMethod (.str x t) (Str.ofString "translate") pl) Q E (st s h tk) := by
  with_reducible exact GM.of (.str x t) (typeIs_str _ _ _) F.slot_str_translate F.type_str_translate (by intro a h; cases h) k
theorem retStr_back {l : List Nat} (hl : l.length ≤ 1000000) (k : ∀ t tk', Q (.str (tx l) t) (st s h tk')) : wpAny (model prog w) A (retStr (tx l)) (fun fin s' => ∃ v, fin = .done (.ret v) ∧ Q v s') E (st s h tk) := by
  unfold retStr
  refine wpAny_bind (wpAny_mkStr (s := st s h tk) ?_ (by rw [tx_length, sizeLine_eq]; omega))
  exact wpAny_pure ⟨_, rfl, k _ _⟩
theorem t_translate1 {c : Nat} {t : Tok} (hS : S P g K0 L ns vs mu D h) (hh : A.handled = none) (k : ∀ h' t' tk', S P g K0 L ns vs mu D h' → Q (.str (tx (ut1 c)) t') (st s h' tk')) :
    wpAny (model prog w) A (call (.builtin "str.translate") [.str (tx [c]) t, .ref 52]) Q E (st s h tk) := by
  have X := (hS.T.keeps hS.fr.keep).X
  refine wpAny_call_entry F.slot_str_translate (typeIs_str _ _ _) F.entry_str_translate ?_ (F.args_str_translate_2 _ _)
  by_cases hc : c ∈ scm
  · have hlt : c < 128 := by
      have : ∀ d ∈ scm, d < 128 := by decide
      exact this c hc
    obtain ⟨F, G, e1, _, e3, e4⟩ := translate_fast c t (.ref 52) hlt
    show wpAny _ _ (Builtin.«str.translate» ⟨[.str ⟨#[c]⟩ t, .ref 52], []⟩) _ _ _
    rw [e1]
    refine wpAny_bind (tl_text X hc fun tk1 => ?_)
    rw [e3]
    refine wpAny_bind (wpAny_rule (wpAny_bind (tl_text X hc fun tk2 => ?_)))
    rw [e4]
    have e : ut1 c = [92, c] := if_pos hc
    rw [e] at k
    exact retStr_back (l := [92, c]) (by simp) fun t' tk' => k h t' tk' hS
  · have e : ut1 c = [c] := if_neg hc
    rw [e] at k
    by_cases hlt : c < 128
    · obtain ⟨F, G, e1, e2, _, _⟩ := translate_fast c t (.ref 52) hlt
      show wpAny _ _ (Builtin.«str.translate» ⟨[.str ⟨#[c]⟩ t, .ref 52], []⟩) _ _ _
      rw [e1]
      refine wpAny_bind (tl_keep hS hh hc fun h' tk1 hS' => ?_)
      rw [e2]
      exact retStr_back (l := [c]) (by simp) fun t' tk' => k h' t' tk' hS'
    · obtain ⟨F, e1, e2⟩ := translate_slow c t (.ref 52) hlt
      show wpAny _ _ (Builtin.«str.translate» ⟨[.str ⟨#[c]⟩ t, .ref 52], []⟩) _ _ _
      rw [e1]
      refine wpAny_bind (tl_keep hS hh hc fun h' tk1 hS' => ?_)
      rw [e2]
      exact retStr_back (l := [c]) (by simp) fun t' tk' => k h' t' tk' hS'
end
local macro_rules | `(tactic| walk_at "m") => `(tactic| first
  | ((with_reducible refine r_callB2 ?_ ?m1 ?m2 ?m3); (case m1 => rfl); (case m2 => rfl); (case m3 => rfl))
  | ((with_reducible refine' r_ldb ?S ?m1 b_isinstance ?m3 ?m4 ?m5 ?m6 ?_); (case S => assumption); (case m3 => rfl); (case m4 => rfl); (case m1 => rfl); (case m5 => decide); (case m6 => decide))
  | ((with_reducible refine' r_ldb ?S ?m1 b_str ?m3 ?m4 ?m5 ?m6 ?_); (case S => assumption); (case m3 => rfl); (case m4 => rfl); (case m1 => rfl); (case m5 => decide); (case m6 => decide))
  | with_reducible refine IsiPair.str_str ?_
  | with_reducible refine gm_translate ?_
  | ((with_reducible refine' t_translate1 ?S ?m1 ?_); (case S => assumption); (case m1 => exact Okay.hh (by assumption)); intro h t tk hS))
theorem escape_spec {prog : Program} {w : World} {h : Heap} {c : Nat} {t : Tok} {n : Nat} (T : TopOk w.params h) (hn : n ≤ 800) :
    Pure prog w n 62 [.str (tx [c]) t] h (fun _ v => ∃ t, v = .str (tx (ut1 c)) t) := by
  refine enter (K0 := fun _ _ => False) (ns := [Str.ofString "pattern"]) (vs := [some (.str (tx [c]) t)]) T (fun _ _ e => e.elim) rfl rfl (by show n < 1000; omega) rfl rfl rfl rfl ?_
  intro A L s h tk hO hS Q0 hQ0
  repeat walk_at "m"
  refine ite_tt ?_
  repeat walk_at "m"
  refine r_ldg (v := .ref 52) (by assumption) (by rfl) (by rfl) (by rfl) (by decide) ?_
  repeat walk_at "m"
  exact ⟨_, rfl, S.back (by assumption) ⟨_, rfl⟩⟩
abbrev ao (l : Addr) : Obj := { cls := .type "builtin_function_or_method", data := .fields #[.builtin "list.append", .ref l] }
theorem slot_md : Slot "method_descriptor" "__get__" "method_descriptor.__get__" :=
  .of (owner := "method_descriptor") (n := "__get__") (by rw [typeLookup_type, builtinLookup_eq_fast]; kernel_rfl) (by decide +kernel) (by decide +kernel) (by decide +kernel)
    (by first | exact .inl (by decide +kernel) | exact .inr (by decide +kernel)) (by rw [isSubtype_type]; kernel_rfl)
theorem entry_md : entryFor table "method_descriptor.__get__" = some Builtin.«method_descriptor.__get__» := entryFor_of_tree (by kernel_rfl)
theorem args_md (a b c : Value) : argsOk "method_descriptor.__get__" ⟨[a, b, c], []⟩ := by unfold argsOk; kernel_rfl
theorem md_get (l : Addr) : Builtin.«method_descriptor.__get__» ⟨[.builtin "list.append", .ref l, .type "list"], []⟩ =
    ((isInstance (.ref l) (.type "list") >>= fun b => if (!b) = true then (do
        rule "descr.get.wrong-instance"
        raiseError "TypeError" s!"descriptor '{(Str.ofString "append").toString}' for '{← typeName (.type "list")}' objects doesn't apply to a '{← typeNameOf (.ref l)}' object" : Sem Unit) else pure PUnit.unit) >>= fun _ =>
      (newFields "builtin_function_or_method" [.builtin "list.append", .ref l] >>= fun v => ret v)) := by kernel_rfl
theorem md_set : typeLookup (.type "method_descriptor") (Str.ofString "__set__") = pure none := by rw [typeLookup_type, builtinLookup_eq_fast]; kernel_rfl
theorem md_delete : typeLookup (.type "method_descriptor") (Str.ofString "__delete__") = pure none := by rw [typeLookup_type, builtinLookup_eq_fast]; kernel_rfl
theorem getAttr_append {prog : Program} {w : World} {A : Around} {E : Value → Shared → Prop} {s : Shared} {l : Addr} {its : List Value} {n : Nat} {Q : Value → Shared → Prop}
    (ho : s.heap.get? l = some (lo its n)) (k : ∀ tk, Q (.ref s.heap.objs.size) { s with heap := s.heap.push (ao l), toks := tk }) : wpAny (model prog w) A (getAttr (.ref l) (Str.ofString "append") true) Q E s := by
  obtain ⟨hp, g, d, tk, os⟩ := s
  have hT : ∀ tk', (⟨hp, g, d, tk', os⟩ : Shared).TypeIs (.ref l) "list" := fun _ => ⟨_, ho, rfl⟩
  have f3 := F.slot_list_getattribute.lookup
  have f4 := F.slot_list_getattribute.bind (.ref l)
  have f5 := am_list_getattr_none
  unfold getAttr getAttrBy
  repeat (any_goals (first | assumption | exact hT _ | ((with_reducible show wpAny _ _ (call (Value.builtin "list.__getattribute__") _ _) _ _ _); refine wpAny_call_entry F.slot_list_getattribute (hT _) am_entry_list_getattribute ?_ (F.args_list_getattribute_2 _ _)) | wp_step))
  have f6 : typeLookup (lo its n).cls (Str.ofString "append") = pure (some (.builtin "list.append")) := slot_list_append.lookup
  have f7 := slot_md.lookup
  have f8 := type_list_append
  have f9 := md_set
  have f10 := md_delete
  have f11 : isSubtype (lo its n).cls (.type "list") = pure true := by show isSubtype (.type "list") (.type "list") = _; rw [isSubtype_type]; kernel_rfl
  have hM : ∀ tk', (⟨hp, g, d, tk', os⟩ : Shared).TypeIs (.builtin "list.append") "method_descriptor" := fun _ => type_list_append
  repeat (any_goals (first | assumption | exact hT _ | ((with_reducible show wpAny _ _ (call (Value.builtin "method_descriptor.__get__") _ _) _ _ _); refine wpAny_call_entry slot_md (hM _) entry_md ?_ (args_md _ _ _); rw [show (lo its n).cls = .type "list" from rfl, md_get l]) | ((with_reducible show wpAny _ _ (newFields _ _) _ _ _); refine wpAny_newObj_type ?_ (by decide)) | wp_step))
  refine ⟨_, rfl, ?_⟩
  unfold ret
  refine wpAny_pure ⟨_, rfl, ?_⟩
  show wpAny (model prog w) A (handedOut _) Q E _
  exact wpAny_pure (k (tk + 1))
theorem sig_app : Manifest.signature? "list.append" = some ⟨.oneArg, "list.append", "append", .self, [⟨"object", .posOnly, true⟩]⟩ := by first | kernel_rfl | decide +kernel
theorem kind_app : builtinKind "list.append" = some .method := by first | kernel_rfl | decide +kernel
theorem va_app : Manifest.varargsMethods.contains "list.append" = false := by decide +kernel
theorem ca_app (l : Addr) (x : Value) : Bind.checkArgs "list.append" ⟨.oneArg, toString (Bind.lastOf "list") ++ toString "." ++ toString (Bind.lastOf "list.append"), "append", .self, [⟨"object", .posOnly, true⟩]⟩ ⟨[.ref l, x], []⟩ = pure () := by kernel_rfl
section
variable {prog : Program} {w : World} {A : Around} {s : Shared} {h : Heap} {tk : Nat} {P : Params} {g : Heap} {K0 : Addr → Obj → Prop} {L : Addr} {ns : List Str} {vs : List (Option Value)} {mu D : List (Addr × Obj)}
  {nm : Str} {sc : Scope} {a : Addr} {cd : Value} {E : Value → Shared → Prop} {n : Nat} {env : Env} {Q : Value → Shared → Prop}
theorem call_add0 {u l : Addr} {x : Value} {its : List Value} {m : Nat} (hu : s.heap.get? u = some (ao l)) (ho : s.heap.get? l = some (lo its m))
    (hsz : its.length ≤ 1000000)
    (k : ∀ h', Heap.SameBut l s.heap h' → h'.get? l = some (lo (its ++ [x]) (m + 1)) → Q .none { s with heap := h' }) : wpAny (model prog w) A (call (.ref u) [x]) Q E s := by
  refine wpAny_call (codeAny_of_tree ?_)
  show wpAny _ A.in1 (callAny (.ref u) ⟨[x], []⟩) _ _ s
  simp only [callAny]
  refine wpAny_bind (wpAny_load hu ?_)
  simp only [show (Value.type "builtin_function_or_method" == Value.type "method" || Value.type "builtin_function_or_method" == Value.type "builtin_function_or_method" || Value.type "builtin_function_or_method" == Value.type "method-wrapper") = true by decide, if_true]
  show wpAny (model prog w) A.in1 (if (Value.type "builtin_function_or_method" != Value.type "method") = true then do
          checkBoundCall "list.append" { pos := [.ref l, x] }
          again (Code.builtin "list.append" { pos := [.ref l, x] }) else _) _ _ _
  rw [if_pos (by decide)]
  refine wpAny_bind ?_
  unfold checkBoundCall
  rw [sig_app, kind_app]
  dsimp only
  rw [if_neg (by decide)]
  refine wpAny_bind (wpAny_isInstance (T := "list") (U := "module") (b := false) ⟨_, ho, rfl⟩ (by rw [isSubtype_type]; kernel_rfl) ?_)
  rw [va_app]
  rw [if_neg (by decide)]
  refine wpAny_bind ?_
  unfold isType
  refine wpAny_bind (wpAny_loadPart ho ?_)
  refine wpAny_pure ?_
  rw [if_neg (by exact Bool.false_ne_true)]
  refine wpAny_bind (wpAny_typeOf (s := s) (T := "list") ⟨_, ho, rfl⟩ ?_)
  refine wpAny_of_eq (ca_app l x) ?_
  refine wpAny_pure ?_
  refine ⟨Code.quiet_builtin _ (by decide +kernel), codeAny_builtin entry_list_append ?_⟩
  show wpAny _ _ (updateSeq l (·.push x) >>= fun _ => ret .none) _ _ s
  refine wpAny_bind ?_
  refine wpAny_updateSeq ho rfl (wpAny_pure (k _ (Heap.SameBut.update ..) ?_)) (by rw [List.size_toArray, sizeLine_eq]; omega)
  rw [Heap.get?_update_self _ ho (by rw [mapSeq_push]; rfl), mapSeq_push]
  simp
theorem r_gaApp {l : Addr} {its : List Value} {m : Nat} (hS : S P g K0 L ns vs ((l, lo its m) :: mu) D h) (k : ∀ u h' tk', S P g K0 L ns vs ((l, lo its m) :: mu) ((u, ao l) :: D) h' → Q (.ref u) (st s h' tk')) :
    wpAny (model prog w) A (getAttr (.ref l) (Str.ofString "append") true) Q E (st s h tk) :=
  getAttr_append (s := st s h tk) (hS.mem (.head _)) fun tk' => k _ _ tk' (hS.pushD (ao l) rfl)
theorem callWith_ao {pos : Pos} {u l : Addr} {args : List (Bool × Sem Value)} (hplain : args.any (·.1) = false)
    (h : wpAny (model prog w) A (evalArgs (.ref u) true args []) (fun x s₁ => s₁.heap.get? u = some (ao l) ∧ wpAny (model prog w) A (call (.ref u) ([] ++ x.pos) x.kw) Q E s₁) E s) : wpAny (model prog w) A (callWith pos (.ref u) [] args []) Q E s := by
  unfold callWith
  refine wpAny_bind (wpAny_holding (wpAny_mono h (fun x s₁ h₁ => wpAny_bind (wpAny_standAt ?_)) fun _ _ x => x))
  obtain ⟨ho, hcall⟩ := h₁
  simp only [hplain, List.any_nil, Bool.or_false]
  refine wpAny_bind (m := keeperOf (.ref u)) ?_
  unfold keeperOf
  refine wpAny_bind (wpAny_load ho ?_)
  simp only [show (Value.type "builtin_function_or_method" != Value.type "method") = true by decide, show (Value.type "builtin_function_or_method" == Value.type "builtin_function_or_method" || Value.type "builtin_function_or_method" == Value.type "method-wrapper") = true by decide, if_true]
  refine wpAny_pure ?_
  exact wpAny_bind (wpAny_mono hcall (fun r s₂ hr => wpAny_bind (wpAny_holding (wpAny_point (wpAny_pure hr)))) fun _ _ x => x)
theorem r_callAdd {pos : Pos} {u l : Addr} {e : Expr} (_hu : (u, ao l) ∈ D) (k : wpAny (model prog w) A (eval e env) (fun v s₁ => ∃ h' tk', s₁ = st s h' tk' ∧ h'.get? u = some (ao l) ∧ wpAny (model prog w) A (call (.ref u) [v]) Q E (st s h' tk')) E (st s h tk))
    (h1 : starEach [e] env = [(false, eval e env)]) : wpAny (model prog w) A (callWith pos (.ref u) [] (backTo pos (starEach [e] env)) []) Q E (st s h tk) := by
  have h : wpAny (model prog w) A (spliced (backTo pos (starEach [e] env))) (fun vs s₁ => s₁.heap.get? u = some (ao l) ∧ wpAny (model prog w) A (call (.ref u) ([] ++ vs)) Q E s₁) E (st s h tk) :=
    spliced_more (wpAny_mono k (fun _ _ q => by obtain ⟨h', tk', rfl, q⟩ := q; exact spliced_none q) fun _ _ x => x) h1
  rw [h1] at h ⊢
  exact callWith_ao rfl (evalArgs_plain h)
theorem r_add {pre post : List (Addr × Obj)} {u b : Addr} {l : List Value} {m : Nat} {x : Value} (hS : S P g K0 L ns vs (pre ++ (b, lo l m) :: post) D h) (hu : h.get? u = some (ao b)) (hl : l.length ≤ 1000000)
    (k : ∀ h', S P g K0 L ns vs (pre ++ (b, lo (l ++ [x]) (m + 1)) :: post) D h' → Q .none (st s h' tk)) : wpAny (model prog w) A (call (.ref u) [x]) Q E (st s h tk) :=
  call_add0 (s := st s h tk) hu (hS.mem (List.mem_append_right _ (.head _))) hl fun h' hs ho => k h' (hS.upd hs ho)
theorem r_add0 {u b : Addr} {l : List Value} {m : Nat} {x : Value} (hS : S P g K0 L ns vs ((b, lo l m) :: mu) D h) (hu : h.get? u = some (ao b)) (hl : l.length ≤ 1000000)
    (k : ∀ h', S P g K0 L ns vs ((b, lo (l ++ [x]) (m + 1)) :: mu) D h' → Q .none (st s h' tk)) : wpAny (model prog w) A (call (.ref u) [x]) Q E (st s h tk) := r_add (pre := []) hS hu hl k
end
abbrev cover (h : Heap) : Heap := hideAll h [64]
theorem cover_none (h : Heap) : (cover h).get? 64 = none := hideAll_none _ (by simp)
theorem cover_some {h : Heap} {b : Addr} {o : Obj} (e : (cover h).get? b = some o) : h.get? b = some o := of_hideAll _ e
theorem cover_get {h : Heap} {b : Addr} (hb : b ≠ 64) : (cover h).get? b = h.get? b := by
  cases q : h.get? b with
  | some o => exact hideAll_get _ q (by simpa using hb)
  | none =>
    cases z : (cover h).get? b with
    | none => rfl
    | some o => rw [cover_some z] at q; cases q
theorem cover_size (h : Heap) : (cover h).objs.size = h.objs.size := hideAll_size _ _
theorem TopOk.cover {P : Params} {h : Heap} (T : TopOk P h) : TopOk P (cover h) :=
  let ⟨g₀, p, loose, mean, mg, mb, a, b, c, d⟩ := T.ex
  ⟨g₀, p, loose, mean, mg, mb, a, b, c, fun x o e => by
    rw [cover_get]
    · exact d x o e
    · rintro rfl
      rw [c] at e
      cases e⟩
def TabI (ps : Array Value) : Prop := TriplesOk ps.toList

def BackT (s : Shared) (h : Heap) (R : List (Addr × Obj) → Value → Prop) (v : Value) (s' : Shared) : Prop :=
  ∃ h' tk' D ps, s' = st s h' tk' ∧ (∀ b o, b ≠ 64 → h.get? b = some o → h'.get? b = some o) ∧ h'.get? 64 = some (tabObj ps) ∧ TabI ps ∧ (∀ p ∈ D, h'.get? p.1 = some p.2 ∧ h.get? p.1 = none) ∧ R D v

def PureT (prog : Program) (w : World) (n : Nat) (f : Addr) (args : List Value) (h : Heap) (R : List (Addr × Obj) → Value → Prop) : Prop :=
  ∀ (A : Around) (s : Shared) (tk : Nat), Okay n A → codeAny (model prog w) A (.call (.ref f) ⟨args, []⟩) (fun r s' => ∃ v, r = .ok (.ret v) ∧ BackT s h R v s') (st s h tk)

section
variable {prog : Program} {w : World} {A : Around} {s : Shared} {h : Heap} {tk : Nat} {P : Params} {g : Heap} {K0 : Addr → Obj → Prop} {L : Addr} {ns : List Str} {vs : List (Option Value)} {mu D : List (Addr × Obj)}
  {nm : Str} {sc : Scope} {a : Addr} {cd : Value} {E : Value → Shared → Prop} {n : Nat} {R : List (Addr × Obj) → Value → Prop} {ps : Array Value}

theorem enterT {f : Addr} {args : List Value} {name qual : Str} {params : Arguments} {body : List Stmt} {scope : Scope} {dV kV doc pm cdv ct oc : Value} {an od : Option Addr} {osl : Array (Option Value)} {binds : List (Str × Value)}
    (T : TopOk P h) (hk0 : ∀ b o, K0 b o → b ≠ 64 ∧ h.get? b = some o) (h64 : h.get? 64 = some (tabObj ps)) (hps : TabI ps)
    (ho : (KK P).lookup f = some ⟨oc, od, .func (fnOf name qual params body scope dV kV doc pm an cdv ct), osl⟩) (hcd : codeIn (KK P) cdv qual = true) (hn : n < recursionLimit)
    (hbind : bindArgs (fnOf name qual params body scope dV kV doc pm an cdv ct) ⟨args, []⟩ = pure binds) (hloc : (binds.all fun x => decide (scope.names.lookup x.1 = some .local)) = true)
    (hvs : ns.map (fun x => binds.reverse.lookup x) = vs) (hns : (binds.all fun b => ns.contains b.1) = true)
    (hb : ∀ A L s h₁ tk ps, TabI ps → Okay (n + 1) A → S P (cover h) K0 L ns vs [(64, tabObj ps)] [] h₁ → ∀ Q0, Abs (fun fl s' => ∃ v, fl = .ret v ∧ BackT s h R v s') Q0 →
      wpAny (model prog w) A (execs body (envOf qual scope L f cdv)) Q0 NoE (st s h₁ tk))
    (hco : scope.isCoroutine = false := by rfl) (hgen : scope.isGenerator = false := by rfl) (hk : scope.kind = .function := by rfl) (hcell : ∀ x ∈ scope.names, x.2 ≠ .cell := by decide) :
    PureT prog w n f args h R := by
  intro A s tk O
  have hlk : lkv ns vs = fun x => binds.reverse.lookup x := by
    funext x
    rw [← hvs, lkv_map]
    split
    · rfl
    · rename_i hx
      refine (lookup_none_of fun b hb e => hx ?_).symm
      have := List.all_eq_true.mp hns b (List.mem_reverse.mp hb)
      rw [← e]
      exact List.contains_iff_mem.mp this
  refine codeAny_call_def (s := st s h tk) (fd := fnOf name qual params body scope dV kV doc pm an cdv ct) (body := body) (binds := binds) (Nat.lt_of_le_of_lt O.d hn) (T.X _ _ ho) rfl T.nl (codeRec_of T.X hcd) rfl (BindsTo.of_eq hbind) hcell
    (locs hloc) (fun h₁ hns₁ hk₁ => ?_) hco hgen hk
  have F : Fr (cover h) h.objs.size h₁ (lkv ns vs) := ⟨by rw [hlk]; exact hns₁, fun b o e => hk₁ b o (cover_some e), by rw [cover_size]; exact Nat.le_refl _⟩
  refine wpAny_mono (hb _ h.objs.size s h₁ (tk + binds.length) ps hps (O.deeper _) ⟨T.cover, F, ?_, fun b o e => ?_, fun _ _ _ hp => (nomatch hp), (by simp)⟩ _ ⟨fun _ _ x => x⟩) (fun fl s' hq => ?_) fun _ _ x => x.elim
  · intro p hp
    rcases List.mem_cons.mp hp with rfl | hp
    · exact ⟨hk₁ _ _ h64, Nat.ne_of_lt (Heap.lt_size h64), cover_none h⟩
    · cases hp
  · rw [cover_get (hk0 b o e).1]
    exact (hk0 b o e).2
  · obtain ⟨v, rfl, hB⟩ := hq
    exact ⟨v, rfl, hB⟩

theorem S.backT {h' : Heap} {v : Value} (hS : S P (cover h) K0 L ns vs ((64, tabObj ps) :: mu) D h') (hps : TabI ps) (hR : R D v) : BackT s h R v (st s h' tk) :=
  ⟨h', tk, D, ps, rfl, fun b o hb e => hS.fr.keep b o ((cover_get hb).trans e), hS.mem (.head _), hps, fun p hp => by
    refine ⟨(hS.nw p (List.mem_append_right _ hp)).1, ?_⟩
    rw [← cover_get (fun e => hS.sep _ (.head _) p hp e.symm)]
    exact (hS.nw p (List.mem_append_right _ hp)).2.2, hR⟩

theorem S.top' (hS : S P g K0 L ns vs mu D h) : TopOk P h := hS.T.keeps hS.fr.keep
theorem S.get (hS : S P g K0 L ns vs mu D h) {b : Addr} {o : Obj} (hm : (b, o) ∈ mu ++ D) : h.get? b = some o := (hS.nw _ hm).1

theorem r_callT {f : Addr} {args : List Value} {Q : Value → Shared → Prop} (hS : S P g K0 L ns vs ((64, tabObj ps) :: mu) D h) (hp : PureT prog w n f args h R) (O : Okay n A)
    (k : ∀ v h' tk' Dn ps', TabI ps' → S P g K0 L ns vs ((64, tabObj ps') :: mu) (Dn ++ D) h' → R Dn v → Q v (st s h' tk')) : wpAny (model prog w) A (call (.ref f) args) Q E (st s h tk) := by
  refine wpAny_call (codeAny_mono (hp A s tk O) fun r s' hr => ?_)
  obtain ⟨v, rfl, h', tk', Dn, ps', rfl, hk, h64, hps, hD, hR⟩ := hr
  have m64 := hS.nw _ (.head _)
  have nd := hS.nd
  rw [List.map_cons, List.nodup_cons] at nd
  have g64 : ∀ b o, g.get? b = some o → b ≠ 64 := fun b o e q => by
    have z : g.get? 64 = none := m64.2.2
    rw [q, z] at e; cases e
  refine k v h' tk' Dn ps' hps ⟨hS.T, ⟨?_, fun b o e => hk b o (g64 b o e) (hS.fr.keep b o e), hS.fr.above⟩, fun p hp => ?_, hS.k0, fun p hp q hq => ?_, ?_⟩ hR
  · refine hS.fr.ns.extBut (b := 64) (fun b o hb e => hk b o hb e) ?_
    exact Ne.symm m64.2.1
  · rcases List.mem_append.mp hp with q | q
    · rcases List.mem_cons.mp q with rfl | q
      · exact ⟨h64, m64.2⟩
      · have := hS.nw p (List.mem_append_left _ (.tail _ q))
        exact ⟨hk _ _ (fun e => nd.1 (List.mem_map.mpr ⟨p, q, e⟩)) this.1, this.2⟩
    · rcases List.mem_append.mp q with q | q
      · obtain ⟨a1, a2⟩ := hD p q
        obtain ⟨oL, _, _, hL, _⟩ := hS.fr.ns
        refine ⟨a1, fun e => ?_, ?_⟩
        · rw [e, hL] at a2; cases a2
        · cases z : g.get? p.1 with
          | none => rfl
          | some o => rw [hS.fr.keep _ _ z] at a2; cases a2
      · have := hS.nw p (List.mem_append_right _ q)
        exact ⟨hk _ _ (fun e => hS.sep _ (.head _) p q e.symm) this.1, this.2⟩
  · have base : ∀ q, q ∈ mu ++ D ∨ q.1 = 64 → ∀ x, x ∈ Dn → q.1 ≠ x.1 := by
      rintro q hq x hx e
      have a2 := (hD x hx).2
      rcases hq with hq | hq
      · have a1 := (hS.nw q (.tail _ hq)).1
        rw [e, a2] at a1; cases a1
      · have a1 := m64.1
        rw [← hq, e, a2] at a1; cases a1
    rcases List.mem_append.mp hq with z | z
    · rcases List.mem_cons.mp hp with rfl | hp
      · exact base _ (.inr rfl) q z
      · exact base _ (.inl (List.mem_append_left _ hp)) q z
    · rcases List.mem_cons.mp hp with rfl | hp
      · exact hS.sep _ (.head _) q z
      · exact hS.sep p (.tail _ hp) q z
  · rw [List.map_cons, List.nodup_cons]; exact nd
end
open Builtin.Re
noncomputable def reT (P : Params) : Array Nat := match (KK P).lookup 42 with | some ⟨_, _, .seq vs _, _⟩ => vs.map fun v => (reRawOf v).toNat | _ => #[]
theorem reT1 (P : Params) (prog : Program) (c : Nat) (t : Tok) : peek (KK P) ⟨prog, P⟩ (reWholeTarget (.ref 43) (.str (tx [c]) t)) = some { pattern := .ref 43, string := .str (tx [c]) t, code := reT P, text := #[c], kind := 0, groups := 1, pos := 0, lim := 1 } := by kernel_rfl
theorem reN1 (P : Params) (prog : Program) (t : Tok) : peek (KK P) ⟨prog, P⟩ (reNextFound { pattern := .ref 43, string := .str (tx [42]) t, code := reT P, text := #[42], kind := 0, groups := 1, pos := 0, lim := 1 } 0 false) = some none := by kernel_rfl
theorem reN2 (P : Params) (prog : Program) (t : Tok) : peek (KK P) ⟨prog, P⟩ (reNextFound { pattern := .ref 43, string := .str (tx [63]) t, code := reT P, text := #[63], kind := 0, groups := 1, pos := 0, lim := 1 } 0 false) = some none := by kernel_rfl
theorem reN3 (P : Params) (prog : Program) (t : Tok) : peek (KK P) ⟨prog, P⟩ (reNextFound { pattern := .ref 43, string := .str (tx [91]) t, code := reT P, text := #[91], kind := 0, groups := 1, pos := 0, lim := 1 } 0 false) = some none := by kernel_rfl
theorem slot_sub : Slot "re.Pattern" "sub" "re.Pattern.sub" :=
  .of (owner := "re.Pattern") (n := "sub") (by rw [typeLookup_type, builtinLookup_eq_fast]; kernel_rfl) (by decide +kernel) (by decide +kernel) (by decide +kernel)
    (by first | exact .inl (by decide +kernel) | exact .inr (by decide +kernel)) (by rw [isSubtype_type]; kernel_rfl)
theorem entry_sub : entryFor table "re.Pattern.sub" = some Builtin.«re.Pattern.sub» := by first | exact entryFor_of_fast (by kernel_rfl) | exact entryFor_of_tree (by kernel_rfl)
theorem entry_subL : entryFor table "re.Pattern.sub.loop" = some Builtin.«re.Pattern.sub.loop» := by first | exact entryFor_of_fast (by kernel_rfl) | exact entryFor_of_tree (by kernel_rfl)
theorem args_sub (a b c : Value) : argsOk "re.Pattern.sub" ⟨[a, b, c], []⟩ := by unfold argsOk; kernel_rfl
theorem plain_subL : plainId "re.Pattern.sub.loop" = true := by decide +kernel
theorem fn_call : typeLookup (.type "function") (Str.ofString "__call__") = pure (some (.builtin "function.__call__")) := by rw [typeLookup_type, builtinLookup_eq_fast]; kernel_rfl
theorem type_sub : typeOf (.builtin "re.Pattern.sub") = pure (.type "method_descriptor") := by show builtinType _ = _; rw [builtinType_eq_fast]; kernel_rfl
theorem named_sub (a b : Value) : reNamed "re.Pattern.sub" "sub" ["repl", "string", "count"] 2 [a, b] [] = pure [some a, some b, none] := by kernel_rfl
theorem notHeld_sub (x : Str) (t : Tok) (P : Params) (prog : Program) : peek (KK P) ⟨prog, P⟩ (reNotHeld "re.Pattern.sub" (.str x t)) = some () := by kernel_rfl
section
variable {prog : Program} {w : World} {A : Around} {s : Shared} {h : Heap} {tk : Nat} {g : Heap} {K0 : Addr → Obj → Prop} {L : Addr} {ns : List Str} {vs : List (Option Value)} {mu D : List (Addr × Obj)}
  {nm : Str} {sc : Scope} {a : Addr} {cd : Value} {E : Value → Shared → Prop} {n : Nat} {env : Env} {Q : Value → Shared → Prop}
theorem reN (P : Params) (prog : Program) {c : Nat} (t : Tok) (hc : c = 42 ∨ c = 63 ∨ c = 91) : peek (KK P) ⟨prog, P⟩ (reNextFound { pattern := .ref 43, string := .str (tx [c]) t, code := reT P, text := #[c], kind := 0, groups := 1, pos := 0, lim := 1 } 0 false) = some none := by
  rcases hc with rfl | rfl | rfl
  · exact reN1 P prog t
  · exact reN2 P prog t
  · exact reN3 P prog t
theorem r_slice1 {l : List Nat} {M : Model} {Q : Value → Shared → Prop} (hl : l.length ≤ 1000) (k : ∀ t tk', Q (.str (tx l) t) (st s h tk')) : wpAny M A (mkStr (tx l)) Q E (st s h tk) := wpAny_mkStr (s := st s h tk) (k _ _) (by rw [tx_length, sizeLine_eq]; omega)
theorem r_sub {f : Addr} {fo : Obj} {c : Nat} {t : Tok} (hS : S w.params g K0 L ns vs mu D h) (hc : c = 42 ∨ c = 63 ∨ c = 91) (hf : h.get? f = some fo) (hfc : fo.cls = .type "function")
    (k : ∀ h' t' tk', S w.params g K0 L ns vs mu D h' → Q (.str (tx [c]) t') (st s h' tk')) : wpAny (model prog w) A (call (.builtin "re.Pattern.sub") [.ref 43, .ref f, .str (tx [c]) t]) Q E (st s h tk) := by
  have X := hS.top'.X
  obtain ⟨o43, h43, c43⟩ : ∃ o, h.get? 43 = some o ∧ o.cls = .type "re.Pattern" := ⟨_, X 43 _ (by rfl), by rfl⟩
  refine wpAny_call (codeAny_call_builtin slot_sub.plain entry_sub (slot_sub.check _ _ _ _ _ _ _ _ ⟨o43, h43, c43⟩ (args_sub _ _ _) ?_))
  show wpAny _ _ (reSubstitute "re.Pattern.sub" "sub" false ⟨[.ref 43, .ref f, .str (tx [c]) t], []⟩) _ _ _
  unfold reSubstitute
  dsimp only
  refine wpAny_bind (wpAny_of_eq (named_sub _ _) ?_)
  dsimp only
  refine wpAny_bind (wpAny_pure ?_)
  refine wpAny_bind (wpAny_specialOf (T := "function") (s := st s h tk) ⟨fo, hf, hfc⟩ fn_call ?_)
  rw [if_pos (by rfl)]
  refine wpAny_bind (wpAny_pure ?_)
  rw [if_pos (by rfl)]
  refine wpAny_bind (wpAny_pure ?_)
  dsimp only
  refine wpAny_bind (wpAny_holding ((Looks.of_peek (M := model prog w) X (reT1 w.params prog c t)).here (s := st s h tk) ?_))
  rw [if_pos (by rfl)]
  refine wpAny_bind ((Looks.of_peek (M := model prog w) X (notHeld_sub (tx [c]) t w.params prog)).here (s := st s h tk) ?_)
  refine wpAny_bind (r_newList hS (by simp) fun b h' hS1 => ?_)
  refine wpAny_pure ⟨plainId_quiet plain_subL _, codeAny_builtin entry_subL ?_⟩
  rw [Around.under_plainId plain_subL _]
  have X1 := hS1.top'.X
  unfold Builtin.«re.Pattern.sub.loop»
  dsimp only
  show wpAny (model prog w) A.in1 (reWholeTarget (.ref 43) (.str (tx [c]) t) >>= _) _ _ _
  refine wpAny_bind ((Looks.of_peek (M := model prog w) X1 (reT1 w.params prog c t)).here (s := st s h' tk) ?_)
  dsimp only
  rw [if_neg (by decide)]
  refine wpAny_bind (KFB.if_not rfl ((Looks.of_peek (M := model prog w) X1 (reN w.params prog t hc)).here (s := st s h' tk) ?_))
  dsimp only
  rw [if_pos (by decide)]
  refine wpAny_bind (r_slice1 (l := [c]) (by simp) fun t1 tk1 => ?_)
  refine wpAny_bind (wpAny_updateSeq (s := st s h' tk1) (hS1.mem (.head _)) rfl ?_ (by decide))
  have hS2 : S w.params g K0 L ns vs ((b, lo [.str (tx [c]) t1] 1) :: mu) D (h'.update b (Obj.mapSeq fun x => x.push (.str (tx [c]) t1))) := S.upd (pre := []) hS1 (Heap.SameBut.update ..) (by
    rw [Heap.get?_update_self _ (hS1.mem (.head _)) (by rw [mapSeq_push]; rfl), mapSeq_push]; simp)
  show wpAny (model prog w) A.in1 (mkStr (tx []) >>= _) _ _ (st s (h'.update b (Obj.mapSeq fun x => x.push (.str (tx [c]) t1))) tk1)
  refine wpAny_bind (r_slice1 (l := []) (by simp) fun t2 tk2 => ?_)
  refine wpAny_bind (wpAny_seqItems (s := st s _ tk2) (hS2.mem (.head _)) rfl ?_)
  rw [if_neg (by exact Bool.false_ne_true)]
  refine wpAny_bind (join_list (s := st s _ tk2) (isList_lo (hS2.mem (.head _))) (.cons _ _ .nil) (by simp [tx_length]) fun t3 tk3 => ?_)
  rw [if_neg (by exact Bool.false_ne_true)]
  have e : Txt.join (tx []) [tx [c]] = tx [c] := by rfl
  rw [e]
  exact wpAny_pure (k _ _ _ hS2.drop)
theorem pa_re : PlainAttrs "re.Pattern" := ⟨⟨"object.__getattribute__", by rw [typeLookup_type, builtinLookup_eq_fast]; kernel_rfl, by decide +kernel⟩, by rw [typeLookup_type, builtinLookup_eq_fast]; kernel_rfl⟩
theorem r_gmSub {pl : Sem Bool} {Q : Value × List Value → Shared → Prop} (hS : S w.params g K0 L ns vs mu D h) (k : Q (.builtin "re.Pattern.sub", [.ref 43]) (st s h tk)) : wpAny (model prog w) A (getMethod (.ref 43) (Str.ofString "sub") pl) Q E (st s h tk) := by
  have X := hS.top'.X
  obtain ⟨o43, h43, c43, d43⟩ : ∃ o, h.get? 43 = some o ∧ o.cls = .type "re.Pattern" ∧ o.dict = none := ⟨_, X 43 _ (by rfl), by rfl, by rfl⟩
  exact getMethod_builtin (s := st s h tk) ⟨o43, h43, c43⟩ pa_re slot_sub type_sub (fun a e => by cases e; exact ⟨o43, h43, d43⟩) k
theorem S.keepAll {P : Params} {h' : Heap} (hS : S P g K0 L ns vs mu D h) (hk : ∀ b o, h.get? b = some o → h'.get? b = some o) : S P g K0 L ns vs mu D h' :=
  ⟨hS.T, ⟨hS.fr.ns.keeps hk, fun b o e => hk b o (hS.fr.keep b o e), hS.fr.above⟩, fun p hp => ⟨hk _ _ (hS.nw p hp).1, (hS.nw p hp).2⟩, hS.k0, hS.sep, hS.nd⟩
theorem r_lambda {params : Arguments} {body : Expr} {scope : Scope} {pos : Pos} {p0 : Addr × Obj} {ps : Array Value} (hS : S w.params g K0 L ns vs (p0 :: (64, tabObj ps) :: mu) D h) (hps : TabI ps)
    (hdef : defaultsOf params (envOf nm sc L a (.ref 68)) = ([], [])) (hcl : closureFor scope (envOf nm sc L a (.ref 68)) = pure [])
    (k : ∀ f fo h' tk' D' ps', TabI ps' → fo.cls = .type "function" → (f, fo) ∈ D' → (∀ p ∈ D, p ∈ D') → S w.params g K0 L ns vs (p0 :: (64, tabObj ps') :: mu) D' h' → Q (.ref f) (st s h' tk')) :
    wpAny (model prog w) A (eval (.Lambda params body scope pos) (envOf nm sc L a (.ref 68))) Q E (st s h tk) := by
  obtain ⟨p, loose, mean, mg, mb, T⟩ := hS.T.top
  have C : CodeHd g 68 64 := codeHd_of_K hS.T.X (by rfl)
  have nd := hS.nd
  simp only [List.map_cons, List.nodup_cons, List.mem_cons, not_or] at nd
  have lt := hS.lt
  refine kla_eval hdef ?_
  cases q : codeAmong pos ps.toList with
  | none =>
    refine kla_nest (s := st s h tk) (g := fun o' => (p0 :: (64, o') :: mu) ++ D) hS.fr hS.nw T C rfl (.tail nd.1.1 (.head fun x hx => ?_)) hps q hcl fun f c' oc vs' t ctv h' tk' F N hd hv l1 l2 => ?_
    · rcases List.mem_append.mp hx with z | z
      · exact fun e => nd.2.1 (List.mem_map.mpr ⟨x, z, e⟩)
      · exact fun e => hS.sep (64, tabObj ps) (.tail _ (.head _)) x z e.symm
    · refine k f (kla_obj (Str.ofString "<lambda>") ((envOf nm sc L a (Value.ref 68)).qual ++ Str.ofString "<lambda>") params body scope [] ((mg (Str.ofString "__name__")).getD Value.none) c' ctv) h' tk' ((f, _) :: (c', oc) :: D) (ps ++ #[rawInt pos.line, rawInt pos.col, .ref c']) ?_ (by rfl) (.head _) (fun p hp => .tail _ (.tail _ hp)) ⟨hS.T, F, fun x hx => N x ?_, hS.k0, fun x hx y hy => ?_, hS.nd⟩
      · show TriplesOk (ps ++ #[rawInt pos.line, rawInt pos.col, .ref c']).toList
        rw [Array.toList_append]
        exact TriplesOk_snoc _ _ _ _ hps
      · rcases List.mem_append.mp hx with z | z
        · exact .tail _ (.tail _ (List.mem_append_left _ z))
        · rcases List.mem_cons.mp z with rfl | z
          · exact .head _
          · rcases List.mem_cons.mp z with rfl | z
            · exact .tail _ (.head _)
            · exact .tail _ (.tail _ (List.mem_append_right _ z))
      · have hx1 : x.1 < c' := by
          rcases List.mem_cons.mp hx with rfl | hx
          · exact l1 _ (.head _)
          · rcases List.mem_cons.mp hx with rfl | hx
            · exact l1 (64, tabObj ps) (.tail _ (.head _))
            · exact l1 _ (.tail _ (.tail _ (List.mem_append_left _ hx)))
        rcases List.mem_cons.mp hy with rfl | hy
        · exact Nat.ne_of_lt (Nat.lt_trans hx1 l2)
        · rcases List.mem_cons.mp hy with rfl | hy
          · exact Nat.ne_of_lt hx1
          · rcases List.mem_cons.mp hx with rfl | hx
            · exact hS.sep _ (.head _) y hy
            · rcases List.mem_cons.mp hx with rfl | hx
              · exact hS.sep (64, tabObj ps) (.tail _ (.head _)) y hy
              · exact hS.sep x (.tail _ (.tail _ hx)) y hy
  | some cv =>
    obtain ⟨bm, ob, b1, b2, b3, b4, b5, b6⟩ := T.bmain
    have m64 := hS.nw (64, tabObj ps) (.tail _ (.head _))
    have hbP : bm ≠ 64 := fun q => by
      rw [q, m64.2.2] at b3; cases b3
    have hbG : bm ≠ mainGlobals := fun q => by
      obtain ⟨o, es, ep, e, hd, _⟩ := T.g
      rw [q, e] at b3; cases b3; rw [hd] at b6; cases b6
    refine kla_makeFunctionHit (s := st s h tk) (mg := mg) hcl rfl (T.g.keeps hS.fr.keep) rfl (C.keeps hS.fr.keep) m64.1 hps q ⟨bm, ob, b1, b2, hbG, hbP, hS.fr.keep _ _ b3, b4, b5, b6⟩ fun ctv h' tk' hk hsz => ?_
    exact k _ ({ cls := .type "function", data := .func (kla_fn (Str.ofString "<lambda>") ((envOf nm sc L a (Value.ref 68)).qual ++ Str.ofString "<lambda>") params body scope [] ((mg (Str.ofString "__name__")).getD Value.none) cv ctv) }) _ tk' _ ps hps rfl (.head _) (fun p hp => .tail _ hp) ((hS.keepAll hk).pushD _ rfl)
theorem r_callM2 {pos : Pos} {id : String} {e1 e2 : Expr} {o : Value} (k : wpAny (model prog w) A (eval e1 env) (fun v1 s₁ => wpAny (model prog w) A (eval e2 env) (fun v2 s₂ => wpAny (model prog w) A (call (.builtin id) [o, v1, v2]) Q E s₂) E s₁) E (st s h tk))
    (h1 : starEach [e1, e2] env = (false, eval e1 env) :: starEach [e2] env) (h2 : starEach [e2] env = [(false, eval e2 env)])
    (h4 : ((backTo pos (starEach [e2] env)).any fun x => x.1) = false) : wpAny (model prog w) A (callWith pos (.builtin id) [o] (backTo pos (starEach [e1, e2] env)) []) Q E (st s h tk) :=
  callWith_method1 (spliced_more (wpAny_mono k (fun _ _ q => spliced_more (wpAny_mono q (fun _ _ q => spliced_none q) fun _ _ x => x) h2) fun _ _ x => x) h1) h1 h4
theorem t_replace0 {a b c : List Nat} {t u v : Tok} (hn : inB b a = false) (hb : b ≠ []) (k : Q (.str (tx a) t) (st s h tk)) : wpAny (model prog w) A (call (.builtin "str.replace") [.str (tx a) t, .str (tx b) u, .str (tx c) v]) Q E (st s h tk) := by
  have hocc : (Builtin.Str.occurrences (tx a) (tx b) 0 (tx a).length ((tx a).length + 1)).isEmpty = true := by
    rw [StrLaws.occ_eq]
    have hfalse : ∀ i, ¬ StrLaws.At (tx a) (tx b) (tx a).length i := fun i hi => by
      have := (at_iff a b (tx a).length i).mp hi
      rw [tx_length] at this
      simp only [fits, Bool.and_eq_true, decide_eq_true_eq, beq_iff_eq] at this
      have := (inB_iff b a).mpr ⟨i, this⟩
      rw [hn] at this; cases this
    rcases StrLaws.occ_first (tx a) (tx b) (tx a).length ((tx a).length + 1) (by omega) (List.range' 0 ((tx a).length + 1 - 0)) 0 (fun i hi => by have := List.mem_range'_1.mp hi; omega) with ⟨h0, _⟩ | ⟨pre, x, post, e, h0, ha, _⟩
    · rw [h0]; rfl
    · exact absurd ha (hfalse x)
  have hc : ((Builtin.Str.occurrences (tx a) (tx b) 0 (tx a).length ((tx a).length + 1)).isEmpty || ((tx b).length == 0 && (tx c).length == 0)) = true := by rw [hocc]; rfl
  refine call_gives F.slot_str_replace (typeIs_str _ _ _) F.entry_str_replace (F.args_str_replace_3 _ _ _) (gives_str_replace (tx a) (tx b) (tx c) t u v fun q => by rw [hc] at q; cases q) ?_
  rw [if_pos hc]
  exact k
end
def utOf (c : Nat) : List Nat := if c = 42 then [91, 42, 93] else if c = 63 then [91, 63, 93] else if c = 91 then [91, 92, 91, 93] else ut1 c
def toksOf : List Nat → List (Option Nat)
  | [] => []
  | [a] => [some a]
  | [a, b] => [some a, some b]
  | a :: b :: c :: r => if a = 46 ∧ b = 46 ∧ c = 46 then none :: toksOf r else some a :: toksOf (b :: c :: r)
def encT : Option Nat → List Nat
  | none => [42]
  | some c => esc3 c
theorem patL_enc : ∀ l, patL l = (toksOf l).flatMap encT
  | [] => rfl
  | [a] => by simp [patL, toksOf, encT]
  | [a, b] => by simp [patL, toksOf, encT]
  | a :: b :: c :: r => by
    unfold patL toksOf
    split
    · rw [List.flatMap_cons, patL_enc r]; rfl
    · rw [List.flatMap_cons, patL_enc (b :: c :: r)]; rfl
def snocC (acc : List (Option Nat)) (x : Option Nat) : List (Option Nat) := if x = none ∧ acc.getLast? = some none then acc else acc ++ [x]
theorem encT_len (x : Option Nat) : 1 ≤ (encT x).length ∧ (encT x).length ≤ 3 := by
  cases x with
  | none => exact ⟨Nat.le_refl _, by decide⟩
  | some c =>
    show 1 ≤ (esc3 c).length ∧ (esc3 c).length ≤ 3
    unfold esc3; split <;> simp
theorem enc_len : ∀ ts : List (Option Nat), (ts.flatMap encT).length ≤ 3 * ts.length
  | [] => Nat.le_refl _
  | x :: r => by
    rw [List.flatMap_cons, List.length_append, List.length_cons]
    have := enc_len r
    have := (encT_len x).2
    omega
theorem snoc_len : ∀ (l acc : List (Option Nat)), (l.foldl snocC acc).length ≤ acc.length + l.length
  | [], acc => Nat.le_refl _
  | x :: r, acc => by
    rw [List.foldl_cons, List.length_cons]
    have := snoc_len r (snocC acc x)
    have h : (snocC acc x).length ≤ acc.length + 1 := by unfold snocC; split <;> simp
    omega
theorem nil_or_snoc {α : Type} (l : List α) : l = [] ∨ ∃ ys q, l = ys ++ [q] := by
  by_cases h : l = []
  · exact .inl h
  · obtain ⟨r, q, e⟩ := snoc_of h
    exact .inr ⟨r, q, e⟩
theorem snoc_step (done : List (Option Nat)) (x : Option Nat) : (done ++ [x]).foldl snocC [] = snocC (done.foldl snocC []) x := by rw [List.foldl_append]; rfl
structure TL where
  b : Addr
  u1 : Addr
  done : List (Option Nat)
  rest : List (Option Nat)
  items : List (Option Nat × Tok)
  m : Nat
  t1 : Tok
  t2 : Tok
  c : Option Value
  j : Option Value
  f : Option Value
  ps : Array Value
  D : List (Addr × Obj)
def tv (star : Addr) (p : Option Nat × Tok) : Value := match p.1 with | none => .ref star | some c => .str (tx (utOf c)) p.2

section
variable {prog : Program} {w : World} {A : Around} {s : Shared} {h : Heap} {tk : Nat} {P : Params} {g : Heap} {K0 : Addr → Obj → Prop} {L : Addr} {ns : List Str} {vs : List (Option Value)} {mu D : List (Addr × Obj)}
  {nm : Str} {sc : Scope} {a : Addr} {cd : Value} {E : Value → Shared → Prop} {n : Nat} {env : Env} {pos : Pos} {id : String} {Q : Value → Shared → Prop} {e e1 e2 e3 : Expr}
theorem spliced_nil {pos : Pos} {env : Env} {Q : List Value → Shared → Prop} (k : Q [] (st s h tk)) : wpAny (model prog w) A (spliced (backTo pos (starEach [] env))) Q E (st s h tk) := spliced_none k
theorem t_itemv {value slice : Expr} {l : List Nat} {t u : Tok} {i : Int} {c : Nat} (hc : l.getD i.toNat 0 = c) (h0 : 0 ≤ i) (h1 : i < l.length) (hl : l.length ≤ 1000000)
    (hs : subscripted slice false (.str (tx l) t) (.int i u) = operate [.str (tx l) t, .int i u] (getItem (.str (tx l) t) (.int i u)))
    (ht : ∀ r, letTemporaryGo value (.str (tx l) t) r = pure ())
    (k : ∀ t' tk', Q (.str (tx [c]) t') (st s h tk')) : wpAny (model prog w) A (subscriptTail value slice (.str (tx l) t) (.int i u)) Q E (st s h tk) := t_item h0 h1 hl hs ht (by rw [hc]; exact k)
theorem t_slicev {value slice : Expr} {l r : List Nat} {t ui uj : Tok} {i j : Int} (hr : (l.drop i.toNat).take (j - i).toNat = r) (hS : S P g K0 L ns vs mu D h) (hl : l.length ≤ 1000000) (h0 : 0 ≤ i) (h1 : i ≤ j)
    (hs : subscripted slice false (.str (tx l) t) (.ref h.objs.size) = operate [.ref h.objs.size, .str (tx l) t] (getItem (.str (tx l) t) (.ref h.objs.size)))
    (ht : ∀ r, letTemporaryGo value (.str (tx l) t) r = pure ())
    (k : ∀ h' t' tk', S P g K0 L ns vs mu D h' → Q (.str (tx r) t') (st s h' tk')) :
    wpAny (model prog w) A (subscriptTail value slice (.str (tx l) t) (.ref h.objs.size)) Q E (st s (h.push { cls := .type "slice", data := .fields #[.int i ui, .int j uj, .none] }) tk) := t_slice_ss hS hl h0 h1 hs ht (by rw [hr]; exact k)
theorem r_callF1 {f : Addr} (hS0 : S P g K0 L ns vs mu D h) (hk : keepIn (KK P) (.ref f) = true) (k : wpAny (model prog w) A (eval e env) (fun v s₁ => ∃ h' tk' vs' mu' D', s₁ = st s h' tk' ∧ S P g K0 L ns vs' mu' D' h' ∧ wpAny (model prog w) A (call (.ref f) [v]) Q E (st s h' tk')) E (st s h tk))
    (h1 : starEach [e] env = [(false, eval e env)]) : wpAny (model prog w) A (callWith pos (.ref f) [] (backTo pos (starEach [e] env)) []) Q E (st s h tk) :=
  callWith_K hS0.top'.X hk (spliced_more (wpAny_mono k (fun _ _ q => by obtain ⟨h', tk', vs', mu', D', rfl, hS, q⟩ := q; exact spliced_none ⟨hS.top'.X, q⟩) fun _ _ x => x) h1) h1 rfl
theorem r_callF2 {f : Addr} (hS0 : S P g K0 L ns vs mu D h) (hk : keepIn (KK P) (.ref f) = true) (k : wpAny (model prog w) A (eval e1 env) (fun v1 s₁ => wpAny (model prog w) A (eval e2 env) (fun v2 s₂ => ∃ h' tk' vs' mu' D', s₂ = st s h' tk' ∧ S P g K0 L ns vs' mu' D' h' ∧ wpAny (model prog w) A (call (.ref f) [v1, v2]) Q E (st s h' tk')) E s₁) E (st s h tk))
    (h1 : starEach [e1, e2] env = (false, eval e1 env) :: starEach [e2] env) (h2 : starEach [e2] env = [(false, eval e2 env)]) (h3 : ((backTo pos (starEach [e2] env)).any fun x => x.1) = false) : wpAny (model prog w) A (callWith pos (.ref f) [] (backTo pos (starEach [e1, e2] env)) []) Q E (st s h tk) :=
  callWith_K hS0.top'.X hk (spliced_more (wpAny_mono k (fun _ _ q => spliced_more (wpAny_mono q (fun _ _ q => by obtain ⟨h', tk', vs', mu', D', rfl, hS, q⟩ := q; exact spliced_none ⟨hS.top'.X, q⟩) fun _ _ x => x) h2) fun _ _ x => x) h1) h1 h3
theorem r_callF3 {f : Addr} (hS0 : S P g K0 L ns vs mu D h) (hk : keepIn (KK P) (.ref f) = true) (k : wpAny (model prog w) A (eval e1 env) (fun v1 s₁ => wpAny (model prog w) A (eval e2 env) (fun v2 s₂ => wpAny (model prog w) A (eval e3 env) (fun v3 s₃ => ∃ h' tk' vs' mu' D', s₃ = st s h' tk' ∧ S P g K0 L ns vs' mu' D' h' ∧ wpAny (model prog w) A (call (.ref f) [v1, v2, v3]) Q E (st s h' tk')) E s₂) E s₁) E (st s h tk))
    (h1 : starEach [e1, e2, e3] env = (false, eval e1 env) :: starEach [e2, e3] env) (h2 : starEach [e2, e3] env = (false, eval e2 env) :: starEach [e3] env) (h3 : starEach [e3] env = [(false, eval e3 env)]) (h4 : ((backTo pos (starEach [e2, e3] env)).any fun x => x.1) = false) : wpAny (model prog w) A (callWith pos (.ref f) [] (backTo pos (starEach [e1, e2, e3] env)) []) Q E (st s h tk) :=
  callWith_K hS0.top'.X hk (spliced_more (wpAny_mono k (fun _ _ q => spliced_more (wpAny_mono q (fun _ _ q => spliced_more (wpAny_mono q (fun _ _ q => by obtain ⟨h', tk', vs', mu', D', rfl, hS, q⟩ := q; exact spliced_none ⟨hS.top'.X, q⟩) fun _ _ x => x) h3) fun _ _ x => x) h2) fun _ _ x => x) h1) h1 h4
theorem t_jmany {v₁ v₂ : Expr} {rest : List Expr} (k : wpAny (model prog w) A (joinParts (tx []) (eval v₁ env :: eval v₂ env :: evalEach rest env)) Q E (st s h tk)) : wpAny (model prog w) A (eval (.JoinedStr (v₁ :: v₂ :: rest) pos) env) Q E (st s h tk) := JoinedStr_many k
theorem t_jnil {o : List Nat} (hl : o.length ≤ 1000000) (k : ∀ t tk', Q (.str (tx o) t) (st s h tk')) : wpAny (model prog w) A (joinParts (tx o) []) Q E (st s h tk) := joinParts_nil (s := st s h tk) (k _ _) (by rw [tx_length, sizeLine_eq]; omega)
theorem t_jcons {o : List Nat} {x : Sem Value} {rest : List (Sem Value)} (k : wpAny (model prog w) A x (fun v s₁ => ∃ y t, v = .str (tx y) t ∧ o.length + y.length ≤ 1000000 ∧ wpAny (model prog w) A (joinParts (tx (o ++ y)) rest) Q E s₁) E (st s h tk)) :
    wpAny (model prog w) A (joinParts (tx o) (x :: rest)) Q E (st s h tk) :=
  joinParts_cons (wpAny_mono k (fun v s₁ q => by
    obtain ⟨y, t, rfl, hl, q⟩ := q
    show (tx o ++ tx y).length ≤ sizeLine ∧ _
    rw [tx_append]
    exact ⟨by rw [tx_length, sizeLine_eq, List.length_append]; omega, q⟩) fun _ _ x => x)
theorem t_jconsE {o : List Nat} {e : Expr} {rest : List Expr} (k : wpAny (model prog w) A (eval e env) (fun v s₁ => ∃ y t, v = .str (tx y) t ∧ o.length + y.length ≤ 1000000 ∧ wpAny (model prog w) A (joinParts (tx (o ++ y)) (evalEach rest env)) Q E s₁) E (st s h tk)) :
    wpAny (model prog w) A (joinParts (tx o) (evalEach (e :: rest) env)) Q E (st s h tk) := t_jcons k
theorem t_jnilE {o : List Nat} (hl : o.length ≤ 1000000) (k : ∀ t tk', Q (.str (tx o) t) (st s h tk')) : wpAny (model prog w) A (joinParts (tx o) (evalEach [] env)) Q E (st s h tk) := t_jnil hl k
theorem t_fmt {x : List Nat} {t : Tok} (hl : x.length ≤ 1000000) (k : ∀ t' tk', Q (.str (tx x) t') (st s h tk')) : wpAny (model prog w) A (formatField (.str (tx x) t) Str.empty) Q E (st s h tk) := formatField_str (s := st s h tk) k (by rw [tx_length, sizeLine_eq]; omega)
end
theorem ite_ff {X Y : Prop} (h : Y) : if false = true then X else Y := by rw [if_neg Bool.false_ne_true]; exact h
theorem inB_one (b c : Nat) (h : b ≠ c) : inB [b] [c] = false := by
  cases q : inB [b] [c] with
  | false => rfl
  | true =>
    obtain ⟨i, h1, h2⟩ := (inB_iff [b] [c]).mp q
    simp only [List.length_cons, List.length_nil] at h1
    have : i = 0 := by omega
    subst this
    simp at h2
    exact absurd h2.symm h
theorem lit_6 : Str.ofString "\\" = tx [92] := by decide
theorem lit_7 : Str.ofString "\\\\" = tx [92, 92] := by decide
theorem lit_8 : Str.ofString "-" = tx [45] := by decide
theorem lit_9 : Str.ofString "!" = tx [33] := by decide
theorem lit_10 : Str.ofString "?" = tx [63] := by decide
theorem lit_11 : Str.ofString "^" = tx [94] := by decide
local macro_rules | `(tactic| walk_at "d") => `(tactic| ((try dsimp only); (repeat (first | assumption | exact List.Mem.head _ | refine List.Mem.tail _ ?_ | refine List.mem_append_right _ ?_)); done))
local macro_rules | `(tactic| walk_at "m") => `(tactic| first
  | with_reducible refine ite_tt ?_
  | with_reducible refine ite_ff ?_
  | with_reducible refine t_ne ?_
  | with_reducible refine t_notin1 ?_
  | with_reducible refine GM.replace ?_
  | ((with_reducible refine' r_gmSub ?S ?_); (case S => assumption))
  | with_reducible refine isTrue_and ?_
  | with_reducible refine isTrue_or ?_
  | with_reducible refine isTrue_not ?_
  | with_reducible refine isTrue_and_nil ?_
  | with_reducible refine isTrue_or_nil ?_
  | ((with_reducible refine' Attribute_Name_ ?_ ?m1); (case m1 => with_unfolding_all rfl))
  | ((with_reducible refine' r_gaApp ?S ?_); (case S => assumption); intro u h tk hS)
  | with_reducible refine List_ ?_
  | ((with_reducible refine spliced_nil ?_); ((with_reducible refine' r_newList ?S ?m1 ?_); (case S => assumption); (case m1 => exact Nat.le_of_ble_eq_true rfl); intro b h hS))
  | ((with_reducible refine t_lit lit_6 ?_); intro t tk)
  | ((with_reducible refine t_lit lit_7 ?_); intro t tk)
  | ((with_reducible refine t_lit lit_8 ?_); intro t tk)
  | ((with_reducible refine t_lit lit_9 ?_); intro t tk)
  | ((with_reducible refine t_lit lit_10 ?_); intro t tk)
  | ((with_reducible refine t_lit lit_11 ?_); intro t tk)
  | ((with_reducible refine' t_itemv ?m0 ?m1 ?m2 ?m3 ?m4 ?m5 ?_); (case m0 => assumption); (case m1 => first | assumption | omega); (case m2 => first | omega | (simp; done)); (case m3 => first | omega | (simp; done)); (case m4 => with_unfolding_all rfl); (case m5 => intro _; with_unfolding_all rfl); intro t tk)
  | ((with_reducible refine' t_slicev ?m0 ?S ?m1 ?m2 ?m3 ?m4 ?m5 ?_); (case m0 => assumption); (case S => assumption); (case m1 => first | assumption | omega); (case m2 => first | assumption | omega); (case m3 => first | assumption | omega); (case m4 => with_unfolding_all rfl); (case m5 => intro _; with_unfolding_all rfl); intro h t tk hS)
  | ((with_reducible refine wpAny_Expr ?_ ?m1 ?m2); (case m1 => rfl); (case m2 => rfl))
  | ((with_reducible refine' r_callAdd ?m0 ?_ ?m1); (case m1 => rfl); (case m0 => walk_at "d"))
  | ((with_reducible refine' r_callM2 ?_ ?m1 ?m2 ?m3); (case m1 => rfl); (case m2 => rfl); (case m3 => rfl))
  | ((with_reducible refine' r_add0 ?S ?m1 ?m2 ?_); (case S => assumption); (case m1 => exact S.kn (by assumption) _ _ (.inr (by walk_at "d"))); (case m2 => (simp only [List.length_map, sv_length]; omega)); intro h hS)
  | ((with_reducible refine' r_callF1 ?S ?m1 ?_ ?m2); (case S => assumption); (case m1 => rfl); (case m2 => rfl))
  | ((with_reducible refine' r_callF2 ?S ?m1 ?_ ?m2 ?m3 ?m4); (case S => assumption); (case m1 => rfl); (case m2 => rfl); (case m3 => rfl); (case m4 => rfl))
  | ((with_reducible refine' r_callF3 ?S ?m1 ?_ ?m2 ?m3 ?m4 ?m5); (case S => assumption); (case m1 => rfl); (case m2 => rfl); (case m3 => rfl); (case m4 => rfl); (case m5 => rfl))
  | ((refine' ⟨_, _, _, _, _, rfl, ?S, ?_⟩); (case S => assumption))
  | ((with_reducible refine ⟨_, _, rfl, ?m1, ?_⟩); (case m1 => exact S.kn (by assumption) _ _ (.inr (by walk_at "d"))))
  | with_reducible refine t_jmany ?_
  | with_reducible refine t_jcons ?_
  | with_reducible refine t_jconsE ?_
  | ((with_reducible refine t_jnilE ?m1 ?_); (case m1 => (simp only [List.length_append, List.length_cons, List.length_nil] at *; omega)); intro t tk)
  | with_reducible refine FormattedValue_plain ?_
  | ((with_reducible refine t_fmt ?m1 ?_); (case m1 => (simp only [List.length_append, List.length_cons, List.length_nil] at *; omega)); intro t tk)
  | ((with_reducible refine t_jnil ?m1 ?_); (case m1 => (simp only [List.length_append, List.length_cons, List.length_nil] at *; omega)); intro t tk)
  | ((with_reducible refine ⟨_, _, rfl, ?m1, ?_⟩); (case m1 => (simp only [List.length_append, List.length_cons, List.length_nil] at *; omega)))
  | with_reducible refine wpAny_isNot_ref_self ?_
  | ((with_reducible refine' r_ldg ?S ?m1 ?m2 ?m3 ?m4 ?_); (case S => assumption); (case m2 => rfl); (case m3 => rfl); (case m4 => decide); (case m1 => rfl)))
theorem trans_spec {prog : Program} {w : World} {h : Heap} {ts : List (Option Nat)} {t u : Tok} {n : Nat} {ps : Array Value} {star : Addr} (T : TopOk w.params h) (h64 : h.get? 64 = some (tabObj ps)) (hps : TabI ps) (hl : ts.length ≤ 300) (hn : n ≤ 700) :
    PureT prog w n 69 [.str (tx (ts.flatMap encT)) t, .ref star, .str (tx [46]) u] h (fun D v => ∃ (b : Addr) (items : List (Option Nat × Tok)) (m : Nat), v = .ref b ∧ (b, lo (items.map (tv star)) m) ∈ D ∧ items.map (·.1) = ts.foldl snocC []) := by
  refine enterT (K0 := fun _ _ => False) (ns := [Str.ofString "pat", Str.ofString "STAR", Str.ofString "QUESTION_MARK", Str.ofString "res", Str.ofString "add", Str.ofString "i", Str.ofString "n", Str.ofString "c", Str.ofString "j", Str.ofString "stuff"])
    (vs := [some (.str (tx (ts.flatMap encT)) t), some (.ref star), some (.str (tx [46]) u), none, none, none, none, none, none, none]) T (fun _ _ e => e.elim) h64 hps rfl rfl (by show n < 1000; omega) rfl rfl rfl rfl ?_
  intro A L s h tk ps hps hO hS Q0 hQ0
  have hlen : (ts.flatMap encT).length ≤ 1000 := Nat.le_trans (enc_len ts) (by omega)
  repeat walk_at "m"
  refine r_while (σ := TL) (fun x => [some (.str (tx (ts.flatMap encT)) t), some (.ref star), some (.str (tx [46]) u), some (.ref x.b), some (.ref x.u1), some (.int ((x.done.flatMap encT).length : Int) x.t1), some (.int ((ts.flatMap encT).length : Int) x.t2), x.c, x.j, x.f])
    (fun x => [(x.b, lo (x.items.map (tv star)) x.m), (64, tabObj x.ps)]) (fun x => x.D) (fun x => ts = x.done ++ x.rest ∧ x.items.map (·.1) = x.done.foldl snocC [] ∧ TabI x.ps ∧ (x.u1, ao x.b) ∈ x.D) (fun x => x.rest.length)
    ⟨_, _, [], ts, [], 0, _, _, none, none, none, ps, _⟩ (by assumption) ⟨rfl, rfl, hps, by walk_at "d"⟩ ?_
  rintro ⟨b, u1, done, rest, items, m, t1, t2, oc, oj, ofs, ps, D⟩ h tk hS ⟨hts, hit, hps, hD⟩ Q1 hQ1
  dsimp only at hS hts hit hps hD ⊢
  have hil : items.length ≤ 300 := by
    have h1 := congrArg List.length hit
    have h2 := snoc_len done []
    have h3 := congrArg List.length hts
    rw [List.length_map] at h1
    rw [List.length_append] at h3
    rw [List.length_nil] at h2
    omega
  have hlt : (ts.flatMap encT).length = (done.flatMap encT).length + (rest.flatMap encT).length := by rw [hts]; simp
  repeat walk_at "m"
  refine @r_if _ _ _ _ (fun hc => ?_) (fun hc => ?_)
  · obtain ⟨x, r, rfl⟩ : ∃ x r, rest = x :: r := by
      cases rest with
      | nil => rw [List.flatMap_nil, List.length_nil] at hlt; omega
      | cons x r => exact ⟨x, r, rfl⟩
    have hpos := encT_len x
    have hlx : (List.flatMap encT (x :: r)).length = (encT x).length + (r.flatMap encT).length := by simp
    have hget : ∀ k, k < (encT x).length → (ts.flatMap encT).getD ((done.flatMap encT).length + k) 0 = (encT x).getD k 0 := by
      intro k hk
      rw [hts, List.flatMap_append, List.getD_eq_getElem?_getD, List.getElem?_append_right (by omega), List.flatMap_cons, Nat.add_sub_cancel_left, List.getElem?_append_left hk, List.getD_eq_getElem?_getD]
    have hg0 : (ts.flatMap encT).getD ((((done.flatMap encT).length : Nat) : Int)).toNat 0 = (encT x).getD 0 0 := by
      have := hget 0 (by omega)
      simpa using this
    cases x with
    | none =>
      have hg0 : (ts.flatMap encT).getD ((((done.flatMap encT).length : Nat) : Int)).toNat 0 = 42 := hg0
      repeat walk_at "m"
      refine @r_if _ _ _ _ (fun _ => ?_) (fun hc2 => absurd rfl hc2)
      repeat walk_at "m"
      refine r_truthyL (get_mu0 (by assumption)) (by rw [List.length_map]; omega) fun tk => ?_
      have hend : ((List.flatMap encT done).length : Int) + 1 = (((done ++ [none]).flatMap encT).length : Int) := by
        rw [List.flatMap_append, List.length_append]; rfl
      rcases nil_or_snoc items with rfl | ⟨ys, q, rfl⟩
      · rw [if_pos (by rfl)]
        refine ite_tt ?_
        repeat walk_at "m"
        rw [hend] at *
        refine ⟨⟨b, u1, done ++ [none], r, [(none, 0)], _, _, _, _, _, _, ps, _⟩, _, _, rfl, by assumption, ⟨by rw [hts, List.append_assoc]; rfl, ?_, hps, by walk_at "d"⟩, by show r.length < (none :: r).length; simp⟩
        rw [snoc_step, ← hit]; rfl
      · rw [if_neg (by simp)]
        repeat walk_at "m"
        refine r_itemLm1v (v := tv star q) (get_mu0 (by assumption)) (by simp) (by rw [List.length_map]; omega) (by simp) (by with_unfolding_all rfl) ?_
        repeat walk_at "m"
        obtain ⟨oq, tq⟩ := q
        cases oq with
        | none =>
          show wpAny _ _ (compareOp .IsNot (.ref star) (.ref star)) _ _ _
          repeat walk_at "m"
          try rw [if_neg (by decide)]
          repeat walk_at "m"
          try rw [if_neg (by decide)]
          repeat walk_at "m"
          rw [hend] at *
          refine ⟨⟨b, u1, done ++ [none], r, ys ++ [(none, tq)], _, _, _, _, _, _, ps, _⟩, _, _, rfl, by assumption, ⟨by rw [hts, List.append_assoc]; rfl, ?_, hps, by walk_at "d"⟩, by show r.length < (none :: r).length; simp⟩
          rw [snoc_step, ← hit, List.map_append]; unfold snocC; rw [if_pos ⟨rfl, by simp⟩]
        | some d =>
          refine wpAny_isNot_other (by rfl) (by intro e; cases e) ?_
          repeat walk_at "m"
          try refine ite_tt ?_
          try refine ite_tt ?_
          repeat walk_at "m"
          rw [hend] at *
          refine ⟨⟨b, u1, done ++ [none], r, (ys ++ [(some d, tq)]) ++ [(none, 0)], _, _, _, _, _, _, ps, _⟩, _, _, rfl, by (rw [List.map_append]; assumption), ⟨by rw [hts, List.append_assoc]; rfl, ?_, hps, by walk_at "d"⟩, by show r.length < (none :: r).length; simp⟩
          rw [snoc_step, ← hit, List.map_append]; unfold snocC; rw [if_neg (by simp)]; rfl
    | some c =>
      by_cases hc3 : c ∈ [42, 63, 91]
      · have hce : encT (some c) = [91, c, 93] := if_pos hc3
        have hc3' : c = 42 ∨ c = 63 ∨ c = 91 := by simpa using hc3
        rw [hce] at hg0 hget hlx hpos
        have hg0 : (ts.flatMap encT).getD ((((done.flatMap encT).length : Nat) : Int)).toNat 0 = 91 := hg0
        have hg1 : (ts.flatMap encT).getD ((((done.flatMap encT).length : Nat) : Int) + 1).toNat 0 = c := hget 1 (by simp)
        have hg2 : (ts.flatMap encT).getD ((((done.flatMap encT).length : Nat) : Int) + 1 + 1).toNat 0 = 93 := hget 2 (by simp)
        have hs1 : ((ts.flatMap encT).drop ((((done.flatMap encT).length : Nat) : Int) + 1).toNat).take ((((done.flatMap encT).length : Nat) : Int) + 1 + 1 - ((((done.flatMap encT).length : Nat) : Int) + 1)).toNat = [c] := by
          have e1 : ((((done.flatMap encT).length : Nat) : Int) + 1 + 1 - ((((done.flatMap encT).length : Nat) : Int) + 1)).toNat = 1 := by omega
          have e2 : ((((done.flatMap encT).length : Nat) : Int) + 1).toNat = (done.flatMap encT).length + 1 := by omega
          rw [e2] at hg1
          rw [e1, e2, drop_cons (by simp only [List.length_cons, List.length_nil] at hlx; omega), hg1]
          rfl
        simp only [List.length_cons, List.length_nil] at hlx
        repeat walk_at "m"
        refine @r_if _ _ _ _ (fun hx => absurd hx (by decide)) (fun _ => ?_)
        repeat walk_at "m"
        refine @r_if _ _ _ _ (fun hx => absurd hx (by decide)) (fun _ => ?_)
        repeat walk_at "m"
        refine @r_if _ _ _ _ (fun _ => ?_) (fun hx => absurd rfl hx)
        repeat walk_at "m"
        refine @r_if _ _ _ _ (fun _ => ?_) (fun hx => absurd (by omega) hx)
        repeat walk_at "m"
        refine @r_if _ _ _ _ (fun hx => absurd hx (by simp; omega)) (fun _ => ?_)
        repeat walk_at "m"
        refine @r_if _ _ _ _ (fun _ => ?_) (fun hx => absurd (by omega) hx)
        repeat walk_at "m"
        refine @r_if _ _ _ _ (fun hx => absurd hx (by simp; omega)) (fun _ => ?_)
        repeat walk_at "m"
        have hD0 := hD
        refine r_while (σ := Int × Tok × Tok × Tok) (fun x => [some (.str (tx (ts.flatMap encT)) t), some (.ref star), some (.str (tx [46]) u), some (.ref b), some (.ref u1), some (.int ((((done.flatMap encT).length : Nat) : Int) + 1) x.2.2.1), some (.int ((ts.flatMap encT).length : Int) t2), some (.str (tx [91]) x.2.1), some (.int x.1 x.2.2.2), ofs])
          (fun _ => [(b, lo (items.map (tv star)) m), (64, tabObj ps)]) (fun _ => D) (fun x => x.1 = (((done.flatMap encT).length : Nat) : Int) + 1 ∨ x.1 = (((done.flatMap encT).length : Nat) : Int) + 1 + 1) (fun x => ((((done.flatMap encT).length : Nat) : Int) + 2 - x.1).toNat)
          (_, _, _, _) (by assumption) (.inl rfl) ?_
        rintro ⟨jv, tc, ti, tj⟩ h tk hS hI Q1 hQ1
        dsimp only at hS hI ⊢
        rcases hI with rfl | rfl
        · repeat walk_at "m"
          refine @r_if _ _ _ _ (fun _ => ?_) (fun hx => absurd (by omega) hx)
          repeat walk_at "m"
          refine @r_ifn _ _ _ _ (fun _ => ?_) (fun hx => absurd hx (by simp; omega))
          repeat walk_at "m"
          refine ⟨(_, _, _, _), _, _, rfl, by assumption, .inr rfl, ?_⟩
          dsimp only
          omega
        · repeat walk_at "m"
          refine @r_if _ _ _ _ (fun _ => ?_) (fun hx => absurd (by omega) hx)
          repeat walk_at "m"
          refine @r_ifn _ _ _ _ (fun hx => absurd rfl hx) (fun _ => ?_)
          repeat walk_at "m"
          refine @r_if _ _ _ _ (fun hx => absurd hx (by omega)) (fun _ => ?_)
          repeat walk_at "m"
          refine @r_ifn _ _ _ _ (fun _ => ?_) (fun hx => absurd hx (by simp; omega))
          repeat walk_at "m"
          refine t_replace0 (inB_one 92 c (by omega)) (by simp) ?_
          repeat walk_at "m"
          refine r_lambda (by assumption) hps rfl rfl ?_
          intro f fo h tk D' ps' hps' hfc hfD hDD hS
          have hD' := hDD _ hD
          repeat walk_at "m"
          refine r_sub (by assumption) hc3' (S.kn hS _ _ (.inr hfD)) hfc ?_
          intro h t4 tk hS
          have hq0 : [c].getD (0 : Int).toNat 0 = c := rfl
          repeat walk_at "m"
          refine t_truthy (by simp) fun tk => ?_
          refine @r_ifn _ _ _ _ (fun hx => absurd hx (by simp)) (fun _ => ?_)
          repeat walk_at "m"
          refine @r_if _ _ _ _ (fun hx => absurd hx (by simp; omega)) (fun _ => ?_)
          repeat walk_at "m"
          refine @r_if _ _ _ _ (fun hx => absurd hx (by simp; omega)) (fun _ => ?_)
          repeat walk_at "m"
          refine in_tuple_strs (isTup_to (get_D0 (by assumption))) (.cons _ _ (.cons _ _ .nil)) ?_
          have hend : ((List.flatMap encT done).length : Int) + 1 + 1 + 1 = (((done ++ [some c]).flatMap encT).length : Int) := by
            rw [List.flatMap_append, List.length_append, List.flatMap_cons, hce]; simp; omega
          have hts' : ts = (done ++ [some c]) ++ r := by rw [hts, List.append_assoc]; rfl
          have hit' : (items ++ [((some c, 0) : Option Nat × Tok)]).map (fun p => p.1) = (done ++ [some c]).foldl snocC [] := by
            rw [snoc_step, ← hit, List.map_append]; unfold snocC; rw [if_neg (by simp)]; rfl
          by_cases h91 : c = 91
          · subst h91
            rw [show ([tx [94], tx [91]].any fun x => x == tx [91]) = true by decide]
            repeat walk_at "m"
            rw [hend] at *
            refine ⟨⟨b, u1, done ++ [some 91], r, items ++ [(some 91, _)], _, _, _, _, _, _, ps', _⟩, _, _, rfl, by (rw [List.map_append]; assumption), ⟨hts', ?_, hps', by walk_at "d"⟩, by show r.length < (some 91 :: r).length; simp⟩
            rw [← hit', List.map_append, List.map_append]; rfl
          · rw [show ([tx [94], tx [91]].any fun x => x == tx [c]) = false by rcases hc3' with rfl | rfl | rfl <;> first | decide | exact absurd rfl h91]
            repeat walk_at "m"
            rw [hend] at *
            rcases hc3' with rfl | rfl | rfl
            · refine ⟨⟨b, u1, done ++ [some 42], r, items ++ [(some 42, _)], _, _, _, _, _, _, ps', _⟩, _, _, rfl, by (rw [List.map_append]; assumption), ⟨hts', ?_, hps', by walk_at "d"⟩, by show r.length < (some 42 :: r).length; simp⟩
              rw [← hit', List.map_append, List.map_append]; rfl
            · refine ⟨⟨b, u1, done ++ [some 63], r, items ++ [(some 63, _)], _, _, _, _, _, _, ps', _⟩, _, _, rfl, by (rw [List.map_append]; assumption), ⟨hts', ?_, hps', by walk_at "d"⟩, by show r.length < (some 63 :: r).length; simp⟩
              rw [← hit', List.map_append, List.map_append]; rfl
            · exact absurd rfl h91
      · have hce : encT (some c) = [c] := if_neg hc3
        have hcc : ¬ (c = 42 ∨ c = 63 ∨ c = 91) := by simpa using hc3
        rw [hce] at hg0 hget hlx hpos
        have hg0 : (ts.flatMap encT).getD ((((done.flatMap encT).length : Nat) : Int)).toNat 0 = c := hg0
        repeat walk_at "m"
        refine @r_if _ _ _ _ (fun hx => absurd hx (by simp; omega)) (fun _ => ?_)
        repeat walk_at "m"
        refine @r_if _ _ _ _ (fun hx => absurd hx (by simp; omega)) (fun _ => ?_)
        repeat walk_at "m"
        refine @r_if _ _ _ _ (fun hx => absurd hx (by simp; omega)) (fun _ => ?_)
        repeat walk_at "m"
        refine r_call (n := n + 1) (by assumption) (escape_spec (S.top' (by assumption)) (by omega)) hO ?_
        rintro v h tk Dn hS ⟨t4, hv⟩
        have e : utOf c = ut1 c := by unfold utOf; rw [if_neg (by omega), if_neg (by omega), if_neg (by omega)]
        rw [← e] at hv
        subst hv
        repeat walk_at "m"
        have hend : ((List.flatMap encT done).length : Int) + 1 = (((done ++ [some c]).flatMap encT).length : Int) := by
          rw [List.flatMap_append, List.length_append, List.flatMap_cons, hce]; simp
        rename_i hS
        rw [hend] at hS
        refine ⟨⟨b, u1, done ++ [some c], r, items ++ [(some c, _)], _, _, _, _, _, _, ps, _⟩, _, _, rfl, by (rw [List.map_append]; assumption), ⟨by rw [hts, List.append_assoc]; rfl, ?_, hps, by walk_at "d"⟩, by show r.length < (some c :: r).length; simp⟩
        rw [snoc_step, ← hit, List.map_append]; unfold snocC; rw [if_neg (by simp)]; rfl
  · have hr : rest = [] := by
      cases rest with
      | nil => rfl
      | cons x r =>
        have := (encT_len x).1
        rw [List.flatMap_cons, List.length_append] at hlt
        omega
    subst hr
    repeat walk_at "m"
    refine wpAny_Assert_holds ?_
    repeat walk_at "m"
    refine eq_int ?_
    repeat walk_at "m"
    refine ⟨by rw [hts]; simp, ?_⟩
    repeat walk_at "m"
    have hS := S.freeze (by assumption)
    refine ⟨_, rfl, S.backT hS hps ⟨b, items, m, rfl, .head _, ?_⟩⟩
    rw [hit, hts, List.append_nil]
def fx (l : List Nat) : List Nat := l.flatMap utOf
def jl : List (List Nat) → List Nat
  | [] => []
  | [r] => [46, 42] ++ fx r
  | r :: rs => [40, 63, 62, 46, 42, 63] ++ fx r ++ [41] ++ jl rs
def joinT (r0 : List Nat) (rs : List (List Nat)) : List Nat := [40, 63, 115, 58] ++ (fx r0 ++ jl rs) ++ [41, 92, 90]
def uv (p : Nat × Tok) : Value := .str (tx (utOf p.1)) p.2
def jv (star : Addr) (a0 : List (Nat × Tok)) (as : List (List (Nat × Tok))) : List Value := a0.map uv ++ as.flatMap fun r => .ref star :: r.map uv
theorem tv_split (star : Addr) : ∀ (items : List (Option Nat × Tok)) (r0 : List Nat) (rs : List (List Nat)), items.map (·.1) = r0.map some ++ rs.flatMap (fun r => none :: r.map some) →
    ∃ a0 as, a0.map (·.1) = r0 ∧ as.map (fun r => r.map (·.1)) = rs ∧ items.map (tv star) = jv star a0 as := by
  intro items
  induction items with
  | nil =>
    intro r0 rs h
    have h1 : r0 = [] := by
      cases r0 with
      | nil => rfl
      | cons _ _ => simp at h
    subst h1
    cases rs with
    | nil => exact ⟨[], [], rfl, rfl, rfl⟩
    | cons _ _ => simp at h
  | cons q items ih =>
    intro r0 rs h
    obtain ⟨oq, tq⟩ := q
    cases r0 with
    | nil =>
      cases rs with
      | nil => simp at h
      | cons r rs =>
        simp only [List.map_nil, List.nil_append, List.map_cons, List.flatMap_cons, List.cons_append, List.cons.injEq] at h
        obtain ⟨h1, h2⟩ := h
        subst h1
        obtain ⟨a0, as, e1, e2, e3⟩ := ih r rs h2
        refine ⟨[], a0 :: as, rfl, by rw [List.map_cons, e1, e2], ?_⟩
        rw [List.map_cons, e3]
        rfl
    | cons c r0 =>
      simp only [List.map_cons, List.cons_append, List.cons.injEq] at h
      obtain ⟨h1, h2⟩ := h
      subst h1
      obtain ⟨a0, as, e1, e2, e3⟩ := ih r0 rs h2
      refine ⟨(c, tq) :: a0, as, by rw [List.map_cons, e1], e2, ?_⟩
      rw [List.map_cons, e3]
      rfl
section
variable {prog : Program} {w : World} {A : Around} {s : Shared} {h : Heap} {tk : Nat} {P : Params} {g : Heap} {K0 : Addr → Obj → Prop} {L : Addr} {ns : List Str} {vs : List (Option Value)} {mu D : List (Addr × Obj)}
  {nm : Str} {sc : Scope} {a : Addr} {cd : Value} {E : Value → Shared → Prop} {n : Nat} {env : Env} {pos : Pos} {id : String} {Q : Value → Shared → Prop}
theorem sv_strs : ∀ l : List (List Nat × Tok), StrsAre (sv l) (l.map fun p => tx p.1)
  | [] => .nil
  | p :: r => .cons _ _ (sv_strs r)
theorem glue_fold : ∀ (l : List (List Nat)) (acc : Array Nat), ((l.map tx).foldl (fun (acc : Array Nat) (p : Str) => acc ++ (tx []).cps ++ p.cps) acc).toList = acc.toList ++ l.flatten
  | [], acc => by simp
  | x :: r, acc => by
    rw [List.map_cons, List.foldl_cons, glue_fold r]
    simp [tx]
theorem join_tx (l : List (List Nat)) : Txt.join (tx []) (l.map tx) = tx l.flatten := by
  refine Str.ext' ?_
  show ((Builtin.Str.glued (tx []) (l.map tx)).cps) = _
  unfold Builtin.Str.glued
  rw [← Array.toList_inj]
  cases l with
  | nil => rfl
  | cons x r =>
    rw [List.map_cons, List.drop_succ_cons, List.drop_zero, glue_fold]
    simp [tx]
theorem sv_split (l : List (List Nat × Tok)) : (l.map fun p => tx p.1) = (l.map (·.1)).map tx := by rw [List.map_map]; rfl
theorem t_join {b : Addr} {l : List (List Nat × Tok)} {m : Nat} {t : Tok} (ho : h.get? b = some (lo (sv l) m)) (hl : ((l.map (·.1)).map List.length).sum ≤ 1000000) (k : ∀ t' tk', Q (.str (tx (l.map (·.1)).flatten) t') (st s h tk')) :
    wpAny (model prog w) A (call (.builtin "str.join") [.str (tx []) t, .ref b]) Q E (st s h tk) := by
  refine join_list (s := st s h tk) (isList_lo ho) (sv_strs l) ?_ fun t' tk' => ?_
  · rw [List.map_map]
    have e : (List.map ((fun x => x.length) ∘ fun (p : List Nat × Tok) => tx p.1) l) = (l.map (·.1)).map List.length := by
      rw [List.map_map]
      refine List.map_congr_left fun p _ => ?_
      show (tx p.1).length = p.1.length
      exact tx_length _
    rw [e]
    show _ + _ * (tx []).length ≤ _
    rw [tx_length]
    simp only [List.length_nil, Nat.mul_zero, Nat.add_zero]
    omega
  · rw [sv_split, join_tx]
    exact k t' tk'
end
section
variable {prog : Program} {w : World} {A : Around} {s : Shared} {h : Heap} {tk : Nat} {P : Params} {g : Heap} {K0 : Addr → Obj → Prop} {L : Addr} {ns : List Str} {vs : List (Option Value)} {mu D : List (Addr × Obj)} {E : Value → Shared → Prop} {env : Env}
theorem r_cutE {σ : Type} {stm : Stmt} {Q : Flow → Shared → Prop} (_h0 : S P g K0 L ns vs mu D h) (vsx : σ → List (Option Value)) (mux Dx : σ → List (Addr × Obj)) (I : σ → Prop)
    (k2 : ∀ x h tk, S P g K0 L ns (vsx x) (mux x) (Dx x) h → I x → Q .next (st s h tk))
    (k1 : ∀ Q1, Abs (fun f s' => match f with | .next => FL s P g K0 L ns vsx mux Dx I s' | f => Q f s') Q1 → wpAny (model prog w) A (exec stm env) Q1 E (st s h tk)) :
    wpAny (model prog w) A (exec stm env) Q E (st s h tk) := by
  refine wpAny_mono (k1 _ ⟨fun _ _ x => x⟩) (fun f s' hq => ?_) fun _ _ e => e
  cases f with
  | next => obtain ⟨x, h', tk', rfl, a, b⟩ := hq; exact k2 x h' tk' a b
  | brk => exact hq
  | cont => exact hq
  | ret v => exact hq
end
theorem lit_12 : Str.ofString ".*" = tx [46, 42] := by decide
theorem lit_13 : Str.ofString "(?>.*?" = tx [40, 63, 62, 46, 42, 63] := by decide
theorem lit_14 : Str.ofString ")" = tx [41] := by decide
theorem lit_15 : Str.ofString "(?s:" = tx [40, 63, 115, 58] := by decide
theorem lit_16 : Str.ofString ")\\Z" = tx [41, 92, 90] := by decide
local macro_rules | `(tactic| walk_at "m") => `(tactic| first
  | ((with_reducible refine' r_add0 ?S ?m1 ?m2 ?_); (case S => assumption); (case m1 => exact S.kn (by assumption) _ _ (.inr (by walk_at "d"))); (case m2 => (simp only [List.length_map, sv_length, List.length_append, List.length_cons, List.length_nil]; omega)); intro h hS)
  | with_reducible refine wpAny_is_ref_self ?_
  | with_reducible refine wpAny_Break ?_
  | with_reducible refine wpAny_Assert_holds ?_
  | with_reducible refine eq_int ?_
  | ((with_reducible refine t_lit lit_12 ?_); intro t tk)
  | ((with_reducible refine t_lit lit_13 ?_); intro t tk)
  | ((with_reducible refine t_lit lit_14 ?_); intro t tk)
  | ((with_reducible refine t_lit lit_15 ?_); intro t tk)
  | ((with_reducible refine t_lit lit_16 ?_); intro t tk)
  | ((with_reducible refine' r_itemLv ?m0 ?m1 ?m2 ?m3 ?m4 ?m5 ?_); (case m4 => assumption); (case m0 => ((refine' S.kn ?hh _ _ (.inl ?kk)); (case hh => assumption); (case kk => exact ⟨rfl, rfl⟩))); (case m1 => first | assumption | omega); (case m2 => first | assumption | omega); (case m3 => first | assumption | omega); (case m5 => with_unfolding_all rfl))
  | ((with_reducible refine' r_lenL ?m0 ?m1 ?_); (case m0 => ((refine' S.kn ?hh _ _ (.inl ?kk)); (case hh => assumption); (case kk => exact ⟨rfl, rfl⟩))); (case m1 => first | assumption | omega); intro t tk)
  | with_reducible refine r_gmApp ?m0 ?_)
theorem jv_len (star : Addr) (a0 : List (Nat × Tok)) (as : List (List (Nat × Tok))) : (jv star a0 as).length = a0.length + (as.flatMap fun r => Value.ref star :: r.map uv).length := by simp [jv]
theorem utOf_len (c : Nat) : (utOf c).length ≤ 4 := by
  unfold utOf ut1
  repeat' split
  all_goals simp
def jf (star : Addr) (r : List (Nat × Tok)) : List Value := .ref star :: r.map uv
theorem jv_at (star : Addr) (a0 : List (Nat × Tok)) (pre post : List (List (Nat × Tok))) (r : List (Nat × Tok)) :
    (jv star a0 (pre ++ r :: post)).getD (a0.length + (pre.flatMap (jf star)).length) .none = .ref star ∧
    ∀ j < r.length, (jv star a0 (pre ++ r :: post)).getD (a0.length + (pre.flatMap (jf star)).length + 1 + j) .none = .str (tx (utOf (r.getD j (0, 0)).1)) (r.getD j (0, 0)).2 := by
  have e : jv star a0 (pre ++ r :: post) = (a0.map uv ++ pre.flatMap (jf star)) ++ (.ref star :: (r.map uv ++ post.flatMap (jf star))) := by
    unfold jv
    rw [List.flatMap_append, List.flatMap_cons, List.append_assoc]
    rfl
  have hlen : (a0.map uv ++ pre.flatMap (jf star)).length = a0.length + (pre.flatMap (jf star)).length := by rw [List.length_append, List.length_map]
  rw [e, ← hlen]
  generalize (a0.map uv ++ pre.flatMap (jf star)) = X
  constructor
  · rw [List.getD_eq_getElem?_getD, List.getElem?_append_right (Nat.le_refl _), Nat.sub_self]
    rfl
  · intro j hj
    rw [List.getD_eq_getElem?_getD, List.getElem?_append_right (by omega), show X.length + 1 + j - X.length = j + 1 by omega, List.getElem?_cons_succ, List.getElem?_append_left (by rw [List.length_map]; exact hj), List.getElem?_map, List.getD_eq_getElem?_getD, List.getElem?_eq_getElem hj]
    rfl
theorem jfl_pos (star : Addr) (y : List (Nat × Tok)) (z : List (List (Nat × Tok))) : 1 ≤ ((y :: z).flatMap (jf star)).length := by
  rw [List.flatMap_cons, List.length_append]
  have : (jf star y).length = y.length + 1 := by simp [jf]
  omega
theorem jf_snoc (star : Addr) (pre : List (List (Nat × Tok))) (r : List (Nat × Tok)) : ((pre ++ [r]).flatMap (jf star)).length = (pre.flatMap (jf star)).length + 1 + r.length := by
  rw [List.flatMap_append, List.length_append, List.flatMap_cons, List.flatMap_nil, List.append_nil]
  have : (jf star r).length = r.length + 1 := by simp [jf]
  omega
theorem fx_len : ∀ l : List Nat, (fx l).length ≤ 4 * l.length
  | [] => Nat.le_refl _
  | c :: r => by
    unfold fx
    rw [List.flatMap_cons, List.length_append, List.length_cons]
    have := fx_len r
    have := utOf_len c
    unfold fx at *
    omega
theorem jl_len (star : Addr) : ∀ as : List (List (Nat × Tok)), (jl (as.map fun r => r.map (·.1))).length ≤ 7 * (as.flatMap (jf star)).length
  | [] => Nat.zero_le _
  | [r] => by
    simp only [List.map_cons, List.map_nil, jl, List.flatMap_cons, List.flatMap_nil, List.length_append, jf, List.length_cons, List.length_nil, List.length_map]
    have := fx_len (r.map (·.1))
    rw [List.length_map] at this
    omega
  | r :: r2 :: rs => by
    have ih := jl_len star (r2 :: rs)
    have := fx_len (r.map (·.1))
    rw [List.length_map] at this
    rw [List.flatMap_cons, List.map_cons]
    rw [List.map_cons] at ih ⊢
    simp only [jl, List.length_append, jf, List.length_cons, List.length_nil, List.length_map] at ih ⊢
    omega
theorem take_snoc {α : Type} (l : List α) (k : Nat) (d : α) (h : k < l.length) : l.take (k + 1) = l.take k ++ [l.getD k d] := by
  rw [List.take_succ, List.getElem?_eq_getElem h, List.getD_eq_getElem?_getD, List.getElem?_eq_getElem h]
  rfl
structure JB where
  b : Addr
  u1 : Addr
  pc : List (List Nat × Tok)
  m : Nat
  i : Int
  t1 : Tok
  t2 : Tok
  f : Option Value
  D : List (Addr × Obj)
  pre : List (List (Nat × Tok))
  post : List (List (Nat × Tok))
structure JC where
  fb : Addr
  fc : List (List Nat × Tok)
  m2 : Nat
  i : Int
  t1 : Tok
  D : List (Addr × Obj)
structure JA where
  b : Addr
  u1 : Addr
  pc : List (List Nat × Tok)
  m : Nat
  i : Int
  t1 : Tok
  t2 : Tok
  f : Option Value
  D : List (Addr × Obj)
def Goodr (as : List (List (Nat × Tok))) : Prop := ∀ r ∈ as.dropLast, r ≠ []
theorem joinp_spec {prog : Program} {w : World} {h : Heap} {a0 : List (Nat × Tok)} {as : List (List (Nat × Tok))} {n m : Nat} {inp star : Addr} (T : TopOk w.params h) (hi : h.get? inp = some (lo (jv star a0 as) m)) (hg : Goodr as) (hl : (jv star a0 as).length ≤ 300) (hn : n ≤ 700) :
    Pure prog w n 76 [.ref inp, .ref star] h (fun D v => ∃ t, v = .str (tx (joinT (a0.map (·.1)) (as.map fun r => r.map (·.1)))) t) := by
  refine enter (K0 := fun b o => b = inp ∧ o = lo (jv star a0 as) m) (ns := [Str.ofString "inp", Str.ofString "STAR", Str.ofString "res", Str.ofString "add", Str.ofString "i", Str.ofString "n", Str.ofString "fixed"])
    (vs := [some (.ref inp), some (.ref star), none, none, none, none, none]) T (by rintro b o ⟨rfl, rfl⟩; exact hi) rfl rfl (by show n < 1000; omega) rfl rfl rfl rfl ?_
  intro A L s h tk hO hS Q0 hQ0
  have hjl := jv_len star a0 as
  repeat walk_at "m"
  have hA : ∀ i < a0.length, (jv star a0 as).getD i .none = uv (a0.getD i (0, 0)) := by
    intro i hi
    unfold jv
    rw [List.getD_eq_getElem?_getD, List.getElem?_append_left (by rw [List.length_map]; exact hi), List.getElem?_map, List.getD_eq_getElem?_getD, List.getElem?_eq_getElem hi]
    rfl
  refine r_cutE (σ := JA) (by assumption) (fun x => [some (.ref inp), some (.ref star), some (.ref x.b), some (.ref x.u1), some (.int x.i x.t1), some (.int ((jv star a0 as).length : Int) x.t2), x.f])
    (fun x => [(x.b, lo (sv x.pc) x.m)]) (fun x => x.D) (fun x => x.i = a0.length ∧ x.pc.map (·.1) = a0.map (fun p => utOf p.1) ∧ (x.u1, ao x.b) ∈ x.D) ?_ ?_
  · rintro ⟨b, u1, pc, m1, iv, t1, t2, fo, D⟩ h tk hS ⟨hi1, hpc, hD⟩
    dsimp only at hS hi1 hpc hD ⊢
    subst hi1
    have hR0 : (pc.map (·.1)).flatten = fx (a0.map (·.1)) := by
      rw [hpc]; unfold fx; rw [List.flatMap_map]; rfl
    have hpl : pc.length = a0.length := by
      have := congrArg List.length hpc
      simpa using this
    repeat walk_at "m"
    refine r_cutE (σ := JB) (by assumption) (fun x => [some (.ref inp), some (.ref star), some (.ref x.b), some (.ref x.u1), some (.int x.i x.t1), some (.int ((jv star a0 as).length : Int) x.t2), x.f])
      (fun x => [(x.b, lo (sv x.pc) x.m)]) (fun x => x.D) (fun x => x.i = (jv star a0 as).length ∧ (x.pc.map (·.1)).flatten = fx (a0.map (·.1)) ++ jl (as.map fun r => r.map (·.1))) ?_ ?_
    · rintro ⟨b, u1, pc, m1, iv, t1, t2, fo, D, pre, post⟩ h tk hS ⟨hi1, hfl⟩
      dsimp only at hS hi1 hfl ⊢
      subst hi1
      have hfl2 : (pc.map (·.1)).flatten.length ≤ 5000 := by
        rw [hfl, List.length_append]
        have h1 := fx_len (a0.map (·.1))
        have h2 := jl_len star as
        rw [List.length_map] at h1
        have h3 : (as.flatMap (jf star)).length = (as.flatMap fun r => Value.ref star :: r.map uv).length := rfl
        omega
      have hsum : ((pc.map (·.1)).map List.length).sum ≤ 1000000 := by rw [← List.length_flatten]; omega
      repeat walk_at "m"
      refine ⟨by simp, ?_⟩
      repeat walk_at "m"
      refine t_join (get_mu0 (by assumption)) hsum ?_
      intro t tk
      repeat walk_at "m"
      refine' ⟨_, rfl, S.back (by assumption) ⟨_, ?_⟩⟩
      rotate_left
      · rw [hfl]; rfl
    · intro Qb hQb
      refine r_while (σ := JB) (fun x => [some (.ref inp), some (.ref star), some (.ref x.b), some (.ref x.u1), some (.int x.i x.t1), some (.int ((jv star a0 as).length : Int) x.t2), x.f])
        (fun x => [(x.b, lo (sv x.pc) x.m)]) (fun x => x.D) (fun x => x.i = ((a0.length + (x.pre.flatMap (jf star)).length : Nat) : Int) ∧ as = x.pre ++ x.post ∧ (x.pc.map (·.1)).flatten ++ jl (x.post.map fun r => r.map (·.1)) = fx (a0.map (·.1)) ++ jl (as.map fun r => r.map (·.1)) ∧
          x.pc.length ≤ a0.length + (x.pre.flatMap (jf star)).length ∧ (x.u1, ao x.b) ∈ x.D) (fun x => x.post.length)
        ⟨b, u1, pc, m1, a0.length, t1, t2, fo, D, [], as⟩ (by assumption) ⟨rfl, rfl, by rw [hR0], by rw [hpl]; exact Nat.le_refl _, hD⟩ ?_
      rintro ⟨b, u1, pc, m1, iv, t1, t2, fo, D, pre, post⟩ h tk hS ⟨hi1, has, hfl, hpl, hD⟩ Q1 hQ1
      dsimp only at hS hi1 has hfl hpl hD ⊢
      subst hi1
      have hn2 : (jv star a0 as).length = a0.length + (pre.flatMap (jf star)).length + (post.flatMap (jf star)).length := by
        have h3 : (as.flatMap (jf star)).length = (as.flatMap fun r => Value.ref star :: r.map uv).length := rfl
        have h4 : (as.flatMap (jf star)).length = (pre.flatMap (jf star)).length + (post.flatMap (jf star)).length := by rw [has, List.flatMap_append, List.length_append]
        omega
      repeat walk_at "m"
      refine @r_if _ _ _ _ (fun hc => ?_) (fun hc => ?_)
      · obtain ⟨r, post, rfl⟩ : ∃ r p, post = r :: p := by
          cases post with
          | nil => rw [List.flatMap_nil, List.length_nil] at hn2; omega
          | cons r p => exact ⟨r, p, rfl⟩
        have hrl : ((r :: post).flatMap (jf star)).length = 1 + r.length + (post.flatMap (jf star)).length := by
          rw [List.flatMap_cons, List.length_append]; unfold jf; rw [List.length_cons, List.length_map]; omega
        obtain ⟨q1, q2⟩ := jv_at star a0 pre post r
        rw [← has] at q1 q2
        have hv : (jv star a0 as).getD (((a0.length + (pre.flatMap (jf star)).length : Nat) : Int)).toNat .none = .ref star := q1
        repeat walk_at "m"
        refine ⟨rfl, ?_⟩
        repeat walk_at "m"
        refine r_ifb (fun hx => ?_) (fun hx => ?_)
        · have hx : (((a0.length + (pre.flatMap (jf star)).length : Nat) : Int)) + 1 = ((jv star a0 as).length : Int) := by simpa using hx
          have hr : r = [] := by
            cases r with
            | nil => rfl
            | cons _ _ => rw [List.length_cons] at hrl; omega
          subst hr
          have hp : post = [] := by
            cases post with
            | nil => rfl
            | cons y z =>
              have h1 := jfl_pos star y z
              rw [List.length_nil] at hrl
              omega
          subst hp
          repeat walk_at "m"
          refine ⟨⟨b, u1, pc ++ [([46, 42], _)], _, _, _, _, _, _, [], []⟩, _, _, rfl, by (rw [sv_snoc]; assumption), hx, ?_⟩
          rw [← hfl, List.map_append, List.flatten_append]; rfl
        · have hx : ¬ ((((a0.length + (pre.flatMap (jf star)).length : Nat) : Int)) + 1 = ((jv star a0 as).length : Int)) := by simpa using hx
          have hr : r ≠ [] := by
            by_cases hp : post = []
            · subst hp
              intro hr
              subst hr
              rw [List.flatMap_nil, List.length_nil] at hrl
              simp only [List.length_nil] at hrl
              omega
            · refine hg r ?_
              rw [has, List.dropLast_append_of_ne_nil (by simp)]
              obtain ⟨y, z, rfl⟩ : ∃ y z, post = y :: z := by
                cases post with
                | nil => exact absurd rfl hp
                | cons y z => exact ⟨y, z, rfl⟩
              simp
          have hr1 : 0 < r.length := List.length_pos_iff.mpr hr
          have hv0 : (jv star a0 as).getD (((a0.length + (pre.flatMap (jf star)).length : Nat) : Int) + 1).toNat .none = .str (tx (utOf (r.getD 0 (0, 0)).1)) (r.getD 0 (0, 0)).2 := q2 0 hr1
          repeat walk_at "m"
          refine wpAny_isNot_other (by rfl) (by intro e; cases e) ?_
          repeat walk_at "m"
          refine ⟨rfl, ?_⟩
          repeat walk_at "m"
          refine r_cutE (σ := JC × Tok × Nat) (by assumption) (fun x => [some (.ref inp), some (.ref star), some (.ref b), some (.ref u1), some (.int x.1.i x.1.t1), some (.int ((jv star a0 as).length : Int) x.2.1), some (.ref x.1.fb)])
            (fun x => [(x.1.fb, lo (sv x.1.fc) x.1.m2), (b, lo (sv pc) m1)]) (fun x => x.1.D) (fun x => x.1.i = ((a0.length + (pre.flatMap (jf star)).length + 1 + r.length : Nat) : Int) ∧ x.1.fc.map (·.1) = r.map (fun p => utOf p.1) ∧ (u1, ao b) ∈ x.1.D) ?_ ?_
          · rintro ⟨⟨fb, fc, m2, iv, t1, D⟩, t2, _⟩ h tk hS ⟨hi1, hfc, hD⟩
            dsimp only at hS hi1 hfc hD ⊢
            subst hi1
            have hR : (fc.map (·.1)).flatten = fx (r.map (·.1)) := by
              rw [hfc]; unfold fx; rw [List.flatMap_map]; rfl
            have hfl2 : (fc.map (·.1)).flatten.length ≤ 5000 := by
              rw [hR]
              have h1 := fx_len (r.map (·.1))
              rw [List.length_map] at h1
              omega
            have hfl3 : (fx (r.map (·.1))).length ≤ 5000 := by rw [← hR]; exact hfl2
            have hsum : ((fc.map (·.1)).map List.length).sum ≤ 1000000 := by rw [← List.length_flatten]; omega
            repeat walk_at "m"
            refine t_join (get_mu0 (by assumption)) hsum ?_
            intro t tk
            rw [hR]
            have hS := S.drop (by assumption)
            repeat walk_at "m"
            refine r_ifb (fun hx => ?_) (fun hx => ?_)
            · have hx : ((a0.length + (pre.flatMap (jf star)).length + 1 + r.length : Nat) : Int) = ((jv star a0 as).length : Int) := by simpa using hx
              have hp : post = [] := by
                cases post with
                | nil => rfl
                | cons y z =>
                  have h1 := jfl_pos star y z
                  omega
              subst hp
              repeat walk_at "m"
              refine ⟨⟨b, u1, (pc ++ [([46, 42], _)]) ++ [(fx (r.map (·.1)), _)], _, _, _, _, _, _, pre ++ [r], []⟩, _, _, rfl, by (rw [sv_snoc, sv_snoc]; assumption), ⟨?_, ?_, ?_, ?_, by walk_at "d"⟩, by show 0 < ([r]).length; simp⟩
              · dsimp only; rw [jf_snoc]; push_cast; omega
              · rw [has]; simp
              · rw [← hfl, List.map_append, List.map_append, List.flatten_append, List.flatten_append]; simp [jl]
              · dsimp only; rw [jf_snoc]; simp only [List.length_append, List.length_cons, List.length_nil]; omega
            · have hx : ¬ (((a0.length + (pre.flatMap (jf star)).length + 1 + r.length : Nat) : Int) = ((jv star a0 as).length : Int)) := by simpa using hx
              obtain ⟨y, z, rfl⟩ : ∃ y z, post = y :: z := by
                cases post with
                | nil => rw [List.flatMap_nil, List.length_nil] at hrl; omega
                | cons y z => exact ⟨y, z, rfl⟩
              repeat walk_at "m"
              refine ⟨⟨b, u1, pc ++ [([] ++ [40, 63, 62, 46, 42, 63] ++ fx (r.map (·.1)) ++ [41], _)], _, _, _, _, _, _, pre ++ [r], y :: z⟩, _, _, rfl, by (rw [sv_snoc]; assumption), ⟨?_, ?_, ?_, ?_, by walk_at "d"⟩, by show (y :: z).length < (r :: y :: z).length; simp⟩
              · dsimp only; rw [jf_snoc]; push_cast; omega
              · rw [has]; simp
              · rw [← hfl, List.map_append, List.flatten_append]; simp [jl]
              · dsimp only; rw [jf_snoc]; simp only [List.length_append, List.length_cons, List.length_nil]; omega
          · intro Qc hQc
            refine r_while (σ := JC × Tok × Nat) (fun x => [some (.ref inp), some (.ref star), some (.ref b), some (.ref u1), some (.int x.1.i x.1.t1), some (.int ((jv star a0 as).length : Int) x.2.1), some (.ref x.1.fb)])
              (fun x => [(x.1.fb, lo (sv x.1.fc) x.1.m2), (b, lo (sv pc) m1)]) (fun x => x.1.D) (fun x => x.1.i = ((a0.length + (pre.flatMap (jf star)).length : Nat) : Int) + 1 + (x.2.2 : Nat) ∧ x.2.2 ≤ r.length ∧ x.1.fc.map (·.1) = (r.take x.2.2).map (fun p => utOf p.1) ∧ (u1, ao b) ∈ x.1.D) (fun x => r.length - x.2.2)
              ⟨⟨_, [], 0, _, _, _⟩, _, 0⟩ (by assumption) ⟨by simp, Nat.zero_le _, rfl, by walk_at "d"⟩ ?_
            rintro ⟨⟨fb, fc, m2, iv, t1, D⟩, t2, j⟩ h tk hS ⟨hi1, hj, hfc, hD⟩ Q1 hQ1
            dsimp only at hS hi1 hj hfc hD ⊢
            subst hi1
            have hfcl : fc.length = j := by
              have := congrArg List.length hfc
              simp only [List.length_map, List.length_take] at this
              omega
            repeat walk_at "m"
            refine @r_if _ _ _ _ (fun hc2 => ?_) (fun hc2 => ?_)
            · by_cases hjr : j < r.length
              · have hv : (jv star a0 as).getD (((a0.length + (pre.flatMap (jf star)).length : Nat) : Int) + 1 + (j : Nat)).toNat .none = .str (tx (utOf (r.getD j (0, 0)).1)) (r.getD j (0, 0)).2 := by
                  have e : (((a0.length + (pre.flatMap (jf star)).length : Nat) : Int) + 1 + (j : Nat)).toNat = a0.length + (pre.flatMap (jf star)).length + 1 + j := by omega
                  rw [e]; exact q2 j hjr
                repeat walk_at "m"
                refine wpAny_isNot_other (by rfl) (by intro e; cases e) ?_
                repeat walk_at "m"
                refine r_gmApp (get_mu0 (by assumption)) ?_
                repeat walk_at "m"
                refine r_app0 (by assumption) (by rw [sv_length]; omega) fun h hS => ?_
                repeat walk_at "m"
                refine ⟨⟨⟨fb, fc ++ [(utOf (r.getD j (0, 0)).1, (r.getD j (0, 0)).2)], _, _, _, D⟩, _, j + 1⟩, _, _, rfl, by (rw [sv_snoc]; assumption), ⟨by show _ + _ = _; push_cast; omega, hjr, ?_, hD⟩, by show r.length - (j + 1) < r.length - j; omega⟩
                rw [take_snoc r j (0, 0) hjr, List.map_append, List.map_append, hfc]; rfl
              · have hj2 : j = r.length := by omega
                subst hj2
                obtain ⟨y, z, rfl⟩ : ∃ y z, post = y :: z := by
                  cases post with
                  | nil => rw [List.flatMap_nil, List.length_nil] at hrl; omega
                  | cons y z => exact ⟨y, z, rfl⟩
                have hv : (jv star a0 as).getD (((a0.length + (pre.flatMap (jf star)).length : Nat) : Int) + 1 + (r.length : Nat)).toNat .none = .ref star := by
                  have e : (((a0.length + (pre.flatMap (jf star)).length : Nat) : Int) + 1 + (r.length : Nat)).toNat = a0.length + ((pre ++ [r]).flatMap (jf star)).length := by
                    rw [jf_snoc]; omega
                  rw [e, has, show pre ++ r :: y :: z = (pre ++ [r]) ++ y :: z by simp]
                  exact (jv_at star a0 (pre ++ [r]) z y).1
                repeat walk_at "m"
                refine ⟨⟨⟨fb, fc, m2, _, _, D⟩, _, 0⟩, _, _, rfl, by assumption, by show _ + _ = _; push_cast; omega, by rw [hfc, List.take_length], hD⟩
            · have hj2 : j = r.length := by omega
              subst hj2
              repeat walk_at "m"
              refine ⟨⟨⟨fb, fc, m2, _, _, D⟩, _, 0⟩, _, _, rfl, by assumption, by show _ + _ = _; push_cast; omega, by rw [hfc, List.take_length], hD⟩
      · have hp : post = [] := by
          cases post with
          | nil => rfl
          | cons y z =>
            have h1 := jfl_pos star y z
            omega
        subst hp
        repeat walk_at "m"
        refine ⟨⟨b, u1, pc, m1, _, _, _, _, _, [], []⟩, _, _, rfl, by assumption, by show ((_ : Nat) : Int) = _; rw [List.flatMap_nil, List.length_nil] at hn2; omega, ?_⟩
        rw [← hfl]; simp [jl]
  · intro Qa hQa
    refine r_while (σ := JA) (fun x => [some (.ref inp), some (.ref star), some (.ref x.b), some (.ref x.u1), some (.int x.i x.t1), some (.int ((jv star a0 as).length : Int) x.t2), x.f])
      (fun x => [(x.b, lo (sv x.pc) x.m)]) (fun x => x.D) (fun x => ∃ k : Nat, x.i = k ∧ k ≤ a0.length ∧ x.pc.map (·.1) = (a0.take k).map (fun p => utOf p.1) ∧ (x.u1, ao x.b) ∈ x.D) (fun x => (a0.length - x.i).toNat)
      ⟨_, _, [], 0, 0, _, _, none, _⟩ (by assumption) ⟨0, rfl, by omega, rfl, by walk_at "d"⟩ ?_
    rintro ⟨b, u1, pc, m1, iv, t1, t2, fo, D⟩ h tk hS ⟨k, hi1, hk, hpc, hD⟩ Q1 hQ1
    dsimp only at hS hi1 hpc hD ⊢
    subst hi1
    have hpl : pc.length = k := by
      have := congrArg List.length hpc
      simp only [List.length_map, List.length_take] at this
      omega
    repeat walk_at "m"
    refine @r_if _ _ _ _ (fun hc => ?_) (fun hc => ?_)
    · repeat walk_at "m"
      by_cases hka : k < a0.length
      · have hv : (jv star a0 as).getD (k : Int).toNat .none = uv (a0.getD k (0, 0)) := hA k hka
        have hv : (jv star a0 as).getD (k : Int).toNat .none = .str (tx (utOf (a0.getD k (0, 0)).1)) (a0.getD k (0, 0)).2 := hv
        repeat walk_at "m"
        refine wpAny_isNot_other (by rfl) (by intro e; cases e) ?_
        repeat walk_at "m"
        refine ⟨⟨b, u1, pc ++ [(utOf (a0.getD k (0, 0)).1, (a0.getD k (0, 0)).2)], _, (k : Int) + 1, _, _, _, _⟩, _, _, rfl, by (rw [sv_snoc]; assumption), ⟨k + 1, by simp, hka, ?_, hD⟩, by show (a0.length - ((k : Int) + 1)).toNat < (a0.length - (k : Int)).toNat; omega⟩
        rw [take_snoc a0 k (0, 0) hka, List.map_append, List.map_append, hpc]; rfl
      · have hk2 : k = a0.length := by omega
        subst hk2
        obtain ⟨r, p, rfl⟩ : ∃ r p, as = r :: p := by
          cases as with
          | nil => rw [List.flatMap_nil, List.length_nil] at hjl; omega
          | cons r p => exact ⟨r, p, rfl⟩
        have hv : (jv star a0 (r :: p)).getD ((a0.length : Nat) : Int).toNat .none = .ref star := (jv_at star a0 [] p r).1
        repeat walk_at "m"
        refine ⟨⟨b, u1, pc, m1, a0.length, _, _, _, _⟩, _, _, rfl, by assumption, rfl, by rw [hpc, List.take_length], hD⟩
    · have hk2 : k = a0.length := by omega
      subst hk2
      repeat walk_at "m"
      refine ⟨⟨b, u1, pc, m1, a0.length, _, _, _, _⟩, _, _, rfl, by assumption, rfl, by rw [hpc, List.take_length], hD⟩
theorem oj_mro : mroOf (.type "object") = pure [.type "object"] := by rw [mroOf_type]; kernel_rfl
theorem oj_new : typeLookup (.type "object") "__new__" = pure (some (.builtin "object.__new__")) := by rw [typeLookup_type, builtinLookup_eq_fast]; kernel_rfl
theorem oj_made : Bind.madeBy (.type "object") = pure (some "object.__new__") := madeBy_type oj_mro oj_new (by decide +kernel)
theorem oj_called : TypeCalled "object" "object.__new__" "object.__init__" :=
  ⟨by decide +kernel, by decide +kernel, ⟨_, _, oj_mro⟩, oj_made, by decide +kernel, by rw [isSubtype_type]; kernel_rfl, F.slot_object_init⟩
theorem oj_tc : checkTypeCall "object" ⟨[], []⟩ = pure () := by kernel_rfl
theorem oj_nc : checkBuiltinCall "object.__new__" ⟨[.type "object"], []⟩ = pure () := by kernel_rfl
theorem oj_plain : plainId "object.__new__" = true := by decide +kernel
theorem oj_sub : isSubtype (.type "object") (.type "object") = pure true := by rw [isSubtype_type]; kernel_rfl
theorem oj_args (a : Value) : argsOk "object.__init__" ⟨[a], []⟩ := by unfold argsOk; kernel_rfl
section
variable {prog : Program} {w : World} {A : Around} {s : Shared} {h : Heap} {tk : Nat} {P : Params} {g : Heap} {K0 : Addr → Obj → Prop} {L : Addr} {ns : List Str} {vs : List (Option Value)} {mu D : List (Addr × Obj)}
  {nm : Str} {sc : Scope} {a : Addr} {cd : Value} {E : Value → Shared → Prop} {n : Nat} {env : Env} {Q : Value → Shared → Prop}
theorem oj_code {Q₁ : Value → Shared → Prop} (h : Q₁ (.ref s.heap.objs.size) { s with heap := s.heap.push { cls := .type "object", data := .plain } }) :
    codeAny (model prog w) A (.call (.builtin "object.__new__") ⟨[.type "object"], []⟩) (wants Q₁ E) s := by
  refine codeAny_call_builtin oj_plain F.entry_object_new (wpAny_of_eq oj_nc ?_)
  have hsub := oj_sub
  have hmro := oj_mro
  have hmade := oj_made
  have hm2 : Bind.madeHere "object.__new__" (.type "object") = pure () := by kernel_rfl
  have h1 : (Manifest.find? "object").elim false (fun b => b.mro.any fun t => (Manifest.find? t).elim false (·.noNew)) = false := by decide +kernel
  have h2 : typeHasDict (.type "object") = false := by decide +kernel
  have h3 : diesByItsTypesDel "object" = false := by decide +kernel
  obtain ⟨hp, g, d, tk, os⟩ := s
  unfold Builtin.«object.__new__»
  dsimp only
  refine wpAny_bind (wpAny_pure ?_)
  rw [if_neg (by decide)]
  rw [if_neg (by rw [h1]; exact Bool.false_ne_true)]
  refine wpAny_bind (wpAny_of_eq hm2 ?_)
  rw [if_neg (by decide)]
  rw [h2]
  rw [if_neg (by decide)]
  refine wpAny_bind (wpAny_pure ?_)
  refine wpAny_bind (wpAny_newObj_type ?_ (by first | trivial | size_fits))
  rw [h3]
  rw [if_neg (by decide)]
  exact wpAny_pure h
theorem r_object (hS : S P g K0 L ns vs mu D h) (k : ∀ b h', S P g K0 L ns vs mu ((b, { cls := .type "object", data := .plain }) :: D) h' → Q (.ref b) (st s h' tk)) :
    wpAny (model prog w) A (call (.type "object") []) Q E (st s h tk) := by
  refine callType_codes (s := st s h tk) (Q₁ := fun obj s₁ => obj = .ref h.objs.size ∧ s₁ = st s (h.push { cls := .type "object", data := .plain }) tk) oj_called oj_tc F.entry_object_init (oj_code ⟨rfl, rfl⟩) ?_
  rintro obj s₁ ⟨rfl, rfl⟩
  have hS' := hS.pushD { cls := .type "object", data := .plain } rfl
  refine ⟨⟨_, hS'.kn _ _ (.inr (.head _)), rfl⟩, oj_args _, ?_⟩
  unfold Builtin.«object.__init__»
  dsimp only
  rw [if_neg (by decide)]
  exact wpAny_pure ⟨rfl, k _ _ hS'⟩
end
def comp : List (Option Nat) → List (Option Nat)
  | [] => []
  | some c :: r => some c :: comp r
  | none :: r => if (comp r).head? = some none then comp r else none :: comp r
theorem fold_comp : ∀ (l acc : List (Option Nat)), l.foldl snocC acc = if acc.getLast? = some none ∧ (comp l).head? = some none then acc ++ (comp l).tail else acc ++ comp l
  | [], acc => by simp [comp]
  | some c :: r, acc => by
    rw [List.foldl_cons, fold_comp r]
    have e : snocC acc (some c) = acc ++ [some c] := by unfold snocC; rw [if_neg (by simp)]
    rw [e, if_neg (by simp), if_neg (by simp [comp])]
    simp [comp]
  | none :: r, acc => by
    rw [List.foldl_cons, fold_comp r]
    have hh : (comp (none :: r)).head? = some none := by
      unfold comp
      split
      · assumption
      · rfl
    by_cases ha : acc.getLast? = some none
    · have e : snocC acc none = acc := by unfold snocC; rw [if_pos ⟨rfl, ha⟩]
      rw [e, if_pos (c := _ ∧ (comp (none :: r)).head? = some none) ⟨ha, hh⟩]
      by_cases hr : (comp r).head? = some none
      · rw [if_pos ⟨ha, hr⟩]
        conv => rhs; unfold comp
        rw [if_pos hr]
      · rw [if_neg (fun q => hr q.2)]
        conv => rhs; unfold comp
        rw [if_neg hr]
        rfl
    · have e : snocC acc none = acc ++ [none] := by unfold snocC; rw [if_neg (fun q => ha q.2)]
      rw [e, if_neg (c := _ ∧ (comp (none :: r)).head? = some none) (fun q => ha q.1)]
      by_cases hr : (comp r).head? = some none
      · rw [if_pos ⟨by simp, hr⟩]
        conv => rhs; unfold comp
        rw [if_pos hr]
        cases hq : comp r with
        | nil => rw [hq] at hr; cases hr
        | cons x y =>
          rw [hq] at hr
          have : x = none := by simpa using hr
          subst this
          simp
      · rw [if_neg (fun q => hr q.2)]
        conv => rhs; unfold comp
        rw [if_neg hr]
        simp
def runs : List (Option Nat) → List Nat × List (List Nat)
  | [] => ([], [])
  | some c :: r => (c :: (runs r).1, (runs r).2)
  | none :: r => if (runs r).1 = [] ∧ (runs r).2 ≠ [] then ([], (runs r).2) else ([], (runs r).1 :: (runs r).2)
def flat (p : List Nat × List (List Nat)) : List (Option Nat) := p.1.map some ++ p.2.flatMap fun r => none :: r.map some
theorem comp_runs : ∀ l, comp l = flat (runs l)
  | [] => rfl
  | some c :: r => by
    unfold comp runs
    rw [comp_runs r]
    rfl
  | none :: r => by
    have ih := comp_runs r
    have hk : (comp r).head? = some none ↔ (runs r).1 = [] ∧ (runs r).2 ≠ [] := by
      rw [ih]
      unfold flat
      generalize runs r = p
      obtain ⟨a, b⟩ := p
      cases a with
      | nil => cases b <;> simp
      | cons x y => simp
    unfold comp runs
    by_cases h : (comp r).head? = some none
    · rw [if_pos h, if_pos (hk.mp h), ih]
      unfold flat
      rw [(hk.mp h).1]
    · rw [if_neg h, if_neg (fun q => h (hk.mpr q)), ih]
      simp [flat]
theorem runs_good : ∀ l, ∀ r ∈ (runs l).2.dropLast, r ≠ []
  | [] => by simp [runs]
  | some c :: r => by unfold runs; exact runs_good r
  | none :: r => by
    have ih := runs_good r
    unfold runs
    split
    · exact ih
    · rename_i h
      intro x hx
      dsimp only at hx
      cases hb : (runs r).2 with
      | nil => rw [hb] at hx; simp at hx
      | cons y z =>
        rw [hb] at hx ih h
        rw [List.dropLast_cons₂] at hx
        rcases List.mem_cons.mp hx with rfl | hx
        · exact fun e => h ⟨e, by simp⟩
        · exact ih x hx
local macro_rules | `(tactic| walk_at "m") => `(tactic| first
  | ((with_reducible refine callWith_type0 ?_))
  | ((with_reducible refine' r_object ?S ?_); (case S => assumption); intro b h hS)
  | ((with_reducible refine' r_ldb ?S ?m1 (v := .type "object") ?m2 ?m3 ?m4 ?m5 ?m6 ?_); (case S => assumption); (case m3 => rfl); (case m4 => rfl); (case m1 => rfl); (case m2 => rfl); (case m5 => decide); (case m6 => decide))
  | ((with_reducible refine t_lit (l := [46]) (by decide) ?_); intro t tk))
theorem translate_spec {prog : Program} {w : World} {h : Heap} {ts : List (Option Nat)} {t : Tok} {n : Nat} {ps : Array Value} (T : TopOk w.params h) (h64 : h.get? 64 = some (tabObj ps)) (hps : TabI ps) (hl : ts.length ≤ 290) (hn : n ≤ 690) :
    PureT prog w n 50 [.str (tx (ts.flatMap encT)) t] h (fun D v => ∃ t, v = .str (tx (joinT (runs ts).1 (runs ts).2)) t) := by
  refine enterT (K0 := fun _ _ => False) (ns := [Str.ofString "pat", Str.ofString "STAR", Str.ofString "parts"])
    (vs := [some (.str (tx (ts.flatMap encT)) t), none, none]) T (fun _ _ e => e.elim) h64 hps rfl rfl (by show n < 1000; omega) rfl rfl rfl rfl ?_
  intro A L s h tk ps hps hO hS Q0 hQ0
  repeat walk_at "m"
  refine r_callT (n := n + 1) (by assumption) (trans_spec (S.top' (by assumption)) (S.mem (by assumption) (.head _)) hps (by omega) (by omega)) hO ?_
  rintro v h tk Dn ps' hps' hS ⟨b, items, m, rfl, hbm, hit⟩
  rw [fold_comp, if_neg (by simp), List.nil_append, comp_runs] at hit
  obtain ⟨a0, as, e1, e2, e3⟩ := tv_split _ items _ _ hit
  have hlen : items.length ≤ 300 := by
    rw [← List.length_map (f := fun p : Option Nat × Tok => p.1), hit, ← comp_runs]
    have := snoc_len ts []
    rw [fold_comp, if_neg (by simp)] at this
    simp at this
    omega
  repeat walk_at "m"
  refine r_call (n := n + 1) (by assumption) (joinp_spec (S.top' (by assumption)) (S.kn (by assumption) _ _ (.inr (List.mem_append_left _ (e3 ▸ hbm)))) (by
    intro r hr
    have := runs_good ts (r.map (·.1)) (by rw [← e2, ← List.map_dropLast]; exact List.mem_map_of_mem hr)
    exact fun q => this (by rw [q]; rfl)) (by rw [← e3, List.length_map]; exact hlen) (by omega)) hO ?_
  rintro v h tk Dn' hS ⟨t5, rfl⟩
  rw [e1, e2]
  repeat walk_at "m"
  exact ⟨_, rfl, S.backT (by assumption) hps' ⟨_, rfl⟩⟩
def UnitAt (D : List (Addr × Obj)) (u : Addr) (c : Nat) : Prop :=
  ∃ l t1 m s1 s2, (u, to [.bool false, .ref l]) ∈ D ∧ (l, lo [.ref t1] m) ∈ D ∧ (t1, to [.str (tx [c]) s1, .str (tx [c]) s2]) ∈ D
theorem UnitAt.mono {D D' : List (Addr × Obj)} {u : Addr} {c : Nat} (h : UnitAt D u c) (k : ∀ p ∈ D, p ∈ D') : UnitAt D' u c :=
  let ⟨l, t1, m, s1, s2, a, b, c⟩ := h; ⟨l, t1, m, s1, s2, k _ a, k _ b, k _ c⟩
def big1 : List Nat := [36, 40, 41, 42, 43, 63, 94, 123, 124]
def big2 : List Nat := [97, 65, 98, 66, 100, 68, 102, 110, 78, 114, 115, 83, 116, 117, 85, 118, 119, 87, 120, 90, 48, 49, 50, 51, 52, 53, 54, 55, 56, 57]
theorem lit_b1 : Str.ofString "$()*+?^{|" = tx big1 := by decide
theorem lit_b2 : Str.ofString "aAbBdDfnNrsStuUvwWxZ0123456789" = tx big2 := by decide
theorem lit_b3 : Str.ofString "(?!)" = tx [40, 63, 33, 41] := by decide
local macro_rules | `(tactic| walk_at "m") => `(tactic| first
  | ((with_reducible refine' r_newListD ?S ?m1 ?_); (case S => assumption); (case m1 => exact Nat.le_of_ble_eq_true rfl); intro b h hS)
  | ((with_reducible refine' r_gmApp ?m0 ?_); (case m0 => exact get_mu0 (by assumption)))
  | ((with_reducible refine' r_app0 ?S ?m1 ?_); (case S => assumption); (case m1 => first | (simp; done) | (simp; omega) | omega); intro h hS)
  | ((with_reducible refine t_lit lit_b1 ?_); intro t tk)
  | ((with_reducible refine t_lit lit_b2 ?_); intro t tk)
  | ((with_reducible refine t_lit lit_b3 ?_); intro t tk))
structure UA where
  kv : Int
  s1 : Tok
  b : Addr
  sl : List Value
  m : Nat
  f : Option Value
  l : Option Value
  D : List (Addr × Obj)
  go : Bool
theorem unit_spec {prog : Program} {w : World} {h : Heap} {l rest : List Nat} {c k : Nat} {t u : Tok} {n : Nat} (T : TopOk w.params h) (hk : l.drop k = utOf c ++ rest) (hr : 3 ≤ rest.length) (hl : l.length ≤ 10000) (hn : n ≤ 700) :
    Pure prog w n 83 [.str (tx l) t, .int (k : Int) u] h (fun D v => ∃ r un t kk, v = .ref r ∧ (r, to [.ref un, .int kk t]) ∈ D ∧ kk = (k : Int) + (utOf c).length ∧ UnitAt D un c) := by
  refine enter (K0 := fun b o => False) (ns := [Str.ofString "text", Str.ofString "k", Str.ofString "bare", Str.ofString "off", Str.ofString "barred", Str.ofString "spans", Str.ofString "first", Str.ofString "last"])
    (vs := [some (.str (tx l) t), some (.int (k : Int) u), none, none, none, none, none, none]) T (fun _ _ e => e.elim) rfl rfl (by show n < 1000; omega) rfl rfl rfl rfl ?_
  intro A L s h tk hO hS Q0 hQ0
  have hget : ∀ j, j < (utOf c).length → l.getD (k + j) 0 = (utOf c).getD j 0 := by
    intro j hj
    have e : l.getD (k + j) 0 = (l.drop k).getD j 0 := by rw [List.getD_eq_getElem?_getD, List.getD_eq_getElem?_getD, List.getElem?_drop]
    rw [e, hk, List.getD_eq_getElem?_getD, List.getElem?_append_left hj, List.getD_eq_getElem?_getD]
  have hlen : l.length = k + (utOf c).length + rest.length := by
    have := congrArg List.length hk
    rw [List.length_drop, List.length_append] at this
    have h0 : 0 < rest.length := by omega
    omega
  have htake : ∀ x0, (utOf c).getD 0 0 = x0 → 0 < (utOf c).length → x0 ≠ 40 → (l.drop (k : Int).toNat).take ((k : Int) + 4 - (k : Int)).toNat ≠ [40, 63, 33, 41] := by
    intro x0 h0 hlen0 hx e
    have e4 : ((k : Int) + 4 - (k : Int)).toNat = 4 := by omega
    rw [e4, Int.toNat_natCast, hk] at e
    cases q : utOf c with
    | nil => rw [q] at hlen0; simp at hlen0
    | cons y z =>
      rw [q] at e h0
      simp at e h0
      exact hx (by rw [← h0]; exact e.1)
  by_cases h91 : c = 91 ∨ c = 42 ∨ c = 63
  · have hu0 : (utOf c).getD 0 0 = 91 := by rcases h91 with rfl | rfl | rfl <;> rfl
    have hu1 : 0 < (utOf c).length := by rcases h91 with rfl | rfl | rfl <;> decide
    have htk := htake 91 hu0 hu1 (by decide)
    have hg0 : l.getD (k : Int).toNat 0 = 91 := (hget 0 hu1).trans hu0
    rcases h91 with rfl | rfl | rfl
    · have hg1 : l.getD ((k : Int) + 1).toNat 0 = 92 := hget 1 (by decide)
      have hg2 : l.getD ((k : Int) + 1 + 1).toNat 0 = 91 := hget 2 (by decide)
      have hg3 : l.getD ((k : Int) + 1 + 1 + 1).toNat 0 = 93 := hget 3 (by decide)
      have hlen : l.length = k + 4 + rest.length := hlen
      repeat walk_at "m"
      refine @r_if _ _ _ _ (fun hx => absurd hx (by decide)) (fun _ => ?_)
      repeat walk_at "m"
      refine @r_if _ _ _ _ (fun hx => absurd hx htk) (fun _ => ?_)
      repeat walk_at "m"
      refine @r_ifn _ _ _ _ (fun hx => absurd rfl hx) (fun _ => ?_)
      repeat walk_at "m"
      refine @r_if _ _ _ _ (fun hx => absurd hx (by decide)) (fun _ => ?_)
      repeat walk_at "m"
      refine r_while (σ := UA) (fun x => [some (.str (tx l) t), some (.int x.kv x.s1), none, none, some (.bool false), some (.ref x.b), x.f, x.l]) (fun x => [(x.b, lo x.sl x.m)]) (fun x => x.D)
        (fun x => (x.kv = (k : Int) + 1 ∧ x.sl = [] ∧ x.go = true) ∨ (x.kv = (k : Int) + 1 + 1 + 1 ∧ x.go = false ∧ ∃ t1 s1 s2, x.sl = [.ref t1] ∧ (t1, to [.str (tx [91]) s1, .str (tx [91]) s2]) ∈ x.D)) (fun x => if x.go then 1 else 0)
        ⟨_, _, _, [], _, none, none, _, true⟩ (by assumption) (.inl ⟨rfl, rfl, rfl⟩) ?_
      rintro ⟨kv, s1, b, sl, m, f, la, D, go⟩ h tk hS hI Q1 hQ1
      dsimp only at hS hI ⊢
      rcases hI with ⟨rfl, rfl, rfl⟩ | ⟨rfl, rfl, t1, q1, q2, rfl, hm⟩
      · repeat walk_at "m"
        refine @r_ifn _ _ _ _ (fun _ => ?_) (fun hx => absurd hx (by decide))
        repeat walk_at "m"
        refine @r_if _ _ _ _ (fun _ => ?_) (fun hx => absurd rfl hx)
        repeat walk_at "m"
        refine @r_if _ _ _ _ (fun hx => absurd hx (by decide)) (fun _ => ?_)
        repeat walk_at "m"
        refine ⟨⟨_, _, b, _, _, _, _, _, false⟩, _, _, rfl, by assumption, .inr ⟨rfl, rfl, _, _, _, rfl, by walk_at "d"⟩, by show (0 : Nat) < 1; decide⟩
      · repeat walk_at "m"
        refine @r_ifn _ _ _ _ (fun hx => absurd rfl hx) (fun _ => ?_)
        have hS := S.freeze (by assumption)
        repeat walk_at "m"
        exact ⟨_, rfl, S.back (by assumption) ⟨_, _, _, _, rfl, .head _, by first | (simp [utOf]; done) | (simp [utOf]; omega), _, _, _, _, _, by walk_at "d", by walk_at "d", by walk_at "d"⟩⟩
    · have hg1 : l.getD ((k : Int) + 1).toNat 0 = 42 := hget 1 (by decide)
      have hg2 : l.getD ((k : Int) + 1 + 1).toNat 0 = 93 := hget 2 (by decide)
      have hk0 : (k : Int) + 1 + 0 = (k : Int) + 1 := Int.add_zero _
      have hg1' : l.getD ((k : Int) + 1 + 0).toNat 0 = 42 := by rw [hk0]; exact hg1
      have hg2' : l.getD ((k : Int) + 1 + 0 + 1).toNat 0 = 93 := by rw [hk0]; exact hg2
      have hlen : l.length = k + 3 + rest.length := hlen
      repeat walk_at "m"
      refine @r_if _ _ _ _ (fun hx => absurd hx (by decide)) (fun _ => ?_)
      repeat walk_at "m"
      refine @r_if _ _ _ _ (fun hx => absurd hx htk) (fun _ => ?_)
      repeat walk_at "m"
      refine @r_ifn _ _ _ _ (fun hx => absurd rfl hx) (fun _ => ?_)
      repeat walk_at "m"
      refine @r_if _ _ _ _ (fun hx => absurd hx (by decide)) (fun _ => ?_)
      repeat walk_at "m"
      refine r_while (σ := UA) (fun x => [some (.str (tx l) t), some (.int x.kv x.s1), none, none, some (.bool false), some (.ref x.b), x.f, x.l]) (fun x => [(x.b, lo x.sl x.m)]) (fun x => x.D)
        (fun x => (x.kv = (k : Int) + 1 ∧ x.sl = [] ∧ x.go = true) ∨ (x.kv = (k : Int) + 1 + 0 + 1 ∧ x.go = false ∧ ∃ t1 s1 s2, x.sl = [.ref t1] ∧ (t1, to [.str (tx [42]) s1, .str (tx [42]) s2]) ∈ x.D)) (fun x => if x.go then 1 else 0)
        ⟨_, _, _, [], _, none, none, _, true⟩ (by assumption) (.inl ⟨rfl, rfl, rfl⟩) ?_
      rintro ⟨kv, s1, b, sl, m, f, la, D, go⟩ h tk hS hI Q1 hQ1
      dsimp only at hS hI ⊢
      rcases hI with ⟨rfl, rfl, rfl⟩ | ⟨rfl, rfl, t1, q1, q2, rfl, hm⟩
      · repeat walk_at "m"
        refine @r_ifn _ _ _ _ (fun _ => ?_) (fun hx => absurd hx (by decide))
        repeat walk_at "m"
        refine @r_if _ _ _ _ (fun hx => absurd hx (by decide)) (fun _ => ?_)
        repeat walk_at "m"
        refine @r_if _ _ _ _ (fun hx => absurd hx (by decide)) (fun _ => ?_)
        repeat walk_at "m"
        refine ⟨⟨_, _, b, _, _, _, _, _, false⟩, _, _, rfl, by assumption, .inr ⟨rfl, rfl, _, _, _, rfl, by walk_at "d"⟩, by show (0 : Nat) < 1; decide⟩
      · repeat walk_at "m"
        refine @r_ifn _ _ _ _ (fun hx => absurd rfl hx) (fun _ => ?_)
        have hS := S.freeze (by assumption)
        repeat walk_at "m"
        exact ⟨_, rfl, S.back (by assumption) ⟨_, _, _, _, rfl, .head _, by first | (simp [utOf]; done) | (simp [utOf]; omega), _, _, _, _, _, by walk_at "d", by walk_at "d", by walk_at "d"⟩⟩
    · have hg1 : l.getD ((k : Int) + 1).toNat 0 = 63 := hget 1 (by decide)
      have hg2 : l.getD ((k : Int) + 1 + 1).toNat 0 = 93 := hget 2 (by decide)
      have hk0 : (k : Int) + 1 + 0 = (k : Int) + 1 := Int.add_zero _
      have hg1' : l.getD ((k : Int) + 1 + 0).toNat 0 = 63 := by rw [hk0]; exact hg1
      have hg2' : l.getD ((k : Int) + 1 + 0 + 1).toNat 0 = 93 := by rw [hk0]; exact hg2
      have hlen : l.length = k + 3 + rest.length := hlen
      repeat walk_at "m"
      refine @r_if _ _ _ _ (fun hx => absurd hx (by decide)) (fun _ => ?_)
      repeat walk_at "m"
      refine @r_if _ _ _ _ (fun hx => absurd hx htk) (fun _ => ?_)
      repeat walk_at "m"
      refine @r_ifn _ _ _ _ (fun hx => absurd rfl hx) (fun _ => ?_)
      repeat walk_at "m"
      refine @r_if _ _ _ _ (fun hx => absurd hx (by decide)) (fun _ => ?_)
      repeat walk_at "m"
      refine r_while (σ := UA) (fun x => [some (.str (tx l) t), some (.int x.kv x.s1), none, none, some (.bool false), some (.ref x.b), x.f, x.l]) (fun x => [(x.b, lo x.sl x.m)]) (fun x => x.D)
        (fun x => (x.kv = (k : Int) + 1 ∧ x.sl = [] ∧ x.go = true) ∨ (x.kv = (k : Int) + 1 + 0 + 1 ∧ x.go = false ∧ ∃ t1 s1 s2, x.sl = [.ref t1] ∧ (t1, to [.str (tx [63]) s1, .str (tx [63]) s2]) ∈ x.D)) (fun x => if x.go then 1 else 0)
        ⟨_, _, _, [], _, none, none, _, true⟩ (by assumption) (.inl ⟨rfl, rfl, rfl⟩) ?_
      rintro ⟨kv, s1, b, sl, m, f, la, D, go⟩ h tk hS hI Q1 hQ1
      dsimp only at hS hI ⊢
      rcases hI with ⟨rfl, rfl, rfl⟩ | ⟨rfl, rfl, t1, q1, q2, rfl, hm⟩
      · repeat walk_at "m"
        refine @r_ifn _ _ _ _ (fun _ => ?_) (fun hx => absurd hx (by decide))
        repeat walk_at "m"
        refine @r_if _ _ _ _ (fun hx => absurd hx (by decide)) (fun _ => ?_)
        repeat walk_at "m"
        refine @r_if _ _ _ _ (fun hx => absurd hx (by decide)) (fun _ => ?_)
        repeat walk_at "m"
        refine ⟨⟨_, _, b, _, _, _, _, _, false⟩, _, _, rfl, by assumption, .inr ⟨rfl, rfl, _, _, _, rfl, by walk_at "d"⟩, by show (0 : Nat) < 1; decide⟩
      · repeat walk_at "m"
        refine @r_ifn _ _ _ _ (fun hx => absurd rfl hx) (fun _ => ?_)
        have hS := S.freeze (by assumption)
        repeat walk_at "m"
        exact ⟨_, rfl, S.back (by assumption) ⟨_, _, _, _, rfl, .head _, by first | (simp [utOf]; done) | (simp [utOf]; omega), _, _, _, _, _, by walk_at "d", by walk_at "d", by walk_at "d"⟩⟩
  · have hsc : (utOf c) = ut1 c := by unfold utOf; rw [if_neg (by omega), if_neg (by omega), if_neg (by omega)]
    by_cases hs : c ∈ scm
    · have hu : utOf c = [92, c] := by rw [hsc]; exact if_pos hs
      have hL : (utOf c).length = 2 := by rw [hu]; rfl
      rw [hu] at hget hlen htake hQ0
      have hg0 : l.getD (k : Int).toNat 0 = 92 := hget 0 (by simp)
      have hg1 : l.getD ((k : Int) + 1).toNat 0 = c := hget 1 (by simp)
      have htk := htake 92 rfl (by simp) (by decide)
      simp only [List.length_cons, List.length_nil] at hlen
      repeat walk_at "m"
      refine @r_if _ _ _ _ (fun hx => absurd hx (by decide)) (fun _ => ?_)
      repeat walk_at "m"
      refine @r_if _ _ _ _ (fun hx => absurd hx htk) (fun _ => ?_)
      repeat walk_at "m"
      refine @r_ifn _ _ _ _ (fun _ => ?_) (fun hx => absurd hx (by decide))
      repeat walk_at "m"
      refine @r_ifn _ _ _ _ (fun hx => absurd rfl hx) (fun _ => ?_)
      repeat walk_at "m"
      refine @r_ifn _ _ _ _ (fun hx => absurd rfl hx) (fun _ => ?_)
      repeat walk_at "m"
      refine @r_if _ _ _ _ (fun hx => absurd hx ?_) (fun _ => ?_)
      · have : ∀ d ∈ scm, d ∉ big2 := by decide
        exact this c hs
      repeat walk_at "m"
      have hS := S.freeze (by assumption)
      exact ⟨_, rfl, S.back hS ⟨_, _, _, _, rfl, .tail _ (.head _), by first | (rw [Int.add_zero]; done) | (rw [Int.add_zero]; rfl) | (rw [Int.add_assoc]; done) | (rw [Int.add_assoc]; rfl), _, _, _, _, _, by walk_at "d", by walk_at "d", by walk_at "d"⟩⟩
    · have hu : utOf c = [c] := by rw [hsc]; exact if_neg hs
      have hL : (utOf c).length = 1 := by rw [hu]; rfl
      rw [hu] at hget hlen htake hQ0
      have hg0 : l.getD (k : Int).toNat 0 = c := hget 0 (by simp)
      have c46 : c ≠ 46 := fun e => hs (by rw [e]; decide)
      have c40 : c ≠ 40 := fun e => hs (by rw [e]; decide)
      have c92 : c ≠ 92 := fun e => hs (by rw [e]; decide)
      have hbig : c ∉ big1 := by
        have : ∀ d ∈ big1, d ∈ scm ∨ d = 42 ∨ d = 63 := by decide
        intro e
        rcases this c e with q | q | q
        · exact hs q
        · omega
        · omega
      have htk := htake c rfl (by simp) c40
      simp only [List.length_cons, List.length_nil] at hlen
      have hk0 : (k : Int) + 0 = k := Int.add_zero _
      have hg0' : l.getD ((k : Int) + 0).toNat 0 = c := by rw [hk0]; exact hg0
      repeat walk_at "m"
      refine @r_if _ _ _ _ (fun hx => absurd hx (by simp; omega)) (fun _ => ?_)
      repeat walk_at "m"
      refine @r_if _ _ _ _ (fun hx => absurd hx htk) (fun _ => ?_)
      repeat walk_at "m"
      refine @r_ifn _ _ _ _ (fun _ => ?_) (fun hx => absurd hx (by simp; omega))
      repeat walk_at "m"
      refine @r_ifn _ _ _ _ (fun _ => ?_) (fun hx => absurd hx (by simp; omega))
      repeat walk_at "m"
      refine @r_ifn _ _ _ _ (fun _ => ?_) (fun hx => absurd hx (by simp; omega))
      repeat walk_at "m"
      refine @r_if _ _ _ _ (fun hx => absurd hx hbig) (fun _ => ?_)
      repeat walk_at "m"
      have hS := S.freeze (by assumption)
      exact ⟨_, rfl, S.back hS ⟨_, _, _, _, rfl, .tail _ (.head _), by first | (rw [Int.add_zero]; done) | (rw [Int.add_zero]; rfl) | (rw [Int.add_assoc]; done) | (rw [Int.add_assoc]; rfl), _, _, _, _, _, by walk_at "d", by walk_at "d", by walk_at "d"⟩⟩
inductive TK where
  | one (c : Nat)
  | held (cs : List Nat)
  | run
def kd : TK → List Nat
  | .one _ => [111, 110, 101]
  | .held _ => [104, 101, 108, 100]
  | .run => [114, 117, 110]
def uns : TK → List Nat
  | .one c => [c]
  | .held cs => cs
  | .run => []
def UnitsAt (D : List (Addr × Obj)) : List Value → List Nat → Prop
  | [], [] => True
  | v :: vs, c :: cs => (∃ u, v = .ref u ∧ UnitAt D u c) ∧ UnitsAt D vs cs
  | _, _ => False
def TokAt (D : List (Addr × Obj)) (a : Addr) (k : TK) : Prop := ∃ s ul m us, (a, to [.str (tx (kd k)) s, .ref ul]) ∈ D ∧ (ul, lo us m) ∈ D ∧ UnitsAt D us (uns k)
def ToksAt (D : List (Addr × Obj)) : List Value → List TK → Prop
  | [], [] => True
  | v :: vs, c :: cs => (∃ u, v = .ref u ∧ TokAt D u c) ∧ ToksAt D vs cs
  | _, _ => False
theorem UnitsAt.mono {D D' : List (Addr × Obj)} (k : ∀ p ∈ D, p ∈ D') : ∀ {vs cs}, UnitsAt D vs cs → UnitsAt D' vs cs
  | [], [], _ => trivial
  | _ :: _, _ :: _, ⟨⟨u, e, h⟩, r⟩ => ⟨⟨u, e, h.mono k⟩, UnitsAt.mono k r⟩
theorem TokAt.mono {D D' : List (Addr × Obj)} (k : ∀ p ∈ D, p ∈ D') {a : Addr} {t : TK} (h : TokAt D a t) : TokAt D' a t :=
  let ⟨s, ul, m, us, x, y, z⟩ := h; ⟨s, ul, m, us, k _ x, k _ y, z.mono k⟩
theorem ToksAt.mono {D D' : List (Addr × Obj)} (k : ∀ p ∈ D, p ∈ D') : ∀ {vs cs}, ToksAt D vs cs → ToksAt D' vs cs
  | [], [], _ => trivial
  | _ :: _, _ :: _, ⟨⟨u, e, h⟩, r⟩ => ⟨⟨u, e, h.mono k⟩, ToksAt.mono k r⟩
theorem UnitsAt.snoc {D : List (Addr × Obj)} {u : Addr} {c : Nat} (hu : UnitAt D u c) : ∀ {vs cs}, UnitsAt D vs cs → UnitsAt D (vs ++ [.ref u]) (cs ++ [c])
  | [], [], _ => ⟨⟨u, rfl, hu⟩, trivial⟩
  | _ :: _, _ :: _, ⟨h, r⟩ => ⟨h, UnitsAt.snoc hu r⟩
theorem ToksAt.snoc {D : List (Addr × Obj)} {u : Addr} {c : TK} (hu : TokAt D u c) : ∀ {vs cs}, ToksAt D vs cs → ToksAt D (vs ++ [.ref u]) (cs ++ [c])
  | [], [], _ => ⟨⟨u, rfl, hu⟩, trivial⟩
  | _ :: _, _ :: _, ⟨h, r⟩ => ⟨h, ToksAt.snoc hu r⟩
theorem UnitsAt.len {D : List (Addr × Obj)} : ∀ {vs cs}, UnitsAt D vs cs → vs.length = cs.length
  | [], [], _ => rfl
  | _ :: _, _ :: _, ⟨_, r⟩ => by simp [UnitsAt.len r]
theorem ToksAt.len {D : List (Addr × Obj)} : ∀ {vs cs}, ToksAt D vs cs → vs.length = cs.length
  | [], [], _ => rfl
  | _ :: _, _ :: _, ⟨_, r⟩ => by simp [ToksAt.len r]
theorem UnitsAt.get {D : List (Addr × Obj)} : ∀ {vs cs}, UnitsAt D vs cs → ∀ i < cs.length, ∃ u, vs.getD i .none = .ref u ∧ UnitAt D u (cs.getD i 0)
  | [], [], _, i, hi => by simp at hi
  | _ :: _, _ :: _, ⟨h, _⟩, 0, _ => h
  | _ :: _, _ :: _, ⟨_, r⟩, i + 1, hi => by
    have := UnitsAt.get r i (by simp at hi; omega)
    simpa using this
theorem ToksAt.get {D : List (Addr × Obj)} : ∀ {vs cs}, ToksAt D vs cs → ∀ i < cs.length, ∃ u, vs.getD i .none = .ref u ∧ TokAt D u (cs.getD i .run)
  | [], [], _, i, hi => by simp at hi
  | _ :: _, _ :: _, ⟨h, _⟩, 0, _ => h
  | _ :: _, _ :: _, ⟨_, r⟩, i + 1, hi => by
    have := ToksAt.get r i (by simp at hi; omega)
    simpa using this
def tkl : List (List Nat) → List TK
  | [] => []
  | [r] => .run :: r.map .one
  | r :: rs => .held r :: tkl rs
def toks (r0 : List Nat) (rs : List (List Nat)) : List TK := r0.map .one ++ tkl rs
theorem utOf_head (c : Nat) : ∃ x r, utOf c = x :: r ∧ x ≠ 40 ∧ x ≠ 41 ∧ x ≠ 46 := by
  unfold utOf
  split
  · exact ⟨_, _, rfl, by decide, by decide, by decide⟩
  split
  · exact ⟨_, _, rfl, by decide, by decide, by decide⟩
  split
  · exact ⟨_, _, rfl, by decide, by decide, by decide⟩
  unfold ut1
  split
  · exact ⟨_, _, rfl, by decide, by decide, by decide⟩
  · rename_i hs
    exact ⟨_, _, rfl, fun e => hs (by rw [e]; decide), fun e => hs (by rw [e]; decide), fun e => hs (by rw [e]; decide)⟩
theorem fx_ge : ∀ r : List Nat, r.length ≤ (fx r).length
  | [] => Nat.le_refl _
  | c :: r => by
    obtain ⟨x0, xr, hu, _⟩ := utOf_head c
    have := fx_ge r
    unfold fx at *
    rw [List.flatMap_cons, hu, List.length_append, List.length_cons, List.length_cons]
    omega
theorem tkl_len : ∀ rs : List (List Nat), (tkl rs).length ≤ (jl rs).length
  | [] => Nat.le_refl _
  | [r] => by
    have := fx_ge r
    simp [tkl, jl]
    omega
  | r :: r2 :: rs => by
    have ih := tkl_len (r2 :: rs)
    simp only [tkl, jl, List.length_cons, List.length_append] at ih ⊢
    omega
theorem toks_len (r0 : List Nat) (rs : List (List Nat)) : (toks r0 rs).length ≤ (fx r0 ++ jl rs).length := by
  unfold toks
  rw [List.length_append, List.length_append, List.length_map]
  have := fx_ge r0
  have := tkl_len rs
  omega
structure VA where
  a : Addr
  vals : List Value
  m : Nat
  kn : Nat
  iv : Int
  s1 : Tok
  ou : Option Value
  on : Option Value
  D : List (Addr × Obj)
  dn : List TK
  r0 : List Nat
  rs : List (List Nat)
structure WA where
  ub : Addr
  us : List Value
  m2 : Nat
  kn : Nat
  iv : Int
  s1 : Tok
  on : Option Value
  D : List (Addr × Obj)
  dn : List Nat
  rest : List Nat
theorem tak {l : List Nat} {k n : Nat} {j : Int} (hj : j = (k : Int) + n) : (l.drop (k : Int).toNat).take (j - (k : Int)).toNat = (l.drop k).take n := by
  have e : (j - (k : Int)).toNat = n := by omega
  rw [e, Int.toNat_natCast]
theorem drop_step {l x y : List Nat} {k : Nat} (h : l.drop k = x ++ y) : l.drop (k + x.length) = y := by
  rw [← List.drop_drop, h, List.drop_left]
theorem getD_of {l y : List Nat} {k x : Nat} (h : l.drop k = x :: y) : l.getD (k : Int).toNat 0 = x := by
  rw [Int.toNat_natCast, List.getD_eq_getElem?_getD, ← Nat.add_zero k, ← List.getElem?_drop, h]
  rfl
theorem len_of {l y : List Nat} {k : Nat} (h : l.drop k = y) (hy : y ≠ []) : l.length = k + y.length := by
  have := congrArg List.length h
  rw [List.length_drop] at this
  have : 0 < y.length := List.length_pos_iff.mpr hy
  omega
local macro_rules | `(tactic| walk_at "m") => `(tactic| first
  | ((with_reducible refine t_lit (l := [40, 63, 115, 58]) (by decide) ?_); intro t tk)
  | ((with_reducible refine t_lit (l := [41, 92, 90]) (by decide) ?_); intro t tk)
  | ((with_reducible refine t_lit (l := [111, 110, 101]) (by decide) ?_); intro t tk)
  | ((with_reducible refine t_lit (l := [104, 101, 108, 100]) (by decide) ?_); intro t tk)
  | ((with_reducible refine t_lit (l := [114, 117, 110]) (by decide) ?_); intro t tk)
  | ((with_reducible refine' t_slice_ns ?S ?m1 ?m2 ?m3 ?m4 ?_); (case S => assumption); (case m1 => first | assumption | omega); (case m2 => first | assumption | omega); (case m3 => with_unfolding_all rfl); (case m4 => intro _; with_unfolding_all rfl); intro h t tk hS)
  | ((with_reducible refine' t_slice_sn ?S ?m1 ?m2 ?m3 ?m4 ?m5 ?_); (case S => assumption); (case m1 => first | assumption | omega); (case m2 => first | assumption | omega); (case m3 => first | assumption | omega); (case m4 => with_unfolding_all rfl); (case m5 => intro _; with_unfolding_all rfl); intro h t tk hS))
theorem tokens_spec {prog : Program} {w : World} {h : Heap} {r0 : List Nat} {rs : List (List Nat)} {t : Tok} {n : Nat} (T : TopOk w.params h) (hl : (joinT r0 rs).length ≤ 5000) (hn : n ≤ 690) :
    Pure prog w n 90 [.str (tx (joinT r0 rs)) t] h (fun D v => ∃ a m vals, v = .ref a ∧ (a, lo vals m) ∈ D ∧ ToksAt D vals (toks r0 rs)) := by
  refine enter (K0 := fun b o => False) (ns := [Str.ofString "text", Str.ofString "tokens", Str.ofString "k", Str.ofString "units", Str.ofString "unit"])
    (vs := [some (.str (tx (joinT r0 rs)) t), none, none, none, none]) T (fun _ _ e => e.elim) rfl rfl (by show n < 1000; omega) rfl rfl rfl rfl ?_
  intro A L s h tk hO hS Q0 hQ0
  generalize hL : joinT r0 rs = l at *
  have hll : l.length = 4 + (fx r0 ++ jl rs).length + 3 := by rw [← hL]; simp [joinT]; omega
  have h4 : l.take (4 : Int).toNat = [40, 63, 115, 58] := by rw [← hL]; rfl
  have h3 : l.drop ((l.length : Int) + -3).toNat = [41, 92, 90] := by
    have e : ((l.length : Int) + -3).toNat = ([40, 63, 115, 58] ++ (fx r0 ++ jl rs)).length := by simp only [List.length_append, List.length_cons, List.length_nil] at *; omega
    rw [e, ← hL]; unfold joinT; rw [List.drop_left]
  have hd4 : l.drop 4 = fx r0 ++ (jl rs ++ [41, 92, 90]) := by rw [← hL]; unfold joinT; simp
  repeat walk_at "m"
  refine @r_ifn _ _ _ _ (fun hx => absurd h4 hx) (fun _ => ?_)
  repeat walk_at "m"
  refine @r_ifn _ _ _ _ (fun hx => absurd h3 hx) (fun _ => ?_)
  repeat walk_at "m"
  refine r_while (σ := VA) (fun x => [some (.str (tx l) t), some (.ref x.a), some (.int x.iv x.s1), x.ou, x.on]) (fun x => [(x.a, lo x.vals x.m)]) (fun x => x.D)
    (fun x => x.iv = (x.kn : Int) ∧ l.drop x.kn = fx x.r0 ++ (jl x.rs ++ [41, 92, 90]) ∧ ToksAt x.D x.vals x.dn ∧ x.dn ++ toks x.r0 x.rs = toks r0 rs ∧ x.kn ≤ l.length) (fun x => l.length - x.kn)
    ⟨_, [], 0, 4, 4, _, none, none, _, [], r0, rs⟩ (by assumption) ⟨rfl, hd4, trivial, rfl, by show 4 ≤ l.length; omega⟩ ?_
  rintro ⟨a, vals, m, k, iv, s1, ou, on, D, dn, q0, qs⟩ h tk hS ⟨hi, hd, hT, hc, hkl⟩ Q1 hQ1
  dsimp only at hS hi hd hT hc hkl ⊢
  subst hi
  have hlenk : l.length = k + (fx q0 ++ (jl qs ++ [41, 92, 90])).length := len_of hd (by simp)
  have htoks : (toks r0 rs).length ≤ 10000 := by
    have := toks_len r0 rs
    omega
  have hvl : vals.length ≤ 10000 := by
    rw [hT.len]
    have := congrArg List.length hc
    rw [List.length_append] at this
    omega
  have h6 : (l.drop (k : Int).toNat).take ((k : Int) + 6 - (k : Int)).toNat = (fx q0 ++ (jl qs ++ [41, 92, 90])).take 6 := by
    have e : ((k : Int) + 6 - (k : Int)).toNat = 6 := by omega
    rw [e, Int.toNat_natCast, hd]
  have h2 : (l.drop (k : Int).toNat).take ((k : Int) + 2 - (k : Int)).toNat = (fx q0 ++ (jl qs ++ [41, 92, 90])).take 2 := by
    have e : ((k : Int) + 2 - (k : Int)).toNat = 2 := by omega
    rw [e, Int.toNat_natCast, hd]
  repeat walk_at "m"
  refine @r_if _ _ _ _ (fun hc1 => ?_) (fun hc1 => ?_)
  · cases q0 with
    | cons c q0 =>
      obtain ⟨x0, xr, hu, x40, x41, x46⟩ := utOf_head c
      have hfx : fx (c :: q0) = utOf c ++ fx q0 := by unfold fx; rw [List.flatMap_cons]
      rw [hfx, List.append_assoc] at hd
      have n6 : (fx (c :: q0) ++ (jl qs ++ [41, 92, 90])).take 6 ≠ [40, 63, 62, 46, 42, 63] := by
        rw [hfx, hu]; intro e; simp at e; exact x40 e.1
      have n2 : (fx (c :: q0) ++ (jl qs ++ [41, 92, 90])).take 2 ≠ [46, 42] := by
        rw [hfx, hu]; intro e; simp at e; exact x46 e.1
      repeat walk_at "m"
      refine @r_if _ _ _ _ (fun hx => absurd hx n6) (fun _ => ?_)
      repeat walk_at "m"
      refine @r_if _ _ _ _ (fun hx => absurd hx n2) (fun _ => ?_)
      repeat walk_at "m"
      refine r_call (n := n + 1) (by assumption) (unit_spec (S.top' (by assumption)) hd (by simp only [List.length_append, List.length_cons, List.length_nil]; omega) (by omega) (by omega)) hO ?_
      rintro v h tk Dn hS ⟨r, un, t5, kk, rfl, hrD, rfl, hU⟩
      repeat walk_at "m"
      refine r_pair (elts := []) (by assumption) (S.kn (by assumption) _ _ (.inr (List.mem_append_left _ hrD))) hO.hh rfl rfl rfl rfl rfl fun h tk hS => ?_
      repeat walk_at "m"
      have hS := S.freeze (by assumption)
      repeat walk_at "m"
      refine ⟨⟨a, vals ++ [.ref _], _, k + (utOf c).length, _, _, _, _, _, dn ++ [.one c], q0, qs⟩, _, _, rfl, by assumption, ⟨by show (k : Int) + ((utOf c).length : Nat) = ((k + (utOf c).length : Nat) : Int); omega, drop_step hd, ?_, ?_, by show k + (utOf c).length ≤ l.length; rw [hfx] at hlenk; simp only [List.length_append] at hlenk; omega⟩, by show l.length - (k + (utOf c).length) < l.length - k; rw [hu, List.length_cons]; omega⟩
      · refine ToksAt.snoc (c := .one c) ⟨_, _, _, [.ref _], .tail _ (.head _), .head _, ⟨⟨_, rfl, hU.mono fun p hp => ?_⟩, trivial⟩⟩ (hT.mono fun p hp => ?_)
        · exact .tail _ (.tail _ (List.mem_append_left _ hp))
        · exact .tail _ (.tail _ (List.mem_append_right _ hp))
      · rw [← hc]; simp [toks]
    | nil =>
      cases qs with
      | nil => simp [fx, jl] at hlenk; omega
      | cons r qs =>
        cases qs with
        | nil =>
          have n6 : (fx [] ++ (jl [r] ++ [41, 92, 90])).take 6 ≠ [40, 63, 62, 46, 42, 63] := by
            intro e; simp [fx, jl] at e
          have n2 : (fx [] ++ (jl [r] ++ [41, 92, 90])).take 2 = [46, 42] := rfl
          have hd : l.drop k = [46, 42] ++ (fx r ++ (jl [] ++ [41, 92, 90])) := by rw [hd]; simp [fx, jl]
          repeat walk_at "m"
          refine @r_if _ _ _ _ (fun hx => absurd hx n6) (fun _ => ?_)
          repeat walk_at "m"
          refine @r_if _ _ _ _ (fun _ => ?_) (fun hx => absurd n2 hx)
          repeat walk_at "m"
          have hS := S.freeze (by assumption)
          repeat walk_at "m"
          refine ⟨⟨a, vals ++ [.ref _], _, k + 2, _, _, _, _, _, dn ++ [.run], r, []⟩, _, _, rfl, by assumption, ⟨by show (k : Int) + 2 = ((k + 2 : Nat) : Int); omega, drop_step (x := [46, 42]) hd, ?_, ?_, by show k + 2 ≤ l.length; simp [fx, jl] at hlenk; omega⟩, by show l.length - (k + 2) < l.length - k; simp [fx, jl] at hlenk; omega⟩
          · refine ToksAt.snoc (c := .run) ⟨_, _, _, [], .tail _ (.head _), .head _, trivial⟩ (hT.mono fun p hp => ?_)
            exact .tail _ (.tail _ hp)
          · rw [← hc]; simp [toks, tkl]
        | cons r2 qs =>
          have n6 : (fx [] ++ (jl (r :: r2 :: qs) ++ [41, 92, 90])).take 6 = [40, 63, 62, 46, 42, 63] := rfl
          have hd : l.drop k = [40, 63, 62, 46, 42, 63] ++ (fx r ++ ([41] ++ (jl (r2 :: qs) ++ [41, 92, 90]))) := by rw [hd]; simp [fx, jl]
          have hd6 := drop_step hd
          repeat walk_at "m"
          refine @r_if _ _ _ _ (fun _ => ?_) (fun hx => absurd n6 hx)
          repeat walk_at "m"
          refine r_while (σ := WA) (fun x => [some (.str (tx l) t), some (.ref a), some (.int x.iv x.s1), some (.ref x.ub), x.on]) (fun x => [(x.ub, lo x.us x.m2), (a, lo vals m)]) (fun x => x.D)
            (fun x => x.iv = (x.kn : Int) ∧ l.drop x.kn = fx x.rest ++ ([41] ++ (jl (r2 :: qs) ++ [41, 92, 90])) ∧ UnitsAt x.D x.us x.dn ∧ x.dn ++ x.rest = r ∧ (∀ p ∈ D, p ∈ x.D) ∧ k + 6 ≤ x.kn) (fun x => x.rest.length)
            ⟨_, [], 0, k + 6, (k : Int) + 6, _, on, _, [], r⟩ (by assumption) ⟨by show (k : Int) + 6 = ((k + 6 : Nat) : Int); omega, hd6, trivial, rfl, fun p hp => hp, Nat.le_refl _⟩ ?_
          rintro ⟨ub, us, m2, kn, iv, s1, on, D', dn2, rest⟩ h tk hS ⟨hi2, hd2, hU2, hc2, hDD, hkk⟩ Q1 hQ1
          dsimp only at hS hi2 hd2 hU2 hc2 hDD hkk ⊢
          subst hi2
          have hln := len_of hd2 (by simp)
          have husl : us.length ≤ 10000 := by
            rw [hU2.len]
            have h1 := congrArg List.length hc2
            have h2 := fx_ge r
            have h3 := len_of hd (by simp)
            simp only [List.length_append, List.length_cons] at h1 h3
            omega
          cases rest with
          | cons c rest =>
            obtain ⟨x0, xr, hu, x40, x41, x46⟩ := utOf_head c
            have hfx : fx (c :: rest) = utOf c ++ fx rest := by unfold fx; rw [List.flatMap_cons]
            rw [hfx, List.append_assoc] at hd2
            have hg0 : l.getD (kn : Int).toNat 0 = x0 := getD_of (y := xr ++ (fx rest ++ ([41] ++ (jl (r2 :: qs) ++ [41, 92, 90])))) (by rw [hd2, hu]; rfl)
            rw [hfx, List.length_append, List.length_append, hu, List.length_cons] at hln
            repeat walk_at "m"
            refine @r_ifn _ _ _ _ (fun _ => ?_) (fun hx => absurd hx (by simp; omega))
            repeat walk_at "m"
            refine r_call (n := n + 1) (by assumption) (unit_spec (S.top' (by assumption)) hd2 (by simp only [List.length_append, List.length_cons, List.length_nil]; omega) (by omega) (by omega)) hO ?_
            rintro v h tk Dn hS ⟨rr, un, t5, kk, rfl, hrD, rfl, hU⟩
            repeat walk_at "m"
            refine r_pair (elts := []) (by assumption) (S.kn (by assumption) _ _ (.inr (List.mem_append_left _ hrD))) hO.hh rfl rfl rfl rfl rfl fun h tk hS => ?_
            repeat walk_at "m"
            refine ⟨⟨ub, us ++ [.ref un], _, kn + (utOf c).length, _, _, _, _, dn2 ++ [c], rest⟩, _, _, rfl, by assumption, ⟨by show (kn : Int) + ((utOf c).length : Nat) = ((kn + (utOf c).length : Nat) : Int); omega, drop_step hd2, ?_, by rw [← hc2]; simp, fun p hp => List.mem_append_right _ (hDD p hp), by show k + 6 ≤ kn + _; omega⟩, by show rest.length < (c :: rest).length; simp⟩
            exact UnitsAt.snoc (hU.mono fun p hp => List.mem_append_left _ hp) (hU2.mono fun p hp => List.mem_append_right _ hp)
          | nil =>
            have hg0 : l.getD (kn : Int).toNat 0 = 41 := getD_of (y := jl (r2 :: qs) ++ [41, 92, 90]) (by rw [hd2]; rfl)
            rw [List.append_nil] at hc2
            subst hc2
            have hkl2 : kn < l.length := by rw [hln]; simp [fx]
            repeat walk_at "m"
            refine @r_ifn _ _ _ _ (fun hx => absurd rfl hx) (fun _ => ?_)
            have hS := S.freeze (by assumption)
            repeat walk_at "m"
            refine ⟨⟨a, vals ++ [.ref _], _, kn + 1, _, _, _, _, _, dn ++ [.held dn2], [], r2 :: qs⟩, _, _, rfl, by assumption, ⟨by show (kn : Int) + 1 = ((kn + 1 : Nat) : Int); omega, drop_step (x := [41]) hd2, ?_, ?_, by show kn + 1 ≤ l.length; simp [fx] at hln; omega⟩, by show l.length - (kn + 1) < l.length - k; simp [fx] at hln; omega⟩
            · refine ToksAt.snoc (c := .held dn2) ⟨_, _, _, us, .head _, .tail _ (.head _), hU2.mono fun p hp => .tail _ (.tail _ hp)⟩ (hT.mono fun p hp => .tail _ (.tail _ (hDD p hp)))
            · rw [← hc]; simp [toks, tkl]
  · have hq : q0 = [] ∧ qs = [] := by
      have hz : (fx q0 ++ jl qs).length = 0 := by
        simp only [List.length_append, List.length_cons, List.length_nil] at hlenk ⊢
        omega
      have h1 := toks_len q0 qs
      rw [hz] at h1
      have h2 : toks q0 qs = [] := List.eq_nil_of_length_eq_zero (by omega)
      constructor
      · cases q0 with
        | nil => rfl
        | cons _ _ => simp [toks] at h2
      · cases qs with
        | nil => rfl
        | cons x y => cases y <;> simp [toks, tkl] at h2
    obtain ⟨rfl, rfl⟩ := hq
    repeat walk_at "m"
    have hS := S.freeze (by assumption)
    refine ⟨_, rfl, S.back hS ⟨_, _, _, rfl, .head _, ?_⟩⟩
    rw [← hc]
    simp only [toks, tkl, List.map_nil, List.append_nil]
    exact hT.mono fun p hp => .tail _ hp
inductive ForE (prog : Program) (w : World) (A : Around) (s : Shared) (P : Params) (g : Heap) (K0 : Addr → Obj → Prop) (L : Addr) (ns : List Str) (elts : List Expr) (x1 : Nat) (tp : Pos) (body : List Stmt) (env : Env) (Q : Flow → Shared → Prop) (σ : Type) (b : Addr) (its : List Value) (m : Nat) (x : Value) (s₁ : Shared) : Prop
  | mk (h₁ : Heap) (tk₁ : Nat) (vs₁ : List (Option Value)) (mu₁ D₁ : List (Addr × Obj)) (e it : Addr) (oI : Obj) (hs : s₁ = st s h₁ tk₁) (hS : S P g K0 L ns vs₁ ((e, { cls := .type "enumerate", dict := none, data := .fields #[.none, .bool false, .ref it, rawInt 0, .none, .none], slots := #[] }) :: (it, oI) :: mu₁) D₁ h₁) (hx : x = .ref e)
      (hc : oI.cls = .type "list_iterator") (hd : oI.data = .fields #[.ref b, .int 0 0]) (hK : Kn K0 D₁ b (lo its m))
      (vsx : Nat → σ → List (Option Value)) (mux Dx : Nat → σ → List (Addr × Obj)) (I : Nat → σ → Prop) (x0 : σ) (ev : vsx 0 x0 = vs₁) (em : mux 0 x0 = mu₁) (ed : Dx 0 x0 = D₁) (hI : I 0 x0) (hKx : ∀ i x, Kn K0 (Dx i x) b (lo its m))
      (turn : ∀ i x h tk p q T t, i < its.length → I i x → S P g K0 L ns (vsx i x) (p :: q :: mux i x) ((T, to [.int (i : Int) t, its.getD i .none]) :: Dx i x) h →
          ∀ Q1, Abs (fun f s₃ => match f with
            | .next | .cont => FL s P g K0 L ns (vsx (i + 1)) (fun x' => p :: q :: mux (i + 1) x') (Dx (i + 1)) (I (i + 1)) s₃
            | .brk => Q .next s₃
            | .ret v => Q (.ret v) s₃) Q1 → wpAny (model prog w) A (assign (.Tuple elts x1 tp) env (.ref T)) (fun _ s₂ => wpAny (model prog w) A (execs body env) Q1 NoE s₂) NoE (st s h tk))
      (fin : ∀ x h tk, I its.length x → S P g K0 L ns (vsx its.length x) (mux its.length x) (Dx its.length x) h → Q .next (st s h tk)) : ForE prog w A s P g K0 L ns elts x1 tp body env Q σ b its m x s₁
section
variable {prog : Program} {w : World} {A : Around} {s : Shared} {h : Heap} {tk : Nat} {P : Params} {g : Heap} {K0 : Addr → Obj → Prop} {L : Addr} {ns : List Str} {vs : List (Option Value)} {mu D : List (Addr × Obj)}
  {nm : Str} {sc : Scope} {a : Addr} {cd : Value} {E : Value → Shared → Prop} {n : Nat} {env : Env}
theorem S.two {e it : Addr} {o1 o2 o1' o2' : Obj} {h' : Heap} (hS : S P g K0 L ns vs ((e, o1) :: (it, o2) :: mu) D h) (hk : ∀ b o, b ≠ e → b ≠ it → h.get? b = some o → h'.get? b = some o)
    (he : h'.get? e = some o1') (hi : h'.get? it = some o2') : S P g K0 L ns vs ((e, o1') :: (it, o2') :: mu) D h' := by
  have n1 := hS.nw _ (.head _)
  have n2 := hS.nw _ (.tail _ (.head _))
  have nd := hS.nd
  simp only [List.map_cons, List.nodup_cons, List.mem_cons, not_or] at nd
  have old : ∀ b o, g.get? b = some o → h'.get? b = some o := fun b o q => hk b o (fun z => by rw [z, n1.2.2] at q; cases q) (fun z => by rw [z, n2.2.2] at q; cases q) (hS.fr.keep b o q)
  refine ⟨hS.T, ⟨?_, old, hS.fr.above⟩, fun p hp => ?_, hS.k0, fun p hp q hq => ?_, ?_⟩
  · obtain ⟨o, es, ep, ho, r⟩ := hS.fr.ns
    exact ⟨o, es, ep, hk _ _ (Ne.symm n1.2.1) (Ne.symm n2.2.1) ho, r⟩
  · rcases List.mem_append.mp hp with z | z
    · rcases List.mem_cons.mp z with rfl | z
      · exact ⟨he, n1.2⟩
      · rcases List.mem_cons.mp z with rfl | z
        · exact ⟨hi, n2.2⟩
        · have := hS.nw p (.tail _ (.tail _ (List.mem_append_left _ z)))
          exact ⟨hk _ _ (fun q => nd.1.2 (List.mem_map.mpr ⟨p, z, q⟩)) (fun q => nd.2.1 (List.mem_map.mpr ⟨p, z, q⟩)) this.1, this.2⟩
    · have := hS.nw p (List.mem_append_right _ z)
      exact ⟨hk _ _ (fun q => hS.sep _ (.head _) p z q.symm) (fun q => hS.sep _ (.tail _ (.head _)) p z q.symm) this.1, this.2⟩
  · rcases List.mem_cons.mp hp with rfl | hp
    · exact hS.sep _ (.head _) q hq
    · rcases List.mem_cons.mp hp with rfl | hp
      · exact hS.sep _ (.tail _ (.head _)) q hq
      · exact hS.sep p (.tail _ (.tail _ hp)) q hq
  · simp only [List.map_cons, List.nodup_cons, List.mem_cons, not_or]; exact nd
theorem S.addD {T : Addr} {o : Obj} (hS : S P g K0 L ns vs mu D h) (ho : h.get? T = some o) (hL : L < T) (hm : ∀ p ∈ mu, p.1 < T) : S P g K0 L ns vs mu ((T, o) :: D) h := by
  refine ⟨hS.T, hS.fr, fun p hp => ?_, hS.k0, fun p hp q hq => ?_, hS.nd⟩
  · rcases List.mem_append.mp hp with z | z
    · exact hS.nw p (List.mem_append_left _ z)
    · rcases List.mem_cons.mp z with rfl | z
      · exact ⟨ho, Nat.ne_of_gt hL, Heap.get?_none_of_le (Nat.le_trans hS.fr.above (Nat.le_of_lt hL))⟩
      · exact hS.nw p (List.mem_append_right _ z)
  · rcases List.mem_cons.mp hq with rfl | z
    · exact Nat.ne_of_lt (hm p hp)
    · exact hS.sep p hp q z
theorem S.addM {T : Addr} {o : Obj} (hS : S P g K0 L ns vs mu D h) (ho : h.get? T = some o) (hL : L < T) (hm : ∀ p ∈ mu ++ D, p.1 < T) : S P g K0 L ns vs ((T, o) :: mu) D h := by
  refine ⟨hS.T, hS.fr, fun p hp => ?_, hS.k0, fun p hp q hq => ?_, ?_⟩
  · rcases List.mem_cons.mp hp with rfl | hp
    · exact ⟨ho, Nat.ne_of_gt hL, Heap.get?_none_of_le (Nat.le_trans hS.fr.above (Nat.le_of_lt hL))⟩
    · exact hS.nw p hp
  · rcases List.mem_cons.mp hp with rfl | hp
    · exact Nat.ne_of_gt (hm q (List.mem_append_right _ hq))
    · exact hS.sep p hp q hq
  · rw [List.map_cons, List.nodup_cons]
    refine ⟨fun z => ?_, hS.nd⟩
    obtain ⟨q, hq, e⟩ := List.mem_map.mp z
    exact Nat.ne_of_lt (hm q (List.mem_append_left _ hq)) e
theorem r_forE {σ : Type} {elts : List Expr} {x1 : Nat} {tp : Pos} {iter : Expr} {body : List Stmt} {pos : Pos} {Q : Flow → Shared → Prop} {b : Addr} {its : List Value} {m : Nat} (_h0 : S P g K0 L ns vs mu D h)
    (hi : ∀ Qi, AbsV (ForE prog w A s P g K0 L ns elts x1 tp body env Q σ b its m) Qi → wpAny (model prog w) A (eval iter env) Qi NoE (st s h tk))
    (hh : A.handled = none) (hs : ∀ x, foldedSetIterable iter env x = pure x) :
    wpAny (model prog w) A (exec (.For (.Tuple elts x1 tp) iter body [] pos) env) Q E (st s h tk) := by
  refine wpAny_For (wpAny_mono (hi _ ⟨fun _ _ x => x⟩) (fun x s₁ hq => ?_) fun _ _ e => e.elim) hs
  obtain ⟨h₁, tk₁, vs₁, mu₁, D₁, e, it, oI, rfl, hS, rfl, hIc, hId, hK, vsx, mux, Dx, I, x0, rfl, rfl, rfl, hI, hKx, turn, fin⟩ := hq
  have hne : e ≠ it := by
    have nd := hS.nd
    simp only [List.map_cons, List.nodup_cons, List.mem_cons, not_or] at nd
    exact nd.1.1
  refine wpAny_pyIter_enum (s := st s h₁ tk₁) (hS.mem (.head _)) ?_
  refine codeAny_forLoop_any (fun q s' => ∃ i x h tk o old, s' = st s h tk ∧ q = its.length - i ∧ i ≤ its.length ∧ I i x ∧ o.cls = .type "list_iterator" ∧ o.data = .fields #[.ref b, .int (i : Int) 0] ∧
      S P g K0 L ns (vsx i x) ((e, { cls := .type "enumerate", dict := none, data := .fields #[.none, .bool false, .ref it, rawInt (i : Int), .none, old], slots := #[] }) :: (it, o) :: mux i x) (Dx i x) h) ?_ its.length
    ⟨0, x0, _, tk₁, oI, _, rfl, rfl, Nat.zero_le _, hI, hIc, hId, hS⟩
  rintro q s' ⟨i, x, h₂, tk₂, o, old, rfl, rfl, hle, hIx, hoc, hod, hS₂⟩
  have he2 : IsEnum (st s h₂ tk₂).heap e it (i : Int) old := hS₂.mem (.head _)
  have iter : (st s h₂ tk₂).heap.IsListIter it b i := ⟨o, hS₂.mem (.tail _ (.head _)), hoc, hod⟩
  have lst : (st s h₂ tk₂).heap.IsList b its.toArray := isList_lo (hS₂.kn _ _ (hKx i x))
  by_cases hlt : i < its.length
  · refine wpAny_pyNext_enum_item (s := st s h₂ tk₂) he2 iter lst (x := its.getD i .none) (by rw [List.getElem?_toArray, List.getD_eq_getElem?_getD, List.getElem?_eq_getElem hlt]; rfl) hne fun h' heo hit' hT hsz hk => ?_
    obtain ⟨o', ho', hc', hd'⟩ := id hit'
    refine wpAny_letOwnedTupleGo_enum (s := st s h' (tk₂ + 1)) heo fun h'' he'' hsb => ?_
    have hsb : Heap.SameBut e h' h'' := hsb
    have hlt2 : ∀ p ∈ ((e, _) :: (it, o) :: mux i x) ++ Dx i x, p.1 < h₂.objs.size := hS₂.lt
    have heT : h₂.objs.size ≠ e := Nat.ne_of_gt (hlt2 _ (.head _))
    have hS₃ : S P g K0 L ns (vsx i x) ((e, { cls := .type "enumerate", dict := none, data := .fields #[.none, .bool false, .ref it, rawInt ((i : Int) + 1), .none, its.getD i .none], slots := #[] }) :: (it, o') :: mux i x) (Dx i x) h'' :=
      S.two hS₂ (fun c oc h1 h2 hc => hsb.extBut c oc h1 (hk c oc h1 h2 hc)) he'' (hsb.extBut it o' (Ne.symm hne) ho')
    have hT2 : h''.get? h₂.objs.size = some (to [.int (i : Int) tk₂, its.getD i .none]) := hsb.extBut _ _ heT hT
    have hS₄ := hS₃.addD hT2 hS₂.fr.ns.lt (fun p hp => by
      rcases List.mem_cons.mp hp with rfl | hp
      · exact show e < h₂.objs.size from hlt2 _ (.head _)
      · rcases List.mem_cons.mp hp with rfl | hp
        · exact show it < h₂.objs.size from hlt2 _ (.tail _ (.head _))
        · exact hlt2 p (List.mem_append_left _ (.tail _ (.tail _ hp))))
    refine wpAny_mono (turn i x h'' (tk₂ + 1) _ _ _ _ hlt hIx hS₄ _ ⟨fun _ _ x => x⟩) (fun _ s₂ h₂' => wpAny_mono h₂' (fun f s₃ h₃ => ?_) fun _ _ e => e.elim) fun _ _ e => e.elim
    have key : FL s P g K0 L ns (vsx (i + 1)) (fun x' => (e, { cls := .type "enumerate", dict := none, data := .fields #[.none, .bool false, .ref it, rawInt ((i : Int) + 1), .none, its.getD i .none], slots := #[] }) :: (it, o') :: mux (i + 1) x') (Dx (i + 1)) (I (i + 1)) s₃ →
        ∃ m, m < its.length - i ∧ ∃ i x h tk o old, s₃ = st s h tk ∧ m = its.length - i ∧ i ≤ its.length ∧ I i x ∧ o.cls = .type "list_iterator" ∧ o.data = .fields #[.ref b, .int (i : Int) 0] ∧
          S P g K0 L ns (vsx i x) ((e, { cls := .type "enumerate", dict := none, data := .fields #[.none, .bool false, .ref it, rawInt (i : Int), .none, old], slots := #[] }) :: (it, o) :: mux i x) (Dx i x) h := by
      rintro ⟨x', h', tk', rfl, hS', hI'⟩
      exact ⟨its.length - (i + 1), by omega, i + 1, x', h', tk', o', _, rfl, rfl, hlt, hI', hc', hd', hS'⟩
    cases f with
    | next => exact key h₃
    | cont => exact key h₃
    | brk => exact h₃
    | ret v => exact h₃
  · have e1 : i = its.length := by omega
    subst e1
    refine wpAny_pyNext_enum_end (s := st s h₂ tk₂) hh he2 iter lst (by rw [List.getElem?_toArray]; exact List.getElem?_eq_none (Nat.le_refl _)) fun h' hx => wpAny_execs_nil ?_
    refine fin x h' tk₂ hIx ?_
    have hx : Heap.ExtBut it h₂ h' := hx
    have n2 := hS₂.nw _ (.tail _ (.head _))
    have nd := hS₂.nd
    simp only [List.map_cons, List.nodup_cons, List.mem_cons, not_or] at nd
    have hS₃ := hS₂.drop.drop
    refine hS₃.chg ⟨hS₃.fr.ns.extBut hx (Ne.symm n2.2.1), fun c oc q => hx c oc (fun z => by rw [z, n2.2.2] at q; cases q) (hS₃.fr.keep c oc q), hS₃.fr.above⟩ fun p hp => ⟨hx _ _ (fun z => ?_) (hS₃.nw p hp).1, (hS₃.nw p hp).2⟩
    rcases List.mem_append.mp hp with y | y
    · exact nd.2.1 (List.mem_map.mpr ⟨p, y, z⟩)
    · exact hS₂.sep _ (.tail _ (.head _)) p y z.symm
theorem r_enum {b : Addr} {its : List Value} {m : Nat} {Q : Value → Shared → Prop} (hS : S P g K0 L ns vs mu D h) (hb : h.get? b = some (lo its m))
    (k : ∀ h' e it oI, oI.cls = .type "list_iterator" → oI.data = .fields #[.ref b, .int 0 0] → S P g K0 L ns vs ((e, { cls := .type "enumerate", dict := none, data := .fields #[.none, .bool false, .ref it, rawInt 0, .none, .none], slots := #[] }) :: (it, oI) :: mu) D h' → Q (.ref e) (st s h' tk)) :
    wpAny (model prog w) A (call (.type "enumerate") [.ref b]) Q E (st s h tk) := by
  refine call_enumerate_1 (s := st s h tk) hb fun h' he hit hsz hk => ?_
  obtain ⟨oI, hoI, hc, hd⟩ := hit
  have hS1 := hS.keepAll hk
  have lt := hS.lt
  have hS2 := hS1.addM hoI hS.fr.ns.lt lt
  refine k h' _ _ oI hc hd (hS2.addM he (Nat.lt_succ_of_lt hS.fr.ns.lt) fun p hp => ?_)
  rcases List.mem_append.mp hp with z | z
  · rcases List.mem_cons.mp z with rfl | z
    · exact Nat.lt_succ_self _
    · exact Nat.lt_succ_of_lt (lt p (List.mem_append_left _ z))
  · exact Nat.lt_succ_of_lt (lt p (List.mem_append_right _ z))
end
section
variable {prog : Program} {w : World} {A : Around} {s : Shared} {h : Heap} {tk : Nat} {P : Params} {g : Heap} {K0 : Addr → Obj → Prop} {L : Addr} {ns : List Str} {vs : List (Option Value)} {mu D : List (Addr × Obj)}
  {nm : Str} {sc : Scope} {a : Addr} {cd : Value} {E : Value → Shared → Prop} {n : Nat} {R : List (Addr × Obj) → Value → Prop} {cl : List (Str × Addr)} {env : Env}
theorem cellsAre_keys {cm : Str → Option Value} : ∀ {cs : List (Str × Addr)} {cells : List (Addr × Obj)}, CellsAre cm cs cells → cells.map (·.1) = cs.map (·.2)
  | _, _, .nil => rfl
  | _, _, .cons _ r => by rw [List.map_cons, List.map_cons, cellsAre_keys r]
theorem enterC {f : Addr} {args : List Value} {name qual : Str} {params : Arguments} {body : List Stmt} {scope : Scope} {dV kV doc pm cdv ct oc : Value} {an od : Option Addr} {osl : Array (Option Value)} {binds : List (Str × Value)}
    (T : TopOk P h) (hk0 : ∀ b o, K0 b o → h.get? b = some o)
    (ho : (KK P).lookup f = some ⟨oc, od, .func (fnOf name qual params body scope dV kV doc pm an cdv ct), osl⟩) (hcd : codeIn (KK P) cdv qual = true) (hn : n < recursionLimit)
    (hbind : bindArgs (fnOf name qual params body scope dV kV doc pm an cdv ct) ⟨args, []⟩ = pure binds)
    (hkind : ∀ n, ∀ x ∈ binds, scope.names.lookup x.1 = some .local ∨ (scope.names.lookup x.1 = some .cell ∧ ((cellsFrom n scope.names []).lookup x.1).isSome = true))
    (hnd : ((cellsFrom 0 scope.names []).map (·.1)).Nodup) (hna : ∀ L, ((cellsFrom (L + 1) scope.names []).map (·.2)).Nodup)
    (hlk : ∀ L, bindL (envOfC qual scope L f cdv).kindOf binds (fun _ => none) = lkv ns vs)
    (hb : ∀ A L s h₁ tk cells, Okay (n + 1) A → CellsAre (bindC (envOfC qual scope L f cdv).kindOf binds fun _ => none) (cellsFrom (L + 1) scope.names []) cells → S P h K0 L ns vs cells [] h₁ → ∀ Q0, Abs (fun fl s' => ∃ v, fl = .ret v ∧ Back s h R v s') Q0 →
      wpAny (model prog w) A (execs body (envOfC qual scope L f cdv)) Q0 NoE (st s h₁ tk))
    (hco : scope.isCoroutine = false := by rfl) (hgen : scope.isGenerator = false := by rfl) (hk : scope.kind = .function := by rfl) :
    Pure prog w n f args h R := by
  intro A s tk O
  refine codeAny_call_function (s := st s h tk) (Nat.lt_of_le_of_lt O.d hn) (T.X _ _ ho) rfl hco hgen rfl (codeRec_of T.X hcd) ((BindsTo.of_eq (s := st s h tk) hbind) _ _ _ _ ?_)
  refine wpAny_newFunctionEnv_cells hk (hkind _) fun env' he s' x => ?_
  subst he
  refine ⟨T.nl.keeps x.toInCall.keep, codeAny_func ?_⟩
  obtain ⟨h₁, tk', rfl, _⟩ := x.done
  have hk₁ := x.toInCall.keep
  obtain ⟨cells, NC, Y⟩ := Cl.news (h₀ := h) (Nat.le_refl _) fun n c hm => ⟨x.cell n c (lookup_of_mem_nodup (cellsFrom_names scope.names 0 (h.objs.size + 1) [] [] rfl ▸ hnd) hm), x.above n c hm⟩
  have F : Fr h h.objs.size h₁ (lkv ns vs) := ⟨by rw [← hlk]; exact x.toInCall.ns, hk₁, Nat.le_refl _⟩
  refine wpAny_mono (hb _ h.objs.size s h₁ tk' cells (O.deeper _) Y ⟨T, F, ?_, hk0, fun _ _ _ hp => (nomatch hp), ?_⟩ _ ⟨fun _ _ x => x⟩) (fun fl s' hq => ?_) fun _ _ x => x.elim
  · rw [List.append_nil]; exact NC
  · rw [cellsAre_keys Y]; exact hna _
  · obtain ⟨v, rfl, hB⟩ := hq
    exact ⟨v, rfl, hB⟩
theorem r_ldc {x : Str} {pos : Pos} {v : Value} {c : Addr} {o : Obj} {Q : Value → Shared → Prop} (hS : S P g K0 L ns vs mu D h) (hc : cl.lookup x = some c) (hm : (c, o) ∈ mu ++ D) (hd : o.data = .cell (some v)) (hk : sc.kind = .function) (hx : (envX nm sc L a cd cl).kindOf x = some .cell)
    (hb : (x == ("__debug__" : Str)) = false) (k : Q v (st s h tk)) : wpAny (model prog w) A (eval (.Name x pos) (envX nm sc L a cd cl)) Q E (st s h tk) :=
  nameX_C (s := st s h tk) hS.nw hc hm hd k hk hx hb
end
def nsObj (o : Obj) (m : Str → Option Value) : Prop := ∃ es ep, o.data = .dict es ep ∧ StrKeys es ∧ ∀ name, nsFind es name = m name
theorem lkv_none : ∀ (ns : List Str) (x : Str), lkv ns (ns.map fun _ => none) x = none
  | [], _ => rfl
  | n :: ns, x => by
    rw [List.map_cons]
    unfold lkv
    split
    · rfl
    · exact lkv_none ns x
inductive CompP (prog : Program) (w : World) (A : Around) (s : Shared) (P : Params) (g : Heap) (K0 : Addr → Obj → Prop) (L : Addr) (ns : List Str) (elt : Expr) (elts : List Expr) (x1 : Nat) (tp : Pos) (scope : Scope) (cl' : List (Str × Addr)) (env : Env) (Q : Value → Shared → Prop) (σ : Type) (b : Addr) (its : List Value) (m : Nat) (x : Value) (s₁ : Shared) : Prop
  | mk (h₁ : Heap) (tk₁ : Nat) (vs₁ : List (Option Value)) (mu₁ D₁ : List (Addr × Obj)) (e : s₁ = st s h₁ tk₁) (hS : S P g K0 L ns vs₁ mu₁ D₁ h₁) (hx : x = .ref b) (hK : Kn K0 D₁ b (lo its m))
      (nsC : List Str) (vsC : Nat → σ → List (Option Value)) (mux Dx : Nat → σ → List (Addr × Obj)) (I : Nat → σ → List Value → Prop) (x0 : σ) (ev : vsC 0 x0 = (nsC.map fun _ => none)) (em : mux 0 x0 = mu₁) (ed : Dx 0 x0 = D₁) (hI : I 0 x0 []) (hKx : ∀ i x, Kn K0 (Dx i x) b (lo its m))
      (turn : ∀ i x ys C h tk p acc m2 oL, i < its.length → I i x ys → S P g K0 C nsC (vsC i x) (p :: (acc, lo ys m2) :: (L, oL) :: mux i x) (Dx i x) h →
          wpAny (model prog w) A (assign (.Tuple elts x1 tp) (compEnvC scope cl' C env) (its.getD i .none)) (fun _ s₂ => wpAny (model prog w) A (eval elt (compEnvC scope cl' C env)) (fun y s₃ =>
            FL s P g K0 C nsC (vsC (i + 1)) (fun x' => p :: (acc, lo ys m2) :: (L, oL) :: mux (i + 1) x') (Dx (i + 1)) (fun x' => I (i + 1) x' (ys ++ [y])) s₃) NoE s₂) NoE (st s h tk))
      (fin : ∀ x ys acc m2 h tk, I its.length x ys → S P g K0 L ns vs₁ ((acc, lo ys m2) :: mux its.length x) (Dx its.length x) h → Q (.ref acc) (st s h tk)) : CompP prog w A s P g K0 L ns elt elts x1 tp scope cl' env Q σ b its m x s₁
inductive CompI (prog : Program) (w : World) (A : Around) (s : Shared) (P : Params) (g : Heap) (K0 : Addr → Obj → Prop) (L : Addr) (ns : List Str) (elt : Expr) (xn : Str) (px : Pos) (ifs : List Expr) (use : Option (Value → Sem Unit)) (scope : Scope) (cl' : List (Str × Addr)) (env : Env) (E : Value → Shared → Prop) (Q : Value → Shared → Prop) (σ : Type) (x : Value) (s₁ : Shared) : Prop
  | mk (b : Addr) (its : List Value) (m : Nat) (hlen : its.length ≤ 1000000) (h₁ : Heap) (tk₁ : Nat) (vs₁ : List (Option Value)) (mu₁ D₁ : List (Addr × Obj)) (e : s₁ = st s h₁ tk₁) (hS : S P g K0 L ns vs₁ mu₁ D₁ h₁) (hx : x = .ref b) (hK : Kn K0 D₁ b (lo its m))
      (nsC : List Str) (vsC : Nat → σ → List (Option Value)) (mux Dx : Nat → σ → List (Addr × Obj)) (I : Nat → σ → List Value → Prop) (x0 : σ) (ev : vsC 0 x0 = (nsC.map fun _ => none)) (em : mux 0 x0 = mu₁) (ed : Dx 0 x0 = D₁) (hI : I 0 x0 []) (hKx : ∀ i x, Kn K0 (Dx i x) b (lo its m))
      (turn : ∀ i x ys C h tk p acc m2 oL, i < its.length → I i x ys → S P g K0 C nsC (vsC i x) (p :: (acc, lo ys m2) :: (L, oL) :: mux i x) (Dx i x) h →
          wpAny (model prog w) A (assign (.Name xn px) (compEnvC scope cl' C env) (its.getD i .none)) (fun _ s₂ => wpAny (model prog w) A (forIn ifs true fun c r => if r = true then do let ok ← isTrue c (compEnvC scope cl' C env) (eval c (compEnvC scope cl' C env)); pure (ForInStep.yield ok) else pure (ForInStep.yield r)) (fun ok s₃ => if ok = true then wpAny (model prog w) A (eval elt (compEnvC scope cl' C env)) (fun y s₄ =>
            FL s P g K0 C nsC (vsC (i + 1)) (fun x' => p :: (acc, lo ys m2) :: (L, oL) :: mux (i + 1) x') (Dx (i + 1)) (fun x' => I (i + 1) x' (ys ++ [y])) s₄) NoE s₃
              else FL s P g K0 C nsC (vsC (i + 1)) (fun x' => p :: (acc, lo ys m2) :: (L, oL) :: mux (i + 1) x') (Dx (i + 1)) (fun x' => I (i + 1) x' ys) s₃) NoE s₂) NoE (st s h tk))
      (fin : ∀ x ys acc m2 C oC h tk mC, I its.length x ys → S P g K0 L ns vs₁ ((C, oC) :: (acc, lo ys m2) :: mux its.length x) (Dx its.length x) h → h.Ns C mC → compPost (model prog w) A E use Q (.ref acc) C (.ok .next) (st s h tk)) : CompI prog w A s P g K0 L ns elt xn px ifs use scope cl' env E Q σ x s₁
section
variable {prog : Program} {w : World} {A : Around} {s : Shared} {h : Heap} {tk : Nat} {P : Params} {g : Heap} {K0 : Addr → Obj → Prop} {L : Addr} {ns : List Str} {vs : List (Option Value)} {mu D : List (Addr × Obj)}
  {nm : Str} {sc : Scope} {a : Addr} {cd : Value} {E : Value → Shared → Prop} {n : Nat} {cl : List (Str × Addr)} {env : Env}
theorem S.intoC {C : Addr} {h₁ : Heap} {oL : Obj} (nsC : List Str) (hS : S P g K0 L ns vs mu D h) (hL : h.get? L = some oL) (hn : h₁.Ns C fun _ => none) (hk : ∀ b o, h.get? b = some o → h₁.get? b = some o) (hC : h.objs.size ≤ C) :
    S P g K0 C nsC (nsC.map fun _ => none) ((L, oL) :: mu) D h₁ := by
  have hLC : L < C := Nat.lt_of_lt_of_le hS.fr.ns.lt hC
  refine ⟨hS.T, ⟨?_, fun b o e => hk b o (hS.fr.keep b o e), Nat.le_trans hS.fr.above (Nat.le_of_lt hLC)⟩, fun p hp => ?_, hS.k0, fun p hp q hq => ?_, ?_⟩
  · have e : lkv nsC (nsC.map fun _ => none) = fun _ => none := funext (lkv_none nsC)
    rw [e]; exact hn
  · rcases List.mem_cons.mp hp with rfl | hp
    · exact ⟨hk _ _ hL, Nat.ne_of_lt hLC, Heap.get?_none_of_le hS.fr.above⟩
    · have := hS.nw p hp
      exact ⟨hk _ _ this.1, Nat.ne_of_lt (Nat.lt_of_lt_of_le (Heap.lt_size this.1) hC), this.2.2⟩
  · rcases List.mem_cons.mp hp with rfl | hp
    · exact fun e => (hS.nw q (List.mem_append_right _ hq)).2.1 e.symm
    · exact hS.sep p hp q hq
  · rw [List.map_cons, List.nodup_cons]
    refine ⟨fun z => ?_, hS.nd⟩
    obtain ⟨q, hq, e⟩ := List.mem_map.mp z
    exact (hS.nw q (List.mem_append_left _ hq)).2.1 e
theorem S.outC {C : Addr} {nsC : List Str} {vsC : List (Option Value)} {oL : Obj} (hS : S P g K0 C nsC vsC ((L, oL) :: mu) D h) (hN : nsObj oL (lkv ns vs)) (hg : g.objs.size ≤ L) : ∃ oC, h.get? C = some oC ∧ S P g K0 L ns vs ((C, oC) :: mu) D h := by
  obtain ⟨oC, _, _, hoC, _⟩ := id hS.fr.ns
  obtain ⟨es, ep, e1, e2, e3⟩ := hN
  have nL := hS.nw _ (.head _)
  have nd := hS.nd
  rw [List.map_cons, List.nodup_cons] at nd
  refine ⟨oC, hoC, hS.T, ⟨⟨oL, es, ep, nL.1, e1, e2, e3⟩, hS.fr.keep, hg⟩, fun p hp => ?_, hS.k0, fun p hp q hq => ?_, ?_⟩
  · rcases List.mem_cons.mp hp with rfl | hp
    · exact ⟨hoC, fun e => nL.2.1 e.symm, Heap.get?_none_of_le hS.fr.above⟩
    · have := hS.nw p (.tail _ hp)
      refine ⟨this.1, fun e => ?_, this.2.2⟩
      rcases List.mem_append.mp hp with z | z
      · exact nd.1 (List.mem_map.mpr ⟨p, z, e⟩)
      · exact hS.sep _ (.head _) p z e.symm
  · rcases List.mem_cons.mp hp with rfl | hp
    · exact fun e => (hS.nw q (List.mem_append_right _ hq)).2.1 e.symm
    · exact hS.sep p (.tail _ hp) q hq
  · rw [List.map_cons, List.nodup_cons]
    refine ⟨fun z => ?_, nd.2⟩
    obtain ⟨q, hq, e⟩ := List.mem_map.mp z
    exact (hS.nw q (.tail _ (List.mem_append_left _ hq))).2.1 e
theorem S.perm {mu' : List (Addr × Obj)} (hS : S P g K0 L ns vs mu D h) (hp : List.Perm mu mu') : S P g K0 L ns vs mu' D h :=
  ⟨hS.T, hS.fr, fun p hq => hS.nw p ((List.mem_append.mp hq).elim (fun z => List.mem_append_left _ (hp.mem_iff.mpr z)) (List.mem_append_right _)), hS.k0, fun p hq q hr => hS.sep p (hp.mem_iff.mpr hq) q hr, ((hp.map _).nodup_iff).mp hS.nd⟩
theorem S.dropBut {C : Addr} {oC : Obj} {h' : Heap} (hS : S P g K0 L ns vs ((C, oC) :: mu) D h) (hs : Heap.SameBut C h h') : S P g K0 L ns vs mu D h' := by
  have nC := hS.nw _ (.head _)
  have nd := hS.nd
  rw [List.map_cons, List.nodup_cons] at nd
  refine hS.drop.chg ⟨hS.fr.ns.sameBut hs (Ne.symm nC.2.1), fun c oc q => hs.extBut c oc (fun z => by rw [z, nC.2.2] at q; cases q) (hS.fr.keep c oc q), hS.fr.above⟩ fun p hp => ⟨hs.extBut _ _ (fun z => ?_) (hS.drop.nw p hp).1, (hS.drop.nw p hp).2⟩
  rcases List.mem_append.mp hp with y | y
  · exact nd.1 (List.mem_map.mpr ⟨p, y, z⟩)
  · exact hS.sep _ (.head _) p y z.symm
theorem r_compP {σ : Type} {elt iter : Expr} {elts : List Expr} {x1 : Nat} {tp : Pos} {scope : Scope} {cl' : List (Str × Addr)} {pos : Pos} {Q : Value → Shared → Prop} {b : Addr} {its : List Value} {m : Nat} (hS0 : S P g K0 L ns vs mu D h) (hlen : its.length ≤ 1000000)
    (hclos : closureFor scope env = pure cl') (hcell : ∀ y ∈ scope.names, y.2 ≠ .cell) (hkind : scope.kind = .function) (hnames : ∀ y ∈ scope.names, y.2 = .local → scope.names.lookup y.1 = some .local) (hh : A.handled = none)
    (hi : ∀ Qi, AbsV (CompP prog w A s P g K0 L ns elt elts x1 tp scope cl' env Q σ b its m) Qi → wpAny (model prog w) A (eval iter env) Qi NoE (st s h tk))
    (hs : ∀ x, foldedSetIterable iter env x = pure x) :
    wpAny (model prog w) A (eval (.ListComp elt [⟨.Tuple elts x1 tp, iter, [], 0⟩] scope pos) env) Q E (st s h tk) := by
  rw [eval_ListComp]
  refine wpAny_comprehension_free (use := none) rfl hs hclos hkind hnames (wpAny_mono (hi _ ⟨fun _ _ x => x⟩) (fun x s₁ hq => ?_) fun _ _ e => e.elim)
  obtain ⟨h₁, tk₁, vs₁, mu₁, D₁, rfl, hS, rfl, hK, nsC, vsC, mux, Dx, I, x0, hv0, rfl, rfl, hI, hKx, turn, fin⟩ := hq
  refine wpAny_pyIter_list (s := st s h₁ tk₁) (isList_lo (hS.kn _ _ hK)) ?_
  obtain ⟨oL, esL, epL, hoL, hoL1, hoL2, hoL3⟩ := id hS.fr.ns
  have hN : nsObj oL (lkv ns vs₁) := ⟨esL, epL, hoL1, hoL2, hoL3⟩
  have hgL := hS.fr.above
  have hS1 := hS.pushM { cls := .type "list_iterator", data := .fields #[.ref b, .int 0 0] } rfl
  refine wpAny_newObj_type (s := st s (h₁.push { cls := .type "list_iterator", data := .fields #[.ref b, .int 0 0] }) tk₁) ?_ (Nat.zero_le _)
  have hS2 := hS1.pushM (lo [] 0) rfl
  have hoL2 : ((h₁.push { cls := .type "list_iterator", data := .fields #[.ref b, .int 0 0] }).push (lo [] 0)).get? L = some oL := Heap.get?_push_of_some _ (Heap.get?_push_of_some _ hoL)
  show wpAny _ _ _ _ _ (st s ((h₁.push { cls := .type "list_iterator", data := .fields #[.ref b, .int 0 0] }).push (lo [] 0)) tk₁)
  revert hS2 hoL2
  generalize ((h₁.push { cls := .type "list_iterator", data := .fields #[.ref b, .int 0 0] }).push (lo [] 0)) = h₂
  intro hS2 hoL2
  obtain ⟨acc, hacc⟩ : ∃ acc, acc = (h₁.push { cls := .type "list_iterator", data := .fields #[.ref b, .int 0 0] }).objs.size := ⟨_, rfl⟩
  rw [← hacc] at hS2
  refine wpAny_newFunctionEnv hcell (by intro y hy; simp at hy) (fun h₃ hn₃ hsb₃ => ?_) hkind
  have hk₃ : ∀ c o, h₂.get? c = some o → h₃.get? c = some o := fun c o e => hsb₃.extBut c o (Nat.ne_of_lt (Heap.lt_size e)) (Heap.get?_push_of_some _ e)
  have hS3 := (hS2.intoC (C := h₂.objs.size) nsC hoL2 hn₃ hk₃ (Nat.le_refl _)).perm (mu' := (h₁.objs.size, { cls := .type "list_iterator", data := .fields #[.ref b, .int 0 0] }) :: (acc, lo [] 0) :: (L, oL) :: mux 0 x0) (by
    refine List.Perm.trans (List.Perm.swap _ _ _) ?_
    refine List.Perm.trans (List.Perm.cons _ (List.Perm.swap _ _ _)) ?_
    exact List.Perm.swap _ _ _)
  have loop : ∀ hx tkx, S P g K0 h₂.objs.size nsC (vsC 0 x0) ((h₁.objs.size, { cls := .type "list_iterator", data := .fields #[.ref b, .int 0 0] }) :: (acc, lo [] 0) :: (L, oL) :: mux 0 x0) (Dx 0 x0) hx →
      codeAny (model prog w) A (.compLoop (.ListComp elt [⟨.Tuple elts x1 tp, iter, [], 0⟩] scope pos) 0 (.ref h₁.objs.size) (.ref acc) (compEnvC scope cl' h₂.objs.size env)) (compPost (model prog w) A E none Q (.ref acc) h₂.objs.size) (st s hx tkx) := by
    intro hx tkx hSx
    refine LCp.codeAny_compLoop_pair (fun q s' => ∃ i x ys h tk o m2, s' = st s h tk ∧ q = its.length - i ∧ i ≤ its.length ∧ ys.length ≤ i ∧ I i x ys ∧ o.cls = .type "list_iterator" ∧ o.data = .fields #[.ref b, .int (i : Int) 0] ∧
        S P g K0 h₂.objs.size nsC (vsC i x) ((h₁.objs.size, o) :: (acc, lo ys m2) :: (L, oL) :: mux i x) (Dx i x) h) ?_ its.length
      ⟨0, x0, [], hx, tkx, _, 0, rfl, rfl, Nat.zero_le _, Nat.le_refl _, hI, rfl, rfl, hSx⟩
    rintro q s' ⟨i, x, ys, h₄, tk₄, o, m2, rfl, rfl, hle, hyl, hIx, hoc, hod, hS₄⟩
    have hit4 : (st s h₄ tk₄).heap.IsListIter h₁.objs.size b i := ⟨o, hS₄.mem (.head _), hoc, hod⟩
    have lst : (st s h₄ tk₄).heap.IsList b its.toArray := isList_lo (hS₄.kn _ _ (hKx i x))
    by_cases hlt : i < its.length
    · refine wpAny_pyNext_list_item (s := st s h₄ tk₄) hit4 lst (x := its.getD i .none) (by rw [List.getElem?_toArray, List.getD_eq_getElem?_getD, List.getElem?_eq_getElem hlt]; rfl) fun h' hit' hsb => ?_
      obtain ⟨o', ho', hc', hd'⟩ := id hit'
      refine letGo_listiter (s' := st s h' tk₄) hit' ?_
      have hS₅ : S P g K0 h₂.objs.size nsC (vsC i x) ((h₁.objs.size, o') :: (acc, lo ys m2) :: (L, oL) :: mux i x) (Dx i x) h' := S.upd (pre := []) hS₄ hsb ho'
      refine wpAny_mono (turn i x ys _ h' tk₄ (h₁.objs.size, o') acc m2 oL hlt hIx hS₅) (fun _ s₂ h₂' => wpAny_mono h₂' (fun y s₃ h₃' => ?_) fun _ _ e => e.elim) fun _ _ e => e.elim
      obtain ⟨x', h', tk', rfl, hS', hI'⟩ := h₃'
      refine r_app1 hS' (by omega) fun h6 hS6 => ?_
      exact ⟨its.length - (i + 1), by omega, i + 1, x', ys ++ [y], h6, tk', o', m2 + 1, rfl, rfl, hlt, by rw [List.length_append, List.length_singleton]; omega, hI', hc', hd', hS6⟩
    · have e1 : i = its.length := by omega
      subst e1
      refine wpAny_pyNext_list_end (s := st s h₄ tk₄) hh hit4 lst (by rw [List.getElem?_toArray]; exact List.getElem?_eq_none (Nat.le_refl _)) fun h' hx => ?_
      have hx : Heap.ExtBut h₁.objs.size h₄ h' := hx
      have nit := hS₄.nw _ (.head _)
      have nd := hS₄.nd
      rw [List.map_cons, List.nodup_cons] at nd
      have hS₅ := hS₄.drop
      have hS₆ : S P g K0 h₂.objs.size nsC (vsC its.length x) ((acc, lo ys m2) :: (L, oL) :: mux its.length x) (Dx its.length x) h' := by
        refine hS₅.chg ⟨hS₅.fr.ns.extBut hx (Ne.symm nit.2.1), fun c oc q => hx c oc (fun z => by rw [z, nit.2.2] at q; cases q) (hS₅.fr.keep c oc q), hS₅.fr.above⟩ fun p hp => ⟨hx _ _ (fun z => ?_) (hS₅.nw p hp).1, (hS₅.nw p hp).2⟩
        rcases List.mem_append.mp hp with y | y
        · exact nd.1 (List.mem_map.mpr ⟨p, y, z⟩)
        · exact hS₄.sep _ (.head _) p y z.symm
      have hNs := hS₆.fr.ns
      obtain ⟨oC, hoC, hS₇⟩ := hS₆.swap.outC hN hgL
      refine ⟨_, hNs, fun h'' hs'' => ?_⟩
      exact fin x ys acc m2 h'' _ hIx (hS₇.dropBut hs'')
  rw [← hv0] at hS3
  subst hacc
  refine codeAny_compStart_list (loop _ _ hS3) (wpAny_pyIter_listiter (i := 0) ⟨_, hS3.mem (.head _), rfl, rfl⟩ (loop _ _ hS3))
theorem r_compCX {σ : Type} {elt iter : Expr} {xn : Str} {px : Pos} {ifs : List Expr} {use : Option (Value → Sem Unit)} {pp : Pos} {scope : Scope} {cl' : List (Str × Addr)} {pos : Pos} {Q : Value → Shared → Prop} (hS0 : S P g K0 L ns vs mu D h)
    (hclos : closureFor scope env = pure cl') (hcell : ∀ y ∈ scope.names, y.2 ≠ .cell) (hkind : scope.kind = .function) (hnames : ∀ y ∈ scope.names, y.2 = .local → scope.names.lookup y.1 = some .local) (hh : A.handled = none)
    (hi : ∀ Qi, AbsV (CompI prog w A s P g K0 L ns elt xn px ifs use scope cl' env E Q σ) Qi → wpAny (model prog w) A (eval iter env) Qi NoE (st s h tk))
    (hs : ∀ x, foldedSetIterable iter env x = pure x) :
    wpAny (model prog w) A (comprehension (.ListComp elt [⟨.Name xn px, iter, ifs, 0⟩] scope pos) scope env pp (newList []) false (eval iter env) use) Q E (st s h tk) := by
  refine wpAny_comprehension_free (use := use) rfl hs hclos hkind hnames (wpAny_mono (hi _ ⟨fun _ _ x => x⟩) (fun x s₁ hq => ?_) fun _ _ e => e.elim)
  obtain ⟨b, its, m, hlen, h₁, tk₁, vs₁, mu₁, D₁, rfl, hS, rfl, hK, nsC, vsC, mux, Dx, I, x0, hv0, rfl, rfl, hI, hKx, turn, fin⟩ := hq
  refine wpAny_pyIter_list (s := st s h₁ tk₁) (isList_lo (hS.kn _ _ hK)) ?_
  obtain ⟨oL, esL, epL, hoL, hoL1, hoL2, hoL3⟩ := id hS.fr.ns
  have hN : nsObj oL (lkv ns vs₁) := ⟨esL, epL, hoL1, hoL2, hoL3⟩
  have hgL := hS.fr.above
  have hS1 := hS.pushM { cls := .type "list_iterator", data := .fields #[.ref b, .int 0 0] } rfl
  refine wpAny_newObj_type (s := st s (h₁.push { cls := .type "list_iterator", data := .fields #[.ref b, .int 0 0] }) tk₁) ?_ (Nat.zero_le _)
  have hS2 := hS1.pushM (lo [] 0) rfl
  have hoL2 : ((h₁.push { cls := .type "list_iterator", data := .fields #[.ref b, .int 0 0] }).push (lo [] 0)).get? L = some oL := Heap.get?_push_of_some _ (Heap.get?_push_of_some _ hoL)
  show wpAny _ _ _ _ _ (st s ((h₁.push { cls := .type "list_iterator", data := .fields #[.ref b, .int 0 0] }).push (lo [] 0)) tk₁)
  revert hS2 hoL2
  generalize ((h₁.push { cls := .type "list_iterator", data := .fields #[.ref b, .int 0 0] }).push (lo [] 0)) = h₂
  intro hS2 hoL2
  obtain ⟨acc, hacc⟩ : ∃ acc, acc = (h₁.push { cls := .type "list_iterator", data := .fields #[.ref b, .int 0 0] }).objs.size := ⟨_, rfl⟩
  rw [← hacc] at hS2
  refine wpAny_newFunctionEnv hcell (by intro y hy; simp at hy) (fun h₃ hn₃ hsb₃ => ?_) hkind
  have hk₃ : ∀ c o, h₂.get? c = some o → h₃.get? c = some o := fun c o e => hsb₃.extBut c o (Nat.ne_of_lt (Heap.lt_size e)) (Heap.get?_push_of_some _ e)
  have hS3 := (hS2.intoC (C := h₂.objs.size) nsC hoL2 hn₃ hk₃ (Nat.le_refl _)).perm (mu' := (h₁.objs.size, { cls := .type "list_iterator", data := .fields #[.ref b, .int 0 0] }) :: (acc, lo [] 0) :: (L, oL) :: mux 0 x0) (by
    refine List.Perm.trans (List.Perm.swap _ _ _) ?_
    refine List.Perm.trans (List.Perm.cons _ (List.Perm.swap _ _ _)) ?_
    exact List.Perm.swap _ _ _)
  have loop : ∀ hx tkx, S P g K0 h₂.objs.size nsC (vsC 0 x0) ((h₁.objs.size, { cls := .type "list_iterator", data := .fields #[.ref b, .int 0 0] }) :: (acc, lo [] 0) :: (L, oL) :: mux 0 x0) (Dx 0 x0) hx →
      codeAny (model prog w) A (.compLoop (.ListComp elt [⟨.Name xn px, iter, ifs, 0⟩] scope pos) 0 (.ref h₁.objs.size) (.ref acc) (compEnvC scope cl' h₂.objs.size env)) (compPost (model prog w) A E use Q (.ref acc) h₂.objs.size) (st s hx tkx) := by
    intro hx tkx hSx
    refine codeAny_compLoop_tests (fun q s' => ∃ i x ys h tk o m2, s' = st s h tk ∧ q = its.length - i ∧ i ≤ its.length ∧ ys.length ≤ i ∧ I i x ys ∧ o.cls = .type "list_iterator" ∧ o.data = .fields #[.ref b, .int (i : Int) 0] ∧
        S P g K0 h₂.objs.size nsC (vsC i x) ((h₁.objs.size, o) :: (acc, lo ys m2) :: (L, oL) :: mux i x) (Dx i x) h) ?_ its.length
      ⟨0, x0, [], hx, tkx, _, 0, rfl, rfl, Nat.zero_le _, Nat.le_refl _, hI, rfl, rfl, hSx⟩
    rintro q s' ⟨i, x, ys, h₄, tk₄, o, m2, rfl, rfl, hle, hyl, hIx, hoc, hod, hS₄⟩
    have hit4 : (st s h₄ tk₄).heap.IsListIter h₁.objs.size b i := ⟨o, hS₄.mem (.head _), hoc, hod⟩
    have lst : (st s h₄ tk₄).heap.IsList b its.toArray := isList_lo (hS₄.kn _ _ (hKx i x))
    by_cases hlt : i < its.length
    · refine wpAny_pyNext_list_item (s := st s h₄ tk₄) hit4 lst (x := its.getD i .none) (by rw [List.getElem?_toArray, List.getD_eq_getElem?_getD, List.getElem?_eq_getElem hlt]; rfl) fun h' hit' hsb => ?_
      obtain ⟨o', ho', hc', hd'⟩ := id hit'
      have hS₅ : S P g K0 h₂.objs.size nsC (vsC i x) ((h₁.objs.size, o') :: (acc, lo ys m2) :: (L, oL) :: mux i x) (Dx i x) h' := S.upd (pre := []) hS₄ hsb ho'
      refine wpAny_mono (turn i x ys _ h' tk₄ (h₁.objs.size, o') acc m2 oL hlt hIx hS₅) (fun _ s₂ h₂' => wpAny_mono h₂' (fun ok s₃ h₃' => ?_) fun _ _ e => e.elim) fun _ _ e => e.elim
      cases ok with
      | false =>
        obtain ⟨x', h', tk', rfl, hS', hI'⟩ := h₃'
        exact ⟨its.length - (i + 1), by omega, i + 1, x', ys, h', tk', o', m2, rfl, rfl, hlt, by omega, hI', hc', hd', hS'⟩
      | true =>
      refine wpAny_mono h₃' (fun y s₄ h₄' => ?_) fun _ _ e => e.elim
      obtain ⟨x', h', tk', rfl, hS', hI'⟩ := h₄'
      refine r_app1 hS' (by omega) fun h6 hS6 => ?_
      exact ⟨its.length - (i + 1), by omega, i + 1, x', ys ++ [y], h6, tk', o', m2 + 1, rfl, rfl, hlt, by rw [List.length_append, List.length_singleton]; omega, hI', hc', hd', hS6⟩
    · have e1 : i = its.length := by omega
      subst e1
      refine wpAny_pyNext_list_end (s := st s h₄ tk₄) hh hit4 lst (by rw [List.getElem?_toArray]; exact List.getElem?_eq_none (Nat.le_refl _)) fun h' hx => ?_
      have hx : Heap.ExtBut h₁.objs.size h₄ h' := hx
      have nit := hS₄.nw _ (.head _)
      have nd := hS₄.nd
      rw [List.map_cons, List.nodup_cons] at nd
      have hS₅ := hS₄.drop
      have hS₆ : S P g K0 h₂.objs.size nsC (vsC its.length x) ((acc, lo ys m2) :: (L, oL) :: mux its.length x) (Dx its.length x) h' := by
        refine hS₅.chg ⟨hS₅.fr.ns.extBut hx (Ne.symm nit.2.1), fun c oc q => hx c oc (fun z => by rw [z, nit.2.2] at q; cases q) (hS₅.fr.keep c oc q), hS₅.fr.above⟩ fun p hp => ⟨hx _ _ (fun z => ?_) (hS₅.nw p hp).1, (hS₅.nw p hp).2⟩
        rcases List.mem_append.mp hp with y | y
        · exact nd.1 (List.mem_map.mpr ⟨p, y, z⟩)
        · exact hS₄.sep _ (.head _) p y z.symm
      have hNs := hS₆.fr.ns
      obtain ⟨oC, hoC, hS₇⟩ := hS₆.swap.outC hN hgL
      exact fin x ys acc m2 _ oC h' _ _ hIx hS₇ hNs
  rw [← hv0] at hS3
  subst hacc
  refine codeAny_compStart_list (loop _ _ hS3) (wpAny_pyIter_listiter (i := 0) ⟨_, hS3.mem (.head _), rfl, rfl⟩ (loop _ _ hS3))
end
abbrev co (v : Option Value) (o : Obj) : Prop := o.data = .cell v
section
variable {prog : Program} {w : World} {A : Around} {s : Shared} {h : Heap} {tk : Nat} {P : Params} {g : Heap} {K0 : Addr → Obj → Prop} {L : Addr} {ns : List Str} {vs : List (Option Value)} {mu D : List (Addr × Obj)}
  {E : Value → Shared → Prop} {n : Nat} {env : Env}
theorem e_ld {x : Str} {pos : Pos} {v : Value} {Q : Value → Shared → Prop} (hS : S P g K0 L ns vs mu D h) (hv : lkv ns vs x = some v) (hL : env.locals = L) (hk : env.scope.kind = .function) (hl : env.kindOf x = some .local)
    (hd : (x == ("__debug__" : Str)) = false) (k : Q v (st s h tk)) : wpAny (model prog w) A (eval (.Name x pos) env) Q E (st s h tk) :=
  wpAny_Name (wpAny_loadName_local (s := st s h tk) hk hl (by rw [hL]; exact hS.fr.ns) hv k) hd
theorem e_ldc {x : Str} {pos : Pos} {v : Value} {c : Addr} {o : Obj} {Q : Value → Shared → Prop} (hS : S P g K0 L ns vs mu D h) (hc : env.cells.lookup x = some c) (hm : (c, o) ∈ mu) (hd : o.data = .cell (some v)) (hk : env.scope.kind = .function) (hl : env.kindOf x = some .cell)
    (hb : (x == ("__debug__" : Str)) = false) (k : Q v (st s h tk)) : wpAny (model prog w) A (eval (.Name x pos) env) Q E (st s h tk) :=
  wpAny_Name (wpAny_loadName_cell (s := st s h tk) hk hl hc ⟨o, hS.mem hm, hd⟩ k) hb
theorem e_ldg {x : Str} {pos : Pos} {v : Value} {Q : Value → Shared → Prop} (hS : S P g K0 L ns vs mu D h) (hv : nsIn (KK P) mainGlobals x = some (some v)) (hg : env.globals = mainGlobals) (hk : env.scope.kind = .function) (hl : env.kindOf x = some .globalImplicit)
    (hd : (x == ("__debug__" : Str)) = false) (k : Q v (st s h tk)) : wpAny (model prog w) A (eval (.Name x pos) env) Q E (st s h tk) := by
  obtain ⟨mg, G⟩ := hS.T.mg
  exact Name_function_global hk hl (loadGlobal_global (s := st s h tk) (by rw [hg]; exact G.keeps hS.fr.keep) (mg_of hS.T.X G hv) k) hd
theorem e_ldb {x : Str} {pos : Pos} {v : Value} {Q : Value → Shared → Prop} (hS : S P g K0 L ns vs mu D h) (hv : nsIn (KK P) mainGlobals x = some none) (hb : bootBuiltins x = some v) (hg : env.globals = mainGlobals) (hbu : env.builtins = builtinsNs) (hk : env.scope.kind = .function) (hl : env.kindOf x = some .globalImplicit)
    (hd : (x == ("__debug__" : Str)) = false) (hn : x ≠ ("__name__" : Str)) (k : Q v (st s h tk)) : wpAny (model prog w) A (eval (.Name x pos) env) Q E (st s h tk) := by
  obtain ⟨mg, G⟩ := hS.T.mg
  obtain ⟨mb, B, hB⟩ := hS.T.mb
  exact Name_function_global hk hl (loadGlobal_builtin (s := st s h tk) (by rw [hg]; exact G.keeps hS.fr.keep) (mg_none hS.T.X G hv) (by rw [hbu]; exact B.keeps hS.fr.keep) ((hB x hn).trans hb) k) hd
theorem e_st {x : Str} {v : Value} {Q : Unit → Shared → Prop} (hS : S P g K0 L ns vs mu D h) (hv : hasv ns vs x = true) (hL : env.locals = L) (hk : env.scope.kind = .function) (hl : env.kindOf x = some .local)
    (k : ∀ h', S P g K0 L ns (putv ns vs x v) mu D h' → Q () (st s h' (tk + 1))) : wpAny (model prog w) A (storeName env x v) Q E (st s h tk) := by
  subst hL
  refine wpAny_storeName_local (s := st s h tk) hl hS.fr.ns (fun h' hn hs => k h' ⟨hS.T, ?_, hS.nw.set hs, hS.k0, hS.sep, hS.nd⟩) (by rw [hk]; rfl)
  have := hS.fr.set hn hs
  rw [lkv_put ns vs x v hv]
  exact this
theorem e_stc {pre post : List (Addr × Obj)} {x : Str} {v : Value} {v0 : Option Value} {c : Addr} {o : Obj} {Q : Unit → Shared → Prop} (hS : S P g K0 L ns vs (pre ++ (c, o) :: post) D h) (hc : env.cells.lookup x = some c) (hd : o.data = .cell v0) (hk : env.scope.kind = .function) (hl : env.kindOf x = some .cell)
    (k : ∀ h' o', o'.data = .cell (some v) → S P g K0 L ns vs (pre ++ (c, o') :: post) D h' → Q () (st s h' tk)) : wpAny (model prog w) A (storeName env x v) Q E (st s h tk) := by
  refine wpAny_storeName_cell (s := st s h tk) hk hl hc ⟨o, hS.mem (List.mem_append_right _ (.head _)), hd⟩ fun h' hv hs => ?_
  obtain ⟨o', ho', hd'⟩ := hv
  exact k h' o' hd' (hS.upd hs ho')
end
section
variable {prog : Program} {w : World} {A : Around} {s : Shared} {h : Heap} {tk : Nat} {E : Value → Shared → Prop} {env : Env} {pos : Pos} {Q : Value → Shared → Prop} {e : Expr} {T : String}
theorem r_callTy1 (k : wpAny (model prog w) A (eval e env) (fun v s₁ => wpAny (model prog w) A (call (.type T) [v]) Q E s₁) E (st s h tk))
    (h1 : starEach [e] env = [(false, eval e env)]) : wpAny (model prog w) A (callWith pos (.type T) [] (backTo pos (starEach [e] env)) []) Q E (st s h tk) := by
  have h : wpAny (model prog w) A (spliced (backTo pos (starEach [e] env))) (fun vs s₁ => wpAny (model prog w) A (call (.type T) ([] ++ vs)) Q E s₁) E (st s h tk) :=
    spliced_more (wpAny_mono k (fun _ _ q => spliced_none q) fun _ _ x => x) h1
  exact PyProof.Rows.callWith_type1 h h1 rfl
theorem r_any1 {P : Params} {g : Heap} {K0 : Addr → Obj → Prop} {L : Addr} {ns : List Str} {vs : List (Option Value)} {mu D : List (Addr × Obj)} {acc : Addr} {x : Bool} {m : Nat} (hS : S P g K0 L ns vs mu D h) (hh : A.handled = none) (ho : h.get? acc = some (lo [.bool x] m))
    (k : ∀ h' tk', S P g K0 L ns vs mu D h' → Q (.bool x) (st s h' tk')) : wpAny (model prog w) A (call (.builtin "any") [.ref acc]) Q E (st s h tk) := by
  refine call_any_walk (wpAny_pyIter_list (s := st s h tk) (isList_lo ho) ?_)
  refine ⟨h.objs.size, _, _, _, _, _, fun _ => x, rfl, Walks.list (show A.in1.handled = none from hh) h.objs.size acc (Nat.ne_of_lt (Heap.lt_size ho)) [Value.bool x].toArray, ⟨⟨_, Heap.get?_push_size _ rfl, rfl, rfl⟩, (isList_lo ho).push _⟩, ?_, fun h' tk' hk => ?_⟩
  · intro i v s' Q' E' hP hQ
    cases i with
    | zero =>
      have : v = .bool x := by simpa using hP.symm
      subst this
      exact wpAny_truthy_bool hQ
    | succ i => simp at hP
  · have e : (List.range [Value.bool x].toArray.size).any (fun _ => x) = x := by simp
    rw [e]
    refine k h' tk' (hS.keepAll fun b o q => hk b o (fun z => ?_) (Heap.get?_push_of_some _ q))
    have := Heap.lt_size q
    rw [List.mem_singleton.mp z] at this
    exact Nat.lt_irrefl _ this
theorem t_le {a b : List Nat} {t u : Tok} (k : Q (.bool (!decide (b < a))) (st s h tk)) : wpAny (model prog w) A (compareOp .LtE (.str (tx a) t) (.str (tx b) u)) Q E (st s h tk) := _root_.PySem.P.le_str (by
  have e1 := tx_toList a
  have e2 := tx_toList b
  rw [e1, e2]
  exact k)
end
theorem b_enumerate : bootBuiltins (Str.ofString "enumerate") = some (.type "enumerate") := by rfl
theorem b_any : bootBuiltins (Str.ofString "any") = some (.builtin "any") := by rfl
def fitsL (cs name : List Nat) (place : Nat) : Bool := if place + cs.length > name.length then false else decide ((name.drop place).take cs.length = cs)
local macro_rules | `(tactic| walk_at "m") => `(tactic| first
  | ((with_reducible refine' e_ld ?S ?m1 ?m2 ?m3 ?m4 ?m5 ?_); (case S => assumption); (case m2 => rfl); (case m3 => rfl); (case m4 => rfl); (case m1 => rfl); (case m5 => decide))
  | ((with_reducible refine' e_ldc ?S ?m1 ?m2 ?m6 ?m3 ?m4 ?m5 ?_); (case S => assumption); (case m1 => rfl); (case m3 => rfl); (case m4 => rfl); (case m2 => walk_at "d"); (case m6 => assumption); (case m5 => decide))
  | ((with_reducible refine' e_ldg ?S ?m1 ?m2 ?m3 ?m4 ?m5 ?_); (case S => assumption); (case m2 => rfl); (case m3 => rfl); (case m4 => rfl); (case m5 => decide); (case m1 => rfl))
  | ((with_reducible refine' e_ldb ?S ?m1 b_len ?m2 ?m3 ?m4 ?m5 ?m6 ?m7 ?_); (case S => assumption); (case m2 => rfl); (case m3 => rfl); (case m4 => rfl); (case m5 => rfl); (case m1 => rfl); (case m6 => decide); (case m7 => decide))
  | ((with_reducible refine' e_st ?S ?m1 ?m2 ?m3 ?m4 ?_); (case S => assumption); (case m2 => rfl); (case m3 => rfl); (case m4 => rfl); (case m1 => rfl); intro h hS))
local macro_rules | `(tactic| walk_at "m") => `(tactic| first
  | ((with_reducible refine' e_ldb ?S ?m1 b_enumerate ?m2 ?m3 ?m4 ?m5 ?m6 ?m7 ?_); (case S => assumption); (case m2 => rfl); (case m3 => rfl); (case m4 => rfl); (case m5 => rfl); (case m1 => rfl); (case m6 => decide); (case m7 => decide))
  | ((with_reducible refine' e_ldb ?S ?m1 b_any ?m2 ?m3 ?m4 ?m5 ?m6 ?m7 ?_); (case S => assumption); (case m2 => rfl); (case m3 => rfl); (case m4 => rfl); (case m5 => rfl); (case m1 => rfl); (case m6 => decide); (case m7 => decide))
  | ((with_reducible refine r_callTy1 ?_ ?m1); (case m1 => rfl)))
theorem fits_spec {prog : Program} {w : World} {h : Heap} {DD : List (Addr × Obj)} {us : Addr} {vals : List Value} {m : Nat} {cs name : List Nat} {place : Nat} {t u : Tok} {n : Nat} (T : TopOk w.params h) (hDD : ∀ p ∈ DD, h.get? p.1 = some p.2)
    (hus : (us, lo vals m) ∈ DD) (hU : UnitsAt DD vals cs) (hcs : cs.length ≤ 1000) (hname : name.length ≤ 1000) (hn : n ≤ 690) :
    Pure prog w n 95 [.ref us, .str (tx name) t, .int (place : Int) u] h (fun D v => v = .bool (fitsL cs name place)) := by
  refine enterC (K0 := fun b o => (b, o) ∈ DD) (ns := [Str.ofString "units", Str.ofString "barred", Str.ofString "spans"])
    (vs := [some (.ref us), none, none]) T (fun b o q => hDD _ q) rfl rfl (by show n < 1000; omega) rfl (fun n x hx => ?_) (by decide) (fun L => ?_) (fun L => ?_) ?_
  · have hx : x ∈ [(Str.ofString "units", Value.ref us), (Str.ofString "name", .str (tx name) t), (Str.ofString "place", .int (place : Int) u)] := hx
    simp only [List.mem_cons, List.mem_nil_iff, or_false] at hx
    rcases hx with rfl | rfl | rfl
    · exact .inl (by rfl)
    · exact .inr ⟨by rfl, by rfl⟩
    · exact .inr ⟨by rfl, by rfl⟩
  · show [L + 1 + 1 + 1, L + 1 + 1, L + 1].Nodup
    simp only [List.nodup_cons, List.mem_cons, List.mem_nil_iff, or_false, not_or, not_false_eq_true, List.nodup_nil, and_true]
    omega
  · funext x
    show (if x = Str.ofString "units" then some (.ref us) else none) = lkv _ _ x
    simp only [lkv]
    split
    · rfl
    · split
      · rfl
      · split <;> rfl
  intro A L s h tk cells hO hC hS Q0 hQ0
  obtain ⟨oK, oP, oN, rfl, dK, dP, dN⟩ := CellsAre.three hC
  have dP : oP.data = .cell (some (.int (place : Int) u)) := dP
  have dN : oN.data = .cell (some (.str (tx name) t)) := dN
  have dK : oK.data = .cell none := dK
  have hvl := hU.len
  repeat walk_at "m"
  refine r_lenL (S.kn (by assumption) _ _ (.inl hus)) (by omega) ?_
  intro t5 tk5
  repeat walk_at "m"
  refine @r_if _ _ _ _ (fun hc => ?_) (fun hc => ?_)
  · repeat walk_at "m"
    refine ⟨_, rfl, S.back (by assumption) ?_⟩
    unfold fitsL
    rw [if_pos (by omega)]
  walk_at "m"
  walk_at "m"
  walk_at "m"
  refine r_forE (σ := Option Value × Option Value × Obj × List (Addr × Obj)) (b := us) (its := vals) (m := m) (by assumption) ?_ hO.hh (by intro _; with_unfolding_all rfl)
  intro Qi hQi
  repeat walk_at "m"
  refine r_enum (by assumption) (S.kn (by assumption) _ _ (.inl hus)) ?_
  intro h e it oI hIc hId hS
  refine hQi.le _ _ ⟨_, _, _, _, _, _, _, _, rfl, hS, rfl, hIc, hId, .inl hus, fun _ x => [some (.ref us), x.1, x.2.1], fun _ x => [(L + 1 + 1 + 1, x.2.2.1), (L + 1 + 1, oP), (L + 1, oN)], fun _ x => x.2.2.2,
    fun i x => (∃ v, x.2.2.1.data = .cell v) ∧ (name.drop place).take i = cs.take i, (none, none, oK, []), rfl, rfl, rfl, ⟨⟨_, dK⟩, rfl⟩, fun _ _ => .inl hus, ?_, ?_⟩
  · rintro i ⟨v1, v2, oK', D⟩ h tk p q T2 t6 hi ⟨⟨v0, hK'⟩, hpre⟩ hS Q1 hQ1
    try dsimp only at hS hK' hpre
    refine r_unpack hS (get_D0 hS) hO.hh rfl rfl fun h hS => ?_
    refine assignInOrder_cons (r_asgName ?_)
    refine e_stc (pre := [p, q]) hS (by rfl) hK' (by rfl) (by rfl) fun h oK2 hK2 hS => ?_
    refine assignInOrder_cons ?_
    try dsimp only
    obtain ⟨un, hgv, l1, t1, m1, s1, s2, hu1, hu2, hu3⟩ := hU.get i (by omega)
    rw [hgv]
    refine r_unpack hS (S.kn hS _ _ (.inl hu1)) hO.hh rfl rfl fun h hS => ?_
    refine assignInOrder_cons (r_asgName (e_st hS (by rfl) (by rfl) (by rfl) (by rfl) fun h hS => ?_))
    refine assignInOrder_cons (r_asgName (e_st hS (by rfl) (by rfl) (by rfl) (by rfl) fun h hS => ?_))
    refine assignInOrder_nil ?_
    refine assignInOrder_nil ?_
    repeat walk_at "m"
    have hlt : place + i < name.length := by omega
    refine r_compP (σ := Option Value × Option Value) (b := l1) (its := [.ref t1]) (m := m1) (by assumption) (by simp) rfl (by decide) rfl (by decide) hO.hh ?_ (by intro _; with_unfolding_all rfl)
    intro Qj hQj
    repeat walk_at "m"
    refine ⟨_, _, _, _, _, rfl, by assumption, rfl, .inl hu2, [Str.ofString "first", Str.ofString "last"], fun _ x => [x.1, x.2], fun _ _ => [p, q, (L + 1 + 1 + 1, oK2), (L + 1 + 1, oP), (L + 1, oN)], fun _ _ => (T2, to [.int (i : Int) t6, vals.getD i .none]) :: D,
      fun j _ ys => ys = if j = 0 then [] else [.bool (decide (name.getD (place + i) 0 = cs.getD i 0))], (none, none), rfl, rfl, rfl, rfl, fun _ _ => .inl hu2, ?_, ?_⟩
    · rintro j ⟨w1, w2⟩ ys C h tk pp acc mm oL hj hys hS
      have hj0 : j = 0 := by simp at hj; omega
      subst hj0
      try dsimp only at hS
      show wpAny _ _ (assign _ _ (.ref t1)) _ _ _
      refine r_unpack hS (S.kn hS _ _ (.inl hu3)) hO.hh rfl rfl fun h hS => ?_
      refine assignInOrder_cons (r_asgName (e_st hS (by rfl) (by rfl) (by rfl) (by rfl) fun h hS => ?_))
      refine assignInOrder_cons (r_asgName (e_st hS (by rfl) (by rfl) (by rfl) (by rfl) fun h hS => ?_))
      refine assignInOrder_nil ?_
      have hx0 : name.getD ((place : Int) + (i : Int)).toNat 0 = name.getD (place + i) 0 := by
        have e : ((place : Int) + (i : Int)).toNat = place + i := by omega
        rw [e]
      have lt1 : ∀ a b : Nat, ([a] < [b]) ↔ a < b := by
        intro a b
        constructor
        · intro q
          cases q with
          | rel q => exact q
          | cons q => cases q
        · exact fun q => List.Lex.rel q
      refine Compare_chain ?_ (by with_unfolding_all rfl)
      repeat walk_at "m"
      refine chain_link ?_
      repeat walk_at "m"
      refine t_le ?_
      repeat walk_at "m"
      refine @r_ifn _ _ _ _ (fun hq => ?_) (fun hq => ?_)
      · refine chain_last ?_
        repeat walk_at "m"
        refine t_le ?_
        refine ⟨(_, _), _, _, rfl, by assumption, ?_⟩
        rw [hys, if_pos rfl, List.nil_append]
        rw [lt1] at hq
        show [Value.bool _] = [Value.bool (decide (name.getD (place + i) 0 = cs.getD i 0))]
        congr 2
        rw [Bool.eq_iff_iff]
        simp only [Bool.not_eq_true', decide_eq_false_iff_not, decide_eq_true_eq, lt1]
        omega
      · refine ⟨(_, _), _, _, rfl, by assumption, ?_⟩
        rw [hys, if_pos rfl, List.nil_append]
        rw [lt1] at hq
        show [Value.bool _] = [Value.bool (decide (name.getD (place + i) 0 = cs.getD i 0))]
        congr 2
        rw [Bool.eq_iff_iff]
        simp only [Bool.not_eq_true', decide_eq_false_iff_not, decide_eq_true_eq, lt1]
        omega
    · rintro ⟨w1, w2⟩ ys acc mm h tk hys hS
      have hys : ys = [.bool (decide (name.getD (place + i) 0 = cs.getD i 0))] := hys
      subst hys
      try dsimp only at hS
      repeat walk_at "m"
      refine r_any1 (by assumption) hO.hh (get_mu0 (by assumption)) fun h tk hS => ?_
      have hS := hS.drop
      refine eq_bool ?_
      repeat walk_at "m"
      have hn1 : (name.drop place).take (i + 1) = (name.drop place).take i ++ [name.getD (place + i) 0] := by
        rw [take_snoc (name.drop place) i 0 (by rw [List.length_drop]; omega)]
        congr 2
        rw [List.getD_eq_getElem?_getD, List.getElem?_drop, List.getD_eq_getElem?_getD]
      have hn2 : cs.take (i + 1) = cs.take i ++ [cs.getD i 0] := take_snoc cs i 0 (by omega)
      by_cases hX : name.getD (place + i) 0 = cs.getD i 0
      · rw [if_neg (by rw [decide_eq_true hX]; decide)]
        repeat walk_at "m"
        refine ⟨(_, _, oK2, _), _, _, rfl, by assumption, ⟨_, hK2⟩, ?_⟩
        rw [hn1, hn2, hpre, hX]
      · rw [if_pos (by rw [decide_eq_false hX]; decide)]
        repeat walk_at "m"
        refine ⟨_, rfl, S.back (by assumption) ?_⟩
        unfold fitsL
        rw [if_neg (by omega), decide_eq_false]
        intro e
        have e2 := congrArg (List.take (i + 1)) e
        rw [List.take_take, Nat.min_eq_left (by omega), hn1, hn2, hpre] at e2
        simp at e2
        exact hX (by simpa [List.getD_eq_getElem?_getD] using e2)
  · rintro ⟨v1, v2, oK', D⟩ h tk ⟨_, hpre⟩ hS
    try dsimp only at hS hpre
    repeat walk_at "m"
    refine ⟨_, rfl, S.back (by assumption) ?_⟩
    rw [hvl, List.take_length] at hpre
    unfold fitsL
    rw [if_neg (by omega), decide_eq_true hpre]
def heldL (cs name : List Nat) : Nat → Nat → Option Nat
  | 0, _ => none
  | f + 1, p => if p + cs.length ≤ name.length then (if fitsL cs name p then some (p + cs.length) else heldL cs name f (p + 1)) else none
def stepT (name : List Nat) (ps : List Nat) : TK → List Nat
  | .run => match ps with | [] => [] | p :: _ => List.range' p (name.length + 1 - p)
  | .one c => (ps.filter fun p => fitsL [c] name p).map (· + 1)
  | .held cs => ps.filterMap fun p => heldL cs name (name.length + 1) p
def takesL (tks : List TK) (name : List Nat) : Bool := decide (name.length ∈ tks.foldl (stepT name) [0])
def segsT : List (Option Nat) → List (List Nat)
  | [] => [[]]
  | some a :: r => consHd a (segsT r)
  | none :: r => [] :: segsT r
theorem segs_T : ∀ l, segs l = segsT (toksOf l)
  | [] => rfl
  | [a] => rfl
  | [a, b] => rfl
  | a :: b :: c :: r => by
    rw [segs, toksOf]
    split
    · rw [segsT, segs_T r]
    · rw [segsT, segs_T (b :: c :: r)]
def clean : List (List Nat) → List (List Nat)
  | [] => []
  | [x] => [x]
  | x :: y :: r => if x = [] then clean (y :: r) else x :: clean (y :: r)
theorem clean_ne : ∀ (r : List (List Nat)), r ≠ [] → clean r ≠ []
  | [], h => absurd rfl h
  | [x], _ => by simp [clean]
  | x :: y :: r, _ => by
    rw [clean]
    split
    · exact clean_ne (y :: r) (by simp)
    · simp
theorem runs_T : ∀ (l : List (Option Nat)) (x : List Nat) (r : List (List Nat)), segsT l = x :: r → runs l = (x, clean r)
  | [], x, r, h => by
    simp only [segsT, List.cons.injEq] at h
    obtain ⟨rfl, rfl⟩ := h
    rfl
  | some a :: t, x, r, h => by
    rw [segsT] at h
    cases hs : segsT t with
    | nil =>
      exfalso
      cases t with
      | nil => simp [segsT] at hs
      | cons o t =>
        cases o with
        | none => simp [segsT] at hs
        | some b =>
          rw [segsT] at hs
          cases hq : segsT t <;> rw [hq] at hs <;> simp [consHd] at hs
    | cons y r' =>
      rw [hs] at h
      simp only [consHd, List.cons.injEq] at h
      obtain ⟨rfl, rfl⟩ := h
      rw [runs, runs_T t y r' hs]
  | none :: t, x, r, h => by
    rw [segsT] at h
    simp only [List.cons.injEq] at h
    obtain ⟨rfl, rfl⟩ := h
    cases hs : segsT t with
    | nil =>
      exfalso
      cases t with
      | nil => simp [segsT] at hs
      | cons o t =>
        cases o with
        | none => simp [segsT] at hs
        | some b =>
          rw [segsT] at hs
          cases hq : segsT t <;> rw [hq] at hs <;> simp [consHd] at hs
    | cons y r' =>
      rw [runs, runs_T t y r' hs]
      dsimp only
      cases r' with
      | nil => simp [clean]
      | cons z r' =>
        rw [clean]
        have := clean_ne (z :: r') (by simp)
        by_cases hy : y = []
        · rw [if_pos ⟨hy, this⟩, if_pos hy]
        · rw [if_neg (fun q => hy q.1), if_neg hy]
theorem clean_snoc (q : List Nat) : ∀ ms : List (List Nat), clean (ms ++ [q]) = ms.filter (fun x => decide (x ≠ [])) ++ [q]
  | [] => rfl
  | [x] => by
    show clean [x, q] = _
    rw [clean]
    by_cases h : x = [] <;> simp [h, clean]
  | x :: y :: r => by
    have ih := clean_snoc q (y :: r)
    show clean (x :: y :: (r ++ [q])) = _
    rw [clean]
    have ih : clean (y :: (r ++ [q])) = _ := ih
    rw [ih]
    by_cases h : x = []
    · rw [if_pos h, List.filter_cons_of_neg (a := x) (by simp [h])]
    · rw [if_neg h, List.filter_cons_of_pos (a := x) (by simp [h]), List.cons_append]

def mat (a b : List Nat) (i : Nat) : Prop := (a.drop i).take b.length = b
theorem mat_le {a b : List Nat} {i : Nat} (h : mat a b i) : b = [] ∨ i + b.length ≤ a.length := by
  have := congrArg List.length h
  rw [List.length_take, List.length_drop] at this
  cases b with
  | nil => exact .inl rfl
  | cons x y => simp only [List.length_cons] at this ⊢; right; omega
theorem fits_iff (a b : List Nat) (hi i : Nat) : fits a b hi i = true ↔ i + b.length ≤ hi ∧ mat a b i := by
  unfold fits mat
  simp
theorem find_range {p : Nat → Bool} : ∀ (n lo i : Nat), (List.range' lo n).find? p = some i ↔ lo ≤ i ∧ i < lo + n ∧ p i = true ∧ ∀ j, lo ≤ j → j < i → p j = false
  | 0, lo, i => by
    constructor
    · intro h; simp at h
    · rintro ⟨h1, h2, _⟩; omega
  | n + 1, lo, i => by
    rw [List.range'_succ, List.find?_cons]
    cases hp : p lo with
    | true =>
      constructor
      · intro h
        have : lo = i := by simpa using h
        subst this
        exact ⟨Nat.le_refl _, by omega, hp, fun j h1 h2 => by omega⟩
      · rintro ⟨h1, h2, h3, h4⟩
        by_cases q : lo = i
        · simp [q]
        · have := h4 lo (Nat.le_refl _) (by omega)
          rw [hp] at this; cases this
    | false =>
      dsimp only
      rw [find_range n (lo + 1) i]
      constructor
      · rintro ⟨h1, h2, h3, h4⟩
        refine ⟨by omega, by omega, h3, fun j hj1 hj2 => ?_⟩
        by_cases q : j = lo
        · rw [q]; exact hp
        · exact h4 j (by omega) hj2
      · rintro ⟨h1, h2, h3, h4⟩
        have : lo ≠ i := fun q => by rw [← q, hp] at h3; cases h3
        exact ⟨by omega, by omega, h3, fun j hj1 hj2 => h4 j (by omega) hj2⟩
theorem findL_some {a b : List Nat} {lo hi i : Nat} : findL a b lo hi = some i ↔ lo ≤ i ∧ i + b.length ≤ hi ∧ mat a b i ∧ ∀ j, lo ≤ j → j < i → ¬ mat a b j := by
  unfold findL
  rw [find_range]
  constructor
  · rintro ⟨h1, h2, h3, h4⟩
    rw [fits_iff] at h3
    refine ⟨h1, h3.1, h3.2, fun j hj1 hj2 q => ?_⟩
    have := h4 j hj1 hj2
    rw [(fits_iff a b hi j).mpr ⟨by omega, q⟩] at this
    cases this
  · rintro ⟨h1, h2, h3, h4⟩
    refine ⟨h1, by omega, (fits_iff a b hi i).mpr ⟨h2, h3⟩, fun j hj1 hj2 => ?_⟩
    cases q : fits a b hi j with
    | false => rfl
    | true => exact absurd ((fits_iff a b hi j).mp q).2 (h4 j hj1 hj2)
theorem findL_none {a b : List Nat} {lo hi : Nat} (h : findL a b lo hi = none) {i : Nat} (h1 : lo ≤ i) (h2 : i + b.length ≤ hi) : ¬ mat a b i := by
  unfold findL at h
  intro q
  have := List.find?_eq_none.mp h i (List.mem_range'_1.mpr ⟨h1, by omega⟩)
  exact this ((fits_iff a b hi i).mpr ⟨h2, q⟩)
theorem findL_nil {a : List Nat} {lo hi : Nat} (h : lo ≤ hi) : findL a [] lo hi = some lo :=
  findL_some.mpr ⟨Nat.le_refl _, by simpa using h, by simp [mat], fun j h1 h2 => by omega⟩

def gre (name : List Nat) : List (List Nat) → Nat → Option Nat
  | [], p => some p
  | w :: r, p => match findL name w p name.length with
    | none => none
    | some i => gre name r (i + w.length)
theorem gre_le {name : List Nat} : ∀ {ms : List (List Nat)} {p q : Nat}, gre name ms p = some q → p ≤ q
  | [], p, q, h => by simp [gre] at h; omega
  | w :: r, p, q, h => by
    rw [gre] at h
    cases hf : findL name w p name.length with
    | none => rw [hf] at h; cases h
    | some i =>
      rw [hf] at h
      have h1 := (findL_some.mp hf).1
      have h2 := gre_le h
      omega
theorem gre_len {name : List Nat} : ∀ {ms : List (List Nat)} {p q : Nat}, p ≤ name.length → gre name ms p = some q → q ≤ name.length
  | [], p, q, hp, h => by simp [gre] at h; omega
  | w :: r, p, q, hp, h => by
    rw [gre] at h
    cases hf : findL name w p name.length with
    | none => rw [hf] at h; cases h
    | some i =>
      rw [hf] at h
      have h1 := (findL_some.mp hf).2.1
      exact gre_len h1 h
theorem scan_gre {name : List Nat} {ep : Nat} (he : ep ≤ name.length) : ∀ (ms : List (List Nat)) (sp : Nat), sp ≤ ep → (scanL name ep ms sp = true ↔ ∃ q, gre name ms sp = some q ∧ q ≤ ep)
  | [], sp, h => by simp [scanL, gre, h]
  | w :: r, sp, h => by
    rw [scanL, gre]
    cases hf : findL name w sp ep with
    | some i =>
      obtain ⟨h1, h2, h3, h4⟩ := findL_some.mp hf
      have : findL name w sp name.length = some i := findL_some.mpr ⟨h1, by omega, h3, h4⟩
      rw [this]
      exact scan_gre he r _ h2
    | none =>
      dsimp only
      constructor
      · intro q; cases q
      · rintro ⟨q, hq, hle⟩
        cases hg : findL name w sp name.length with
        | none => rw [hg] at hq; cases hq
        | some i =>
          rw [hg] at hq
          obtain ⟨h1, h2, h3, h4⟩ := findL_some.mp hg
          have h5 := gre_le hq
          exact absurd h3 (findL_none hf h1 (by omega))
theorem scan_clean {name : List Nat} {ep : Nat} : ∀ (ms : List (List Nat)) (sp : Nat), sp ≤ ep → scanL name ep ms sp = scanL name ep (ms.filter fun x => decide (x ≠ [])) sp
  | [], sp, _ => rfl
  | w :: r, sp, h => by
    by_cases hw : w = []
    · subst hw
      rw [List.filter_cons_of_neg (by simp), scanL, findL_nil h]
      exact scan_clean r sp h
    · rw [List.filter_cons_of_pos (by simp [hw]), scanL, scanL]
      cases hf : findL name w sp ep with
      | none => rfl
      | some i => exact scan_clean r _ (findL_some.mp hf).2.1

theorem fitsL_iff (cs name : List Nat) (p : Nat) : fitsL cs name p = true ↔ p + cs.length ≤ name.length ∧ mat name cs p := by
  unfold fitsL mat
  split
  · simp; omega
  · simp; omega
theorem heldL_find (cs name : List Nat) : ∀ (f p : Nat), name.length + 1 - p ≤ f → heldL cs name f p = (findL name cs p name.length).map (· + cs.length)
  | 0, p, h => by
    unfold findL
    rw [show name.length + 1 - p = 0 by omega]
    rfl
  | f + 1, p, h => by
    rw [heldL]
    by_cases hp : p + cs.length ≤ name.length
    · rw [if_pos hp]
      by_cases hm : mat name cs p
      · rw [if_pos ((fitsL_iff cs name p).mpr ⟨hp, hm⟩)]
        rw [findL_some.mpr ⟨Nat.le_refl _, hp, hm, fun j h1 h2 => by omega⟩]
        rfl
      · rw [if_neg (fun q => hm ((fitsL_iff cs name p).mp q).2), heldL_find cs name f (p + 1) (by omega)]
        congr 1
        unfold findL
        rw [show name.length + 1 - p = (name.length + 1 - (p + 1)) + 1 by omega, List.range'_succ, List.find?_cons]
        have : fits name cs name.length p = false := by
          cases q : fits name cs name.length p with
          | false => rfl
          | true => exact absurd ((fits_iff _ _ _ _).mp q).2 hm
        rw [this]
    · rw [if_neg hp]
      cases hf : findL name cs p name.length with
      | none => rfl
      | some i =>
        have := findL_some.mp hf
        omega
theorem mat_cons {name r : List Nat} {c p : Nat} : mat name (c :: r) p ↔ mat name [c] p ∧ mat name r (p + 1) := by
  unfold mat
  rw [← List.drop_drop]
  cases h : name.drop p with
  | nil => cases r <;> simp
  | cons x y => simp
theorem step_nil (name : List Nat) : ∀ tks : List TK, tks.foldl (stepT name) [] = []
  | [] => rfl
  | t :: r => by
    rw [List.foldl_cons]
    have : stepT name [] t = [] := by cases t <;> rfl
    rw [this]
    exact step_nil name r
theorem ones_one (name : List Nat) : ∀ (r : List Nat) (p : Nat), (mat name r p → (r.map TK.one).foldl (stepT name) [p] = [p + r.length]) ∧ (¬ mat name r p → (r.map TK.one).foldl (stepT name) [p] = [])
  | [], p => ⟨fun _ => rfl, fun h => absurd (by simp [mat]) h⟩
  | c :: r, p => by
    have ih := ones_one name r (p + 1)
    rw [mat_cons, List.map_cons, List.foldl_cons]
    have e : stepT name [p] (.one c) = if fitsL [c] name p = true then [p + 1] else [] := by
      unfold stepT
      cases q : fitsL [c] name p <;> simp [q]
    rw [e]
    by_cases hm : mat name [c] p
    · have hl : p + [c].length ≤ name.length := by rcases mat_le hm with h | h; cases h; exact h
      rw [if_pos ((fitsL_iff _ _ _).mpr ⟨hl, hm⟩)]
      refine ⟨fun h => ?_, fun h => ih.2 fun q => h ⟨hm, q⟩⟩
      rw [ih.1 h.2, List.length_cons]
      congr 1; omega
    · rw [if_neg (fun q => hm ((fitsL_iff _ _ _).mp q).2), step_nil]
      exact ⟨fun h => absurd h.1 hm, fun _ => rfl⟩
theorem ones_mem (name : List Nat) : ∀ (r ps : List Nat) (q : Nat), q ∈ (r.map TK.one).foldl (stepT name) ps ↔ ∃ p ∈ ps, mat name r p ∧ q = p + r.length
  | [], ps, q => by simp [mat]
  | c :: r, ps, q => by
    rw [List.map_cons, List.foldl_cons, ones_mem name r]
    constructor
    · rintro ⟨p, hp, hm, rfl⟩
      unfold stepT at hp
      simp only [List.mem_map, List.mem_filter] at hp
      obtain ⟨p', ⟨h1, h2⟩, rfl⟩ := hp
      exact ⟨p', h1, mat_cons.mpr ⟨((fitsL_iff _ _ _).mp h2).2, hm⟩, by rw [List.length_cons]; omega⟩
    · rintro ⟨p, hp, hm, rfl⟩
      obtain ⟨h1, h2⟩ := mat_cons.mp hm
      have hl : p + [c].length ≤ name.length := by rcases mat_le h1 with h | h; cases h; exact h
      refine ⟨p + 1, ?_, h2, by rw [List.length_cons]; omega⟩
      unfold stepT
      simp only [List.mem_map, List.mem_filter]
      exact ⟨p, ⟨hp, (fitsL_iff _ _ _).mpr ⟨hl, h1⟩⟩, rfl⟩
theorem helds (name : List Nat) : ∀ (ms : List (List Nat)) (p : Nat), (ms.map TK.held).foldl (stepT name) [p] = match gre name ms p with | none => [] | some q => [q]
  | [], p => rfl
  | w :: r, p => by
    rw [List.map_cons, List.foldl_cons, gre]
    have e : stepT name [p] (.held w) = match findL name w p name.length with | none => [] | some i => [i + w.length] := by
      unfold stepT
      dsimp only
      rw [List.filterMap_cons, heldL_find w name _ _ (by omega)]
      cases findL name w p name.length <;> rfl
    rw [e]
    cases findL name w p name.length with
    | none => exact step_nil name _
    | some i => exact helds name r (i + w.length)
theorem tkl_snoc (q : List Nat) : ∀ ms : List (List Nat), tkl (ms ++ [q]) = ms.map TK.held ++ TK.run :: q.map TK.one
  | [] => rfl
  | [x] => rfl
  | x :: y :: r => by
    have ih := tkl_snoc q (y :: r)
    show tkl (x :: y :: (r ++ [q])) = _
    rw [tkl]
    · exact congrArg (TK.held x :: ·) ih
    · simp
theorem takes_star (r0 q name : List Nat) (ms : List (List Nat)) :
    takesL (toks r0 (ms ++ [q])) name = true ↔ mat name r0 0 ∧ ∃ p, gre name ms r0.length = some p ∧ p + q.length ≤ name.length ∧ mat name q (name.length - q.length) := by
  unfold takesL toks
  rw [decide_eq_true_iff, tkl_snoc, List.foldl_append, List.foldl_append, List.foldl_cons]
  have h1 := ones_one name r0 0
  by_cases hm : mat name r0 0
  · rw [h1.1 hm, Nat.zero_add, helds]
    cases hg : gre name ms r0.length with
    | none =>
      have : stepT name [] .run = [] := rfl
      dsimp only
      rw [this, step_nil]
      simp
    | some p =>
      dsimp only
      rw [ones_mem]
      have : stepT name [p] .run = List.range' p (name.length + 1 - p) := rfl
      rw [this]
      constructor
      · rintro ⟨p', hp, hm', e⟩
        have := List.mem_range'_1.mp hp
        refine ⟨hm, p, rfl, by omega, ?_⟩
        rw [show name.length - q.length = p' by omega]
        exact hm'
      · rintro ⟨_, p', hp, hl, hm'⟩
        have : p = p' := by simpa using hp
        subst this
        exact ⟨name.length - q.length, List.mem_range'_1.mpr ⟨by omega, by omega⟩, hm', by omega⟩
  · rw [h1.2 hm, step_nil]
    have : stepT name [] .run = [] := rfl
    rw [this, step_nil]
    simp [hm]
theorem takes_plain (r0 name : List Nat) : takesL (toks r0 []) name = decide (r0 = name) := by
  have h1 := ones_one name r0 0
  have e : toks r0 [] = r0.map TK.one := by simp [toks, tkl]
  unfold takesL
  rw [e]
  by_cases hm : mat name r0 0
  · rw [h1.1 hm]
    rw [Bool.eq_iff_iff, decide_eq_true_iff, decide_eq_true_iff]
    unfold mat at hm
    rw [List.drop_zero] at hm
    constructor
    · intro h
      have h : name.length = r0.length := by simpa using h
      rw [← hm, List.take_of_length_le (by omega)]
    · rintro rfl; simp
  · rw [h1.2 hm, Bool.eq_iff_iff, decide_eq_true_iff, decide_eq_true_iff]
    constructor
    · intro h; cases h
    · rintro rfl
      exact absurd (by simp [mat]) hm
theorem segs_plain : ∀ l : List Nat, inB dots l = false → segs l = [l]
  | [], _ => rfl
  | a :: r, h => by
    have h1 : (a :: r).take 3 ≠ dots := by
      intro q
      have : inB dots (a :: r) = true := (inB_iff _ _).mpr ⟨0, by
        have := congrArg List.length q
        simp only [List.length_take, List.length_cons, List.length_nil] at this ⊢
        omega, q⟩
      rw [h] at this; cases this
    have h2 : inB dots r = false := by
      cases q : inB dots r with
      | false => rfl
      | true =>
        obtain ⟨i, hi1, hi2⟩ := (inB_iff _ _).mp q
        have : inB dots (a :: r) = true := (inB_iff _ _).mpr ⟨i + 1, by simp only [List.length_cons] at hi1 ⊢; omega, by simpa using hi2⟩
        rw [h] at this; cases this
    rw [segs_other h1, segs_plain r h2]
    rfl
theorem filter_ne_cons_nil (x : List Nat) (r : List (List Nat)) : (if x = [] then x :: r else r).filter (fun x => decide (x ≠ [])) = r.filter (fun x => decide (x ≠ [])) := by
  split
  · rename_i h; subst h; rw [List.filter_cons_of_neg (by simp)]
  · rfl
theorem ell_star (r0 q name : List Nat) (ms : List (List Nat)) :
    ellS (r0 :: ms ++ [q]) name = true ↔ mat name r0 0 ∧ ∃ p, gre name (ms.filter fun x => decide (x ≠ [])) r0.length = some p ∧ p + q.length ≤ name.length ∧ mat name q (name.length - q.length) := by
  have hA : wsA (r0 :: ms ++ [q]) = (if r0 = [] then r0 :: ms else ms) ++ [q] := by
    unfold wsA
    show (if r0 = [] then r0 :: ms ++ [q] else ms ++ [q]) = _
    split <;> rfl
  have hL : (wsA (r0 :: ms ++ [q])).getLastD [] = q := by rw [hA]; simp
  have hB : (wsB (r0 :: ms ++ [q])).filter (fun x => decide (x ≠ [])) = ms.filter fun x => decide (x ≠ []) := by
    unfold wsB
    rw [hL, hA]
    by_cases hq : q = []
    · subst hq
      rw [if_pos rfl, List.filter_append, filter_ne_cons_nil]
      simp
    · rw [if_neg hq, List.dropLast_concat, filter_ne_cons_nil]
  have hH : (r0 :: ms ++ [q]).headD [] = r0 := rfl
  unfold ellS
  rw [hL, hH]
  have hp : r0.isPrefixOf name = true ↔ mat name r0 0 := by
    rw [List.isPrefixOf_iff_prefix, List.prefix_iff_eq_take]
    unfold mat
    rw [List.drop_zero]
    exact eq_comm
  have hs : q.isSuffixOf name = true ↔ q.length ≤ name.length ∧ mat name q (name.length - q.length) := by
    rw [List.isSuffixOf_iff_suffix, List.suffix_iff_eq_drop]
    unfold mat
    constructor
    · intro h
      have hl := congrArg List.length h
      rw [List.length_drop] at hl
      refine ⟨by omega, ?_⟩
      rw [← h, List.take_length]
    · rintro ⟨hl, h⟩
      rw [List.take_of_length_le (by rw [List.length_drop]; omega)] at h
      exact h.symm
  by_cases h1 : r0.isPrefixOf name = true
  · rw [if_neg (by rw [h1]; decide)]
    by_cases h2 : q.isSuffixOf name = true
    · rw [if_neg (by rw [h2]; decide)]
      obtain ⟨h3, h4⟩ := hs.mp h2
      by_cases h5 : name.length - q.length < r0.length
      · rw [if_pos h5]
        constructor
        · intro h; cases h
        · rintro ⟨_, p, hg, hl, _⟩
          have := gre_le hg
          omega
      · rw [if_neg h5, scan_clean _ _ (by omega), hB, scan_gre (by omega) _ _ (by omega)]
        constructor
        · rintro ⟨p, hg, hl⟩
          exact ⟨hp.mp h1, p, hg, by omega, h4⟩
        · rintro ⟨_, p, hg, hl, _⟩
          exact ⟨p, hg, by omega⟩
    · rw [if_pos (Bool.eq_false_iff.mpr h2)]
      constructor
      · intro h; cases h
      · rintro ⟨_, p, hg, hl, hm⟩
        exact absurd (hs.mpr ⟨by omega, hm⟩) h2
  · rw [if_pos (Bool.eq_false_iff.mpr h1)]
    constructor
    · intro h; cases h
    · rintro ⟨hm, _⟩
      exact absurd (hp.mpr hm) h1
theorem plain_law (want text : List Nat) : ellL want text = takesL (toks (runs (toksOf want)).1 (runs (toksOf want)).2) text := by
  unfold ellL
  by_cases hb : inB dots want = false
  · rw [if_pos hb]
    have hs := segs_plain want hb
    rw [segs_T] at hs
    rw [runs_T _ _ _ hs]
    exact (takes_plain want text).symm
  · rw [if_neg hb]
    have hl := segs_len want (by simpa using hb)
    cases hs : segs want with
    | nil => exact absurd hs (segs_ne _)
    | cons r0 rs =>
      rw [hs] at hl
      have hrs : rs ≠ [] := by
        intro e; rw [e] at hl; simp at hl
      obtain ⟨ms, q, rfl⟩ : ∃ ms q, rs = ms ++ [q] := ⟨rs.dropLast, rs.getLast hrs, (List.dropLast_concat_getLast hrs).symm⟩
      have hs' := hs
      rw [segs_T] at hs'
      rw [runs_T _ _ _ hs', clean_snoc, Bool.eq_iff_iff]
      dsimp only
      rw [takes_star]
      exact ell_star r0 q text ms
section
variable {prog : Program} {w : World} {A : Around} {s : Shared} {h : Heap} {tk : Nat} {P : Params} {g : Heap} {K0 : Addr → Obj → Prop} {L : Addr} {ns : List Str} {vs : List (Option Value)} {mu D : List (Addr × Obj)} {E : Value → Shared → Prop} {env : Env}
theorem e_ldn {x : Str} {v : Value} {Q : Value → Shared → Prop} (hS : S P g K0 L ns vs mu D h) (hv : lkv ns vs x = some v) (hL : env.locals = L) (hk : env.scope.kind = .function) (hl : env.kindOf x = some .local)
    (k : Q v (st s h tk)) : wpAny (model prog w) A (loadName env x) Q E (st s h tk) := wpAny_loadName_local (s := st s h tk) hk hl (by rw [hL]; exact hS.fr.ns) hv k
end
def iv (l : List (Nat × Tok)) : List Value := l.map fun p => .int (p.1 : Int) p.2
section
variable {prog : Program} {w : World} {A : Around} {s : Shared} {h : Heap} {tk : Nat} {P : Params} {g : Heap} {K0 : Addr → Obj → Prop} {L : Addr} {ns : List Str} {vs : List (Option Value)} {mu D : List (Addr × Obj)} {E : Value → Shared → Prop} {Q : Value → Shared → Prop}
theorem r_range2 {a b : Int} {t u : Tok} (hS : S P g K0 L ns vs mu D h) (k : ∀ r t1 h' tk', S P g K0 L ns vs mu ((r, { cls := .type "range", data := .fields #[.int a t, .int b u, .int 1 t1] }) :: D) h' → Q (.ref r) (st s h' tk')) :
    wpAny (model prog w) A (call (.type "range") [.int a t, .int b u]) Q E (st s h tk) := call_range_2 (s := st s h tk) (k _ _ _ _ (hS.pushD _ rfl))
theorem r_listRange {a b : Nat} {r : Addr} {t u v : Tok} (hS : S P g K0 L ns vs mu D h) (hh : A.handled = none) (hr : h.get? r = some { cls := .type "range", data := .fields #[.int (a : Int) t, .int (b : Int) u, .int 1 v] }) (hb : b ≤ 100000) (ha : a ≤ 100000)
    (k : ∀ acc l m h' tk', l.map (·.1) = List.range' a (b - a) → S P g K0 L ns vs ((acc, lo (iv l) m) :: mu) D h' → Q (.ref acc) (st s h' tk')) :
    wpAny (model prog w) A (call (.type "list") [.ref r]) Q E (st s h tk) := by
  have h24 : (2 : Nat) ^ 24 = 16777216 := by decide
  refine call_list_range (s := st s h tk) hh hr ?_ (n := b - a) (by rw [rangeSize_nat]; omega) (by omega) fun h' tk' acc' c' hk hS' hacc => ?_
  · have : (2 : Int) ^ 62 = 4611686018427387904 := by decide
    exact small_one (by omega) (by omega) (by omega) (by omega)
  · obtain ⟨hsz, hit⟩ := hacc
    have key : ∀ (l : List Value) (a n : Nat), l.length = n → (∀ (j : Nat) (v : Value), l[j]? = some v → ∃ t, v = Value.int ((a : Int) + (j : Int) * 1) t) → ∃ l' : List (Nat × Tok), l = iv l' ∧ l'.map (·.1) = List.range' a n := by
      intro l
      induction l with
      | nil => intro a n hn _; subst hn; exact ⟨[], rfl, rfl⟩
      | cons x r ih =>
        intro a n hn hx
        obtain ⟨t0, rfl⟩ := hx 0 x rfl
        obtain ⟨l', e1, e2⟩ := ih (a + 1) r.length rfl fun j v hj => by
          obtain ⟨t1, e⟩ := hx (j + 1) v (by simpa using hj)
          refine ⟨t1, e.trans ?_⟩
          congr 1
          push_cast
          omega
        refine ⟨(a, t0) :: l', ?_, ?_⟩
        · rw [e1]
          show Value.int ((a : Int) + 0 * 1) t0 :: iv l' = Value.int (a : Int) t0 :: iv l'
          simp
        · rw [← hn, List.map_cons, e2, List.length_cons, List.range'_succ]
    obtain ⟨l', e1, e2⟩ := key acc'.toList a (b - a) (by rw [Array.length_toList]; exact hsz) fun j v hj => hit j v (by rw [← Array.getElem?_toList]; exact hj)
    have e3 : acc' = (iv l').toArray := by rw [← e1]
    subst e3
    have hS1 : S P g K0 L ns vs mu D h' := hS.keepAll hk
    exact k _ l' c' h' tk' e2 (hS1.addM hS' hS.fr.ns.lt hS.lt)
end
section
variable {prog : Program} {w : World} {A : Around} {s : Shared} {h : Heap} {tk : Nat} {E : Value → Shared → Prop} {env : Env} {pos : Pos} {Q : Value → Shared → Prop} {e1 e2 : Expr} {T : String}
theorem r_callTy2 (k : wpAny (model prog w) A (eval e1 env) (fun v1 s₁ => wpAny (model prog w) A (eval e2 env) (fun v2 s₂ => wpAny (model prog w) A (call (.type T) [v1, v2]) Q E s₂) E s₁) E (st s h tk))
    (h1 : starEach [e1, e2] env = (false, eval e1 env) :: starEach [e2] env) (h2 : starEach [e2] env = [(false, eval e2 env)]) (h3 : ((backTo pos (starEach [e2] env)).any fun x => x.1) = false) :
    wpAny (model prog w) A (callWith pos (.type T) [] (backTo pos (starEach [e1, e2] env)) []) Q E (st s h tk) :=
  PyProof.Rows.callWith_type1 (spliced_more (wpAny_mono k (fun _ _ q => spliced_more (wpAny_mono q (fun _ _ q => spliced_none q) fun _ _ x => x) h2) fun _ _ x => x) h1) h1 h3
end
theorem b_list : bootBuiltins (Str.ofString "list") = some (.type "list") := by rfl
theorem b_range : bootBuiltins (Str.ofString "range") = some (.type "range") := by rfl
local macro_rules | `(tactic| walk_at "m") => `(tactic| first
  | ((with_reducible refine' e_ldb ?S ?m1 b_list ?m2 ?m3 ?m4 ?m5 ?m6 ?m7 ?_); (case S => assumption); (case m2 => rfl); (case m3 => rfl); (case m4 => rfl); (case m5 => rfl); (case m1 => rfl); (case m6 => decide); (case m7 => decide))
  | ((with_reducible refine' e_ldb ?S ?m1 b_range ?m2 ?m3 ?m4 ?m5 ?m6 ?m7 ?_); (case S => assumption); (case m2 => rfl); (case m3 => rfl); (case m4 => rfl); (case m5 => rfl); (case m1 => rfl); (case m6 => decide); (case m7 => decide))
  | ((with_reducible refine r_callTy2 ?_ ?m1 ?m2 ?m3); (case m1 => rfl); (case m2 => rfl); (case m3 => rfl))
  | ((with_reducible refine' e_ldn ?S ?m1 ?m2 ?m3 ?m4 ?_); (case S => assumption); (case m2 => rfl); (case m3 => rfl); (case m4 => rfl); (case m1 => rfl))
  | with_reducible refine le_int ?_)
section
variable {prog : Program} {w : World} {A : Around} {s : Shared} {h : Heap} {tk : Nat} {P : Params} {g : Heap} {K0 : Addr → Obj → Prop} {L : Addr} {ns : List Str} {vs : List (Option Value)} {mu D : List (Addr × Obj)} {E : Value → Shared → Prop} {env : Env}
theorem r_asgC {elt iter : Expr} {xn y : Str} {px py : Pos} {ifs : List Expr} {scope : Scope} {pos spos : Pos} {Q : Flow → Shared → Prop}
    (hsw : swapsWith (.ListComp elt [⟨.Name xn px, iter, ifs, 0⟩] scope pos) (some (.Name y py)) spos.line env = pure true)
    (k : wpAny (model prog w) A (comprehension (.ListComp elt [⟨.Name xn px, iter, ifs, 0⟩] scope pos) scope env (firstIterPos [⟨.Name xn px, iter, ifs, 0⟩] pos) (newList []) false (eval iter env) (some (assign (.Name y py) env))) (fun _ s' => Q .next s') E (st s h tk)) :
    wpAny (model prog w) A (exec (.Assign [.Name y py] (.ListComp elt [⟨.Name xn px, iter, ifs, 0⟩] scope pos) spos) env) Q E (st s h tk) := by
  rw [exec_Assign_Name_used _ _ _ _ hsw]
  refine wpAny_bind (wpAny_standAt (wpAny_bind ?_))
  show wpAny _ A (do let _ ← comprehension (.ListComp elt [⟨.Name xn px, iter, ifs, 0⟩] scope pos) scope env _ (newList []) false (eval iter env) (some (assign (.Name y py) env))) _ _ _
  exact wpAny_bind (wpAny_mono k (fun _ s' hq => wpAny_pure (wpAny_pure hq)) fun _ _ e => e)
theorem r_useC {y : Str} {py : Pos} {C acc : Addr} {oC : Obj} {Q : Value → Shared → Prop} {mC : Str → Option Value} (hS : S P g K0 L ns vs ((C, oC) :: mu) D h) (hN : h.Ns C mC) (hv : hasv ns vs y = true) (hL : env.locals = L) (hk : env.scope.kind = .function) (hl : env.kindOf y = some .local)
    (k : ∀ h' tk', S P g K0 L ns (putv ns vs y (.ref acc)) mu D h' → Q .none (st s h' tk')) : compPost (model prog w) A E (some (assign (.Name y py) env)) Q (.ref acc) C (.ok .next) (st s h tk) := by
  show wpAny _ _ (assign (.Name y py) env (.ref acc)) _ _ _
  refine r_asgName (e_st hS hv hL hk hl fun h' hS' => ?_)
  obtain ⟨o, es, ep, e1, r⟩ := hN
  have e2 := hS.mem (.head _)
  rw [e1] at e2
  have e3 : oC = o := (Option.some.inj e2).symm
  subst e3
  exact ⟨mC, ⟨oC, es, ep, hS'.mem (.head _), r⟩, fun h'' hs => k h'' _ (hS'.dropBut hs)⟩
end
theorem iv_getD {l : List (Nat × Tok)} {i : Nat} (hi : i < l.length) : (iv l).getD i .none = .int ((l.getD i (0, 0)).1 : Int) (l.getD i (0, 0)).2 := by
  unfold iv
  rw [List.getD_eq_getElem?_getD, List.getElem?_map, List.getD_eq_getElem?_getD, List.getElem?_eq_getElem hi]
  rfl
theorem iv_snoc (l : List (Nat × Tok)) (q : Nat × Tok) : iv (l ++ [q]) = iv l ++ [.int (q.1 : Int) q.2] := by simp [iv]
theorem iv_length (l : List (Nat × Tok)) : (iv l).length = l.length := by simp [iv]
theorem iv_ints : ∀ l : List (Nat × Tok), IntsAre (iv l) (l.map fun p => (p.1 : Int))
  | [] => .nil
  | p :: r => .cons _ _ (iv_ints r)
structure PA where
  pb : Addr
  ps : List (Nat × Tok)
  m : Nat
  kd : Option Value
  af : Option Value
  pl : Option Value
  oU : Obj
  D : List (Addr × Obj)
structure HA where
  af : Addr
  out : List (Nat × Tok)
  m : Nat
  pl : Option Value
  D : List (Addr × Obj)
theorem takes_spec {prog : Program} {w : World} {h : Heap} {DD : List (Addr × Obj)} {ta : Addr} {vals : List Value} {m : Nat} {tks : List TK} {name : List Nat} {t : Tok} {n : Nat} (T : TopOk w.params h) (hDD : ∀ p ∈ DD, h.get? p.1 = some p.2)
    (hta : (ta, lo vals m) ∈ DD) (hU : ToksAt DD vals tks) (hcs : tks.length ≤ 1000) (hun : ∀ i, (uns (tks.getD i .run)).length ≤ 1000) (hname : name.length ≤ 900) (hn : n ≤ 680) :
    Pure prog w n 100 [.ref ta, .str (tx name) t] h (fun D v => v = .bool (takesL tks name)) := by
  refine enterC (K0 := fun b o => (b, o) ∈ DD) (ns := [Str.ofString "tokens", Str.ofString "places", Str.ofString "kind", Str.ofString "after", Str.ofString "place"])
    (vs := [some (.ref ta), none, none, none, none]) T (fun b o q => hDD _ q) rfl rfl (by show n < 1000; omega) rfl (fun n x hx => ?_) (by decide) (fun L => ?_) (fun L => ?_) ?_
  · have hx : x ∈ [(Str.ofString "tokens", Value.ref ta), (Str.ofString "name", .str (tx name) t)] := hx
    simp only [List.mem_cons, List.mem_nil_iff, or_false] at hx
    rcases hx with rfl | rfl
    · exact .inl (by rfl)
    · exact .inr ⟨by rfl, by rfl⟩
  · show [L + 1 + 1, L + 1].Nodup
    simp
  · funext x
    show (if x = Str.ofString "tokens" then some (.ref ta) else none) = lkv _ _ x
    simp only [lkv]
    repeat (first | rfl | split)
  intro A L s h tk cells hO hC hS Q0 hQ0
  obtain ⟨oU, oN, rfl, dU, dN⟩ := CellsAre.two hC
  have dN : oN.data = .cell (some (.str (tx name) t)) := dN
  have dU : oU.data = .cell none := dU
  have hvl := hU.len
  walk_at "m"
  walk_at "m"
  walk_at "m"
  walk_at "m"
  walk_at "m"
  walk_at "m"
  have hS := S.freeze (by assumption)
  walk_at "m"
  walk_at "m"
  walk_at "m"
  refine r_forX (σ := PA) (by assumption) ?_ hO.hh (by intro _; with_unfolding_all rfl)
  intro Qi hQi
  repeat walk_at "m"
  refine ⟨ta, vals, m, _, _, _, _, _, rfl, by assumption, rfl, .inl hta, fun _ x => [some (.ref ta), some (.ref x.pb), x.kd, x.af, x.pl], fun _ x => [(L + 1 + 1, x.oU), (L + 1, oN)], fun _ x => x.D,
    fun i x => (∃ v, x.oU.data = .cell v) ∧ (x.pb, lo (iv x.ps) x.m) ∈ x.D ∧ x.ps.map (·.1) = (tks.take i).foldl (stepT name) [0] ∧ x.ps.length ≤ 1000 ∧ ∀ p ∈ x.ps, p.1 ≤ name.length, ⟨_, [(0, _)], _, none, none, none, oU, _⟩, rfl, rfl, rfl, ⟨⟨_, dU⟩, .head _, rfl, by simp, by simp⟩, fun _ _ => .inl hta, ?_, ?_⟩
  · rintro i ⟨pb, ps, pm, okd, oaf, opl, oU', D⟩ h tk p hi ⟨⟨v0, hU'⟩, hpD, hps, hpl, hpb⟩ hS Q1 hQ1
    try dsimp only at hS hU' hpD hps hpl hpb
    obtain ⟨ta2, hgv, sK, ul, um, us, hk1, hk2, hk3⟩ := hU.get i (by omega)
    rw [hgv]
    have htake : tks.take (i + 1) = tks.take i ++ [tks.getD i .run] := take_snoc tks i .run (by omega)
    generalize htk : tks.getD i .run = tkk at *
    refine r_unpack hS (S.kn hS _ _ (.inl hk1)) hO.hh rfl rfl fun h hS => ?_
    refine assignInOrder_cons (r_asgName (e_st hS (by rfl) (by rfl) (by rfl) (by rfl) fun h hS => ?_))
    refine assignInOrder_cons (r_asgName ?_)
    refine e_stc (pre := [p]) hS (by rfl) hU' (by rfl) (by rfl) fun h oU2 hU2 hS => ?_
    refine assignInOrder_nil ?_
    cases tkk with
    | run =>
      have hk1 : (ta2, to [.str (tx [114, 117, 110]) sK, .ref ul]) ∈ DD := hk1
      repeat walk_at "m"
      refine @r_if _ _ _ _ (fun _ => ?_) (fun hx => absurd rfl hx)
      repeat walk_at "m"
      refine r_truthyL (S.kn (by assumption) _ _ (.inr hpD)) (by simp [iv]; omega) fun tk => ?_
      cases ps with
      | nil =>
        rw [if_neg (by decide)]
        repeat walk_at "m"
        have hS := S.freeze (by assumption)
        refine ⟨⟨_, [], _, _, _, _, oU2, _⟩, _, _, rfl, hS, ⟨_, hU2⟩, .head _, ?_, by simp, by simp⟩
        rw [htake, List.foldl_append, ← hps]
        rfl
      | cons q qs =>
        have hq1 := hpb q (.head _)
        rw [if_pos (by rfl)]
        repeat walk_at "m"
        refine r_itemLv (v := .int (q.1 : Int) q.2) (S.kn (by assumption) _ _ (.inr hpD)) (by omega) (by simp [iv]) (by rw [show (iv (q :: qs)).length = (q :: qs).length from List.length_map _]; omega) rfl (by with_unfolding_all rfl) ?_
        repeat walk_at "m"
        refine r_range2 (by assumption) fun r t1 h tk hS => ?_
        repeat walk_at "m"
        refine r_listRange (a := q.1) (b := name.length + 1) hS hO.hh (get_D0 hS) (by omega) (by omega) fun acc l m3 h tk hl hS => ?_
        repeat walk_at "m"
        have hS := S.freeze (by assumption)
        refine ⟨⟨_, l, _, _, _, _, oU2, _⟩, _, _, rfl, hS, ⟨_, hU2⟩, .head _, ?_, ?_, ?_⟩
        · rw [htake, List.foldl_append, ← hps]
          exact hl
        · have := congrArg List.length hl
          rw [List.length_map, List.length_range'] at this
          try dsimp only
          omega
        · intro p hp
          have : p.1 ∈ List.range' q.1 (name.length + 1 - q.1) := by rw [← hl]; exact List.mem_map_of_mem hp
          have := List.mem_range'_1.mp this
          omega
    | one c =>
      have hk1 : (ta2, to [.str (tx [111, 110, 101]) sK, .ref ul]) ∈ DD := hk1
      repeat walk_at "m"
      refine @r_if _ _ _ _ (fun hx => absurd hx (show ¬ ([111, 110, 101] : List Nat) = [114, 117, 110] by decide)) (fun _ => ?_)
      repeat walk_at "m"
      refine @r_if _ _ _ _ (fun _ => ?_) (fun hx => absurd rfl hx)
      repeat walk_at "m"
      refine r_asgC (by with_unfolding_all rfl) ?_
      refine r_compCX (σ := Option Value × List (Nat × Tok) × List (Addr × Obj)) (by assumption) rfl (by decide) rfl (by decide) hO.hh ?_ (by intro _; with_unfolding_all rfl)
      intro Qj hQj
      repeat walk_at "m"
      refine ⟨pb, iv ps, pm, by simp [iv]; omega, _, _, _, _, _, rfl, by assumption, rfl, .inr hpD, [Str.ofString "place"], fun _ x => [x.1], fun _ _ => [p, (L + 1 + 1, oU2), (L + 1, oN)], fun _ x => x.2.2 ++ D,
        fun j x ys => ys = iv x.2.1 ∧ x.2.1.map (·.1) = (((ps.take j).map (·.1)).filter fun q => fitsL [c] name q).map (· + 1), (none, [], []), rfl, rfl, rfl, ⟨rfl, rfl⟩, fun _ _ => .inr (List.mem_append_right _ hpD), ?_, ?_⟩
      · rintro j ⟨w1, out, D2⟩ ys C h tk pp acc mm oL hj ⟨hys, hout⟩ hS
        try dsimp only at hS hys hout
        have hj' : j < ps.length := by simpa [iv] using hj
        rw [iv_getD hj']
        have htk1 : (ps.take (j + 1)).map (·.1) = (ps.take j).map (·.1) ++ [(ps.getD j (0, 0)).1] := by rw [take_snoc ps j (0, 0) hj', List.map_append]; rfl
        refine r_asgName (e_st hS (by rfl) (by rfl) (by rfl) (by rfl) fun h hS => ?_)
        refine wpAny_tests_one ?_
        repeat walk_at "m"
        refine r_call (n := n + 1) (by assumption) (fits_spec (S.top' (by assumption)) (fun q hq => S.kn (by assumption) _ _ (.inl hq)) hk2 hk3 (by simp [uns]) (by omega) (by omega)) hO ?_
        rintro v h tk Dn hS hv
        subst hv
        rw [← List.append_assoc] at hS
        repeat walk_at "m"
        cases hf : fitsL (uns (.one c)) name (ps.getD j (0, 0)).1 with
        | false =>
          rw [if_neg (by decide)]
          refine ⟨(_, out, _), _, _, rfl, hS, hys, ?_⟩
          have hf : fitsL [c] name (ps.getD j (0, 0)).1 = false := hf
          rw [htk1, List.filter_append, List.filter_cons_of_neg (by rw [hf]; decide), List.filter_nil, List.append_nil]
          exact hout
        | true =>
          rw [if_pos rfl]
          repeat walk_at "m"
          refine ⟨(_, out ++ [((ps.getD j (0, 0)).1 + 1, _)], _), _, _, rfl, by assumption, by rw [hys, iv_snoc]; rfl, ?_⟩
          have hf : fitsL [c] name (ps.getD j (0, 0)).1 = true := hf
          rw [htk1, List.filter_append, List.filter_cons_of_pos (by rw [hf]), List.filter_nil, List.map_append, List.map_append, hout]
          rfl
      · rintro ⟨w1, out, D2⟩ ys acc mm C oC h tk mC ⟨hys, hout⟩ hS hN
        try dsimp only at hS hys hout
        subst hys
        rw [show (iv ps).length = ps.length from List.length_map _, List.take_length] at hout
        refine r_useC hS hN (by rfl) (by rfl) (by rfl) (by rfl) fun h tk hS => ?_
        repeat walk_at "m"
        have hS := S.freeze (by assumption)
        refine ⟨⟨_, out, _, _, _, _, oU2, _⟩, _, _, rfl, hS, ⟨_, hU2⟩, .head _, ?_, ?_, ?_⟩
        · rw [htake, List.foldl_append, ← hps]
          exact hout
        · have h1 := congrArg List.length hout
          rw [List.length_map, List.length_map] at h1
          have h2 := List.length_filter_le (fun q => fitsL [c] name q) (ps.map (·.1))
          rw [List.length_map] at h2
          try dsimp only
          omega
        · intro q hq
          have h1 : q.1 ∈ out.map (·.1) := List.mem_map_of_mem hq
          rw [hout] at h1
          obtain ⟨r, hr, e⟩ := List.mem_map.mp h1
          have h2 := ((fitsL_iff _ _ _).mp (List.mem_filter.mp hr).2).1
          simp only [List.length_cons, List.length_nil] at h2
          omega
    | held cs =>
      have hk1 : (ta2, to [.str (tx [104, 101, 108, 100]) sK, .ref ul]) ∈ DD := hk1
      have hk3 : UnitsAt DD us cs := hk3
      have hul := hk3.len
      repeat walk_at "m"
      refine @r_if _ _ _ _ (fun hx => absurd hx (show ¬ ([104, 101, 108, 100] : List Nat) = [114, 117, 110] by decide)) (fun _ => ?_)
      repeat walk_at "m"
      refine @r_if _ _ _ _ (fun hx => absurd hx (show ¬ ([104, 101, 108, 100] : List Nat) = [111, 110, 101] by decide)) (fun _ => ?_)
      repeat walk_at "m"
      have hcl : cs.length ≤ 1000 := by
        have := hun i
        rw [htk] at this
        exact this
      refine r_forX (σ := HA) (by assumption) ?_ hO.hh (by intro _; with_unfolding_all rfl)
      intro Qj hQj
      repeat walk_at "m"
      refine ⟨pb, iv ps, pm, _, _, _, _, _, rfl, by assumption, rfl, .inr hpD, fun _ x => [some (.ref ta), some (.ref pb), some (.str (tx [104, 101, 108, 100]) sK), some (.ref x.af), x.pl], fun _ x => [(x.af, lo (iv x.out) x.m), p, (L + 1 + 1, oU2), (L + 1, oN)], fun _ x => x.D ++ D,
        fun j x => x.out.map (·.1) = ((ps.take j).map (·.1)).filterMap fun q => heldL cs name (name.length + 1) q, ⟨_, [], 0, opl, []⟩, rfl, rfl, rfl, rfl, fun _ _ => .inr (List.mem_append_right _ hpD), ?_, ?_⟩
      · rintro j ⟨af, out, m3, opl, D2⟩ h tk pi hj hout hS Q2 hQ2
        try dsimp only at hS hout
        have hj' : j < ps.length := by simpa [iv] using hj
        rw [iv_getD hj']
        have htk1 : (ps.take (j + 1)).map (·.1) = (ps.take j).map (·.1) ++ [(ps.getD j (0, 0)).1] := by rw [take_snoc ps j (0, 0) hj', List.map_append]; rfl
        have hq : (ps.getD j (0, 0)).1 ≤ name.length := hpb _ (by rw [List.getD_eq_getElem?_getD, List.getElem?_eq_getElem hj']; exact List.getElem_mem _)
        have hol : out.length ≤ 1000 := by
          have h1 := congrArg List.length hout
          have h2 := List.length_filterMap_le (fun q => heldL cs name (name.length + 1) q) ((ps.take j).map (·.1))
          rw [List.length_map] at h1
          rw [List.length_map, List.length_take] at h2
          omega
        generalize (ps.getD j (0, 0)).1 = q0 at *
        generalize (ps.getD j (0, 0)).2 = tq0 at *
        refine r_asgName (e_st hS (by rfl) (by rfl) (by rfl) (by rfl) fun h hS => ?_)
        walk_at "m"
        refine r_while (σ := Nat × Tok × List (Addr × Obj)) (fun x => [some (.ref ta), some (.ref pb), some (.str (tx [104, 101, 108, 100]) sK), some (.ref af), some (.int (x.1 : Int) x.2.1)]) (fun _ => [pi, (af, lo (iv out) m3), p, (L + 1 + 1, oU2), (L + 1, oN)]) (fun x => x.2.2 ++ D)
          (fun x => q0 ≤ x.1 ∧ x.1 ≤ name.length + 1 ∧ ∀ i, q0 ≤ i → i < x.1 → ¬ mat name cs i) (fun x => name.length + 1 - x.1) (q0, tq0, D2) (by assumption) ⟨Nat.le_refl _, by show q0 ≤ _; omega, fun i h1 h2 => absurd (show i < q0 from h2) (by omega)⟩ ?_
        rintro ⟨x, tx1, D3⟩ h tk hS ⟨hx1, hx2, hx3⟩ Q1 hQ1
        try dsimp only at hS hx1 hx2 hx3 ⊢
        repeat walk_at "m"
        refine r_lenL (S.kn (by assumption) _ _ (.inl hk2)) (by omega) ?_
        intro t5 tk5
        repeat walk_at "m"
        refine @r_if _ _ _ _ (fun hc => ?_) (fun hc => ?_)
        · repeat walk_at "m"
          refine r_call (n := n + 1) (by assumption) (fits_spec (S.top' (by assumption)) (fun q hq => S.kn (by assumption) _ _ (.inl hq)) hk2 hk3 hcl (by omega) (by omega)) hO ?_
          rintro v h tk Dn hS hv
          subst hv
          rw [← List.append_assoc] at hS
          repeat walk_at "m"
          have hxl : x + cs.length ≤ name.length := by omega
          cases hf : fitsL cs name x with
          | false =>
            have hnm : ¬ mat name cs x := fun q => by
              rw [(fitsL_iff cs name x).mpr ⟨hxl, q⟩] at hf
              cases hf
            rw [if_pos (by rfl)]
            repeat walk_at "m"
            refine ⟨(x + 1, _, _), _, _, rfl, by assumption, ⟨by show q0 ≤ x + 1; omega, by show x + 1 ≤ _; omega, fun i h1 h2 => ?_⟩, by show name.length + 1 - (x + 1) < name.length + 1 - x; omega⟩
            by_cases e : i = x
            · rw [e]; exact hnm
            · exact hx3 i h1 (by have h2 : i < x + 1 := h2; omega)
          | true =>
            have hmx := ((fitsL_iff cs name x).mp hf).2
            have hfind : findL name cs q0 name.length = some x := findL_some.mpr ⟨hx1, hxl, hmx, hx3⟩
            rw [if_neg (by decide)]
            repeat walk_at "m"
            refine r_lenL (S.kn (by assumption) _ _ (.inl hk2)) (by omega) ?_
            intro t5 tk5
            repeat walk_at "m"
            refine @r_if _ _ _ _ (fun hc2 => ?_) (fun hc2 => absurd hc hc2)
            repeat walk_at "m"
            refine r_gmApp (get_mu1 (by assumption)) ?_
            repeat walk_at "m"
            refine r_lenL (S.kn (by assumption) _ _ (.inl hk2)) (by omega) ?_
            intro t5 tk5
            repeat walk_at "m"
            refine r_app1 (by assumption) (by rw [iv_length]; omega) fun h hS => ?_
            repeat walk_at "m"
            refine ⟨⟨af, out ++ [(x + us.length, _)], _, _, Dn ++ D3⟩, _, _, rfl, by (dsimp only; rw [iv_snoc]; assumption), ?_⟩
            show List.map (fun p => p.1) (out ++ [(x + us.length, _)]) = _
            rw [htk1, List.filterMap_append, List.filterMap_cons, heldL_find cs name _ _ (by omega), hfind, List.map_append, hout, hul]
            rfl
        · have hfind : findL name cs q0 name.length = none := by
            cases hf : findL name cs q0 name.length with
            | none => rfl
            | some i =>
              obtain ⟨h1, h2, h3, h4⟩ := findL_some.mp hf
              exact absurd h3 (hx3 i h1 (by omega))
          repeat walk_at "m"
          refine r_lenL (S.kn (by assumption) _ _ (.inl hk2)) (by omega) ?_
          intro t5 tk5
          repeat walk_at "m"
          refine @r_if _ _ _ _ (fun hc2 => absurd hc2 hc) (fun hc2 => ?_)
          repeat walk_at "m"
          refine ⟨⟨af, out, _, _, D3⟩, _, _, rfl, by assumption, ?_⟩
          show out.map (·.1) = _
          rw [htk1, List.filterMap_append, List.filterMap_cons, heldL_find cs name _ _ (by omega), hfind, hout]
          simp
      · rintro ⟨af, out, m3, opl, D2⟩ h tk hout hS
        try dsimp only at hS hout
        rw [iv_length, List.take_length] at hout
        repeat walk_at "m"
        have hS := S.freeze (by assumption)
        refine ⟨⟨_, out, _, _, _, _, oU2, _⟩, _, _, rfl, hS, ⟨_, hU2⟩, .head _, ?_, ?_, ?_⟩
        · rw [htake, List.foldl_append, ← hps]
          exact hout
        · have h1 := congrArg List.length hout
          rw [List.length_map] at h1
          have h2 := List.length_filterMap_le (fun q => heldL cs name (name.length + 1) q) (ps.map (·.1))
          rw [List.length_map] at h2
          try dsimp only
          omega
        · intro q hq
          have h1 : q.1 ∈ out.map (·.1) := List.mem_map_of_mem hq
          rw [hout] at h1
          obtain ⟨r, hr, e⟩ := List.mem_filterMap.mp h1
          rw [heldL_find cs name _ _ (by omega)] at e
          cases hf : findL name cs r name.length with
          | none => rw [hf] at e; cases e
          | some z =>
            rw [hf] at e
            have h2 := (findL_some.mp hf).2.1
            have : z + cs.length = q.1 := by simpa using e
            omega
  · rintro ⟨pb, ps, pm, okd, oaf, opl, oU', D⟩ h tk ⟨⟨v0, hU'⟩, hpD, hps, hpl, hpb⟩ hS
    try dsimp only at hS hU' hpD hps hpl hpb
    repeat walk_at "m"
    rw [hvl, List.take_length] at hps
    refine in_list_ints (s := st s _ _) (ns := ps.map fun p => (p.1 : Int)) (isList_lo (S.kn (by assumption) _ _ (.inr hpD))) (iv_ints ps) ?_
    refine hQ0.le _ _ ⟨_, rfl, S.back (by assumption) ?_⟩
    unfold takesL
    rw [← hps]
    congr 1
    rw [Bool.eq_iff_iff]
    simp
    constructor
    · rintro ⟨a, ⟨x, hx⟩, e⟩
      have : a = name.length := by omega
      subst this
      exact ⟨x, hx⟩
    · rintro ⟨x, hx⟩
      exact ⟨_, ⟨x, hx⟩, rfl⟩
section
variable {prog : Program} {w : World} {A : Around} {s : Shared} {h : Heap} {tk : Nat} {E : Value → Shared → Prop} {Q : Value → Shared → Prop}
theorem t_fdiv {a b : Int} {t u : Tok} (hb : b ≠ 0) (hs : b.natAbs < 1073741824) (k : ∀ t' tk', Q (.int (a.fdiv b) t') (st s h tk')) : wpAny (model prog w) A (binaryOp .FloorDiv (.int a t) (.int b u)) Q E (st s h tk) :=
  floordiv_int (s := st s h tk) hb (k _ _) (Or.inl (PyProof.noPylong_small hs))
theorem t_fmod {a b : Int} {t u : Tok} (hb : b ≠ 0) (k : ∀ t' tk', Q (.int (a.fmod b) t') (st s h tk')) : wpAny (model prog w) A (binaryOp .Mod (.int a t) (.int b u)) Q E (st s h tk) :=
  mod_int' (s := st s h tk) hb (k _ _)
theorem t_chr {i : Int} {t : Tok} (h0 : 0 ≤ i) (h1 : i ≤ 1114111) (k : ∀ t' tk', Q (.str (tx [i.toNat]) t') (st s h tk')) : wpAny (model prog w) A (call (.builtin "chr") [.int i t]) Q E (st s h tk) :=
  chr_of_range (s := st s h tk) h0 h1 (k _ _)
end
theorem b_chr : bootBuiltins (Str.ofString "chr") = some (.builtin "chr") := by rfl
def tempt : List Nat := [97, 98, 46, 10, 42, 63, 91, 93, 92, 45, 33, 94, 36, 40, 43, 124]
theorem lit_p0 : Str.ofString "ab.\n*?[]\\-!^$(+|" = tx tempt := by decide
theorem lit_p1 : Str.ofString "aa" = tx [97, 97] := by decide
theorem lit_p2 : Str.ofString "a" = tx [97] := by decide
theorem lit_p3 : Str.ofString "b" = tx [98] := by decide
theorem lit_p4 : Str.ofString ".." = tx [46, 46] := by decide
theorem lit_p5 : Str.ofString "a...a" = tx [97, 46, 46, 46, 97] := by decide
theorem lit_p6 : Str.ofString "...a" = tx [46, 46, 46, 97] := by decide
local macro_rules | `(tactic| walk_at "m") => `(tactic| first
  | ((with_reducible refine t_fdiv ?m0 ?m1 ?_); (case m0 => decide); (case m1 => decide); intro t tk)
  | ((with_reducible refine t_fmod ?m0 ?_); (case m0 => decide); intro t tk)
  | ((with_reducible refine t_chr ?m0 ?m1 ?_); (case m0 => first | assumption | omega); (case m1 => first | assumption | omega); intro t tk)
  | ((with_reducible refine' e_ldb ?S ?m1 b_chr ?m2 ?m3 ?m4 ?m5 ?m6 ?m7 ?_); (case S => assumption); (case m2 => rfl); (case m3 => rfl); (case m4 => rfl); (case m5 => rfl); (case m1 => rfl); (case m6 => decide); (case m7 => decide))
  | ((with_reducible refine t_lit lit_p0 ?_); intro t tk)
  | ((with_reducible refine t_lit lit_p1 ?_); intro t tk)
  | ((with_reducible refine t_lit lit_p2 ?_); intro t tk)
  | ((with_reducible refine t_lit lit_p3 ?_); intro t tk)
  | ((with_reducible refine t_lit lit_p4 ?_); intro t tk)
  | ((with_reducible refine t_lit lit_p5 ?_); intro t tk)
  | ((with_reducible refine t_lit lit_p6 ?_); intro t tk))
theorem pair_spec {prog : Program} {w : World} {h : Heap} {k : Int} {t : Tok} {n : Nat} (T : TopOk w.params h) (hn : n ≤ 690) :
    Pure prog w n 114 [.int k t] h (fun D v => ∃ r a b t u, v = .ref r ∧ (r, to [.str (tx a) t, .str (tx b) u]) ∈ D ∧ a.length ≤ 5 ∧ b.length ≤ 5) := by
  refine enter (K0 := fun b o => False) (ns := [Str.ofString "number", Str.ofString "rest", Str.ofString "tempting", Str.ofString "code", Str.ofString "free"])
    (vs := [some (.int k t), none, none, none, none]) T (fun _ _ e => e.elim) rfl rfl (by show n < 1000; omega) rfl rfl rfl rfl ?_
  intro A L s h tk hO hS Q0 hQ0
  have htl : tempt.length = 16 := rfl
  have a1 := Int.fmod_nonneg_of_pos (k.fdiv 12) (b := 16) (by decide)
  have a2 := Int.fmod_lt_of_pos (k.fdiv 12) (b := 16) (by decide)
  have a3 := Int.fmod_nonneg_of_pos (k.fdiv 12) (b := 1112064) (by decide)
  have a4 := Int.fmod_lt_of_pos (k.fdiv 12) (b := 1112064) (by decide)
  have a5 := Int.fmod_nonneg_of_pos k (b := 12) (by decide)
  have a6 := Int.fmod_lt_of_pos k (b := 12) (by decide)
  repeat walk_at "m"
  have hj : (k.fmod 12).toNat < 12 := by omega
  refine @r_if _ _ _ _ (fun hc => ?_) (fun hc => ?_)
  all_goals (repeat walk_at "m")
  all_goals have hS := S.freeze (by assumption)
  all_goals refine r_itemL (get_D0 hS) a5 a6 (Nat.le_of_ble_eq_true rfl) (by with_unfolding_all rfl) ?_
  all_goals generalize (k.fmod 12).toNat = j at hj
  all_goals obtain rfl | rfl | rfl | rfl | rfl | rfl | rfl | rfl | rfl | rfl | rfl | rfl : j = 0 ∨ j = 1 ∨ j = 2 ∨ j = 3 ∨ j = 4 ∨ j = 5 ∨ j = 6 ∨ j = 7 ∨ j = 8 ∨ j = 9 ∨ j = 10 ∨ j = 11 := by omega
  all_goals exact hQ0.le _ _ ⟨_, rfl, S.back hS ⟨_, _, _, _, _, rfl, by walk_at "d", Nat.le_of_ble_eq_true rfl, Nat.le_of_ble_eq_true rfl⟩⟩
theorem lkv_of {binds : List (Str × Value)} {ns : List Str} {vs : List (Option Value)} (hvs : ns.map (fun x => binds.reverse.lookup x) = vs) (hns : (binds.all fun b => ns.contains b.1) = true) : lkv ns vs = fun x => binds.reverse.lookup x := by
  funext x
  rw [← hvs, lkv_map]
  split
  · rfl
  · rename_i hx
    refine (lookup_none_of fun b hb e => hx ?_).symm
    have := List.all_eq_true.mp hns b (List.mem_reverse.mp hb)
    rw [← e]
    exact List.contains_iff_mem.mp this
abbrev lns : List Str := [Str.ofString "script", Str.ofString "wants", Str.ofString "texts", Str.ofString "one", Str.ofString "other", Str.ofString "want", Str.ofString "tokens", Str.ofString "text"]
theorem S_start {P : Params} {g : Heap} {L a : Addr} {h : Heap} {p : Program} {loose : List Str} {mean : ExcName → Option Value} {mg mb : Str → Option Value} (X : (KK P).In g) (T : Top p loose mean mg mb g)
    (F : Fr g L h fun x => List.lookup x [(Str.ofString "script", Value.ref a)].reverse) (N : News g L h [(64, tabObj #[])]) :
    S P g (fun _ _ => False) L lns [some (.ref a), none, none, none, none, none, none, none] [(64, tabObj #[])] [] h := by
  refine ⟨⟨g, _, _, _, _, _, X, T, (N (64, tabObj #[]) (.head _)).2.2, fun _ _ e => e⟩, ?_, N, fun _ _ e => e.elim, fun _ _ _ hp => (nomatch hp), by simp⟩
  have e : lkv lns [some (.ref a), none, none, none, none, none, none, none] = fun x => List.lookup x [(Str.ofString "script", Value.ref a)].reverse := lkv_of (binds := [(Str.ofString "script", Value.ref a)]) rfl rfl
  rw [e]
  exact F
theorem law_post (a : List WData) : PySem.Challenge.rw_in0231_01.row.claim.post a (.bool true) a = true := by
  show (WShape.has [] (.bool true) .bool && WTm.holds [] (.eq .res (.lit (.bool true))) { args := a, res := some (.bool true), after := a }) = true
  have e1 : WShape.has [] (.bool true) .bool = true := by simp [WShape.has, WShape.arms]
  have e2 : WTm.value [] (.eq .res (.lit (.bool true))) { args := a, res := some (.bool true), after := a } = some (.bool true) := by
    simp only [WTm.value]
    simp [W.same]
  unfold WTm.holds
  rw [e1, e2]
  rfl
section
variable {prog : Program} {w : World} {A : Around} {s : Shared} {h : Heap} {tk : Nat} {P : Params} {g : Heap} {K0 : Addr → Obj → Prop} {L : Addr} {ns : List Str} {vs : List (Option Value)} {mu D : List (Addr × Obj)} {E : Value → Shared → Prop} {Q : Value → Shared → Prop}
theorem S.newD {h' : Heap} {c : Addr} {o : Obj} (hS : S P g K0 L ns vs mu D h) (hc : h.objs.size ≤ c) (F : Fr g L h' (lkv ns vs)) (N : News g L h' ((c, o) :: (mu ++ D))) : S P g K0 L ns vs mu ((c, o) :: D) h' := by
  have lt := hS.lt
  refine ⟨hS.T, F, fun p hp => N p ?_, hS.k0, fun p hp q hq => ?_, hS.nd⟩
  · rcases List.mem_append.mp hp with z | z
    · exact .tail _ (List.mem_append_left _ z)
    · rcases List.mem_cons.mp z with rfl | z
      · exact .head _
      · exact .tail _ (List.mem_append_right _ z)
  · rcases List.mem_cons.mp hq with rfl | z
    · exact Nat.ne_of_lt (Nat.lt_of_lt_of_le (lt p (List.mem_append_left _ hp)) hc)
    · exact hS.sep p hp q z
theorem r_sliceL {value slice : Expr} {l : Addr} {items : Array Value} {uj : Tok} {j : Int} (hS : S P g K0 L ns vs mu D h) (hl : h.IsList l items) (hsz : items.size ≤ 1000000)
    (hs : subscripted slice false (.ref l) (.ref h.objs.size) = operate [.ref h.objs.size, .ref l] (getItem (.ref l) (.ref h.objs.size)))
    (ht : ∀ r, letTemporaryGo value (.ref l) r = pure ())
    (k : ∀ b h', S P g K0 L ns vs mu ((b, lo (slicePick items none (some j) none).toList 0) :: D) h' → Q (.ref b) (st s h' tk)) :
    wpAny (model prog w) A (subscriptTail value slice (.ref l) (.ref h.objs.size)) Q E (st s (h.push { cls := .type "slice", data := .fields #[.none, .int j uj, .none] }) tk) :=
  slice_list (s := st s h tk) hS.fr hS.nw hl .none (.int j uj) (fun h' F N => k _ h' (hS.newD (Nat.le_succ _) F N)) hs ht (by rw [sizeLine_eq]; omega)
theorem r_addL {a b : Addr} {l1 l2 : List Value} {m1 m2 : Nat} (hS : S P g K0 L ns vs mu D h) (h1 : h.get? a = some (lo l1 m1)) (h2 : h.get? b = some (lo l2 m2)) (hl : l1.length + l2.length ≤ 1000000)
    (k : ∀ c h', S P g K0 L ns vs mu ((c, lo (l1 ++ l2) 0) :: D) h' → Q (.ref c) (st s h' tk)) : wpAny (model prog w) A (binaryOp .Add (.ref a) (.ref b)) Q E (st s h tk) :=
  add_lists (s := st s h tk) hS.fr hS.nw (isList_lo h1) (isList_lo h2) (fun h' F N => k _ h' (hS.newD (Nat.le_refl _) F N)) (by rw [sizeLine_eq]; omega)
end
section
variable {prog : Program} {w : World} {A : Around} {s : Shared} {h : Heap} {tk : Nat} {P : Params} {g : Heap} {K0 : Addr → Obj → Prop} {L : Addr} {ns : List Str} {vs : List (Option Value)} {mu D : List (Addr × Obj)}
  {nm : Str} {sc : Scope} {a : Addr} {cd : Value} {E : Value → Shared → Prop} {n : Nat} {cl : List (Str × Addr)} {env : Env}
end
def PairAt (D : List (Addr × Obj)) (v : Value) : Prop := ∃ r a b t u, v = .ref r ∧ (r, to [.str (tx a) t, .str (tx b) u]) ∈ D ∧ a.length ≤ 5 ∧ b.length ≤ 5
theorem PairAt.mono {D D' : List (Addr × Obj)} {v : Value} (h : PairAt D v) (k : ∀ p ∈ D, p ∈ D') : PairAt D' v :=
  let ⟨r, a, b, t, u, e, m, x, y⟩ := h; ⟨r, a, b, t, u, e, k _ m, x, y⟩
theorem ints_getD : ∀ {vs : List Value} {ns : List Int}, IntsAre vs ns → ∀ i < vs.length, ∃ z t, vs.getD i .none = .int z t
  | _, _, .nil, i, h => absurd h (Nat.not_lt_zero _)
  | _, _, .cons n t _, 0, _ => ⟨n, t, rfl⟩
  | _, _, .cons n t r, i + 1, h => by
    have := ints_getD r i (by simp only [List.length_cons] at h; omega)
    simpa using this
theorem mem_getD {α : Type} {l : List α} {i : Nat} {d : α} (h : i < l.length) : l.getD i d ∈ l := by
  rw [List.getD_eq_getElem?_getD, List.getElem?_eq_getElem h]
  exact List.getElem_mem _
theorem toksOf_len : ∀ l : List Nat, (toksOf l).length ≤ l.length
  | [] => Nat.le_refl _
  | [_] => Nat.le_refl _
  | [_, _] => Nat.le_refl _
  | a :: b :: c :: r => by
    rw [toksOf]
    split
    · have := toksOf_len r
      simp only [List.length_cons]; omega
    · have := toksOf_len (b :: c :: r)
      simp only [List.length_cons] at this ⊢; omega
theorem comp_len : ∀ l : List (Option Nat), (comp l).length ≤ l.length
  | [] => Nat.le_refl _
  | some c :: r => by
    have := comp_len r
    simp only [comp, List.length_cons]; omega
  | none :: r => by
    have := comp_len r
    unfold comp
    split
    · simp only [List.length_cons]; omega
    · simp only [List.length_cons]; omega
abbrev fl (rs : List (List Nat)) : List (Option Nat) := rs.flatMap fun r => none :: r.map some
theorem jl_fl : ∀ rs : List (List Nat), (jl rs).length ≤ 7 * (fl rs).length
  | [] => Nat.zero_le _
  | [r] => by
    have := fx_len r
    simp only [jl, fl, List.flatMap_cons, List.flatMap_nil, List.length_append, List.length_cons, List.length_nil, List.length_map]
    omega
  | r :: r2 :: rs => by
    have ih := jl_fl (r2 :: rs)
    have := fx_len r
    have e : (fl (r :: r2 :: rs)).length = r.length + 1 + (fl (r2 :: rs)).length := by
      unfold fl
      rw [List.flatMap_cons, List.length_append, List.length_cons, List.length_map]
    rw [e]
    simp only [jl, List.length_append, List.length_cons, List.length_nil] at ih ⊢
    omega
theorem fl_mem {rs : List (List Nat)} {r : List Nat} (h : r ∈ rs) : r.length ≤ (fl rs).length := by
  unfold fl
  induction rs with
  | nil => cases h
  | cons x y ih =>
    rw [List.flatMap_cons, List.length_append, List.length_cons, List.length_map]
    rcases List.mem_cons.mp h with rfl | h
    · omega
    · have := ih h; omega
theorem tkl_uns : ∀ (rs : List (List Nat)) (q : TK), q ∈ tkl rs → (uns q).length ≤ 1 ∨ ∃ r ∈ rs, uns q = r
  | [], q, h => by simp [tkl] at h
  | [r], q, h => by
    simp only [tkl, List.mem_cons, List.mem_map] at h
    rcases h with rfl | ⟨c, _, rfl⟩
    · exact .inl (Nat.zero_le _)
    · exact .inl (Nat.le_refl _)
  | r :: r2 :: rs, q, h => by
    rw [tkl] at h
    · rcases List.mem_cons.mp h with rfl | h
      · exact .inr ⟨r, .head _, rfl⟩
      · rcases tkl_uns (r2 :: rs) q h with z | ⟨x, hx, e⟩
        · exact .inl z
        · exact .inr ⟨x, .tail _ hx, e⟩
    · simp
theorem want_bounds (l : List Nat) (hl : l.length ≤ 100) : (joinT (runs (toksOf l)).1 (runs (toksOf l)).2).length ≤ 5000 ∧ (toks (runs (toksOf l)).1 (runs (toksOf l)).2).length ≤ 1000 ∧ ∀ i, (uns ((toks (runs (toksOf l)).1 (runs (toksOf l)).2).getD i .run)).length ≤ 1000 := by
  have h1 := comp_len (toksOf l)
  have h2 := toksOf_len l
  rw [comp_runs] at h1
  unfold flat at h1
  generalize (runs (toksOf l)).1 = r0 at *
  generalize (runs (toksOf l)).2 = rs at *
  rw [List.length_append, List.length_map] at h1
  have h1 : r0.length + (fl rs).length ≤ (toksOf l).length := h1
  have h3 := fx_len r0
  have h4 := jl_fl rs
  have h5 := toks_len r0 rs
  rw [List.length_append] at h5
  refine ⟨?_, by omega, fun i => ?_⟩
  · unfold joinT
    simp only [List.length_append, List.length_cons, List.length_nil]
    omega
  · by_cases hi : i < (toks r0 rs).length
    · have hm : (toks r0 rs).getD i .run ∈ toks r0 rs := by rw [List.getD_eq_getElem?_getD, List.getElem?_eq_getElem hi]; exact List.getElem_mem _
      generalize (toks r0 rs).getD i .run = q at hm
      unfold toks at hm
      rcases List.mem_append.mp hm with z | z
      · obtain ⟨c, _, rfl⟩ := List.mem_map.mp z
        show 1 ≤ 1000; omega
      · rcases tkl_uns rs q z with y | ⟨r, hr, e⟩
        · omega
        · rw [e]
          have := fl_mem hr
          omega
    · rw [List.getD_eq_getElem?_getD, List.getElem?_eq_none (by omega)]
      exact Nat.zero_le _
structure LA where
  one : Option Value
  other : Option Value
  ws : List (List Nat × Tok)
  ts : List (List Nat × Tok)
  mw : Nat
  mt : Nat
structure LB where
  want : Option Value
  tokens : Option Value
  text : Option Value
  ps : Array Value
  D : List (Addr × Obj)
theorem law_holds : PySem.Challenge.rw_in0231_01.Holds := hd ⟨left, (by
  k_go0
  rename Addr => sa
  rename_i h₁ X T K F N l0
  rename IntsAre _ _ => hI
  rename _ = #[] => hg
  rename ¬ _ < _ => hlen
  rename World => w
  rename Shared => s₁
  refine wpAny_mono (Q := fun f s' => ∃ h' tk' ps, f = .ret (.bool true) ∧ s' = st s₁ h' tk' ∧ h'.get? 64 = some (tabObj ps) ∧ (∀ b o, (ghostOf s₁.heap [(68, 64)]).get? b = some o → h'.get? b = some o)) (E := NoE) ?_ ?_ (fun _ _ (e : False) => e.elim)
  · have hS := S_start X T F N
    have hO : ∀ env, Okay 302 (callerA.deeper env) := fun env => ⟨Nat.le_of_ble_eq_true rfl, Nat.le_of_ble_eq_true rfl, rfl⟩
    clear F N X T K
    change wpAny _ _ _ _ _ (st s₁ h₁ _)
    try dsimp only
    refine r_abs fun Q0 hQ0 => ?_
    generalize hAe : callerA.deeper _ = A
    have hO : Okay 302 A := hAe ▸ hO _
    clear hAe
    repeat walk_at "m"
    rename_i t1 tk1 wa ha hSa hb hSb qb hqb t2 tk2 ta hc hSc hd2 hSd qc hqc
    clear hSa hSb hSc
    rename List Int => zs
    have hlen : zs.length ≤ 63 := by omega
    have hvl := hI.length
    refine r_forX (σ := LA) hSd ?_ hO.hh (by intro _; with_unfolding_all rfl)
    intro Qa hQa
    repeat walk_at "m"
    rw [eval_ListComp]
    refine r_compCX (use := none) (σ := Option Value × List (Addr × Obj)) hSd rfl (by decide) rfl (by decide) hO.hh ?_ (by intro _; with_unfolding_all rfl)
    intro Qb hQb
    repeat walk_at "m"
    refine r_sliceL hSd (let ⟨o, ho, r⟩ := lifted; ⟨o, hSd.fr.keep _ _ ho, r⟩) (by rw [List.size_toArray]; omega) (by with_unfolding_all rfl) (by intro _; with_unfolding_all rfl) fun sl h hS => ?_
    clear hSd
    have hI5 := slice_ints_uptoW hI (y := 5) (by decide)
    generalize (slicePick _ none (some 5) none).toList = its at hS hI5
    have hits : its.length ≤ 5 := by
      have := hI5.length
      rw [List.length_take] at this
      omega
    refine hQb.le _ _ ⟨sl, its, 0, by omega, h, _, _, _, _, rfl, hS, rfl, .inr (.head _), [Str.ofString "number"], fun _ x => [x.1], fun _ _ => [(ta, lo [.str (tx []) t2] 0), (wa, lo [.str (tx []) t1] 0), (64, tabObj #[])], fun _ x => x.2 ++ [(sl, lo its 0)],
      fun j x ys => ys.length = j ∧ ∀ y ∈ ys, PairAt x.2 y, (none, []), rfl, rfl, rfl, ⟨rfl, nofun⟩, fun _ _ => .inr (List.mem_append_right _ (.head _)), ?_, ?_⟩
    · rintro j ⟨w1, D2⟩ ys C h tk pp acc mm oL hj ⟨hyl, hys⟩ hS
      dsimp only at hS hys
      obtain ⟨z, tz, hz⟩ := ints_getD hI5 j hj
      rw [hz]
      refine r_asgName (e_st hS (by rfl) (by rfl) (by rfl) (by rfl) fun h hS => ?_)
      refine wpAny_tests_nil ?_
      rw [if_pos rfl]
      repeat walk_at "m"
      refine r_call (n := 302) (by assumption) (pair_spec (S.top' (by assumption)) (by omega)) hO ?_
      rintro v h tk Dn hS hv
      rw [← List.append_assoc] at hS
      refine ⟨(_, Dn ++ D2), _, _, rfl, hS, by rw [List.length_append, hyl]; rfl, fun y hy => ?_⟩
      rcases List.mem_append.mp hy with q | q
      · exact (hys y q).mono fun p hp => List.mem_append_right _ hp
      · rw [List.mem_singleton.mp q]
        obtain ⟨r, a, b, t, u, e, m, x1, x2⟩ := hv
        exact ⟨r, a, b, t, u, e, List.mem_append_left _ m, x1, x2⟩
    · rintro ⟨w1, D2⟩ ys acc mm C oC h tk mC ⟨hyl, hys⟩ hS hN
      refine ⟨mC, hN, fun h hs' => ?_⟩
      have hS := hS.dropBut hs'
      change wpAny _ _ _ _ _ (st s₁ h _)
      dsimp only at hS hys
      repeat walk_at "m"
      rename_i x1 y1 x2 y2 p1 h2 hS2 x3 y3 x4 y4 p2 h3 hS3 lb h4 hS4
      refine r_addL hS4 (get_mu1 hS4) (get_mu0 hS4) (by simp; omega) fun c h hS => ?_
      have hS := hS.drop.drop
      clear hS2 hS3 hS4
      have hall : ∀ y ∈ ys ++ [Value.ref p1, Value.ref p2], PairAt ((c, lo (ys ++ [Value.ref p1, Value.ref p2]) 0) :: (p2, to [.str (tx [46, 46, 46, 97]) x3, .str (tx [97]) x4]) :: (p1, to [.str (tx [97]) x1, .str (tx [97]) x2]) :: (D2 ++ [(sl, lo its 0)])) y := by
        intro y hy
        rcases List.mem_append.mp hy with q | q
        · exact (hys y q).mono fun p hp => .tail _ (.tail _ (.tail _ (List.mem_append_left _ hp)))
        · rcases List.mem_cons.mp q with rfl | q
          · exact ⟨_, _, _, _, _, rfl, .tail _ (.tail _ (.head _)), Nat.le_of_ble_eq_true rfl, Nat.le_of_ble_eq_true rfl⟩
          · rw [List.mem_singleton.mp q]
            exact ⟨_, _, _, _, _, rfl, .tail _ (.head _), Nat.le_of_ble_eq_true rfl, Nat.le_of_ble_eq_true rfl⟩
      have hlen2 : (ys ++ [Value.ref p1, Value.ref p2]).length ≤ 7 := by simp; omega
      have hcD : (c, lo (ys ++ [Value.ref p1, Value.ref p2]) 0) ∈ ((c, lo (ys ++ [Value.ref p1, Value.ref p2]) 0) :: (p2, to [.str (tx [46, 46, 46, 97]) x3, .str (tx [97]) x4]) :: (p1, to [.str (tx [97]) x1, .str (tx [97]) x2]) :: (D2 ++ [(sl, lo its 0)])) := .head _
      revert hcD hall hS
      generalize ((c, lo (ys ++ [Value.ref p1, Value.ref p2]) 0) :: (p2, to [.str (tx [46, 46, 46, 97]) x3, .str (tx [97]) x4]) :: (p1, to [.str (tx [97]) x1, .str (tx [97]) x2]) :: (D2 ++ [(sl, lo its 0)])) = D1
      revert hlen2
      generalize ys ++ [Value.ref p1, Value.ref p2] = its2
      intro hlen2 hS hall hcD
      refine hQa.le _ _ ⟨c, its2, 0, h, _, _, _, _, rfl, hS, rfl, .inr hcD, fun _ x => [some (.ref sa), some (.ref wa), some (.ref ta), x.one, x.other, none, none, none],
        fun _ x => [(ta, lo (sv x.ts) x.mt), (wa, lo (sv x.ws) x.mw), (64, tabObj #[])], fun _ _ => D1,
        fun i x => x.ws.length = i + 1 ∧ x.ts.length = i + 1 ∧ (∀ p ∈ x.ws, p.1.length ≤ 5 * i) ∧ ∀ p ∈ x.ts, p.1.length ≤ 5 * i,
        ⟨none, none, [([], t1)], [([], t2)], 0, 0⟩, rfl, rfl, rfl, ⟨rfl, rfl, by simp, by simp⟩, fun _ _ => .inr hcD, ?_, ?_⟩
      · rintro i ⟨one, other, ws, ts, mw, mt⟩ h tk p hi ⟨hw, ht, hwb, htb⟩ hS Q1 hQ1
        dsimp only at hS hw ht hwb htb
        obtain ⟨r, a, b, u1, u2, hr, hrD, ha, hb⟩ := hall (its2.getD i .none) (mem_getD hi)
        rw [hr]
        refine r_unpack hS (S.kn hS _ _ (.inr hrD)) hO.hh rfl rfl fun h hS => ?_
        refine assignInOrder_cons (r_asgName (e_st hS (by rfl) (by rfl) (by rfl) (by rfl) fun h hS => ?_))
        refine assignInOrder_cons (r_asgName (e_st hS (by rfl) (by rfl) (by rfl) (by rfl) fun h hS => ?_))
        refine assignInOrder_nil ?_
        obtain ⟨w0, qw, rfl⟩ := snoc_of (l := ws) (by intro e; rw [e] at hw; simp at hw)
        obtain ⟨s0, qt, rfl⟩ := snoc_of (l := ts) (by intro e; rw [e] at ht; simp at ht)
        have hqw := hwb qw (by simp)
        have hqt := htb qt (by simp)
        repeat walk_at "m"
        refine r_gmApp (get_mu2 (by assumption)) ?_
        repeat walk_at "m"
        refine r_itemLm1v (v := .str (tx qw.1) qw.2) (get_mu2 (by assumption)) (by simp [sv]) (by rw [sv_length]; omega) (by simp [sv]) (by with_unfolding_all rfl) ?_
        repeat walk_at "m"
        refine r_app2 (by assumption) (by rw [sv_length]; omega) fun h hS => ?_
        repeat walk_at "m"
        refine r_gmApp (get_mu1 (by assumption)) ?_
        repeat walk_at "m"
        refine r_itemLm1v (v := .str (tx qt.1) qt.2) (get_mu1 (by assumption)) (by simp [sv]) (by rw [sv_length]; omega) (by simp [sv]) (by with_unfolding_all rfl) ?_
        repeat walk_at "m"
        refine r_app1 (by assumption) (by rw [sv_length]; omega) fun h hS => ?_
        repeat walk_at "m"
        refine ⟨⟨_, _, (w0 ++ [qw]) ++ [(qw.1 ++ a, _)], (s0 ++ [qt]) ++ [(qt.1 ++ b, _)], _, _⟩, _, _, rfl, by (dsimp only; rw [sv_snoc (w0 ++ [qw]), sv_snoc (s0 ++ [qt])]; assumption), by rw [List.length_append, hw]; rfl, by rw [List.length_append, ht]; rfl, fun x hx => ?_, fun x hx => ?_⟩
        · rcases List.mem_append.mp hx with q | q
          · have := hwb x q; omega
          · rw [List.mem_singleton.mp q]
            show (qw.1 ++ a).length ≤ _
            rw [List.length_append]; omega
        · rcases List.mem_append.mp hx with q | q
          · have := htb x q; omega
          · rw [List.mem_singleton.mp q]
            show (qt.1 ++ b).length ≤ _
            rw [List.length_append]; omega
      · rintro ⟨one, other, ws, ts, mw, mt⟩ h tk ⟨hw, ht, hwb, htb⟩ hS
        dsimp only at hS hw ht hwb htb
        have hS := hS.freeze.freeze
        have hwa : (wa, lo (sv ws) mw) ∈ (wa, lo (sv ws) mw) :: (ta, lo (sv ts) mt) :: D1 := .head _
        have hta : (ta, lo (sv ts) mt) ∈ (wa, lo (sv ws) mw) :: (ta, lo (sv ts) mt) :: D1 := .tail _ (.head _)
        revert hS hwa hta
        generalize (wa, lo (sv ws) mw) :: (ta, lo (sv ts) mt) :: D1 = D0
        intro hS hwa hta
        try dsimp only
        repeat walk_at "m"
        refine r_forX (σ := LB) hS ?_ hO.hh (by intro _; with_unfolding_all rfl)
        intro Qc hQc
        repeat walk_at "m"
        refine ⟨wa, sv ws, mw, h, _, _, _, _, rfl, hS, rfl, .inr hwa, fun _ x => [some (.ref sa), some (.ref wa), some (.ref ta), one, other, x.want, x.tokens, x.text], fun _ x => [(64, tabObj x.ps)], fun _ x => x.D ++ D0, fun _ x => TabI x.ps, ⟨none, none, none, #[], []⟩, rfl, rfl, rfl, trivial, fun _ _ => .inr (List.mem_append_right _ hwa), ?_, ?_⟩
        · rintro i ⟨want, tokens, text, ps, D3⟩ h tk p hi hps hS Q1 hQ1
          dsimp only at hS hps
          have hi' : i < ws.length := by rw [sv_length] at hi; exact hi
          rw [sv_getD hi']
          have hwl := hwb _ (mem_getD (d := ([], 0)) hi')
          generalize (ws.getD i ([], 0)).1 = wl at hwl ⊢
          generalize (ws.getD i ([], 0)).2 = wt
          have hwl : wl.length ≤ 35 := by omega
          have hbd := want_bounds wl (by omega)
          have htl := toksOf_len wl
          refine r_asgName (e_st hS (by rfl) (by rfl) (by rfl) (by rfl) fun h hS => ?_)
          repeat walk_at "m"
          refine r_call (n := 302) hS (pattern_spec (S.top' hS) (by omega) (by omega)) hO ?_
          rintro v h tk Dn1 hS ⟨tp, rfl⟩
          rw [patL_enc]
          rw [← List.append_assoc] at hS
          repeat walk_at "m"
          have hS := hS.swap
          refine r_callT (n := 302) hS (translate_spec (S.top' hS) (S.mem hS (.head _)) hps (by omega) (by omega)) hO ?_
          rintro v h tk Dn2 ps' hps' hS ⟨tp2, rfl⟩
          have hS := hS.swap
          rw [← List.append_assoc] at hS
          repeat walk_at "m"
          refine r_call (n := 302) hS (tokens_spec (S.top' hS) hbd.1 (by omega)) hO ?_
          rintro v h tk Dn3 hS ⟨ka, km, kv, rfl, hka, hkt⟩
          rw [← List.append_assoc] at hS
          have hsub : ∀ q ∈ Dn3, q ∈ Dn3 ++ (Dn2 ++ (Dn1 ++ D3)) := fun q hq => List.mem_append_left _ hq
          revert hS hsub
          generalize Dn3 ++ (Dn2 ++ (Dn1 ++ D3)) = D4
          intro hS hsub
          repeat walk_at "m"
          refine r_forX (σ := Option Value × List (Addr × Obj)) (by assumption) ?_ hO.hh (by intro _; with_unfolding_all rfl)
          intro Qd hQd
          repeat walk_at "m"
          refine ⟨ta, sv ts, mt, _, _, _, _, _, rfl, by assumption, rfl, .inr (List.mem_append_right _ hta), fun _ x => [some (.ref sa), some (.ref wa), some (.ref ta), one, other, some (.str (tx wl) wt), some (.ref ka), x.1], fun _ _ => [p, (64, tabObj ps')], fun _ x => x.2 ++ (D4 ++ D0), fun _ _ => True, (text, []), rfl, rfl, rfl, trivial, fun _ _ => .inr (List.mem_append_right _ (List.mem_append_right _ hta)), ?_, ?_⟩
          · rintro j ⟨tx0, D5⟩ h tk p2 hj - hS Q2 hQ2
            dsimp only at hS
            have hj' : j < ts.length := by rw [sv_length] at hj; exact hj
            rw [sv_getD hj']
            have htl2 := htb _ (mem_getD (d := ([], 0)) hj')
            generalize (ts.getD j ([], 0)).1 = tl at htl2 ⊢
            generalize (ts.getD j ([], 0)).2 = tt
            have htl2 : tl.length ≤ 35 := by omega
            refine r_asgName (e_st hS (by rfl) (by rfl) (by rfl) (by rfl) fun h hS => ?_)
            repeat walk_at "m"
            refine r_call (n := 302) hS (ell_spec (S.top' hS) (by omega) (by omega) (by omega)) hO ?_
            rintro v h tk Dn hS hv
            subst hv
            rw [← List.append_assoc] at hS
            repeat walk_at "m"
            refine r_call (n := 302) hS (takes_spec (DD := Dn3) (S.top' hS) (fun q hq => S.kn hS q.1 q.2 (.inr (List.mem_append_right _ (List.mem_append_left _ (hsub q hq))))) hka hkt hbd.2.1 hbd.2.2 (by omega) (by omega)) hO ?_
            rintro v h tk Dn' hS hv
            subst hv
            rw [← List.append_assoc] at hS
            rw [← plain_law]
            refine wpAny_isNot_self (by rfl) ?_
            repeat walk_at "m"
            exact ⟨(_, Dn' ++ (Dn ++ D5)), _, _, rfl, hS, trivial⟩
          · rintro ⟨tx0, D5⟩ h tk - hS
            dsimp only at hS
            try dsimp only
            repeat walk_at "m"
            rw [← List.append_assoc] at hS
            exact ⟨⟨_, _, _, ps', D5 ++ D4⟩, _, _, rfl, hS, hps'⟩
        · rintro ⟨want, tokens, text, ps, D3⟩ h tk hps hS
          dsimp only at hS hps
          try dsimp only
          repeat walk_at "m"
          exact ⟨h, _, ps, rfl, rfl, S.mem hS (.head _), hS.fr.keep⟩
  · rintro f s' ⟨h', tk', ps, rfl, rfl, h64, hk⟩
    refine ⟨⟨.inl ⟨.bool true, .bool true, [], rfl, fun _ => rfl, .bool _, law_post _, fun _ => ⟨List.nodup_nil, nofun⟩⟩, hk, rfl, hg⟩, ⟨ps, h64⟩, trivial⟩)⟩
end Mine
theorem PySem.Challenge.cw_in0231_01_holds : PySem.Challenge.rw_in0231_01.Holds :=
  Mine.law_holds
